import JvmDerived
import JvmDerived.Pilot.@@N@@Statement
import JvmDerived.Pilot.@@N@@Code
set_option linter.unusedVariables false
set_option linter.unusedSimpArgs false
namespace Jvm.RoadKit
open Sem ClassFile Op Lib Jvm.Stand Jvm.Free Jvm.LawKit
section New
variable {p : Program} {l : Launch} {e : Env} {R : Room} {s : State} {m : MethodId} {args : Array Value} {below : List Frame} {meth : Method} {c : Code} {T : State} {locs : List Loc} {cells slots : Nat}
theorem retI (X : Stand p l e R s m args below meth c T locs cells slots) (hx : p.tables.exec = Jvm.exec) {pc : Nat} {Ls : Array Slot} {z : Int32} {rest : List Value} (hret : meth.sig.returnType = some .int) (hd : decode c.code pc = .ok (.ireturn, 1)) {fs : List Frame}
    (hl : ∀ (f : JFrame) (acts : List Action), f.method = m → f.locked = none → f.entered = [] → (doReturn e (T.setTop f) acts (some (.int z))).1 = T.setFrames fs) : Steps p.tables e below (T.setTop (mkF m pc Ls (.int z :: rest))) (T.setFrames fs) := by
  have hm' : T.vm.method? m = some meth := X.method'
  have hn : narrow .int (.int z) = .int z := rfl
  show Steps p.tables e below (T.setTop { method := m, pc := pc, locals := Ls, stack := _ :: rest, locked := none }) _
  jvm_step X.here [X.here.top, hx, hd, hm', hret, hn]
  first | (intro acts; rw [hl _ acts rfl rfl rfl]) | rw [hl _ _ rfl rfl rfl]
  exact Steps.refl _
theorem own_retL (X : Stand p l e R s m args below meth c T locs cells slots) (hx : p.tables.exec = Jvm.exec) {pc : Nat} {Ls : Array Slot} {z : Int64} {rest : List Value} (hret : meth.sig.returnType = some .long) (hd : decode c.code pc = .ok (.lreturn, 1)) {fs : List Frame}
    (hl : ∀ (f : JFrame) (acts : List Action), f.method = m → f.locked = none → f.entered = [] → (doReturn e (T.setTop f) acts (some (.long z))).1 = T.setFrames fs) : Steps p.tables e below (T.setTop (mkF m pc Ls (.long z :: rest))) (T.setFrames fs) :=
  retOut X hx hret rfl (Or.inr (Or.inl ⟨rfl, rfl, z, rfl⟩)) hd hl
/-- from the state T with the frame g on top the run comes to the invocation's end, returns v, and Q and the frame's bounds hold there -/
def own_Goes (p : Program) (e : Env) (below : List Frame) (s : State) (Q : Option Value → Heap → List Loc → Prop) (k n : Nat) (T : State) (g : JFrame) : Prop :=
  ∃ s₂ o, Steps p.tables e below (T.setTop g) s₂ ∧ s₂.status = .running ∧ Ended s₂ below o ∧ ∃ v L, o = .returned v ∧ Q v s₂.heap L ∧ FrameEnd s o s₂ L k n
theorem own_step {Q : Option Value → Heap → List Loc → Prop} {k n : Nat} {T T' : State} {g g' : JFrame} (h : ∀ t, Steps p.tables e below (T'.setTop g') t → Steps p.tables e below (T.setTop g) t) (w : own_Goes p e below s Q k n T' g') : own_Goes p e below s Q k n T g := by
  obtain ⟨s₂, o, h1, r⟩ := w
  exact ⟨s₂, o, h _ h1, r⟩
theorem own_ret {x : MethodName} {S : Spec} {code : ByteArray} {maxLocals : Nat} {ret : Option FieldType} {s₁ : State} (X : Stand p l e R s m args below meth c T locs cells slots) (Bd : BodyLoose p l x S code maxLocals ret e s m args below meth c s₁) {v : Option Value} (hv : meth.sig.returnType = none → v = none) {g : JFrame}
    (hst : ∀ fs, (∀ (f : JFrame) (acts : List Action), f.method = m → f.locked = none → f.entered = [] → (doReturn e (T.setTop f) acts v).1 = T.setFrames fs) → Steps p.tables e below (T.setTop g) (T.setFrames fs)) {Q : Option Value → Heap → List Loc → Prop} (hQ : Q v T.heap locs) {k n : Nat} (hk : cells ≤ k) (hn : slots ≤ n) : own_Goes p e below s Q k n T g := by
  obtain ⟨fs, hr, hrun, hended, hW, hsame⟩ := X.leave (v := v) hv
  exact ⟨_, _, hst fs hr, hrun, hended, _, _, rfl, hQ, ⟨_, rfl⟩, hW, hsame.mono hk hn⟩
/-- what a body leaves that writes nothing: the value r, the heap as it was -/
def own_Pure (r : Value) (h0 : Heap) (n0 : Nat) (v : Option Value) (h : Heap) (L : List Loc) : Prop := v = some r ∧ Fr n0 L ∧ h = h0
/-- what the law leaves -/
def own_Law (n0 : Nat) (v : Option Value) (_ : Heap) (L : List Loc) : Prop := v = some (.int 1) ∧ Fr n0 L
end New
theorem own_getD (ws : List Int32) (i : Nat) : (ws.map Value.int).getD i (.int (0 : Int32)) = .int (ws.getD i (0 : Int32)) := by
  induction ws generalizing i with
  | nil => rfl
  | cons a r ih => cases i with
    | zero => rfl
    | succ j => exact ih j
end Jvm.RoadKit
namespace Jvm.Pilot.@@N@@
open Jvm Jvm.ClassFile Sem Op Lib Jvm.Free Jvm.Stand Jvm.LawKit Jvm.RoadKit Bundle Jvm.Pilot.@@N@@.Jvm.D
theorem pd_0 : parseMethodDescriptor "(I)Z" = some ⟨[.int], some .boolean⟩ := by decide +kernel
theorem d1_0 : decode prog_49_method_9_code 0 = .ok (.iload_n 0, 1) := by decide +kernel
theorem d1_1 : decode prog_49_method_9_code 1 = .ok (.bipush 9, 2) := by decide +kernel
theorem d1_3 : decode prog_49_method_9_code 3 = .ok (.if_icmp .eq 51, 3) := by decide +kernel
theorem d1_6 : decode prog_49_method_9_code 6 = .ok (.iload_n 0, 1) := by decide +kernel
theorem d1_7 : decode prog_49_method_9_code 7 = .ok (.bipush 10, 2) := by decide +kernel
theorem d1_9 : decode prog_49_method_9_code 9 = .ok (.if_icmp .eq 45, 3) := by decide +kernel
theorem d1_12 : decode prog_49_method_9_code 12 = .ok (.iload_n 0, 1) := by decide +kernel
theorem d1_13 : decode prog_49_method_9_code 13 = .ok (.bipush 13, 2) := by decide +kernel
theorem d1_15 : decode prog_49_method_9_code 15 = .ok (.if_icmp .eq 39, 3) := by decide +kernel
theorem d1_18 : decode prog_49_method_9_code 18 = .ok (.iload_n 0, 1) := by decide +kernel
theorem d1_19 : decode prog_49_method_9_code 19 = .ok (.bipush 32, 2) := by decide +kernel
theorem d1_21 : decode prog_49_method_9_code 21 = .ok (.if_icmp .lt 9, 3) := by decide +kernel
theorem d1_24 : decode prog_49_method_9_code 24 = .ok (.iload_n 0, 1) := by decide +kernel
theorem d1_25 : decode prog_49_method_9_code 25 = .ok (.ldc 64, 2) := by decide +kernel
theorem d1_27 : decode prog_49_method_9_code 27 = .ok (.if_icmp .le 27, 3) := by decide +kernel
theorem d1_30 : decode prog_49_method_9_code 30 = .ok (.iload_n 0, 1) := by decide +kernel
theorem d1_31 : decode prog_49_method_9_code 31 = .ok (.ldc 65, 2) := by decide +kernel
theorem d1_33 : decode prog_49_method_9_code 33 = .ok (.if_icmp .lt 9, 3) := by decide +kernel
theorem d1_36 : decode prog_49_method_9_code 36 = .ok (.iload_n 0, 1) := by decide +kernel
theorem d1_37 : decode prog_49_method_9_code 37 = .ok (.ldc 66, 2) := by decide +kernel
theorem d1_39 : decode prog_49_method_9_code 39 = .ok (.if_icmp .le 15, 3) := by decide +kernel
theorem d1_42 : decode prog_49_method_9_code 42 = .ok (.iload_n 0, 1) := by decide +kernel
theorem d1_43 : decode prog_49_method_9_code 43 = .ok (.ldc 67, 2) := by decide +kernel
theorem d1_45 : decode prog_49_method_9_code 45 = .ok (.if_icmp .lt 13, 3) := by decide +kernel
theorem d1_48 : decode prog_49_method_9_code 48 = .ok (.iload_n 0, 1) := by decide +kernel
theorem d1_49 : decode prog_49_method_9_code 49 = .ok (.ldc 68, 2) := by decide +kernel
theorem d1_51 : decode prog_49_method_9_code 51 = .ok (.if_icmp .gt 7, 3) := by decide +kernel
theorem d1_54 : decode prog_49_method_9_code 54 = .ok (.iconst 1, 1) := by decide +kernel
theorem d1_55 : decode prog_49_method_9_code 55 = .ok (.goto 4, 3) := by decide +kernel
theorem d1_58 : decode prog_49_method_9_code 58 = .ok (.iconst 0, 1) := by decide +kernel
theorem d1_59 : decode prog_49_method_9_code 59 = .ok (.ireturn, 1) := by decide +kernel
theorem pn_1 : plainName "com/example/willow_graft/willowgraft/tree/XmlNames" = true := by first | (simp [plainName, overriddenIn]; done) | decide +kernel
theorem ef_1 (m : MethodId) (x0 : Int32) : entryFrame m #[(.int x0)] 1 = mkF m 0 #[.val (.int x0)] [] := by first | (simp [entryFrame, mkF, argsToLocals, Value.category]; done) | rfl
def f1_59 (t0 : Int32) : Int32 := (t0 &&& 1)
def f1_58 : Int32 := f1_59 (0 : Int32)
def f1_54 : Int32 := f1_59 (1 : Int32)
def f1_48 (x0 : Int32) : Int32 := if (1114111 : Int32) < x0 then f1_58 else f1_54
def f1_42 (x0 : Int32) : Int32 := if x0 < (65536 : Int32) then f1_58 else f1_48 x0
def f1_36 (x0 : Int32) : Int32 := if (65533 : Int32) < x0 then f1_42 x0 else f1_54
def f1_30 (x0 : Int32) : Int32 := if x0 < (57344 : Int32) then f1_42 x0 else f1_36 x0
def f1_24 (x0 : Int32) : Int32 := if (55295 : Int32) < x0 then f1_30 x0 else f1_54
def f1_18 (x0 : Int32) : Int32 := if x0 < (32 : Int32) then f1_30 x0 else f1_24 x0
def f1_12 (x0 : Int32) : Int32 := if x0 = (13 : Int32) then f1_54 else f1_18 x0
def f1_6 (x0 : Int32) : Int32 := if x0 = (10 : Int32) then f1_54 else f1_12 x0
def f1_0 (x0 : Int32) : Int32 := if x0 = (9 : Int32) then f1_54 else f1_6 x0
theorem d2_0 : decode method_2_code 0 = .ok (.iload_n 0, 1) := by decide +kernel
theorem d2_1 : decode method_2_code 1 = .ok (.ifCond .lt 9, 3) := by decide +kernel
theorem d2_4 : decode method_2_code 4 = .ok (.iload_n 0, 1) := by decide +kernel
theorem d2_5 : decode method_2_code 5 = .ok (.ldc 7, 2) := by decide +kernel
theorem d2_7 : decode method_2_code 7 = .ok (.if_icmp .le 5, 3) := by decide +kernel
theorem d2_10 : decode method_2_code 10 = .ok (.iconst 0, 1) := by decide +kernel
theorem d2_11 : decode method_2_code 11 = .ok (.ireturn, 1) := by decide +kernel
theorem d2_12 : decode method_2_code 12 = .ok (.iload_n 0, 1) := by decide +kernel
theorem d2_13 : decode method_2_code 13 = .ok (.bipush 32, 2) := by decide +kernel
theorem d2_15 : decode method_2_code 15 = .ok (.if_icmp .ge 27, 3) := by decide +kernel
theorem d2_18 : decode method_2_code 18 = .ok (.iload_n 0, 1) := by decide +kernel
theorem d2_19 : decode method_2_code 19 = .ok (.bipush 9, 2) := by decide +kernel
theorem d2_21 : decode method_2_code 21 = .ok (.if_icmp .eq 15, 3) := by decide +kernel
theorem d2_24 : decode method_2_code 24 = .ok (.iload_n 0, 1) := by decide +kernel
theorem d2_25 : decode method_2_code 25 = .ok (.bipush 10, 2) := by decide +kernel
theorem d2_27 : decode method_2_code 27 = .ok (.if_icmp .eq 9, 3) := by decide +kernel
theorem d2_30 : decode method_2_code 30 = .ok (.iload_n 0, 1) := by decide +kernel
theorem d2_31 : decode method_2_code 31 = .ok (.bipush 13, 2) := by decide +kernel
theorem d2_33 : decode method_2_code 33 = .ok (.if_icmp .ne 7, 3) := by decide +kernel
theorem d2_36 : decode method_2_code 36 = .ok (.iconst 1, 1) := by decide +kernel
theorem d2_37 : decode method_2_code 37 = .ok (.goto 4, 3) := by decide +kernel
theorem d2_40 : decode method_2_code 40 = .ok (.iconst 0, 1) := by decide +kernel
theorem d2_41 : decode method_2_code 41 = .ok (.ireturn, 1) := by decide +kernel
theorem d2_42 : decode method_2_code 42 = .ok (.iload_n 0, 1) := by decide +kernel
theorem d2_43 : decode method_2_code 43 = .ok (.ldc 8, 2) := by decide +kernel
theorem d2_45 : decode method_2_code 45 = .ok (.if_icmp .lt 11, 3) := by decide +kernel
theorem d2_48 : decode method_2_code 48 = .ok (.iload_n 0, 1) := by decide +kernel
theorem d2_49 : decode method_2_code 49 = .ok (.ldc 9, 2) := by decide +kernel
theorem d2_51 : decode method_2_code 51 = .ok (.if_icmp .gt 5, 3) := by decide +kernel
theorem d2_54 : decode method_2_code 54 = .ok (.iconst 0, 1) := by decide +kernel
theorem d2_55 : decode method_2_code 55 = .ok (.ireturn, 1) := by decide +kernel
theorem d2_56 : decode method_2_code 56 = .ok (.iload_n 0, 1) := by decide +kernel
theorem d2_57 : decode method_2_code 57 = .ok (.ldc 10, 2) := by decide +kernel
theorem d2_59 : decode method_2_code 59 = .ok (.if_icmp .eq 9, 3) := by decide +kernel
theorem d2_62 : decode method_2_code 62 = .ok (.iload_n 0, 1) := by decide +kernel
theorem d2_63 : decode method_2_code 63 = .ok (.ldc 11, 2) := by decide +kernel
theorem d2_65 : decode method_2_code 65 = .ok (.if_icmp .ne 5, 3) := by decide +kernel
theorem d2_68 : decode method_2_code 68 = .ok (.iconst 0, 1) := by decide +kernel
theorem d2_69 : decode method_2_code 69 = .ok (.ireturn, 1) := by decide +kernel
theorem d2_70 : decode method_2_code 70 = .ok (.iconst 1, 1) := by decide +kernel
theorem d2_71 : decode method_2_code 71 = .ok (.ireturn, 1) := by decide +kernel
theorem pn_2 : plainName "com/example/willow_graft/willowgraft/tree/XmlNamesIsCharPinLaw" = true := by first | (simp [plainName, overriddenIn]; done) | decide +kernel
theorem ef_2 (m : MethodId) (x0 : Int32) : entryFrame m #[(.int x0)] 1 = mkF m 0 #[.val (.int x0)] [] := by first | (simp [entryFrame, mkF, argsToLocals, Value.category]; done) | rfl
def f2_70 : Int32 := ((1 : Int32) &&& 1)
def f2_68 : Int32 := ((0 : Int32) &&& 1)
def f2_62 (x0 : Int32) : Int32 := if x0 = (65535 : Int32) then f2_68 else f2_70
def f2_56 (x0 : Int32) : Int32 := if x0 = (65534 : Int32) then f2_68 else f2_62 x0
def f2_54 : Int32 := ((0 : Int32) &&& 1)
def f2_48 (x0 : Int32) : Int32 := if (57343 : Int32) < x0 then f2_56 x0 else f2_54
def f2_42 (x0 : Int32) : Int32 := if x0 < (55296 : Int32) then f2_56 x0 else f2_48 x0
def f2_41 (t0 : Int32) : Int32 := (t0 &&& 1)
def f2_40 : Int32 := f2_41 (0 : Int32)
def f2_36 : Int32 := f2_41 (1 : Int32)
def f2_30 (x0 : Int32) : Int32 := if x0 = (13 : Int32) then f2_36 else f2_40
def f2_24 (x0 : Int32) : Int32 := if x0 = (10 : Int32) then f2_36 else f2_30 x0
def f2_18 (x0 : Int32) : Int32 := if x0 = (9 : Int32) then f2_36 else f2_24 x0
def f2_12 (x0 : Int32) : Int32 := if x0 < (32 : Int32) then f2_18 x0 else f2_42 x0
def f2_10 : Int32 := ((0 : Int32) &&& 1)
def f2_4 (x0 : Int32) : Int32 := if (1114111 : Int32) < x0 then f2_10 else f2_12 x0
def f2_0 (x0 : Int32) : Int32 := if x0 < (0 : Int32) then f2_10 else f2_4 x0
theorem pn_0 : plainName "com/example/willow_graft/willowgraft/tree/XmlNamesIsCharPinLaw" = true := by first | (simp [plainName, overriddenIn]; done) | decide +kernel
theorem ef_0 (m : MethodId) (x0 : Int32) (x1 : Int32) (x2 : Int32) : entryFrame m #[(.int x0), (.int x1), (.int x2)] maxLocals = mkF m 0 #[.val (.int x0), .val (.int x1), .val (.int x2), .unset, .unset, .unset, .unset] [] := by first | (simp [entryFrame, mkF, argsToLocals, Value.category, maxLocals]; done) | rfl
def own_a0_126 : List Int32 := [0, 9, 10, 11, 13, 14, 31, 32, 55295, 55296, 57343, 57344, 65533, 65534, 65535, 65536, 1114111, 1114112, -2147483648, 2147483647]
def f0_188 (t0 : Int32) : Int32 := (t0 &&& 1)
def f0_187 : Int32 := f0_188 (0 : Int32)
def f0_183 : Int32 := f0_188 (1 : Int32)
def f0_178 (x6 : Int32) : Int32 := if x6 = (0 : Int32) then f0_187 else f0_183
def f0_171 (x5 : Int32) (t0 : Int32) : Int32 := if x5 = (0 : Int32) then f0_187 else f0_178 t0
def f0_170 (x5 : Int32) : Int32 := f0_171 x5 (0 : Int32)
def f0_166 (x5 : Int32) : Int32 := f0_171 x5 (1 : Int32)
def f0_151 (x4 : Int32) (t0 : Int32) : Int32 := if (f1_0 x4) = (f2_0 x4) then f0_166 t0 else f0_170 t0
def f0_150 (x4 : Int32) : Int32 := f0_151 x4 (0 : Int32)
def f0_146 (x4 : Int32) : Int32 := f0_151 x4 (1 : Int32)
def f0_135 (x0 : Int32) (x4 : Int32) : Int32 := if (f1_0 x0) = (f2_0 x0) then f0_146 x4 else f0_150 x4
def f0_0 (x0 : Int32) (x1 : Int32) (x2 : Int32) : Int32 := f0_135 x0 ((own_a0_126.getD ((x1 &&& (2147483647 : Int32)) % (20 : Int32)).toNatClampNeg (0 : Int32)) + ((x2 &&& (3 : Int32)) - (1 : Int32)))
-- the plain law: no program in sight
theorem own_mask (k : Int32) : 0 ≤ (k &&& (2147483647 : Int32)).toInt := by
  have e : (k &&& (2147483647 : Int32)).toInt = ((k.toBitVec &&& 2147483647#32).toNat : Int) := by
    show (k.toBitVec &&& 2147483647#32).toInt = _
    rw [BitVec.toInt_eq_toNat_of_lt]
    have h1 := BitVec.toNat_and k.toBitVec 2147483647#32
    have h2 : (k.toBitVec.toNat &&& 2147483647) ≤ 2147483647 := Nat.and_le_right
    rw [h1]
    show 2 * (k.toBitVec.toNat &&& 2147483647) < 2 ^ 32
    omega
  omega
theorem own_in0_126 (k : Int32) : ¬ ((k &&& (2147483647 : Int32)) % (20 : Int32)) < 0 ∧ ((k &&& (2147483647 : Int32)) % (20 : Int32)) < (20 : Int32) := by
  have h := own_mask k
  have e : ((k &&& (2147483647 : Int32)) % (20 : Int32)).toInt = (k &&& (2147483647 : Int32)).toInt.tmod 20 := Int32.toInt_mod ..
  have e2 : (k &&& (2147483647 : Int32)).toInt.tmod 20 = (k &&& (2147483647 : Int32)).toInt % 20 := Int.tmod_eq_emod_of_nonneg h
  simp only [Int32.lt_iff_toInt_lt, Int32.reduceToInt, e, e2]
  omega
theorem own_same (c : Int32) : f1_0 c = f2_0 c := by
  simp only [f1_0, f1_6, f1_12, f1_18, f1_24, f1_30, f1_36, f1_42, f1_48, f1_54, f1_58, f1_59, f2_0, f2_4, f2_10, f2_12, f2_18, f2_24, f2_30, f2_36, f2_40, f2_41, f2_42, f2_48, f2_54, f2_56, f2_62, f2_68, f2_70]
  simp only [Int32.lt_iff_toInt_lt, ← Int32.toInt_inj, Int32.reduceToInt]
  repeat' split
  all_goals first
    | rfl
    | (exfalso; omega)
theorem own_law (c k d : Int32) : f0_0 c k d = 1 := by
  simp only [f0_0, f0_135, own_same, if_true, f0_146, f0_150, f0_151, f0_166, f0_171, f0_178]
  decide
-- the walks
set_option maxRecDepth 65536 in
set_option maxHeartbeats 40000000 in
theorem rm1 (l : Launch) (Z : State) (a0 : Array Value) (hw : ∀ d ∈ tables_1, d.before a0 Z = true) (ws : List Jvm.Cond) (p0 : Int32) (h0 : Heap) (n0 : Nat) (Z0 : n0 ≤ h0.size) :
    MetFree l (⟨"com/example/willow_graft/willowgraft/tree/XmlNames", "isChar", "(I)Z"⟩ : MethodName) (head1 (Jvm.Cond.code (⟨"com/example/willow_graft/willowgraft/tree/XmlNames", "isChar", "(I)Z"⟩ : MethodName) prog_49_method_9_code 1 (some .boolean) :: ws) ({ frames := 0, cells := 0, slots := 0, locals := 0 } : Room)) (fun a U => a = #[(.int p0)] ∧ Z.Warmed39 U.vm ∧ U.heap = h0) (fun _ _ _ _ _ => True) (fun _ U o U' => ∃ v L, o = .returned v ∧ own_Pure ((.int (f1_0 p0))) h0 n0 v U'.heap L ∧ FrameEnd U o U' L ({ frames := 0, cells := 0, slots := 0, locals := 0 } : Room).cells ({ frames := 0, cells := 0, slots := 0, locals := 0 } : Room).slots) := by
  refine MetFree.of_bodySF (plainFor_of_name pn_1) hisR ?_
  intro p e s m args below meth c s₁ Bd hml0 hP hK
  obtain ⟨rfl, hZ, hh0⟩ := hP
  have hx := Bd.exec
  have hby := Bd.bytes
  have hml : c.maxLocals = 1 := hml0
  have hown : s.vm.findClass "com/example/willow_graft/willowgraft/tree/XmlNames" = some m.cls := findClass_of_methodNamed Bd.named
  have X00 : Stand p l e ({ frames := 0, cells := 0, slots := 0, locals := 0 } : Room) s m #[(.int p0)] below meth c s₁ [] 0 0 := Stand.of_body Bd
  have e00 : s₁.heap = h0 := by rw [← hh0, Bd.state]; rfl
  have B59 : ∀ (T0 : State) (locs : List Loc) (x0 : Int32) (t0 : Int32), Stand p l e ({ frames := 0, cells := 0, slots := 0, locals := 0 } : Room) s m #[(.int p0)] below meth c T0 locs 0 0 → T0.heap = h0 → Fr n0 locs → f1_59 t0 = f1_0 p0 → own_Goes p e below s (own_Pure ((.int (f1_0 p0))) h0 n0) ({ frames := 0, cells := 0, slots := 0, locals := 0 } : Room).cells ({ frames := 0, cells := 0, slots := 0, locals := 0 } : Room).slots T0 (mkF m 59 #[.val (.int x0)] [(.int t0)]) := by
    intro T0 locs x0 t0   X0 e0 N0 hf
    exact own_ret X0 Bd (v := some (.int (t0 &&& 1))) (fun q => by rw [Bd.returns] at q; cases q) (fun fs q => retN X0 hx (t := .boolean) Bd.returns (by simp) (hb hby d1_59) q) (show own_Pure ((.int (f1_0 p0))) h0 n0 _ _ _ from ⟨congrArg (fun z => some (Value.int z)) hf, N0, e0⟩) (by decide) (by decide)
  have B58 : ∀ (T0 : State) (locs : List Loc) (x0 : Int32), Stand p l e ({ frames := 0, cells := 0, slots := 0, locals := 0 } : Room) s m #[(.int p0)] below meth c T0 locs 0 0 → T0.heap = h0 → Fr n0 locs → f1_58 = f1_0 p0 → own_Goes p e below s (own_Pure ((.int (f1_0 p0))) h0 n0) ({ frames := 0, cells := 0, slots := 0, locals := 0 } : Room).cells ({ frames := 0, cells := 0, slots := 0, locals := 0 } : Room).slots T0 (mkF m 58 #[.val (.int x0)] []) := by
    intro T0 locs x0   X0 e0 N0 hf
    refine own_step (T' := T0) (g' := (mkF m 59 #[.val (.int x0)] [(.int (0 : Int32))])) (fun _ k => XS.iconst X0.here hx rfl (hb hby d1_58) k) ?_
    exact B59 T0 _ x0 (0 : Int32)   X0 e0 N0 hf
  have B54 : ∀ (T0 : State) (locs : List Loc) (x0 : Int32), Stand p l e ({ frames := 0, cells := 0, slots := 0, locals := 0 } : Room) s m #[(.int p0)] below meth c T0 locs 0 0 → T0.heap = h0 → Fr n0 locs → f1_54 = f1_0 p0 → own_Goes p e below s (own_Pure ((.int (f1_0 p0))) h0 n0) ({ frames := 0, cells := 0, slots := 0, locals := 0 } : Room).cells ({ frames := 0, cells := 0, slots := 0, locals := 0 } : Room).slots T0 (mkF m 54 #[.val (.int x0)] []) := by
    intro T0 locs x0   X0 e0 N0 hf
    refine own_step (T' := T0) (g' := (mkF m 55 #[.val (.int x0)] [(.int (1 : Int32))])) (fun _ k => XS.iconst X0.here hx rfl (hb hby d1_54) k) ?_
    refine own_step (T' := T0) (g' := (mkF m 59 #[.val (.int x0)] [(.int (1 : Int32))])) (fun _ k => XS.goto X0.here hx rfl (pc0 := 55) (pc' := 59) rfl (hb hby d1_55) (by decide) (by decide) k) ?_
    exact B59 T0 _ x0 (1 : Int32)   X0 e0 N0 hf
  have B48 : ∀ (T0 : State) (locs : List Loc) (x0 : Int32), Stand p l e ({ frames := 0, cells := 0, slots := 0, locals := 0 } : Room) s m #[(.int p0)] below meth c T0 locs 0 0 → T0.heap = h0 → Fr n0 locs → f1_48 x0 = f1_0 p0 → own_Goes p e below s (own_Pure ((.int (f1_0 p0))) h0 n0) ({ frames := 0, cells := 0, slots := 0, locals := 0 } : Room).cells ({ frames := 0, cells := 0, slots := 0, locals := 0 } : Room).slots T0 (mkF m 48 #[.val (.int x0)] []) := by
    intro T0 locs x0   X0 e0 N0 hf
    refine own_step (T' := T0) (g' := (mkF m 49 #[.val (.int x0)] [(.int x0)])) (fun _ k => XS.iloadN X0.here hx rfl (hb hby d1_48) rfl k) ?_
    refine own_step (T' := T0) (g' := (mkF m 51 #[.val (.int x0)] [(.int (1114111 : Int32)), (.int x0)])) (fun _ k => X0.ldcInt hx hown (mvT hZ (hw _ (List.mem_of_getElem? (i := 25) rfl))) (g := (mkF m 49 #[.val (.int x0)] [(.int x0)])) rfl (hb hby d1_49) _ k) ?_
    by_cases hc : (1114111 : Int32) < x0
    · refine own_step (T' := T0) (g' := (mkF m 58 #[.val (.int x0)] [])) (fun _ k => XS.icmpYes X0.here hx rfl (pc0 := 51) (pc' := 58) rfl (hb hby d1_51) rfl (tlt hc).2.2.1 (by decide) (by decide) k) ?_
      exact B58 T0 _ x0   X0 e0 N0 ((if_pos hc).symm.trans hf)
    · refine own_step (T' := T0) (g' := (mkF m 54 #[.val (.int x0)] [])) (fun _ k => XS.icmpNo X0.here hx rfl (hb hby d1_51) rfl (flt hc).2.2.1 k) ?_
      exact B54 T0 _ x0   X0 e0 N0 ((if_neg hc).symm.trans hf)
  have B42 : ∀ (T0 : State) (locs : List Loc) (x0 : Int32), Stand p l e ({ frames := 0, cells := 0, slots := 0, locals := 0 } : Room) s m #[(.int p0)] below meth c T0 locs 0 0 → T0.heap = h0 → Fr n0 locs → f1_42 x0 = f1_0 p0 → own_Goes p e below s (own_Pure ((.int (f1_0 p0))) h0 n0) ({ frames := 0, cells := 0, slots := 0, locals := 0 } : Room).cells ({ frames := 0, cells := 0, slots := 0, locals := 0 } : Room).slots T0 (mkF m 42 #[.val (.int x0)] []) := by
    intro T0 locs x0   X0 e0 N0 hf
    refine own_step (T' := T0) (g' := (mkF m 43 #[.val (.int x0)] [(.int x0)])) (fun _ k => XS.iloadN X0.here hx rfl (hb hby d1_42) rfl k) ?_
    refine own_step (T' := T0) (g' := (mkF m 45 #[.val (.int x0)] [(.int (65536 : Int32)), (.int x0)])) (fun _ k => X0.ldcInt hx hown (mvT hZ (hw _ (List.mem_of_getElem? (i := 18) rfl))) (g := (mkF m 43 #[.val (.int x0)] [(.int x0)])) rfl (hb hby d1_43) _ k) ?_
    by_cases hc : x0 < (65536 : Int32)
    · refine own_step (T' := T0) (g' := (mkF m 58 #[.val (.int x0)] [])) (fun _ k => XS.icmpYes X0.here hx rfl (pc0 := 45) (pc' := 58) rfl (hb hby d1_45) rfl (tlt hc).1 (by decide) (by decide) k) ?_
      exact B58 T0 _ x0   X0 e0 N0 ((if_pos hc).symm.trans hf)
    · refine own_step (T' := T0) (g' := (mkF m 48 #[.val (.int x0)] [])) (fun _ k => XS.icmpNo X0.here hx rfl (hb hby d1_45) rfl (flt hc).1 k) ?_
      exact B48 T0 _ x0   X0 e0 N0 ((if_neg hc).symm.trans hf)
  have B36 : ∀ (T0 : State) (locs : List Loc) (x0 : Int32), Stand p l e ({ frames := 0, cells := 0, slots := 0, locals := 0 } : Room) s m #[(.int p0)] below meth c T0 locs 0 0 → T0.heap = h0 → Fr n0 locs → f1_36 x0 = f1_0 p0 → own_Goes p e below s (own_Pure ((.int (f1_0 p0))) h0 n0) ({ frames := 0, cells := 0, slots := 0, locals := 0 } : Room).cells ({ frames := 0, cells := 0, slots := 0, locals := 0 } : Room).slots T0 (mkF m 36 #[.val (.int x0)] []) := by
    intro T0 locs x0   X0 e0 N0 hf
    refine own_step (T' := T0) (g' := (mkF m 37 #[.val (.int x0)] [(.int x0)])) (fun _ k => XS.iloadN X0.here hx rfl (hb hby d1_36) rfl k) ?_
    refine own_step (T' := T0) (g' := (mkF m 39 #[.val (.int x0)] [(.int (65533 : Int32)), (.int x0)])) (fun _ k => X0.ldcInt hx hown (mvT hZ (hw _ (List.mem_of_getElem? (i := 24) rfl))) (g := (mkF m 37 #[.val (.int x0)] [(.int x0)])) rfl (hb hby d1_37) _ k) ?_
    by_cases hc : (65533 : Int32) < x0
    · refine own_step (T' := T0) (g' := (mkF m 42 #[.val (.int x0)] [])) (fun _ k => XS.icmpNo X0.here hx rfl (hb hby d1_39) rfl (tlt hc).2.2.2 k) ?_
      exact B42 T0 _ x0   X0 e0 N0 ((if_pos hc).symm.trans hf)
    · refine own_step (T' := T0) (g' := (mkF m 54 #[.val (.int x0)] [])) (fun _ k => XS.icmpYes X0.here hx rfl (pc0 := 39) (pc' := 54) rfl (hb hby d1_39) rfl (flt hc).2.2.2 (by decide) (by decide) k) ?_
      exact B54 T0 _ x0   X0 e0 N0 ((if_neg hc).symm.trans hf)
  have B30 : ∀ (T0 : State) (locs : List Loc) (x0 : Int32), Stand p l e ({ frames := 0, cells := 0, slots := 0, locals := 0 } : Room) s m #[(.int p0)] below meth c T0 locs 0 0 → T0.heap = h0 → Fr n0 locs → f1_30 x0 = f1_0 p0 → own_Goes p e below s (own_Pure ((.int (f1_0 p0))) h0 n0) ({ frames := 0, cells := 0, slots := 0, locals := 0 } : Room).cells ({ frames := 0, cells := 0, slots := 0, locals := 0 } : Room).slots T0 (mkF m 30 #[.val (.int x0)] []) := by
    intro T0 locs x0   X0 e0 N0 hf
    refine own_step (T' := T0) (g' := (mkF m 31 #[.val (.int x0)] [(.int x0)])) (fun _ k => XS.iloadN X0.here hx rfl (hb hby d1_30) rfl k) ?_
    refine own_step (T' := T0) (g' := (mkF m 33 #[.val (.int x0)] [(.int (57344 : Int32)), (.int x0)])) (fun _ k => X0.ldcInt hx hown (mvT hZ (hw _ (List.mem_of_getElem? (i := 17) rfl))) (g := (mkF m 31 #[.val (.int x0)] [(.int x0)])) rfl (hb hby d1_31) _ k) ?_
    by_cases hc : x0 < (57344 : Int32)
    · refine own_step (T' := T0) (g' := (mkF m 42 #[.val (.int x0)] [])) (fun _ k => XS.icmpYes X0.here hx rfl (pc0 := 33) (pc' := 42) rfl (hb hby d1_33) rfl (tlt hc).1 (by decide) (by decide) k) ?_
      exact B42 T0 _ x0   X0 e0 N0 ((if_pos hc).symm.trans hf)
    · refine own_step (T' := T0) (g' := (mkF m 36 #[.val (.int x0)] [])) (fun _ k => XS.icmpNo X0.here hx rfl (hb hby d1_33) rfl (flt hc).1 k) ?_
      exact B36 T0 _ x0   X0 e0 N0 ((if_neg hc).symm.trans hf)
  have B24 : ∀ (T0 : State) (locs : List Loc) (x0 : Int32), Stand p l e ({ frames := 0, cells := 0, slots := 0, locals := 0 } : Room) s m #[(.int p0)] below meth c T0 locs 0 0 → T0.heap = h0 → Fr n0 locs → f1_24 x0 = f1_0 p0 → own_Goes p e below s (own_Pure ((.int (f1_0 p0))) h0 n0) ({ frames := 0, cells := 0, slots := 0, locals := 0 } : Room).cells ({ frames := 0, cells := 0, slots := 0, locals := 0 } : Room).slots T0 (mkF m 24 #[.val (.int x0)] []) := by
    intro T0 locs x0   X0 e0 N0 hf
    refine own_step (T' := T0) (g' := (mkF m 25 #[.val (.int x0)] [(.int x0)])) (fun _ k => XS.iloadN X0.here hx rfl (hb hby d1_24) rfl k) ?_
    refine own_step (T' := T0) (g' := (mkF m 27 #[.val (.int x0)] [(.int (55295 : Int32)), (.int x0)])) (fun _ k => X0.ldcInt hx hown (mvT hZ (hw _ (List.mem_of_getElem? (i := 23) rfl))) (g := (mkF m 25 #[.val (.int x0)] [(.int x0)])) rfl (hb hby d1_25) _ k) ?_
    by_cases hc : (55295 : Int32) < x0
    · refine own_step (T' := T0) (g' := (mkF m 30 #[.val (.int x0)] [])) (fun _ k => XS.icmpNo X0.here hx rfl (hb hby d1_27) rfl (tlt hc).2.2.2 k) ?_
      exact B30 T0 _ x0   X0 e0 N0 ((if_pos hc).symm.trans hf)
    · refine own_step (T' := T0) (g' := (mkF m 54 #[.val (.int x0)] [])) (fun _ k => XS.icmpYes X0.here hx rfl (pc0 := 27) (pc' := 54) rfl (hb hby d1_27) rfl (flt hc).2.2.2 (by decide) (by decide) k) ?_
      exact B54 T0 _ x0   X0 e0 N0 ((if_neg hc).symm.trans hf)
  have B18 : ∀ (T0 : State) (locs : List Loc) (x0 : Int32), Stand p l e ({ frames := 0, cells := 0, slots := 0, locals := 0 } : Room) s m #[(.int p0)] below meth c T0 locs 0 0 → T0.heap = h0 → Fr n0 locs → f1_18 x0 = f1_0 p0 → own_Goes p e below s (own_Pure ((.int (f1_0 p0))) h0 n0) ({ frames := 0, cells := 0, slots := 0, locals := 0 } : Room).cells ({ frames := 0, cells := 0, slots := 0, locals := 0 } : Room).slots T0 (mkF m 18 #[.val (.int x0)] []) := by
    intro T0 locs x0   X0 e0 N0 hf
    refine own_step (T' := T0) (g' := (mkF m 19 #[.val (.int x0)] [(.int x0)])) (fun _ k => XS.iloadN X0.here hx rfl (hb hby d1_18) rfl k) ?_
    refine own_step (T' := T0) (g' := (mkF m 21 #[.val (.int x0)] [(.int (32 : Int32)), (.int x0)])) (fun _ k => XS.bipush X0.here hx rfl (hb hby d1_19) k) ?_
    by_cases hc : x0 < (32 : Int32)
    · refine own_step (T' := T0) (g' := (mkF m 30 #[.val (.int x0)] [])) (fun _ k => XS.icmpYes X0.here hx rfl (pc0 := 21) (pc' := 30) rfl (hb hby d1_21) rfl (tlt hc).1 (by decide) (by decide) k) ?_
      exact B30 T0 _ x0   X0 e0 N0 ((if_pos hc).symm.trans hf)
    · refine own_step (T' := T0) (g' := (mkF m 24 #[.val (.int x0)] [])) (fun _ k => XS.icmpNo X0.here hx rfl (hb hby d1_21) rfl (flt hc).1 k) ?_
      exact B24 T0 _ x0   X0 e0 N0 ((if_neg hc).symm.trans hf)
  have B12 : ∀ (T0 : State) (locs : List Loc) (x0 : Int32), Stand p l e ({ frames := 0, cells := 0, slots := 0, locals := 0 } : Room) s m #[(.int p0)] below meth c T0 locs 0 0 → T0.heap = h0 → Fr n0 locs → f1_12 x0 = f1_0 p0 → own_Goes p e below s (own_Pure ((.int (f1_0 p0))) h0 n0) ({ frames := 0, cells := 0, slots := 0, locals := 0 } : Room).cells ({ frames := 0, cells := 0, slots := 0, locals := 0 } : Room).slots T0 (mkF m 12 #[.val (.int x0)] []) := by
    intro T0 locs x0   X0 e0 N0 hf
    refine own_step (T' := T0) (g' := (mkF m 13 #[.val (.int x0)] [(.int x0)])) (fun _ k => XS.iloadN X0.here hx rfl (hb hby d1_12) rfl k) ?_
    refine own_step (T' := T0) (g' := (mkF m 15 #[.val (.int x0)] [(.int (13 : Int32)), (.int x0)])) (fun _ k => XS.bipush X0.here hx rfl (hb hby d1_13) k) ?_
    by_cases hc : x0 = (13 : Int32)
    · refine own_step (T' := T0) (g' := (mkF m 54 #[.val (.int x0)] [])) (fun _ k => XS.icmpYes X0.here hx rfl (pc0 := 15) (pc' := 54) rfl (hb hby d1_15) rfl (teq hc).1 (by decide) (by decide) k) ?_
      exact B54 T0 _ x0   X0 e0 N0 ((if_pos hc).symm.trans hf)
    · refine own_step (T' := T0) (g' := (mkF m 18 #[.val (.int x0)] [])) (fun _ k => XS.icmpNo X0.here hx rfl (hb hby d1_15) rfl (feq hc).1 k) ?_
      exact B18 T0 _ x0   X0 e0 N0 ((if_neg hc).symm.trans hf)
  have B6 : ∀ (T0 : State) (locs : List Loc) (x0 : Int32), Stand p l e ({ frames := 0, cells := 0, slots := 0, locals := 0 } : Room) s m #[(.int p0)] below meth c T0 locs 0 0 → T0.heap = h0 → Fr n0 locs → f1_6 x0 = f1_0 p0 → own_Goes p e below s (own_Pure ((.int (f1_0 p0))) h0 n0) ({ frames := 0, cells := 0, slots := 0, locals := 0 } : Room).cells ({ frames := 0, cells := 0, slots := 0, locals := 0 } : Room).slots T0 (mkF m 6 #[.val (.int x0)] []) := by
    intro T0 locs x0   X0 e0 N0 hf
    refine own_step (T' := T0) (g' := (mkF m 7 #[.val (.int x0)] [(.int x0)])) (fun _ k => XS.iloadN X0.here hx rfl (hb hby d1_6) rfl k) ?_
    refine own_step (T' := T0) (g' := (mkF m 9 #[.val (.int x0)] [(.int (10 : Int32)), (.int x0)])) (fun _ k => XS.bipush X0.here hx rfl (hb hby d1_7) k) ?_
    by_cases hc : x0 = (10 : Int32)
    · refine own_step (T' := T0) (g' := (mkF m 54 #[.val (.int x0)] [])) (fun _ k => XS.icmpYes X0.here hx rfl (pc0 := 9) (pc' := 54) rfl (hb hby d1_9) rfl (teq hc).1 (by decide) (by decide) k) ?_
      exact B54 T0 _ x0   X0 e0 N0 ((if_pos hc).symm.trans hf)
    · refine own_step (T' := T0) (g' := (mkF m 12 #[.val (.int x0)] [])) (fun _ k => XS.icmpNo X0.here hx rfl (hb hby d1_9) rfl (feq hc).1 k) ?_
      exact B12 T0 _ x0   X0 e0 N0 ((if_neg hc).symm.trans hf)
  have B0 : ∀ (T0 : State) (locs : List Loc) (x0 : Int32), Stand p l e ({ frames := 0, cells := 0, slots := 0, locals := 0 } : Room) s m #[(.int p0)] below meth c T0 locs 0 0 → T0.heap = h0 → Fr n0 locs → f1_0 x0 = f1_0 p0 → own_Goes p e below s (own_Pure ((.int (f1_0 p0))) h0 n0) ({ frames := 0, cells := 0, slots := 0, locals := 0 } : Room).cells ({ frames := 0, cells := 0, slots := 0, locals := 0 } : Room).slots T0 (mkF m 0 #[.val (.int x0)] []) := by
    intro T0 locs x0   X0 e0 N0 hf
    refine own_step (T' := T0) (g' := (mkF m 1 #[.val (.int x0)] [(.int x0)])) (fun _ k => XS.iloadN X0.here hx rfl (hb hby d1_0) rfl k) ?_
    refine own_step (T' := T0) (g' := (mkF m 3 #[.val (.int x0)] [(.int (9 : Int32)), (.int x0)])) (fun _ k => XS.bipush X0.here hx rfl (hb hby d1_1) k) ?_
    by_cases hc : x0 = (9 : Int32)
    · refine own_step (T' := T0) (g' := (mkF m 54 #[.val (.int x0)] [])) (fun _ k => XS.icmpYes X0.here hx rfl (pc0 := 3) (pc' := 54) rfl (hb hby d1_3) rfl (teq hc).1 (by decide) (by decide) k) ?_
      exact B54 T0 _ x0   X0 e0 N0 ((if_pos hc).symm.trans hf)
    · refine own_step (T' := T0) (g' := (mkF m 6 #[.val (.int x0)] [])) (fun _ k => XS.icmpNo X0.here hx rfl (hb hby d1_3) rfl (feq hc).1 k) ?_
      exact B6 T0 _ x0   X0 e0 N0 ((if_neg hc).symm.trans hf)
  have hB := B0 s₁ [] p0  X00 e00 (Fr.nil n0) rfl
  obtain ⟨s₂, o, q1, q2, q3, v, L, q4, q5, q6⟩ := hB
  exact ⟨s₂, o, castTop (ef_1 m p0) q1, q2, q3, v, L, q4, q5, q6⟩
set_option maxRecDepth 65536 in
set_option maxHeartbeats 40000000 in
theorem rm2 (l : Launch) (Z : State) (a0 : Array Value) (hw : ∀ d ∈ tables_1, d.before a0 Z = true) (ws : List Jvm.Cond) (p0 : Int32) (h0 : Heap) (n0 : Nat) (Z0 : n0 ≤ h0.size) :
    MetFree l (⟨"com/example/willow_graft/willowgraft/tree/XmlNamesIsCharPinLaw", "ref", "(I)Z"⟩ : MethodName) (head1 (Jvm.Cond.code (⟨"com/example/willow_graft/willowgraft/tree/XmlNamesIsCharPinLaw", "ref", "(I)Z"⟩ : MethodName) method_2_code 1 (some .boolean) :: ws) ({ frames := 0, cells := 0, slots := 0, locals := 0 } : Room)) (fun a U => a = #[(.int p0)] ∧ Z.Warmed39 U.vm ∧ U.heap = h0) (fun _ _ _ _ _ => True) (fun _ U o U' => ∃ v L, o = .returned v ∧ own_Pure ((.int (f2_0 p0))) h0 n0 v U'.heap L ∧ FrameEnd U o U' L ({ frames := 0, cells := 0, slots := 0, locals := 0 } : Room).cells ({ frames := 0, cells := 0, slots := 0, locals := 0 } : Room).slots) := by
  refine MetFree.of_bodySF (plainFor_of_name pn_2) hisR ?_
  intro p e s m args below meth c s₁ Bd hml0 hP hK
  obtain ⟨rfl, hZ, hh0⟩ := hP
  have hx := Bd.exec
  have hby := Bd.bytes
  have hml : c.maxLocals = 1 := hml0
  have hown : s.vm.findClass "com/example/willow_graft/willowgraft/tree/XmlNamesIsCharPinLaw" = some m.cls := findClass_of_methodNamed Bd.named
  have X00 : Stand p l e ({ frames := 0, cells := 0, slots := 0, locals := 0 } : Room) s m #[(.int p0)] below meth c s₁ [] 0 0 := Stand.of_body Bd
  have e00 : s₁.heap = h0 := by rw [← hh0, Bd.state]; rfl
  have B70 : ∀ (T0 : State) (locs : List Loc) (x0 : Int32), Stand p l e ({ frames := 0, cells := 0, slots := 0, locals := 0 } : Room) s m #[(.int p0)] below meth c T0 locs 0 0 → T0.heap = h0 → Fr n0 locs → f2_70 = f2_0 p0 → own_Goes p e below s (own_Pure ((.int (f2_0 p0))) h0 n0) ({ frames := 0, cells := 0, slots := 0, locals := 0 } : Room).cells ({ frames := 0, cells := 0, slots := 0, locals := 0 } : Room).slots T0 (mkF m 70 #[.val (.int x0)] []) := by
    intro T0 locs x0   X0 e0 N0 hf
    refine own_step (T' := T0) (g' := (mkF m 71 #[.val (.int x0)] [(.int (1 : Int32))])) (fun _ k => XS.iconst X0.here hx rfl (hb hby d2_70) k) ?_
    exact own_ret X0 Bd (v := some (.int ((1 : Int32) &&& 1))) (fun q => by rw [Bd.returns] at q; cases q) (fun fs q => retN X0 hx (t := .boolean) Bd.returns (by simp) (hb hby d2_71) q) (show own_Pure ((.int (f2_0 p0))) h0 n0 _ _ _ from ⟨congrArg (fun z => some (Value.int z)) hf, N0, e0⟩) (by decide) (by decide)
  have B68 : ∀ (T0 : State) (locs : List Loc) (x0 : Int32), Stand p l e ({ frames := 0, cells := 0, slots := 0, locals := 0 } : Room) s m #[(.int p0)] below meth c T0 locs 0 0 → T0.heap = h0 → Fr n0 locs → f2_68 = f2_0 p0 → own_Goes p e below s (own_Pure ((.int (f2_0 p0))) h0 n0) ({ frames := 0, cells := 0, slots := 0, locals := 0 } : Room).cells ({ frames := 0, cells := 0, slots := 0, locals := 0 } : Room).slots T0 (mkF m 68 #[.val (.int x0)] []) := by
    intro T0 locs x0   X0 e0 N0 hf
    refine own_step (T' := T0) (g' := (mkF m 69 #[.val (.int x0)] [(.int (0 : Int32))])) (fun _ k => XS.iconst X0.here hx rfl (hb hby d2_68) k) ?_
    exact own_ret X0 Bd (v := some (.int ((0 : Int32) &&& 1))) (fun q => by rw [Bd.returns] at q; cases q) (fun fs q => retN X0 hx (t := .boolean) Bd.returns (by simp) (hb hby d2_69) q) (show own_Pure ((.int (f2_0 p0))) h0 n0 _ _ _ from ⟨congrArg (fun z => some (Value.int z)) hf, N0, e0⟩) (by decide) (by decide)
  have B62 : ∀ (T0 : State) (locs : List Loc) (x0 : Int32), Stand p l e ({ frames := 0, cells := 0, slots := 0, locals := 0 } : Room) s m #[(.int p0)] below meth c T0 locs 0 0 → T0.heap = h0 → Fr n0 locs → f2_62 x0 = f2_0 p0 → own_Goes p e below s (own_Pure ((.int (f2_0 p0))) h0 n0) ({ frames := 0, cells := 0, slots := 0, locals := 0 } : Room).cells ({ frames := 0, cells := 0, slots := 0, locals := 0 } : Room).slots T0 (mkF m 62 #[.val (.int x0)] []) := by
    intro T0 locs x0   X0 e0 N0 hf
    refine own_step (T' := T0) (g' := (mkF m 63 #[.val (.int x0)] [(.int x0)])) (fun _ k => XS.iloadN X0.here hx rfl (hb hby d2_62) rfl k) ?_
    refine own_step (T' := T0) (g' := (mkF m 65 #[.val (.int x0)] [(.int (65535 : Int32)), (.int x0)])) (fun _ k => X0.ldcInt hx hown (mvT hZ (hw _ (List.mem_of_getElem? (i := 7) rfl))) (g := (mkF m 63 #[.val (.int x0)] [(.int x0)])) rfl (hb hby d2_63) _ k) ?_
    by_cases hc : x0 = (65535 : Int32)
    · refine own_step (T' := T0) (g' := (mkF m 68 #[.val (.int x0)] [])) (fun _ k => XS.icmpNo X0.here hx rfl (hb hby d2_65) rfl (teq hc).2 k) ?_
      exact B68 T0 _ x0   X0 e0 N0 ((if_pos hc).symm.trans hf)
    · refine own_step (T' := T0) (g' := (mkF m 70 #[.val (.int x0)] [])) (fun _ k => XS.icmpYes X0.here hx rfl (pc0 := 65) (pc' := 70) rfl (hb hby d2_65) rfl (feq hc).2 (by decide) (by decide) k) ?_
      exact B70 T0 _ x0   X0 e0 N0 ((if_neg hc).symm.trans hf)
  have B56 : ∀ (T0 : State) (locs : List Loc) (x0 : Int32), Stand p l e ({ frames := 0, cells := 0, slots := 0, locals := 0 } : Room) s m #[(.int p0)] below meth c T0 locs 0 0 → T0.heap = h0 → Fr n0 locs → f2_56 x0 = f2_0 p0 → own_Goes p e below s (own_Pure ((.int (f2_0 p0))) h0 n0) ({ frames := 0, cells := 0, slots := 0, locals := 0 } : Room).cells ({ frames := 0, cells := 0, slots := 0, locals := 0 } : Room).slots T0 (mkF m 56 #[.val (.int x0)] []) := by
    intro T0 locs x0   X0 e0 N0 hf
    refine own_step (T' := T0) (g' := (mkF m 57 #[.val (.int x0)] [(.int x0)])) (fun _ k => XS.iloadN X0.here hx rfl (hb hby d2_56) rfl k) ?_
    refine own_step (T' := T0) (g' := (mkF m 59 #[.val (.int x0)] [(.int (65534 : Int32)), (.int x0)])) (fun _ k => X0.ldcInt hx hown (mvT hZ (hw _ (List.mem_of_getElem? (i := 6) rfl))) (g := (mkF m 57 #[.val (.int x0)] [(.int x0)])) rfl (hb hby d2_57) _ k) ?_
    by_cases hc : x0 = (65534 : Int32)
    · refine own_step (T' := T0) (g' := (mkF m 68 #[.val (.int x0)] [])) (fun _ k => XS.icmpYes X0.here hx rfl (pc0 := 59) (pc' := 68) rfl (hb hby d2_59) rfl (teq hc).1 (by decide) (by decide) k) ?_
      exact B68 T0 _ x0   X0 e0 N0 ((if_pos hc).symm.trans hf)
    · refine own_step (T' := T0) (g' := (mkF m 62 #[.val (.int x0)] [])) (fun _ k => XS.icmpNo X0.here hx rfl (hb hby d2_59) rfl (feq hc).1 k) ?_
      exact B62 T0 _ x0   X0 e0 N0 ((if_neg hc).symm.trans hf)
  have B54 : ∀ (T0 : State) (locs : List Loc) (x0 : Int32), Stand p l e ({ frames := 0, cells := 0, slots := 0, locals := 0 } : Room) s m #[(.int p0)] below meth c T0 locs 0 0 → T0.heap = h0 → Fr n0 locs → f2_54 = f2_0 p0 → own_Goes p e below s (own_Pure ((.int (f2_0 p0))) h0 n0) ({ frames := 0, cells := 0, slots := 0, locals := 0 } : Room).cells ({ frames := 0, cells := 0, slots := 0, locals := 0 } : Room).slots T0 (mkF m 54 #[.val (.int x0)] []) := by
    intro T0 locs x0   X0 e0 N0 hf
    refine own_step (T' := T0) (g' := (mkF m 55 #[.val (.int x0)] [(.int (0 : Int32))])) (fun _ k => XS.iconst X0.here hx rfl (hb hby d2_54) k) ?_
    exact own_ret X0 Bd (v := some (.int ((0 : Int32) &&& 1))) (fun q => by rw [Bd.returns] at q; cases q) (fun fs q => retN X0 hx (t := .boolean) Bd.returns (by simp) (hb hby d2_55) q) (show own_Pure ((.int (f2_0 p0))) h0 n0 _ _ _ from ⟨congrArg (fun z => some (Value.int z)) hf, N0, e0⟩) (by decide) (by decide)
  have B48 : ∀ (T0 : State) (locs : List Loc) (x0 : Int32), Stand p l e ({ frames := 0, cells := 0, slots := 0, locals := 0 } : Room) s m #[(.int p0)] below meth c T0 locs 0 0 → T0.heap = h0 → Fr n0 locs → f2_48 x0 = f2_0 p0 → own_Goes p e below s (own_Pure ((.int (f2_0 p0))) h0 n0) ({ frames := 0, cells := 0, slots := 0, locals := 0 } : Room).cells ({ frames := 0, cells := 0, slots := 0, locals := 0 } : Room).slots T0 (mkF m 48 #[.val (.int x0)] []) := by
    intro T0 locs x0   X0 e0 N0 hf
    refine own_step (T' := T0) (g' := (mkF m 49 #[.val (.int x0)] [(.int x0)])) (fun _ k => XS.iloadN X0.here hx rfl (hb hby d2_48) rfl k) ?_
    refine own_step (T' := T0) (g' := (mkF m 51 #[.val (.int x0)] [(.int (57343 : Int32)), (.int x0)])) (fun _ k => X0.ldcInt hx hown (mvT hZ (hw _ (List.mem_of_getElem? (i := 3) rfl))) (g := (mkF m 49 #[.val (.int x0)] [(.int x0)])) rfl (hb hby d2_49) _ k) ?_
    by_cases hc : (57343 : Int32) < x0
    · refine own_step (T' := T0) (g' := (mkF m 56 #[.val (.int x0)] [])) (fun _ k => XS.icmpYes X0.here hx rfl (pc0 := 51) (pc' := 56) rfl (hb hby d2_51) rfl (tlt hc).2.2.1 (by decide) (by decide) k) ?_
      exact B56 T0 _ x0   X0 e0 N0 ((if_pos hc).symm.trans hf)
    · refine own_step (T' := T0) (g' := (mkF m 54 #[.val (.int x0)] [])) (fun _ k => XS.icmpNo X0.here hx rfl (hb hby d2_51) rfl (flt hc).2.2.1 k) ?_
      exact B54 T0 _ x0   X0 e0 N0 ((if_neg hc).symm.trans hf)
  have B42 : ∀ (T0 : State) (locs : List Loc) (x0 : Int32), Stand p l e ({ frames := 0, cells := 0, slots := 0, locals := 0 } : Room) s m #[(.int p0)] below meth c T0 locs 0 0 → T0.heap = h0 → Fr n0 locs → f2_42 x0 = f2_0 p0 → own_Goes p e below s (own_Pure ((.int (f2_0 p0))) h0 n0) ({ frames := 0, cells := 0, slots := 0, locals := 0 } : Room).cells ({ frames := 0, cells := 0, slots := 0, locals := 0 } : Room).slots T0 (mkF m 42 #[.val (.int x0)] []) := by
    intro T0 locs x0   X0 e0 N0 hf
    refine own_step (T' := T0) (g' := (mkF m 43 #[.val (.int x0)] [(.int x0)])) (fun _ k => XS.iloadN X0.here hx rfl (hb hby d2_42) rfl k) ?_
    refine own_step (T' := T0) (g' := (mkF m 45 #[.val (.int x0)] [(.int (55296 : Int32)), (.int x0)])) (fun _ k => X0.ldcInt hx hown (mvT hZ (hw _ (List.mem_of_getElem? (i := 2) rfl))) (g := (mkF m 43 #[.val (.int x0)] [(.int x0)])) rfl (hb hby d2_43) _ k) ?_
    by_cases hc : x0 < (55296 : Int32)
    · refine own_step (T' := T0) (g' := (mkF m 56 #[.val (.int x0)] [])) (fun _ k => XS.icmpYes X0.here hx rfl (pc0 := 45) (pc' := 56) rfl (hb hby d2_45) rfl (tlt hc).1 (by decide) (by decide) k) ?_
      exact B56 T0 _ x0   X0 e0 N0 ((if_pos hc).symm.trans hf)
    · refine own_step (T' := T0) (g' := (mkF m 48 #[.val (.int x0)] [])) (fun _ k => XS.icmpNo X0.here hx rfl (hb hby d2_45) rfl (flt hc).1 k) ?_
      exact B48 T0 _ x0   X0 e0 N0 ((if_neg hc).symm.trans hf)
  have B41 : ∀ (T0 : State) (locs : List Loc) (x0 : Int32) (t0 : Int32), Stand p l e ({ frames := 0, cells := 0, slots := 0, locals := 0 } : Room) s m #[(.int p0)] below meth c T0 locs 0 0 → T0.heap = h0 → Fr n0 locs → f2_41 t0 = f2_0 p0 → own_Goes p e below s (own_Pure ((.int (f2_0 p0))) h0 n0) ({ frames := 0, cells := 0, slots := 0, locals := 0 } : Room).cells ({ frames := 0, cells := 0, slots := 0, locals := 0 } : Room).slots T0 (mkF m 41 #[.val (.int x0)] [(.int t0)]) := by
    intro T0 locs x0 t0   X0 e0 N0 hf
    exact own_ret X0 Bd (v := some (.int (t0 &&& 1))) (fun q => by rw [Bd.returns] at q; cases q) (fun fs q => retN X0 hx (t := .boolean) Bd.returns (by simp) (hb hby d2_41) q) (show own_Pure ((.int (f2_0 p0))) h0 n0 _ _ _ from ⟨congrArg (fun z => some (Value.int z)) hf, N0, e0⟩) (by decide) (by decide)
  have B40 : ∀ (T0 : State) (locs : List Loc) (x0 : Int32), Stand p l e ({ frames := 0, cells := 0, slots := 0, locals := 0 } : Room) s m #[(.int p0)] below meth c T0 locs 0 0 → T0.heap = h0 → Fr n0 locs → f2_40 = f2_0 p0 → own_Goes p e below s (own_Pure ((.int (f2_0 p0))) h0 n0) ({ frames := 0, cells := 0, slots := 0, locals := 0 } : Room).cells ({ frames := 0, cells := 0, slots := 0, locals := 0 } : Room).slots T0 (mkF m 40 #[.val (.int x0)] []) := by
    intro T0 locs x0   X0 e0 N0 hf
    refine own_step (T' := T0) (g' := (mkF m 41 #[.val (.int x0)] [(.int (0 : Int32))])) (fun _ k => XS.iconst X0.here hx rfl (hb hby d2_40) k) ?_
    exact B41 T0 _ x0 (0 : Int32)   X0 e0 N0 hf
  have B36 : ∀ (T0 : State) (locs : List Loc) (x0 : Int32), Stand p l e ({ frames := 0, cells := 0, slots := 0, locals := 0 } : Room) s m #[(.int p0)] below meth c T0 locs 0 0 → T0.heap = h0 → Fr n0 locs → f2_36 = f2_0 p0 → own_Goes p e below s (own_Pure ((.int (f2_0 p0))) h0 n0) ({ frames := 0, cells := 0, slots := 0, locals := 0 } : Room).cells ({ frames := 0, cells := 0, slots := 0, locals := 0 } : Room).slots T0 (mkF m 36 #[.val (.int x0)] []) := by
    intro T0 locs x0   X0 e0 N0 hf
    refine own_step (T' := T0) (g' := (mkF m 37 #[.val (.int x0)] [(.int (1 : Int32))])) (fun _ k => XS.iconst X0.here hx rfl (hb hby d2_36) k) ?_
    refine own_step (T' := T0) (g' := (mkF m 41 #[.val (.int x0)] [(.int (1 : Int32))])) (fun _ k => XS.goto X0.here hx rfl (pc0 := 37) (pc' := 41) rfl (hb hby d2_37) (by decide) (by decide) k) ?_
    exact B41 T0 _ x0 (1 : Int32)   X0 e0 N0 hf
  have B30 : ∀ (T0 : State) (locs : List Loc) (x0 : Int32), Stand p l e ({ frames := 0, cells := 0, slots := 0, locals := 0 } : Room) s m #[(.int p0)] below meth c T0 locs 0 0 → T0.heap = h0 → Fr n0 locs → f2_30 x0 = f2_0 p0 → own_Goes p e below s (own_Pure ((.int (f2_0 p0))) h0 n0) ({ frames := 0, cells := 0, slots := 0, locals := 0 } : Room).cells ({ frames := 0, cells := 0, slots := 0, locals := 0 } : Room).slots T0 (mkF m 30 #[.val (.int x0)] []) := by
    intro T0 locs x0   X0 e0 N0 hf
    refine own_step (T' := T0) (g' := (mkF m 31 #[.val (.int x0)] [(.int x0)])) (fun _ k => XS.iloadN X0.here hx rfl (hb hby d2_30) rfl k) ?_
    refine own_step (T' := T0) (g' := (mkF m 33 #[.val (.int x0)] [(.int (13 : Int32)), (.int x0)])) (fun _ k => XS.bipush X0.here hx rfl (hb hby d2_31) k) ?_
    by_cases hc : x0 = (13 : Int32)
    · refine own_step (T' := T0) (g' := (mkF m 36 #[.val (.int x0)] [])) (fun _ k => XS.icmpNo X0.here hx rfl (hb hby d2_33) rfl (teq hc).2 k) ?_
      exact B36 T0 _ x0   X0 e0 N0 ((if_pos hc).symm.trans hf)
    · refine own_step (T' := T0) (g' := (mkF m 40 #[.val (.int x0)] [])) (fun _ k => XS.icmpYes X0.here hx rfl (pc0 := 33) (pc' := 40) rfl (hb hby d2_33) rfl (feq hc).2 (by decide) (by decide) k) ?_
      exact B40 T0 _ x0   X0 e0 N0 ((if_neg hc).symm.trans hf)
  have B24 : ∀ (T0 : State) (locs : List Loc) (x0 : Int32), Stand p l e ({ frames := 0, cells := 0, slots := 0, locals := 0 } : Room) s m #[(.int p0)] below meth c T0 locs 0 0 → T0.heap = h0 → Fr n0 locs → f2_24 x0 = f2_0 p0 → own_Goes p e below s (own_Pure ((.int (f2_0 p0))) h0 n0) ({ frames := 0, cells := 0, slots := 0, locals := 0 } : Room).cells ({ frames := 0, cells := 0, slots := 0, locals := 0 } : Room).slots T0 (mkF m 24 #[.val (.int x0)] []) := by
    intro T0 locs x0   X0 e0 N0 hf
    refine own_step (T' := T0) (g' := (mkF m 25 #[.val (.int x0)] [(.int x0)])) (fun _ k => XS.iloadN X0.here hx rfl (hb hby d2_24) rfl k) ?_
    refine own_step (T' := T0) (g' := (mkF m 27 #[.val (.int x0)] [(.int (10 : Int32)), (.int x0)])) (fun _ k => XS.bipush X0.here hx rfl (hb hby d2_25) k) ?_
    by_cases hc : x0 = (10 : Int32)
    · refine own_step (T' := T0) (g' := (mkF m 36 #[.val (.int x0)] [])) (fun _ k => XS.icmpYes X0.here hx rfl (pc0 := 27) (pc' := 36) rfl (hb hby d2_27) rfl (teq hc).1 (by decide) (by decide) k) ?_
      exact B36 T0 _ x0   X0 e0 N0 ((if_pos hc).symm.trans hf)
    · refine own_step (T' := T0) (g' := (mkF m 30 #[.val (.int x0)] [])) (fun _ k => XS.icmpNo X0.here hx rfl (hb hby d2_27) rfl (feq hc).1 k) ?_
      exact B30 T0 _ x0   X0 e0 N0 ((if_neg hc).symm.trans hf)
  have B18 : ∀ (T0 : State) (locs : List Loc) (x0 : Int32), Stand p l e ({ frames := 0, cells := 0, slots := 0, locals := 0 } : Room) s m #[(.int p0)] below meth c T0 locs 0 0 → T0.heap = h0 → Fr n0 locs → f2_18 x0 = f2_0 p0 → own_Goes p e below s (own_Pure ((.int (f2_0 p0))) h0 n0) ({ frames := 0, cells := 0, slots := 0, locals := 0 } : Room).cells ({ frames := 0, cells := 0, slots := 0, locals := 0 } : Room).slots T0 (mkF m 18 #[.val (.int x0)] []) := by
    intro T0 locs x0   X0 e0 N0 hf
    refine own_step (T' := T0) (g' := (mkF m 19 #[.val (.int x0)] [(.int x0)])) (fun _ k => XS.iloadN X0.here hx rfl (hb hby d2_18) rfl k) ?_
    refine own_step (T' := T0) (g' := (mkF m 21 #[.val (.int x0)] [(.int (9 : Int32)), (.int x0)])) (fun _ k => XS.bipush X0.here hx rfl (hb hby d2_19) k) ?_
    by_cases hc : x0 = (9 : Int32)
    · refine own_step (T' := T0) (g' := (mkF m 36 #[.val (.int x0)] [])) (fun _ k => XS.icmpYes X0.here hx rfl (pc0 := 21) (pc' := 36) rfl (hb hby d2_21) rfl (teq hc).1 (by decide) (by decide) k) ?_
      exact B36 T0 _ x0   X0 e0 N0 ((if_pos hc).symm.trans hf)
    · refine own_step (T' := T0) (g' := (mkF m 24 #[.val (.int x0)] [])) (fun _ k => XS.icmpNo X0.here hx rfl (hb hby d2_21) rfl (feq hc).1 k) ?_
      exact B24 T0 _ x0   X0 e0 N0 ((if_neg hc).symm.trans hf)
  have B12 : ∀ (T0 : State) (locs : List Loc) (x0 : Int32), Stand p l e ({ frames := 0, cells := 0, slots := 0, locals := 0 } : Room) s m #[(.int p0)] below meth c T0 locs 0 0 → T0.heap = h0 → Fr n0 locs → f2_12 x0 = f2_0 p0 → own_Goes p e below s (own_Pure ((.int (f2_0 p0))) h0 n0) ({ frames := 0, cells := 0, slots := 0, locals := 0 } : Room).cells ({ frames := 0, cells := 0, slots := 0, locals := 0 } : Room).slots T0 (mkF m 12 #[.val (.int x0)] []) := by
    intro T0 locs x0   X0 e0 N0 hf
    refine own_step (T' := T0) (g' := (mkF m 13 #[.val (.int x0)] [(.int x0)])) (fun _ k => XS.iloadN X0.here hx rfl (hb hby d2_12) rfl k) ?_
    refine own_step (T' := T0) (g' := (mkF m 15 #[.val (.int x0)] [(.int (32 : Int32)), (.int x0)])) (fun _ k => XS.bipush X0.here hx rfl (hb hby d2_13) k) ?_
    by_cases hc : x0 < (32 : Int32)
    · refine own_step (T' := T0) (g' := (mkF m 18 #[.val (.int x0)] [])) (fun _ k => XS.icmpNo X0.here hx rfl (hb hby d2_15) rfl (tlt hc).2.1 k) ?_
      exact B18 T0 _ x0   X0 e0 N0 ((if_pos hc).symm.trans hf)
    · refine own_step (T' := T0) (g' := (mkF m 42 #[.val (.int x0)] [])) (fun _ k => XS.icmpYes X0.here hx rfl (pc0 := 15) (pc' := 42) rfl (hb hby d2_15) rfl (flt hc).2.1 (by decide) (by decide) k) ?_
      exact B42 T0 _ x0   X0 e0 N0 ((if_neg hc).symm.trans hf)
  have B10 : ∀ (T0 : State) (locs : List Loc) (x0 : Int32), Stand p l e ({ frames := 0, cells := 0, slots := 0, locals := 0 } : Room) s m #[(.int p0)] below meth c T0 locs 0 0 → T0.heap = h0 → Fr n0 locs → f2_10 = f2_0 p0 → own_Goes p e below s (own_Pure ((.int (f2_0 p0))) h0 n0) ({ frames := 0, cells := 0, slots := 0, locals := 0 } : Room).cells ({ frames := 0, cells := 0, slots := 0, locals := 0 } : Room).slots T0 (mkF m 10 #[.val (.int x0)] []) := by
    intro T0 locs x0   X0 e0 N0 hf
    refine own_step (T' := T0) (g' := (mkF m 11 #[.val (.int x0)] [(.int (0 : Int32))])) (fun _ k => XS.iconst X0.here hx rfl (hb hby d2_10) k) ?_
    exact own_ret X0 Bd (v := some (.int ((0 : Int32) &&& 1))) (fun q => by rw [Bd.returns] at q; cases q) (fun fs q => retN X0 hx (t := .boolean) Bd.returns (by simp) (hb hby d2_11) q) (show own_Pure ((.int (f2_0 p0))) h0 n0 _ _ _ from ⟨congrArg (fun z => some (Value.int z)) hf, N0, e0⟩) (by decide) (by decide)
  have B4 : ∀ (T0 : State) (locs : List Loc) (x0 : Int32), Stand p l e ({ frames := 0, cells := 0, slots := 0, locals := 0 } : Room) s m #[(.int p0)] below meth c T0 locs 0 0 → T0.heap = h0 → Fr n0 locs → f2_4 x0 = f2_0 p0 → own_Goes p e below s (own_Pure ((.int (f2_0 p0))) h0 n0) ({ frames := 0, cells := 0, slots := 0, locals := 0 } : Room).cells ({ frames := 0, cells := 0, slots := 0, locals := 0 } : Room).slots T0 (mkF m 4 #[.val (.int x0)] []) := by
    intro T0 locs x0   X0 e0 N0 hf
    refine own_step (T' := T0) (g' := (mkF m 5 #[.val (.int x0)] [(.int x0)])) (fun _ k => XS.iloadN X0.here hx rfl (hb hby d2_4) rfl k) ?_
    refine own_step (T' := T0) (g' := (mkF m 7 #[.val (.int x0)] [(.int (1114111 : Int32)), (.int x0)])) (fun _ k => X0.ldcInt hx hown (mvT hZ (hw _ (List.mem_of_getElem? (i := 9) rfl))) (g := (mkF m 5 #[.val (.int x0)] [(.int x0)])) rfl (hb hby d2_5) _ k) ?_
    by_cases hc : (1114111 : Int32) < x0
    · refine own_step (T' := T0) (g' := (mkF m 10 #[.val (.int x0)] [])) (fun _ k => XS.icmpNo X0.here hx rfl (hb hby d2_7) rfl (tlt hc).2.2.2 k) ?_
      exact B10 T0 _ x0   X0 e0 N0 ((if_pos hc).symm.trans hf)
    · refine own_step (T' := T0) (g' := (mkF m 12 #[.val (.int x0)] [])) (fun _ k => XS.icmpYes X0.here hx rfl (pc0 := 7) (pc' := 12) rfl (hb hby d2_7) rfl (flt hc).2.2.2 (by decide) (by decide) k) ?_
      exact B12 T0 _ x0   X0 e0 N0 ((if_neg hc).symm.trans hf)
  have B0 : ∀ (T0 : State) (locs : List Loc) (x0 : Int32), Stand p l e ({ frames := 0, cells := 0, slots := 0, locals := 0 } : Room) s m #[(.int p0)] below meth c T0 locs 0 0 → T0.heap = h0 → Fr n0 locs → f2_0 x0 = f2_0 p0 → own_Goes p e below s (own_Pure ((.int (f2_0 p0))) h0 n0) ({ frames := 0, cells := 0, slots := 0, locals := 0 } : Room).cells ({ frames := 0, cells := 0, slots := 0, locals := 0 } : Room).slots T0 (mkF m 0 #[.val (.int x0)] []) := by
    intro T0 locs x0   X0 e0 N0 hf
    refine own_step (T' := T0) (g' := (mkF m 1 #[.val (.int x0)] [(.int x0)])) (fun _ k => XS.iloadN X0.here hx rfl (hb hby d2_0) rfl k) ?_
    by_cases hc : x0 < (0 : Int32)
    · refine own_step (T' := T0) (g' := (mkF m 10 #[.val (.int x0)] [])) (fun _ k => XS.ifYes X0.here hx rfl (pc0 := 1) (pc' := 10) rfl (hb hby d2_1) rfl ((if0 _ _).trans (tlt hc).1) (by decide) (by decide) k) ?_
      exact B10 T0 _ x0   X0 e0 N0 ((if_pos hc).symm.trans hf)
    · refine own_step (T' := T0) (g' := (mkF m 4 #[.val (.int x0)] [])) (fun _ k => XS.ifNo X0.here hx rfl (hb hby d2_1) rfl ((if0 _ _).trans (flt hc).1) k) ?_
      exact B4 T0 _ x0   X0 e0 N0 ((if_neg hc).symm.trans hf)
  have hB := B0 s₁ [] p0  X00 e00 (Fr.nil n0) rfl
  obtain ⟨s₂, o, q1, q2, q3, v, L, q4, q5, q6⟩ := hB
  exact ⟨s₂, o, castTop (ef_2 m p0) q1, q2, q3, v, L, q4, q5, q6⟩
set_option maxRecDepth 65536 in
set_option maxHeartbeats 40000000 in
theorem rm0 (l : Launch) (Z : State) (a0 : Array Value) (hw : ∀ d ∈ tables_1, d.before a0 Z = true) (ws : List Jvm.Cond) (p0 : Int32) (p1 : Int32) (p2 : Int32) (h0 : Heap) (n0 : Nat) (Z0 : n0 ≤ h0.size) (hlaw : f0_0 p0 p1 p2 = 1) :
    MetFree l x (head1 (Jvm.Cond.code x code maxLocals ret :: ws) room_1) (fun a U => a = #[(.int p0), (.int p1), (.int p2)] ∧ Z.Warmed39 U.vm ∧ U.heap = h0) (fun _ _ _ _ _ => True) (fun _ U o U' => ∃ v L, o = .returned v ∧ own_Law n0 v U'.heap L ∧ FrameEnd U o U' L 16 128) := by
  refine MetFree.of_bodySF (plainFor_of_name pn_0) hisR ?_
  intro p e s m args below meth c s₁ Bd hml0 hP hK
  obtain ⟨rfl, hZ, hh0⟩ := hP
  have hx := Bd.exec
  have hby := Bd.bytes
  have hml : c.maxLocals = 7 := hml0
  have hown : s.vm.findClass "com/example/willow_graft/willowgraft/tree/XmlNamesIsCharPinLaw" = some m.cls := findClass_of_methodNamed Bd.named
  have X00 : Stand p l e room_1 s m #[(.int p0), (.int p1), (.int p2)] below meth c s₁ [] 0 0 := Stand.of_body Bd
  have e00 : s₁.heap = h0 := by rw [← hh0, Bd.state]; rfl
  have B188 : ∀ (T0 : State) (locs : List Loc) (x0 : Int32) (x1 : Int32) (x2 : Int32) (x3 : Addr) (x4 : Int32) (x5 : Int32) (x6 : Int32) (t0 : Int32) (hh : Heap), n0 ≤ hh.size → ∀ (k_x3 : ClassId), Arv Z hh x3 k_x3 .int (20 : Int32) [(.int (0 : Int32)), (.int (9 : Int32)), (.int (10 : Int32)), (.int (11 : Int32)), (.int (13 : Int32)), (.int (14 : Int32)), (.int (31 : Int32)), (.int (32 : Int32)), (.int (55295 : Int32)), (.int (55296 : Int32)), (.int (57343 : Int32)), (.int (57344 : Int32)), (.int (65533 : Int32)), (.int (65534 : Int32)), (.int (65535 : Int32)), (.int (65536 : Int32)), (.int (1114111 : Int32)), (.int (1114112 : Int32)), (.int (-2147483648 : Int32)), (.int (2147483647 : Int32))] (.int (0 : Int32)) → Stand p l e room_1 s m #[(.int p0), (.int p1), (.int p2)] below meth c T0 locs 1 20 → T0.heap = hh → Fr n0 locs → f0_188 t0 = 1 → own_Goes p e below s (own_Law n0) 16 128 T0 (mkF m 188 #[.val (.int x0), .val (.int x1), .val (.int x2), .val (.ref x3), .val (.int x4), .val (.int x5), .val (.int x6)] [(.int t0)]) := by
    intro T0 locs x0 x1 x2 x3 x4 x5 x6 t0 hh Zh k_x3 V_x3 X0 e0 N0 hf
    exact own_ret X0 Bd (v := some (.int (t0 &&& 1))) (fun q => by rw [Bd.returns] at q; cases q) (fun fs q => retN X0 hx (t := .boolean) Bd.returns (by simp) (hb hby at_188) q) (show own_Law n0 _ _ _ from ⟨congrArg (fun z => some (Value.int z)) hf, N0⟩) (by decide) (by decide)
  have B187 : ∀ (T0 : State) (locs : List Loc) (x0 : Int32) (x1 : Int32) (x2 : Int32) (x3 : Addr) (x4 : Int32) (x5 : Int32) (x6 : Int32) (hh : Heap), n0 ≤ hh.size → ∀ (k_x3 : ClassId), Arv Z hh x3 k_x3 .int (20 : Int32) [(.int (0 : Int32)), (.int (9 : Int32)), (.int (10 : Int32)), (.int (11 : Int32)), (.int (13 : Int32)), (.int (14 : Int32)), (.int (31 : Int32)), (.int (32 : Int32)), (.int (55295 : Int32)), (.int (55296 : Int32)), (.int (57343 : Int32)), (.int (57344 : Int32)), (.int (65533 : Int32)), (.int (65534 : Int32)), (.int (65535 : Int32)), (.int (65536 : Int32)), (.int (1114111 : Int32)), (.int (1114112 : Int32)), (.int (-2147483648 : Int32)), (.int (2147483647 : Int32))] (.int (0 : Int32)) → Stand p l e room_1 s m #[(.int p0), (.int p1), (.int p2)] below meth c T0 locs 1 20 → T0.heap = hh → Fr n0 locs → f0_187 = 1 → own_Goes p e below s (own_Law n0) 16 128 T0 (mkF m 187 #[.val (.int x0), .val (.int x1), .val (.int x2), .val (.ref x3), .val (.int x4), .val (.int x5), .val (.int x6)] []) := by
    intro T0 locs x0 x1 x2 x3 x4 x5 x6 hh Zh k_x3 V_x3 X0 e0 N0 hf
    refine own_step (T' := T0) (g' := (mkF m 188 #[.val (.int x0), .val (.int x1), .val (.int x2), .val (.ref x3), .val (.int x4), .val (.int x5), .val (.int x6)] [(.int (0 : Int32))])) (fun _ k => XS.iconst X0.here hx rfl (hb hby at_187) k) ?_
    exact B188 T0 _ x0 x1 x2 x3 x4 x5 x6 (0 : Int32) hh Zh k_x3 V_x3 X0 e0 N0 hf
  have B183 : ∀ (T0 : State) (locs : List Loc) (x0 : Int32) (x1 : Int32) (x2 : Int32) (x3 : Addr) (x4 : Int32) (x5 : Int32) (x6 : Int32) (hh : Heap), n0 ≤ hh.size → ∀ (k_x3 : ClassId), Arv Z hh x3 k_x3 .int (20 : Int32) [(.int (0 : Int32)), (.int (9 : Int32)), (.int (10 : Int32)), (.int (11 : Int32)), (.int (13 : Int32)), (.int (14 : Int32)), (.int (31 : Int32)), (.int (32 : Int32)), (.int (55295 : Int32)), (.int (55296 : Int32)), (.int (57343 : Int32)), (.int (57344 : Int32)), (.int (65533 : Int32)), (.int (65534 : Int32)), (.int (65535 : Int32)), (.int (65536 : Int32)), (.int (1114111 : Int32)), (.int (1114112 : Int32)), (.int (-2147483648 : Int32)), (.int (2147483647 : Int32))] (.int (0 : Int32)) → Stand p l e room_1 s m #[(.int p0), (.int p1), (.int p2)] below meth c T0 locs 1 20 → T0.heap = hh → Fr n0 locs → f0_183 = 1 → own_Goes p e below s (own_Law n0) 16 128 T0 (mkF m 183 #[.val (.int x0), .val (.int x1), .val (.int x2), .val (.ref x3), .val (.int x4), .val (.int x5), .val (.int x6)] []) := by
    intro T0 locs x0 x1 x2 x3 x4 x5 x6 hh Zh k_x3 V_x3 X0 e0 N0 hf
    refine own_step (T' := T0) (g' := (mkF m 184 #[.val (.int x0), .val (.int x1), .val (.int x2), .val (.ref x3), .val (.int x4), .val (.int x5), .val (.int x6)] [(.int (1 : Int32))])) (fun _ k => XS.iconst X0.here hx rfl (hb hby at_183) k) ?_
    refine own_step (T' := T0) (g' := (mkF m 188 #[.val (.int x0), .val (.int x1), .val (.int x2), .val (.ref x3), .val (.int x4), .val (.int x5), .val (.int x6)] [(.int (1 : Int32))])) (fun _ k => XS.goto X0.here hx rfl (pc0 := 184) (pc' := 188) rfl (hb hby at_184) (by decide) (by decide) k) ?_
    exact B188 T0 _ x0 x1 x2 x3 x4 x5 x6 (1 : Int32) hh Zh k_x3 V_x3 X0 e0 N0 hf
  have B178 : ∀ (T0 : State) (locs : List Loc) (x0 : Int32) (x1 : Int32) (x2 : Int32) (x3 : Addr) (x4 : Int32) (x5 : Int32) (x6 : Int32) (hh : Heap), n0 ≤ hh.size → ∀ (k_x3 : ClassId), Arv Z hh x3 k_x3 .int (20 : Int32) [(.int (0 : Int32)), (.int (9 : Int32)), (.int (10 : Int32)), (.int (11 : Int32)), (.int (13 : Int32)), (.int (14 : Int32)), (.int (31 : Int32)), (.int (32 : Int32)), (.int (55295 : Int32)), (.int (55296 : Int32)), (.int (57343 : Int32)), (.int (57344 : Int32)), (.int (65533 : Int32)), (.int (65534 : Int32)), (.int (65535 : Int32)), (.int (65536 : Int32)), (.int (1114111 : Int32)), (.int (1114112 : Int32)), (.int (-2147483648 : Int32)), (.int (2147483647 : Int32))] (.int (0 : Int32)) → Stand p l e room_1 s m #[(.int p0), (.int p1), (.int p2)] below meth c T0 locs 1 20 → T0.heap = hh → Fr n0 locs → f0_178 x6 = 1 → own_Goes p e below s (own_Law n0) 16 128 T0 (mkF m 178 #[.val (.int x0), .val (.int x1), .val (.int x2), .val (.ref x3), .val (.int x4), .val (.int x5), .val (.int x6)] []) := by
    intro T0 locs x0 x1 x2 x3 x4 x5 x6 hh Zh k_x3 V_x3 X0 e0 N0 hf
    refine own_step (T' := T0) (g' := (mkF m 180 #[.val (.int x0), .val (.int x1), .val (.int x2), .val (.ref x3), .val (.int x4), .val (.int x5), .val (.int x6)] [(.int x6)])) (fun _ k => XS.iload X0.here hx rfl (hb hby at_178) rfl k) ?_
    by_cases hc : x6 = (0 : Int32)
    · refine own_step (T' := T0) (g' := (mkF m 187 #[.val (.int x0), .val (.int x1), .val (.int x2), .val (.ref x3), .val (.int x4), .val (.int x5), .val (.int x6)] [])) (fun _ k => XS.ifYes X0.here hx rfl (pc0 := 180) (pc' := 187) rfl (hb hby at_180) rfl ((if0 _ _).trans (teq hc).1) (by decide) (by decide) k) ?_
      exact B187 T0 _ x0 x1 x2 x3 x4 x5 x6 hh Zh k_x3 V_x3 X0 e0 N0 ((if_pos hc).symm.trans hf)
    · refine own_step (T' := T0) (g' := (mkF m 183 #[.val (.int x0), .val (.int x1), .val (.int x2), .val (.ref x3), .val (.int x4), .val (.int x5), .val (.int x6)] [])) (fun _ k => XS.ifNo X0.here hx rfl (hb hby at_180) rfl ((if0 _ _).trans (feq hc).1) k) ?_
      exact B183 T0 _ x0 x1 x2 x3 x4 x5 x6 hh Zh k_x3 V_x3 X0 e0 N0 ((if_neg hc).symm.trans hf)
  have B171 : ∀ (T0 : State) (locs : List Loc) (x0 : Int32) (x1 : Int32) (x2 : Int32) (x3 : Addr) (x4 : Int32) (x5 : Int32) (t0 : Int32) (hh : Heap), n0 ≤ hh.size → ∀ (k_x3 : ClassId), Arv Z hh x3 k_x3 .int (20 : Int32) [(.int (0 : Int32)), (.int (9 : Int32)), (.int (10 : Int32)), (.int (11 : Int32)), (.int (13 : Int32)), (.int (14 : Int32)), (.int (31 : Int32)), (.int (32 : Int32)), (.int (55295 : Int32)), (.int (55296 : Int32)), (.int (57343 : Int32)), (.int (57344 : Int32)), (.int (65533 : Int32)), (.int (65534 : Int32)), (.int (65535 : Int32)), (.int (65536 : Int32)), (.int (1114111 : Int32)), (.int (1114112 : Int32)), (.int (-2147483648 : Int32)), (.int (2147483647 : Int32))] (.int (0 : Int32)) → Stand p l e room_1 s m #[(.int p0), (.int p1), (.int p2)] below meth c T0 locs 1 20 → T0.heap = hh → Fr n0 locs → f0_171 x5 t0 = 1 → own_Goes p e below s (own_Law n0) 16 128 T0 (mkF m 171 #[.val (.int x0), .val (.int x1), .val (.int x2), .val (.ref x3), .val (.int x4), .val (.int x5), .unset] [(.int t0)]) := by
    intro T0 locs x0 x1 x2 x3 x4 x5 t0 hh Zh k_x3 V_x3 X0 e0 N0 hf
    refine own_step (T' := T0) (g' := (mkF m 173 #[.val (.int x0), .val (.int x1), .val (.int x2), .val (.ref x3), .val (.int x4), .val (.int x5), .val (.int t0)] [])) (fun _ k => XS.istore X0.here hx rfl (hb hby at_171) rfl (l' := #[.val (.int x0), .val (.int x1), .val (.int x2), .val (.ref x3), .val (.int x4), .val (.int x5), .val (.int t0)]) rfl k) ?_
    refine own_step (T' := T0) (g' := (mkF m 175 #[.val (.int x0), .val (.int x1), .val (.int x2), .val (.ref x3), .val (.int x4), .val (.int x5), .val (.int t0)] [(.int x5)])) (fun _ k => XS.iload X0.here hx rfl (hb hby at_173) rfl k) ?_
    by_cases hc : x5 = (0 : Int32)
    · refine own_step (T' := T0) (g' := (mkF m 187 #[.val (.int x0), .val (.int x1), .val (.int x2), .val (.ref x3), .val (.int x4), .val (.int x5), .val (.int t0)] [])) (fun _ k => XS.ifYes X0.here hx rfl (pc0 := 175) (pc' := 187) rfl (hb hby at_175) rfl ((if0 _ _).trans (teq hc).1) (by decide) (by decide) k) ?_
      exact B187 T0 _ x0 x1 x2 x3 x4 x5 t0 hh Zh k_x3 V_x3 X0 e0 N0 ((if_pos hc).symm.trans hf)
    · refine own_step (T' := T0) (g' := (mkF m 178 #[.val (.int x0), .val (.int x1), .val (.int x2), .val (.ref x3), .val (.int x4), .val (.int x5), .val (.int t0)] [])) (fun _ k => XS.ifNo X0.here hx rfl (hb hby at_175) rfl ((if0 _ _).trans (feq hc).1) k) ?_
      exact B178 T0 _ x0 x1 x2 x3 x4 x5 t0 hh Zh k_x3 V_x3 X0 e0 N0 ((if_neg hc).symm.trans hf)
  have B170 : ∀ (T0 : State) (locs : List Loc) (x0 : Int32) (x1 : Int32) (x2 : Int32) (x3 : Addr) (x4 : Int32) (x5 : Int32) (hh : Heap), n0 ≤ hh.size → ∀ (k_x3 : ClassId), Arv Z hh x3 k_x3 .int (20 : Int32) [(.int (0 : Int32)), (.int (9 : Int32)), (.int (10 : Int32)), (.int (11 : Int32)), (.int (13 : Int32)), (.int (14 : Int32)), (.int (31 : Int32)), (.int (32 : Int32)), (.int (55295 : Int32)), (.int (55296 : Int32)), (.int (57343 : Int32)), (.int (57344 : Int32)), (.int (65533 : Int32)), (.int (65534 : Int32)), (.int (65535 : Int32)), (.int (65536 : Int32)), (.int (1114111 : Int32)), (.int (1114112 : Int32)), (.int (-2147483648 : Int32)), (.int (2147483647 : Int32))] (.int (0 : Int32)) → Stand p l e room_1 s m #[(.int p0), (.int p1), (.int p2)] below meth c T0 locs 1 20 → T0.heap = hh → Fr n0 locs → f0_170 x5 = 1 → own_Goes p e below s (own_Law n0) 16 128 T0 (mkF m 170 #[.val (.int x0), .val (.int x1), .val (.int x2), .val (.ref x3), .val (.int x4), .val (.int x5), .unset] []) := by
    intro T0 locs x0 x1 x2 x3 x4 x5 hh Zh k_x3 V_x3 X0 e0 N0 hf
    refine own_step (T' := T0) (g' := (mkF m 171 #[.val (.int x0), .val (.int x1), .val (.int x2), .val (.ref x3), .val (.int x4), .val (.int x5), .unset] [(.int (0 : Int32))])) (fun _ k => XS.iconst X0.here hx rfl (hb hby at_170) k) ?_
    exact B171 T0 _ x0 x1 x2 x3 x4 x5 (0 : Int32) hh Zh k_x3 V_x3 X0 e0 N0 hf
  have B166 : ∀ (T0 : State) (locs : List Loc) (x0 : Int32) (x1 : Int32) (x2 : Int32) (x3 : Addr) (x4 : Int32) (x5 : Int32) (hh : Heap), n0 ≤ hh.size → ∀ (k_x3 : ClassId), Arv Z hh x3 k_x3 .int (20 : Int32) [(.int (0 : Int32)), (.int (9 : Int32)), (.int (10 : Int32)), (.int (11 : Int32)), (.int (13 : Int32)), (.int (14 : Int32)), (.int (31 : Int32)), (.int (32 : Int32)), (.int (55295 : Int32)), (.int (55296 : Int32)), (.int (57343 : Int32)), (.int (57344 : Int32)), (.int (65533 : Int32)), (.int (65534 : Int32)), (.int (65535 : Int32)), (.int (65536 : Int32)), (.int (1114111 : Int32)), (.int (1114112 : Int32)), (.int (-2147483648 : Int32)), (.int (2147483647 : Int32))] (.int (0 : Int32)) → Stand p l e room_1 s m #[(.int p0), (.int p1), (.int p2)] below meth c T0 locs 1 20 → T0.heap = hh → Fr n0 locs → f0_166 x5 = 1 → own_Goes p e below s (own_Law n0) 16 128 T0 (mkF m 166 #[.val (.int x0), .val (.int x1), .val (.int x2), .val (.ref x3), .val (.int x4), .val (.int x5), .unset] []) := by
    intro T0 locs x0 x1 x2 x3 x4 x5 hh Zh k_x3 V_x3 X0 e0 N0 hf
    refine own_step (T' := T0) (g' := (mkF m 167 #[.val (.int x0), .val (.int x1), .val (.int x2), .val (.ref x3), .val (.int x4), .val (.int x5), .unset] [(.int (1 : Int32))])) (fun _ k => XS.iconst X0.here hx rfl (hb hby at_166) k) ?_
    refine own_step (T' := T0) (g' := (mkF m 171 #[.val (.int x0), .val (.int x1), .val (.int x2), .val (.ref x3), .val (.int x4), .val (.int x5), .unset] [(.int (1 : Int32))])) (fun _ k => XS.goto X0.here hx rfl (pc0 := 167) (pc' := 171) rfl (hb hby at_167) (by decide) (by decide) k) ?_
    exact B171 T0 _ x0 x1 x2 x3 x4 x5 (1 : Int32) hh Zh k_x3 V_x3 X0 e0 N0 hf
  have B151 : ∀ (T0 : State) (locs : List Loc) (x0 : Int32) (x1 : Int32) (x2 : Int32) (x3 : Addr) (x4 : Int32) (t0 : Int32) (hh : Heap), n0 ≤ hh.size → ∀ (k_x3 : ClassId), Arv Z hh x3 k_x3 .int (20 : Int32) [(.int (0 : Int32)), (.int (9 : Int32)), (.int (10 : Int32)), (.int (11 : Int32)), (.int (13 : Int32)), (.int (14 : Int32)), (.int (31 : Int32)), (.int (32 : Int32)), (.int (55295 : Int32)), (.int (55296 : Int32)), (.int (57343 : Int32)), (.int (57344 : Int32)), (.int (65533 : Int32)), (.int (65534 : Int32)), (.int (65535 : Int32)), (.int (65536 : Int32)), (.int (1114111 : Int32)), (.int (1114112 : Int32)), (.int (-2147483648 : Int32)), (.int (2147483647 : Int32))] (.int (0 : Int32)) → Stand p l e room_1 s m #[(.int p0), (.int p1), (.int p2)] below meth c T0 locs 1 20 → T0.heap = hh → Fr n0 locs → f0_151 x4 t0 = 1 → own_Goes p e below s (own_Law n0) 16 128 T0 (mkF m 151 #[.val (.int x0), .val (.int x1), .val (.int x2), .val (.ref x3), .val (.int x4), .unset, .unset] [(.int t0)]) := by
    intro T0 locs x0 x1 x2 x3 x4 t0 hh Zh k_x3 V_x3 X0 e0 N0 hf
    refine own_step (T' := T0) (g' := (mkF m 153 #[.val (.int x0), .val (.int x1), .val (.int x2), .val (.ref x3), .val (.int x4), .val (.int t0), .unset] [])) (fun _ k => XS.istore X0.here hx rfl (hb hby at_151) rfl (l' := #[.val (.int x0), .val (.int x1), .val (.int x2), .val (.ref x3), .val (.int x4), .val (.int t0), .unset]) rfl k) ?_
    refine own_step (T' := T0) (g' := (mkF m 155 #[.val (.int x0), .val (.int x1), .val (.int x2), .val (.ref x3), .val (.int x4), .val (.int t0), .unset] [(.int x4)])) (fun _ k => XS.iload X0.here hx rfl (hb hby at_153) rfl k) ?_
    obtain ⟨_, _, ⟨T1, L1, k1, n1⟩, -, X1, ⟨Lc1, hQ1, l1, y1, z1⟩, st1⟩ := Jvm.LawKit.callS X0 hx (y := (⟨"com/example/willow_graft/willowgraft/tree/XmlNames", "isChar", "(I)Z"⟩ : MethodName)) hown (mvT hZ (hw _ (List.mem_of_getElem? (i := 13) rfl))) (mvT hZ (hw _ (List.mem_of_getElem? (i := 14) rfl))) (mvT hZ (hw _ (List.mem_of_getElem? (i := 15) rfl))) (mvT hZ (hw _ (List.mem_of_getElem? (i := 16) rfl))) (by decide) (backOf (W := 0) (rm1 l Z a0 hw [] x4 hh n0 Zh) hZ (hw _ (List.mem_of_getElem? (i := 16) rfl)) (hw _ (List.mem_of_getElem? (i := 15) rfl)) (by decide) (by decide)) (g := (mkF m 155 #[.val (.int x0), .val (.int x1), .val (.int x2), .val (.ref x3), .val (.int x4), .val (.int t0), .unset] [(.int x4)])) rfl (by rw [hml]; rfl) (argsL := [(.int x4)]) (rest := []) (lenOf pd_0 rfl) rfl (by show 2 * 0 + _ ≤ _; exact Nat.le_of_eq rfl) (hb hby at_155) (fun _ _ => ⟨rfl, e0, (by decide : 1 + 0 ≤ _), (by decide : 20 + 0 ≤ _)⟩)
    dsimp only [Pt.U, Pt.locs, Pt.cells, Pt.slots] at X1 l1 y1 z1 st1 hQ1
    subst l1 y1 z1
    obtain ⟨rfl, N1q, e1⟩ := hQ1
    have N1 := Fr.app N0 N1q
    refine own_step (T' := T1) (g' := (mkF m 158 #[.val (.int x0), .val (.int x1), .val (.int x2), .val (.ref x3), .val (.int x4), .val (.int t0), .unset] [(.int (f1_0 x4))])) (fun _ k => st1 _ k) ?_
    refine own_step (T' := T1) (g' := (mkF m 160 #[.val (.int x0), .val (.int x1), .val (.int x2), .val (.ref x3), .val (.int x4), .val (.int t0), .unset] [(.int x4), (.int (f1_0 x4))])) (fun _ k => XS.iload X1.here hx rfl (hb hby at_158) rfl k) ?_
    obtain ⟨_, _, ⟨T2, L2, k2, n2⟩, -, X2, ⟨Lc2, hQ2, l2, y2, z2⟩, st2⟩ := Jvm.LawKit.callS X1 hx (y := (⟨"com/example/willow_graft/willowgraft/tree/XmlNamesIsCharPinLaw", "ref", "(I)Z"⟩ : MethodName)) hown (mvT hZ (hw _ (List.mem_of_getElem? (i := 19) rfl))) (mvT hZ (hw _ (List.mem_of_getElem? (i := 20) rfl))) (mvT hZ (hw _ (List.mem_of_getElem? (i := 21) rfl))) (mvT hZ (hw _ (List.mem_of_getElem? (i := 22) rfl))) (by decide) (backOf (W := 1) (rm2 l Z a0 hw [] x4 hh n0 Zh) hZ (hw _ (List.mem_of_getElem? (i := 22) rfl)) (hw _ (List.mem_of_getElem? (i := 21) rfl)) (by decide) (by decide)) (g := (mkF m 160 #[.val (.int x0), .val (.int x1), .val (.int x2), .val (.ref x3), .val (.int x4), .val (.int t0), .unset] [(.int x4), (.int (f1_0 x4))])) rfl (by rw [hml]; rfl) (argsL := [(.int x4)]) (rest := [(.int (f1_0 x4))]) (lenOf pd_0 rfl) rfl (by show 2 * 0 + _ ≤ _; exact Nat.le_of_eq rfl) (hb hby at_160) (fun _ _ => ⟨rfl, e1, (by decide : 1 + 0 ≤ _), (by decide : 20 + 0 ≤ _)⟩)
    dsimp only [Pt.U, Pt.locs, Pt.cells, Pt.slots] at X2 l2 y2 z2 st2 hQ2
    subst l2 y2 z2
    obtain ⟨rfl, N2q, e2⟩ := hQ2
    have N2 := Fr.app N1 N2q
    refine own_step (T' := T2) (g' := (mkF m 163 #[.val (.int x0), .val (.int x1), .val (.int x2), .val (.ref x3), .val (.int x4), .val (.int t0), .unset] [(.int (f2_0 x4)), (.int (f1_0 x4))])) (fun _ k => st2 _ k) ?_
    by_cases hc : (f1_0 x4) = (f2_0 x4)
    · refine own_step (T' := T2) (g' := (mkF m 166 #[.val (.int x0), .val (.int x1), .val (.int x2), .val (.ref x3), .val (.int x4), .val (.int t0), .unset] [])) (fun _ k => XS.icmpNo X2.here hx rfl (hb hby at_163) rfl (teq hc).2 k) ?_
      exact B166 T2 _ x0 x1 x2 x3 x4 t0 hh Zh k_x3 V_x3 X2 e2 N2 ((if_pos hc).symm.trans hf)
    · refine own_step (T' := T2) (g' := (mkF m 170 #[.val (.int x0), .val (.int x1), .val (.int x2), .val (.ref x3), .val (.int x4), .val (.int t0), .unset] [])) (fun _ k => XS.icmpYes X2.here hx rfl (pc0 := 163) (pc' := 170) rfl (hb hby at_163) rfl (feq hc).2 (by decide) (by decide) k) ?_
      exact B170 T2 _ x0 x1 x2 x3 x4 t0 hh Zh k_x3 V_x3 X2 e2 N2 ((if_neg hc).symm.trans hf)
  have B150 : ∀ (T0 : State) (locs : List Loc) (x0 : Int32) (x1 : Int32) (x2 : Int32) (x3 : Addr) (x4 : Int32) (hh : Heap), n0 ≤ hh.size → ∀ (k_x3 : ClassId), Arv Z hh x3 k_x3 .int (20 : Int32) [(.int (0 : Int32)), (.int (9 : Int32)), (.int (10 : Int32)), (.int (11 : Int32)), (.int (13 : Int32)), (.int (14 : Int32)), (.int (31 : Int32)), (.int (32 : Int32)), (.int (55295 : Int32)), (.int (55296 : Int32)), (.int (57343 : Int32)), (.int (57344 : Int32)), (.int (65533 : Int32)), (.int (65534 : Int32)), (.int (65535 : Int32)), (.int (65536 : Int32)), (.int (1114111 : Int32)), (.int (1114112 : Int32)), (.int (-2147483648 : Int32)), (.int (2147483647 : Int32))] (.int (0 : Int32)) → Stand p l e room_1 s m #[(.int p0), (.int p1), (.int p2)] below meth c T0 locs 1 20 → T0.heap = hh → Fr n0 locs → f0_150 x4 = 1 → own_Goes p e below s (own_Law n0) 16 128 T0 (mkF m 150 #[.val (.int x0), .val (.int x1), .val (.int x2), .val (.ref x3), .val (.int x4), .unset, .unset] []) := by
    intro T0 locs x0 x1 x2 x3 x4 hh Zh k_x3 V_x3 X0 e0 N0 hf
    refine own_step (T' := T0) (g' := (mkF m 151 #[.val (.int x0), .val (.int x1), .val (.int x2), .val (.ref x3), .val (.int x4), .unset, .unset] [(.int (0 : Int32))])) (fun _ k => XS.iconst X0.here hx rfl (hb hby at_150) k) ?_
    exact B151 T0 _ x0 x1 x2 x3 x4 (0 : Int32) hh Zh k_x3 V_x3 X0 e0 N0 hf
  have B146 : ∀ (T0 : State) (locs : List Loc) (x0 : Int32) (x1 : Int32) (x2 : Int32) (x3 : Addr) (x4 : Int32) (hh : Heap), n0 ≤ hh.size → ∀ (k_x3 : ClassId), Arv Z hh x3 k_x3 .int (20 : Int32) [(.int (0 : Int32)), (.int (9 : Int32)), (.int (10 : Int32)), (.int (11 : Int32)), (.int (13 : Int32)), (.int (14 : Int32)), (.int (31 : Int32)), (.int (32 : Int32)), (.int (55295 : Int32)), (.int (55296 : Int32)), (.int (57343 : Int32)), (.int (57344 : Int32)), (.int (65533 : Int32)), (.int (65534 : Int32)), (.int (65535 : Int32)), (.int (65536 : Int32)), (.int (1114111 : Int32)), (.int (1114112 : Int32)), (.int (-2147483648 : Int32)), (.int (2147483647 : Int32))] (.int (0 : Int32)) → Stand p l e room_1 s m #[(.int p0), (.int p1), (.int p2)] below meth c T0 locs 1 20 → T0.heap = hh → Fr n0 locs → f0_146 x4 = 1 → own_Goes p e below s (own_Law n0) 16 128 T0 (mkF m 146 #[.val (.int x0), .val (.int x1), .val (.int x2), .val (.ref x3), .val (.int x4), .unset, .unset] []) := by
    intro T0 locs x0 x1 x2 x3 x4 hh Zh k_x3 V_x3 X0 e0 N0 hf
    refine own_step (T' := T0) (g' := (mkF m 147 #[.val (.int x0), .val (.int x1), .val (.int x2), .val (.ref x3), .val (.int x4), .unset, .unset] [(.int (1 : Int32))])) (fun _ k => XS.iconst X0.here hx rfl (hb hby at_146) k) ?_
    refine own_step (T' := T0) (g' := (mkF m 151 #[.val (.int x0), .val (.int x1), .val (.int x2), .val (.ref x3), .val (.int x4), .unset, .unset] [(.int (1 : Int32))])) (fun _ k => XS.goto X0.here hx rfl (pc0 := 147) (pc' := 151) rfl (hb hby at_147) (by decide) (by decide) k) ?_
    exact B151 T0 _ x0 x1 x2 x3 x4 (1 : Int32) hh Zh k_x3 V_x3 X0 e0 N0 hf
  have B135 : ∀ (T0 : State) (locs : List Loc) (x0 : Int32) (x1 : Int32) (x2 : Int32) (x3 : Addr) (x4 : Int32) (hh : Heap), n0 ≤ hh.size → ∀ (k_x3 : ClassId), Arv Z hh x3 k_x3 .int (20 : Int32) [(.int (0 : Int32)), (.int (9 : Int32)), (.int (10 : Int32)), (.int (11 : Int32)), (.int (13 : Int32)), (.int (14 : Int32)), (.int (31 : Int32)), (.int (32 : Int32)), (.int (55295 : Int32)), (.int (55296 : Int32)), (.int (57343 : Int32)), (.int (57344 : Int32)), (.int (65533 : Int32)), (.int (65534 : Int32)), (.int (65535 : Int32)), (.int (65536 : Int32)), (.int (1114111 : Int32)), (.int (1114112 : Int32)), (.int (-2147483648 : Int32)), (.int (2147483647 : Int32))] (.int (0 : Int32)) → Stand p l e room_1 s m #[(.int p0), (.int p1), (.int p2)] below meth c T0 locs 1 20 → T0.heap = hh → Fr n0 locs → f0_135 x0 x4 = 1 → own_Goes p e below s (own_Law n0) 16 128 T0 (mkF m 135 #[.val (.int x0), .val (.int x1), .val (.int x2), .val (.ref x3), .val (.int x4), .unset, .unset] []) := by
    intro T0 locs x0 x1 x2 x3 x4 hh Zh k_x3 V_x3 X0 e0 N0 hf
    refine own_step (T' := T0) (g' := (mkF m 136 #[.val (.int x0), .val (.int x1), .val (.int x2), .val (.ref x3), .val (.int x4), .unset, .unset] [(.int x0)])) (fun _ k => XS.iloadN X0.here hx rfl (hb hby at_135) rfl k) ?_
    obtain ⟨_, _, ⟨T1, L1, k1, n1⟩, -, X1, ⟨Lc1, hQ1, l1, y1, z1⟩, st1⟩ := Jvm.LawKit.callS X0 hx (y := (⟨"com/example/willow_graft/willowgraft/tree/XmlNames", "isChar", "(I)Z"⟩ : MethodName)) hown (mvT hZ (hw _ (List.mem_of_getElem? (i := 13) rfl))) (mvT hZ (hw _ (List.mem_of_getElem? (i := 14) rfl))) (mvT hZ (hw _ (List.mem_of_getElem? (i := 15) rfl))) (mvT hZ (hw _ (List.mem_of_getElem? (i := 16) rfl))) (by decide) (backOf (W := 0) (rm1 l Z a0 hw [] x0 hh n0 Zh) hZ (hw _ (List.mem_of_getElem? (i := 16) rfl)) (hw _ (List.mem_of_getElem? (i := 15) rfl)) (by decide) (by decide)) (g := (mkF m 136 #[.val (.int x0), .val (.int x1), .val (.int x2), .val (.ref x3), .val (.int x4), .unset, .unset] [(.int x0)])) rfl (by rw [hml]; rfl) (argsL := [(.int x0)]) (rest := []) (lenOf pd_0 rfl) rfl (by show 2 * 0 + _ ≤ _; exact Nat.le_of_eq rfl) (hb hby at_136) (fun _ _ => ⟨rfl, e0, (by decide : 1 + 0 ≤ _), (by decide : 20 + 0 ≤ _)⟩)
    dsimp only [Pt.U, Pt.locs, Pt.cells, Pt.slots] at X1 l1 y1 z1 st1 hQ1
    subst l1 y1 z1
    obtain ⟨rfl, N1q, e1⟩ := hQ1
    have N1 := Fr.app N0 N1q
    refine own_step (T' := T1) (g' := (mkF m 139 #[.val (.int x0), .val (.int x1), .val (.int x2), .val (.ref x3), .val (.int x4), .unset, .unset] [(.int (f1_0 x0))])) (fun _ k => st1 _ k) ?_
    refine own_step (T' := T1) (g' := (mkF m 140 #[.val (.int x0), .val (.int x1), .val (.int x2), .val (.ref x3), .val (.int x4), .unset, .unset] [(.int x0), (.int (f1_0 x0))])) (fun _ k => XS.iloadN X1.here hx rfl (hb hby at_139) rfl k) ?_
    obtain ⟨_, _, ⟨T2, L2, k2, n2⟩, -, X2, ⟨Lc2, hQ2, l2, y2, z2⟩, st2⟩ := Jvm.LawKit.callS X1 hx (y := (⟨"com/example/willow_graft/willowgraft/tree/XmlNamesIsCharPinLaw", "ref", "(I)Z"⟩ : MethodName)) hown (mvT hZ (hw _ (List.mem_of_getElem? (i := 19) rfl))) (mvT hZ (hw _ (List.mem_of_getElem? (i := 20) rfl))) (mvT hZ (hw _ (List.mem_of_getElem? (i := 21) rfl))) (mvT hZ (hw _ (List.mem_of_getElem? (i := 22) rfl))) (by decide) (backOf (W := 1) (rm2 l Z a0 hw [] x0 hh n0 Zh) hZ (hw _ (List.mem_of_getElem? (i := 22) rfl)) (hw _ (List.mem_of_getElem? (i := 21) rfl)) (by decide) (by decide)) (g := (mkF m 140 #[.val (.int x0), .val (.int x1), .val (.int x2), .val (.ref x3), .val (.int x4), .unset, .unset] [(.int x0), (.int (f1_0 x0))])) rfl (by rw [hml]; rfl) (argsL := [(.int x0)]) (rest := [(.int (f1_0 x0))]) (lenOf pd_0 rfl) rfl (by show 2 * 0 + _ ≤ _; exact Nat.le_of_eq rfl) (hb hby at_140) (fun _ _ => ⟨rfl, e1, (by decide : 1 + 0 ≤ _), (by decide : 20 + 0 ≤ _)⟩)
    dsimp only [Pt.U, Pt.locs, Pt.cells, Pt.slots] at X2 l2 y2 z2 st2 hQ2
    subst l2 y2 z2
    obtain ⟨rfl, N2q, e2⟩ := hQ2
    have N2 := Fr.app N1 N2q
    refine own_step (T' := T2) (g' := (mkF m 143 #[.val (.int x0), .val (.int x1), .val (.int x2), .val (.ref x3), .val (.int x4), .unset, .unset] [(.int (f2_0 x0)), (.int (f1_0 x0))])) (fun _ k => st2 _ k) ?_
    by_cases hc : (f1_0 x0) = (f2_0 x0)
    · refine own_step (T' := T2) (g' := (mkF m 146 #[.val (.int x0), .val (.int x1), .val (.int x2), .val (.ref x3), .val (.int x4), .unset, .unset] [])) (fun _ k => XS.icmpNo X2.here hx rfl (hb hby at_143) rfl (teq hc).2 k) ?_
      exact B146 T2 _ x0 x1 x2 x3 x4 hh Zh k_x3 V_x3 X2 e2 N2 ((if_pos hc).symm.trans hf)
    · refine own_step (T' := T2) (g' := (mkF m 150 #[.val (.int x0), .val (.int x1), .val (.int x2), .val (.ref x3), .val (.int x4), .unset, .unset] [])) (fun _ k => XS.icmpYes X2.here hx rfl (pc0 := 143) (pc' := 150) rfl (hb hby at_143) rfl (feq hc).2 (by decide) (by decide) k) ?_
      exact B150 T2 _ x0 x1 x2 x3 x4 hh Zh k_x3 V_x3 X2 e2 N2 ((if_neg hc).symm.trans hf)
  have B0 : ∀ (T0 : State) (locs : List Loc) (x0 : Int32) (x1 : Int32) (x2 : Int32) (hh : Heap), n0 ≤ hh.size → Stand p l e room_1 s m #[(.int p0), (.int p1), (.int p2)] below meth c T0 locs 0 0 → T0.heap = hh → Fr n0 locs → f0_0 x0 x1 x2 = 1 → own_Goes p e below s (own_Law n0) 16 128 T0 (mkF m 0 #[.val (.int x0), .val (.int x1), .val (.int x2), .unset, .unset, .unset, .unset] []) := by
    intro T0 locs x0 x1 x2 hh Zh  X0 e0 N0 hf
    refine own_step (T' := T0) (g' := (mkF m 2 #[.val (.int x0), .val (.int x1), .val (.int x2), .unset, .unset, .unset, .unset] [(.int (20 : Int32))])) (fun _ k => XS.bipush X0.here hx rfl (hb hby at_0) k) ?_
    obtain ⟨T1, h1, k1, X1, e1, E1, A1, st1⟩ := newP X0 hx hZ (hw _ (List.mem_of_getElem? (i := 0) rfl)) e0 (g := (mkF m 2 #[.val (.int x0), .val (.int x1), .val (.int x2), .unset, .unset, .unset, .unset] [(.int (20 : Int32))])) rfl (hb hby at_2) rfl (by decide) (cap := 20) (by decide) (by decide) (by decide) (by decide)
    obtain ⟨b1, g1⟩ : ∃ z, z = hh.size := ⟨_, rfl⟩
    rw [← g1] at A1 st1
    have V1 : Arv Z h1 b1 k1 .int (20 : Int32) (List.replicate 20 (.int (0 : Int32))) (.int (0 : Int32)) := (Arv.new A1 (by decide)).pad (pad_rep [] (.int (0 : Int32)) 20)
    have g_b1 : n0 ≤ b1 := Nat.le_trans Zh (Nat.le_of_eq g1.symm)
    have Z1 : n0 ≤ h1.size := Nat.le_trans Zh E1.1
    refine own_step (T' := T1) (g' := (mkF m 4 #[.val (.int x0), .val (.int x1), .val (.int x2), .unset, .unset, .unset, .unset] [(.ref b1)])) (fun _ k => st1 _ k) ?_
    refine own_step (T' := T1) (g' := (mkF m 5 #[.val (.int x0), .val (.int x1), .val (.int x2), .unset, .unset, .unset, .unset] [(.ref b1), (.ref b1)])) (fun _ k => XS.dup X1.here hx rfl (hb hby at_4) rfl rfl k) ?_
    refine own_step (T' := T1) (g' := (mkF m 6 #[.val (.int x0), .val (.int x1), .val (.int x2), .unset, .unset, .unset, .unset] [(.int (0 : Int32)), (.ref b1), (.ref b1)])) (fun _ k => XS.iconst X1.here hx rfl (hb hby at_5) k) ?_
    refine own_step (T' := T1) (g' := (mkF m 7 #[.val (.int x0), .val (.int x1), .val (.int x2), .unset, .unset, .unset, .unset] [(.int (0 : Int32)), (.int (0 : Int32)), (.ref b1), (.ref b1)])) (fun _ k => XS.iconst X1.here hx rfl (hb hby at_6) k) ?_
    obtain ⟨cl2, Ar2, q2, S2, M2, H2, G2⟩ := V1
    obtain ⟨T2, h2, X2, e2, W2, st2⟩ := stI X1 hx hZ e1 Ar2 (j := (0 : Int32)) (inb_of S2 ⟨by decide, by decide⟩) (g := (mkF m 7 #[.val (.int x0), .val (.int x1), .val (.int x2), .unset, .unset, .unset, .unset] [(.int (0 : Int32)), (.int (0 : Int32)), (.ref b1), (.ref b1)])) rfl rfl (hb hby at_7)
    have V2 : Arv Z h2 b1 k1 .int (20 : Int32) [(.int (0 : Int32)), (.int (0 : Int32)), (.int (0 : Int32)), (.int (0 : Int32)), (.int (0 : Int32)), (.int (0 : Int32)), (.int (0 : Int32)), (.int (0 : Int32)), (.int (0 : Int32)), (.int (0 : Int32)), (.int (0 : Int32)), (.int (0 : Int32)), (.int (0 : Int32)), (.int (0 : Int32)), (.int (0 : Int32)), (.int (0 : Int32)), (.int (0 : Int32)), (.int (0 : Int32)), (.int (0 : Int32)), (.int (0 : Int32))] (.int (0 : Int32)) := Arv.set Ar2 q2 S2 M2 H2 G2 rfl W2 0 rfl (Nat.le_of_ble_eq_true rfl)
    have N2 := Fr.snoc X2 N0 g_b1
    have Z2 : n0 ≤ h2.size := Nat.le_trans Z1 (Keep.of_wr W2).1
    refine own_step (T' := T2) (g' := (mkF m 8 #[.val (.int x0), .val (.int x1), .val (.int x2), .unset, .unset, .unset, .unset] [(.ref b1)])) (fun _ k => st2 _ k) ?_
    refine own_step (T' := T2) (g' := (mkF m 9 #[.val (.int x0), .val (.int x1), .val (.int x2), .unset, .unset, .unset, .unset] [(.ref b1), (.ref b1)])) (fun _ k => XS.dup X2.here hx rfl (hb hby at_8) rfl rfl k) ?_
    refine own_step (T' := T2) (g' := (mkF m 10 #[.val (.int x0), .val (.int x1), .val (.int x2), .unset, .unset, .unset, .unset] [(.int (1 : Int32)), (.ref b1), (.ref b1)])) (fun _ k => XS.iconst X2.here hx rfl (hb hby at_9) k) ?_
    refine own_step (T' := T2) (g' := (mkF m 12 #[.val (.int x0), .val (.int x1), .val (.int x2), .unset, .unset, .unset, .unset] [(.int (9 : Int32)), (.int (1 : Int32)), (.ref b1), (.ref b1)])) (fun _ k => XS.bipush X2.here hx rfl (hb hby at_10) k) ?_
    obtain ⟨cl3, Ar3, q3, S3, M3, H3, G3⟩ := V2
    obtain ⟨T3, h3, X3, e3, W3, st3⟩ := stI X2 hx hZ e2 Ar3 (j := (1 : Int32)) (inb_of S3 ⟨by decide, by decide⟩) (g := (mkF m 12 #[.val (.int x0), .val (.int x1), .val (.int x2), .unset, .unset, .unset, .unset] [(.int (9 : Int32)), (.int (1 : Int32)), (.ref b1), (.ref b1)])) rfl rfl (hb hby at_12)
    have V3 : Arv Z h3 b1 k1 .int (20 : Int32) [(.int (0 : Int32)), (.int (9 : Int32)), (.int (0 : Int32)), (.int (0 : Int32)), (.int (0 : Int32)), (.int (0 : Int32)), (.int (0 : Int32)), (.int (0 : Int32)), (.int (0 : Int32)), (.int (0 : Int32)), (.int (0 : Int32)), (.int (0 : Int32)), (.int (0 : Int32)), (.int (0 : Int32)), (.int (0 : Int32)), (.int (0 : Int32)), (.int (0 : Int32)), (.int (0 : Int32)), (.int (0 : Int32)), (.int (0 : Int32))] (.int (0 : Int32)) := Arv.set Ar3 q3 S3 M3 H3 G3 rfl W3 1 rfl (Nat.le_of_ble_eq_true rfl)
    have N3 := Fr.snoc X3 N2 g_b1
    have Z3 : n0 ≤ h3.size := Nat.le_trans Z2 (Keep.of_wr W3).1
    refine own_step (T' := T3) (g' := (mkF m 13 #[.val (.int x0), .val (.int x1), .val (.int x2), .unset, .unset, .unset, .unset] [(.ref b1)])) (fun _ k => st3 _ k) ?_
    refine own_step (T' := T3) (g' := (mkF m 14 #[.val (.int x0), .val (.int x1), .val (.int x2), .unset, .unset, .unset, .unset] [(.ref b1), (.ref b1)])) (fun _ k => XS.dup X3.here hx rfl (hb hby at_13) rfl rfl k) ?_
    refine own_step (T' := T3) (g' := (mkF m 15 #[.val (.int x0), .val (.int x1), .val (.int x2), .unset, .unset, .unset, .unset] [(.int (2 : Int32)), (.ref b1), (.ref b1)])) (fun _ k => XS.iconst X3.here hx rfl (hb hby at_14) k) ?_
    refine own_step (T' := T3) (g' := (mkF m 17 #[.val (.int x0), .val (.int x1), .val (.int x2), .unset, .unset, .unset, .unset] [(.int (10 : Int32)), (.int (2 : Int32)), (.ref b1), (.ref b1)])) (fun _ k => XS.bipush X3.here hx rfl (hb hby at_15) k) ?_
    obtain ⟨cl4, Ar4, q4, S4, M4, H4, G4⟩ := V3
    obtain ⟨T4, h4, X4, e4, W4, st4⟩ := stI X3 hx hZ e3 Ar4 (j := (2 : Int32)) (inb_of S4 ⟨by decide, by decide⟩) (g := (mkF m 17 #[.val (.int x0), .val (.int x1), .val (.int x2), .unset, .unset, .unset, .unset] [(.int (10 : Int32)), (.int (2 : Int32)), (.ref b1), (.ref b1)])) rfl rfl (hb hby at_17)
    have V4 : Arv Z h4 b1 k1 .int (20 : Int32) [(.int (0 : Int32)), (.int (9 : Int32)), (.int (10 : Int32)), (.int (0 : Int32)), (.int (0 : Int32)), (.int (0 : Int32)), (.int (0 : Int32)), (.int (0 : Int32)), (.int (0 : Int32)), (.int (0 : Int32)), (.int (0 : Int32)), (.int (0 : Int32)), (.int (0 : Int32)), (.int (0 : Int32)), (.int (0 : Int32)), (.int (0 : Int32)), (.int (0 : Int32)), (.int (0 : Int32)), (.int (0 : Int32)), (.int (0 : Int32))] (.int (0 : Int32)) := Arv.set Ar4 q4 S4 M4 H4 G4 rfl W4 2 rfl (Nat.le_of_ble_eq_true rfl)
    have N4 := Fr.snoc X4 N3 g_b1
    have Z4 : n0 ≤ h4.size := Nat.le_trans Z3 (Keep.of_wr W4).1
    refine own_step (T' := T4) (g' := (mkF m 18 #[.val (.int x0), .val (.int x1), .val (.int x2), .unset, .unset, .unset, .unset] [(.ref b1)])) (fun _ k => st4 _ k) ?_
    refine own_step (T' := T4) (g' := (mkF m 19 #[.val (.int x0), .val (.int x1), .val (.int x2), .unset, .unset, .unset, .unset] [(.ref b1), (.ref b1)])) (fun _ k => XS.dup X4.here hx rfl (hb hby at_18) rfl rfl k) ?_
    refine own_step (T' := T4) (g' := (mkF m 20 #[.val (.int x0), .val (.int x1), .val (.int x2), .unset, .unset, .unset, .unset] [(.int (3 : Int32)), (.ref b1), (.ref b1)])) (fun _ k => XS.iconst X4.here hx rfl (hb hby at_19) k) ?_
    refine own_step (T' := T4) (g' := (mkF m 22 #[.val (.int x0), .val (.int x1), .val (.int x2), .unset, .unset, .unset, .unset] [(.int (11 : Int32)), (.int (3 : Int32)), (.ref b1), (.ref b1)])) (fun _ k => XS.bipush X4.here hx rfl (hb hby at_20) k) ?_
    obtain ⟨cl5, Ar5, q5, S5, M5, H5, G5⟩ := V4
    obtain ⟨T5, h5, X5, e5, W5, st5⟩ := stI X4 hx hZ e4 Ar5 (j := (3 : Int32)) (inb_of S5 ⟨by decide, by decide⟩) (g := (mkF m 22 #[.val (.int x0), .val (.int x1), .val (.int x2), .unset, .unset, .unset, .unset] [(.int (11 : Int32)), (.int (3 : Int32)), (.ref b1), (.ref b1)])) rfl rfl (hb hby at_22)
    have V5 : Arv Z h5 b1 k1 .int (20 : Int32) [(.int (0 : Int32)), (.int (9 : Int32)), (.int (10 : Int32)), (.int (11 : Int32)), (.int (0 : Int32)), (.int (0 : Int32)), (.int (0 : Int32)), (.int (0 : Int32)), (.int (0 : Int32)), (.int (0 : Int32)), (.int (0 : Int32)), (.int (0 : Int32)), (.int (0 : Int32)), (.int (0 : Int32)), (.int (0 : Int32)), (.int (0 : Int32)), (.int (0 : Int32)), (.int (0 : Int32)), (.int (0 : Int32)), (.int (0 : Int32))] (.int (0 : Int32)) := Arv.set Ar5 q5 S5 M5 H5 G5 rfl W5 3 rfl (Nat.le_of_ble_eq_true rfl)
    have N5 := Fr.snoc X5 N4 g_b1
    have Z5 : n0 ≤ h5.size := Nat.le_trans Z4 (Keep.of_wr W5).1
    refine own_step (T' := T5) (g' := (mkF m 23 #[.val (.int x0), .val (.int x1), .val (.int x2), .unset, .unset, .unset, .unset] [(.ref b1)])) (fun _ k => st5 _ k) ?_
    refine own_step (T' := T5) (g' := (mkF m 24 #[.val (.int x0), .val (.int x1), .val (.int x2), .unset, .unset, .unset, .unset] [(.ref b1), (.ref b1)])) (fun _ k => XS.dup X5.here hx rfl (hb hby at_23) rfl rfl k) ?_
    refine own_step (T' := T5) (g' := (mkF m 25 #[.val (.int x0), .val (.int x1), .val (.int x2), .unset, .unset, .unset, .unset] [(.int (4 : Int32)), (.ref b1), (.ref b1)])) (fun _ k => XS.iconst X5.here hx rfl (hb hby at_24) k) ?_
    refine own_step (T' := T5) (g' := (mkF m 27 #[.val (.int x0), .val (.int x1), .val (.int x2), .unset, .unset, .unset, .unset] [(.int (13 : Int32)), (.int (4 : Int32)), (.ref b1), (.ref b1)])) (fun _ k => XS.bipush X5.here hx rfl (hb hby at_25) k) ?_
    obtain ⟨cl6, Ar6, q6, S6, M6, H6, G6⟩ := V5
    obtain ⟨T6, h6, X6, e6, W6, st6⟩ := stI X5 hx hZ e5 Ar6 (j := (4 : Int32)) (inb_of S6 ⟨by decide, by decide⟩) (g := (mkF m 27 #[.val (.int x0), .val (.int x1), .val (.int x2), .unset, .unset, .unset, .unset] [(.int (13 : Int32)), (.int (4 : Int32)), (.ref b1), (.ref b1)])) rfl rfl (hb hby at_27)
    have V6 : Arv Z h6 b1 k1 .int (20 : Int32) [(.int (0 : Int32)), (.int (9 : Int32)), (.int (10 : Int32)), (.int (11 : Int32)), (.int (13 : Int32)), (.int (0 : Int32)), (.int (0 : Int32)), (.int (0 : Int32)), (.int (0 : Int32)), (.int (0 : Int32)), (.int (0 : Int32)), (.int (0 : Int32)), (.int (0 : Int32)), (.int (0 : Int32)), (.int (0 : Int32)), (.int (0 : Int32)), (.int (0 : Int32)), (.int (0 : Int32)), (.int (0 : Int32)), (.int (0 : Int32))] (.int (0 : Int32)) := Arv.set Ar6 q6 S6 M6 H6 G6 rfl W6 4 rfl (Nat.le_of_ble_eq_true rfl)
    have N6 := Fr.snoc X6 N5 g_b1
    have Z6 : n0 ≤ h6.size := Nat.le_trans Z5 (Keep.of_wr W6).1
    refine own_step (T' := T6) (g' := (mkF m 28 #[.val (.int x0), .val (.int x1), .val (.int x2), .unset, .unset, .unset, .unset] [(.ref b1)])) (fun _ k => st6 _ k) ?_
    refine own_step (T' := T6) (g' := (mkF m 29 #[.val (.int x0), .val (.int x1), .val (.int x2), .unset, .unset, .unset, .unset] [(.ref b1), (.ref b1)])) (fun _ k => XS.dup X6.here hx rfl (hb hby at_28) rfl rfl k) ?_
    refine own_step (T' := T6) (g' := (mkF m 30 #[.val (.int x0), .val (.int x1), .val (.int x2), .unset, .unset, .unset, .unset] [(.int (5 : Int32)), (.ref b1), (.ref b1)])) (fun _ k => XS.iconst X6.here hx rfl (hb hby at_29) k) ?_
    refine own_step (T' := T6) (g' := (mkF m 32 #[.val (.int x0), .val (.int x1), .val (.int x2), .unset, .unset, .unset, .unset] [(.int (14 : Int32)), (.int (5 : Int32)), (.ref b1), (.ref b1)])) (fun _ k => XS.bipush X6.here hx rfl (hb hby at_30) k) ?_
    obtain ⟨cl7, Ar7, q7, S7, M7, H7, G7⟩ := V6
    obtain ⟨T7, h7, X7, e7, W7, st7⟩ := stI X6 hx hZ e6 Ar7 (j := (5 : Int32)) (inb_of S7 ⟨by decide, by decide⟩) (g := (mkF m 32 #[.val (.int x0), .val (.int x1), .val (.int x2), .unset, .unset, .unset, .unset] [(.int (14 : Int32)), (.int (5 : Int32)), (.ref b1), (.ref b1)])) rfl rfl (hb hby at_32)
    have V7 : Arv Z h7 b1 k1 .int (20 : Int32) [(.int (0 : Int32)), (.int (9 : Int32)), (.int (10 : Int32)), (.int (11 : Int32)), (.int (13 : Int32)), (.int (14 : Int32)), (.int (0 : Int32)), (.int (0 : Int32)), (.int (0 : Int32)), (.int (0 : Int32)), (.int (0 : Int32)), (.int (0 : Int32)), (.int (0 : Int32)), (.int (0 : Int32)), (.int (0 : Int32)), (.int (0 : Int32)), (.int (0 : Int32)), (.int (0 : Int32)), (.int (0 : Int32)), (.int (0 : Int32))] (.int (0 : Int32)) := Arv.set Ar7 q7 S7 M7 H7 G7 rfl W7 5 rfl (Nat.le_of_ble_eq_true rfl)
    have N7 := Fr.snoc X7 N6 g_b1
    have Z7 : n0 ≤ h7.size := Nat.le_trans Z6 (Keep.of_wr W7).1
    refine own_step (T' := T7) (g' := (mkF m 33 #[.val (.int x0), .val (.int x1), .val (.int x2), .unset, .unset, .unset, .unset] [(.ref b1)])) (fun _ k => st7 _ k) ?_
    refine own_step (T' := T7) (g' := (mkF m 34 #[.val (.int x0), .val (.int x1), .val (.int x2), .unset, .unset, .unset, .unset] [(.ref b1), (.ref b1)])) (fun _ k => XS.dup X7.here hx rfl (hb hby at_33) rfl rfl k) ?_
    refine own_step (T' := T7) (g' := (mkF m 36 #[.val (.int x0), .val (.int x1), .val (.int x2), .unset, .unset, .unset, .unset] [(.int (6 : Int32)), (.ref b1), (.ref b1)])) (fun _ k => XS.bipush X7.here hx rfl (hb hby at_34) k) ?_
    refine own_step (T' := T7) (g' := (mkF m 38 #[.val (.int x0), .val (.int x1), .val (.int x2), .unset, .unset, .unset, .unset] [(.int (31 : Int32)), (.int (6 : Int32)), (.ref b1), (.ref b1)])) (fun _ k => XS.bipush X7.here hx rfl (hb hby at_36) k) ?_
    obtain ⟨cl8, Ar8, q8, S8, M8, H8, G8⟩ := V7
    obtain ⟨T8, h8, X8, e8, W8, st8⟩ := stI X7 hx hZ e7 Ar8 (j := (6 : Int32)) (inb_of S8 ⟨by decide, by decide⟩) (g := (mkF m 38 #[.val (.int x0), .val (.int x1), .val (.int x2), .unset, .unset, .unset, .unset] [(.int (31 : Int32)), (.int (6 : Int32)), (.ref b1), (.ref b1)])) rfl rfl (hb hby at_38)
    have V8 : Arv Z h8 b1 k1 .int (20 : Int32) [(.int (0 : Int32)), (.int (9 : Int32)), (.int (10 : Int32)), (.int (11 : Int32)), (.int (13 : Int32)), (.int (14 : Int32)), (.int (31 : Int32)), (.int (0 : Int32)), (.int (0 : Int32)), (.int (0 : Int32)), (.int (0 : Int32)), (.int (0 : Int32)), (.int (0 : Int32)), (.int (0 : Int32)), (.int (0 : Int32)), (.int (0 : Int32)), (.int (0 : Int32)), (.int (0 : Int32)), (.int (0 : Int32)), (.int (0 : Int32))] (.int (0 : Int32)) := Arv.set Ar8 q8 S8 M8 H8 G8 rfl W8 6 rfl (Nat.le_of_ble_eq_true rfl)
    have N8 := Fr.snoc X8 N7 g_b1
    have Z8 : n0 ≤ h8.size := Nat.le_trans Z7 (Keep.of_wr W8).1
    refine own_step (T' := T8) (g' := (mkF m 39 #[.val (.int x0), .val (.int x1), .val (.int x2), .unset, .unset, .unset, .unset] [(.ref b1)])) (fun _ k => st8 _ k) ?_
    refine own_step (T' := T8) (g' := (mkF m 40 #[.val (.int x0), .val (.int x1), .val (.int x2), .unset, .unset, .unset, .unset] [(.ref b1), (.ref b1)])) (fun _ k => XS.dup X8.here hx rfl (hb hby at_39) rfl rfl k) ?_
    refine own_step (T' := T8) (g' := (mkF m 42 #[.val (.int x0), .val (.int x1), .val (.int x2), .unset, .unset, .unset, .unset] [(.int (7 : Int32)), (.ref b1), (.ref b1)])) (fun _ k => XS.bipush X8.here hx rfl (hb hby at_40) k) ?_
    refine own_step (T' := T8) (g' := (mkF m 44 #[.val (.int x0), .val (.int x1), .val (.int x2), .unset, .unset, .unset, .unset] [(.int (32 : Int32)), (.int (7 : Int32)), (.ref b1), (.ref b1)])) (fun _ k => XS.bipush X8.here hx rfl (hb hby at_42) k) ?_
    obtain ⟨cl9, Ar9, q9, S9, M9, H9, G9⟩ := V8
    obtain ⟨T9, h9, X9, e9, W9, st9⟩ := stI X8 hx hZ e8 Ar9 (j := (7 : Int32)) (inb_of S9 ⟨by decide, by decide⟩) (g := (mkF m 44 #[.val (.int x0), .val (.int x1), .val (.int x2), .unset, .unset, .unset, .unset] [(.int (32 : Int32)), (.int (7 : Int32)), (.ref b1), (.ref b1)])) rfl rfl (hb hby at_44)
    have V9 : Arv Z h9 b1 k1 .int (20 : Int32) [(.int (0 : Int32)), (.int (9 : Int32)), (.int (10 : Int32)), (.int (11 : Int32)), (.int (13 : Int32)), (.int (14 : Int32)), (.int (31 : Int32)), (.int (32 : Int32)), (.int (0 : Int32)), (.int (0 : Int32)), (.int (0 : Int32)), (.int (0 : Int32)), (.int (0 : Int32)), (.int (0 : Int32)), (.int (0 : Int32)), (.int (0 : Int32)), (.int (0 : Int32)), (.int (0 : Int32)), (.int (0 : Int32)), (.int (0 : Int32))] (.int (0 : Int32)) := Arv.set Ar9 q9 S9 M9 H9 G9 rfl W9 7 rfl (Nat.le_of_ble_eq_true rfl)
    have N9 := Fr.snoc X9 N8 g_b1
    have Z9 : n0 ≤ h9.size := Nat.le_trans Z8 (Keep.of_wr W9).1
    refine own_step (T' := T9) (g' := (mkF m 45 #[.val (.int x0), .val (.int x1), .val (.int x2), .unset, .unset, .unset, .unset] [(.ref b1)])) (fun _ k => st9 _ k) ?_
    refine own_step (T' := T9) (g' := (mkF m 46 #[.val (.int x0), .val (.int x1), .val (.int x2), .unset, .unset, .unset, .unset] [(.ref b1), (.ref b1)])) (fun _ k => XS.dup X9.here hx rfl (hb hby at_45) rfl rfl k) ?_
    refine own_step (T' := T9) (g' := (mkF m 48 #[.val (.int x0), .val (.int x1), .val (.int x2), .unset, .unset, .unset, .unset] [(.int (8 : Int32)), (.ref b1), (.ref b1)])) (fun _ k => XS.bipush X9.here hx rfl (hb hby at_46) k) ?_
    refine own_step (T' := T9) (g' := (mkF m 50 #[.val (.int x0), .val (.int x1), .val (.int x2), .unset, .unset, .unset, .unset] [(.int (55295 : Int32)), (.int (8 : Int32)), (.ref b1), (.ref b1)])) (fun _ k => X9.ldcInt hx hown (mvT hZ (hw _ (List.mem_of_getElem? (i := 1) rfl))) (g := (mkF m 48 #[.val (.int x0), .val (.int x1), .val (.int x2), .unset, .unset, .unset, .unset] [(.int (8 : Int32)), (.ref b1), (.ref b1)])) rfl (hb hby at_48) _ k) ?_
    obtain ⟨cl10, Ar10, q10, S10, M10, H10, G10⟩ := V9
    obtain ⟨T10, h10, X10, e10, W10, st10⟩ := stI X9 hx hZ e9 Ar10 (j := (8 : Int32)) (inb_of S10 ⟨by decide, by decide⟩) (g := (mkF m 50 #[.val (.int x0), .val (.int x1), .val (.int x2), .unset, .unset, .unset, .unset] [(.int (55295 : Int32)), (.int (8 : Int32)), (.ref b1), (.ref b1)])) rfl rfl (hb hby at_50)
    have V10 : Arv Z h10 b1 k1 .int (20 : Int32) [(.int (0 : Int32)), (.int (9 : Int32)), (.int (10 : Int32)), (.int (11 : Int32)), (.int (13 : Int32)), (.int (14 : Int32)), (.int (31 : Int32)), (.int (32 : Int32)), (.int (55295 : Int32)), (.int (0 : Int32)), (.int (0 : Int32)), (.int (0 : Int32)), (.int (0 : Int32)), (.int (0 : Int32)), (.int (0 : Int32)), (.int (0 : Int32)), (.int (0 : Int32)), (.int (0 : Int32)), (.int (0 : Int32)), (.int (0 : Int32))] (.int (0 : Int32)) := Arv.set Ar10 q10 S10 M10 H10 G10 rfl W10 8 rfl (Nat.le_of_ble_eq_true rfl)
    have N10 := Fr.snoc X10 N9 g_b1
    have Z10 : n0 ≤ h10.size := Nat.le_trans Z9 (Keep.of_wr W10).1
    refine own_step (T' := T10) (g' := (mkF m 51 #[.val (.int x0), .val (.int x1), .val (.int x2), .unset, .unset, .unset, .unset] [(.ref b1)])) (fun _ k => st10 _ k) ?_
    refine own_step (T' := T10) (g' := (mkF m 52 #[.val (.int x0), .val (.int x1), .val (.int x2), .unset, .unset, .unset, .unset] [(.ref b1), (.ref b1)])) (fun _ k => XS.dup X10.here hx rfl (hb hby at_51) rfl rfl k) ?_
    refine own_step (T' := T10) (g' := (mkF m 54 #[.val (.int x0), .val (.int x1), .val (.int x2), .unset, .unset, .unset, .unset] [(.int (9 : Int32)), (.ref b1), (.ref b1)])) (fun _ k => XS.bipush X10.here hx rfl (hb hby at_52) k) ?_
    refine own_step (T' := T10) (g' := (mkF m 56 #[.val (.int x0), .val (.int x1), .val (.int x2), .unset, .unset, .unset, .unset] [(.int (55296 : Int32)), (.int (9 : Int32)), (.ref b1), (.ref b1)])) (fun _ k => X10.ldcInt hx hown (mvT hZ (hw _ (List.mem_of_getElem? (i := 2) rfl))) (g := (mkF m 54 #[.val (.int x0), .val (.int x1), .val (.int x2), .unset, .unset, .unset, .unset] [(.int (9 : Int32)), (.ref b1), (.ref b1)])) rfl (hb hby at_54) _ k) ?_
    obtain ⟨cl11, Ar11, q11, S11, M11, H11, G11⟩ := V10
    obtain ⟨T11, h11, X11, e11, W11, st11⟩ := stI X10 hx hZ e10 Ar11 (j := (9 : Int32)) (inb_of S11 ⟨by decide, by decide⟩) (g := (mkF m 56 #[.val (.int x0), .val (.int x1), .val (.int x2), .unset, .unset, .unset, .unset] [(.int (55296 : Int32)), (.int (9 : Int32)), (.ref b1), (.ref b1)])) rfl rfl (hb hby at_56)
    have V11 : Arv Z h11 b1 k1 .int (20 : Int32) [(.int (0 : Int32)), (.int (9 : Int32)), (.int (10 : Int32)), (.int (11 : Int32)), (.int (13 : Int32)), (.int (14 : Int32)), (.int (31 : Int32)), (.int (32 : Int32)), (.int (55295 : Int32)), (.int (55296 : Int32)), (.int (0 : Int32)), (.int (0 : Int32)), (.int (0 : Int32)), (.int (0 : Int32)), (.int (0 : Int32)), (.int (0 : Int32)), (.int (0 : Int32)), (.int (0 : Int32)), (.int (0 : Int32)), (.int (0 : Int32))] (.int (0 : Int32)) := Arv.set Ar11 q11 S11 M11 H11 G11 rfl W11 9 rfl (Nat.le_of_ble_eq_true rfl)
    have N11 := Fr.snoc X11 N10 g_b1
    have Z11 : n0 ≤ h11.size := Nat.le_trans Z10 (Keep.of_wr W11).1
    refine own_step (T' := T11) (g' := (mkF m 57 #[.val (.int x0), .val (.int x1), .val (.int x2), .unset, .unset, .unset, .unset] [(.ref b1)])) (fun _ k => st11 _ k) ?_
    refine own_step (T' := T11) (g' := (mkF m 58 #[.val (.int x0), .val (.int x1), .val (.int x2), .unset, .unset, .unset, .unset] [(.ref b1), (.ref b1)])) (fun _ k => XS.dup X11.here hx rfl (hb hby at_57) rfl rfl k) ?_
    refine own_step (T' := T11) (g' := (mkF m 60 #[.val (.int x0), .val (.int x1), .val (.int x2), .unset, .unset, .unset, .unset] [(.int (10 : Int32)), (.ref b1), (.ref b1)])) (fun _ k => XS.bipush X11.here hx rfl (hb hby at_58) k) ?_
    refine own_step (T' := T11) (g' := (mkF m 62 #[.val (.int x0), .val (.int x1), .val (.int x2), .unset, .unset, .unset, .unset] [(.int (57343 : Int32)), (.int (10 : Int32)), (.ref b1), (.ref b1)])) (fun _ k => X11.ldcInt hx hown (mvT hZ (hw _ (List.mem_of_getElem? (i := 3) rfl))) (g := (mkF m 60 #[.val (.int x0), .val (.int x1), .val (.int x2), .unset, .unset, .unset, .unset] [(.int (10 : Int32)), (.ref b1), (.ref b1)])) rfl (hb hby at_60) _ k) ?_
    obtain ⟨cl12, Ar12, q12, S12, M12, H12, G12⟩ := V11
    obtain ⟨T12, h12, X12, e12, W12, st12⟩ := stI X11 hx hZ e11 Ar12 (j := (10 : Int32)) (inb_of S12 ⟨by decide, by decide⟩) (g := (mkF m 62 #[.val (.int x0), .val (.int x1), .val (.int x2), .unset, .unset, .unset, .unset] [(.int (57343 : Int32)), (.int (10 : Int32)), (.ref b1), (.ref b1)])) rfl rfl (hb hby at_62)
    have V12 : Arv Z h12 b1 k1 .int (20 : Int32) [(.int (0 : Int32)), (.int (9 : Int32)), (.int (10 : Int32)), (.int (11 : Int32)), (.int (13 : Int32)), (.int (14 : Int32)), (.int (31 : Int32)), (.int (32 : Int32)), (.int (55295 : Int32)), (.int (55296 : Int32)), (.int (57343 : Int32)), (.int (0 : Int32)), (.int (0 : Int32)), (.int (0 : Int32)), (.int (0 : Int32)), (.int (0 : Int32)), (.int (0 : Int32)), (.int (0 : Int32)), (.int (0 : Int32)), (.int (0 : Int32))] (.int (0 : Int32)) := Arv.set Ar12 q12 S12 M12 H12 G12 rfl W12 10 rfl (Nat.le_of_ble_eq_true rfl)
    have N12 := Fr.snoc X12 N11 g_b1
    have Z12 : n0 ≤ h12.size := Nat.le_trans Z11 (Keep.of_wr W12).1
    refine own_step (T' := T12) (g' := (mkF m 63 #[.val (.int x0), .val (.int x1), .val (.int x2), .unset, .unset, .unset, .unset] [(.ref b1)])) (fun _ k => st12 _ k) ?_
    refine own_step (T' := T12) (g' := (mkF m 64 #[.val (.int x0), .val (.int x1), .val (.int x2), .unset, .unset, .unset, .unset] [(.ref b1), (.ref b1)])) (fun _ k => XS.dup X12.here hx rfl (hb hby at_63) rfl rfl k) ?_
    refine own_step (T' := T12) (g' := (mkF m 66 #[.val (.int x0), .val (.int x1), .val (.int x2), .unset, .unset, .unset, .unset] [(.int (11 : Int32)), (.ref b1), (.ref b1)])) (fun _ k => XS.bipush X12.here hx rfl (hb hby at_64) k) ?_
    refine own_step (T' := T12) (g' := (mkF m 68 #[.val (.int x0), .val (.int x1), .val (.int x2), .unset, .unset, .unset, .unset] [(.int (57344 : Int32)), (.int (11 : Int32)), (.ref b1), (.ref b1)])) (fun _ k => X12.ldcInt hx hown (mvT hZ (hw _ (List.mem_of_getElem? (i := 4) rfl))) (g := (mkF m 66 #[.val (.int x0), .val (.int x1), .val (.int x2), .unset, .unset, .unset, .unset] [(.int (11 : Int32)), (.ref b1), (.ref b1)])) rfl (hb hby at_66) _ k) ?_
    obtain ⟨cl13, Ar13, q13, S13, M13, H13, G13⟩ := V12
    obtain ⟨T13, h13, X13, e13, W13, st13⟩ := stI X12 hx hZ e12 Ar13 (j := (11 : Int32)) (inb_of S13 ⟨by decide, by decide⟩) (g := (mkF m 68 #[.val (.int x0), .val (.int x1), .val (.int x2), .unset, .unset, .unset, .unset] [(.int (57344 : Int32)), (.int (11 : Int32)), (.ref b1), (.ref b1)])) rfl rfl (hb hby at_68)
    have V13 : Arv Z h13 b1 k1 .int (20 : Int32) [(.int (0 : Int32)), (.int (9 : Int32)), (.int (10 : Int32)), (.int (11 : Int32)), (.int (13 : Int32)), (.int (14 : Int32)), (.int (31 : Int32)), (.int (32 : Int32)), (.int (55295 : Int32)), (.int (55296 : Int32)), (.int (57343 : Int32)), (.int (57344 : Int32)), (.int (0 : Int32)), (.int (0 : Int32)), (.int (0 : Int32)), (.int (0 : Int32)), (.int (0 : Int32)), (.int (0 : Int32)), (.int (0 : Int32)), (.int (0 : Int32))] (.int (0 : Int32)) := Arv.set Ar13 q13 S13 M13 H13 G13 rfl W13 11 rfl (Nat.le_of_ble_eq_true rfl)
    have N13 := Fr.snoc X13 N12 g_b1
    have Z13 : n0 ≤ h13.size := Nat.le_trans Z12 (Keep.of_wr W13).1
    refine own_step (T' := T13) (g' := (mkF m 69 #[.val (.int x0), .val (.int x1), .val (.int x2), .unset, .unset, .unset, .unset] [(.ref b1)])) (fun _ k => st13 _ k) ?_
    refine own_step (T' := T13) (g' := (mkF m 70 #[.val (.int x0), .val (.int x1), .val (.int x2), .unset, .unset, .unset, .unset] [(.ref b1), (.ref b1)])) (fun _ k => XS.dup X13.here hx rfl (hb hby at_69) rfl rfl k) ?_
    refine own_step (T' := T13) (g' := (mkF m 72 #[.val (.int x0), .val (.int x1), .val (.int x2), .unset, .unset, .unset, .unset] [(.int (12 : Int32)), (.ref b1), (.ref b1)])) (fun _ k => XS.bipush X13.here hx rfl (hb hby at_70) k) ?_
    refine own_step (T' := T13) (g' := (mkF m 74 #[.val (.int x0), .val (.int x1), .val (.int x2), .unset, .unset, .unset, .unset] [(.int (65533 : Int32)), (.int (12 : Int32)), (.ref b1), (.ref b1)])) (fun _ k => X13.ldcInt hx hown (mvT hZ (hw _ (List.mem_of_getElem? (i := 5) rfl))) (g := (mkF m 72 #[.val (.int x0), .val (.int x1), .val (.int x2), .unset, .unset, .unset, .unset] [(.int (12 : Int32)), (.ref b1), (.ref b1)])) rfl (hb hby at_72) _ k) ?_
    obtain ⟨cl14, Ar14, q14, S14, M14, H14, G14⟩ := V13
    obtain ⟨T14, h14, X14, e14, W14, st14⟩ := stI X13 hx hZ e13 Ar14 (j := (12 : Int32)) (inb_of S14 ⟨by decide, by decide⟩) (g := (mkF m 74 #[.val (.int x0), .val (.int x1), .val (.int x2), .unset, .unset, .unset, .unset] [(.int (65533 : Int32)), (.int (12 : Int32)), (.ref b1), (.ref b1)])) rfl rfl (hb hby at_74)
    have V14 : Arv Z h14 b1 k1 .int (20 : Int32) [(.int (0 : Int32)), (.int (9 : Int32)), (.int (10 : Int32)), (.int (11 : Int32)), (.int (13 : Int32)), (.int (14 : Int32)), (.int (31 : Int32)), (.int (32 : Int32)), (.int (55295 : Int32)), (.int (55296 : Int32)), (.int (57343 : Int32)), (.int (57344 : Int32)), (.int (65533 : Int32)), (.int (0 : Int32)), (.int (0 : Int32)), (.int (0 : Int32)), (.int (0 : Int32)), (.int (0 : Int32)), (.int (0 : Int32)), (.int (0 : Int32))] (.int (0 : Int32)) := Arv.set Ar14 q14 S14 M14 H14 G14 rfl W14 12 rfl (Nat.le_of_ble_eq_true rfl)
    have N14 := Fr.snoc X14 N13 g_b1
    have Z14 : n0 ≤ h14.size := Nat.le_trans Z13 (Keep.of_wr W14).1
    refine own_step (T' := T14) (g' := (mkF m 75 #[.val (.int x0), .val (.int x1), .val (.int x2), .unset, .unset, .unset, .unset] [(.ref b1)])) (fun _ k => st14 _ k) ?_
    refine own_step (T' := T14) (g' := (mkF m 76 #[.val (.int x0), .val (.int x1), .val (.int x2), .unset, .unset, .unset, .unset] [(.ref b1), (.ref b1)])) (fun _ k => XS.dup X14.here hx rfl (hb hby at_75) rfl rfl k) ?_
    refine own_step (T' := T14) (g' := (mkF m 78 #[.val (.int x0), .val (.int x1), .val (.int x2), .unset, .unset, .unset, .unset] [(.int (13 : Int32)), (.ref b1), (.ref b1)])) (fun _ k => XS.bipush X14.here hx rfl (hb hby at_76) k) ?_
    refine own_step (T' := T14) (g' := (mkF m 80 #[.val (.int x0), .val (.int x1), .val (.int x2), .unset, .unset, .unset, .unset] [(.int (65534 : Int32)), (.int (13 : Int32)), (.ref b1), (.ref b1)])) (fun _ k => X14.ldcInt hx hown (mvT hZ (hw _ (List.mem_of_getElem? (i := 6) rfl))) (g := (mkF m 78 #[.val (.int x0), .val (.int x1), .val (.int x2), .unset, .unset, .unset, .unset] [(.int (13 : Int32)), (.ref b1), (.ref b1)])) rfl (hb hby at_78) _ k) ?_
    obtain ⟨cl15, Ar15, q15, S15, M15, H15, G15⟩ := V14
    obtain ⟨T15, h15, X15, e15, W15, st15⟩ := stI X14 hx hZ e14 Ar15 (j := (13 : Int32)) (inb_of S15 ⟨by decide, by decide⟩) (g := (mkF m 80 #[.val (.int x0), .val (.int x1), .val (.int x2), .unset, .unset, .unset, .unset] [(.int (65534 : Int32)), (.int (13 : Int32)), (.ref b1), (.ref b1)])) rfl rfl (hb hby at_80)
    have V15 : Arv Z h15 b1 k1 .int (20 : Int32) [(.int (0 : Int32)), (.int (9 : Int32)), (.int (10 : Int32)), (.int (11 : Int32)), (.int (13 : Int32)), (.int (14 : Int32)), (.int (31 : Int32)), (.int (32 : Int32)), (.int (55295 : Int32)), (.int (55296 : Int32)), (.int (57343 : Int32)), (.int (57344 : Int32)), (.int (65533 : Int32)), (.int (65534 : Int32)), (.int (0 : Int32)), (.int (0 : Int32)), (.int (0 : Int32)), (.int (0 : Int32)), (.int (0 : Int32)), (.int (0 : Int32))] (.int (0 : Int32)) := Arv.set Ar15 q15 S15 M15 H15 G15 rfl W15 13 rfl (Nat.le_of_ble_eq_true rfl)
    have N15 := Fr.snoc X15 N14 g_b1
    have Z15 : n0 ≤ h15.size := Nat.le_trans Z14 (Keep.of_wr W15).1
    refine own_step (T' := T15) (g' := (mkF m 81 #[.val (.int x0), .val (.int x1), .val (.int x2), .unset, .unset, .unset, .unset] [(.ref b1)])) (fun _ k => st15 _ k) ?_
    refine own_step (T' := T15) (g' := (mkF m 82 #[.val (.int x0), .val (.int x1), .val (.int x2), .unset, .unset, .unset, .unset] [(.ref b1), (.ref b1)])) (fun _ k => XS.dup X15.here hx rfl (hb hby at_81) rfl rfl k) ?_
    refine own_step (T' := T15) (g' := (mkF m 84 #[.val (.int x0), .val (.int x1), .val (.int x2), .unset, .unset, .unset, .unset] [(.int (14 : Int32)), (.ref b1), (.ref b1)])) (fun _ k => XS.bipush X15.here hx rfl (hb hby at_82) k) ?_
    refine own_step (T' := T15) (g' := (mkF m 86 #[.val (.int x0), .val (.int x1), .val (.int x2), .unset, .unset, .unset, .unset] [(.int (65535 : Int32)), (.int (14 : Int32)), (.ref b1), (.ref b1)])) (fun _ k => X15.ldcInt hx hown (mvT hZ (hw _ (List.mem_of_getElem? (i := 7) rfl))) (g := (mkF m 84 #[.val (.int x0), .val (.int x1), .val (.int x2), .unset, .unset, .unset, .unset] [(.int (14 : Int32)), (.ref b1), (.ref b1)])) rfl (hb hby at_84) _ k) ?_
    obtain ⟨cl16, Ar16, q16, S16, M16, H16, G16⟩ := V15
    obtain ⟨T16, h16, X16, e16, W16, st16⟩ := stI X15 hx hZ e15 Ar16 (j := (14 : Int32)) (inb_of S16 ⟨by decide, by decide⟩) (g := (mkF m 86 #[.val (.int x0), .val (.int x1), .val (.int x2), .unset, .unset, .unset, .unset] [(.int (65535 : Int32)), (.int (14 : Int32)), (.ref b1), (.ref b1)])) rfl rfl (hb hby at_86)
    have V16 : Arv Z h16 b1 k1 .int (20 : Int32) [(.int (0 : Int32)), (.int (9 : Int32)), (.int (10 : Int32)), (.int (11 : Int32)), (.int (13 : Int32)), (.int (14 : Int32)), (.int (31 : Int32)), (.int (32 : Int32)), (.int (55295 : Int32)), (.int (55296 : Int32)), (.int (57343 : Int32)), (.int (57344 : Int32)), (.int (65533 : Int32)), (.int (65534 : Int32)), (.int (65535 : Int32)), (.int (0 : Int32)), (.int (0 : Int32)), (.int (0 : Int32)), (.int (0 : Int32)), (.int (0 : Int32))] (.int (0 : Int32)) := Arv.set Ar16 q16 S16 M16 H16 G16 rfl W16 14 rfl (Nat.le_of_ble_eq_true rfl)
    have N16 := Fr.snoc X16 N15 g_b1
    have Z16 : n0 ≤ h16.size := Nat.le_trans Z15 (Keep.of_wr W16).1
    refine own_step (T' := T16) (g' := (mkF m 87 #[.val (.int x0), .val (.int x1), .val (.int x2), .unset, .unset, .unset, .unset] [(.ref b1)])) (fun _ k => st16 _ k) ?_
    refine own_step (T' := T16) (g' := (mkF m 88 #[.val (.int x0), .val (.int x1), .val (.int x2), .unset, .unset, .unset, .unset] [(.ref b1), (.ref b1)])) (fun _ k => XS.dup X16.here hx rfl (hb hby at_87) rfl rfl k) ?_
    refine own_step (T' := T16) (g' := (mkF m 90 #[.val (.int x0), .val (.int x1), .val (.int x2), .unset, .unset, .unset, .unset] [(.int (15 : Int32)), (.ref b1), (.ref b1)])) (fun _ k => XS.bipush X16.here hx rfl (hb hby at_88) k) ?_
    refine own_step (T' := T16) (g' := (mkF m 92 #[.val (.int x0), .val (.int x1), .val (.int x2), .unset, .unset, .unset, .unset] [(.int (65536 : Int32)), (.int (15 : Int32)), (.ref b1), (.ref b1)])) (fun _ k => X16.ldcInt hx hown (mvT hZ (hw _ (List.mem_of_getElem? (i := 8) rfl))) (g := (mkF m 90 #[.val (.int x0), .val (.int x1), .val (.int x2), .unset, .unset, .unset, .unset] [(.int (15 : Int32)), (.ref b1), (.ref b1)])) rfl (hb hby at_90) _ k) ?_
    obtain ⟨cl17, Ar17, q17, S17, M17, H17, G17⟩ := V16
    obtain ⟨T17, h17, X17, e17, W17, st17⟩ := stI X16 hx hZ e16 Ar17 (j := (15 : Int32)) (inb_of S17 ⟨by decide, by decide⟩) (g := (mkF m 92 #[.val (.int x0), .val (.int x1), .val (.int x2), .unset, .unset, .unset, .unset] [(.int (65536 : Int32)), (.int (15 : Int32)), (.ref b1), (.ref b1)])) rfl rfl (hb hby at_92)
    have V17 : Arv Z h17 b1 k1 .int (20 : Int32) [(.int (0 : Int32)), (.int (9 : Int32)), (.int (10 : Int32)), (.int (11 : Int32)), (.int (13 : Int32)), (.int (14 : Int32)), (.int (31 : Int32)), (.int (32 : Int32)), (.int (55295 : Int32)), (.int (55296 : Int32)), (.int (57343 : Int32)), (.int (57344 : Int32)), (.int (65533 : Int32)), (.int (65534 : Int32)), (.int (65535 : Int32)), (.int (65536 : Int32)), (.int (0 : Int32)), (.int (0 : Int32)), (.int (0 : Int32)), (.int (0 : Int32))] (.int (0 : Int32)) := Arv.set Ar17 q17 S17 M17 H17 G17 rfl W17 15 rfl (Nat.le_of_ble_eq_true rfl)
    have N17 := Fr.snoc X17 N16 g_b1
    have Z17 : n0 ≤ h17.size := Nat.le_trans Z16 (Keep.of_wr W17).1
    refine own_step (T' := T17) (g' := (mkF m 93 #[.val (.int x0), .val (.int x1), .val (.int x2), .unset, .unset, .unset, .unset] [(.ref b1)])) (fun _ k => st17 _ k) ?_
    refine own_step (T' := T17) (g' := (mkF m 94 #[.val (.int x0), .val (.int x1), .val (.int x2), .unset, .unset, .unset, .unset] [(.ref b1), (.ref b1)])) (fun _ k => XS.dup X17.here hx rfl (hb hby at_93) rfl rfl k) ?_
    refine own_step (T' := T17) (g' := (mkF m 96 #[.val (.int x0), .val (.int x1), .val (.int x2), .unset, .unset, .unset, .unset] [(.int (16 : Int32)), (.ref b1), (.ref b1)])) (fun _ k => XS.bipush X17.here hx rfl (hb hby at_94) k) ?_
    refine own_step (T' := T17) (g' := (mkF m 98 #[.val (.int x0), .val (.int x1), .val (.int x2), .unset, .unset, .unset, .unset] [(.int (1114111 : Int32)), (.int (16 : Int32)), (.ref b1), (.ref b1)])) (fun _ k => X17.ldcInt hx hown (mvT hZ (hw _ (List.mem_of_getElem? (i := 9) rfl))) (g := (mkF m 96 #[.val (.int x0), .val (.int x1), .val (.int x2), .unset, .unset, .unset, .unset] [(.int (16 : Int32)), (.ref b1), (.ref b1)])) rfl (hb hby at_96) _ k) ?_
    obtain ⟨cl18, Ar18, q18, S18, M18, H18, G18⟩ := V17
    obtain ⟨T18, h18, X18, e18, W18, st18⟩ := stI X17 hx hZ e17 Ar18 (j := (16 : Int32)) (inb_of S18 ⟨by decide, by decide⟩) (g := (mkF m 98 #[.val (.int x0), .val (.int x1), .val (.int x2), .unset, .unset, .unset, .unset] [(.int (1114111 : Int32)), (.int (16 : Int32)), (.ref b1), (.ref b1)])) rfl rfl (hb hby at_98)
    have V18 : Arv Z h18 b1 k1 .int (20 : Int32) [(.int (0 : Int32)), (.int (9 : Int32)), (.int (10 : Int32)), (.int (11 : Int32)), (.int (13 : Int32)), (.int (14 : Int32)), (.int (31 : Int32)), (.int (32 : Int32)), (.int (55295 : Int32)), (.int (55296 : Int32)), (.int (57343 : Int32)), (.int (57344 : Int32)), (.int (65533 : Int32)), (.int (65534 : Int32)), (.int (65535 : Int32)), (.int (65536 : Int32)), (.int (1114111 : Int32)), (.int (0 : Int32)), (.int (0 : Int32)), (.int (0 : Int32))] (.int (0 : Int32)) := Arv.set Ar18 q18 S18 M18 H18 G18 rfl W18 16 rfl (Nat.le_of_ble_eq_true rfl)
    have N18 := Fr.snoc X18 N17 g_b1
    have Z18 : n0 ≤ h18.size := Nat.le_trans Z17 (Keep.of_wr W18).1
    refine own_step (T' := T18) (g' := (mkF m 99 #[.val (.int x0), .val (.int x1), .val (.int x2), .unset, .unset, .unset, .unset] [(.ref b1)])) (fun _ k => st18 _ k) ?_
    refine own_step (T' := T18) (g' := (mkF m 100 #[.val (.int x0), .val (.int x1), .val (.int x2), .unset, .unset, .unset, .unset] [(.ref b1), (.ref b1)])) (fun _ k => XS.dup X18.here hx rfl (hb hby at_99) rfl rfl k) ?_
    refine own_step (T' := T18) (g' := (mkF m 102 #[.val (.int x0), .val (.int x1), .val (.int x2), .unset, .unset, .unset, .unset] [(.int (17 : Int32)), (.ref b1), (.ref b1)])) (fun _ k => XS.bipush X18.here hx rfl (hb hby at_100) k) ?_
    refine own_step (T' := T18) (g' := (mkF m 104 #[.val (.int x0), .val (.int x1), .val (.int x2), .unset, .unset, .unset, .unset] [(.int (1114112 : Int32)), (.int (17 : Int32)), (.ref b1), (.ref b1)])) (fun _ k => X18.ldcInt hx hown (mvT hZ (hw _ (List.mem_of_getElem? (i := 10) rfl))) (g := (mkF m 102 #[.val (.int x0), .val (.int x1), .val (.int x2), .unset, .unset, .unset, .unset] [(.int (17 : Int32)), (.ref b1), (.ref b1)])) rfl (hb hby at_102) _ k) ?_
    obtain ⟨cl19, Ar19, q19, S19, M19, H19, G19⟩ := V18
    obtain ⟨T19, h19, X19, e19, W19, st19⟩ := stI X18 hx hZ e18 Ar19 (j := (17 : Int32)) (inb_of S19 ⟨by decide, by decide⟩) (g := (mkF m 104 #[.val (.int x0), .val (.int x1), .val (.int x2), .unset, .unset, .unset, .unset] [(.int (1114112 : Int32)), (.int (17 : Int32)), (.ref b1), (.ref b1)])) rfl rfl (hb hby at_104)
    have V19 : Arv Z h19 b1 k1 .int (20 : Int32) [(.int (0 : Int32)), (.int (9 : Int32)), (.int (10 : Int32)), (.int (11 : Int32)), (.int (13 : Int32)), (.int (14 : Int32)), (.int (31 : Int32)), (.int (32 : Int32)), (.int (55295 : Int32)), (.int (55296 : Int32)), (.int (57343 : Int32)), (.int (57344 : Int32)), (.int (65533 : Int32)), (.int (65534 : Int32)), (.int (65535 : Int32)), (.int (65536 : Int32)), (.int (1114111 : Int32)), (.int (1114112 : Int32)), (.int (0 : Int32)), (.int (0 : Int32))] (.int (0 : Int32)) := Arv.set Ar19 q19 S19 M19 H19 G19 rfl W19 17 rfl (Nat.le_of_ble_eq_true rfl)
    have N19 := Fr.snoc X19 N18 g_b1
    have Z19 : n0 ≤ h19.size := Nat.le_trans Z18 (Keep.of_wr W19).1
    refine own_step (T' := T19) (g' := (mkF m 105 #[.val (.int x0), .val (.int x1), .val (.int x2), .unset, .unset, .unset, .unset] [(.ref b1)])) (fun _ k => st19 _ k) ?_
    refine own_step (T' := T19) (g' := (mkF m 106 #[.val (.int x0), .val (.int x1), .val (.int x2), .unset, .unset, .unset, .unset] [(.ref b1), (.ref b1)])) (fun _ k => XS.dup X19.here hx rfl (hb hby at_105) rfl rfl k) ?_
    refine own_step (T' := T19) (g' := (mkF m 108 #[.val (.int x0), .val (.int x1), .val (.int x2), .unset, .unset, .unset, .unset] [(.int (18 : Int32)), (.ref b1), (.ref b1)])) (fun _ k => XS.bipush X19.here hx rfl (hb hby at_106) k) ?_
    refine own_step (T' := T19) (g' := (mkF m 110 #[.val (.int x0), .val (.int x1), .val (.int x2), .unset, .unset, .unset, .unset] [(.int (-2147483648 : Int32)), (.int (18 : Int32)), (.ref b1), (.ref b1)])) (fun _ k => X19.ldcInt hx hown (mvT hZ (hw _ (List.mem_of_getElem? (i := 11) rfl))) (g := (mkF m 108 #[.val (.int x0), .val (.int x1), .val (.int x2), .unset, .unset, .unset, .unset] [(.int (18 : Int32)), (.ref b1), (.ref b1)])) rfl (hb hby at_108) _ k) ?_
    obtain ⟨cl20, Ar20, q20, S20, M20, H20, G20⟩ := V19
    obtain ⟨T20, h20, X20, e20, W20, st20⟩ := stI X19 hx hZ e19 Ar20 (j := (18 : Int32)) (inb_of S20 ⟨by decide, by decide⟩) (g := (mkF m 110 #[.val (.int x0), .val (.int x1), .val (.int x2), .unset, .unset, .unset, .unset] [(.int (-2147483648 : Int32)), (.int (18 : Int32)), (.ref b1), (.ref b1)])) rfl rfl (hb hby at_110)
    have V20 : Arv Z h20 b1 k1 .int (20 : Int32) [(.int (0 : Int32)), (.int (9 : Int32)), (.int (10 : Int32)), (.int (11 : Int32)), (.int (13 : Int32)), (.int (14 : Int32)), (.int (31 : Int32)), (.int (32 : Int32)), (.int (55295 : Int32)), (.int (55296 : Int32)), (.int (57343 : Int32)), (.int (57344 : Int32)), (.int (65533 : Int32)), (.int (65534 : Int32)), (.int (65535 : Int32)), (.int (65536 : Int32)), (.int (1114111 : Int32)), (.int (1114112 : Int32)), (.int (-2147483648 : Int32)), (.int (0 : Int32))] (.int (0 : Int32)) := Arv.set Ar20 q20 S20 M20 H20 G20 rfl W20 18 rfl (Nat.le_of_ble_eq_true rfl)
    have N20 := Fr.snoc X20 N19 g_b1
    have Z20 : n0 ≤ h20.size := Nat.le_trans Z19 (Keep.of_wr W20).1
    refine own_step (T' := T20) (g' := (mkF m 111 #[.val (.int x0), .val (.int x1), .val (.int x2), .unset, .unset, .unset, .unset] [(.ref b1)])) (fun _ k => st20 _ k) ?_
    refine own_step (T' := T20) (g' := (mkF m 112 #[.val (.int x0), .val (.int x1), .val (.int x2), .unset, .unset, .unset, .unset] [(.ref b1), (.ref b1)])) (fun _ k => XS.dup X20.here hx rfl (hb hby at_111) rfl rfl k) ?_
    refine own_step (T' := T20) (g' := (mkF m 114 #[.val (.int x0), .val (.int x1), .val (.int x2), .unset, .unset, .unset, .unset] [(.int (19 : Int32)), (.ref b1), (.ref b1)])) (fun _ k => XS.bipush X20.here hx rfl (hb hby at_112) k) ?_
    refine own_step (T' := T20) (g' := (mkF m 116 #[.val (.int x0), .val (.int x1), .val (.int x2), .unset, .unset, .unset, .unset] [(.int (2147483647 : Int32)), (.int (19 : Int32)), (.ref b1), (.ref b1)])) (fun _ k => X20.ldcInt hx hown (mvT hZ (hw _ (List.mem_of_getElem? (i := 12) rfl))) (g := (mkF m 114 #[.val (.int x0), .val (.int x1), .val (.int x2), .unset, .unset, .unset, .unset] [(.int (19 : Int32)), (.ref b1), (.ref b1)])) rfl (hb hby at_114) _ k) ?_
    obtain ⟨cl21, Ar21, q21, S21, M21, H21, G21⟩ := V20
    obtain ⟨T21, h21, X21, e21, W21, st21⟩ := stI X20 hx hZ e20 Ar21 (j := (19 : Int32)) (inb_of S21 ⟨by decide, by decide⟩) (g := (mkF m 116 #[.val (.int x0), .val (.int x1), .val (.int x2), .unset, .unset, .unset, .unset] [(.int (2147483647 : Int32)), (.int (19 : Int32)), (.ref b1), (.ref b1)])) rfl rfl (hb hby at_116)
    have V21 : Arv Z h21 b1 k1 .int (20 : Int32) [(.int (0 : Int32)), (.int (9 : Int32)), (.int (10 : Int32)), (.int (11 : Int32)), (.int (13 : Int32)), (.int (14 : Int32)), (.int (31 : Int32)), (.int (32 : Int32)), (.int (55295 : Int32)), (.int (55296 : Int32)), (.int (57343 : Int32)), (.int (57344 : Int32)), (.int (65533 : Int32)), (.int (65534 : Int32)), (.int (65535 : Int32)), (.int (65536 : Int32)), (.int (1114111 : Int32)), (.int (1114112 : Int32)), (.int (-2147483648 : Int32)), (.int (2147483647 : Int32))] (.int (0 : Int32)) := Arv.set Ar21 q21 S21 M21 H21 G21 rfl W21 19 rfl (Nat.le_of_ble_eq_true rfl)
    have N21 := Fr.snoc X21 N20 g_b1
    have Z21 : n0 ≤ h21.size := Nat.le_trans Z20 (Keep.of_wr W21).1
    refine own_step (T' := T21) (g' := (mkF m 117 #[.val (.int x0), .val (.int x1), .val (.int x2), .unset, .unset, .unset, .unset] [(.ref b1)])) (fun _ k => st21 _ k) ?_
    refine own_step (T' := T21) (g' := (mkF m 118 #[.val (.int x0), .val (.int x1), .val (.int x2), .val (.ref b1), .unset, .unset, .unset] [])) (fun _ k => XS.astoreN X21.here hx rfl (hb hby at_117) rfl rfl (l' := #[.val (.int x0), .val (.int x1), .val (.int x2), .val (.ref b1), .unset, .unset, .unset]) rfl k) ?_
    refine own_step (T' := T21) (g' := (mkF m 119 #[.val (.int x0), .val (.int x1), .val (.int x2), .val (.ref b1), .unset, .unset, .unset] [(.ref b1)])) (fun _ k => XS.aloadN X21.here hx rfl (hb hby at_118) rfl rfl k) ?_
    refine own_step (T' := T21) (g' := (mkF m 120 #[.val (.int x0), .val (.int x1), .val (.int x2), .val (.ref b1), .unset, .unset, .unset] [(.int x1), (.ref b1)])) (fun _ k => XS.iloadN X21.here hx rfl (hb hby at_119) rfl k) ?_
    refine own_step (T' := T21) (g' := (mkF m 122 #[.val (.int x0), .val (.int x1), .val (.int x2), .val (.ref b1), .unset, .unset, .unset] [(.int (2147483647 : Int32)), (.int x1), (.ref b1)])) (fun _ k => X21.ldcInt hx hown (mvT hZ (hw _ (List.mem_of_getElem? (i := 12) rfl))) (g := (mkF m 120 #[.val (.int x0), .val (.int x1), .val (.int x2), .val (.ref b1), .unset, .unset, .unset] [(.int x1), (.ref b1)])) rfl (hb hby at_120) _ k) ?_
    refine own_step (T' := T21) (g' := (mkF m 123 #[.val (.int x0), .val (.int x1), .val (.int x2), .val (.ref b1), .unset, .unset, .unset] [(.int (x1 &&& (2147483647 : Int32))), (.ref b1)])) (fun _ k => XS.iand X21.here hx rfl (hb hby at_122) rfl k) ?_
    refine own_step (T' := T21) (g' := (mkF m 124 #[.val (.int x0), .val (.int x1), .val (.int x2), .val (.ref b1), .unset, .unset, .unset] [(.ref b1), (.int (x1 &&& (2147483647 : Int32))), (.ref b1)])) (fun _ k => XS.aloadN X21.here hx rfl (hb hby at_123) rfl rfl k) ?_
    have Vq22 := V21
    obtain ⟨cl22, Ar22, -, S22, M22, -, -⟩ := Vq22
    refine own_step (T' := T21) (g' := (mkF m 125 #[.val (.int x0), .val (.int x1), .val (.int x2), .val (.ref b1), .unset, .unset, .unset] [(.int (20 : Int32)), (.int (x1 &&& (2147483647 : Int32))), (.ref b1)])) (fun _ k => X21.arraylength hx (by rw [e21]; exact Ar22.1) (State.isArrayOf_alike hZ.alike Ar22.2.1) (g := (mkF m 124 #[.val (.int x0), .val (.int x1), .val (.int x2), .val (.ref b1), .unset, .unset, .unset] [(.ref b1), (.int (x1 &&& (2147483647 : Int32))), (.ref b1)])) rfl rfl (hb hby at_124) _ (by rw [len_of S22 M22]; exact k)) ?_
    refine own_step (T' := T21) (g' := (mkF m 126 #[.val (.int x0), .val (.int x1), .val (.int x2), .val (.ref b1), .unset, .unset, .unset] [(.int ((x1 &&& (2147483647 : Int32)) % (20 : Int32))), (.ref b1)])) (fun _ k => iremM X21 hx rfl (hb hby at_125) rfl (by decide) k) ?_
    have hj23 : ¬ ((x1 &&& (2147483647 : Int32)) % (20 : Int32)) < 0 ∧ ((x1 &&& (2147483647 : Int32)) % (20 : Int32)) < (20 : Int32) := own_in0_126 x1
    have Vq23 := V21
    obtain ⟨cl23, Ar23, -, S23, -, H23, -⟩ := Vq23
    have hin23 := inb_of S23 hj23
    have hat23 : cl23.slots[(((x1 &&& (2147483647 : Int32)) % (20 : Int32))).toNatClampNeg]? = some (.int (own_a0_126.getD ((x1 &&& (2147483647 : Int32)) % (20 : Int32)).toNatClampNeg (0 : Int32))) := H23.at hin23 (own_getD own_a0_126 _)
    refine own_step (T' := T21) (g' := (mkF m 127 #[.val (.int x0), .val (.int x1), .val (.int x2), .val (.ref b1), .unset, .unset, .unset] [(.int (own_a0_126.getD ((x1 &&& (2147483647 : Int32)) % (20 : Int32)).toNatClampNeg (0 : Int32)))])) (fun _ k => X21.iaload hx (j := ((x1 &&& (2147483647 : Int32)) % (20 : Int32))) (v := .int (own_a0_126.getD ((x1 &&& (2147483647 : Int32)) % (20 : Int32)).toNatClampNeg (0 : Int32))) (by rw [e21]; exact Ar23.1) (State.isArrayOf_alike hZ.alike Ar23.2.1) Ar23.2.2 hin23 hat23 (g := (mkF m 126 #[.val (.int x0), .val (.int x1), .val (.int x2), .val (.ref b1), .unset, .unset, .unset] [(.int ((x1 &&& (2147483647 : Int32)) % (20 : Int32))), (.ref b1)])) rfl rfl (hb hby at_126) _ k) ?_
    refine own_step (T' := T21) (g' := (mkF m 128 #[.val (.int x0), .val (.int x1), .val (.int x2), .val (.ref b1), .unset, .unset, .unset] [(.int x2), (.int (own_a0_126.getD ((x1 &&& (2147483647 : Int32)) % (20 : Int32)).toNatClampNeg (0 : Int32)))])) (fun _ k => XS.iloadN X21.here hx rfl (hb hby at_127) rfl k) ?_
    refine own_step (T' := T21) (g' := (mkF m 129 #[.val (.int x0), .val (.int x1), .val (.int x2), .val (.ref b1), .unset, .unset, .unset] [(.int (3 : Int32)), (.int x2), (.int (own_a0_126.getD ((x1 &&& (2147483647 : Int32)) % (20 : Int32)).toNatClampNeg (0 : Int32)))])) (fun _ k => XS.iconst X21.here hx rfl (hb hby at_128) k) ?_
    refine own_step (T' := T21) (g' := (mkF m 130 #[.val (.int x0), .val (.int x1), .val (.int x2), .val (.ref b1), .unset, .unset, .unset] [(.int (x2 &&& (3 : Int32))), (.int (own_a0_126.getD ((x1 &&& (2147483647 : Int32)) % (20 : Int32)).toNatClampNeg (0 : Int32)))])) (fun _ k => XS.iand X21.here hx rfl (hb hby at_129) rfl k) ?_
    refine own_step (T' := T21) (g' := (mkF m 131 #[.val (.int x0), .val (.int x1), .val (.int x2), .val (.ref b1), .unset, .unset, .unset] [(.int (1 : Int32)), (.int (x2 &&& (3 : Int32))), (.int (own_a0_126.getD ((x1 &&& (2147483647 : Int32)) % (20 : Int32)).toNatClampNeg (0 : Int32)))])) (fun _ k => XS.iconst X21.here hx rfl (hb hby at_130) k) ?_
    refine own_step (T' := T21) (g' := (mkF m 132 #[.val (.int x0), .val (.int x1), .val (.int x2), .val (.ref b1), .unset, .unset, .unset] [(.int ((x2 &&& (3 : Int32)) - (1 : Int32))), (.int (own_a0_126.getD ((x1 &&& (2147483647 : Int32)) % (20 : Int32)).toNatClampNeg (0 : Int32)))])) (fun _ k => XS.isub X21.here hx rfl (hb hby at_131) rfl k) ?_
    refine own_step (T' := T21) (g' := (mkF m 133 #[.val (.int x0), .val (.int x1), .val (.int x2), .val (.ref b1), .unset, .unset, .unset] [(.int ((own_a0_126.getD ((x1 &&& (2147483647 : Int32)) % (20 : Int32)).toNatClampNeg (0 : Int32)) + ((x2 &&& (3 : Int32)) - (1 : Int32))))])) (fun _ k => XS.iadd X21.here hx rfl (hb hby at_132) rfl k) ?_
    refine own_step (T' := T21) (g' := (mkF m 135 #[.val (.int x0), .val (.int x1), .val (.int x2), .val (.ref b1), .val (.int ((own_a0_126.getD ((x1 &&& (2147483647 : Int32)) % (20 : Int32)).toNatClampNeg (0 : Int32)) + ((x2 &&& (3 : Int32)) - (1 : Int32)))), .unset, .unset] [])) (fun _ k => XS.istore X21.here hx rfl (hb hby at_133) rfl (l' := #[.val (.int x0), .val (.int x1), .val (.int x2), .val (.ref b1), .val (.int ((own_a0_126.getD ((x1 &&& (2147483647 : Int32)) % (20 : Int32)).toNatClampNeg (0 : Int32)) + ((x2 &&& (3 : Int32)) - (1 : Int32)))), .unset, .unset]) rfl k) ?_
    exact B135 T21 _ x0 x1 x2 b1 ((own_a0_126.getD ((x1 &&& (2147483647 : Int32)) % (20 : Int32)).toNatClampNeg (0 : Int32)) + ((x2 &&& (3 : Int32)) - (1 : Int32))) h21 Z21 k1 V21 X21 e21 N21 hf
  have hB := B0 s₁ [] p0 p1 p2 h0 Z0 X00 e00 (Fr.nil n0) hlaw
  obtain ⟨s₂, o, q1, q2, q3, v, L, q4, q5, q6⟩ := hB
  exact ⟨s₂, o, castTop (ef_0 m p0 p1 p2) q1, q2, q3, v, L, q4, q5, q6⟩
set_option maxRecDepth 65536 in
set_option maxHeartbeats 40000000 in
theorem comes_1 {Post : Tables → Env → Array Value → State → Outcome → State → Prop} (hpost : ∀ tb e args s v u, (limb_1_1.after args s (.returned v) u = true ∧ limb_1_2.after args s (.returned v) u = true ∧ True) → FrameEnd s (.returned v) u (Jvm.fieldLocs frame_1_writes args s ++ Jvm.arrayLocs frame_1_arrays args s ++ Jvm.staticLocs frame_1_statics s) 16 128 → Post tb e args s (.returned v) u) :
    ArmFor flags0 classFile x code maxLocals ret World_1 tables_1 room_1 Calls_1 rest_1 Pre_1 Post := by
  intro l hfl _ _ p e ha hc hk s m args below hf hA hF happ hP
  obtain ⟨hcalls, hrest, hpre⟩ := hP
  obtain ⟨-, -, -, hnamed, -, -, -, hat⟩ := (Spec.applies_iff hf).mp happ
  obtain ⟨hg, hn⟩ := and_e (Cond.before_iff.mp (show (Jvm.Cond.and given_1 narrow_1).before args s = true from hpre))
  obtain ⟨hcnt, g0⟩ := and_e hg
  obtain ⟨a0, g1⟩ := and_e g0
  obtain ⟨a1, g2⟩ := and_e g1
  obtain ⟨w0, w1, w2, rfl⟩ : ∃ w0 w1 w2 : Value, args = #[w0, w1, w2] := by
    have hs : args.size = 3 := by simpa [Cond.value, given_1] using hcnt
    obtain ⟨L⟩ := args
    match L, hs with
    | [w0, w1, w2], _ => exact ⟨w0, w1, w2, rfl⟩
  have hw := fun d (hd : d ∈ tables_1) => atoms_spec (ws := Jvm.Cond.code x code maxLocals ret :: tables_1) hat d (List.mem_cons_of_mem _ hd)
  obtain ⟨i0, ei0⟩ := is_v a0
  obtain rfl : w0 = (.int i0) := Option.some.inj ei0
  obtain ⟨i1, ei1⟩ := is_v a1
  obtain rfl : w1 = (.int i1) := Option.some.inj ei1
  obtain ⟨i2, ei2⟩ := is_v g2
  obtain rfl : w2 = (.int i2) := Option.some.inj ei2
  obtain ⟨n, o, h1, h2, h3, _, L, rfl, ⟨rfl, N⟩, hq⟩ := rm0 l s _ hw tables_1 i0 i1 i2 s.heap s.heap.size (Nat.le_refl _) (own_law i0 i1 i2) p e ha hc hk s m _ below hf ((Spec.applies_iff_loose hf).mp happ).1 ⟨rfl, State.Warmed39.refl s, rfl⟩ trivial
  refine ⟨n, _, h1, h2, h3, hpost _ _ _ _ _ _ ⟨Cond.after_iff.mpr rfl, Cond.after_iff.mpr (eq_i res_at (Term.int_eval (1)) rfl), trivial⟩ ⟨hq.1, hq.2.1, (hq.2.2.sift fun y hy => Or.inr (N y hy)).mono (by decide) (by decide)⟩⟩
theorem main_1_1 : Claimed_1_1 := comes_1 fun _ _ _ _ _ _ h hF => ⟨h.1, hF⟩
theorem main_1_2 : Claimed_1_2 := comes_1 fun _ _ _ _ _ _ h hF => ⟨h.2.1, hF⟩
end Jvm.Pilot.@@N@@
namespace Jvm.Pilot.@@N@@
open Jvm Jvm.ClassFile Sem Op Lib Jvm.Free Jvm.Stand Jvm.Pilot.@@N@@.Jvm.D
/-! MADE BY PROGRAM (witnessworld.py) out of the Statement's table words and the real class files: 9 classes; the members and pool entries that the words name. The judged class is class 1, her method 2. -/
namespace start1
open Jvm.ClassFile
def u (s : String) : CpInfo := .utf8 (stringToUtf16 s)
/-- a pool by its gaps: so many unusable entries, then the entry; so many at the end -/
def gap : Nat → List CpInfo → List CpInfo
  | 0, r => r
  | n + 1, r => .unusable :: gap n r
def poolList (es : List (Nat × CpInfo)) (last : Nat) : List CpInfo := es.foldr (fun e r => gap e.1 (e.2 :: r)) (gap last [])
def pool (es : List (Nat × CpInfo)) (last : Nat) : Array CpInfo := ⟨poolList es last⟩
def fileOf (pool : Array CpInfo) (this : Nat) (attrs : Array Attribute := #[]) (ms : Array MethodInfo := #[]) (fl : Nat := 33) (sup : Nat := 0) (ifs : Array Nat := #[]) (fds : Array FieldInfo := #[]) : ClassFile where
  minorVersion := 0
  majorVersion := 65
  constantPool := pool
  accessFlags := fl
  thisClass := this
  superClass := sup
  interfaces := ifs
  fields := fds
  methods := ms
  attributes := attrs
def plain (name : String) (sup : Option ClassId) : Class where
  name := name
  kind := .ordinary
  loader := none
  accessFlags := 33
  super := sup
  interfaces := #[]
  cf := none
  fields := #[]
  methods := #[]
  instanceTypes := #[]
  staticTypes := #[]
  resolved := #[]
  callSites := []
  init := .initialized
  statics := none
  mirror := none

def pool0 : Array CpInfo := pool [(5, u "<init>"), (0, u "()V"), (1, .class_ 10), (1, u "java/lang/Object")] 113

def k0m0 : Method := { name := "<init>", desc := "()V", sig := { parameters := [], returnType := none }, accessFlags := 1, code := none }
/-- java/lang/Object -/
def k0 : Class := { plain "java/lang/Object" none with
  accessFlags := 33
  interfaces := #[]
  cf := some (fileOf pool0 8 #[] #[{ accessFlags := 1, nameIndex := 5, descriptorIndex := 6, attributes := #[] }] 33 0 #[] #[])
  fields := #[]
  methods := #[k0m0]
  instanceTypes := #[]
  staticTypes := #[]
  resolved := Array.replicate 124 none
  statics := none }

def pool1 : Array CpInfo := pool [(2, .class_ 4), (1, u "java/lang/Object"), (0, u "<init>"), (0, u "()V"), (0, .integer 1114111), (0, .integer 55296), (0, .integer 57343), (0, .integer 65534), (0, .integer 65535), (0, .integer 55295), (0, .integer 57344), (0, .integer 65533), (0, .integer 65536), (0, .integer 1114112), (2, .integer 2147483648), (0, .integer 2147483647), (0, .methodref 22 23), (0, .class_ 24), (0, .nameAndType 25 26), (0, u "com/example/willow_graft/willowgraft/tree/XmlNames"), (0, u "isChar"), (0, u "(I)Z"), (0, .methodref 28 29), (0, .class_ 30), (0, .nameAndType 31 26), (0, u "com/example/willow_graft/willowgraft/tree/XmlNamesIsCharPinLaw"), (0, u "ref"), (3, u "law"), (0, u "(III)Z")] 4

def k1m0 : Method := { name := "<init>", desc := "()V", sig := { parameters := [], returnType := none }, accessFlags := 2, code := none }
def k1c1 : Code := { maxStack := 2, maxLocals := 1, code := method_2_code, exceptionTable := #[], attributes := #[] }
def k1m1 : Method := { name := "ref", desc := "(I)Z", sig := { parameters := [.int], returnType := some .boolean }, accessFlags := 10, code := some k1c1 }
def k1c2 : Code := { maxStack := 4, maxLocals := 7, code := code, exceptionTable := #[], attributes := #[] }
def k1m2 : Method := { name := "law", desc := "(III)Z", sig := { parameters := [.int, .int, .int], returnType := some .boolean }, accessFlags := 9, code := some k1c2 }
/-- com/example/willow_graft/willowgraft/tree/XmlNamesIsCharPinLaw -/
def k1 : Class := { plain "com/example/willow_graft/willowgraft/tree/XmlNamesIsCharPinLaw" (some 0) with
  accessFlags := 49
  interfaces := #[]
  cf := some (fileOf pool1 28 #[] #[{ accessFlags := 2, nameIndex := 5, descriptorIndex := 6, attributes := #[] }, { accessFlags := 10, nameIndex := 31, descriptorIndex := 26, attributes := #[] }, { accessFlags := 9, nameIndex := 35, descriptorIndex := 36, attributes := #[] }] 49 2 #[] #[])
  fields := #[]
  methods := #[k1m0, k1m1, k1m2]
  instanceTypes := #[]
  staticTypes := #[]
  resolved := Array.replicate 41 none
  statics := none }

def pool2 : Array CpInfo := pool [(2, .class_ 4), (1, u "java/lang/Object"), (0, u "<init>"), (0, u "()V"), (1, .class_ 10), (1, u "com/example/willow_graft/willowgraft/tree/XmlNames"), (0, u "NAME_START_CHARS"), (0, u "[I"), (6, u "OTHER_NAME_CHARS"), (24, u "(I)Z"), (19, .integer 55295), (0, .integer 57344), (0, .integer 65533), (0, .integer 65536), (0, .integer 1114111), (38, u "isChar")] 9

def k2m0 : Method := { name := "<init>", desc := "()V", sig := { parameters := [], returnType := none }, accessFlags := 2, code := none }
def k2c1 : Code := { maxStack := 2, maxLocals := 1, code := prog_49_method_9_code, exceptionTable := #[], attributes := #[] }
def k2m1 : Method := { name := "isChar", desc := "(I)Z", sig := { parameters := [.int], returnType := some .boolean }, accessFlags := 9, code := some k2c1 }
/-- com/example/willow_graft/willowgraft/tree/XmlNames -/
def k2 : Class := { plain "com/example/willow_graft/willowgraft/tree/XmlNames" (some 0) with
  accessFlags := 33
  interfaces := #[]
  cf := some (fileOf pool2 8 #[] #[{ accessFlags := 2, nameIndex := 5, descriptorIndex := 6, attributes := #[] }, { accessFlags := 9, nameIndex := 107, descriptorIndex := 44, attributes := #[] }] 33 2 #[] #[{ accessFlags := 26, nameIndex := 11, descriptorIndex := 12, attributes := #[] }, { accessFlags := 26, nameIndex := 19, descriptorIndex := 12, attributes := #[] }])
  fields := #[{ name := "NAME_START_CHARS", type := (.array .int), accessFlags := 26, slot := 0, constantValue := 0 }, { name := "OTHER_NAME_CHARS", type := (.array .int), accessFlags := 26, slot := 1, constantValue := 0 }]
  methods := #[k2m0, k2m1]
  instanceTypes := #[]
  staticTypes := #[(.array .int), (.array .int)]
  resolved := Array.replicate 117 none
  statics := none }

def pool3 : Array CpInfo := pool [(1, u "java/lang/Cloneable"), (0, .class_ 1), (0, u "java/lang/Object"), (0, .class_ 3)] 3

/-- java/lang/Cloneable -/
def k3 : Class := { plain "java/lang/Cloneable" (some 0) with
  accessFlags := 1537
  interfaces := #[]
  cf := some (fileOf pool3 2 #[] #[] 1537 4 #[] #[])
  fields := #[]
  methods := #[]
  instanceTypes := #[]
  staticTypes := #[]
  resolved := Array.replicate 8 none
  statics := none }

def pool4 : Array CpInfo := pool [(1, u "java/io/Serializable"), (0, .class_ 1), (0, u "java/lang/Object"), (0, .class_ 3)] 3

/-- java/io/Serializable -/
def k4 : Class := { plain "java/io/Serializable" (some 0) with
  accessFlags := 1537
  interfaces := #[]
  cf := some (fileOf pool4 2 #[] #[] 1537 4 #[] #[])
  fields := #[]
  methods := #[]
  instanceTypes := #[]
  staticTypes := #[]
  resolved := Array.replicate 8 none
  statics := none }

/-- the primitive byte -/
def k5 : Class := { plain "byte" none with kind := .primitive 'B', accessFlags := 0x411 }
/-- [B -/
def k6 : Class := { plain "[B" (some 0) with kind := .array 5 .byte, interfaces := #[3, 4], accessFlags := 1041 }

/-- the primitive int -/
def k7 : Class := { plain "int" none with kind := .primitive 'I', accessFlags := 0x411 }
/-- [I -/
def k8 : Class := { plain "[I" (some 0) with kind := .array 7 .int, interfaces := #[3, 4], accessFlags := 1041 }

def heap : Heap := #[]
def classes : Array Class := #[k0, k1, k2, k3, k4, k5, k6, k7, k8]
def interned : List (Array UInt16 × Addr) := []
def slotsUsed : Nat := 0
def theMethod : MethodId := ⟨1, 2⟩
def args0 : Array Value := #[.int 5, .int 6, .int 7]
def aboutOver (below : List Frame) : State where
  vm := { classes := classes, interned := interned.toArray }
  heap := heap
  slotsUsed := slotsUsed
  threads := #[{ frames := .invoking theMethod args0 :: below }]
def below0 : List Frame := [.native { method := ⟨0, 0⟩, args := #[] }]
def about1 : State := aboutOver below0
def p0 : Program := .bare "" "" ""
def e0 : Env := launch0.env 0 0 0
theorem w_frames : about1.frames = Frame.invoking theMethod args0 :: below0 := rfl
set_option maxRecDepth 65536 in
theorem w_args : argsFit about1.vm theMethod args0 = true := by decide +kernel
set_option maxRecDepth 65536 in
theorem w_heap : heapFits about1 = true := by decide +kernel
set_option maxRecDepth 65536 in
theorem w_runnable : about1.curStatus? = some .runnable := by decide +kernel
set_option maxRecDepth 65536 in
theorem w_alone : about1.alone = true := by decide +kernel
set_option maxRecDepth 65536 in
theorem w_named : about1.methodNamed? x = some theMethod := by decide +kernel
set_option maxRecDepth 65536 in
theorem w_hears : about1.hears theMethod below0 = true := by decide +kernel
set_option maxRecDepth 65536 in
theorem w_ripe : about1.ripe theMethod args0 below0 = true := by decide +kernel
theorem w_running : about1.status = .running := rfl
set_option maxRecDepth 65536 in
theorem w_room : about1.hasRoom e0.platform room_1 = true :=
  launch0.hasRoom_least _ room_1 (by decide +kernel) (by decide +kernel) (by decide +kernel) (by decide +kernel) (by decide +kernel) (by decide +kernel)
theorem allAtoms_all (ts : List Jvm.Cond) (a : Array Jvm.Value) (st : Jvm.State) : (allAtoms ts).before a st = ts.all (fun c => c.before a st) := by
  induction ts with
  | nil => rfl
  | cons c t ih =>
    show (Jvm.Cond.and c (allAtoms t)).before a st = _
    rw [Jvm.Cond.before_and, ih, List.all_cons]
def words1 : List Jvm.Cond := Jvm.Cond.code x code maxLocals ret :: tables_1
/-- a 'code' word, met by the world's own term for the bytes: nothing is compared byte by byte -/
theorem code_word {y : MethodName} {bytes : ByteArray} {mx : Nat} {rt : Option FieldType} {a : Array Value} {s : State} {m : MethodId} {meth : Method} {c : Code} (h1 : s.methodNamed? y = some m) (h2 : s.vm.method? m = some meth) (h3 : meth.code = some c) (h4 : c.code = bytes)
    (h5 : (c.maxLocals == mx && c.exceptionTable.isEmpty && decide (c.maxStack ≤ mostOperands) && decide (meth.sig.returnType = rt) && !meth.locks && decide (parseMethodDescriptor y.desc = some meth.sig)) = true) : (Jvm.Cond.code y bytes mx rt).before a s = true := by
  simp only [Bool.and_eq_true, beq_iff_eq, Bool.not_eq_true', decide_eq_true_eq] at h5
  obtain ⟨⟨⟨⟨⟨g1, g2⟩, g3⟩, g4⟩, g5⟩, g6⟩ := h5
  simp [Cond.before, Cond.holds, Cond.value, h1, h2, h3, h4, g1, g2, g3, g4, g5, g6]
def isCode : Jvm.Cond → Bool
  | .code _ _ _ _ => true
  | _ => false
theorem all_split {L : List Jvm.Cond} {P : Jvm.Cond → Bool} (h1 : L.all (fun c => isCode c || P c) = true) (h2 : ∀ c ∈ L.filter isCode, P c = true) : L.all P = true := by
  refine List.all_eq_true.mpr fun c hc => ?_
  have h := List.all_eq_true.mp h1 c hc
  rcases Bool.eq_false_or_eq_true (isCode c) with hi | hi
  · exact h2 c (List.mem_filter.mpr ⟨hc, hi⟩)
  · simpa [hi] using h
set_option maxRecDepth 65536 in
theorem w_c0 : (Jvm.Cond.code x code maxLocals ret).before args0 about1 = true := code_word (m := ⟨1, 2⟩) (meth := k1m2) (c := k1c2) (by decide +kernel) rfl rfl rfl (by decide +kernel)
set_option maxRecDepth 65536 in
theorem w_c1 : (Jvm.Cond.code ({ cls := "com/example/willow_graft/willowgraft/tree/XmlNames", name := "isChar", desc := "(I)Z" } : Jvm.MethodName) prog_49_method_9_code (1 : Nat) (Option.some Jvm.ClassFile.FieldType.boolean)).before args0 about1 = true := code_word (m := ⟨2, 1⟩) (meth := k2m1) (c := k2c1) (by decide +kernel) rfl rfl rfl (by decide +kernel)
set_option maxRecDepth 65536 in
theorem w_c2 : (Jvm.Cond.code ({ cls := "com/example/willow_graft/willowgraft/tree/XmlNamesIsCharPinLaw", name := "ref", desc := "(I)Z" } : Jvm.MethodName) method_2_code (1 : Nat) (Option.some Jvm.ClassFile.FieldType.boolean)).before args0 about1 = true := code_word (m := ⟨1, 1⟩) (meth := k1m1) (c := k1c1) (by decide +kernel) rfl rfl rfl (by decide +kernel)
def codes1 : List Jvm.Cond := [Jvm.Cond.code x code maxLocals ret, Jvm.Cond.code ({ cls := "com/example/willow_graft/willowgraft/tree/XmlNames", name := "isChar", desc := "(I)Z" } : Jvm.MethodName) prog_49_method_9_code (1 : Nat) (Option.some Jvm.ClassFile.FieldType.boolean), Jvm.Cond.code ({ cls := "com/example/willow_graft/willowgraft/tree/XmlNamesIsCharPinLaw", name := "ref", desc := "(I)Z" } : Jvm.MethodName) method_2_code (1 : Nat) (Option.some Jvm.ClassFile.FieldType.boolean)]
set_option maxRecDepth 65536 in
theorem codes_eq : words1.filter isCode = codes1 := rfl
theorem w_codes : ∀ c ∈ words1.filter isCode, c.before args0 about1 = true := by
  rw [codes_eq]
  intro c hc
  simp only [codes1, List.mem_cons, List.not_mem_nil, or_false] at hc
  rcases hc with rfl | rfl | rfl
  · exact w_c0
  · exact w_c1
  · exact w_c2
set_option maxRecDepth 65536 in
theorem w_t1 : (words1.take 24).all (fun c => isCode c || c.before args0 about1) = true := by decide +kernel
set_option maxRecDepth 65536 in
theorem w_t2 : (words1.drop 24).all (fun c => isCode c || c.before args0 about1) = true := by decide +kernel
theorem w_tables : (allAtoms (Jvm.Cond.code x code maxLocals ret :: tables_1)).before args0 about1 = true := by
  rw [allAtoms_all]
  show words1.all (fun c => c.before args0 about1) = true
  refine all_split ?_ w_codes
  rw [← List.take_append_drop 24 words1, List.all_append, w_t1, w_t2]
  rfl
set_option maxRecDepth 65536 in
theorem w_case : (Jvm.Cond.and given_1 narrow_1).before args0 about1 = true := by decide +kernel
theorem w_applies : (headSpec (Jvm.Cond.code x code maxLocals ret :: tables_1) room_1).applies x e0.platform about1 = true :=
  (Spec.applies_iff w_frames).mpr ⟨w_running, w_runnable, w_alone, w_named, w_hears, w_ripe, w_room, w_tables⟩
theorem atStart : AtStart classFile x code maxLocals ret World_1 tables_1 room_1 Calls_1 rest_1 Pre_1 launch0 p0 e0 about1 theMethod args0 below0 :=
  ⟨lists_1, trivial, launch0.admits_env _ _ _, launch0.least_env, fairChoices_fair.cas, fairChoices_fair.clock, w_frames, w_args, w_heap, w_applies, trivial, trivial, w_case⟩
end start1
theorem witness_1 : WitnessClaimed_1 := ⟨start1.p0, start1.e0, start1.about1, start1.theMethod, start1.args0, start1.below0, start1.atStart⟩
end Jvm.Pilot.@@N@@
