import JvmDerived
import JvmDerived.Pilot.@@N@@Statement
import JvmDerived.Pilot.@@N@@Code
set_option linter.unusedVariables false
set_option linter.unusedSimpArgs false
namespace Jvm.RoadKit
open Sem ClassFile Op Lib Jvm.Stand Jvm.Free Jvm.LawKit
section New
variable {p : Program} {l : Launch} {e : Env} {R : Room} {s : State} {m : MethodId} {args : Array Value} {below : List Frame} {meth : Method} {c : Code} {T : State} {locs : List Loc} {cells slots : Nat}
theorem retI (X : Stand p l e R s m args below meth c T locs cells slots) (hx : p.tables.exec = Jvm.exec) {pc : Nat} {Ls : Array Slot} {z : Int32} {rest : List Value} (hret : meth.sig.returnType = some .int) (hd : decode c.code pc = .ok (.ireturn, 1)) {fs : List Frame}
    (hl : ∀ (f : JFrame) (acts : List Action), f.method = m → f.locked = none → f.entered = [] → (doReturn e (T.setTop f) acts (some (.int z))).1 = T.setFrames fs) : Steps p.tables e below (T.setTop (mkF m pc Ls (.int z :: rest))) (T.setFrames fs) := by
  have hm' : T.vm.method? m = some meth := X.method'
  have hn : narrow .int (.int z) = .int z := rfl
  show Steps p.tables e below (T.setTop { method := m, pc := pc, locals := Ls, stack := _ :: rest, locked := none }) _
  jvm_step X.here [X.here.top, hx, hd, hm', hret, hn]
  first | (intro acts; rw [hl _ acts rfl rfl rfl]) | rw [hl _ _ rfl rfl rfl]
  exact Steps.refl _
theorem own_retL (X : Stand p l e R s m args below meth c T locs cells slots) (hx : p.tables.exec = Jvm.exec) {pc : Nat} {Ls : Array Slot} {z : Int64} {rest : List Value} (hret : meth.sig.returnType = some .long) (hd : decode c.code pc = .ok (.lreturn, 1)) {fs : List Frame}
    (hl : ∀ (f : JFrame) (acts : List Action), f.method = m → f.locked = none → f.entered = [] → (doReturn e (T.setTop f) acts (some (.long z))).1 = T.setFrames fs) : Steps p.tables e below (T.setTop (mkF m pc Ls (.long z :: rest))) (T.setFrames fs) :=
  retOut X hx hret rfl (Or.inr (Or.inl ⟨rfl, rfl, z, rfl⟩)) hd hl
/-- from the state T with the frame g on top the run comes to the invocation's end, returns v, and Q and the frame's bounds hold there -/
def own_Goes (p : Program) (e : Env) (below : List Frame) (s : State) (Q : Option Value → Heap → List Loc → Prop) (k n : Nat) (T : State) (g : JFrame) : Prop :=
  ∃ s₂ o, Steps p.tables e below (T.setTop g) s₂ ∧ s₂.status = .running ∧ Ended s₂ below o ∧ ∃ v L, o = .returned v ∧ Q v s₂.heap L ∧ FrameEnd s o s₂ L k n
theorem own_step {Q : Option Value → Heap → List Loc → Prop} {k n : Nat} {T T' : State} {g g' : JFrame} (h : ∀ t, Steps p.tables e below (T'.setTop g') t → Steps p.tables e below (T.setTop g) t) (w : own_Goes p e below s Q k n T' g') : own_Goes p e below s Q k n T g := by
  obtain ⟨s₂, o, h1, r⟩ := w
  exact ⟨s₂, o, h _ h1, r⟩
theorem own_ret {x : MethodName} {S : Spec} {code : ByteArray} {maxLocals : Nat} {ret : Option FieldType} {s₁ : State} (X : Stand p l e R s m args below meth c T locs cells slots) (Bd : BodyLoose p l x S code maxLocals ret e s m args below meth c s₁) {v : Option Value} (hv : meth.sig.returnType = none → v = none) {g : JFrame}
    (hst : ∀ fs, (∀ (f : JFrame) (acts : List Action), f.method = m → f.locked = none → f.entered = [] → (doReturn e (T.setTop f) acts v).1 = T.setFrames fs) → Steps p.tables e below (T.setTop g) (T.setFrames fs)) {Q : Option Value → Heap → List Loc → Prop} (hQ : Q v T.heap locs) {k n : Nat} (hk : cells ≤ k) (hn : slots ≤ n) : own_Goes p e below s Q k n T g := by
  obtain ⟨fs, hr, hrun, hended, hW, hsame⟩ := X.leave (v := v) hv
  exact ⟨_, _, hst fs hr, hrun, hended, _, _, rfl, hQ, ⟨_, rfl⟩, hW, hsame.mono hk hn⟩
/-- what a body leaves that writes nothing: the value r, the heap as it was -/
def own_Pure (r : Value) (h0 : Heap) (n0 : Nat) (v : Option Value) (h : Heap) (L : List Loc) : Prop := v = some r ∧ Fr n0 L ∧ h = h0
/-- what the law leaves -/
def own_Law (n0 : Nat) (v : Option Value) (_ : Heap) (L : List Loc) : Prop := v = some (.int 1) ∧ Fr n0 L
end New
theorem own_getD (ws : List Int32) (i : Nat) : (ws.map Value.int).getD i (.int (0 : Int32)) = .int (ws.getD i (0 : Int32)) := by
  induction ws generalizing i with
  | nil => rfl
  | cons a r ih => cases i with
    | zero => rfl
    | succ j => exact ih j
end Jvm.RoadKit
namespace Jvm.Pilot.@@N@@
open Jvm Jvm.ClassFile Sem Op Lib Jvm.Free Jvm.Stand Jvm.LawKit Jvm.RoadKit Bundle Jvm.Pilot.@@N@@.Jvm.D
theorem pd_0 : parseMethodDescriptor "(C)Z" = some ⟨[.char], some .boolean⟩ := by decide +kernel
theorem d1_0 : decode prog_4_method_8_code 0 = .ok (.iload_n 0, 1) := by decide +kernel
theorem d1_1 : decode prog_4_method_8_code 1 = .ok (.bipush 65, 2) := by decide +kernel
theorem d1_3 : decode prog_4_method_8_code 3 = .ok (.if_icmp .lt 9, 3) := by decide +kernel
theorem d1_6 : decode prog_4_method_8_code 6 = .ok (.iload_n 0, 1) := by decide +kernel
theorem d1_7 : decode prog_4_method_8_code 7 = .ok (.bipush 90, 2) := by decide +kernel
theorem d1_9 : decode prog_4_method_8_code 9 = .ok (.if_icmp .le 33, 3) := by decide +kernel
theorem d1_12 : decode prog_4_method_8_code 12 = .ok (.iload_n 0, 1) := by decide +kernel
theorem d1_13 : decode prog_4_method_8_code 13 = .ok (.bipush 97, 2) := by decide +kernel
theorem d1_15 : decode prog_4_method_8_code 15 = .ok (.if_icmp .lt 9, 3) := by decide +kernel
theorem d1_18 : decode prog_4_method_8_code 18 = .ok (.iload_n 0, 1) := by decide +kernel
theorem d1_19 : decode prog_4_method_8_code 19 = .ok (.bipush 122, 2) := by decide +kernel
theorem d1_21 : decode prog_4_method_8_code 21 = .ok (.if_icmp .le 21, 3) := by decide +kernel
theorem d1_24 : decode prog_4_method_8_code 24 = .ok (.iload_n 0, 1) := by decide +kernel
theorem d1_25 : decode prog_4_method_8_code 25 = .ok (.bipush 48, 2) := by decide +kernel
theorem d1_27 : decode prog_4_method_8_code 27 = .ok (.if_icmp .lt 9, 3) := by decide +kernel
theorem d1_30 : decode prog_4_method_8_code 30 = .ok (.iload_n 0, 1) := by decide +kernel
theorem d1_31 : decode prog_4_method_8_code 31 = .ok (.bipush 57, 2) := by decide +kernel
theorem d1_33 : decode prog_4_method_8_code 33 = .ok (.if_icmp .le 9, 3) := by decide +kernel
theorem d1_36 : decode prog_4_method_8_code 36 = .ok (.iload_n 0, 1) := by decide +kernel
theorem d1_37 : decode prog_4_method_8_code 37 = .ok (.bipush 95, 2) := by decide +kernel
theorem d1_39 : decode prog_4_method_8_code 39 = .ok (.if_icmp .ne 7, 3) := by decide +kernel
theorem d1_42 : decode prog_4_method_8_code 42 = .ok (.iconst 1, 1) := by decide +kernel
theorem d1_43 : decode prog_4_method_8_code 43 = .ok (.goto 4, 3) := by decide +kernel
theorem d1_46 : decode prog_4_method_8_code 46 = .ok (.iconst 0, 1) := by decide +kernel
theorem d1_47 : decode prog_4_method_8_code 47 = .ok (.ireturn, 1) := by decide +kernel
theorem pn_1 : plainName "com/example/stanzary/stanzary/dialect/angle/AngleSyntax" = true := by first | (simp [plainName, overriddenIn]; done) | decide +kernel
theorem ef_1 (m : MethodId) (x0 : Int32) : entryFrame m #[(.int x0)] 1 = mkF m 0 #[.val (.int x0)] [] := by first | (simp [entryFrame, mkF, argsToLocals, Value.category]; done) | rfl
def f1_47 (t0 : Int32) : Int32 := (t0 &&& 1)
def f1_46 : Int32 := f1_47 (0 : Int32)
def f1_42 : Int32 := f1_47 (1 : Int32)
def f1_36 (x0 : Int32) : Int32 := if x0 = (95 : Int32) then f1_42 else f1_46
def f1_30 (x0 : Int32) : Int32 := if (57 : Int32) < x0 then f1_36 x0 else f1_42
def f1_24 (x0 : Int32) : Int32 := if x0 < (48 : Int32) then f1_36 x0 else f1_30 x0
def f1_18 (x0 : Int32) : Int32 := if (122 : Int32) < x0 then f1_24 x0 else f1_42
def f1_12 (x0 : Int32) : Int32 := if x0 < (97 : Int32) then f1_24 x0 else f1_18 x0
def f1_6 (x0 : Int32) : Int32 := if (90 : Int32) < x0 then f1_12 x0 else f1_42
def f1_0 (x0 : Int32) : Int32 := if x0 < (65 : Int32) then f1_12 x0 else f1_6 x0
theorem pn_0 : plainName "com/example/stanzary/stanzary/dialect/angle/AngleSyntaxIsNameCharacterPinLaw" = true := by first | (simp [plainName, overriddenIn]; done) | decide +kernel
theorem ef_0 (m : MethodId) (x0 : Int32) : entryFrame m #[(.int x0)] maxLocals = mkF m 0 #[.val (.int x0), .unset, .unset, .unset, .unset, .unset, .unset, .unset, .unset] [] := by first | (simp [entryFrame, mkF, argsToLocals, Value.category, maxLocals]; done) | rfl
def f0_107 (t0 : Int32) : Int32 := (t0 &&& 1)
def f0_106 : Int32 := f0_107 (0 : Int32)
def f0_102 : Int32 := f0_107 (1 : Int32)
def f0_91 (x1 : Int32) (t0 : Int32) : Int32 := if (f1_0 x1) = t0 then f0_102 else f0_106
def f0_90 (x1 : Int32) : Int32 := f0_91 x1 (0 : Int32)
def f0_86 (x1 : Int32) : Int32 := f0_91 x1 (1 : Int32)
def f0_81 (x1 : Int32) (x7 : Int32) : Int32 := if x7 = (0 : Int32) then f0_90 x1 else f0_86 x1
def f0_76 (x1 : Int32) (x6 : Int32) (x7 : Int32) : Int32 := if x6 = (0 : Int32) then f0_81 x1 x7 else f0_86 x1
def f0_69 (x1 : Int32) (x4 : Int32) (x6 : Int32) (t0 : Int32) : Int32 := if x4 = (0 : Int32) then f0_76 x1 x6 t0 else f0_86 x1
def f0_68 (x1 : Int32) (x4 : Int32) (x6 : Int32) : Int32 := f0_69 x1 x4 x6 (0 : Int32)
def f0_64 (x1 : Int32) (x4 : Int32) (x6 : Int32) : Int32 := f0_69 x1 x4 x6 (1 : Int32)
def f0_56 (x1 : Int32) (x2 : Int32) (x4 : Int32) (t0 : Int32) : Int32 := if x2 = (95 : Int32) then f0_64 x1 x4 t0 else f0_68 x1 x4 t0
def f0_55 (x1 : Int32) (x2 : Int32) (x4 : Int32) : Int32 := f0_56 x1 x2 x4 (0 : Int32)
def f0_51 (x1 : Int32) (x2 : Int32) (x4 : Int32) : Int32 := f0_56 x1 x2 x4 (1 : Int32)
def f0_44 (x1 : Int32) (x2 : Int32) (x4 : Int32) (x5 : Int32) : Int32 := if x5 < (10 : Int32) then f0_51 x1 x2 x4 else f0_55 x1 x2 x4
def f0_31 (x1 : Int32) (x2 : Int32) (t0 : Int32) : Int32 := if (x2 - (48 : Int32)) < (0 : Int32) then f0_55 x1 x2 t0 else f0_44 x1 x2 t0 (x2 - (48 : Int32))
def f0_30 (x1 : Int32) (x2 : Int32) : Int32 := f0_31 x1 x2 (0 : Int32)
def f0_26 (x1 : Int32) (x2 : Int32) : Int32 := f0_31 x1 x2 (1 : Int32)
def f0_20 (x1 : Int32) (x2 : Int32) (x3 : Int32) : Int32 := if x3 < (26 : Int32) then f0_26 x1 x2 else f0_30 x1 x2
def f0_0 (x0 : Int32) : Int32 := if ((((x0 &&& (65535 : Int32)).toUInt32.toUInt16.toUInt32.toInt32) ||| (32 : Int32)) - (97 : Int32)) < (0 : Int32) then f0_30 ((x0 &&& (65535 : Int32)).toUInt32.toUInt16.toUInt32.toInt32) ((x0 &&& (65535 : Int32)).toUInt32.toUInt16.toUInt32.toInt32) else f0_20 ((x0 &&& (65535 : Int32)).toUInt32.toUInt16.toUInt32.toInt32) ((x0 &&& (65535 : Int32)).toUInt32.toUInt16.toUInt32.toInt32) ((((x0 &&& (65535 : Int32)).toUInt32.toUInt16.toUInt32.toInt32) ||| (32 : Int32)) - (97 : Int32))
-- the plain law: no program in sight
theorem own_or (b : BitVec 32) (h : b.toNat < 65536) : (b ||| 32#32).toInt = ((b.toNat ||| 32 : Nat) : Int) := by
  have h2 : (b.toNat ||| 32) < 2 ^ 16 := Nat.or_lt_two_pow (by omega) (by decide)
  have h3 : (b ||| 32#32).toNat = b.toNat ||| 32 := BitVec.toNat_or ..
  rw [BitVec.toInt_eq_toNat_of_lt (by rw [h3]; omega), h3]
theorem own_fold_small : ∀ n : Fin 128, (97 ≤ (n.val ||| 32) ∧ (n.val ||| 32) ≤ 122) ↔ (65 ≤ n.val ∧ n.val ≤ 90 ∨ 97 ≤ n.val ∧ n.val ≤ 122) := by decide
theorem own_fold (n : Nat) : (97 ≤ (n ||| 32) ∧ (n ||| 32) ≤ 122) ↔ (65 ≤ n ∧ n ≤ 90 ∨ 97 ≤ n ∧ n ≤ 122) := by
  by_cases h : n < 128
  · exact own_fold_small ⟨n, h⟩
  · have := Nat.left_le_or (n := n) (m := 32)
    omega
theorem own_char (x : Int32) : ∃ n : Nat, n < 65536 ∧ (x.toUInt32.toUInt16.toUInt32.toInt32).toInt = n ∧ ((x.toUInt32.toUInt16.toUInt32.toInt32) ||| (32 : Int32)).toInt = ((n ||| 32 : Nat) : Int) := by
  have hn : (x.toUInt32.toUInt16.toUInt32.toInt32).toBitVec.toNat < 65536 := by
    show (x.toUInt32.toUInt16.toUInt32).toNat < 65536
    rw [UInt16.toNat_toUInt32]
    exact x.toUInt32.toUInt16.toNat_lt
  refine ⟨(x.toUInt32.toUInt16.toUInt32.toInt32).toBitVec.toNat, hn, ?_, ?_⟩
  · show (x.toUInt32.toUInt16.toUInt32.toInt32).toBitVec.toInt = _
    rw [BitVec.toInt_eq_toNat_of_lt (by omega)]
  · exact own_or _ hn
theorem own_sub (a b : Int32) (h1 : -2147483648 ≤ a.toInt - b.toInt) (h2 : a.toInt - b.toInt < 2147483648) : (a - b).toInt = a.toInt - b.toInt := by
  rw [Int32.toInt_sub, Int.bmod_eq_of_le (by omega) (by omega)]
theorem own_isName (v : Int32) (n : Nat) (hv : v.toInt = n) : f1_0 v = if (65 ≤ n ∧ n ≤ 90 ∨ 97 ≤ n ∧ n ≤ 122 ∨ 48 ≤ n ∧ n ≤ 57 ∨ n = 95) then 1 else 0 := by
  simp only [f1_0, f1_6, f1_12, f1_18, f1_24, f1_30, f1_36, f1_42, f1_46, f1_47]
  simp only [Int32.lt_iff_toInt_lt, ← Int32.toInt_inj (x := v), Int32.reduceToInt, hv]
  repeat' split
  all_goals first
    | rfl
    | (exfalso; omega)
theorem own_key (v : Int32) (n : Nat) (hn : n < 65536) (hv : v.toInt = n) (ho : (v ||| (32 : Int32)).toInt = ((n ||| 32 : Nat) : Int)) : (if ((v ||| (32 : Int32)) - (97 : Int32)) < (0 : Int32) then f0_30 v v else f0_20 v v ((v ||| (32 : Int32)) - (97 : Int32))) = 1 := by
  have hf := own_fold n
  have hm : (n ||| 32) < 2 ^ 16 := Nat.or_lt_two_pow (by omega) (by decide)
  have e97 : (97 : Int32).toInt = 97 := rfl
  have e48 : (48 : Int32).toInt = 48 := rfl
  have s1 : ((v ||| (32 : Int32)) - (97 : Int32)).toInt = ((n ||| 32 : Nat) : Int) - 97 := by
    rw [own_sub _ _ (by rw [ho, e97]; omega) (by rw [ho, e97]; omega), ho, e97]
  have s2 : (v - (48 : Int32)).toInt = (n : Int) - 48 := by
    rw [own_sub _ _ (by rw [hv, e48]; omega) (by rw [hv, e48]; omega), hv, e48]
  have e := own_isName v n hv
  have z0 : ((0 : Int32) = 0) = True := by simp
  have z1 : ((1 : Int32) = 0) = False := by simp
  by_cases hN : 65 ≤ n ∧ n ≤ 90 ∨ 97 ≤ n ∧ n ≤ 122 ∨ 48 ≤ n ∧ n ≤ 57 ∨ n = 95
  · rw [if_pos hN] at e
    have eA : f0_86 v = 1 := by simp only [f0_86, f0_91, e]; decide
    have eB : f0_90 v = 0 := by simp only [f0_90, f0_91, e]; decide
    simp only [f0_20, f0_26, f0_30, f0_31, f0_44, f0_51, f0_55, f0_56, f0_64, f0_68, f0_69, f0_76, f0_81, eA, eB, z0, z1, if_true, if_false]
    generalize hd : v - (48 : Int32) = d at *
    generalize hg : (v ||| (32 : Int32)) - (97 : Int32) = g at *
    generalize (n ||| 32) = q at *
    repeat' split
    all_goals first
      | rfl
      | (exfalso; simp only [Int32.lt_iff_toInt_lt, ← Int32.toInt_inj, Int32.reduceToInt, hv, s1, s2] at *; omega)
  · rw [if_neg hN] at e
    have eA : f0_86 v = 0 := by simp only [f0_86, f0_91, e]; decide
    have eB : f0_90 v = 1 := by simp only [f0_90, f0_91, e]; decide
    simp only [f0_20, f0_26, f0_30, f0_31, f0_44, f0_51, f0_55, f0_56, f0_64, f0_68, f0_69, f0_76, f0_81, eA, eB, z0, z1, if_true, if_false]
    generalize hd : v - (48 : Int32) = d at *
    generalize hg : (v ||| (32 : Int32)) - (97 : Int32) = g at *
    generalize (n ||| 32) = q at *
    repeat' split
    all_goals first
      | rfl
      | (exfalso; simp only [Int32.lt_iff_toInt_lt, ← Int32.toInt_inj, Int32.reduceToInt, hv, s1, s2] at *; omega)
theorem own_law (x : Int32) : f0_0 x = 1 := by
  obtain ⟨n, h1, h2, h3⟩ := own_char (x &&& (65535 : Int32))
  exact own_key _ n h1 h2 h3
-- the walks
set_option maxRecDepth 65536 in
set_option maxHeartbeats 40000000 in
theorem rm1 (l : Launch) (Z : State) (a0 : Array Value) (hw : ∀ d ∈ tables_1, d.before a0 Z = true) (ws : List Jvm.Cond) (p0 : Int32) (h0 : Heap) (n0 : Nat) (Z0 : n0 ≤ h0.size) :
    MetFree l (⟨"com/example/stanzary/stanzary/dialect/angle/AngleSyntax", "isNameCharacter", "(C)Z"⟩ : MethodName) (head1 (Jvm.Cond.code (⟨"com/example/stanzary/stanzary/dialect/angle/AngleSyntax", "isNameCharacter", "(C)Z"⟩ : MethodName) prog_4_method_8_code 1 (some .boolean) :: ws) ({ frames := 0, cells := 0, slots := 0, locals := 0 } : Room)) (fun a U => a = #[(.int p0)] ∧ Z.Warmed39 U.vm ∧ U.heap = h0) (fun _ _ _ _ _ => True) (fun _ U o U' => ∃ v L, o = .returned v ∧ own_Pure ((.int (f1_0 p0))) h0 n0 v U'.heap L ∧ FrameEnd U o U' L ({ frames := 0, cells := 0, slots := 0, locals := 0 } : Room).cells ({ frames := 0, cells := 0, slots := 0, locals := 0 } : Room).slots) := by
  refine MetFree.of_bodySF (plainFor_of_name pn_1) hisR ?_
  intro p e s m args below meth c s₁ Bd hml0 hP hK
  obtain ⟨rfl, hZ, hh0⟩ := hP
  have hx := Bd.exec
  have hby := Bd.bytes
  have hml : c.maxLocals = 1 := hml0
  have hown : s.vm.findClass "com/example/stanzary/stanzary/dialect/angle/AngleSyntax" = some m.cls := findClass_of_methodNamed Bd.named
  have X00 : Stand p l e ({ frames := 0, cells := 0, slots := 0, locals := 0 } : Room) s m #[(.int p0)] below meth c s₁ [] 0 0 := Stand.of_body Bd
  have e00 : s₁.heap = h0 := by rw [← hh0, Bd.state]; rfl
  have B47 : ∀ (T0 : State) (locs : List Loc) (x0 : Int32) (t0 : Int32), Stand p l e ({ frames := 0, cells := 0, slots := 0, locals := 0 } : Room) s m #[(.int p0)] below meth c T0 locs 0 0 → T0.heap = h0 → Fr n0 locs → f1_47 t0 = f1_0 p0 → own_Goes p e below s (own_Pure ((.int (f1_0 p0))) h0 n0) ({ frames := 0, cells := 0, slots := 0, locals := 0 } : Room).cells ({ frames := 0, cells := 0, slots := 0, locals := 0 } : Room).slots T0 (mkF m 47 #[.val (.int x0)] [(.int t0)]) := by
    intro T0 locs x0 t0   X0 e0 N0 hf
    exact own_ret X0 Bd (v := some (.int (t0 &&& 1))) (fun q => by rw [Bd.returns] at q; cases q) (fun fs q => retN X0 hx (t := .boolean) Bd.returns (by simp) (hb hby d1_47) q) (show own_Pure ((.int (f1_0 p0))) h0 n0 _ _ _ from ⟨congrArg (fun z => some (Value.int z)) hf, N0, e0⟩) (by decide) (by decide)
  have B46 : ∀ (T0 : State) (locs : List Loc) (x0 : Int32), Stand p l e ({ frames := 0, cells := 0, slots := 0, locals := 0 } : Room) s m #[(.int p0)] below meth c T0 locs 0 0 → T0.heap = h0 → Fr n0 locs → f1_46 = f1_0 p0 → own_Goes p e below s (own_Pure ((.int (f1_0 p0))) h0 n0) ({ frames := 0, cells := 0, slots := 0, locals := 0 } : Room).cells ({ frames := 0, cells := 0, slots := 0, locals := 0 } : Room).slots T0 (mkF m 46 #[.val (.int x0)] []) := by
    intro T0 locs x0   X0 e0 N0 hf
    refine own_step (T' := T0) (g' := (mkF m 47 #[.val (.int x0)] [(.int (0 : Int32))])) (fun _ k => XS.iconst X0.here hx rfl (hb hby d1_46) k) ?_
    exact B47 T0 _ x0 (0 : Int32)   X0 e0 N0 hf
  have B42 : ∀ (T0 : State) (locs : List Loc) (x0 : Int32), Stand p l e ({ frames := 0, cells := 0, slots := 0, locals := 0 } : Room) s m #[(.int p0)] below meth c T0 locs 0 0 → T0.heap = h0 → Fr n0 locs → f1_42 = f1_0 p0 → own_Goes p e below s (own_Pure ((.int (f1_0 p0))) h0 n0) ({ frames := 0, cells := 0, slots := 0, locals := 0 } : Room).cells ({ frames := 0, cells := 0, slots := 0, locals := 0 } : Room).slots T0 (mkF m 42 #[.val (.int x0)] []) := by
    intro T0 locs x0   X0 e0 N0 hf
    refine own_step (T' := T0) (g' := (mkF m 43 #[.val (.int x0)] [(.int (1 : Int32))])) (fun _ k => XS.iconst X0.here hx rfl (hb hby d1_42) k) ?_
    refine own_step (T' := T0) (g' := (mkF m 47 #[.val (.int x0)] [(.int (1 : Int32))])) (fun _ k => XS.goto X0.here hx rfl (pc0 := 43) (pc' := 47) rfl (hb hby d1_43) (by decide) (by decide) k) ?_
    exact B47 T0 _ x0 (1 : Int32)   X0 e0 N0 hf
  have B36 : ∀ (T0 : State) (locs : List Loc) (x0 : Int32), Stand p l e ({ frames := 0, cells := 0, slots := 0, locals := 0 } : Room) s m #[(.int p0)] below meth c T0 locs 0 0 → T0.heap = h0 → Fr n0 locs → f1_36 x0 = f1_0 p0 → own_Goes p e below s (own_Pure ((.int (f1_0 p0))) h0 n0) ({ frames := 0, cells := 0, slots := 0, locals := 0 } : Room).cells ({ frames := 0, cells := 0, slots := 0, locals := 0 } : Room).slots T0 (mkF m 36 #[.val (.int x0)] []) := by
    intro T0 locs x0   X0 e0 N0 hf
    refine own_step (T' := T0) (g' := (mkF m 37 #[.val (.int x0)] [(.int x0)])) (fun _ k => XS.iloadN X0.here hx rfl (hb hby d1_36) rfl k) ?_
    refine own_step (T' := T0) (g' := (mkF m 39 #[.val (.int x0)] [(.int (95 : Int32)), (.int x0)])) (fun _ k => XS.bipush X0.here hx rfl (hb hby d1_37) k) ?_
    by_cases hc : x0 = (95 : Int32)
    · refine own_step (T' := T0) (g' := (mkF m 42 #[.val (.int x0)] [])) (fun _ k => XS.icmpNo X0.here hx rfl (hb hby d1_39) rfl (teq hc).2 k) ?_
      exact B42 T0 _ x0   X0 e0 N0 ((if_pos hc).symm.trans hf)
    · refine own_step (T' := T0) (g' := (mkF m 46 #[.val (.int x0)] [])) (fun _ k => XS.icmpYes X0.here hx rfl (pc0 := 39) (pc' := 46) rfl (hb hby d1_39) rfl (feq hc).2 (by decide) (by decide) k) ?_
      exact B46 T0 _ x0   X0 e0 N0 ((if_neg hc).symm.trans hf)
  have B30 : ∀ (T0 : State) (locs : List Loc) (x0 : Int32), Stand p l e ({ frames := 0, cells := 0, slots := 0, locals := 0 } : Room) s m #[(.int p0)] below meth c T0 locs 0 0 → T0.heap = h0 → Fr n0 locs → f1_30 x0 = f1_0 p0 → own_Goes p e below s (own_Pure ((.int (f1_0 p0))) h0 n0) ({ frames := 0, cells := 0, slots := 0, locals := 0 } : Room).cells ({ frames := 0, cells := 0, slots := 0, locals := 0 } : Room).slots T0 (mkF m 30 #[.val (.int x0)] []) := by
    intro T0 locs x0   X0 e0 N0 hf
    refine own_step (T' := T0) (g' := (mkF m 31 #[.val (.int x0)] [(.int x0)])) (fun _ k => XS.iloadN X0.here hx rfl (hb hby d1_30) rfl k) ?_
    refine own_step (T' := T0) (g' := (mkF m 33 #[.val (.int x0)] [(.int (57 : Int32)), (.int x0)])) (fun _ k => XS.bipush X0.here hx rfl (hb hby d1_31) k) ?_
    by_cases hc : (57 : Int32) < x0
    · refine own_step (T' := T0) (g' := (mkF m 36 #[.val (.int x0)] [])) (fun _ k => XS.icmpNo X0.here hx rfl (hb hby d1_33) rfl (tlt hc).2.2.2 k) ?_
      exact B36 T0 _ x0   X0 e0 N0 ((if_pos hc).symm.trans hf)
    · refine own_step (T' := T0) (g' := (mkF m 42 #[.val (.int x0)] [])) (fun _ k => XS.icmpYes X0.here hx rfl (pc0 := 33) (pc' := 42) rfl (hb hby d1_33) rfl (flt hc).2.2.2 (by decide) (by decide) k) ?_
      exact B42 T0 _ x0   X0 e0 N0 ((if_neg hc).symm.trans hf)
  have B24 : ∀ (T0 : State) (locs : List Loc) (x0 : Int32), Stand p l e ({ frames := 0, cells := 0, slots := 0, locals := 0 } : Room) s m #[(.int p0)] below meth c T0 locs 0 0 → T0.heap = h0 → Fr n0 locs → f1_24 x0 = f1_0 p0 → own_Goes p e below s (own_Pure ((.int (f1_0 p0))) h0 n0) ({ frames := 0, cells := 0, slots := 0, locals := 0 } : Room).cells ({ frames := 0, cells := 0, slots := 0, locals := 0 } : Room).slots T0 (mkF m 24 #[.val (.int x0)] []) := by
    intro T0 locs x0   X0 e0 N0 hf
    refine own_step (T' := T0) (g' := (mkF m 25 #[.val (.int x0)] [(.int x0)])) (fun _ k => XS.iloadN X0.here hx rfl (hb hby d1_24) rfl k) ?_
    refine own_step (T' := T0) (g' := (mkF m 27 #[.val (.int x0)] [(.int (48 : Int32)), (.int x0)])) (fun _ k => XS.bipush X0.here hx rfl (hb hby d1_25) k) ?_
    by_cases hc : x0 < (48 : Int32)
    · refine own_step (T' := T0) (g' := (mkF m 36 #[.val (.int x0)] [])) (fun _ k => XS.icmpYes X0.here hx rfl (pc0 := 27) (pc' := 36) rfl (hb hby d1_27) rfl (tlt hc).1 (by decide) (by decide) k) ?_
      exact B36 T0 _ x0   X0 e0 N0 ((if_pos hc).symm.trans hf)
    · refine own_step (T' := T0) (g' := (mkF m 30 #[.val (.int x0)] [])) (fun _ k => XS.icmpNo X0.here hx rfl (hb hby d1_27) rfl (flt hc).1 k) ?_
      exact B30 T0 _ x0   X0 e0 N0 ((if_neg hc).symm.trans hf)
  have B18 : ∀ (T0 : State) (locs : List Loc) (x0 : Int32), Stand p l e ({ frames := 0, cells := 0, slots := 0, locals := 0 } : Room) s m #[(.int p0)] below meth c T0 locs 0 0 → T0.heap = h0 → Fr n0 locs → f1_18 x0 = f1_0 p0 → own_Goes p e below s (own_Pure ((.int (f1_0 p0))) h0 n0) ({ frames := 0, cells := 0, slots := 0, locals := 0 } : Room).cells ({ frames := 0, cells := 0, slots := 0, locals := 0 } : Room).slots T0 (mkF m 18 #[.val (.int x0)] []) := by
    intro T0 locs x0   X0 e0 N0 hf
    refine own_step (T' := T0) (g' := (mkF m 19 #[.val (.int x0)] [(.int x0)])) (fun _ k => XS.iloadN X0.here hx rfl (hb hby d1_18) rfl k) ?_
    refine own_step (T' := T0) (g' := (mkF m 21 #[.val (.int x0)] [(.int (122 : Int32)), (.int x0)])) (fun _ k => XS.bipush X0.here hx rfl (hb hby d1_19) k) ?_
    by_cases hc : (122 : Int32) < x0
    · refine own_step (T' := T0) (g' := (mkF m 24 #[.val (.int x0)] [])) (fun _ k => XS.icmpNo X0.here hx rfl (hb hby d1_21) rfl (tlt hc).2.2.2 k) ?_
      exact B24 T0 _ x0   X0 e0 N0 ((if_pos hc).symm.trans hf)
    · refine own_step (T' := T0) (g' := (mkF m 42 #[.val (.int x0)] [])) (fun _ k => XS.icmpYes X0.here hx rfl (pc0 := 21) (pc' := 42) rfl (hb hby d1_21) rfl (flt hc).2.2.2 (by decide) (by decide) k) ?_
      exact B42 T0 _ x0   X0 e0 N0 ((if_neg hc).symm.trans hf)
  have B12 : ∀ (T0 : State) (locs : List Loc) (x0 : Int32), Stand p l e ({ frames := 0, cells := 0, slots := 0, locals := 0 } : Room) s m #[(.int p0)] below meth c T0 locs 0 0 → T0.heap = h0 → Fr n0 locs → f1_12 x0 = f1_0 p0 → own_Goes p e below s (own_Pure ((.int (f1_0 p0))) h0 n0) ({ frames := 0, cells := 0, slots := 0, locals := 0 } : Room).cells ({ frames := 0, cells := 0, slots := 0, locals := 0 } : Room).slots T0 (mkF m 12 #[.val (.int x0)] []) := by
    intro T0 locs x0   X0 e0 N0 hf
    refine own_step (T' := T0) (g' := (mkF m 13 #[.val (.int x0)] [(.int x0)])) (fun _ k => XS.iloadN X0.here hx rfl (hb hby d1_12) rfl k) ?_
    refine own_step (T' := T0) (g' := (mkF m 15 #[.val (.int x0)] [(.int (97 : Int32)), (.int x0)])) (fun _ k => XS.bipush X0.here hx rfl (hb hby d1_13) k) ?_
    by_cases hc : x0 < (97 : Int32)
    · refine own_step (T' := T0) (g' := (mkF m 24 #[.val (.int x0)] [])) (fun _ k => XS.icmpYes X0.here hx rfl (pc0 := 15) (pc' := 24) rfl (hb hby d1_15) rfl (tlt hc).1 (by decide) (by decide) k) ?_
      exact B24 T0 _ x0   X0 e0 N0 ((if_pos hc).symm.trans hf)
    · refine own_step (T' := T0) (g' := (mkF m 18 #[.val (.int x0)] [])) (fun _ k => XS.icmpNo X0.here hx rfl (hb hby d1_15) rfl (flt hc).1 k) ?_
      exact B18 T0 _ x0   X0 e0 N0 ((if_neg hc).symm.trans hf)
  have B6 : ∀ (T0 : State) (locs : List Loc) (x0 : Int32), Stand p l e ({ frames := 0, cells := 0, slots := 0, locals := 0 } : Room) s m #[(.int p0)] below meth c T0 locs 0 0 → T0.heap = h0 → Fr n0 locs → f1_6 x0 = f1_0 p0 → own_Goes p e below s (own_Pure ((.int (f1_0 p0))) h0 n0) ({ frames := 0, cells := 0, slots := 0, locals := 0 } : Room).cells ({ frames := 0, cells := 0, slots := 0, locals := 0 } : Room).slots T0 (mkF m 6 #[.val (.int x0)] []) := by
    intro T0 locs x0   X0 e0 N0 hf
    refine own_step (T' := T0) (g' := (mkF m 7 #[.val (.int x0)] [(.int x0)])) (fun _ k => XS.iloadN X0.here hx rfl (hb hby d1_6) rfl k) ?_
    refine own_step (T' := T0) (g' := (mkF m 9 #[.val (.int x0)] [(.int (90 : Int32)), (.int x0)])) (fun _ k => XS.bipush X0.here hx rfl (hb hby d1_7) k) ?_
    by_cases hc : (90 : Int32) < x0
    · refine own_step (T' := T0) (g' := (mkF m 12 #[.val (.int x0)] [])) (fun _ k => XS.icmpNo X0.here hx rfl (hb hby d1_9) rfl (tlt hc).2.2.2 k) ?_
      exact B12 T0 _ x0   X0 e0 N0 ((if_pos hc).symm.trans hf)
    · refine own_step (T' := T0) (g' := (mkF m 42 #[.val (.int x0)] [])) (fun _ k => XS.icmpYes X0.here hx rfl (pc0 := 9) (pc' := 42) rfl (hb hby d1_9) rfl (flt hc).2.2.2 (by decide) (by decide) k) ?_
      exact B42 T0 _ x0   X0 e0 N0 ((if_neg hc).symm.trans hf)
  have B0 : ∀ (T0 : State) (locs : List Loc) (x0 : Int32), Stand p l e ({ frames := 0, cells := 0, slots := 0, locals := 0 } : Room) s m #[(.int p0)] below meth c T0 locs 0 0 → T0.heap = h0 → Fr n0 locs → f1_0 x0 = f1_0 p0 → own_Goes p e below s (own_Pure ((.int (f1_0 p0))) h0 n0) ({ frames := 0, cells := 0, slots := 0, locals := 0 } : Room).cells ({ frames := 0, cells := 0, slots := 0, locals := 0 } : Room).slots T0 (mkF m 0 #[.val (.int x0)] []) := by
    intro T0 locs x0   X0 e0 N0 hf
    refine own_step (T' := T0) (g' := (mkF m 1 #[.val (.int x0)] [(.int x0)])) (fun _ k => XS.iloadN X0.here hx rfl (hb hby d1_0) rfl k) ?_
    refine own_step (T' := T0) (g' := (mkF m 3 #[.val (.int x0)] [(.int (65 : Int32)), (.int x0)])) (fun _ k => XS.bipush X0.here hx rfl (hb hby d1_1) k) ?_
    by_cases hc : x0 < (65 : Int32)
    · refine own_step (T' := T0) (g' := (mkF m 12 #[.val (.int x0)] [])) (fun _ k => XS.icmpYes X0.here hx rfl (pc0 := 3) (pc' := 12) rfl (hb hby d1_3) rfl (tlt hc).1 (by decide) (by decide) k) ?_
      exact B12 T0 _ x0   X0 e0 N0 ((if_pos hc).symm.trans hf)
    · refine own_step (T' := T0) (g' := (mkF m 6 #[.val (.int x0)] [])) (fun _ k => XS.icmpNo X0.here hx rfl (hb hby d1_3) rfl (flt hc).1 k) ?_
      exact B6 T0 _ x0   X0 e0 N0 ((if_neg hc).symm.trans hf)
  have hB := B0 s₁ [] p0  X00 e00 (Fr.nil n0) rfl
  obtain ⟨s₂, o, q1, q2, q3, v, L, q4, q5, q6⟩ := hB
  exact ⟨s₂, o, castTop (ef_1 m p0) q1, q2, q3, v, L, q4, q5, q6⟩
set_option maxRecDepth 65536 in
set_option maxHeartbeats 40000000 in
theorem rm0 (l : Launch) (Z : State) (a0 : Array Value) (hw : ∀ d ∈ tables_1, d.before a0 Z = true) (ws : List Jvm.Cond) (p0 : Int32) (h0 : Heap) (n0 : Nat) (Z0 : n0 ≤ h0.size) (hlaw : f0_0 p0 = 1) :
    MetFree l x (head1 (Jvm.Cond.code x code maxLocals ret :: ws) room_1) (fun a U => a = #[(.int p0)] ∧ Z.Warmed39 U.vm ∧ U.heap = h0) (fun _ _ _ _ _ => True) (fun _ U o U' => ∃ v L, o = .returned v ∧ own_Law n0 v U'.heap L ∧ FrameEnd U o U' L 0 0) := by
  refine MetFree.of_bodySF (plainFor_of_name pn_0) hisR ?_
  intro p e s m args below meth c s₁ Bd hml0 hP hK
  obtain ⟨rfl, hZ, hh0⟩ := hP
  have hx := Bd.exec
  have hby := Bd.bytes
  have hml : c.maxLocals = 9 := hml0
  have hown : s.vm.findClass "com/example/stanzary/stanzary/dialect/angle/AngleSyntaxIsNameCharacterPinLaw" = some m.cls := findClass_of_methodNamed Bd.named
  have X00 : Stand p l e room_1 s m #[(.int p0)] below meth c s₁ [] 0 0 := Stand.of_body Bd
  have e00 : s₁.heap = h0 := by rw [← hh0, Bd.state]; rfl
  have B107 : ∀ (T0 : State) (locs : List Loc) (x0 : Int32) (x1 : Int32) (x2 : Int32) (x3 : Int32) (x4 : Int32) (x5 : Int32) (x6 : Int32) (x7 : Int32) (x8 : Int32) (t0 : Int32) (hh : Heap), n0 ≤ hh.size → Stand p l e room_1 s m #[(.int p0)] below meth c T0 locs 0 0 → T0.heap = hh → Fr n0 locs → f0_107 t0 = 1 → own_Goes p e below s (own_Law n0) 0 0 T0 (mkF m 107 #[.val (.int x0), .val (.int x1), .val (.int x2), .val (.int x3), .val (.int x4), .val (.int x5), .val (.int x6), .val (.int x7), .val (.int x8)] [(.int t0)]) := by
    intro T0 locs x0 x1 x2 x3 x4 x5 x6 x7 x8 t0 hh Zh  X0 e0 N0 hf
    exact own_ret X0 Bd (v := some (.int (t0 &&& 1))) (fun q => by rw [Bd.returns] at q; cases q) (fun fs q => retN X0 hx (t := .boolean) Bd.returns (by simp) (hb hby at_107) q) (show own_Law n0 _ _ _ from ⟨congrArg (fun z => some (Value.int z)) hf, N0⟩) (by decide) (by decide)
  have B106 : ∀ (T0 : State) (locs : List Loc) (x0 : Int32) (x1 : Int32) (x2 : Int32) (x3 : Int32) (x4 : Int32) (x5 : Int32) (x6 : Int32) (x7 : Int32) (x8 : Int32) (hh : Heap), n0 ≤ hh.size → Stand p l e room_1 s m #[(.int p0)] below meth c T0 locs 0 0 → T0.heap = hh → Fr n0 locs → f0_106 = 1 → own_Goes p e below s (own_Law n0) 0 0 T0 (mkF m 106 #[.val (.int x0), .val (.int x1), .val (.int x2), .val (.int x3), .val (.int x4), .val (.int x5), .val (.int x6), .val (.int x7), .val (.int x8)] []) := by
    intro T0 locs x0 x1 x2 x3 x4 x5 x6 x7 x8 hh Zh  X0 e0 N0 hf
    refine own_step (T' := T0) (g' := (mkF m 107 #[.val (.int x0), .val (.int x1), .val (.int x2), .val (.int x3), .val (.int x4), .val (.int x5), .val (.int x6), .val (.int x7), .val (.int x8)] [(.int (0 : Int32))])) (fun _ k => XS.iconst X0.here hx rfl (hb hby at_106) k) ?_
    exact B107 T0 _ x0 x1 x2 x3 x4 x5 x6 x7 x8 (0 : Int32) hh Zh  X0 e0 N0 hf
  have B102 : ∀ (T0 : State) (locs : List Loc) (x0 : Int32) (x1 : Int32) (x2 : Int32) (x3 : Int32) (x4 : Int32) (x5 : Int32) (x6 : Int32) (x7 : Int32) (x8 : Int32) (hh : Heap), n0 ≤ hh.size → Stand p l e room_1 s m #[(.int p0)] below meth c T0 locs 0 0 → T0.heap = hh → Fr n0 locs → f0_102 = 1 → own_Goes p e below s (own_Law n0) 0 0 T0 (mkF m 102 #[.val (.int x0), .val (.int x1), .val (.int x2), .val (.int x3), .val (.int x4), .val (.int x5), .val (.int x6), .val (.int x7), .val (.int x8)] []) := by
    intro T0 locs x0 x1 x2 x3 x4 x5 x6 x7 x8 hh Zh  X0 e0 N0 hf
    refine own_step (T' := T0) (g' := (mkF m 103 #[.val (.int x0), .val (.int x1), .val (.int x2), .val (.int x3), .val (.int x4), .val (.int x5), .val (.int x6), .val (.int x7), .val (.int x8)] [(.int (1 : Int32))])) (fun _ k => XS.iconst X0.here hx rfl (hb hby at_102) k) ?_
    refine own_step (T' := T0) (g' := (mkF m 107 #[.val (.int x0), .val (.int x1), .val (.int x2), .val (.int x3), .val (.int x4), .val (.int x5), .val (.int x6), .val (.int x7), .val (.int x8)] [(.int (1 : Int32))])) (fun _ k => XS.goto X0.here hx rfl (pc0 := 103) (pc' := 107) rfl (hb hby at_103) (by decide) (by decide) k) ?_
    exact B107 T0 _ x0 x1 x2 x3 x4 x5 x6 x7 x8 (1 : Int32) hh Zh  X0 e0 N0 hf
  have B91 : ∀ (T0 : State) (locs : List Loc) (x0 : Int32) (x1 : Int32) (x2 : Int32) (x3 : Int32) (x4 : Int32) (x5 : Int32) (x6 : Int32) (x7 : Int32) (t0 : Int32) (hh : Heap), n0 ≤ hh.size → Stand p l e room_1 s m #[(.int p0)] below meth c T0 locs 0 0 → T0.heap = hh → Fr n0 locs → f0_91 x1 t0 = 1 → own_Goes p e below s (own_Law n0) 0 0 T0 (mkF m 91 #[.val (.int x0), .val (.int x1), .val (.int x2), .val (.int x3), .val (.int x4), .val (.int x5), .val (.int x6), .val (.int x7), .unset] [(.int t0)]) := by
    intro T0 locs x0 x1 x2 x3 x4 x5 x6 x7 t0 hh Zh  X0 e0 N0 hf
    refine own_step (T' := T0) (g' := (mkF m 93 #[.val (.int x0), .val (.int x1), .val (.int x2), .val (.int x3), .val (.int x4), .val (.int x5), .val (.int x6), .val (.int x7), .val (.int t0)] [])) (fun _ k => XS.istore X0.here hx rfl (hb hby at_91) rfl (l' := #[.val (.int x0), .val (.int x1), .val (.int x2), .val (.int x3), .val (.int x4), .val (.int x5), .val (.int x6), .val (.int x7), .val (.int t0)]) rfl k) ?_
    refine own_step (T' := T0) (g' := (mkF m 94 #[.val (.int x0), .val (.int x1), .val (.int x2), .val (.int x3), .val (.int x4), .val (.int x5), .val (.int x6), .val (.int x7), .val (.int t0)] [(.int x1)])) (fun _ k => XS.iloadN X0.here hx rfl (hb hby at_93) rfl k) ?_
    obtain ⟨_, _, ⟨T1, L1, k1, n1⟩, -, X1, ⟨Lc1, hQ1, l1, y1, z1⟩, st1⟩ := Jvm.LawKit.callS X0 hx (y := (⟨"com/example/stanzary/stanzary/dialect/angle/AngleSyntax", "isNameCharacter", "(C)Z"⟩ : MethodName)) hown (mvT hZ (hw _ (List.mem_of_getElem? (i := 1) rfl))) (mvT hZ (hw _ (List.mem_of_getElem? (i := 2) rfl))) (mvT hZ (hw _ (List.mem_of_getElem? (i := 3) rfl))) (mvT hZ (hw _ (List.mem_of_getElem? (i := 4) rfl))) (by decide) (backOf (W := 0) (rm1 l Z a0 hw [] x1 hh n0 Zh) hZ (hw _ (List.mem_of_getElem? (i := 4) rfl)) (hw _ (List.mem_of_getElem? (i := 3) rfl)) (by decide) (by decide)) (g := (mkF m 94 #[.val (.int x0), .val (.int x1), .val (.int x2), .val (.int x3), .val (.int x4), .val (.int x5), .val (.int x6), .val (.int x7), .val (.int t0)] [(.int x1)])) rfl (by rw [hml]; rfl) (argsL := [(.int x1)]) (rest := []) (lenOf pd_0 rfl) rfl (by show 2 * 0 + _ ≤ _; exact Nat.le_of_eq rfl) (hb hby at_94) (fun _ _ => ⟨rfl, e0, (by decide : 0 + 0 ≤ _), (by decide : 0 + 0 ≤ _)⟩)
    dsimp only [Pt.U, Pt.locs, Pt.cells, Pt.slots] at X1 l1 y1 z1 st1 hQ1
    subst l1 y1 z1
    obtain ⟨rfl, N1q, e1⟩ := hQ1
    have N1 := Fr.app N0 N1q
    refine own_step (T' := T1) (g' := (mkF m 97 #[.val (.int x0), .val (.int x1), .val (.int x2), .val (.int x3), .val (.int x4), .val (.int x5), .val (.int x6), .val (.int x7), .val (.int t0)] [(.int (f1_0 x1))])) (fun _ k => st1 _ k) ?_
    refine own_step (T' := T1) (g' := (mkF m 99 #[.val (.int x0), .val (.int x1), .val (.int x2), .val (.int x3), .val (.int x4), .val (.int x5), .val (.int x6), .val (.int x7), .val (.int t0)] [(.int t0), (.int (f1_0 x1))])) (fun _ k => XS.iload X1.here hx rfl (hb hby at_97) rfl k) ?_
    by_cases hc : (f1_0 x1) = t0
    · refine own_step (T' := T1) (g' := (mkF m 102 #[.val (.int x0), .val (.int x1), .val (.int x2), .val (.int x3), .val (.int x4), .val (.int x5), .val (.int x6), .val (.int x7), .val (.int t0)] [])) (fun _ k => XS.icmpNo X1.here hx rfl (hb hby at_99) rfl (teq hc).2 k) ?_
      exact B102 T1 _ x0 x1 x2 x3 x4 x5 x6 x7 t0 hh Zh  X1 e1 N1 ((if_pos hc).symm.trans hf)
    · refine own_step (T' := T1) (g' := (mkF m 106 #[.val (.int x0), .val (.int x1), .val (.int x2), .val (.int x3), .val (.int x4), .val (.int x5), .val (.int x6), .val (.int x7), .val (.int t0)] [])) (fun _ k => XS.icmpYes X1.here hx rfl (pc0 := 99) (pc' := 106) rfl (hb hby at_99) rfl (feq hc).2 (by decide) (by decide) k) ?_
      exact B106 T1 _ x0 x1 x2 x3 x4 x5 x6 x7 t0 hh Zh  X1 e1 N1 ((if_neg hc).symm.trans hf)
  have B90 : ∀ (T0 : State) (locs : List Loc) (x0 : Int32) (x1 : Int32) (x2 : Int32) (x3 : Int32) (x4 : Int32) (x5 : Int32) (x6 : Int32) (x7 : Int32) (hh : Heap), n0 ≤ hh.size → Stand p l e room_1 s m #[(.int p0)] below meth c T0 locs 0 0 → T0.heap = hh → Fr n0 locs → f0_90 x1 = 1 → own_Goes p e below s (own_Law n0) 0 0 T0 (mkF m 90 #[.val (.int x0), .val (.int x1), .val (.int x2), .val (.int x3), .val (.int x4), .val (.int x5), .val (.int x6), .val (.int x7), .unset] []) := by
    intro T0 locs x0 x1 x2 x3 x4 x5 x6 x7 hh Zh  X0 e0 N0 hf
    refine own_step (T' := T0) (g' := (mkF m 91 #[.val (.int x0), .val (.int x1), .val (.int x2), .val (.int x3), .val (.int x4), .val (.int x5), .val (.int x6), .val (.int x7), .unset] [(.int (0 : Int32))])) (fun _ k => XS.iconst X0.here hx rfl (hb hby at_90) k) ?_
    exact B91 T0 _ x0 x1 x2 x3 x4 x5 x6 x7 (0 : Int32) hh Zh  X0 e0 N0 hf
  have B86 : ∀ (T0 : State) (locs : List Loc) (x0 : Int32) (x1 : Int32) (x2 : Int32) (x3 : Int32) (x4 : Int32) (x5 : Int32) (x6 : Int32) (x7 : Int32) (hh : Heap), n0 ≤ hh.size → Stand p l e room_1 s m #[(.int p0)] below meth c T0 locs 0 0 → T0.heap = hh → Fr n0 locs → f0_86 x1 = 1 → own_Goes p e below s (own_Law n0) 0 0 T0 (mkF m 86 #[.val (.int x0), .val (.int x1), .val (.int x2), .val (.int x3), .val (.int x4), .val (.int x5), .val (.int x6), .val (.int x7), .unset] []) := by
    intro T0 locs x0 x1 x2 x3 x4 x5 x6 x7 hh Zh  X0 e0 N0 hf
    refine own_step (T' := T0) (g' := (mkF m 87 #[.val (.int x0), .val (.int x1), .val (.int x2), .val (.int x3), .val (.int x4), .val (.int x5), .val (.int x6), .val (.int x7), .unset] [(.int (1 : Int32))])) (fun _ k => XS.iconst X0.here hx rfl (hb hby at_86) k) ?_
    refine own_step (T' := T0) (g' := (mkF m 91 #[.val (.int x0), .val (.int x1), .val (.int x2), .val (.int x3), .val (.int x4), .val (.int x5), .val (.int x6), .val (.int x7), .unset] [(.int (1 : Int32))])) (fun _ k => XS.goto X0.here hx rfl (pc0 := 87) (pc' := 91) rfl (hb hby at_87) (by decide) (by decide) k) ?_
    exact B91 T0 _ x0 x1 x2 x3 x4 x5 x6 x7 (1 : Int32) hh Zh  X0 e0 N0 hf
  have B81 : ∀ (T0 : State) (locs : List Loc) (x0 : Int32) (x1 : Int32) (x2 : Int32) (x3 : Int32) (x4 : Int32) (x5 : Int32) (x6 : Int32) (x7 : Int32) (hh : Heap), n0 ≤ hh.size → Stand p l e room_1 s m #[(.int p0)] below meth c T0 locs 0 0 → T0.heap = hh → Fr n0 locs → f0_81 x1 x7 = 1 → own_Goes p e below s (own_Law n0) 0 0 T0 (mkF m 81 #[.val (.int x0), .val (.int x1), .val (.int x2), .val (.int x3), .val (.int x4), .val (.int x5), .val (.int x6), .val (.int x7), .unset] []) := by
    intro T0 locs x0 x1 x2 x3 x4 x5 x6 x7 hh Zh  X0 e0 N0 hf
    refine own_step (T' := T0) (g' := (mkF m 83 #[.val (.int x0), .val (.int x1), .val (.int x2), .val (.int x3), .val (.int x4), .val (.int x5), .val (.int x6), .val (.int x7), .unset] [(.int x7)])) (fun _ k => XS.iload X0.here hx rfl (hb hby at_81) rfl k) ?_
    by_cases hc : x7 = (0 : Int32)
    · refine own_step (T' := T0) (g' := (mkF m 90 #[.val (.int x0), .val (.int x1), .val (.int x2), .val (.int x3), .val (.int x4), .val (.int x5), .val (.int x6), .val (.int x7), .unset] [])) (fun _ k => XS.ifYes X0.here hx rfl (pc0 := 83) (pc' := 90) rfl (hb hby at_83) rfl ((if0 _ _).trans (teq hc).1) (by decide) (by decide) k) ?_
      exact B90 T0 _ x0 x1 x2 x3 x4 x5 x6 x7 hh Zh  X0 e0 N0 ((if_pos hc).symm.trans hf)
    · refine own_step (T' := T0) (g' := (mkF m 86 #[.val (.int x0), .val (.int x1), .val (.int x2), .val (.int x3), .val (.int x4), .val (.int x5), .val (.int x6), .val (.int x7), .unset] [])) (fun _ k => XS.ifNo X0.here hx rfl (hb hby at_83) rfl ((if0 _ _).trans (feq hc).1) k) ?_
      exact B86 T0 _ x0 x1 x2 x3 x4 x5 x6 x7 hh Zh  X0 e0 N0 ((if_neg hc).symm.trans hf)
  have B76 : ∀ (T0 : State) (locs : List Loc) (x0 : Int32) (x1 : Int32) (x2 : Int32) (x3 : Int32) (x4 : Int32) (x5 : Int32) (x6 : Int32) (x7 : Int32) (hh : Heap), n0 ≤ hh.size → Stand p l e room_1 s m #[(.int p0)] below meth c T0 locs 0 0 → T0.heap = hh → Fr n0 locs → f0_76 x1 x6 x7 = 1 → own_Goes p e below s (own_Law n0) 0 0 T0 (mkF m 76 #[.val (.int x0), .val (.int x1), .val (.int x2), .val (.int x3), .val (.int x4), .val (.int x5), .val (.int x6), .val (.int x7), .unset] []) := by
    intro T0 locs x0 x1 x2 x3 x4 x5 x6 x7 hh Zh  X0 e0 N0 hf
    refine own_step (T' := T0) (g' := (mkF m 78 #[.val (.int x0), .val (.int x1), .val (.int x2), .val (.int x3), .val (.int x4), .val (.int x5), .val (.int x6), .val (.int x7), .unset] [(.int x6)])) (fun _ k => XS.iload X0.here hx rfl (hb hby at_76) rfl k) ?_
    by_cases hc : x6 = (0 : Int32)
    · refine own_step (T' := T0) (g' := (mkF m 81 #[.val (.int x0), .val (.int x1), .val (.int x2), .val (.int x3), .val (.int x4), .val (.int x5), .val (.int x6), .val (.int x7), .unset] [])) (fun _ k => XS.ifNo X0.here hx rfl (hb hby at_78) rfl ((if0 _ _).trans (teq hc).2) k) ?_
      exact B81 T0 _ x0 x1 x2 x3 x4 x5 x6 x7 hh Zh  X0 e0 N0 ((if_pos hc).symm.trans hf)
    · refine own_step (T' := T0) (g' := (mkF m 86 #[.val (.int x0), .val (.int x1), .val (.int x2), .val (.int x3), .val (.int x4), .val (.int x5), .val (.int x6), .val (.int x7), .unset] [])) (fun _ k => XS.ifYes X0.here hx rfl (pc0 := 78) (pc' := 86) rfl (hb hby at_78) rfl ((if0 _ _).trans (feq hc).2) (by decide) (by decide) k) ?_
      exact B86 T0 _ x0 x1 x2 x3 x4 x5 x6 x7 hh Zh  X0 e0 N0 ((if_neg hc).symm.trans hf)
  have B69 : ∀ (T0 : State) (locs : List Loc) (x0 : Int32) (x1 : Int32) (x2 : Int32) (x3 : Int32) (x4 : Int32) (x5 : Int32) (x6 : Int32) (t0 : Int32) (hh : Heap), n0 ≤ hh.size → Stand p l e room_1 s m #[(.int p0)] below meth c T0 locs 0 0 → T0.heap = hh → Fr n0 locs → f0_69 x1 x4 x6 t0 = 1 → own_Goes p e below s (own_Law n0) 0 0 T0 (mkF m 69 #[.val (.int x0), .val (.int x1), .val (.int x2), .val (.int x3), .val (.int x4), .val (.int x5), .val (.int x6), .unset, .unset] [(.int t0)]) := by
    intro T0 locs x0 x1 x2 x3 x4 x5 x6 t0 hh Zh  X0 e0 N0 hf
    refine own_step (T' := T0) (g' := (mkF m 71 #[.val (.int x0), .val (.int x1), .val (.int x2), .val (.int x3), .val (.int x4), .val (.int x5), .val (.int x6), .val (.int t0), .unset] [])) (fun _ k => XS.istore X0.here hx rfl (hb hby at_69) rfl (l' := #[.val (.int x0), .val (.int x1), .val (.int x2), .val (.int x3), .val (.int x4), .val (.int x5), .val (.int x6), .val (.int t0), .unset]) rfl k) ?_
    refine own_step (T' := T0) (g' := (mkF m 73 #[.val (.int x0), .val (.int x1), .val (.int x2), .val (.int x3), .val (.int x4), .val (.int x5), .val (.int x6), .val (.int t0), .unset] [(.int x4)])) (fun _ k => XS.iload X0.here hx rfl (hb hby at_71) rfl k) ?_
    by_cases hc : x4 = (0 : Int32)
    · refine own_step (T' := T0) (g' := (mkF m 76 #[.val (.int x0), .val (.int x1), .val (.int x2), .val (.int x3), .val (.int x4), .val (.int x5), .val (.int x6), .val (.int t0), .unset] [])) (fun _ k => XS.ifNo X0.here hx rfl (hb hby at_73) rfl ((if0 _ _).trans (teq hc).2) k) ?_
      exact B76 T0 _ x0 x1 x2 x3 x4 x5 x6 t0 hh Zh  X0 e0 N0 ((if_pos hc).symm.trans hf)
    · refine own_step (T' := T0) (g' := (mkF m 86 #[.val (.int x0), .val (.int x1), .val (.int x2), .val (.int x3), .val (.int x4), .val (.int x5), .val (.int x6), .val (.int t0), .unset] [])) (fun _ k => XS.ifYes X0.here hx rfl (pc0 := 73) (pc' := 86) rfl (hb hby at_73) rfl ((if0 _ _).trans (feq hc).2) (by decide) (by decide) k) ?_
      exact B86 T0 _ x0 x1 x2 x3 x4 x5 x6 t0 hh Zh  X0 e0 N0 ((if_neg hc).symm.trans hf)
  have B68 : ∀ (T0 : State) (locs : List Loc) (x0 : Int32) (x1 : Int32) (x2 : Int32) (x3 : Int32) (x4 : Int32) (x5 : Int32) (x6 : Int32) (hh : Heap), n0 ≤ hh.size → Stand p l e room_1 s m #[(.int p0)] below meth c T0 locs 0 0 → T0.heap = hh → Fr n0 locs → f0_68 x1 x4 x6 = 1 → own_Goes p e below s (own_Law n0) 0 0 T0 (mkF m 68 #[.val (.int x0), .val (.int x1), .val (.int x2), .val (.int x3), .val (.int x4), .val (.int x5), .val (.int x6), .unset, .unset] []) := by
    intro T0 locs x0 x1 x2 x3 x4 x5 x6 hh Zh  X0 e0 N0 hf
    refine own_step (T' := T0) (g' := (mkF m 69 #[.val (.int x0), .val (.int x1), .val (.int x2), .val (.int x3), .val (.int x4), .val (.int x5), .val (.int x6), .unset, .unset] [(.int (0 : Int32))])) (fun _ k => XS.iconst X0.here hx rfl (hb hby at_68) k) ?_
    exact B69 T0 _ x0 x1 x2 x3 x4 x5 x6 (0 : Int32) hh Zh  X0 e0 N0 hf
  have B64 : ∀ (T0 : State) (locs : List Loc) (x0 : Int32) (x1 : Int32) (x2 : Int32) (x3 : Int32) (x4 : Int32) (x5 : Int32) (x6 : Int32) (hh : Heap), n0 ≤ hh.size → Stand p l e room_1 s m #[(.int p0)] below meth c T0 locs 0 0 → T0.heap = hh → Fr n0 locs → f0_64 x1 x4 x6 = 1 → own_Goes p e below s (own_Law n0) 0 0 T0 (mkF m 64 #[.val (.int x0), .val (.int x1), .val (.int x2), .val (.int x3), .val (.int x4), .val (.int x5), .val (.int x6), .unset, .unset] []) := by
    intro T0 locs x0 x1 x2 x3 x4 x5 x6 hh Zh  X0 e0 N0 hf
    refine own_step (T' := T0) (g' := (mkF m 65 #[.val (.int x0), .val (.int x1), .val (.int x2), .val (.int x3), .val (.int x4), .val (.int x5), .val (.int x6), .unset, .unset] [(.int (1 : Int32))])) (fun _ k => XS.iconst X0.here hx rfl (hb hby at_64) k) ?_
    refine own_step (T' := T0) (g' := (mkF m 69 #[.val (.int x0), .val (.int x1), .val (.int x2), .val (.int x3), .val (.int x4), .val (.int x5), .val (.int x6), .unset, .unset] [(.int (1 : Int32))])) (fun _ k => XS.goto X0.here hx rfl (pc0 := 65) (pc' := 69) rfl (hb hby at_65) (by decide) (by decide) k) ?_
    exact B69 T0 _ x0 x1 x2 x3 x4 x5 x6 (1 : Int32) hh Zh  X0 e0 N0 hf
  have B56 : ∀ (T0 : State) (locs : List Loc) (x0 : Int32) (x1 : Int32) (x2 : Int32) (x3 : Int32) (x4 : Int32) (x5 : Int32) (t0 : Int32) (hh : Heap), n0 ≤ hh.size → Stand p l e room_1 s m #[(.int p0)] below meth c T0 locs 0 0 → T0.heap = hh → Fr n0 locs → f0_56 x1 x2 x4 t0 = 1 → own_Goes p e below s (own_Law n0) 0 0 T0 (mkF m 56 #[.val (.int x0), .val (.int x1), .val (.int x2), .val (.int x3), .val (.int x4), .val (.int x5), .unset, .unset, .unset] [(.int t0)]) := by
    intro T0 locs x0 x1 x2 x3 x4 x5 t0 hh Zh  X0 e0 N0 hf
    refine own_step (T' := T0) (g' := (mkF m 58 #[.val (.int x0), .val (.int x1), .val (.int x2), .val (.int x3), .val (.int x4), .val (.int x5), .val (.int t0), .unset, .unset] [])) (fun _ k => XS.istore X0.here hx rfl (hb hby at_56) rfl (l' := #[.val (.int x0), .val (.int x1), .val (.int x2), .val (.int x3), .val (.int x4), .val (.int x5), .val (.int t0), .unset, .unset]) rfl k) ?_
    refine own_step (T' := T0) (g' := (mkF m 59 #[.val (.int x0), .val (.int x1), .val (.int x2), .val (.int x3), .val (.int x4), .val (.int x5), .val (.int t0), .unset, .unset] [(.int x2)])) (fun _ k => XS.iloadN X0.here hx rfl (hb hby at_58) rfl k) ?_
    refine own_step (T' := T0) (g' := (mkF m 61 #[.val (.int x0), .val (.int x1), .val (.int x2), .val (.int x3), .val (.int x4), .val (.int x5), .val (.int t0), .unset, .unset] [(.int (95 : Int32)), (.int x2)])) (fun _ k => XS.bipush X0.here hx rfl (hb hby at_59) k) ?_
    by_cases hc : x2 = (95 : Int32)
    · refine own_step (T' := T0) (g' := (mkF m 64 #[.val (.int x0), .val (.int x1), .val (.int x2), .val (.int x3), .val (.int x4), .val (.int x5), .val (.int t0), .unset, .unset] [])) (fun _ k => XS.icmpNo X0.here hx rfl (hb hby at_61) rfl (teq hc).2 k) ?_
      exact B64 T0 _ x0 x1 x2 x3 x4 x5 t0 hh Zh  X0 e0 N0 ((if_pos hc).symm.trans hf)
    · refine own_step (T' := T0) (g' := (mkF m 68 #[.val (.int x0), .val (.int x1), .val (.int x2), .val (.int x3), .val (.int x4), .val (.int x5), .val (.int t0), .unset, .unset] [])) (fun _ k => XS.icmpYes X0.here hx rfl (pc0 := 61) (pc' := 68) rfl (hb hby at_61) rfl (feq hc).2 (by decide) (by decide) k) ?_
      exact B68 T0 _ x0 x1 x2 x3 x4 x5 t0 hh Zh  X0 e0 N0 ((if_neg hc).symm.trans hf)
  have B55 : ∀ (T0 : State) (locs : List Loc) (x0 : Int32) (x1 : Int32) (x2 : Int32) (x3 : Int32) (x4 : Int32) (x5 : Int32) (hh : Heap), n0 ≤ hh.size → Stand p l e room_1 s m #[(.int p0)] below meth c T0 locs 0 0 → T0.heap = hh → Fr n0 locs → f0_55 x1 x2 x4 = 1 → own_Goes p e below s (own_Law n0) 0 0 T0 (mkF m 55 #[.val (.int x0), .val (.int x1), .val (.int x2), .val (.int x3), .val (.int x4), .val (.int x5), .unset, .unset, .unset] []) := by
    intro T0 locs x0 x1 x2 x3 x4 x5 hh Zh  X0 e0 N0 hf
    refine own_step (T' := T0) (g' := (mkF m 56 #[.val (.int x0), .val (.int x1), .val (.int x2), .val (.int x3), .val (.int x4), .val (.int x5), .unset, .unset, .unset] [(.int (0 : Int32))])) (fun _ k => XS.iconst X0.here hx rfl (hb hby at_55) k) ?_
    exact B56 T0 _ x0 x1 x2 x3 x4 x5 (0 : Int32) hh Zh  X0 e0 N0 hf
  have B51 : ∀ (T0 : State) (locs : List Loc) (x0 : Int32) (x1 : Int32) (x2 : Int32) (x3 : Int32) (x4 : Int32) (x5 : Int32) (hh : Heap), n0 ≤ hh.size → Stand p l e room_1 s m #[(.int p0)] below meth c T0 locs 0 0 → T0.heap = hh → Fr n0 locs → f0_51 x1 x2 x4 = 1 → own_Goes p e below s (own_Law n0) 0 0 T0 (mkF m 51 #[.val (.int x0), .val (.int x1), .val (.int x2), .val (.int x3), .val (.int x4), .val (.int x5), .unset, .unset, .unset] []) := by
    intro T0 locs x0 x1 x2 x3 x4 x5 hh Zh  X0 e0 N0 hf
    refine own_step (T' := T0) (g' := (mkF m 52 #[.val (.int x0), .val (.int x1), .val (.int x2), .val (.int x3), .val (.int x4), .val (.int x5), .unset, .unset, .unset] [(.int (1 : Int32))])) (fun _ k => XS.iconst X0.here hx rfl (hb hby at_51) k) ?_
    refine own_step (T' := T0) (g' := (mkF m 56 #[.val (.int x0), .val (.int x1), .val (.int x2), .val (.int x3), .val (.int x4), .val (.int x5), .unset, .unset, .unset] [(.int (1 : Int32))])) (fun _ k => XS.goto X0.here hx rfl (pc0 := 52) (pc' := 56) rfl (hb hby at_52) (by decide) (by decide) k) ?_
    exact B56 T0 _ x0 x1 x2 x3 x4 x5 (1 : Int32) hh Zh  X0 e0 N0 hf
  have B44 : ∀ (T0 : State) (locs : List Loc) (x0 : Int32) (x1 : Int32) (x2 : Int32) (x3 : Int32) (x4 : Int32) (x5 : Int32) (hh : Heap), n0 ≤ hh.size → Stand p l e room_1 s m #[(.int p0)] below meth c T0 locs 0 0 → T0.heap = hh → Fr n0 locs → f0_44 x1 x2 x4 x5 = 1 → own_Goes p e below s (own_Law n0) 0 0 T0 (mkF m 44 #[.val (.int x0), .val (.int x1), .val (.int x2), .val (.int x3), .val (.int x4), .val (.int x5), .unset, .unset, .unset] []) := by
    intro T0 locs x0 x1 x2 x3 x4 x5 hh Zh  X0 e0 N0 hf
    refine own_step (T' := T0) (g' := (mkF m 46 #[.val (.int x0), .val (.int x1), .val (.int x2), .val (.int x3), .val (.int x4), .val (.int x5), .unset, .unset, .unset] [(.int x5)])) (fun _ k => XS.iload X0.here hx rfl (hb hby at_44) rfl k) ?_
    refine own_step (T' := T0) (g' := (mkF m 48 #[.val (.int x0), .val (.int x1), .val (.int x2), .val (.int x3), .val (.int x4), .val (.int x5), .unset, .unset, .unset] [(.int (10 : Int32)), (.int x5)])) (fun _ k => XS.bipush X0.here hx rfl (hb hby at_46) k) ?_
    by_cases hc : x5 < (10 : Int32)
    · refine own_step (T' := T0) (g' := (mkF m 51 #[.val (.int x0), .val (.int x1), .val (.int x2), .val (.int x3), .val (.int x4), .val (.int x5), .unset, .unset, .unset] [])) (fun _ k => XS.icmpNo X0.here hx rfl (hb hby at_48) rfl (tlt hc).2.1 k) ?_
      exact B51 T0 _ x0 x1 x2 x3 x4 x5 hh Zh  X0 e0 N0 ((if_pos hc).symm.trans hf)
    · refine own_step (T' := T0) (g' := (mkF m 55 #[.val (.int x0), .val (.int x1), .val (.int x2), .val (.int x3), .val (.int x4), .val (.int x5), .unset, .unset, .unset] [])) (fun _ k => XS.icmpYes X0.here hx rfl (pc0 := 48) (pc' := 55) rfl (hb hby at_48) rfl (flt hc).2.1 (by decide) (by decide) k) ?_
      exact B55 T0 _ x0 x1 x2 x3 x4 x5 hh Zh  X0 e0 N0 ((if_neg hc).symm.trans hf)
  have B31 : ∀ (T0 : State) (locs : List Loc) (x0 : Int32) (x1 : Int32) (x2 : Int32) (x3 : Int32) (t0 : Int32) (hh : Heap), n0 ≤ hh.size → Stand p l e room_1 s m #[(.int p0)] below meth c T0 locs 0 0 → T0.heap = hh → Fr n0 locs → f0_31 x1 x2 t0 = 1 → own_Goes p e below s (own_Law n0) 0 0 T0 (mkF m 31 #[.val (.int x0), .val (.int x1), .val (.int x2), .val (.int x3), .unset, .unset, .unset, .unset, .unset] [(.int t0)]) := by
    intro T0 locs x0 x1 x2 x3 t0 hh Zh  X0 e0 N0 hf
    refine own_step (T' := T0) (g' := (mkF m 33 #[.val (.int x0), .val (.int x1), .val (.int x2), .val (.int x3), .val (.int t0), .unset, .unset, .unset, .unset] [])) (fun _ k => XS.istore X0.here hx rfl (hb hby at_31) rfl (l' := #[.val (.int x0), .val (.int x1), .val (.int x2), .val (.int x3), .val (.int t0), .unset, .unset, .unset, .unset]) rfl k) ?_
    refine own_step (T' := T0) (g' := (mkF m 34 #[.val (.int x0), .val (.int x1), .val (.int x2), .val (.int x3), .val (.int t0), .unset, .unset, .unset, .unset] [(.int x2)])) (fun _ k => XS.iloadN X0.here hx rfl (hb hby at_33) rfl k) ?_
    refine own_step (T' := T0) (g' := (mkF m 36 #[.val (.int x0), .val (.int x1), .val (.int x2), .val (.int x3), .val (.int t0), .unset, .unset, .unset, .unset] [(.int (48 : Int32)), (.int x2)])) (fun _ k => XS.bipush X0.here hx rfl (hb hby at_34) k) ?_
    refine own_step (T' := T0) (g' := (mkF m 37 #[.val (.int x0), .val (.int x1), .val (.int x2), .val (.int x3), .val (.int t0), .unset, .unset, .unset, .unset] [(.int (x2 - (48 : Int32)))])) (fun _ k => XS.isub X0.here hx rfl (hb hby at_36) rfl k) ?_
    refine own_step (T' := T0) (g' := (mkF m 39 #[.val (.int x0), .val (.int x1), .val (.int x2), .val (.int x3), .val (.int t0), .val (.int (x2 - (48 : Int32))), .unset, .unset, .unset] [])) (fun _ k => XS.istore X0.here hx rfl (hb hby at_37) rfl (l' := #[.val (.int x0), .val (.int x1), .val (.int x2), .val (.int x3), .val (.int t0), .val (.int (x2 - (48 : Int32))), .unset, .unset, .unset]) rfl k) ?_
    refine own_step (T' := T0) (g' := (mkF m 41 #[.val (.int x0), .val (.int x1), .val (.int x2), .val (.int x3), .val (.int t0), .val (.int (x2 - (48 : Int32))), .unset, .unset, .unset] [(.int (x2 - (48 : Int32)))])) (fun _ k => XS.iload X0.here hx rfl (hb hby at_39) rfl k) ?_
    by_cases hc : (x2 - (48 : Int32)) < (0 : Int32)
    · refine own_step (T' := T0) (g' := (mkF m 55 #[.val (.int x0), .val (.int x1), .val (.int x2), .val (.int x3), .val (.int t0), .val (.int (x2 - (48 : Int32))), .unset, .unset, .unset] [])) (fun _ k => XS.ifYes X0.here hx rfl (pc0 := 41) (pc' := 55) rfl (hb hby at_41) rfl ((if0 _ _).trans (tlt hc).1) (by decide) (by decide) k) ?_
      exact B55 T0 _ x0 x1 x2 x3 t0 (x2 - (48 : Int32)) hh Zh  X0 e0 N0 ((if_pos hc).symm.trans hf)
    · refine own_step (T' := T0) (g' := (mkF m 44 #[.val (.int x0), .val (.int x1), .val (.int x2), .val (.int x3), .val (.int t0), .val (.int (x2 - (48 : Int32))), .unset, .unset, .unset] [])) (fun _ k => XS.ifNo X0.here hx rfl (hb hby at_41) rfl ((if0 _ _).trans (flt hc).1) k) ?_
      exact B44 T0 _ x0 x1 x2 x3 t0 (x2 - (48 : Int32)) hh Zh  X0 e0 N0 ((if_neg hc).symm.trans hf)
  have B30 : ∀ (T0 : State) (locs : List Loc) (x0 : Int32) (x1 : Int32) (x2 : Int32) (x3 : Int32) (hh : Heap), n0 ≤ hh.size → Stand p l e room_1 s m #[(.int p0)] below meth c T0 locs 0 0 → T0.heap = hh → Fr n0 locs → f0_30 x1 x2 = 1 → own_Goes p e below s (own_Law n0) 0 0 T0 (mkF m 30 #[.val (.int x0), .val (.int x1), .val (.int x2), .val (.int x3), .unset, .unset, .unset, .unset, .unset] []) := by
    intro T0 locs x0 x1 x2 x3 hh Zh  X0 e0 N0 hf
    refine own_step (T' := T0) (g' := (mkF m 31 #[.val (.int x0), .val (.int x1), .val (.int x2), .val (.int x3), .unset, .unset, .unset, .unset, .unset] [(.int (0 : Int32))])) (fun _ k => XS.iconst X0.here hx rfl (hb hby at_30) k) ?_
    exact B31 T0 _ x0 x1 x2 x3 (0 : Int32) hh Zh  X0 e0 N0 hf
  have B26 : ∀ (T0 : State) (locs : List Loc) (x0 : Int32) (x1 : Int32) (x2 : Int32) (x3 : Int32) (hh : Heap), n0 ≤ hh.size → Stand p l e room_1 s m #[(.int p0)] below meth c T0 locs 0 0 → T0.heap = hh → Fr n0 locs → f0_26 x1 x2 = 1 → own_Goes p e below s (own_Law n0) 0 0 T0 (mkF m 26 #[.val (.int x0), .val (.int x1), .val (.int x2), .val (.int x3), .unset, .unset, .unset, .unset, .unset] []) := by
    intro T0 locs x0 x1 x2 x3 hh Zh  X0 e0 N0 hf
    refine own_step (T' := T0) (g' := (mkF m 27 #[.val (.int x0), .val (.int x1), .val (.int x2), .val (.int x3), .unset, .unset, .unset, .unset, .unset] [(.int (1 : Int32))])) (fun _ k => XS.iconst X0.here hx rfl (hb hby at_26) k) ?_
    refine own_step (T' := T0) (g' := (mkF m 31 #[.val (.int x0), .val (.int x1), .val (.int x2), .val (.int x3), .unset, .unset, .unset, .unset, .unset] [(.int (1 : Int32))])) (fun _ k => XS.goto X0.here hx rfl (pc0 := 27) (pc' := 31) rfl (hb hby at_27) (by decide) (by decide) k) ?_
    exact B31 T0 _ x0 x1 x2 x3 (1 : Int32) hh Zh  X0 e0 N0 hf
  have B20 : ∀ (T0 : State) (locs : List Loc) (x0 : Int32) (x1 : Int32) (x2 : Int32) (x3 : Int32) (hh : Heap), n0 ≤ hh.size → Stand p l e room_1 s m #[(.int p0)] below meth c T0 locs 0 0 → T0.heap = hh → Fr n0 locs → f0_20 x1 x2 x3 = 1 → own_Goes p e below s (own_Law n0) 0 0 T0 (mkF m 20 #[.val (.int x0), .val (.int x1), .val (.int x2), .val (.int x3), .unset, .unset, .unset, .unset, .unset] []) := by
    intro T0 locs x0 x1 x2 x3 hh Zh  X0 e0 N0 hf
    refine own_step (T' := T0) (g' := (mkF m 21 #[.val (.int x0), .val (.int x1), .val (.int x2), .val (.int x3), .unset, .unset, .unset, .unset, .unset] [(.int x3)])) (fun _ k => XS.iloadN X0.here hx rfl (hb hby at_20) rfl k) ?_
    refine own_step (T' := T0) (g' := (mkF m 23 #[.val (.int x0), .val (.int x1), .val (.int x2), .val (.int x3), .unset, .unset, .unset, .unset, .unset] [(.int (26 : Int32)), (.int x3)])) (fun _ k => XS.bipush X0.here hx rfl (hb hby at_21) k) ?_
    by_cases hc : x3 < (26 : Int32)
    · refine own_step (T' := T0) (g' := (mkF m 26 #[.val (.int x0), .val (.int x1), .val (.int x2), .val (.int x3), .unset, .unset, .unset, .unset, .unset] [])) (fun _ k => XS.icmpNo X0.here hx rfl (hb hby at_23) rfl (tlt hc).2.1 k) ?_
      exact B26 T0 _ x0 x1 x2 x3 hh Zh  X0 e0 N0 ((if_pos hc).symm.trans hf)
    · refine own_step (T' := T0) (g' := (mkF m 30 #[.val (.int x0), .val (.int x1), .val (.int x2), .val (.int x3), .unset, .unset, .unset, .unset, .unset] [])) (fun _ k => XS.icmpYes X0.here hx rfl (pc0 := 23) (pc' := 30) rfl (hb hby at_23) rfl (flt hc).2.1 (by decide) (by decide) k) ?_
      exact B30 T0 _ x0 x1 x2 x3 hh Zh  X0 e0 N0 ((if_neg hc).symm.trans hf)
  have B0 : ∀ (T0 : State) (locs : List Loc) (x0 : Int32) (hh : Heap), n0 ≤ hh.size → Stand p l e room_1 s m #[(.int p0)] below meth c T0 locs 0 0 → T0.heap = hh → Fr n0 locs → f0_0 x0 = 1 → own_Goes p e below s (own_Law n0) 0 0 T0 (mkF m 0 #[.val (.int x0), .unset, .unset, .unset, .unset, .unset, .unset, .unset, .unset] []) := by
    intro T0 locs x0 hh Zh  X0 e0 N0 hf
    refine own_step (T' := T0) (g' := (mkF m 1 #[.val (.int x0), .unset, .unset, .unset, .unset, .unset, .unset, .unset, .unset] [(.int x0)])) (fun _ k => XS.iloadN X0.here hx rfl (hb hby at_0) rfl k) ?_
    refine own_step (T' := T0) (g' := (mkF m 3 #[.val (.int x0), .unset, .unset, .unset, .unset, .unset, .unset, .unset, .unset] [(.int (65535 : Int32)), (.int x0)])) (fun _ k => X0.ldcInt hx hown (mvT hZ (hw _ (List.mem_of_getElem? (i := 0) rfl))) (g := (mkF m 1 #[.val (.int x0), .unset, .unset, .unset, .unset, .unset, .unset, .unset, .unset] [(.int x0)])) rfl (hb hby at_1) _ k) ?_
    refine own_step (T' := T0) (g' := (mkF m 4 #[.val (.int x0), .unset, .unset, .unset, .unset, .unset, .unset, .unset, .unset] [(.int (x0 &&& (65535 : Int32)))])) (fun _ k => XS.iand X0.here hx rfl (hb hby at_3) rfl k) ?_
    refine own_step (T' := T0) (g' := (mkF m 5 #[.val (.int x0), .unset, .unset, .unset, .unset, .unset, .unset, .unset, .unset] [(.int ((x0 &&& (65535 : Int32)).toUInt32.toUInt16.toUInt32.toInt32))])) (fun _ k => XS.i2c X0.here hx rfl (hb hby at_4) rfl k) ?_
    refine own_step (T' := T0) (g' := (mkF m 6 #[.val (.int x0), .val (.int ((x0 &&& (65535 : Int32)).toUInt32.toUInt16.toUInt32.toInt32)), .unset, .unset, .unset, .unset, .unset, .unset, .unset] [])) (fun _ k => XS.istoreN X0.here hx rfl (hb hby at_5) rfl (l' := #[.val (.int x0), .val (.int ((x0 &&& (65535 : Int32)).toUInt32.toUInt16.toUInt32.toInt32)), .unset, .unset, .unset, .unset, .unset, .unset, .unset]) rfl k) ?_
    refine own_step (T' := T0) (g' := (mkF m 7 #[.val (.int x0), .val (.int ((x0 &&& (65535 : Int32)).toUInt32.toUInt16.toUInt32.toInt32)), .unset, .unset, .unset, .unset, .unset, .unset, .unset] [(.int ((x0 &&& (65535 : Int32)).toUInt32.toUInt16.toUInt32.toInt32))])) (fun _ k => XS.iloadN X0.here hx rfl (hb hby at_6) rfl k) ?_
    refine own_step (T' := T0) (g' := (mkF m 8 #[.val (.int x0), .val (.int ((x0 &&& (65535 : Int32)).toUInt32.toUInt16.toUInt32.toInt32)), .val (.int ((x0 &&& (65535 : Int32)).toUInt32.toUInt16.toUInt32.toInt32)), .unset, .unset, .unset, .unset, .unset, .unset] [])) (fun _ k => XS.istoreN X0.here hx rfl (hb hby at_7) rfl (l' := #[.val (.int x0), .val (.int ((x0 &&& (65535 : Int32)).toUInt32.toUInt16.toUInt32.toInt32)), .val (.int ((x0 &&& (65535 : Int32)).toUInt32.toUInt16.toUInt32.toInt32)), .unset, .unset, .unset, .unset, .unset, .unset]) rfl k) ?_
    refine own_step (T' := T0) (g' := (mkF m 9 #[.val (.int x0), .val (.int ((x0 &&& (65535 : Int32)).toUInt32.toUInt16.toUInt32.toInt32)), .val (.int ((x0 &&& (65535 : Int32)).toUInt32.toUInt16.toUInt32.toInt32)), .unset, .unset, .unset, .unset, .unset, .unset] [(.int ((x0 &&& (65535 : Int32)).toUInt32.toUInt16.toUInt32.toInt32))])) (fun _ k => XS.iloadN X0.here hx rfl (hb hby at_8) rfl k) ?_
    refine own_step (T' := T0) (g' := (mkF m 11 #[.val (.int x0), .val (.int ((x0 &&& (65535 : Int32)).toUInt32.toUInt16.toUInt32.toInt32)), .val (.int ((x0 &&& (65535 : Int32)).toUInt32.toUInt16.toUInt32.toInt32)), .unset, .unset, .unset, .unset, .unset, .unset] [(.int (32 : Int32)), (.int ((x0 &&& (65535 : Int32)).toUInt32.toUInt16.toUInt32.toInt32))])) (fun _ k => XS.bipush X0.here hx rfl (hb hby at_9) k) ?_
    refine own_step (T' := T0) (g' := (mkF m 12 #[.val (.int x0), .val (.int ((x0 &&& (65535 : Int32)).toUInt32.toUInt16.toUInt32.toInt32)), .val (.int ((x0 &&& (65535 : Int32)).toUInt32.toUInt16.toUInt32.toInt32)), .unset, .unset, .unset, .unset, .unset, .unset] [(.int (((x0 &&& (65535 : Int32)).toUInt32.toUInt16.toUInt32.toInt32) ||| (32 : Int32)))])) (fun _ k => XS.ior X0.here hx rfl (hb hby at_11) rfl k) ?_
    refine own_step (T' := T0) (g' := (mkF m 14 #[.val (.int x0), .val (.int ((x0 &&& (65535 : Int32)).toUInt32.toUInt16.toUInt32.toInt32)), .val (.int ((x0 &&& (65535 : Int32)).toUInt32.toUInt16.toUInt32.toInt32)), .unset, .unset, .unset, .unset, .unset, .unset] [(.int (97 : Int32)), (.int (((x0 &&& (65535 : Int32)).toUInt32.toUInt16.toUInt32.toInt32) ||| (32 : Int32)))])) (fun _ k => XS.bipush X0.here hx rfl (hb hby at_12) k) ?_
    refine own_step (T' := T0) (g' := (mkF m 15 #[.val (.int x0), .val (.int ((x0 &&& (65535 : Int32)).toUInt32.toUInt16.toUInt32.toInt32)), .val (.int ((x0 &&& (65535 : Int32)).toUInt32.toUInt16.toUInt32.toInt32)), .unset, .unset, .unset, .unset, .unset, .unset] [(.int ((((x0 &&& (65535 : Int32)).toUInt32.toUInt16.toUInt32.toInt32) ||| (32 : Int32)) - (97 : Int32)))])) (fun _ k => XS.isub X0.here hx rfl (hb hby at_14) rfl k) ?_
    refine own_step (T' := T0) (g' := (mkF m 16 #[.val (.int x0), .val (.int ((x0 &&& (65535 : Int32)).toUInt32.toUInt16.toUInt32.toInt32)), .val (.int ((x0 &&& (65535 : Int32)).toUInt32.toUInt16.toUInt32.toInt32)), .val (.int ((((x0 &&& (65535 : Int32)).toUInt32.toUInt16.toUInt32.toInt32) ||| (32 : Int32)) - (97 : Int32))), .unset, .unset, .unset, .unset, .unset] [])) (fun _ k => XS.istoreN X0.here hx rfl (hb hby at_15) rfl (l' := #[.val (.int x0), .val (.int ((x0 &&& (65535 : Int32)).toUInt32.toUInt16.toUInt32.toInt32)), .val (.int ((x0 &&& (65535 : Int32)).toUInt32.toUInt16.toUInt32.toInt32)), .val (.int ((((x0 &&& (65535 : Int32)).toUInt32.toUInt16.toUInt32.toInt32) ||| (32 : Int32)) - (97 : Int32))), .unset, .unset, .unset, .unset, .unset]) rfl k) ?_
    refine own_step (T' := T0) (g' := (mkF m 17 #[.val (.int x0), .val (.int ((x0 &&& (65535 : Int32)).toUInt32.toUInt16.toUInt32.toInt32)), .val (.int ((x0 &&& (65535 : Int32)).toUInt32.toUInt16.toUInt32.toInt32)), .val (.int ((((x0 &&& (65535 : Int32)).toUInt32.toUInt16.toUInt32.toInt32) ||| (32 : Int32)) - (97 : Int32))), .unset, .unset, .unset, .unset, .unset] [(.int ((((x0 &&& (65535 : Int32)).toUInt32.toUInt16.toUInt32.toInt32) ||| (32 : Int32)) - (97 : Int32)))])) (fun _ k => XS.iloadN X0.here hx rfl (hb hby at_16) rfl k) ?_
    by_cases hc : ((((x0 &&& (65535 : Int32)).toUInt32.toUInt16.toUInt32.toInt32) ||| (32 : Int32)) - (97 : Int32)) < (0 : Int32)
    · refine own_step (T' := T0) (g' := (mkF m 30 #[.val (.int x0), .val (.int ((x0 &&& (65535 : Int32)).toUInt32.toUInt16.toUInt32.toInt32)), .val (.int ((x0 &&& (65535 : Int32)).toUInt32.toUInt16.toUInt32.toInt32)), .val (.int ((((x0 &&& (65535 : Int32)).toUInt32.toUInt16.toUInt32.toInt32) ||| (32 : Int32)) - (97 : Int32))), .unset, .unset, .unset, .unset, .unset] [])) (fun _ k => XS.ifYes X0.here hx rfl (pc0 := 17) (pc' := 30) rfl (hb hby at_17) rfl ((if0 _ _).trans (tlt hc).1) (by decide) (by decide) k) ?_
      exact B30 T0 _ x0 ((x0 &&& (65535 : Int32)).toUInt32.toUInt16.toUInt32.toInt32) ((x0 &&& (65535 : Int32)).toUInt32.toUInt16.toUInt32.toInt32) ((((x0 &&& (65535 : Int32)).toUInt32.toUInt16.toUInt32.toInt32) ||| (32 : Int32)) - (97 : Int32)) hh Zh  X0 e0 N0 ((if_pos hc).symm.trans hf)
    · refine own_step (T' := T0) (g' := (mkF m 20 #[.val (.int x0), .val (.int ((x0 &&& (65535 : Int32)).toUInt32.toUInt16.toUInt32.toInt32)), .val (.int ((x0 &&& (65535 : Int32)).toUInt32.toUInt16.toUInt32.toInt32)), .val (.int ((((x0 &&& (65535 : Int32)).toUInt32.toUInt16.toUInt32.toInt32) ||| (32 : Int32)) - (97 : Int32))), .unset, .unset, .unset, .unset, .unset] [])) (fun _ k => XS.ifNo X0.here hx rfl (hb hby at_17) rfl ((if0 _ _).trans (flt hc).1) k) ?_
      exact B20 T0 _ x0 ((x0 &&& (65535 : Int32)).toUInt32.toUInt16.toUInt32.toInt32) ((x0 &&& (65535 : Int32)).toUInt32.toUInt16.toUInt32.toInt32) ((((x0 &&& (65535 : Int32)).toUInt32.toUInt16.toUInt32.toInt32) ||| (32 : Int32)) - (97 : Int32)) hh Zh  X0 e0 N0 ((if_neg hc).symm.trans hf)
  have hB := B0 s₁ [] p0 h0 Z0 X00 e00 (Fr.nil n0) hlaw
  obtain ⟨s₂, o, q1, q2, q3, v, L, q4, q5, q6⟩ := hB
  exact ⟨s₂, o, castTop (ef_0 m p0) q1, q2, q3, v, L, q4, q5, q6⟩
set_option maxRecDepth 65536 in
set_option maxHeartbeats 40000000 in
theorem comes_1 {Post : Tables → Env → Array Value → State → Outcome → State → Prop} (hpost : ∀ tb e args s v u, (limb_1_1.after args s (.returned v) u = true ∧ limb_1_2.after args s (.returned v) u = true ∧ True) → FrameEnd s (.returned v) u (Jvm.fieldLocs frame_1_writes args s ++ Jvm.arrayLocs frame_1_arrays args s ++ Jvm.staticLocs frame_1_statics s) 0 0 → Post tb e args s (.returned v) u) :
    ArmFor flags0 classFile x code maxLocals ret World_1 tables_1 room_1 Calls_1 rest_1 Pre_1 Post := by
  intro l hfl _ _ p e ha hc hk s m args below hf hA hF happ hP
  obtain ⟨hcalls, hrest, hpre⟩ := hP
  obtain ⟨-, -, -, hnamed, -, -, -, hat⟩ := (Spec.applies_iff hf).mp happ
  obtain ⟨hg, hn⟩ := and_e (Cond.before_iff.mp (show (Jvm.Cond.and given_1 narrow_1).before args s = true from hpre))
  obtain ⟨hcnt, g0⟩ := and_e hg
  obtain ⟨w0, rfl⟩ : ∃ w0 : Value, args = #[w0] := by
    have hs : args.size = 1 := by simpa [Cond.value, given_1] using hcnt
    obtain ⟨L⟩ := args
    match L, hs with
    | [w0], _ => exact ⟨w0, rfl⟩
  have hw := fun d (hd : d ∈ tables_1) => atoms_spec (ws := Jvm.Cond.code x code maxLocals ret :: tables_1) hat d (List.mem_cons_of_mem _ hd)
  obtain ⟨i0, ei0⟩ := is_v g0
  obtain rfl : w0 = (.int i0) := Option.some.inj ei0
  obtain ⟨n, o, h1, h2, h3, _, L, rfl, ⟨rfl, N⟩, hq⟩ := rm0 l s _ hw tables_1 i0 s.heap s.heap.size (Nat.le_refl _) (own_law i0) p e ha hc hk s m _ below hf ((Spec.applies_iff_loose hf).mp happ).1 ⟨rfl, State.Warmed39.refl s, rfl⟩ trivial
  refine ⟨n, _, h1, h2, h3, hpost _ _ _ _ _ _ ⟨Cond.after_iff.mpr rfl, Cond.after_iff.mpr (eq_i res_at (Term.int_eval (1)) rfl), trivial⟩ ⟨hq.1, hq.2.1, (hq.2.2.sift fun y hy => Or.inr (N y hy)).mono (by decide) (by decide)⟩⟩
theorem main_1_1 : Claimed_1_1 := comes_1 fun _ _ _ _ _ _ h hF => ⟨h.1, hF⟩
theorem main_1_2 : Claimed_1_2 := comes_1 fun _ _ _ _ _ _ h hF => ⟨h.2.1, hF⟩
end Jvm.Pilot.@@N@@
namespace Jvm.Pilot.@@N@@
open Jvm Jvm.ClassFile Sem Op Lib Jvm.Free Jvm.Stand Jvm.Pilot.@@N@@.Jvm.D
/-! MADE BY PROGRAM (witnessworld.py) out of the Statement's table words and the real class files: 10 classes; the members and pool entries that the words name. The judged class is class 1, her method 1. -/
namespace start1
open Jvm.ClassFile
def u (s : String) : CpInfo := .utf8 (stringToUtf16 s)
/-- a pool by its gaps: so many unusable entries, then the entry; so many at the end -/
def gap : Nat → List CpInfo → List CpInfo
  | 0, r => r
  | n + 1, r => .unusable :: gap n r
def poolList (es : List (Nat × CpInfo)) (last : Nat) : List CpInfo := es.foldr (fun e r => gap e.1 (e.2 :: r)) (gap last [])
def pool (es : List (Nat × CpInfo)) (last : Nat) : Array CpInfo := ⟨poolList es last⟩
def fileOf (pool : Array CpInfo) (this : Nat) (attrs : Array Attribute := #[]) (ms : Array MethodInfo := #[]) (fl : Nat := 33) (sup : Nat := 0) (ifs : Array Nat := #[]) (fds : Array FieldInfo := #[]) : ClassFile where
  minorVersion := 0
  majorVersion := 65
  constantPool := pool
  accessFlags := fl
  thisClass := this
  superClass := sup
  interfaces := ifs
  fields := fds
  methods := ms
  attributes := attrs
def plain (name : String) (sup : Option ClassId) : Class where
  name := name
  kind := .ordinary
  loader := none
  accessFlags := 33
  super := sup
  interfaces := #[]
  cf := none
  fields := #[]
  methods := #[]
  instanceTypes := #[]
  staticTypes := #[]
  resolved := #[]
  callSites := []
  init := .initialized
  statics := none
  mirror := none

def pool0 : Array CpInfo := pool [(5, u "<init>"), (0, u "()V"), (1, .class_ 10), (1, u "java/lang/Object")] 113

def k0m0 : Method := { name := "<init>", desc := "()V", sig := { parameters := [], returnType := none }, accessFlags := 1, code := none }
/-- java/lang/Object -/
def k0 : Class := { plain "java/lang/Object" none with
  accessFlags := 33
  interfaces := #[]
  cf := some (fileOf pool0 8 #[] #[{ accessFlags := 1, nameIndex := 5, descriptorIndex := 6, attributes := #[] }] 33 0 #[] #[])
  fields := #[]
  methods := #[k0m0]
  instanceTypes := #[]
  staticTypes := #[]
  resolved := Array.replicate 124 none
  statics := none }

def pool1 : Array CpInfo := pool [(2, .class_ 4), (1, u "java/lang/Object"), (0, u "<init>"), (0, u "()V"), (0, .integer 65535), (0, .methodref 9 10), (0, .class_ 11), (0, .nameAndType 12 13), (0, u "com/example/stanzary/stanzary/dialect/angle/AngleSyntax"), (0, u "isNameCharacter"), (0, u "(C)Z"), (0, .class_ 15), (0, u "com/example/stanzary/stanzary/dialect/angle/AngleSyntaxIsNameCharacterPinLaw"), (2, u "law"), (0, u "(I)Z")] 3

def k1m0 : Method := { name := "<init>", desc := "()V", sig := { parameters := [], returnType := none }, accessFlags := 2, code := none }
def k1c1 : Code := { maxStack := 2, maxLocals := 9, code := code, exceptionTable := #[], attributes := #[] }
def k1m1 : Method := { name := "law", desc := "(I)Z", sig := { parameters := [.int], returnType := some .boolean }, accessFlags := 9, code := some k1c1 }
/-- com/example/stanzary/stanzary/dialect/angle/AngleSyntaxIsNameCharacterPinLaw -/
def k1 : Class := { plain "com/example/stanzary/stanzary/dialect/angle/AngleSyntaxIsNameCharacterPinLaw" (some 0) with
  accessFlags := 49
  interfaces := #[]
  cf := some (fileOf pool1 14 #[] #[{ accessFlags := 2, nameIndex := 5, descriptorIndex := 6, attributes := #[] }, { accessFlags := 9, nameIndex := 18, descriptorIndex := 19, attributes := #[] }] 49 2 #[] #[])
  fields := #[]
  methods := #[k1m0, k1m1]
  instanceTypes := #[]
  staticTypes := #[]
  resolved := Array.replicate 23 none
  statics := none }

def pool2 : Array CpInfo := pool [(2, .class_ 4), (1, u "com/example/stanzary/stanzary/tree/Syntax"), (91, .class_ 97), (0, u "java/lang/Object")] 39

/-- com/example/stanzary/stanzary/tree/Syntax -/
def k2 : Class := { plain "com/example/stanzary/stanzary/tree/Syntax" (some 0) with
  accessFlags := 1537
  interfaces := #[]
  cf := some (fileOf pool2 2 #[] #[] 1537 96 #[] #[])
  fields := #[]
  methods := #[]
  instanceTypes := #[]
  staticTypes := #[]
  resolved := Array.replicate 137 none
  statics := none }

def pool3 : Array CpInfo := pool [(2, .class_ 4), (1, u "java/lang/Object"), (0, u "<init>"), (0, u "()V"), (17, .class_ 26), (1, u "com/example/stanzary/stanzary/dialect/angle/AngleSyntax"), (57, .class_ 86), (1, u "com/example/stanzary/stanzary/tree/Syntax"), (9, u "INSTANCE"), (0, u "Lcom/example/stanzary/stanzary/dialect/angle/AngleSyntax;"), (14, u "(C)Z"), (0, u "isNameCharacter")] 32

def k3m0 : Method := { name := "<init>", desc := "()V", sig := { parameters := [], returnType := none }, accessFlags := 2, code := none }
def k3c1 : Code := { maxStack := 2, maxLocals := 1, code := prog_4_method_8_code, exceptionTable := #[], attributes := #[] }
def k3m1 : Method := { name := "isNameCharacter", desc := "(C)Z", sig := { parameters := [.char], returnType := some .boolean }, accessFlags := 8, code := some k3c1 }
/-- com/example/stanzary/stanzary/dialect/angle/AngleSyntax -/
def k3 : Class := { plain "com/example/stanzary/stanzary/dialect/angle/AngleSyntax" (some 0) with
  accessFlags := 48
  interfaces := #[2]
  cf := some (fileOf pool3 24 #[] #[{ accessFlags := 2, nameIndex := 5, descriptorIndex := 6, attributes := #[] }, { accessFlags := 8, nameIndex := 113, descriptorIndex := 112, attributes := #[] }] 48 2 #[84] #[{ accessFlags := 24, nameIndex := 96, descriptorIndex := 97, attributes := #[] }])
  fields := #[{ name := "INSTANCE", type := (.object "com/example/stanzary/stanzary/dialect/angle/AngleSyntax"), accessFlags := 24, slot := 0, constantValue := 0 }]
  methods := #[k3m0, k3m1]
  instanceTypes := #[]
  staticTypes := #[(.object "com/example/stanzary/stanzary/dialect/angle/AngleSyntax")]
  resolved := Array.replicate 146 none
  statics := none }

def pool4 : Array CpInfo := pool [(1, u "java/lang/Cloneable"), (0, .class_ 1), (0, u "java/lang/Object"), (0, .class_ 3)] 3

/-- java/lang/Cloneable -/
def k4 : Class := { plain "java/lang/Cloneable" (some 0) with
  accessFlags := 1537
  interfaces := #[]
  cf := some (fileOf pool4 2 #[] #[] 1537 4 #[] #[])
  fields := #[]
  methods := #[]
  instanceTypes := #[]
  staticTypes := #[]
  resolved := Array.replicate 8 none
  statics := none }

def pool5 : Array CpInfo := pool [(1, u "java/io/Serializable"), (0, .class_ 1), (0, u "java/lang/Object"), (0, .class_ 3)] 3

/-- java/io/Serializable -/
def k5 : Class := { plain "java/io/Serializable" (some 0) with
  accessFlags := 1537
  interfaces := #[]
  cf := some (fileOf pool5 2 #[] #[] 1537 4 #[] #[])
  fields := #[]
  methods := #[]
  instanceTypes := #[]
  staticTypes := #[]
  resolved := Array.replicate 8 none
  statics := none }

/-- the primitive byte -/
def k6 : Class := { plain "byte" none with kind := .primitive 'B', accessFlags := 0x411 }
/-- [B -/
def k7 : Class := { plain "[B" (some 0) with kind := .array 6 .byte, interfaces := #[4, 5], accessFlags := 1041 }

/-- the primitive int -/
def k8 : Class := { plain "int" none with kind := .primitive 'I', accessFlags := 0x411 }
/-- [I -/
def k9 : Class := { plain "[I" (some 0) with kind := .array 8 .int, interfaces := #[4, 5], accessFlags := 1041 }

def heap : Heap := #[]
def classes : Array Class := #[k0, k1, k2, k3, k4, k5, k6, k7, k8, k9]
def interned : List (Array UInt16 × Addr) := []
def slotsUsed : Nat := 0
def theMethod : MethodId := ⟨1, 1⟩
def args0 : Array Value := #[.int 5]
def aboutOver (below : List Frame) : State where
  vm := { classes := classes, interned := interned.toArray }
  heap := heap
  slotsUsed := slotsUsed
  threads := #[{ frames := .invoking theMethod args0 :: below }]
def below0 : List Frame := [.native { method := ⟨0, 0⟩, args := #[] }]
def about1 : State := aboutOver below0
def p0 : Program := .bare "" "" ""
def e0 : Env := launch0.env 0 0 0
theorem w_frames : about1.frames = Frame.invoking theMethod args0 :: below0 := rfl
set_option maxRecDepth 65536 in
theorem w_args : argsFit about1.vm theMethod args0 = true := by decide +kernel
set_option maxRecDepth 65536 in
theorem w_heap : heapFits about1 = true := by decide +kernel
set_option maxRecDepth 65536 in
theorem w_runnable : about1.curStatus? = some .runnable := by decide +kernel
set_option maxRecDepth 65536 in
theorem w_alone : about1.alone = true := by decide +kernel
set_option maxRecDepth 65536 in
theorem w_named : about1.methodNamed? x = some theMethod := by decide +kernel
set_option maxRecDepth 65536 in
theorem w_hears : about1.hears theMethod below0 = true := by decide +kernel
set_option maxRecDepth 65536 in
theorem w_ripe : about1.ripe theMethod args0 below0 = true := by decide +kernel
theorem w_running : about1.status = .running := rfl
set_option maxRecDepth 65536 in
theorem w_room : about1.hasRoom e0.platform room_1 = true :=
  launch0.hasRoom_least _ room_1 (by decide +kernel) (by decide +kernel) (by decide +kernel) (by decide +kernel) (by decide +kernel) (by decide +kernel)
theorem allAtoms_all (ts : List Jvm.Cond) (a : Array Jvm.Value) (st : Jvm.State) : (allAtoms ts).before a st = ts.all (fun c => c.before a st) := by
  induction ts with
  | nil => rfl
  | cons c t ih =>
    show (Jvm.Cond.and c (allAtoms t)).before a st = _
    rw [Jvm.Cond.before_and, ih, List.all_cons]
def words1 : List Jvm.Cond := Jvm.Cond.code x code maxLocals ret :: tables_1
/-- a 'code' word, met by the world's own term for the bytes: nothing is compared byte by byte -/
theorem code_word {y : MethodName} {bytes : ByteArray} {mx : Nat} {rt : Option FieldType} {a : Array Value} {s : State} {m : MethodId} {meth : Method} {c : Code} (h1 : s.methodNamed? y = some m) (h2 : s.vm.method? m = some meth) (h3 : meth.code = some c) (h4 : c.code = bytes)
    (h5 : (c.maxLocals == mx && c.exceptionTable.isEmpty && decide (c.maxStack ≤ mostOperands) && decide (meth.sig.returnType = rt) && !meth.locks && decide (parseMethodDescriptor y.desc = some meth.sig)) = true) : (Jvm.Cond.code y bytes mx rt).before a s = true := by
  simp only [Bool.and_eq_true, beq_iff_eq, Bool.not_eq_true', decide_eq_true_eq] at h5
  obtain ⟨⟨⟨⟨⟨g1, g2⟩, g3⟩, g4⟩, g5⟩, g6⟩ := h5
  simp [Cond.before, Cond.holds, Cond.value, h1, h2, h3, h4, g1, g2, g3, g4, g5, g6]
def isCode : Jvm.Cond → Bool
  | .code _ _ _ _ => true
  | _ => false
theorem all_split {L : List Jvm.Cond} {P : Jvm.Cond → Bool} (h1 : L.all (fun c => isCode c || P c) = true) (h2 : ∀ c ∈ L.filter isCode, P c = true) : L.all P = true := by
  refine List.all_eq_true.mpr fun c hc => ?_
  have h := List.all_eq_true.mp h1 c hc
  rcases Bool.eq_false_or_eq_true (isCode c) with hi | hi
  · exact h2 c (List.mem_filter.mpr ⟨hc, hi⟩)
  · simpa [hi] using h
set_option maxRecDepth 65536 in
theorem w_c0 : (Jvm.Cond.code x code maxLocals ret).before args0 about1 = true := code_word (m := ⟨1, 1⟩) (meth := k1m1) (c := k1c1) (by decide +kernel) rfl rfl rfl (by decide +kernel)
set_option maxRecDepth 65536 in
theorem w_c1 : (Jvm.Cond.code ({ cls := "com/example/stanzary/stanzary/dialect/angle/AngleSyntax", name := "isNameCharacter", desc := "(C)Z" } : Jvm.MethodName) prog_4_method_8_code (1 : Nat) (Option.some Jvm.ClassFile.FieldType.boolean)).before args0 about1 = true := code_word (m := ⟨3, 1⟩) (meth := k3m1) (c := k3c1) (by decide +kernel) rfl rfl rfl (by decide +kernel)
def codes1 : List Jvm.Cond := [Jvm.Cond.code x code maxLocals ret, Jvm.Cond.code ({ cls := "com/example/stanzary/stanzary/dialect/angle/AngleSyntax", name := "isNameCharacter", desc := "(C)Z" } : Jvm.MethodName) prog_4_method_8_code (1 : Nat) (Option.some Jvm.ClassFile.FieldType.boolean)]
set_option maxRecDepth 65536 in
theorem codes_eq : words1.filter isCode = codes1 := rfl
theorem w_codes : ∀ c ∈ words1.filter isCode, c.before args0 about1 = true := by
  rw [codes_eq]
  intro c hc
  simp only [codes1, List.mem_cons, List.not_mem_nil, or_false] at hc
  rcases hc with rfl | rfl
  · exact w_c0
  · exact w_c1
set_option maxRecDepth 65536 in
theorem w_t1 : words1.all (fun c => isCode c || c.before args0 about1) = true := by decide +kernel
theorem w_tables : (allAtoms (Jvm.Cond.code x code maxLocals ret :: tables_1)).before args0 about1 = true := by
  rw [allAtoms_all]
  show words1.all (fun c => c.before args0 about1) = true
  refine all_split ?_ w_codes
  rw [w_t1]
set_option maxRecDepth 65536 in
theorem w_case : (Jvm.Cond.and given_1 narrow_1).before args0 about1 = true := by decide +kernel
theorem w_applies : (headSpec (Jvm.Cond.code x code maxLocals ret :: tables_1) room_1).applies x e0.platform about1 = true :=
  (Spec.applies_iff w_frames).mpr ⟨w_running, w_runnable, w_alone, w_named, w_hears, w_ripe, w_room, w_tables⟩
theorem atStart : AtStart classFile x code maxLocals ret World_1 tables_1 room_1 Calls_1 rest_1 Pre_1 launch0 p0 e0 about1 theMethod args0 below0 :=
  ⟨lists_1, trivial, launch0.admits_env _ _ _, launch0.least_env, fairChoices_fair.cas, fairChoices_fair.clock, w_frames, w_args, w_heap, w_applies, trivial, trivial, w_case⟩
end start1
theorem witness_1 : WitnessClaimed_1 := ⟨start1.p0, start1.e0, start1.about1, start1.theMethod, start1.args0, start1.below0, start1.atStart⟩
end Jvm.Pilot.@@N@@
