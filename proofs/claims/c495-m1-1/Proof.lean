import JvmDerived
import JvmDerived.Pilot.@@N@@Statement
import JvmDerived.Pilot.@@N@@Code
set_option linter.unusedVariables false
set_option linter.unusedSimpArgs false
namespace Jvm.RoadKit
open Sem ClassFile Op Lib Jvm.Stand Jvm.Free Jvm.LawKit
section New
variable {p : Program} {l : Launch} {e : Env} {R : Room} {s : State} {m : MethodId} {args : Array Value} {below : List Frame} {meth : Method} {c : Code} {T : State} {locs : List Loc} {cells slots : Nat}
theorem retI (X : Stand p l e R s m args below meth c T locs cells slots) (hx : p.tables.exec = Jvm.exec) {pc : Nat} {Ls : Array Slot} {z : Int32} {rest : List Value} (hret : meth.sig.returnType = some .int) (hd : decode c.code pc = .ok (.ireturn, 1)) {fs : List Frame}
    (hl : ∀ (f : JFrame) (acts : List Action), f.method = m → f.locked = none → f.entered = [] → (doReturn e (T.setTop f) acts (some (.int z))).1 = T.setFrames fs) : Steps p.tables e below (T.setTop (mkF m pc Ls (.int z :: rest))) (T.setFrames fs) := by
  have hm' : T.vm.method? m = some meth := X.method'
  have hn : narrow .int (.int z) = .int z := rfl
  show Steps p.tables e below (T.setTop { method := m, pc := pc, locals := Ls, stack := _ :: rest, locked := none }) _
  jvm_step X.here [X.here.top, hx, hd, hm', hret, hn]
  first | (intro acts; rw [hl _ acts rfl rfl rfl]) | rw [hl _ _ rfl rfl rfl]
  exact Steps.refl _
theorem own_retL (X : Stand p l e R s m args below meth c T locs cells slots) (hx : p.tables.exec = Jvm.exec) {pc : Nat} {Ls : Array Slot} {z : Int64} {rest : List Value} (hret : meth.sig.returnType = some .long) (hd : decode c.code pc = .ok (.lreturn, 1)) {fs : List Frame}
    (hl : ∀ (f : JFrame) (acts : List Action), f.method = m → f.locked = none → f.entered = [] → (doReturn e (T.setTop f) acts (some (.long z))).1 = T.setFrames fs) : Steps p.tables e below (T.setTop (mkF m pc Ls (.long z :: rest))) (T.setFrames fs) :=
  retOut X hx hret rfl (Or.inr (Or.inl ⟨rfl, rfl, z, rfl⟩)) hd hl
/-- from the state T with the frame g on top the run comes to the invocation's end, returns v, and Q and the frame's bounds hold there -/
def own_Goes (p : Program) (e : Env) (below : List Frame) (s : State) (Q : Option Value → Heap → List Loc → Prop) (k n : Nat) (T : State) (g : JFrame) : Prop :=
  ∃ s₂ o, Steps p.tables e below (T.setTop g) s₂ ∧ s₂.status = .running ∧ Ended s₂ below o ∧ ∃ v L, o = .returned v ∧ Q v s₂.heap L ∧ FrameEnd s o s₂ L k n
theorem own_step {Q : Option Value → Heap → List Loc → Prop} {k n : Nat} {T T' : State} {g g' : JFrame} (h : ∀ t, Steps p.tables e below (T'.setTop g') t → Steps p.tables e below (T.setTop g) t) (w : own_Goes p e below s Q k n T' g') : own_Goes p e below s Q k n T g := by
  obtain ⟨s₂, o, h1, r⟩ := w
  exact ⟨s₂, o, h _ h1, r⟩
theorem own_ret {x : MethodName} {S : Spec} {code : ByteArray} {maxLocals : Nat} {ret : Option FieldType} {s₁ : State} (X : Stand p l e R s m args below meth c T locs cells slots) (Bd : BodyLoose p l x S code maxLocals ret e s m args below meth c s₁) {v : Option Value} (hv : meth.sig.returnType = none → v = none) {g : JFrame}
    (hst : ∀ fs, (∀ (f : JFrame) (acts : List Action), f.method = m → f.locked = none → f.entered = [] → (doReturn e (T.setTop f) acts v).1 = T.setFrames fs) → Steps p.tables e below (T.setTop g) (T.setFrames fs)) {Q : Option Value → Heap → List Loc → Prop} (hQ : Q v T.heap locs) {k n : Nat} (hk : cells ≤ k) (hn : slots ≤ n) : own_Goes p e below s Q k n T g := by
  obtain ⟨fs, hr, hrun, hended, hW, hsame⟩ := X.leave (v := v) hv
  exact ⟨_, _, hst fs hr, hrun, hended, _, _, rfl, hQ, ⟨_, rfl⟩, hW, hsame.mono hk hn⟩
/-- what a body leaves that writes nothing: the value r, the heap as it was -/
def own_Pure (r : Value) (h0 : Heap) (n0 : Nat) (v : Option Value) (h : Heap) (L : List Loc) : Prop := v = some r ∧ Fr n0 L ∧ h = h0
/-- what the law leaves -/
def own_Law (n0 : Nat) (v : Option Value) (_ : Heap) (L : List Loc) : Prop := v = some (.int 1) ∧ Fr n0 L
end New
theorem own_getD (ws : List Int32) (i : Nat) : (ws.map Value.int).getD i (.int (0 : Int32)) = .int (ws.getD i (0 : Int32)) := by
  induction ws generalizing i with
  | nil => rfl
  | cons a r ih => cases i with
    | zero => rfl
    | succ j => exact ih j
end Jvm.RoadKit
namespace Jvm.Pilot.@@N@@
open Jvm Jvm.ClassFile Sem Op Lib Jvm.Free Jvm.Stand Jvm.LawKit Jvm.RoadKit Bundle Jvm.Pilot.@@N@@.Jvm.D
theorem pd_0 : parseMethodDescriptor "(I)Z" = some ⟨[.int], some .boolean⟩ := by decide +kernel
theorem d1_0 : decode prog_37_method_2_code 0 = .ok (.iload_n 0, 1) := by decide +kernel
theorem d1_1 : decode prog_37_method_2_code 1 = .ok (.bipush 97, 2) := by decide +kernel
theorem d1_3 : decode prog_37_method_2_code 3 = .ok (.if_icmp .lt 9, 3) := by decide +kernel
theorem d1_6 : decode prog_37_method_2_code 6 = .ok (.iload_n 0, 1) := by decide +kernel
theorem d1_7 : decode prog_37_method_2_code 7 = .ok (.bipush 122, 2) := by decide +kernel
theorem d1_9 : decode prog_37_method_2_code 9 = .ok (.if_icmp .le 39, 3) := by decide +kernel
theorem d1_12 : decode prog_37_method_2_code 12 = .ok (.iload_n 0, 1) := by decide +kernel
theorem d1_13 : decode prog_37_method_2_code 13 = .ok (.bipush 65, 2) := by decide +kernel
theorem d1_15 : decode prog_37_method_2_code 15 = .ok (.if_icmp .lt 9, 3) := by decide +kernel
theorem d1_18 : decode prog_37_method_2_code 18 = .ok (.iload_n 0, 1) := by decide +kernel
theorem d1_19 : decode prog_37_method_2_code 19 = .ok (.bipush 90, 2) := by decide +kernel
theorem d1_21 : decode prog_37_method_2_code 21 = .ok (.if_icmp .le 27, 3) := by decide +kernel
theorem d1_24 : decode prog_37_method_2_code 24 = .ok (.iload_n 0, 1) := by decide +kernel
theorem d1_25 : decode prog_37_method_2_code 25 = .ok (.bipush 48, 2) := by decide +kernel
theorem d1_27 : decode prog_37_method_2_code 27 = .ok (.if_icmp .lt 9, 3) := by decide +kernel
theorem d1_30 : decode prog_37_method_2_code 30 = .ok (.iload_n 0, 1) := by decide +kernel
theorem d1_31 : decode prog_37_method_2_code 31 = .ok (.bipush 57, 2) := by decide +kernel
theorem d1_33 : decode prog_37_method_2_code 33 = .ok (.if_icmp .le 15, 3) := by decide +kernel
theorem d1_36 : decode prog_37_method_2_code 36 = .ok (.iload_n 0, 1) := by decide +kernel
theorem d1_37 : decode prog_37_method_2_code 37 = .ok (.bipush 39, 2) := by decide +kernel
theorem d1_39 : decode prog_37_method_2_code 39 = .ok (.if_icmp .eq 9, 3) := by decide +kernel
theorem d1_42 : decode prog_37_method_2_code 42 = .ok (.iload_n 0, 1) := by decide +kernel
theorem d1_43 : decode prog_37_method_2_code 43 = .ok (.bipush 95, 2) := by decide +kernel
theorem d1_45 : decode prog_37_method_2_code 45 = .ok (.if_icmp .ne 7, 3) := by decide +kernel
theorem d1_48 : decode prog_37_method_2_code 48 = .ok (.iconst 1, 1) := by decide +kernel
theorem d1_49 : decode prog_37_method_2_code 49 = .ok (.goto 4, 3) := by decide +kernel
theorem d1_52 : decode prog_37_method_2_code 52 = .ok (.iconst 0, 1) := by decide +kernel
theorem d1_53 : decode prog_37_method_2_code 53 = .ok (.ireturn, 1) := by decide +kernel
theorem pn_1 : plainName "com/example/impatiens/impatiens/net/Names" = true := by first | (simp [plainName, overriddenIn]; done) | decide +kernel
theorem ef_1 (m : MethodId) (x0 : Int32) : entryFrame m #[(.int x0)] 1 = mkF m 0 #[.val (.int x0)] [] := by first | (simp [entryFrame, mkF, argsToLocals, Value.category]; done) | rfl
def f1_53 (t0 : Int32) : Int32 := (t0 &&& 1)
def f1_52 : Int32 := f1_53 (0 : Int32)
def f1_48 : Int32 := f1_53 (1 : Int32)
def f1_42 (x0 : Int32) : Int32 := if x0 = (95 : Int32) then f1_48 else f1_52
def f1_36 (x0 : Int32) : Int32 := if x0 = (39 : Int32) then f1_48 else f1_42 x0
def f1_30 (x0 : Int32) : Int32 := if (57 : Int32) < x0 then f1_36 x0 else f1_48
def f1_24 (x0 : Int32) : Int32 := if x0 < (48 : Int32) then f1_36 x0 else f1_30 x0
def f1_18 (x0 : Int32) : Int32 := if (90 : Int32) < x0 then f1_24 x0 else f1_48
def f1_12 (x0 : Int32) : Int32 := if x0 < (65 : Int32) then f1_24 x0 else f1_18 x0
def f1_6 (x0 : Int32) : Int32 := if (122 : Int32) < x0 then f1_12 x0 else f1_48
def f1_0 (x0 : Int32) : Int32 := if x0 < (97 : Int32) then f1_12 x0 else f1_6 x0
theorem d2_0 : decode method_2_code 0 = .ok (.iload_n 0, 1) := by decide +kernel
theorem d2_1 : decode method_2_code 1 = .ok (.ifCond .lt 10, 3) := by decide +kernel
theorem d2_4 : decode method_2_code 4 = .ok (.iload_n 0, 1) := by decide +kernel
theorem d2_5 : decode method_2_code 5 = .ok (.sipush 128, 3) := by decide +kernel
theorem d2_8 : decode method_2_code 8 = .ok (.if_icmp .lt 5, 3) := by decide +kernel
theorem d2_11 : decode method_2_code 11 = .ok (.iconst 0, 1) := by decide +kernel
theorem d2_12 : decode method_2_code 12 = .ok (.ireturn, 1) := by decide +kernel
theorem d2_13 : decode method_2_code 13 = .ok (.iload_n 0, 1) := by decide +kernel
theorem d2_14 : decode method_2_code 14 = .ok (.bipush 64, 2) := by decide +kernel
theorem d2_16 : decode method_2_code 16 = .ok (.if_icmp .ge 9, 3) := by decide +kernel
theorem d2_19 : decode method_2_code 19 = .ok (.ldc2_w 9, 3) := by decide +kernel
theorem d2_22 : decode method_2_code 22 = .ok (.goto 6, 3) := by decide +kernel
theorem d2_25 : decode method_2_code 25 = .ok (.ldc2_w 11, 3) := by decide +kernel
theorem d2_28 : decode method_2_code 28 = .ok (.lstore_n 1, 1) := by decide +kernel
theorem d2_29 : decode method_2_code 29 = .ok (.lload_n 1, 1) := by decide +kernel
theorem d2_30 : decode method_2_code 30 = .ok (.iload_n 0, 1) := by decide +kernel
theorem d2_31 : decode method_2_code 31 = .ok (.bipush 63, 2) := by decide +kernel
theorem d2_33 : decode method_2_code 33 = .ok (.iand, 1) := by decide +kernel
theorem d2_34 : decode method_2_code 34 = .ok (.lushr, 1) := by decide +kernel
theorem d2_35 : decode method_2_code 35 = .ok (.lconst 1, 1) := by decide +kernel
theorem d2_36 : decode method_2_code 36 = .ok (.land, 1) := by decide +kernel
theorem d2_37 : decode method_2_code 37 = .ok (.lconst 0, 1) := by decide +kernel
theorem d2_38 : decode method_2_code 38 = .ok (.lcmp, 1) := by decide +kernel
theorem d2_39 : decode method_2_code 39 = .ok (.ifCond .eq 7, 3) := by decide +kernel
theorem d2_42 : decode method_2_code 42 = .ok (.iconst 1, 1) := by decide +kernel
theorem d2_43 : decode method_2_code 43 = .ok (.goto 4, 3) := by decide +kernel
theorem d2_46 : decode method_2_code 46 = .ok (.iconst 0, 1) := by decide +kernel
theorem d2_47 : decode method_2_code 47 = .ok (.ireturn, 1) := by decide +kernel
theorem pn_2 : plainName "com/example/impatiens/impatiens/net/NamesIsPlainCharacterPinLaw" = true := by first | (simp [plainName, overriddenIn]; done) | decide +kernel
theorem ef_2 (m : MethodId) (x0 : Int32) : entryFrame m #[(.int x0)] 3 = mkF m 0 #[.val (.int x0), .unset, .unset] [] := by first | (simp [entryFrame, mkF, argsToLocals, Value.category]; done) | rfl
def f2_47 (t0 : Int32) : Int32 := (t0 &&& 1)
def f2_46 : Int32 := f2_47 (0 : Int32)
def f2_42 : Int32 := f2_47 (1 : Int32)
def f2_28 (x0 : Int32) (t0 : Int64) : Int32 := if (lcmpW (((t0.toUInt64 >>> ((x0 &&& (63 : Int32)) &&& 0x3f).toInt64.toUInt64).toInt64) &&& (1 : Int64)) (0 : Int64)) = (0 : Int32) then f2_46 else f2_42
def f2_25 (x0 : Int32) : Int32 := f2_28 x0 (576460745995190270 : Int64)
def f2_19 (x0 : Int32) : Int32 := f2_28 x0 (287949450930814976 : Int64)
def f2_13 (x0 : Int32) : Int32 := if x0 < (64 : Int32) then f2_19 x0 else f2_25 x0
def f2_11 : Int32 := ((0 : Int32) &&& 1)
def f2_4 (x0 : Int32) : Int32 := if x0 < (128 : Int32) then f2_13 x0 else f2_11
def f2_0 (x0 : Int32) : Int32 := if x0 < (0 : Int32) then f2_11 else f2_4 x0
theorem pn_0 : plainName "com/example/impatiens/impatiens/net/NamesIsPlainCharacterPinLaw" = true := by first | (simp [plainName, overriddenIn]; done) | decide +kernel
theorem ef_0 (m : MethodId) (x0 : Int32) : entryFrame m #[(.int x0)] maxLocals = mkF m 0 #[.val (.int x0), .unset, .unset, .unset] [] := by first | (simp [entryFrame, mkF, argsToLocals, Value.category, maxLocals]; done) | rfl
def f0_50 (t0 : Int32) : Int32 := (t0 &&& 1)
def f0_49 : Int32 := f0_50 (0 : Int32)
def f0_45 : Int32 := f0_50 (1 : Int32)
def f0_34 (x3 : Int32) : Int32 := if (f1_0 x3) = (f2_0 x3) then f0_45 else f0_49
def f0_23 (x2 : Int32) (x3 : Int32) : Int32 := if (f1_0 x2) = (f2_0 x2) then f0_34 x3 else f0_49
def f0_0 (x0 : Int32) : Int32 := if (f1_0 x0) = (f2_0 x0) then f0_23 (x0 &&& (127 : Int32)) (x0 &&& (65535 : Int32)) else f0_49
-- the plain law: no program in sight
theorem own_small : ∀ i : Fin 128, f1_0 (Int32.ofNat i.val) = f2_0 (Int32.ofNat i.val) := by decide +kernel
theorem own_same (c : Int32) : f1_0 c = f2_0 c := by
  by_cases h : 0 ≤ c.toInt ∧ c.toInt < 128
  · have e : c = Int32.ofNat c.toInt.toNat := by
      apply Int32.toInt_inj.mp
      rw [Int32.toInt_ofNat_of_lt (by omega)]
      omega
    have := own_small ⟨c.toInt.toNat, by omega⟩
    rw [e]; exact this
  · simp only [f1_0, f1_6, f1_12, f1_18, f1_24, f1_30, f1_36, f1_42, f1_48, f1_52, f1_53, f2_0, f2_4, f2_11]
    simp only [Int32.lt_iff_toInt_lt, ← Int32.toInt_inj, Int32.reduceToInt]
    repeat' split
    all_goals first
      | rfl
      | (exfalso; omega)
theorem own_law (c : Int32) : f0_0 c = 1 := by
  simp only [f0_0, f0_23, f0_34, own_same, if_true]
  decide
-- the walks
set_option maxRecDepth 65536 in
set_option maxHeartbeats 40000000 in
theorem rm1 (l : Launch) (Z : State) (a0 : Array Value) (hw : ∀ d ∈ tables_1, d.before a0 Z = true) (ws : List Jvm.Cond) (p0 : Int32) (h0 : Heap) (n0 : Nat) (Z0 : n0 ≤ h0.size) :
    MetFree l (⟨"com/example/impatiens/impatiens/net/Names", "isPlainCharacter", "(I)Z"⟩ : MethodName) (head1 (Jvm.Cond.code (⟨"com/example/impatiens/impatiens/net/Names", "isPlainCharacter", "(I)Z"⟩ : MethodName) prog_37_method_2_code 1 (some .boolean) :: ws) ({ frames := 0, cells := 0, slots := 0, locals := 0 } : Room)) (fun a U => a = #[(.int p0)] ∧ Z.Warmed39 U.vm ∧ U.heap = h0) (fun _ _ _ _ _ => True) (fun _ U o U' => ∃ v L, o = .returned v ∧ own_Pure ((.int (f1_0 p0))) h0 n0 v U'.heap L ∧ FrameEnd U o U' L ({ frames := 0, cells := 0, slots := 0, locals := 0 } : Room).cells ({ frames := 0, cells := 0, slots := 0, locals := 0 } : Room).slots) := by
  refine MetFree.of_bodySF (plainFor_of_name pn_1) hisR ?_
  intro p e s m args below meth c s₁ Bd hml0 hP hK
  obtain ⟨rfl, hZ, hh0⟩ := hP
  have hx := Bd.exec
  have hby := Bd.bytes
  have hml : c.maxLocals = 1 := hml0
  have hown : s.vm.findClass "com/example/impatiens/impatiens/net/Names" = some m.cls := findClass_of_methodNamed Bd.named
  have X00 : Stand p l e ({ frames := 0, cells := 0, slots := 0, locals := 0 } : Room) s m #[(.int p0)] below meth c s₁ [] 0 0 := Stand.of_body Bd
  have e00 : s₁.heap = h0 := by rw [← hh0, Bd.state]; rfl
  have B53 : ∀ (T0 : State) (locs : List Loc) (x0 : Int32) (t0 : Int32), Stand p l e ({ frames := 0, cells := 0, slots := 0, locals := 0 } : Room) s m #[(.int p0)] below meth c T0 locs 0 0 → T0.heap = h0 → Fr n0 locs → f1_53 t0 = f1_0 p0 → own_Goes p e below s (own_Pure ((.int (f1_0 p0))) h0 n0) ({ frames := 0, cells := 0, slots := 0, locals := 0 } : Room).cells ({ frames := 0, cells := 0, slots := 0, locals := 0 } : Room).slots T0 (mkF m 53 #[.val (.int x0)] [(.int t0)]) := by
    intro T0 locs x0 t0   X0 e0 N0 hf
    exact own_ret X0 Bd (v := some (.int (t0 &&& 1))) (fun q => by rw [Bd.returns] at q; cases q) (fun fs q => retN X0 hx (t := .boolean) Bd.returns (by simp) (hb hby d1_53) q) (show own_Pure ((.int (f1_0 p0))) h0 n0 _ _ _ from ⟨congrArg (fun z => some (Value.int z)) hf, N0, e0⟩) (by decide) (by decide)
  have B52 : ∀ (T0 : State) (locs : List Loc) (x0 : Int32), Stand p l e ({ frames := 0, cells := 0, slots := 0, locals := 0 } : Room) s m #[(.int p0)] below meth c T0 locs 0 0 → T0.heap = h0 → Fr n0 locs → f1_52 = f1_0 p0 → own_Goes p e below s (own_Pure ((.int (f1_0 p0))) h0 n0) ({ frames := 0, cells := 0, slots := 0, locals := 0 } : Room).cells ({ frames := 0, cells := 0, slots := 0, locals := 0 } : Room).slots T0 (mkF m 52 #[.val (.int x0)] []) := by
    intro T0 locs x0   X0 e0 N0 hf
    refine own_step (T' := T0) (g' := (mkF m 53 #[.val (.int x0)] [(.int (0 : Int32))])) (fun _ k => XS.iconst X0.here hx rfl (hb hby d1_52) k) ?_
    exact B53 T0 _ x0 (0 : Int32)   X0 e0 N0 hf
  have B48 : ∀ (T0 : State) (locs : List Loc) (x0 : Int32), Stand p l e ({ frames := 0, cells := 0, slots := 0, locals := 0 } : Room) s m #[(.int p0)] below meth c T0 locs 0 0 → T0.heap = h0 → Fr n0 locs → f1_48 = f1_0 p0 → own_Goes p e below s (own_Pure ((.int (f1_0 p0))) h0 n0) ({ frames := 0, cells := 0, slots := 0, locals := 0 } : Room).cells ({ frames := 0, cells := 0, slots := 0, locals := 0 } : Room).slots T0 (mkF m 48 #[.val (.int x0)] []) := by
    intro T0 locs x0   X0 e0 N0 hf
    refine own_step (T' := T0) (g' := (mkF m 49 #[.val (.int x0)] [(.int (1 : Int32))])) (fun _ k => XS.iconst X0.here hx rfl (hb hby d1_48) k) ?_
    refine own_step (T' := T0) (g' := (mkF m 53 #[.val (.int x0)] [(.int (1 : Int32))])) (fun _ k => XS.goto X0.here hx rfl (pc0 := 49) (pc' := 53) rfl (hb hby d1_49) (by decide) (by decide) k) ?_
    exact B53 T0 _ x0 (1 : Int32)   X0 e0 N0 hf
  have B42 : ∀ (T0 : State) (locs : List Loc) (x0 : Int32), Stand p l e ({ frames := 0, cells := 0, slots := 0, locals := 0 } : Room) s m #[(.int p0)] below meth c T0 locs 0 0 → T0.heap = h0 → Fr n0 locs → f1_42 x0 = f1_0 p0 → own_Goes p e below s (own_Pure ((.int (f1_0 p0))) h0 n0) ({ frames := 0, cells := 0, slots := 0, locals := 0 } : Room).cells ({ frames := 0, cells := 0, slots := 0, locals := 0 } : Room).slots T0 (mkF m 42 #[.val (.int x0)] []) := by
    intro T0 locs x0   X0 e0 N0 hf
    refine own_step (T' := T0) (g' := (mkF m 43 #[.val (.int x0)] [(.int x0)])) (fun _ k => XS.iloadN X0.here hx rfl (hb hby d1_42) rfl k) ?_
    refine own_step (T' := T0) (g' := (mkF m 45 #[.val (.int x0)] [(.int (95 : Int32)), (.int x0)])) (fun _ k => XS.bipush X0.here hx rfl (hb hby d1_43) k) ?_
    by_cases hc : x0 = (95 : Int32)
    · refine own_step (T' := T0) (g' := (mkF m 48 #[.val (.int x0)] [])) (fun _ k => XS.icmpNo X0.here hx rfl (hb hby d1_45) rfl (teq hc).2 k) ?_
      exact B48 T0 _ x0   X0 e0 N0 ((if_pos hc).symm.trans hf)
    · refine own_step (T' := T0) (g' := (mkF m 52 #[.val (.int x0)] [])) (fun _ k => XS.icmpYes X0.here hx rfl (pc0 := 45) (pc' := 52) rfl (hb hby d1_45) rfl (feq hc).2 (by decide) (by decide) k) ?_
      exact B52 T0 _ x0   X0 e0 N0 ((if_neg hc).symm.trans hf)
  have B36 : ∀ (T0 : State) (locs : List Loc) (x0 : Int32), Stand p l e ({ frames := 0, cells := 0, slots := 0, locals := 0 } : Room) s m #[(.int p0)] below meth c T0 locs 0 0 → T0.heap = h0 → Fr n0 locs → f1_36 x0 = f1_0 p0 → own_Goes p e below s (own_Pure ((.int (f1_0 p0))) h0 n0) ({ frames := 0, cells := 0, slots := 0, locals := 0 } : Room).cells ({ frames := 0, cells := 0, slots := 0, locals := 0 } : Room).slots T0 (mkF m 36 #[.val (.int x0)] []) := by
    intro T0 locs x0   X0 e0 N0 hf
    refine own_step (T' := T0) (g' := (mkF m 37 #[.val (.int x0)] [(.int x0)])) (fun _ k => XS.iloadN X0.here hx rfl (hb hby d1_36) rfl k) ?_
    refine own_step (T' := T0) (g' := (mkF m 39 #[.val (.int x0)] [(.int (39 : Int32)), (.int x0)])) (fun _ k => XS.bipush X0.here hx rfl (hb hby d1_37) k) ?_
    by_cases hc : x0 = (39 : Int32)
    · refine own_step (T' := T0) (g' := (mkF m 48 #[.val (.int x0)] [])) (fun _ k => XS.icmpYes X0.here hx rfl (pc0 := 39) (pc' := 48) rfl (hb hby d1_39) rfl (teq hc).1 (by decide) (by decide) k) ?_
      exact B48 T0 _ x0   X0 e0 N0 ((if_pos hc).symm.trans hf)
    · refine own_step (T' := T0) (g' := (mkF m 42 #[.val (.int x0)] [])) (fun _ k => XS.icmpNo X0.here hx rfl (hb hby d1_39) rfl (feq hc).1 k) ?_
      exact B42 T0 _ x0   X0 e0 N0 ((if_neg hc).symm.trans hf)
  have B30 : ∀ (T0 : State) (locs : List Loc) (x0 : Int32), Stand p l e ({ frames := 0, cells := 0, slots := 0, locals := 0 } : Room) s m #[(.int p0)] below meth c T0 locs 0 0 → T0.heap = h0 → Fr n0 locs → f1_30 x0 = f1_0 p0 → own_Goes p e below s (own_Pure ((.int (f1_0 p0))) h0 n0) ({ frames := 0, cells := 0, slots := 0, locals := 0 } : Room).cells ({ frames := 0, cells := 0, slots := 0, locals := 0 } : Room).slots T0 (mkF m 30 #[.val (.int x0)] []) := by
    intro T0 locs x0   X0 e0 N0 hf
    refine own_step (T' := T0) (g' := (mkF m 31 #[.val (.int x0)] [(.int x0)])) (fun _ k => XS.iloadN X0.here hx rfl (hb hby d1_30) rfl k) ?_
    refine own_step (T' := T0) (g' := (mkF m 33 #[.val (.int x0)] [(.int (57 : Int32)), (.int x0)])) (fun _ k => XS.bipush X0.here hx rfl (hb hby d1_31) k) ?_
    by_cases hc : (57 : Int32) < x0
    · refine own_step (T' := T0) (g' := (mkF m 36 #[.val (.int x0)] [])) (fun _ k => XS.icmpNo X0.here hx rfl (hb hby d1_33) rfl (tlt hc).2.2.2 k) ?_
      exact B36 T0 _ x0   X0 e0 N0 ((if_pos hc).symm.trans hf)
    · refine own_step (T' := T0) (g' := (mkF m 48 #[.val (.int x0)] [])) (fun _ k => XS.icmpYes X0.here hx rfl (pc0 := 33) (pc' := 48) rfl (hb hby d1_33) rfl (flt hc).2.2.2 (by decide) (by decide) k) ?_
      exact B48 T0 _ x0   X0 e0 N0 ((if_neg hc).symm.trans hf)
  have B24 : ∀ (T0 : State) (locs : List Loc) (x0 : Int32), Stand p l e ({ frames := 0, cells := 0, slots := 0, locals := 0 } : Room) s m #[(.int p0)] below meth c T0 locs 0 0 → T0.heap = h0 → Fr n0 locs → f1_24 x0 = f1_0 p0 → own_Goes p e below s (own_Pure ((.int (f1_0 p0))) h0 n0) ({ frames := 0, cells := 0, slots := 0, locals := 0 } : Room).cells ({ frames := 0, cells := 0, slots := 0, locals := 0 } : Room).slots T0 (mkF m 24 #[.val (.int x0)] []) := by
    intro T0 locs x0   X0 e0 N0 hf
    refine own_step (T' := T0) (g' := (mkF m 25 #[.val (.int x0)] [(.int x0)])) (fun _ k => XS.iloadN X0.here hx rfl (hb hby d1_24) rfl k) ?_
    refine own_step (T' := T0) (g' := (mkF m 27 #[.val (.int x0)] [(.int (48 : Int32)), (.int x0)])) (fun _ k => XS.bipush X0.here hx rfl (hb hby d1_25) k) ?_
    by_cases hc : x0 < (48 : Int32)
    · refine own_step (T' := T0) (g' := (mkF m 36 #[.val (.int x0)] [])) (fun _ k => XS.icmpYes X0.here hx rfl (pc0 := 27) (pc' := 36) rfl (hb hby d1_27) rfl (tlt hc).1 (by decide) (by decide) k) ?_
      exact B36 T0 _ x0   X0 e0 N0 ((if_pos hc).symm.trans hf)
    · refine own_step (T' := T0) (g' := (mkF m 30 #[.val (.int x0)] [])) (fun _ k => XS.icmpNo X0.here hx rfl (hb hby d1_27) rfl (flt hc).1 k) ?_
      exact B30 T0 _ x0   X0 e0 N0 ((if_neg hc).symm.trans hf)
  have B18 : ∀ (T0 : State) (locs : List Loc) (x0 : Int32), Stand p l e ({ frames := 0, cells := 0, slots := 0, locals := 0 } : Room) s m #[(.int p0)] below meth c T0 locs 0 0 → T0.heap = h0 → Fr n0 locs → f1_18 x0 = f1_0 p0 → own_Goes p e below s (own_Pure ((.int (f1_0 p0))) h0 n0) ({ frames := 0, cells := 0, slots := 0, locals := 0 } : Room).cells ({ frames := 0, cells := 0, slots := 0, locals := 0 } : Room).slots T0 (mkF m 18 #[.val (.int x0)] []) := by
    intro T0 locs x0   X0 e0 N0 hf
    refine own_step (T' := T0) (g' := (mkF m 19 #[.val (.int x0)] [(.int x0)])) (fun _ k => XS.iloadN X0.here hx rfl (hb hby d1_18) rfl k) ?_
    refine own_step (T' := T0) (g' := (mkF m 21 #[.val (.int x0)] [(.int (90 : Int32)), (.int x0)])) (fun _ k => XS.bipush X0.here hx rfl (hb hby d1_19) k) ?_
    by_cases hc : (90 : Int32) < x0
    · refine own_step (T' := T0) (g' := (mkF m 24 #[.val (.int x0)] [])) (fun _ k => XS.icmpNo X0.here hx rfl (hb hby d1_21) rfl (tlt hc).2.2.2 k) ?_
      exact B24 T0 _ x0   X0 e0 N0 ((if_pos hc).symm.trans hf)
    · refine own_step (T' := T0) (g' := (mkF m 48 #[.val (.int x0)] [])) (fun _ k => XS.icmpYes X0.here hx rfl (pc0 := 21) (pc' := 48) rfl (hb hby d1_21) rfl (flt hc).2.2.2 (by decide) (by decide) k) ?_
      exact B48 T0 _ x0   X0 e0 N0 ((if_neg hc).symm.trans hf)
  have B12 : ∀ (T0 : State) (locs : List Loc) (x0 : Int32), Stand p l e ({ frames := 0, cells := 0, slots := 0, locals := 0 } : Room) s m #[(.int p0)] below meth c T0 locs 0 0 → T0.heap = h0 → Fr n0 locs → f1_12 x0 = f1_0 p0 → own_Goes p e below s (own_Pure ((.int (f1_0 p0))) h0 n0) ({ frames := 0, cells := 0, slots := 0, locals := 0 } : Room).cells ({ frames := 0, cells := 0, slots := 0, locals := 0 } : Room).slots T0 (mkF m 12 #[.val (.int x0)] []) := by
    intro T0 locs x0   X0 e0 N0 hf
    refine own_step (T' := T0) (g' := (mkF m 13 #[.val (.int x0)] [(.int x0)])) (fun _ k => XS.iloadN X0.here hx rfl (hb hby d1_12) rfl k) ?_
    refine own_step (T' := T0) (g' := (mkF m 15 #[.val (.int x0)] [(.int (65 : Int32)), (.int x0)])) (fun _ k => XS.bipush X0.here hx rfl (hb hby d1_13) k) ?_
    by_cases hc : x0 < (65 : Int32)
    · refine own_step (T' := T0) (g' := (mkF m 24 #[.val (.int x0)] [])) (fun _ k => XS.icmpYes X0.here hx rfl (pc0 := 15) (pc' := 24) rfl (hb hby d1_15) rfl (tlt hc).1 (by decide) (by decide) k) ?_
      exact B24 T0 _ x0   X0 e0 N0 ((if_pos hc).symm.trans hf)
    · refine own_step (T' := T0) (g' := (mkF m 18 #[.val (.int x0)] [])) (fun _ k => XS.icmpNo X0.here hx rfl (hb hby d1_15) rfl (flt hc).1 k) ?_
      exact B18 T0 _ x0   X0 e0 N0 ((if_neg hc).symm.trans hf)
  have B6 : ∀ (T0 : State) (locs : List Loc) (x0 : Int32), Stand p l e ({ frames := 0, cells := 0, slots := 0, locals := 0 } : Room) s m #[(.int p0)] below meth c T0 locs 0 0 → T0.heap = h0 → Fr n0 locs → f1_6 x0 = f1_0 p0 → own_Goes p e below s (own_Pure ((.int (f1_0 p0))) h0 n0) ({ frames := 0, cells := 0, slots := 0, locals := 0 } : Room).cells ({ frames := 0, cells := 0, slots := 0, locals := 0 } : Room).slots T0 (mkF m 6 #[.val (.int x0)] []) := by
    intro T0 locs x0   X0 e0 N0 hf
    refine own_step (T' := T0) (g' := (mkF m 7 #[.val (.int x0)] [(.int x0)])) (fun _ k => XS.iloadN X0.here hx rfl (hb hby d1_6) rfl k) ?_
    refine own_step (T' := T0) (g' := (mkF m 9 #[.val (.int x0)] [(.int (122 : Int32)), (.int x0)])) (fun _ k => XS.bipush X0.here hx rfl (hb hby d1_7) k) ?_
    by_cases hc : (122 : Int32) < x0
    · refine own_step (T' := T0) (g' := (mkF m 12 #[.val (.int x0)] [])) (fun _ k => XS.icmpNo X0.here hx rfl (hb hby d1_9) rfl (tlt hc).2.2.2 k) ?_
      exact B12 T0 _ x0   X0 e0 N0 ((if_pos hc).symm.trans hf)
    · refine own_step (T' := T0) (g' := (mkF m 48 #[.val (.int x0)] [])) (fun _ k => XS.icmpYes X0.here hx rfl (pc0 := 9) (pc' := 48) rfl (hb hby d1_9) rfl (flt hc).2.2.2 (by decide) (by decide) k) ?_
      exact B48 T0 _ x0   X0 e0 N0 ((if_neg hc).symm.trans hf)
  have B0 : ∀ (T0 : State) (locs : List Loc) (x0 : Int32), Stand p l e ({ frames := 0, cells := 0, slots := 0, locals := 0 } : Room) s m #[(.int p0)] below meth c T0 locs 0 0 → T0.heap = h0 → Fr n0 locs → f1_0 x0 = f1_0 p0 → own_Goes p e below s (own_Pure ((.int (f1_0 p0))) h0 n0) ({ frames := 0, cells := 0, slots := 0, locals := 0 } : Room).cells ({ frames := 0, cells := 0, slots := 0, locals := 0 } : Room).slots T0 (mkF m 0 #[.val (.int x0)] []) := by
    intro T0 locs x0   X0 e0 N0 hf
    refine own_step (T' := T0) (g' := (mkF m 1 #[.val (.int x0)] [(.int x0)])) (fun _ k => XS.iloadN X0.here hx rfl (hb hby d1_0) rfl k) ?_
    refine own_step (T' := T0) (g' := (mkF m 3 #[.val (.int x0)] [(.int (97 : Int32)), (.int x0)])) (fun _ k => XS.bipush X0.here hx rfl (hb hby d1_1) k) ?_
    by_cases hc : x0 < (97 : Int32)
    · refine own_step (T' := T0) (g' := (mkF m 12 #[.val (.int x0)] [])) (fun _ k => XS.icmpYes X0.here hx rfl (pc0 := 3) (pc' := 12) rfl (hb hby d1_3) rfl (tlt hc).1 (by decide) (by decide) k) ?_
      exact B12 T0 _ x0   X0 e0 N0 ((if_pos hc).symm.trans hf)
    · refine own_step (T' := T0) (g' := (mkF m 6 #[.val (.int x0)] [])) (fun _ k => XS.icmpNo X0.here hx rfl (hb hby d1_3) rfl (flt hc).1 k) ?_
      exact B6 T0 _ x0   X0 e0 N0 ((if_neg hc).symm.trans hf)
  have hB := B0 s₁ [] p0  X00 e00 (Fr.nil n0) rfl
  obtain ⟨s₂, o, q1, q2, q3, v, L, q4, q5, q6⟩ := hB
  exact ⟨s₂, o, castTop (ef_1 m p0) q1, q2, q3, v, L, q4, q5, q6⟩
set_option maxRecDepth 65536 in
set_option maxHeartbeats 40000000 in
theorem rm2 (l : Launch) (Z : State) (a0 : Array Value) (hw : ∀ d ∈ tables_1, d.before a0 Z = true) (ws : List Jvm.Cond) (p0 : Int32) (h0 : Heap) (n0 : Nat) (Z0 : n0 ≤ h0.size) :
    MetFree l (⟨"com/example/impatiens/impatiens/net/NamesIsPlainCharacterPinLaw", "reference", "(I)Z"⟩ : MethodName) (head1 (Jvm.Cond.code (⟨"com/example/impatiens/impatiens/net/NamesIsPlainCharacterPinLaw", "reference", "(I)Z"⟩ : MethodName) method_2_code 3 (some .boolean) :: ws) ({ frames := 0, cells := 0, slots := 0, locals := 0 } : Room)) (fun a U => a = #[(.int p0)] ∧ Z.Warmed39 U.vm ∧ U.heap = h0) (fun _ _ _ _ _ => True) (fun _ U o U' => ∃ v L, o = .returned v ∧ own_Pure ((.int (f2_0 p0))) h0 n0 v U'.heap L ∧ FrameEnd U o U' L ({ frames := 0, cells := 0, slots := 0, locals := 0 } : Room).cells ({ frames := 0, cells := 0, slots := 0, locals := 0 } : Room).slots) := by
  refine MetFree.of_bodySF (plainFor_of_name pn_2) hisR ?_
  intro p e s m args below meth c s₁ Bd hml0 hP hK
  obtain ⟨rfl, hZ, hh0⟩ := hP
  have hx := Bd.exec
  have hby := Bd.bytes
  have hml : c.maxLocals = 3 := hml0
  have hown : s.vm.findClass "com/example/impatiens/impatiens/net/NamesIsPlainCharacterPinLaw" = some m.cls := findClass_of_methodNamed Bd.named
  have X00 : Stand p l e ({ frames := 0, cells := 0, slots := 0, locals := 0 } : Room) s m #[(.int p0)] below meth c s₁ [] 0 0 := Stand.of_body Bd
  have e00 : s₁.heap = h0 := by rw [← hh0, Bd.state]; rfl
  have B47 : ∀ (T0 : State) (locs : List Loc) (x0 : Int32) (x1 : Int64) (t0 : Int32), Stand p l e ({ frames := 0, cells := 0, slots := 0, locals := 0 } : Room) s m #[(.int p0)] below meth c T0 locs 0 0 → T0.heap = h0 → Fr n0 locs → f2_47 t0 = f2_0 p0 → own_Goes p e below s (own_Pure ((.int (f2_0 p0))) h0 n0) ({ frames := 0, cells := 0, slots := 0, locals := 0 } : Room).cells ({ frames := 0, cells := 0, slots := 0, locals := 0 } : Room).slots T0 (mkF m 47 #[.val (.int x0), .val (.long x1), .second] [(.int t0)]) := by
    intro T0 locs x0 x1 t0   X0 e0 N0 hf
    exact own_ret X0 Bd (v := some (.int (t0 &&& 1))) (fun q => by rw [Bd.returns] at q; cases q) (fun fs q => retN X0 hx (t := .boolean) Bd.returns (by simp) (hb hby d2_47) q) (show own_Pure ((.int (f2_0 p0))) h0 n0 _ _ _ from ⟨congrArg (fun z => some (Value.int z)) hf, N0, e0⟩) (by decide) (by decide)
  have B46 : ∀ (T0 : State) (locs : List Loc) (x0 : Int32) (x1 : Int64), Stand p l e ({ frames := 0, cells := 0, slots := 0, locals := 0 } : Room) s m #[(.int p0)] below meth c T0 locs 0 0 → T0.heap = h0 → Fr n0 locs → f2_46 = f2_0 p0 → own_Goes p e below s (own_Pure ((.int (f2_0 p0))) h0 n0) ({ frames := 0, cells := 0, slots := 0, locals := 0 } : Room).cells ({ frames := 0, cells := 0, slots := 0, locals := 0 } : Room).slots T0 (mkF m 46 #[.val (.int x0), .val (.long x1), .second] []) := by
    intro T0 locs x0 x1   X0 e0 N0 hf
    refine own_step (T' := T0) (g' := (mkF m 47 #[.val (.int x0), .val (.long x1), .second] [(.int (0 : Int32))])) (fun _ k => XS.iconst X0.here hx rfl (hb hby d2_46) k) ?_
    exact B47 T0 _ x0 x1 (0 : Int32)   X0 e0 N0 hf
  have B42 : ∀ (T0 : State) (locs : List Loc) (x0 : Int32) (x1 : Int64), Stand p l e ({ frames := 0, cells := 0, slots := 0, locals := 0 } : Room) s m #[(.int p0)] below meth c T0 locs 0 0 → T0.heap = h0 → Fr n0 locs → f2_42 = f2_0 p0 → own_Goes p e below s (own_Pure ((.int (f2_0 p0))) h0 n0) ({ frames := 0, cells := 0, slots := 0, locals := 0 } : Room).cells ({ frames := 0, cells := 0, slots := 0, locals := 0 } : Room).slots T0 (mkF m 42 #[.val (.int x0), .val (.long x1), .second] []) := by
    intro T0 locs x0 x1   X0 e0 N0 hf
    refine own_step (T' := T0) (g' := (mkF m 43 #[.val (.int x0), .val (.long x1), .second] [(.int (1 : Int32))])) (fun _ k => XS.iconst X0.here hx rfl (hb hby d2_42) k) ?_
    refine own_step (T' := T0) (g' := (mkF m 47 #[.val (.int x0), .val (.long x1), .second] [(.int (1 : Int32))])) (fun _ k => XS.goto X0.here hx rfl (pc0 := 43) (pc' := 47) rfl (hb hby d2_43) (by decide) (by decide) k) ?_
    exact B47 T0 _ x0 x1 (1 : Int32)   X0 e0 N0 hf
  have B28 : ∀ (T0 : State) (locs : List Loc) (x0 : Int32) (t0 : Int64), Stand p l e ({ frames := 0, cells := 0, slots := 0, locals := 0 } : Room) s m #[(.int p0)] below meth c T0 locs 0 0 → T0.heap = h0 → Fr n0 locs → f2_28 x0 t0 = f2_0 p0 → own_Goes p e below s (own_Pure ((.int (f2_0 p0))) h0 n0) ({ frames := 0, cells := 0, slots := 0, locals := 0 } : Room).cells ({ frames := 0, cells := 0, slots := 0, locals := 0 } : Room).slots T0 (mkF m 28 #[.val (.int x0), .unset, .unset] [(.long t0)]) := by
    intro T0 locs x0 t0   X0 e0 N0 hf
    refine own_step (T' := T0) (g' := (mkF m 29 #[.val (.int x0), .val (.long t0), .second] [])) (fun _ k => XS.lstoreN X0.here hx rfl (hb hby d2_28) rfl (l' := #[.val (.int x0), .val (.long t0), .second]) rfl k) ?_
    refine own_step (T' := T0) (g' := (mkF m 30 #[.val (.int x0), .val (.long t0), .second] [(.long t0)])) (fun _ k => XS.lloadN X0.here hx rfl (hb hby d2_29) rfl k) ?_
    refine own_step (T' := T0) (g' := (mkF m 31 #[.val (.int x0), .val (.long t0), .second] [(.int x0), (.long t0)])) (fun _ k => XS.iloadN X0.here hx rfl (hb hby d2_30) rfl k) ?_
    refine own_step (T' := T0) (g' := (mkF m 33 #[.val (.int x0), .val (.long t0), .second] [(.int (63 : Int32)), (.int x0), (.long t0)])) (fun _ k => XS.bipush X0.here hx rfl (hb hby d2_31) k) ?_
    refine own_step (T' := T0) (g' := (mkF m 34 #[.val (.int x0), .val (.long t0), .second] [(.int (x0 &&& (63 : Int32))), (.long t0)])) (fun _ k => XS.iand X0.here hx rfl (hb hby d2_33) rfl k) ?_
    refine own_step (T' := T0) (g' := (mkF m 35 #[.val (.int x0), .val (.long t0), .second] [(.long ((t0.toUInt64 >>> ((x0 &&& (63 : Int32)) &&& 0x3f).toInt64.toUInt64).toInt64))])) (fun _ k => XS.lushr X0.here hx rfl (hb hby d2_34) rfl k) ?_
    refine own_step (T' := T0) (g' := (mkF m 36 #[.val (.int x0), .val (.long t0), .second] [(.long (1 : Int64)), (.long ((t0.toUInt64 >>> ((x0 &&& (63 : Int32)) &&& 0x3f).toInt64.toUInt64).toInt64))])) (fun _ k => XS.lconst X0.here hx rfl (hb hby d2_35) k) ?_
    refine own_step (T' := T0) (g' := (mkF m 37 #[.val (.int x0), .val (.long t0), .second] [(.long (((t0.toUInt64 >>> ((x0 &&& (63 : Int32)) &&& 0x3f).toInt64.toUInt64).toInt64) &&& (1 : Int64)))])) (fun _ k => XS.land X0.here hx rfl (hb hby d2_36) rfl k) ?_
    refine own_step (T' := T0) (g' := (mkF m 38 #[.val (.int x0), .val (.long t0), .second] [(.long (0 : Int64)), (.long (((t0.toUInt64 >>> ((x0 &&& (63 : Int32)) &&& 0x3f).toInt64.toUInt64).toInt64) &&& (1 : Int64)))])) (fun _ k => XS.lconst X0.here hx rfl (hb hby d2_37) k) ?_
    refine own_step (T' := T0) (g' := (mkF m 39 #[.val (.int x0), .val (.long t0), .second] [(.int (lcmpW (((t0.toUInt64 >>> ((x0 &&& (63 : Int32)) &&& 0x3f).toInt64.toUInt64).toInt64) &&& (1 : Int64)) (0 : Int64)))])) (fun _ k => XS.lcmp X0.here hx rfl (hb hby d2_38) rfl k) ?_
    by_cases hc : (lcmpW (((t0.toUInt64 >>> ((x0 &&& (63 : Int32)) &&& 0x3f).toInt64.toUInt64).toInt64) &&& (1 : Int64)) (0 : Int64)) = (0 : Int32)
    · refine own_step (T' := T0) (g' := (mkF m 46 #[.val (.int x0), .val (.long t0), .second] [])) (fun _ k => XS.ifYes X0.here hx rfl (pc0 := 39) (pc' := 46) rfl (hb hby d2_39) rfl ((if0 _ _).trans (teq hc).1) (by decide) (by decide) k) ?_
      exact B46 T0 _ x0 t0   X0 e0 N0 ((if_pos hc).symm.trans hf)
    · refine own_step (T' := T0) (g' := (mkF m 42 #[.val (.int x0), .val (.long t0), .second] [])) (fun _ k => XS.ifNo X0.here hx rfl (hb hby d2_39) rfl ((if0 _ _).trans (feq hc).1) k) ?_
      exact B42 T0 _ x0 t0   X0 e0 N0 ((if_neg hc).symm.trans hf)
  have B25 : ∀ (T0 : State) (locs : List Loc) (x0 : Int32), Stand p l e ({ frames := 0, cells := 0, slots := 0, locals := 0 } : Room) s m #[(.int p0)] below meth c T0 locs 0 0 → T0.heap = h0 → Fr n0 locs → f2_25 x0 = f2_0 p0 → own_Goes p e below s (own_Pure ((.int (f2_0 p0))) h0 n0) ({ frames := 0, cells := 0, slots := 0, locals := 0 } : Room).cells ({ frames := 0, cells := 0, slots := 0, locals := 0 } : Room).slots T0 (mkF m 25 #[.val (.int x0), .unset, .unset] []) := by
    intro T0 locs x0   X0 e0 N0 hf
    refine own_step (T' := T0) (g' := (mkF m 28 #[.val (.int x0), .unset, .unset] [(.long (576460745995190270 : Int64))])) (fun _ k => X0.ldc2Long hx hown (mvT hZ (hw _ (List.mem_of_getElem? (i := 10) rfl))) (g := (mkF m 25 #[.val (.int x0), .unset, .unset] [])) rfl (hb hby d2_25) _ k) ?_
    exact B28 T0 _ x0 (576460745995190270 : Int64)   X0 e0 N0 hf
  have B19 : ∀ (T0 : State) (locs : List Loc) (x0 : Int32), Stand p l e ({ frames := 0, cells := 0, slots := 0, locals := 0 } : Room) s m #[(.int p0)] below meth c T0 locs 0 0 → T0.heap = h0 → Fr n0 locs → f2_19 x0 = f2_0 p0 → own_Goes p e below s (own_Pure ((.int (f2_0 p0))) h0 n0) ({ frames := 0, cells := 0, slots := 0, locals := 0 } : Room).cells ({ frames := 0, cells := 0, slots := 0, locals := 0 } : Room).slots T0 (mkF m 19 #[.val (.int x0), .unset, .unset] []) := by
    intro T0 locs x0   X0 e0 N0 hf
    refine own_step (T' := T0) (g' := (mkF m 22 #[.val (.int x0), .unset, .unset] [(.long (287949450930814976 : Int64))])) (fun _ k => X0.ldc2Long hx hown (mvT hZ (hw _ (List.mem_of_getElem? (i := 9) rfl))) (g := (mkF m 19 #[.val (.int x0), .unset, .unset] [])) rfl (hb hby d2_19) _ k) ?_
    refine own_step (T' := T0) (g' := (mkF m 28 #[.val (.int x0), .unset, .unset] [(.long (287949450930814976 : Int64))])) (fun _ k => XS.goto X0.here hx rfl (pc0 := 22) (pc' := 28) rfl (hb hby d2_22) (by decide) (by decide) k) ?_
    exact B28 T0 _ x0 (287949450930814976 : Int64)   X0 e0 N0 hf
  have B13 : ∀ (T0 : State) (locs : List Loc) (x0 : Int32), Stand p l e ({ frames := 0, cells := 0, slots := 0, locals := 0 } : Room) s m #[(.int p0)] below meth c T0 locs 0 0 → T0.heap = h0 → Fr n0 locs → f2_13 x0 = f2_0 p0 → own_Goes p e below s (own_Pure ((.int (f2_0 p0))) h0 n0) ({ frames := 0, cells := 0, slots := 0, locals := 0 } : Room).cells ({ frames := 0, cells := 0, slots := 0, locals := 0 } : Room).slots T0 (mkF m 13 #[.val (.int x0), .unset, .unset] []) := by
    intro T0 locs x0   X0 e0 N0 hf
    refine own_step (T' := T0) (g' := (mkF m 14 #[.val (.int x0), .unset, .unset] [(.int x0)])) (fun _ k => XS.iloadN X0.here hx rfl (hb hby d2_13) rfl k) ?_
    refine own_step (T' := T0) (g' := (mkF m 16 #[.val (.int x0), .unset, .unset] [(.int (64 : Int32)), (.int x0)])) (fun _ k => XS.bipush X0.here hx rfl (hb hby d2_14) k) ?_
    by_cases hc : x0 < (64 : Int32)
    · refine own_step (T' := T0) (g' := (mkF m 19 #[.val (.int x0), .unset, .unset] [])) (fun _ k => XS.icmpNo X0.here hx rfl (hb hby d2_16) rfl (tlt hc).2.1 k) ?_
      exact B19 T0 _ x0   X0 e0 N0 ((if_pos hc).symm.trans hf)
    · refine own_step (T' := T0) (g' := (mkF m 25 #[.val (.int x0), .unset, .unset] [])) (fun _ k => XS.icmpYes X0.here hx rfl (pc0 := 16) (pc' := 25) rfl (hb hby d2_16) rfl (flt hc).2.1 (by decide) (by decide) k) ?_
      exact B25 T0 _ x0   X0 e0 N0 ((if_neg hc).symm.trans hf)
  have B11 : ∀ (T0 : State) (locs : List Loc) (x0 : Int32), Stand p l e ({ frames := 0, cells := 0, slots := 0, locals := 0 } : Room) s m #[(.int p0)] below meth c T0 locs 0 0 → T0.heap = h0 → Fr n0 locs → f2_11 = f2_0 p0 → own_Goes p e below s (own_Pure ((.int (f2_0 p0))) h0 n0) ({ frames := 0, cells := 0, slots := 0, locals := 0 } : Room).cells ({ frames := 0, cells := 0, slots := 0, locals := 0 } : Room).slots T0 (mkF m 11 #[.val (.int x0), .unset, .unset] []) := by
    intro T0 locs x0   X0 e0 N0 hf
    refine own_step (T' := T0) (g' := (mkF m 12 #[.val (.int x0), .unset, .unset] [(.int (0 : Int32))])) (fun _ k => XS.iconst X0.here hx rfl (hb hby d2_11) k) ?_
    exact own_ret X0 Bd (v := some (.int ((0 : Int32) &&& 1))) (fun q => by rw [Bd.returns] at q; cases q) (fun fs q => retN X0 hx (t := .boolean) Bd.returns (by simp) (hb hby d2_12) q) (show own_Pure ((.int (f2_0 p0))) h0 n0 _ _ _ from ⟨congrArg (fun z => some (Value.int z)) hf, N0, e0⟩) (by decide) (by decide)
  have B4 : ∀ (T0 : State) (locs : List Loc) (x0 : Int32), Stand p l e ({ frames := 0, cells := 0, slots := 0, locals := 0 } : Room) s m #[(.int p0)] below meth c T0 locs 0 0 → T0.heap = h0 → Fr n0 locs → f2_4 x0 = f2_0 p0 → own_Goes p e below s (own_Pure ((.int (f2_0 p0))) h0 n0) ({ frames := 0, cells := 0, slots := 0, locals := 0 } : Room).cells ({ frames := 0, cells := 0, slots := 0, locals := 0 } : Room).slots T0 (mkF m 4 #[.val (.int x0), .unset, .unset] []) := by
    intro T0 locs x0   X0 e0 N0 hf
    refine own_step (T' := T0) (g' := (mkF m 5 #[.val (.int x0), .unset, .unset] [(.int x0)])) (fun _ k => XS.iloadN X0.here hx rfl (hb hby d2_4) rfl k) ?_
    refine own_step (T' := T0) (g' := (mkF m 8 #[.val (.int x0), .unset, .unset] [(.int (128 : Int32)), (.int x0)])) (fun _ k => XS.sipush X0.here hx rfl (hb hby d2_5) k) ?_
    by_cases hc : x0 < (128 : Int32)
    · refine own_step (T' := T0) (g' := (mkF m 13 #[.val (.int x0), .unset, .unset] [])) (fun _ k => XS.icmpYes X0.here hx rfl (pc0 := 8) (pc' := 13) rfl (hb hby d2_8) rfl (tlt hc).1 (by decide) (by decide) k) ?_
      exact B13 T0 _ x0   X0 e0 N0 ((if_pos hc).symm.trans hf)
    · refine own_step (T' := T0) (g' := (mkF m 11 #[.val (.int x0), .unset, .unset] [])) (fun _ k => XS.icmpNo X0.here hx rfl (hb hby d2_8) rfl (flt hc).1 k) ?_
      exact B11 T0 _ x0   X0 e0 N0 ((if_neg hc).symm.trans hf)
  have B0 : ∀ (T0 : State) (locs : List Loc) (x0 : Int32), Stand p l e ({ frames := 0, cells := 0, slots := 0, locals := 0 } : Room) s m #[(.int p0)] below meth c T0 locs 0 0 → T0.heap = h0 → Fr n0 locs → f2_0 x0 = f2_0 p0 → own_Goes p e below s (own_Pure ((.int (f2_0 p0))) h0 n0) ({ frames := 0, cells := 0, slots := 0, locals := 0 } : Room).cells ({ frames := 0, cells := 0, slots := 0, locals := 0 } : Room).slots T0 (mkF m 0 #[.val (.int x0), .unset, .unset] []) := by
    intro T0 locs x0   X0 e0 N0 hf
    refine own_step (T' := T0) (g' := (mkF m 1 #[.val (.int x0), .unset, .unset] [(.int x0)])) (fun _ k => XS.iloadN X0.here hx rfl (hb hby d2_0) rfl k) ?_
    by_cases hc : x0 < (0 : Int32)
    · refine own_step (T' := T0) (g' := (mkF m 11 #[.val (.int x0), .unset, .unset] [])) (fun _ k => XS.ifYes X0.here hx rfl (pc0 := 1) (pc' := 11) rfl (hb hby d2_1) rfl ((if0 _ _).trans (tlt hc).1) (by decide) (by decide) k) ?_
      exact B11 T0 _ x0   X0 e0 N0 ((if_pos hc).symm.trans hf)
    · refine own_step (T' := T0) (g' := (mkF m 4 #[.val (.int x0), .unset, .unset] [])) (fun _ k => XS.ifNo X0.here hx rfl (hb hby d2_1) rfl ((if0 _ _).trans (flt hc).1) k) ?_
      exact B4 T0 _ x0   X0 e0 N0 ((if_neg hc).symm.trans hf)
  have hB := B0 s₁ [] p0  X00 e00 (Fr.nil n0) rfl
  obtain ⟨s₂, o, q1, q2, q3, v, L, q4, q5, q6⟩ := hB
  exact ⟨s₂, o, castTop (ef_2 m p0) q1, q2, q3, v, L, q4, q5, q6⟩
set_option maxRecDepth 65536 in
set_option maxHeartbeats 40000000 in
theorem rm0 (l : Launch) (Z : State) (a0 : Array Value) (hw : ∀ d ∈ tables_1, d.before a0 Z = true) (ws : List Jvm.Cond) (p0 : Int32) (h0 : Heap) (n0 : Nat) (Z0 : n0 ≤ h0.size) (hlaw : f0_0 p0 = 1) :
    MetFree l x (head1 (Jvm.Cond.code x code maxLocals ret :: ws) room_1) (fun a U => a = #[(.int p0)] ∧ Z.Warmed39 U.vm ∧ U.heap = h0) (fun _ _ _ _ _ => True) (fun _ U o U' => ∃ v L, o = .returned v ∧ own_Law n0 v U'.heap L ∧ FrameEnd U o U' L 0 0) := by
  refine MetFree.of_bodySF (plainFor_of_name pn_0) hisR ?_
  intro p e s m args below meth c s₁ Bd hml0 hP hK
  obtain ⟨rfl, hZ, hh0⟩ := hP
  have hx := Bd.exec
  have hby := Bd.bytes
  have hml : c.maxLocals = 4 := hml0
  have hown : s.vm.findClass "com/example/impatiens/impatiens/net/NamesIsPlainCharacterPinLaw" = some m.cls := findClass_of_methodNamed Bd.named
  have X00 : Stand p l e room_1 s m #[(.int p0)] below meth c s₁ [] 0 0 := Stand.of_body Bd
  have e00 : s₁.heap = h0 := by rw [← hh0, Bd.state]; rfl
  have B50 : ∀ (T0 : State) (locs : List Loc) (x0 : Int32) (x1 : Int32) (x2 : Int32) (x3 : Int32) (t0 : Int32) (hh : Heap), n0 ≤ hh.size → Stand p l e room_1 s m #[(.int p0)] below meth c T0 locs 0 0 → T0.heap = hh → Fr n0 locs → f0_50 t0 = 1 → own_Goes p e below s (own_Law n0) 0 0 T0 (mkF m 50 #[.val (.int x0), .val (.int x1), .val (.int x2), .val (.int x3)] [(.int t0)]) := by
    intro T0 locs x0 x1 x2 x3 t0 hh Zh  X0 e0 N0 hf
    exact own_ret X0 Bd (v := some (.int (t0 &&& 1))) (fun q => by rw [Bd.returns] at q; cases q) (fun fs q => retN X0 hx (t := .boolean) Bd.returns (by simp) (hb hby at_50) q) (show own_Law n0 _ _ _ from ⟨congrArg (fun z => some (Value.int z)) hf, N0⟩) (by decide) (by decide)
  have B49 : ∀ (T0 : State) (locs : List Loc) (x0 : Int32) (x1 : Int32) (x2 : Int32) (x3 : Int32) (hh : Heap), n0 ≤ hh.size → Stand p l e room_1 s m #[(.int p0)] below meth c T0 locs 0 0 → T0.heap = hh → Fr n0 locs → f0_49 = 1 → own_Goes p e below s (own_Law n0) 0 0 T0 (mkF m 49 #[.val (.int x0), .val (.int x1), .val (.int x2), .val (.int x3)] []) := by
    intro T0 locs x0 x1 x2 x3 hh Zh  X0 e0 N0 hf
    refine own_step (T' := T0) (g' := (mkF m 50 #[.val (.int x0), .val (.int x1), .val (.int x2), .val (.int x3)] [(.int (0 : Int32))])) (fun _ k => XS.iconst X0.here hx rfl (hb hby at_49) k) ?_
    exact B50 T0 _ x0 x1 x2 x3 (0 : Int32) hh Zh  X0 e0 N0 hf
  have B45 : ∀ (T0 : State) (locs : List Loc) (x0 : Int32) (x1 : Int32) (x2 : Int32) (x3 : Int32) (hh : Heap), n0 ≤ hh.size → Stand p l e room_1 s m #[(.int p0)] below meth c T0 locs 0 0 → T0.heap = hh → Fr n0 locs → f0_45 = 1 → own_Goes p e below s (own_Law n0) 0 0 T0 (mkF m 45 #[.val (.int x0), .val (.int x1), .val (.int x2), .val (.int x3)] []) := by
    intro T0 locs x0 x1 x2 x3 hh Zh  X0 e0 N0 hf
    refine own_step (T' := T0) (g' := (mkF m 46 #[.val (.int x0), .val (.int x1), .val (.int x2), .val (.int x3)] [(.int (1 : Int32))])) (fun _ k => XS.iconst X0.here hx rfl (hb hby at_45) k) ?_
    refine own_step (T' := T0) (g' := (mkF m 50 #[.val (.int x0), .val (.int x1), .val (.int x2), .val (.int x3)] [(.int (1 : Int32))])) (fun _ k => XS.goto X0.here hx rfl (pc0 := 46) (pc' := 50) rfl (hb hby at_46) (by decide) (by decide) k) ?_
    exact B50 T0 _ x0 x1 x2 x3 (1 : Int32) hh Zh  X0 e0 N0 hf
  have B34 : ∀ (T0 : State) (locs : List Loc) (x0 : Int32) (x1 : Int32) (x2 : Int32) (x3 : Int32) (hh : Heap), n0 ≤ hh.size → Stand p l e room_1 s m #[(.int p0)] below meth c T0 locs 0 0 → T0.heap = hh → Fr n0 locs → f0_34 x3 = 1 → own_Goes p e below s (own_Law n0) 0 0 T0 (mkF m 34 #[.val (.int x0), .val (.int x1), .val (.int x2), .val (.int x3)] []) := by
    intro T0 locs x0 x1 x2 x3 hh Zh  X0 e0 N0 hf
    refine own_step (T' := T0) (g' := (mkF m 35 #[.val (.int x0), .val (.int x1), .val (.int x2), .val (.int x3)] [(.int x3)])) (fun _ k => XS.iloadN X0.here hx rfl (hb hby at_34) rfl k) ?_
    obtain ⟨_, _, ⟨T1, L1, k1, n1⟩, -, X1, ⟨Lc1, hQ1, l1, y1, z1⟩, st1⟩ := Jvm.LawKit.callS X0 hx (y := (⟨"com/example/impatiens/impatiens/net/Names", "isPlainCharacter", "(I)Z"⟩ : MethodName)) hown (mvT hZ (hw _ (List.mem_of_getElem? (i := 1) rfl))) (mvT hZ (hw _ (List.mem_of_getElem? (i := 2) rfl))) (mvT hZ (hw _ (List.mem_of_getElem? (i := 3) rfl))) (mvT hZ (hw _ (List.mem_of_getElem? (i := 4) rfl))) (by decide) (backOf (W := 0) (rm1 l Z a0 hw [] x3 hh n0 Zh) hZ (hw _ (List.mem_of_getElem? (i := 4) rfl)) (hw _ (List.mem_of_getElem? (i := 3) rfl)) (by decide) (by decide)) (g := (mkF m 35 #[.val (.int x0), .val (.int x1), .val (.int x2), .val (.int x3)] [(.int x3)])) rfl (by rw [hml]; rfl) (argsL := [(.int x3)]) (rest := []) (lenOf pd_0 rfl) rfl (by show 2 * 0 + _ ≤ _; exact Nat.le_of_eq rfl) (hb hby at_35) (fun _ _ => ⟨rfl, e0, (by decide : 0 + 0 ≤ _), (by decide : 0 + 0 ≤ _)⟩)
    dsimp only [Pt.U, Pt.locs, Pt.cells, Pt.slots] at X1 l1 y1 z1 st1 hQ1
    subst l1 y1 z1
    obtain ⟨rfl, N1q, e1⟩ := hQ1
    have N1 := Fr.app N0 N1q
    refine own_step (T' := T1) (g' := (mkF m 38 #[.val (.int x0), .val (.int x1), .val (.int x2), .val (.int x3)] [(.int (f1_0 x3))])) (fun _ k => st1 _ k) ?_
    refine own_step (T' := T1) (g' := (mkF m 39 #[.val (.int x0), .val (.int x1), .val (.int x2), .val (.int x3)] [(.int x3), (.int (f1_0 x3))])) (fun _ k => XS.iloadN X1.here hx rfl (hb hby at_38) rfl k) ?_
    obtain ⟨_, _, ⟨T2, L2, k2, n2⟩, -, X2, ⟨Lc2, hQ2, l2, y2, z2⟩, st2⟩ := Jvm.LawKit.callS X1 hx (y := (⟨"com/example/impatiens/impatiens/net/NamesIsPlainCharacterPinLaw", "reference", "(I)Z"⟩ : MethodName)) hown (mvT hZ (hw _ (List.mem_of_getElem? (i := 5) rfl))) (mvT hZ (hw _ (List.mem_of_getElem? (i := 6) rfl))) (mvT hZ (hw _ (List.mem_of_getElem? (i := 7) rfl))) (mvT hZ (hw _ (List.mem_of_getElem? (i := 8) rfl))) (by decide) (backOf (W := 1) (rm2 l Z a0 hw [] x3 hh n0 Zh) hZ (hw _ (List.mem_of_getElem? (i := 8) rfl)) (hw _ (List.mem_of_getElem? (i := 7) rfl)) (by decide) (by decide)) (g := (mkF m 39 #[.val (.int x0), .val (.int x1), .val (.int x2), .val (.int x3)] [(.int x3), (.int (f1_0 x3))])) rfl (by rw [hml]; rfl) (argsL := [(.int x3)]) (rest := [(.int (f1_0 x3))]) (lenOf pd_0 rfl) rfl (by show 2 * 0 + _ ≤ _; exact Nat.le_of_eq rfl) (hb hby at_39) (fun _ _ => ⟨rfl, e1, (by decide : 0 + 0 ≤ _), (by decide : 0 + 0 ≤ _)⟩)
    dsimp only [Pt.U, Pt.locs, Pt.cells, Pt.slots] at X2 l2 y2 z2 st2 hQ2
    subst l2 y2 z2
    obtain ⟨rfl, N2q, e2⟩ := hQ2
    have N2 := Fr.app N1 N2q
    refine own_step (T' := T2) (g' := (mkF m 42 #[.val (.int x0), .val (.int x1), .val (.int x2), .val (.int x3)] [(.int (f2_0 x3)), (.int (f1_0 x3))])) (fun _ k => st2 _ k) ?_
    by_cases hc : (f1_0 x3) = (f2_0 x3)
    · refine own_step (T' := T2) (g' := (mkF m 45 #[.val (.int x0), .val (.int x1), .val (.int x2), .val (.int x3)] [])) (fun _ k => XS.icmpNo X2.here hx rfl (hb hby at_42) rfl (teq hc).2 k) ?_
      exact B45 T2 _ x0 x1 x2 x3 hh Zh  X2 e2 N2 ((if_pos hc).symm.trans hf)
    · refine own_step (T' := T2) (g' := (mkF m 49 #[.val (.int x0), .val (.int x1), .val (.int x2), .val (.int x3)] [])) (fun _ k => XS.icmpYes X2.here hx rfl (pc0 := 42) (pc' := 49) rfl (hb hby at_42) rfl (feq hc).2 (by decide) (by decide) k) ?_
      exact B49 T2 _ x0 x1 x2 x3 hh Zh  X2 e2 N2 ((if_neg hc).symm.trans hf)
  have B23 : ∀ (T0 : State) (locs : List Loc) (x0 : Int32) (x1 : Int32) (x2 : Int32) (x3 : Int32) (hh : Heap), n0 ≤ hh.size → Stand p l e room_1 s m #[(.int p0)] below meth c T0 locs 0 0 → T0.heap = hh → Fr n0 locs → f0_23 x2 x3 = 1 → own_Goes p e below s (own_Law n0) 0 0 T0 (mkF m 23 #[.val (.int x0), .val (.int x1), .val (.int x2), .val (.int x3)] []) := by
    intro T0 locs x0 x1 x2 x3 hh Zh  X0 e0 N0 hf
    refine own_step (T' := T0) (g' := (mkF m 24 #[.val (.int x0), .val (.int x1), .val (.int x2), .val (.int x3)] [(.int x2)])) (fun _ k => XS.iloadN X0.here hx rfl (hb hby at_23) rfl k) ?_
    obtain ⟨_, _, ⟨T1, L1, k1, n1⟩, -, X1, ⟨Lc1, hQ1, l1, y1, z1⟩, st1⟩ := Jvm.LawKit.callS X0 hx (y := (⟨"com/example/impatiens/impatiens/net/Names", "isPlainCharacter", "(I)Z"⟩ : MethodName)) hown (mvT hZ (hw _ (List.mem_of_getElem? (i := 1) rfl))) (mvT hZ (hw _ (List.mem_of_getElem? (i := 2) rfl))) (mvT hZ (hw _ (List.mem_of_getElem? (i := 3) rfl))) (mvT hZ (hw _ (List.mem_of_getElem? (i := 4) rfl))) (by decide) (backOf (W := 0) (rm1 l Z a0 hw [] x2 hh n0 Zh) hZ (hw _ (List.mem_of_getElem? (i := 4) rfl)) (hw _ (List.mem_of_getElem? (i := 3) rfl)) (by decide) (by decide)) (g := (mkF m 24 #[.val (.int x0), .val (.int x1), .val (.int x2), .val (.int x3)] [(.int x2)])) rfl (by rw [hml]; rfl) (argsL := [(.int x2)]) (rest := []) (lenOf pd_0 rfl) rfl (by show 2 * 0 + _ ≤ _; exact Nat.le_of_eq rfl) (hb hby at_24) (fun _ _ => ⟨rfl, e0, (by decide : 0 + 0 ≤ _), (by decide : 0 + 0 ≤ _)⟩)
    dsimp only [Pt.U, Pt.locs, Pt.cells, Pt.slots] at X1 l1 y1 z1 st1 hQ1
    subst l1 y1 z1
    obtain ⟨rfl, N1q, e1⟩ := hQ1
    have N1 := Fr.app N0 N1q
    refine own_step (T' := T1) (g' := (mkF m 27 #[.val (.int x0), .val (.int x1), .val (.int x2), .val (.int x3)] [(.int (f1_0 x2))])) (fun _ k => st1 _ k) ?_
    refine own_step (T' := T1) (g' := (mkF m 28 #[.val (.int x0), .val (.int x1), .val (.int x2), .val (.int x3)] [(.int x2), (.int (f1_0 x2))])) (fun _ k => XS.iloadN X1.here hx rfl (hb hby at_27) rfl k) ?_
    obtain ⟨_, _, ⟨T2, L2, k2, n2⟩, -, X2, ⟨Lc2, hQ2, l2, y2, z2⟩, st2⟩ := Jvm.LawKit.callS X1 hx (y := (⟨"com/example/impatiens/impatiens/net/NamesIsPlainCharacterPinLaw", "reference", "(I)Z"⟩ : MethodName)) hown (mvT hZ (hw _ (List.mem_of_getElem? (i := 5) rfl))) (mvT hZ (hw _ (List.mem_of_getElem? (i := 6) rfl))) (mvT hZ (hw _ (List.mem_of_getElem? (i := 7) rfl))) (mvT hZ (hw _ (List.mem_of_getElem? (i := 8) rfl))) (by decide) (backOf (W := 1) (rm2 l Z a0 hw [] x2 hh n0 Zh) hZ (hw _ (List.mem_of_getElem? (i := 8) rfl)) (hw _ (List.mem_of_getElem? (i := 7) rfl)) (by decide) (by decide)) (g := (mkF m 28 #[.val (.int x0), .val (.int x1), .val (.int x2), .val (.int x3)] [(.int x2), (.int (f1_0 x2))])) rfl (by rw [hml]; rfl) (argsL := [(.int x2)]) (rest := [(.int (f1_0 x2))]) (lenOf pd_0 rfl) rfl (by show 2 * 0 + _ ≤ _; exact Nat.le_of_eq rfl) (hb hby at_28) (fun _ _ => ⟨rfl, e1, (by decide : 0 + 0 ≤ _), (by decide : 0 + 0 ≤ _)⟩)
    dsimp only [Pt.U, Pt.locs, Pt.cells, Pt.slots] at X2 l2 y2 z2 st2 hQ2
    subst l2 y2 z2
    obtain ⟨rfl, N2q, e2⟩ := hQ2
    have N2 := Fr.app N1 N2q
    refine own_step (T' := T2) (g' := (mkF m 31 #[.val (.int x0), .val (.int x1), .val (.int x2), .val (.int x3)] [(.int (f2_0 x2)), (.int (f1_0 x2))])) (fun _ k => st2 _ k) ?_
    by_cases hc : (f1_0 x2) = (f2_0 x2)
    · refine own_step (T' := T2) (g' := (mkF m 34 #[.val (.int x0), .val (.int x1), .val (.int x2), .val (.int x3)] [])) (fun _ k => XS.icmpNo X2.here hx rfl (hb hby at_31) rfl (teq hc).2 k) ?_
      exact B34 T2 _ x0 x1 x2 x3 hh Zh  X2 e2 N2 ((if_pos hc).symm.trans hf)
    · refine own_step (T' := T2) (g' := (mkF m 49 #[.val (.int x0), .val (.int x1), .val (.int x2), .val (.int x3)] [])) (fun _ k => XS.icmpYes X2.here hx rfl (pc0 := 31) (pc' := 49) rfl (hb hby at_31) rfl (feq hc).2 (by decide) (by decide) k) ?_
      exact B49 T2 _ x0 x1 x2 x3 hh Zh  X2 e2 N2 ((if_neg hc).symm.trans hf)
  have B0 : ∀ (T0 : State) (locs : List Loc) (x0 : Int32) (hh : Heap), n0 ≤ hh.size → Stand p l e room_1 s m #[(.int p0)] below meth c T0 locs 0 0 → T0.heap = hh → Fr n0 locs → f0_0 x0 = 1 → own_Goes p e below s (own_Law n0) 0 0 T0 (mkF m 0 #[.val (.int x0), .unset, .unset, .unset] []) := by
    intro T0 locs x0 hh Zh  X0 e0 N0 hf
    refine own_step (T' := T0) (g' := (mkF m 1 #[.val (.int x0), .unset, .unset, .unset] [(.int x0)])) (fun _ k => XS.iloadN X0.here hx rfl (hb hby at_0) rfl k) ?_
    refine own_step (T' := T0) (g' := (mkF m 2 #[.val (.int x0), .val (.int x0), .unset, .unset] [])) (fun _ k => XS.istoreN X0.here hx rfl (hb hby at_1) rfl (l' := #[.val (.int x0), .val (.int x0), .unset, .unset]) rfl k) ?_
    refine own_step (T' := T0) (g' := (mkF m 3 #[.val (.int x0), .val (.int x0), .unset, .unset] [(.int x0)])) (fun _ k => XS.iloadN X0.here hx rfl (hb hby at_2) rfl k) ?_
    refine own_step (T' := T0) (g' := (mkF m 5 #[.val (.int x0), .val (.int x0), .unset, .unset] [(.int (127 : Int32)), (.int x0)])) (fun _ k => XS.bipush X0.here hx rfl (hb hby at_3) k) ?_
    refine own_step (T' := T0) (g' := (mkF m 6 #[.val (.int x0), .val (.int x0), .unset, .unset] [(.int (x0 &&& (127 : Int32)))])) (fun _ k => XS.iand X0.here hx rfl (hb hby at_5) rfl k) ?_
    refine own_step (T' := T0) (g' := (mkF m 7 #[.val (.int x0), .val (.int x0), .val (.int (x0 &&& (127 : Int32))), .unset] [])) (fun _ k => XS.istoreN X0.here hx rfl (hb hby at_6) rfl (l' := #[.val (.int x0), .val (.int x0), .val (.int (x0 &&& (127 : Int32))), .unset]) rfl k) ?_
    refine own_step (T' := T0) (g' := (mkF m 8 #[.val (.int x0), .val (.int x0), .val (.int (x0 &&& (127 : Int32))), .unset] [(.int x0)])) (fun _ k => XS.iloadN X0.here hx rfl (hb hby at_7) rfl k) ?_
    refine own_step (T' := T0) (g' := (mkF m 10 #[.val (.int x0), .val (.int x0), .val (.int (x0 &&& (127 : Int32))), .unset] [(.int (65535 : Int32)), (.int x0)])) (fun _ k => X0.ldcInt hx hown (mvT hZ (hw _ (List.mem_of_getElem? (i := 0) rfl))) (g := (mkF m 8 #[.val (.int x0), .val (.int x0), .val (.int (x0 &&& (127 : Int32))), .unset] [(.int x0)])) rfl (hb hby at_8) _ k) ?_
    refine own_step (T' := T0) (g' := (mkF m 11 #[.val (.int x0), .val (.int x0), .val (.int (x0 &&& (127 : Int32))), .unset] [(.int (x0 &&& (65535 : Int32)))])) (fun _ k => XS.iand X0.here hx rfl (hb hby at_10) rfl k) ?_
    refine own_step (T' := T0) (g' := (mkF m 12 #[.val (.int x0), .val (.int x0), .val (.int (x0 &&& (127 : Int32))), .val (.int (x0 &&& (65535 : Int32)))] [])) (fun _ k => XS.istoreN X0.here hx rfl (hb hby at_11) rfl (l' := #[.val (.int x0), .val (.int x0), .val (.int (x0 &&& (127 : Int32))), .val (.int (x0 &&& (65535 : Int32)))]) rfl k) ?_
    refine own_step (T' := T0) (g' := (mkF m 13 #[.val (.int x0), .val (.int x0), .val (.int (x0 &&& (127 : Int32))), .val (.int (x0 &&& (65535 : Int32)))] [(.int x0)])) (fun _ k => XS.iloadN X0.here hx rfl (hb hby at_12) rfl k) ?_
    obtain ⟨_, _, ⟨T1, L1, k1, n1⟩, -, X1, ⟨Lc1, hQ1, l1, y1, z1⟩, st1⟩ := Jvm.LawKit.callS X0 hx (y := (⟨"com/example/impatiens/impatiens/net/Names", "isPlainCharacter", "(I)Z"⟩ : MethodName)) hown (mvT hZ (hw _ (List.mem_of_getElem? (i := 1) rfl))) (mvT hZ (hw _ (List.mem_of_getElem? (i := 2) rfl))) (mvT hZ (hw _ (List.mem_of_getElem? (i := 3) rfl))) (mvT hZ (hw _ (List.mem_of_getElem? (i := 4) rfl))) (by decide) (backOf (W := 0) (rm1 l Z a0 hw [] x0 hh n0 Zh) hZ (hw _ (List.mem_of_getElem? (i := 4) rfl)) (hw _ (List.mem_of_getElem? (i := 3) rfl)) (by decide) (by decide)) (g := (mkF m 13 #[.val (.int x0), .val (.int x0), .val (.int (x0 &&& (127 : Int32))), .val (.int (x0 &&& (65535 : Int32)))] [(.int x0)])) rfl (by rw [hml]; rfl) (argsL := [(.int x0)]) (rest := []) (lenOf pd_0 rfl) rfl (by show 2 * 0 + _ ≤ _; exact Nat.le_of_eq rfl) (hb hby at_13) (fun _ _ => ⟨rfl, e0, (by decide : 0 + 0 ≤ _), (by decide : 0 + 0 ≤ _)⟩)
    dsimp only [Pt.U, Pt.locs, Pt.cells, Pt.slots] at X1 l1 y1 z1 st1 hQ1
    subst l1 y1 z1
    obtain ⟨rfl, N1q, e1⟩ := hQ1
    have N1 := Fr.app N0 N1q
    refine own_step (T' := T1) (g' := (mkF m 16 #[.val (.int x0), .val (.int x0), .val (.int (x0 &&& (127 : Int32))), .val (.int (x0 &&& (65535 : Int32)))] [(.int (f1_0 x0))])) (fun _ k => st1 _ k) ?_
    refine own_step (T' := T1) (g' := (mkF m 17 #[.val (.int x0), .val (.int x0), .val (.int (x0 &&& (127 : Int32))), .val (.int (x0 &&& (65535 : Int32)))] [(.int x0), (.int (f1_0 x0))])) (fun _ k => XS.iloadN X1.here hx rfl (hb hby at_16) rfl k) ?_
    obtain ⟨_, _, ⟨T2, L2, k2, n2⟩, -, X2, ⟨Lc2, hQ2, l2, y2, z2⟩, st2⟩ := Jvm.LawKit.callS X1 hx (y := (⟨"com/example/impatiens/impatiens/net/NamesIsPlainCharacterPinLaw", "reference", "(I)Z"⟩ : MethodName)) hown (mvT hZ (hw _ (List.mem_of_getElem? (i := 5) rfl))) (mvT hZ (hw _ (List.mem_of_getElem? (i := 6) rfl))) (mvT hZ (hw _ (List.mem_of_getElem? (i := 7) rfl))) (mvT hZ (hw _ (List.mem_of_getElem? (i := 8) rfl))) (by decide) (backOf (W := 1) (rm2 l Z a0 hw [] x0 hh n0 Zh) hZ (hw _ (List.mem_of_getElem? (i := 8) rfl)) (hw _ (List.mem_of_getElem? (i := 7) rfl)) (by decide) (by decide)) (g := (mkF m 17 #[.val (.int x0), .val (.int x0), .val (.int (x0 &&& (127 : Int32))), .val (.int (x0 &&& (65535 : Int32)))] [(.int x0), (.int (f1_0 x0))])) rfl (by rw [hml]; rfl) (argsL := [(.int x0)]) (rest := [(.int (f1_0 x0))]) (lenOf pd_0 rfl) rfl (by show 2 * 0 + _ ≤ _; exact Nat.le_of_eq rfl) (hb hby at_17) (fun _ _ => ⟨rfl, e1, (by decide : 0 + 0 ≤ _), (by decide : 0 + 0 ≤ _)⟩)
    dsimp only [Pt.U, Pt.locs, Pt.cells, Pt.slots] at X2 l2 y2 z2 st2 hQ2
    subst l2 y2 z2
    obtain ⟨rfl, N2q, e2⟩ := hQ2
    have N2 := Fr.app N1 N2q
    refine own_step (T' := T2) (g' := (mkF m 20 #[.val (.int x0), .val (.int x0), .val (.int (x0 &&& (127 : Int32))), .val (.int (x0 &&& (65535 : Int32)))] [(.int (f2_0 x0)), (.int (f1_0 x0))])) (fun _ k => st2 _ k) ?_
    by_cases hc : (f1_0 x0) = (f2_0 x0)
    · refine own_step (T' := T2) (g' := (mkF m 23 #[.val (.int x0), .val (.int x0), .val (.int (x0 &&& (127 : Int32))), .val (.int (x0 &&& (65535 : Int32)))] [])) (fun _ k => XS.icmpNo X2.here hx rfl (hb hby at_20) rfl (teq hc).2 k) ?_
      exact B23 T2 _ x0 x0 (x0 &&& (127 : Int32)) (x0 &&& (65535 : Int32)) hh Zh  X2 e2 N2 ((if_pos hc).symm.trans hf)
    · refine own_step (T' := T2) (g' := (mkF m 49 #[.val (.int x0), .val (.int x0), .val (.int (x0 &&& (127 : Int32))), .val (.int (x0 &&& (65535 : Int32)))] [])) (fun _ k => XS.icmpYes X2.here hx rfl (pc0 := 20) (pc' := 49) rfl (hb hby at_20) rfl (feq hc).2 (by decide) (by decide) k) ?_
      exact B49 T2 _ x0 x0 (x0 &&& (127 : Int32)) (x0 &&& (65535 : Int32)) hh Zh  X2 e2 N2 ((if_neg hc).symm.trans hf)
  have hB := B0 s₁ [] p0 h0 Z0 X00 e00 (Fr.nil n0) hlaw
  obtain ⟨s₂, o, q1, q2, q3, v, L, q4, q5, q6⟩ := hB
  exact ⟨s₂, o, castTop (ef_0 m p0) q1, q2, q3, v, L, q4, q5, q6⟩
set_option maxRecDepth 65536 in
set_option maxHeartbeats 40000000 in
theorem comes_1 {Post : Tables → Env → Array Value → State → Outcome → State → Prop} (hpost : ∀ tb e args s v u, (limb_1_1.after args s (.returned v) u = true ∧ limb_1_2.after args s (.returned v) u = true ∧ True) → FrameEnd s (.returned v) u (Jvm.fieldLocs frame_1_writes args s ++ Jvm.arrayLocs frame_1_arrays args s ++ Jvm.staticLocs frame_1_statics s) 0 0 → Post tb e args s (.returned v) u) :
    ArmFor flags0 classFile x code maxLocals ret World_1 tables_1 room_1 Calls_1 rest_1 Pre_1 Post := by
  intro l hfl _ _ p e ha hc hk s m args below hf hA hF happ hP
  obtain ⟨hcalls, hrest, hpre⟩ := hP
  obtain ⟨-, -, -, hnamed, -, -, -, hat⟩ := (Spec.applies_iff hf).mp happ
  obtain ⟨hg, hn⟩ := and_e (Cond.before_iff.mp (show (Jvm.Cond.and given_1 narrow_1).before args s = true from hpre))
  obtain ⟨hcnt, g0⟩ := and_e hg
  obtain ⟨w0, rfl⟩ : ∃ w0 : Value, args = #[w0] := by
    have hs : args.size = 1 := by simpa [Cond.value, given_1] using hcnt
    obtain ⟨L⟩ := args
    match L, hs with
    | [w0], _ => exact ⟨w0, rfl⟩
  have hw := fun d (hd : d ∈ tables_1) => atoms_spec (ws := Jvm.Cond.code x code maxLocals ret :: tables_1) hat d (List.mem_cons_of_mem _ hd)
  obtain ⟨i0, ei0⟩ := is_v g0
  obtain rfl : w0 = (.int i0) := Option.some.inj ei0
  obtain ⟨n, o, h1, h2, h3, _, L, rfl, ⟨rfl, N⟩, hq⟩ := rm0 l s _ hw tables_1 i0 s.heap s.heap.size (Nat.le_refl _) (own_law i0) p e ha hc hk s m _ below hf ((Spec.applies_iff_loose hf).mp happ).1 ⟨rfl, State.Warmed39.refl s, rfl⟩ trivial
  refine ⟨n, _, h1, h2, h3, hpost _ _ _ _ _ _ ⟨Cond.after_iff.mpr rfl, Cond.after_iff.mpr (eq_i res_at (Term.int_eval (1)) rfl), trivial⟩ ⟨hq.1, hq.2.1, (hq.2.2.sift fun y hy => Or.inr (N y hy)).mono (by decide) (by decide)⟩⟩
theorem main_1_1 : Claimed_1_1 := comes_1 fun _ _ _ _ _ _ h hF => ⟨h.1, hF⟩
theorem main_1_2 : Claimed_1_2 := comes_1 fun _ _ _ _ _ _ h hF => ⟨h.2.1, hF⟩
end Jvm.Pilot.@@N@@
namespace Jvm.Pilot.@@N@@
open Jvm Jvm.ClassFile Sem Op Lib Jvm.Free Jvm.Stand Jvm.Pilot.@@N@@.Jvm.D
/-! MADE BY PROGRAM (witnessworld.py) out of the Statement's table words and the real class files: 9 classes; the members and pool entries that the words name. The judged class is class 1, her method 2. -/
namespace start1
open Jvm.ClassFile
def u (s : String) : CpInfo := .utf8 (stringToUtf16 s)
/-- a pool by its gaps: so many unusable entries, then the entry; so many at the end -/
def gap : Nat → List CpInfo → List CpInfo
  | 0, r => r
  | n + 1, r => .unusable :: gap n r
def poolList (es : List (Nat × CpInfo)) (last : Nat) : List CpInfo := es.foldr (fun e r => gap e.1 (e.2 :: r)) (gap last [])
def pool (es : List (Nat × CpInfo)) (last : Nat) : Array CpInfo := ⟨poolList es last⟩
def fileOf (pool : Array CpInfo) (this : Nat) (attrs : Array Attribute := #[]) (ms : Array MethodInfo := #[]) (fl : Nat := 33) (sup : Nat := 0) (ifs : Array Nat := #[]) (fds : Array FieldInfo := #[]) : ClassFile where
  minorVersion := 0
  majorVersion := 65
  constantPool := pool
  accessFlags := fl
  thisClass := this
  superClass := sup
  interfaces := ifs
  fields := fds
  methods := ms
  attributes := attrs
def plain (name : String) (sup : Option ClassId) : Class where
  name := name
  kind := .ordinary
  loader := none
  accessFlags := 33
  super := sup
  interfaces := #[]
  cf := none
  fields := #[]
  methods := #[]
  instanceTypes := #[]
  staticTypes := #[]
  resolved := #[]
  callSites := []
  init := .initialized
  statics := none
  mirror := none

def pool0 : Array CpInfo := pool [(5, u "<init>"), (0, u "()V"), (1, .class_ 10), (1, u "java/lang/Object")] 113

def k0m0 : Method := { name := "<init>", desc := "()V", sig := { parameters := [], returnType := none }, accessFlags := 1, code := none }
/-- java/lang/Object -/
def k0 : Class := { plain "java/lang/Object" none with
  accessFlags := 33
  interfaces := #[]
  cf := some (fileOf pool0 8 #[] #[{ accessFlags := 1, nameIndex := 5, descriptorIndex := 6, attributes := #[] }] 33 0 #[] #[])
  fields := #[]
  methods := #[k0m0]
  instanceTypes := #[]
  staticTypes := #[]
  resolved := Array.replicate 124 none
  statics := none }

def pool1 : Array CpInfo := pool [(2, .class_ 4), (1, u "java/lang/Object"), (0, u "<init>"), (0, u "()V"), (0, .class_ 8), (0, u "com/example/impatiens/impatiens/net/NamesIsPlainCharacterPinLaw"), (0, .long 287949450930814976), (1, .long 576460745995190270), (1, .integer 65535), (0, .methodref 15 16), (0, .class_ 17), (0, .nameAndType 18 19), (0, u "com/example/impatiens/impatiens/net/Names"), (0, u "isPlainCharacter"), (0, u "(I)Z"), (0, .methodref 7 21), (0, .nameAndType 22 19), (0, u "reference"), (0, u "LOW"), (0, u "J"), (1, u "HIGH"), (3, u "law")] 2

def k1m0 : Method := { name := "<init>", desc := "()V", sig := { parameters := [], returnType := none }, accessFlags := 2, code := none }
def k1c1 : Code := { maxStack := 4, maxLocals := 3, code := method_2_code, exceptionTable := #[], attributes := #[] }
def k1m1 : Method := { name := "reference", desc := "(I)Z", sig := { parameters := [.int], returnType := some .boolean }, accessFlags := 10, code := some k1c1 }
def k1c2 : Code := { maxStack := 2, maxLocals := 4, code := code, exceptionTable := #[], attributes := #[] }
def k1m2 : Method := { name := "law", desc := "(I)Z", sig := { parameters := [.int], returnType := some .boolean }, accessFlags := 9, code := some k1c2 }
/-- com/example/impatiens/impatiens/net/NamesIsPlainCharacterPinLaw -/
def k1 : Class := { plain "com/example/impatiens/impatiens/net/NamesIsPlainCharacterPinLaw" (some 0) with
  accessFlags := 49
  interfaces := #[]
  cf := some (fileOf pool1 7 #[] #[{ accessFlags := 2, nameIndex := 5, descriptorIndex := 6, attributes := #[] }, { accessFlags := 10, nameIndex := 22, descriptorIndex := 19, attributes := #[] }, { accessFlags := 9, nameIndex := 30, descriptorIndex := 19, attributes := #[] }] 49 2 #[] #[{ accessFlags := 26, nameIndex := 23, descriptorIndex := 24, attributes := #[] }, { accessFlags := 26, nameIndex := 26, descriptorIndex := 24, attributes := #[] }])
  fields := #[{ name := "LOW", type := .long, accessFlags := 26, slot := 0, constantValue := 0 }, { name := "HIGH", type := .long, accessFlags := 26, slot := 1, constantValue := 0 }]
  methods := #[k1m0, k1m1, k1m2]
  instanceTypes := #[]
  staticTypes := #[.long, .long]
  resolved := Array.replicate 33 none
  statics := none }

def pool2 : Array CpInfo := pool [(2, .class_ 4), (1, u "java/lang/Object"), (0, u "<init>"), (0, u "()V"), (9, .class_ 18), (1, u "com/example/impatiens/impatiens/net/Names"), (67, u "isPlainCharacter"), (0, u "(I)Z"), (98, u "BYTE_ORDER"), (0, u "Ljava/util/Comparator;"), (2, u "QUOTE_LENGTH"), (0, u "I"), (2, u "ESCAPE_LENGTH")] 46

def k2m0 : Method := { name := "<init>", desc := "()V", sig := { parameters := [], returnType := none }, accessFlags := 2, code := none }
def k2c1 : Code := { maxStack := 2, maxLocals := 1, code := prog_37_method_2_code, exceptionTable := #[], attributes := #[] }
def k2m1 : Method := { name := "isPlainCharacter", desc := "(I)Z", sig := { parameters := [.int], returnType := some .boolean }, accessFlags := 9, code := some k2c1 }
/-- com/example/impatiens/impatiens/net/Names -/
def k2 : Class := { plain "com/example/impatiens/impatiens/net/Names" (some 0) with
  accessFlags := 33
  interfaces := #[]
  cf := some (fileOf pool2 16 #[] #[{ accessFlags := 2, nameIndex := 5, descriptorIndex := 6, attributes := #[] }, { accessFlags := 9, nameIndex := 86, descriptorIndex := 87, attributes := #[] }] 33 2 #[] #[{ accessFlags := 25, nameIndex := 186, descriptorIndex := 187, attributes := #[] }, { accessFlags := 25, nameIndex := 190, descriptorIndex := 191, attributes := #[] }, { accessFlags := 26, nameIndex := 194, descriptorIndex := 191, attributes := #[] }])
  fields := #[{ name := "BYTE_ORDER", type := (.object "java/util/Comparator"), accessFlags := 25, slot := 0, constantValue := 0 }, { name := "QUOTE_LENGTH", type := .int, accessFlags := 25, slot := 1, constantValue := 0 }, { name := "ESCAPE_LENGTH", type := .int, accessFlags := 26, slot := 2, constantValue := 0 }]
  methods := #[k2m0, k2m1]
  instanceTypes := #[]
  staticTypes := #[(.object "java/util/Comparator"), .int, .int]
  resolved := Array.replicate 241 none
  statics := none }

def pool3 : Array CpInfo := pool [(1, u "java/lang/Cloneable"), (0, .class_ 1), (0, u "java/lang/Object"), (0, .class_ 3)] 3

/-- java/lang/Cloneable -/
def k3 : Class := { plain "java/lang/Cloneable" (some 0) with
  accessFlags := 1537
  interfaces := #[]
  cf := some (fileOf pool3 2 #[] #[] 1537 4 #[] #[])
  fields := #[]
  methods := #[]
  instanceTypes := #[]
  staticTypes := #[]
  resolved := Array.replicate 8 none
  statics := none }

def pool4 : Array CpInfo := pool [(1, u "java/io/Serializable"), (0, .class_ 1), (0, u "java/lang/Object"), (0, .class_ 3)] 3

/-- java/io/Serializable -/
def k4 : Class := { plain "java/io/Serializable" (some 0) with
  accessFlags := 1537
  interfaces := #[]
  cf := some (fileOf pool4 2 #[] #[] 1537 4 #[] #[])
  fields := #[]
  methods := #[]
  instanceTypes := #[]
  staticTypes := #[]
  resolved := Array.replicate 8 none
  statics := none }

/-- the primitive byte -/
def k5 : Class := { plain "byte" none with kind := .primitive 'B', accessFlags := 0x411 }
/-- [B -/
def k6 : Class := { plain "[B" (some 0) with kind := .array 5 .byte, interfaces := #[3, 4], accessFlags := 1041 }

/-- the primitive int -/
def k7 : Class := { plain "int" none with kind := .primitive 'I', accessFlags := 0x411 }
/-- [I -/
def k8 : Class := { plain "[I" (some 0) with kind := .array 7 .int, interfaces := #[3, 4], accessFlags := 1041 }

def heap : Heap := #[]
def classes : Array Class := #[k0, k1, k2, k3, k4, k5, k6, k7, k8]
def interned : List (Array UInt16 × Addr) := []
def slotsUsed : Nat := 0
def theMethod : MethodId := ⟨1, 2⟩
def args0 : Array Value := #[.int 5]
def aboutOver (below : List Frame) : State where
  vm := { classes := classes, interned := interned.toArray }
  heap := heap
  slotsUsed := slotsUsed
  threads := #[{ frames := .invoking theMethod args0 :: below }]
def below0 : List Frame := [.native { method := ⟨0, 0⟩, args := #[] }]
def about1 : State := aboutOver below0
def p0 : Program := .bare "" "" ""
def e0 : Env := launch0.env 0 0 0
theorem w_frames : about1.frames = Frame.invoking theMethod args0 :: below0 := rfl
set_option maxRecDepth 65536 in
theorem w_args : argsFit about1.vm theMethod args0 = true := by decide +kernel
set_option maxRecDepth 65536 in
theorem w_heap : heapFits about1 = true := by decide +kernel
set_option maxRecDepth 65536 in
theorem w_runnable : about1.curStatus? = some .runnable := by decide +kernel
set_option maxRecDepth 65536 in
theorem w_alone : about1.alone = true := by decide +kernel
set_option maxRecDepth 65536 in
theorem w_named : about1.methodNamed? x = some theMethod := by decide +kernel
set_option maxRecDepth 65536 in
theorem w_hears : about1.hears theMethod below0 = true := by decide +kernel
set_option maxRecDepth 65536 in
theorem w_ripe : about1.ripe theMethod args0 below0 = true := by decide +kernel
theorem w_running : about1.status = .running := rfl
set_option maxRecDepth 65536 in
theorem w_room : about1.hasRoom e0.platform room_1 = true :=
  launch0.hasRoom_least _ room_1 (by decide +kernel) (by decide +kernel) (by decide +kernel) (by decide +kernel) (by decide +kernel) (by decide +kernel)
theorem allAtoms_all (ts : List Jvm.Cond) (a : Array Jvm.Value) (st : Jvm.State) : (allAtoms ts).before a st = ts.all (fun c => c.before a st) := by
  induction ts with
  | nil => rfl
  | cons c t ih =>
    show (Jvm.Cond.and c (allAtoms t)).before a st = _
    rw [Jvm.Cond.before_and, ih, List.all_cons]
def words1 : List Jvm.Cond := Jvm.Cond.code x code maxLocals ret :: tables_1
/-- a 'code' word, met by the world's own term for the bytes: nothing is compared byte by byte -/
theorem code_word {y : MethodName} {bytes : ByteArray} {mx : Nat} {rt : Option FieldType} {a : Array Value} {s : State} {m : MethodId} {meth : Method} {c : Code} (h1 : s.methodNamed? y = some m) (h2 : s.vm.method? m = some meth) (h3 : meth.code = some c) (h4 : c.code = bytes)
    (h5 : (c.maxLocals == mx && c.exceptionTable.isEmpty && decide (c.maxStack ≤ mostOperands) && decide (meth.sig.returnType = rt) && !meth.locks && decide (parseMethodDescriptor y.desc = some meth.sig)) = true) : (Jvm.Cond.code y bytes mx rt).before a s = true := by
  simp only [Bool.and_eq_true, beq_iff_eq, Bool.not_eq_true', decide_eq_true_eq] at h5
  obtain ⟨⟨⟨⟨⟨g1, g2⟩, g3⟩, g4⟩, g5⟩, g6⟩ := h5
  simp [Cond.before, Cond.holds, Cond.value, h1, h2, h3, h4, g1, g2, g3, g4, g5, g6]
def isCode : Jvm.Cond → Bool
  | .code _ _ _ _ => true
  | _ => false
theorem all_split {L : List Jvm.Cond} {P : Jvm.Cond → Bool} (h1 : L.all (fun c => isCode c || P c) = true) (h2 : ∀ c ∈ L.filter isCode, P c = true) : L.all P = true := by
  refine List.all_eq_true.mpr fun c hc => ?_
  have h := List.all_eq_true.mp h1 c hc
  rcases Bool.eq_false_or_eq_true (isCode c) with hi | hi
  · exact h2 c (List.mem_filter.mpr ⟨hc, hi⟩)
  · simpa [hi] using h
set_option maxRecDepth 65536 in
theorem w_c0 : (Jvm.Cond.code x code maxLocals ret).before args0 about1 = true := code_word (m := ⟨1, 2⟩) (meth := k1m2) (c := k1c2) (by decide +kernel) rfl rfl rfl (by decide +kernel)
set_option maxRecDepth 65536 in
theorem w_c1 : (Jvm.Cond.code ({ cls := "com/example/impatiens/impatiens/net/Names", name := "isPlainCharacter", desc := "(I)Z" } : Jvm.MethodName) prog_37_method_2_code (1 : Nat) (Option.some Jvm.ClassFile.FieldType.boolean)).before args0 about1 = true := code_word (m := ⟨2, 1⟩) (meth := k2m1) (c := k2c1) (by decide +kernel) rfl rfl rfl (by decide +kernel)
set_option maxRecDepth 65536 in
theorem w_c2 : (Jvm.Cond.code ({ cls := "com/example/impatiens/impatiens/net/NamesIsPlainCharacterPinLaw", name := "reference", desc := "(I)Z" } : Jvm.MethodName) method_2_code (3 : Nat) (Option.some Jvm.ClassFile.FieldType.boolean)).before args0 about1 = true := code_word (m := ⟨1, 1⟩) (meth := k1m1) (c := k1c1) (by decide +kernel) rfl rfl rfl (by decide +kernel)
def codes1 : List Jvm.Cond := [Jvm.Cond.code x code maxLocals ret, Jvm.Cond.code ({ cls := "com/example/impatiens/impatiens/net/Names", name := "isPlainCharacter", desc := "(I)Z" } : Jvm.MethodName) prog_37_method_2_code (1 : Nat) (Option.some Jvm.ClassFile.FieldType.boolean), Jvm.Cond.code ({ cls := "com/example/impatiens/impatiens/net/NamesIsPlainCharacterPinLaw", name := "reference", desc := "(I)Z" } : Jvm.MethodName) method_2_code (3 : Nat) (Option.some Jvm.ClassFile.FieldType.boolean)]
set_option maxRecDepth 65536 in
theorem codes_eq : words1.filter isCode = codes1 := rfl
theorem w_codes : ∀ c ∈ words1.filter isCode, c.before args0 about1 = true := by
  rw [codes_eq]
  intro c hc
  simp only [codes1, List.mem_cons, List.not_mem_nil, or_false] at hc
  rcases hc with rfl | rfl | rfl
  · exact w_c0
  · exact w_c1
  · exact w_c2
set_option maxRecDepth 65536 in
theorem w_t1 : words1.all (fun c => isCode c || c.before args0 about1) = true := by decide +kernel
theorem w_tables : (allAtoms (Jvm.Cond.code x code maxLocals ret :: tables_1)).before args0 about1 = true := by
  rw [allAtoms_all]
  show words1.all (fun c => c.before args0 about1) = true
  refine all_split ?_ w_codes
  rw [w_t1]
set_option maxRecDepth 65536 in
theorem w_case : (Jvm.Cond.and given_1 narrow_1).before args0 about1 = true := by decide +kernel
theorem w_applies : (headSpec (Jvm.Cond.code x code maxLocals ret :: tables_1) room_1).applies x e0.platform about1 = true :=
  (Spec.applies_iff w_frames).mpr ⟨w_running, w_runnable, w_alone, w_named, w_hears, w_ripe, w_room, w_tables⟩
theorem atStart : AtStart classFile x code maxLocals ret World_1 tables_1 room_1 Calls_1 rest_1 Pre_1 launch0 p0 e0 about1 theMethod args0 below0 :=
  ⟨lists_1, trivial, launch0.admits_env _ _ _, launch0.least_env, fairChoices_fair.cas, fairChoices_fair.clock, w_frames, w_args, w_heap, w_applies, trivial, trivial, w_case⟩
end start1
theorem witness_1 : WitnessClaimed_1 := ⟨start1.p0, start1.e0, start1.about1, start1.theMethod, start1.args0, start1.below0, start1.atStart⟩
end Jvm.Pilot.@@N@@
