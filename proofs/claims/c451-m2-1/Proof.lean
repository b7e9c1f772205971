import JvmDerived
import JvmDerived.Pilot.@@N@@Statement
import JvmDerived.Pilot.@@N@@Code
set_option linter.unusedVariables false
set_option linter.unusedSimpArgs false
namespace Jvm.RoadKit
open Sem ClassFile Op Lib Jvm.Stand Jvm.Free Jvm.LawKit
section New
variable {p : Program} {l : Launch} {e : Env} {R : Room} {s : State} {m : MethodId} {args : Array Value} {below : List Frame} {meth : Method} {c : Code} {T : State} {locs : List Loc} {cells slots : Nat}
theorem retI (X : Stand p l e R s m args below meth c T locs cells slots) (hx : p.tables.exec = Jvm.exec) {pc : Nat} {Ls : Array Slot} {z : Int32} {rest : List Value} (hret : meth.sig.returnType = some .int) (hd : decode c.code pc = .ok (.ireturn, 1)) {fs : List Frame}
    (hl : ∀ (f : JFrame) (acts : List Action), f.method = m → f.locked = none → f.entered = [] → (doReturn e (T.setTop f) acts (some (.int z))).1 = T.setFrames fs) : Steps p.tables e below (T.setTop (mkF m pc Ls (.int z :: rest))) (T.setFrames fs) := by
  have hm' : T.vm.method? m = some meth := X.method'
  have hn : narrow .int (.int z) = .int z := rfl
  show Steps p.tables e below (T.setTop { method := m, pc := pc, locals := Ls, stack := _ :: rest, locked := none }) _
  jvm_step X.here [X.here.top, hx, hd, hm', hret, hn]
  first | (intro acts; rw [hl _ acts rfl rfl rfl]) | rw [hl _ _ rfl rfl rfl]
  exact Steps.refl _
theorem own_retL (X : Stand p l e R s m args below meth c T locs cells slots) (hx : p.tables.exec = Jvm.exec) {pc : Nat} {Ls : Array Slot} {z : Int64} {rest : List Value} (hret : meth.sig.returnType = some .long) (hd : decode c.code pc = .ok (.lreturn, 1)) {fs : List Frame}
    (hl : ∀ (f : JFrame) (acts : List Action), f.method = m → f.locked = none → f.entered = [] → (doReturn e (T.setTop f) acts (some (.long z))).1 = T.setFrames fs) : Steps p.tables e below (T.setTop (mkF m pc Ls (.long z :: rest))) (T.setFrames fs) :=
  retOut X hx hret rfl (Or.inr (Or.inl ⟨rfl, rfl, z, rfl⟩)) hd hl
/-- from the state T with the frame g on top the run comes to the invocation's end, returns v, and Q and the frame's bounds hold there -/
def own_Goes (p : Program) (e : Env) (below : List Frame) (s : State) (Q : Option Value → Heap → List Loc → Prop) (k n : Nat) (T : State) (g : JFrame) : Prop :=
  ∃ s₂ o, Steps p.tables e below (T.setTop g) s₂ ∧ s₂.status = .running ∧ Ended s₂ below o ∧ ∃ v L, o = .returned v ∧ Q v s₂.heap L ∧ FrameEnd s o s₂ L k n
theorem own_step {Q : Option Value → Heap → List Loc → Prop} {k n : Nat} {T T' : State} {g g' : JFrame} (h : ∀ t, Steps p.tables e below (T'.setTop g') t → Steps p.tables e below (T.setTop g) t) (w : own_Goes p e below s Q k n T' g') : own_Goes p e below s Q k n T g := by
  obtain ⟨s₂, o, h1, r⟩ := w
  exact ⟨s₂, o, h _ h1, r⟩
theorem own_ret {x : MethodName} {S : Spec} {code : ByteArray} {maxLocals : Nat} {ret : Option FieldType} {s₁ : State} (X : Stand p l e R s m args below meth c T locs cells slots) (Bd : BodyLoose p l x S code maxLocals ret e s m args below meth c s₁) {v : Option Value} (hv : meth.sig.returnType = none → v = none) {g : JFrame}
    (hst : ∀ fs, (∀ (f : JFrame) (acts : List Action), f.method = m → f.locked = none → f.entered = [] → (doReturn e (T.setTop f) acts v).1 = T.setFrames fs) → Steps p.tables e below (T.setTop g) (T.setFrames fs)) {Q : Option Value → Heap → List Loc → Prop} (hQ : Q v T.heap locs) {k n : Nat} (hk : cells ≤ k) (hn : slots ≤ n) : own_Goes p e below s Q k n T g := by
  obtain ⟨fs, hr, hrun, hended, hW, hsame⟩ := X.leave (v := v) hv
  exact ⟨_, _, hst fs hr, hrun, hended, _, _, rfl, hQ, ⟨_, rfl⟩, hW, hsame.mono hk hn⟩
/-- what a body leaves that writes nothing: the value r, the heap as it was -/
def own_Pure (r : Value) (h0 : Heap) (n0 : Nat) (v : Option Value) (h : Heap) (L : List Loc) : Prop := v = some r ∧ Fr n0 L ∧ h = h0
/-- what the law leaves -/
def own_Law (n0 : Nat) (v : Option Value) (_ : Heap) (L : List Loc) : Prop := v = some (.int 1) ∧ Fr n0 L
theorem own_lsw {tb : Tables} [Ours tb] {T target : State} {g : JFrame} (h : At T m c below) (hx : tb.exec = Jvm.exec) (hg : g.method = m) {d : Int} {prs : Array (Int × Int)} {ln : Nat} {x : Int32} {rest : List Value} {pc0 pc' : Nat} (hpc : g.pc = pc0) (hd : decode c.code g.pc = .ok (.lookupswitch d prs, ln)) (hs : g.stack = .int x :: rest)
    (hsort : (prs.toList.zip (prs.toList.drop 1)).all (fun (a, next) => a.1 < next.1) = true) {o : Int} (hoff : lookupswitch.offset prs.toList d x.toInt = o) (ho : 0 ≤ (pc0 : Int) + o) (hp : ((pc0 : Int) + o).toNat = pc')
    (hr : Steps tb e below (T.setTop { g with pc := pc', stack := rest }) target) : Steps tb e below (T.setTop g) target := by
  subst hg hpc hp
  jvm_step h [h.top, hx, hd, hs, hoff, ho]
  exact ⟨fun a b a1 b1 hm => by
    have q := List.all_eq_true.mp hsort ((a, b), a1, b1) (by simpa [List.drop_one] using hm)
    simpa using q, hr⟩
theorem own_ne {z k : Int32} {i : Int} (h : ¬ z = k) (hk : k.toInt = i) : ¬ i = z.toInt := fun q => h (Int32.toInt_inj.mp (q.symm.trans hk.symm))
end New
theorem own_getD (ws : List Int32) (i : Nat) : (ws.map Value.int).getD i (.int (0 : Int32)) = .int (ws.getD i (0 : Int32)) := by
  induction ws generalizing i with
  | nil => rfl
  | cons a r ih => cases i with
    | zero => rfl
    | succ j => exact ih j
end Jvm.RoadKit
namespace Jvm.Pilot.@@N@@
open Jvm Jvm.ClassFile Sem Op Lib Jvm.Free Jvm.Stand Jvm.LawKit Jvm.RoadKit Bundle Jvm.Pilot.@@N@@.Jvm.D
theorem pd_0 : parseMethodDescriptor "(C)I" = some ⟨[.char], some .int⟩ := by decide +kernel
theorem pd_1 : parseMethodDescriptor "(I)I" = some ⟨[.int], some .int⟩ := by decide +kernel
theorem d1_0 : decode prog_146_method_12_code 0 = .ok (.iload_n 0, 1) := by decide +kernel
theorem d1_1 : decode prog_146_method_12_code 1 = .ok (.lookupswitch 104 #[(34, 100), (39, 100), (92, 100), (98, 80), (102, 95), (110, 85), (114, 90), (116, 75)], 75) := by decide +kernel
theorem d1_76 : decode prog_146_method_12_code 76 = .ok (.bipush 9, 2) := by decide +kernel
theorem d1_78 : decode prog_146_method_12_code 78 = .ok (.goto 28, 3) := by decide +kernel
theorem d1_81 : decode prog_146_method_12_code 81 = .ok (.bipush 8, 2) := by decide +kernel
theorem d1_83 : decode prog_146_method_12_code 83 = .ok (.goto 23, 3) := by decide +kernel
theorem d1_86 : decode prog_146_method_12_code 86 = .ok (.bipush 10, 2) := by decide +kernel
theorem d1_88 : decode prog_146_method_12_code 88 = .ok (.goto 18, 3) := by decide +kernel
theorem d1_91 : decode prog_146_method_12_code 91 = .ok (.bipush 13, 2) := by decide +kernel
theorem d1_93 : decode prog_146_method_12_code 93 = .ok (.goto 13, 3) := by decide +kernel
theorem d1_96 : decode prog_146_method_12_code 96 = .ok (.bipush 12, 2) := by decide +kernel
theorem d1_98 : decode prog_146_method_12_code 98 = .ok (.goto 8, 3) := by decide +kernel
theorem d1_101 : decode prog_146_method_12_code 101 = .ok (.iload_n 0, 1) := by decide +kernel
theorem d1_102 : decode prog_146_method_12_code 102 = .ok (.goto 4, 3) := by decide +kernel
theorem d1_105 : decode prog_146_method_12_code 105 = .ok (.iconst (-1), 1) := by decide +kernel
theorem d1_106 : decode prog_146_method_12_code 106 = .ok (.ireturn, 1) := by decide +kernel
theorem pn_1 : plainName "com/example/graphwright/graphwright/model/Terminals" = true := by first | (simp [plainName, overriddenIn]; done) | decide +kernel
theorem ef_1 (m : MethodId) (x0 : Int32) : entryFrame m #[(.int x0)] 1 = mkF m 0 #[.val (.int x0)] [] := by first | (simp [entryFrame, mkF, argsToLocals, Value.category]; done) | rfl
theorem own_off1_1_0 {z : Int32} (h : z = (34 : Int32)) : lookupswitch.offset [((34 : Int), (100 : Int)), ((39 : Int), (100 : Int)), ((92 : Int), (100 : Int)), ((98 : Int), (80 : Int)), ((102 : Int), (95 : Int)), ((110 : Int), (85 : Int)), ((114 : Int), (90 : Int)), ((116 : Int), (75 : Int))] 104 z.toInt = 100 := by subst h; decide
theorem own_off1_1_1 {z : Int32} (h : z = (39 : Int32)) : lookupswitch.offset [((34 : Int), (100 : Int)), ((39 : Int), (100 : Int)), ((92 : Int), (100 : Int)), ((98 : Int), (80 : Int)), ((102 : Int), (95 : Int)), ((110 : Int), (85 : Int)), ((114 : Int), (90 : Int)), ((116 : Int), (75 : Int))] 104 z.toInt = 100 := by subst h; decide
theorem own_off1_1_2 {z : Int32} (h : z = (92 : Int32)) : lookupswitch.offset [((34 : Int), (100 : Int)), ((39 : Int), (100 : Int)), ((92 : Int), (100 : Int)), ((98 : Int), (80 : Int)), ((102 : Int), (95 : Int)), ((110 : Int), (85 : Int)), ((114 : Int), (90 : Int)), ((116 : Int), (75 : Int))] 104 z.toInt = 100 := by subst h; decide
theorem own_off1_1_3 {z : Int32} (h : z = (98 : Int32)) : lookupswitch.offset [((34 : Int), (100 : Int)), ((39 : Int), (100 : Int)), ((92 : Int), (100 : Int)), ((98 : Int), (80 : Int)), ((102 : Int), (95 : Int)), ((110 : Int), (85 : Int)), ((114 : Int), (90 : Int)), ((116 : Int), (75 : Int))] 104 z.toInt = 80 := by subst h; decide
theorem own_off1_1_4 {z : Int32} (h : z = (102 : Int32)) : lookupswitch.offset [((34 : Int), (100 : Int)), ((39 : Int), (100 : Int)), ((92 : Int), (100 : Int)), ((98 : Int), (80 : Int)), ((102 : Int), (95 : Int)), ((110 : Int), (85 : Int)), ((114 : Int), (90 : Int)), ((116 : Int), (75 : Int))] 104 z.toInt = 95 := by subst h; decide
theorem own_off1_1_5 {z : Int32} (h : z = (110 : Int32)) : lookupswitch.offset [((34 : Int), (100 : Int)), ((39 : Int), (100 : Int)), ((92 : Int), (100 : Int)), ((98 : Int), (80 : Int)), ((102 : Int), (95 : Int)), ((110 : Int), (85 : Int)), ((114 : Int), (90 : Int)), ((116 : Int), (75 : Int))] 104 z.toInt = 85 := by subst h; decide
theorem own_off1_1_6 {z : Int32} (h : z = (114 : Int32)) : lookupswitch.offset [((34 : Int), (100 : Int)), ((39 : Int), (100 : Int)), ((92 : Int), (100 : Int)), ((98 : Int), (80 : Int)), ((102 : Int), (95 : Int)), ((110 : Int), (85 : Int)), ((114 : Int), (90 : Int)), ((116 : Int), (75 : Int))] 104 z.toInt = 90 := by subst h; decide
theorem own_off1_1_7 {z : Int32} (h : z = (116 : Int32)) : lookupswitch.offset [((34 : Int), (100 : Int)), ((39 : Int), (100 : Int)), ((92 : Int), (100 : Int)), ((98 : Int), (80 : Int)), ((102 : Int), (95 : Int)), ((110 : Int), (85 : Int)), ((114 : Int), (90 : Int)), ((116 : Int), (75 : Int))] 104 z.toInt = 75 := by subst h; decide
theorem own_off1_1_d {z : Int32} (h0 : ¬ z = (34 : Int32)) (h1 : ¬ z = (39 : Int32)) (h2 : ¬ z = (92 : Int32)) (h3 : ¬ z = (98 : Int32)) (h4 : ¬ z = (102 : Int32)) (h5 : ¬ z = (110 : Int32)) (h6 : ¬ z = (114 : Int32)) (h7 : ¬ z = (116 : Int32)) : lookupswitch.offset [((34 : Int), (100 : Int)), ((39 : Int), (100 : Int)), ((92 : Int), (100 : Int)), ((98 : Int), (80 : Int)), ((102 : Int), (95 : Int)), ((110 : Int), (85 : Int)), ((114 : Int), (90 : Int)), ((116 : Int), (75 : Int))] 104 z.toInt = 104 := by
  simp only [lookupswitch.offset_cons, lookupswitch.offset_nil]
  rw [if_neg (own_ne (k := (34 : Int32)) h0 (by decide))]
  rw [if_neg (own_ne (k := (39 : Int32)) h1 (by decide))]
  rw [if_neg (own_ne (k := (92 : Int32)) h2 (by decide))]
  rw [if_neg (own_ne (k := (98 : Int32)) h3 (by decide))]
  rw [if_neg (own_ne (k := (102 : Int32)) h4 (by decide))]
  rw [if_neg (own_ne (k := (110 : Int32)) h5 (by decide))]
  rw [if_neg (own_ne (k := (114 : Int32)) h6 (by decide))]
  rw [if_neg (own_ne (k := (116 : Int32)) h7 (by decide))]
def f1_106 (t0 : Int32) : Int32 := t0
def f1_105 : Int32 := f1_106 (-1 : Int32)
def f1_101 (x0 : Int32) : Int32 := f1_106 x0
def f1_96 : Int32 := f1_106 (12 : Int32)
def f1_91 : Int32 := f1_106 (13 : Int32)
def f1_86 : Int32 := f1_106 (10 : Int32)
def f1_81 : Int32 := f1_106 (8 : Int32)
def f1_76 : Int32 := f1_106 (9 : Int32)
def f1_0 (x0 : Int32) : Int32 := if x0 = (34 : Int32) then f1_101 x0 else if x0 = (39 : Int32) then f1_101 x0 else if x0 = (92 : Int32) then f1_101 x0 else if x0 = (98 : Int32) then f1_81 else if x0 = (102 : Int32) then f1_96 else if x0 = (110 : Int32) then f1_86 else if x0 = (114 : Int32) then f1_91 else if x0 = (116 : Int32) then f1_76 else f1_105
theorem d2_0 : decode method_3_code 0 = .ok (.iload_n 0, 1) := by decide +kernel
theorem d2_1 : decode method_3_code 1 = .ok (.bipush 116, 2) := by decide +kernel
theorem d2_3 : decode method_3_code 3 = .ok (.if_icmp .ne 6, 3) := by decide +kernel
theorem d2_6 : decode method_3_code 6 = .ok (.bipush 9, 2) := by decide +kernel
theorem d2_8 : decode method_3_code 8 = .ok (.ireturn, 1) := by decide +kernel
theorem d2_9 : decode method_3_code 9 = .ok (.iload_n 0, 1) := by decide +kernel
theorem d2_10 : decode method_3_code 10 = .ok (.bipush 98, 2) := by decide +kernel
theorem d2_12 : decode method_3_code 12 = .ok (.if_icmp .ne 6, 3) := by decide +kernel
theorem d2_15 : decode method_3_code 15 = .ok (.bipush 8, 2) := by decide +kernel
theorem d2_17 : decode method_3_code 17 = .ok (.ireturn, 1) := by decide +kernel
theorem d2_18 : decode method_3_code 18 = .ok (.iload_n 0, 1) := by decide +kernel
theorem d2_19 : decode method_3_code 19 = .ok (.bipush 110, 2) := by decide +kernel
theorem d2_21 : decode method_3_code 21 = .ok (.if_icmp .ne 6, 3) := by decide +kernel
theorem d2_24 : decode method_3_code 24 = .ok (.bipush 10, 2) := by decide +kernel
theorem d2_26 : decode method_3_code 26 = .ok (.ireturn, 1) := by decide +kernel
theorem d2_27 : decode method_3_code 27 = .ok (.iload_n 0, 1) := by decide +kernel
theorem d2_28 : decode method_3_code 28 = .ok (.bipush 114, 2) := by decide +kernel
theorem d2_30 : decode method_3_code 30 = .ok (.if_icmp .ne 6, 3) := by decide +kernel
theorem d2_33 : decode method_3_code 33 = .ok (.bipush 13, 2) := by decide +kernel
theorem d2_35 : decode method_3_code 35 = .ok (.ireturn, 1) := by decide +kernel
theorem d2_36 : decode method_3_code 36 = .ok (.iload_n 0, 1) := by decide +kernel
theorem d2_37 : decode method_3_code 37 = .ok (.bipush 102, 2) := by decide +kernel
theorem d2_39 : decode method_3_code 39 = .ok (.if_icmp .ne 6, 3) := by decide +kernel
theorem d2_42 : decode method_3_code 42 = .ok (.bipush 12, 2) := by decide +kernel
theorem d2_44 : decode method_3_code 44 = .ok (.ireturn, 1) := by decide +kernel
theorem d2_45 : decode method_3_code 45 = .ok (.iload_n 0, 1) := by decide +kernel
theorem d2_46 : decode method_3_code 46 = .ok (.bipush 34, 2) := by decide +kernel
theorem d2_48 : decode method_3_code 48 = .ok (.if_icmp .eq 15, 3) := by decide +kernel
theorem d2_51 : decode method_3_code 51 = .ok (.iload_n 0, 1) := by decide +kernel
theorem d2_52 : decode method_3_code 52 = .ok (.bipush 39, 2) := by decide +kernel
theorem d2_54 : decode method_3_code 54 = .ok (.if_icmp .eq 9, 3) := by decide +kernel
theorem d2_57 : decode method_3_code 57 = .ok (.iload_n 0, 1) := by decide +kernel
theorem d2_58 : decode method_3_code 58 = .ok (.bipush 92, 2) := by decide +kernel
theorem d2_60 : decode method_3_code 60 = .ok (.if_icmp .ne 5, 3) := by decide +kernel
theorem d2_63 : decode method_3_code 63 = .ok (.iload_n 0, 1) := by decide +kernel
theorem d2_64 : decode method_3_code 64 = .ok (.ireturn, 1) := by decide +kernel
theorem d2_65 : decode method_3_code 65 = .ok (.iconst (-1), 1) := by decide +kernel
theorem d2_66 : decode method_3_code 66 = .ok (.ireturn, 1) := by decide +kernel
theorem pn_2 : plainName "com/example/graphwright/graphwright/model/TerminalsEcharPinLaw" = true := by first | (simp [plainName, overriddenIn]; done) | decide +kernel
theorem ef_2 (m : MethodId) (x0 : Int32) : entryFrame m #[(.int x0)] 1 = mkF m 0 #[.val (.int x0)] [] := by first | (simp [entryFrame, mkF, argsToLocals, Value.category]; done) | rfl
def f2_65 : Int32 := (-1 : Int32)
def f2_63 (x0 : Int32) : Int32 := x0
def f2_57 (x0 : Int32) : Int32 := if x0 = (92 : Int32) then f2_63 x0 else f2_65
def f2_51 (x0 : Int32) : Int32 := if x0 = (39 : Int32) then f2_63 x0 else f2_57 x0
def f2_45 (x0 : Int32) : Int32 := if x0 = (34 : Int32) then f2_63 x0 else f2_51 x0
def f2_42 : Int32 := (12 : Int32)
def f2_36 (x0 : Int32) : Int32 := if x0 = (102 : Int32) then f2_42 else f2_45 x0
def f2_33 : Int32 := (13 : Int32)
def f2_27 (x0 : Int32) : Int32 := if x0 = (114 : Int32) then f2_33 else f2_36 x0
def f2_24 : Int32 := (10 : Int32)
def f2_18 (x0 : Int32) : Int32 := if x0 = (110 : Int32) then f2_24 else f2_27 x0
def f2_15 : Int32 := (8 : Int32)
def f2_9 (x0 : Int32) : Int32 := if x0 = (98 : Int32) then f2_15 else f2_18 x0
def f2_6 : Int32 := (9 : Int32)
def f2_0 (x0 : Int32) : Int32 := if x0 = (116 : Int32) then f2_6 else f2_9 x0
theorem pn_0 : plainName "com/example/graphwright/graphwright/model/TerminalsEcharPinLaw" = true := by first | (simp [plainName, overriddenIn]; done) | decide +kernel
theorem ef_0 (m : MethodId) (x0 : Int32) (x1 : Int32) : entryFrame m #[(.int x0), (.int x1)] maxLocals = mkF m 0 #[.val (.int x0), .val (.int x1), .unset, .unset, .unset, .unset] [] := by first | (simp [entryFrame, mkF, argsToLocals, Value.category, maxLocals]; done) | rfl
def own_a0_60 : List Int32 := [116, 98, 110, 114, 102, 34, 39, 92]
def f0_93 (t0 : Int32) : Int32 := (t0 &&& 1)
def f0_92 : Int32 := f0_93 (0 : Int32)
def f0_88 : Int32 := f0_93 (1 : Int32)
def f0_69 (t0 : Int32) : Int32 := if (f1_0 t0) = (f2_0 t0) then f0_88 else f0_92
def f0_64 (x1 : Int32) : Int32 := f0_69 ((x1 &&& (65535 : Int32)).toUInt32.toUInt16.toUInt32.toInt32)
def f0_58 (x3 : Int32) : Int32 := f0_69 (own_a0_60.getD x3.toNatClampNeg (0 : Int32))
def f0_0 (x0 : Int32) (x1 : Int32) : Int32 := if (x0 &&& (15 : Int32)) < (8 : Int32) then f0_58 (x0 &&& (15 : Int32)) else f0_64 x1
-- the plain law: no program in sight
theorem own_hy0_58 {x : Int32} (h : (x &&& (15 : Int32)) < (8 : Int32)) : ¬ (x &&& (15 : Int32)) < 0 ∧ (x &&& (15 : Int32)) < (8 : Int32) := by
  refine ⟨?_, h⟩
  have e : (x &&& (15 : Int32)).toInt = ((x.toBitVec &&& 15#32).toNat : Int) := by
    show (x.toBitVec &&& 15#32).toInt = _
    rw [BitVec.toInt_eq_toNat_of_lt]
    have := BitVec.toNat_and x.toBitVec 15#32
    have h2 : (x.toBitVec.toNat &&& 15) ≤ 15 := Nat.and_le_right
    rw [this]
    show 2 * (x.toBitVec.toNat &&& 15) < 2 ^ 32
    omega
  rw [Int32.lt_iff_toInt_lt, e]
  simp only [Int32.reduceToInt]
  omega
theorem own_same (c : Int32) : f1_0 c = f2_0 c := by
  simp only [f1_0, f1_101, f1_106, f1_105, f1_96, f1_91, f1_86, f1_81, f1_76, f2_0, f2_6, f2_9, f2_15, f2_18, f2_24, f2_27, f2_33, f2_36, f2_42, f2_45, f2_51, f2_57, f2_63, f2_65]
  repeat' split
  all_goals first
    | rfl
    | (exfalso; simp_all only [← Int32.toInt_inj, Int32.reduceToInt]; omega)
    | grind
theorem own_law (c k : Int32) : f0_0 c k = 1 := by
  simp only [f0_0, f0_58, f0_64, f0_69, own_same, if_true, ite_self]
  decide
-- the walks
set_option maxRecDepth 65536 in
set_option maxHeartbeats 40000000 in
theorem rm1 (l : Launch) (Z : State) (a0 : Array Value) (hw : ∀ d ∈ tables_1, d.before a0 Z = true) (ws : List Jvm.Cond) (p0 : Int32) (h0 : Heap) (n0 : Nat) (Z0 : n0 ≤ h0.size) :
    MetFree l (⟨"com/example/graphwright/graphwright/model/Terminals", "echar", "(C)I"⟩ : MethodName) (head1 (Jvm.Cond.code (⟨"com/example/graphwright/graphwright/model/Terminals", "echar", "(C)I"⟩ : MethodName) prog_146_method_12_code 1 (some .int) :: ws) ({ frames := 0, cells := 0, slots := 0, locals := 0 } : Room)) (fun a U => a = #[(.int p0)] ∧ Z.Warmed39 U.vm ∧ U.heap = h0) (fun _ _ _ _ _ => True) (fun _ U o U' => ∃ v L, o = .returned v ∧ own_Pure ((.int (f1_0 p0))) h0 n0 v U'.heap L ∧ FrameEnd U o U' L ({ frames := 0, cells := 0, slots := 0, locals := 0 } : Room).cells ({ frames := 0, cells := 0, slots := 0, locals := 0 } : Room).slots) := by
  refine MetFree.of_bodySF (plainFor_of_name pn_1) hisR ?_
  intro p e s m args below meth c s₁ Bd hml0 hP hK
  obtain ⟨rfl, hZ, hh0⟩ := hP
  have hx := Bd.exec
  have hby := Bd.bytes
  have hml : c.maxLocals = 1 := hml0
  have hown : s.vm.findClass "com/example/graphwright/graphwright/model/Terminals" = some m.cls := findClass_of_methodNamed Bd.named
  have X00 : Stand p l e ({ frames := 0, cells := 0, slots := 0, locals := 0 } : Room) s m #[(.int p0)] below meth c s₁ [] 0 0 := Stand.of_body Bd
  have e00 : s₁.heap = h0 := by rw [← hh0, Bd.state]; rfl
  have B106 : ∀ (T0 : State) (locs : List Loc) (x0 : Int32) (t0 : Int32), Stand p l e ({ frames := 0, cells := 0, slots := 0, locals := 0 } : Room) s m #[(.int p0)] below meth c T0 locs 0 0 → T0.heap = h0 → Fr n0 locs → f1_106 t0 = f1_0 p0 → own_Goes p e below s (own_Pure ((.int (f1_0 p0))) h0 n0) ({ frames := 0, cells := 0, slots := 0, locals := 0 } : Room).cells ({ frames := 0, cells := 0, slots := 0, locals := 0 } : Room).slots T0 (mkF m 106 #[.val (.int x0)] [(.int t0)]) := by
    intro T0 locs x0 t0   X0 e0 N0 hf
    exact own_ret X0 Bd (v := some (.int t0)) (fun q => by rw [Bd.returns] at q; cases q) (fun fs q => retI X0 hx Bd.returns (hb hby d1_106) q) (show own_Pure ((.int (f1_0 p0))) h0 n0 _ _ _ from ⟨congrArg (fun z => some (Value.int z)) hf, N0, e0⟩) (by decide) (by decide)
  have B105 : ∀ (T0 : State) (locs : List Loc) (x0 : Int32), Stand p l e ({ frames := 0, cells := 0, slots := 0, locals := 0 } : Room) s m #[(.int p0)] below meth c T0 locs 0 0 → T0.heap = h0 → Fr n0 locs → f1_105 = f1_0 p0 → own_Goes p e below s (own_Pure ((.int (f1_0 p0))) h0 n0) ({ frames := 0, cells := 0, slots := 0, locals := 0 } : Room).cells ({ frames := 0, cells := 0, slots := 0, locals := 0 } : Room).slots T0 (mkF m 105 #[.val (.int x0)] []) := by
    intro T0 locs x0   X0 e0 N0 hf
    refine own_step (T' := T0) (g' := (mkF m 106 #[.val (.int x0)] [(.int (-1 : Int32))])) (fun _ k => XS.iconst X0.here hx rfl (hb hby d1_105) k) ?_
    exact B106 T0 _ x0 (-1 : Int32)   X0 e0 N0 hf
  have B101 : ∀ (T0 : State) (locs : List Loc) (x0 : Int32), Stand p l e ({ frames := 0, cells := 0, slots := 0, locals := 0 } : Room) s m #[(.int p0)] below meth c T0 locs 0 0 → T0.heap = h0 → Fr n0 locs → f1_101 x0 = f1_0 p0 → own_Goes p e below s (own_Pure ((.int (f1_0 p0))) h0 n0) ({ frames := 0, cells := 0, slots := 0, locals := 0 } : Room).cells ({ frames := 0, cells := 0, slots := 0, locals := 0 } : Room).slots T0 (mkF m 101 #[.val (.int x0)] []) := by
    intro T0 locs x0   X0 e0 N0 hf
    refine own_step (T' := T0) (g' := (mkF m 102 #[.val (.int x0)] [(.int x0)])) (fun _ k => XS.iloadN X0.here hx rfl (hb hby d1_101) rfl k) ?_
    refine own_step (T' := T0) (g' := (mkF m 106 #[.val (.int x0)] [(.int x0)])) (fun _ k => XS.goto X0.here hx rfl (pc0 := 102) (pc' := 106) rfl (hb hby d1_102) (by decide) (by decide) k) ?_
    exact B106 T0 _ x0 x0   X0 e0 N0 hf
  have B96 : ∀ (T0 : State) (locs : List Loc) (x0 : Int32), Stand p l e ({ frames := 0, cells := 0, slots := 0, locals := 0 } : Room) s m #[(.int p0)] below meth c T0 locs 0 0 → T0.heap = h0 → Fr n0 locs → f1_96 = f1_0 p0 → own_Goes p e below s (own_Pure ((.int (f1_0 p0))) h0 n0) ({ frames := 0, cells := 0, slots := 0, locals := 0 } : Room).cells ({ frames := 0, cells := 0, slots := 0, locals := 0 } : Room).slots T0 (mkF m 96 #[.val (.int x0)] []) := by
    intro T0 locs x0   X0 e0 N0 hf
    refine own_step (T' := T0) (g' := (mkF m 98 #[.val (.int x0)] [(.int (12 : Int32))])) (fun _ k => XS.bipush X0.here hx rfl (hb hby d1_96) k) ?_
    refine own_step (T' := T0) (g' := (mkF m 106 #[.val (.int x0)] [(.int (12 : Int32))])) (fun _ k => XS.goto X0.here hx rfl (pc0 := 98) (pc' := 106) rfl (hb hby d1_98) (by decide) (by decide) k) ?_
    exact B106 T0 _ x0 (12 : Int32)   X0 e0 N0 hf
  have B91 : ∀ (T0 : State) (locs : List Loc) (x0 : Int32), Stand p l e ({ frames := 0, cells := 0, slots := 0, locals := 0 } : Room) s m #[(.int p0)] below meth c T0 locs 0 0 → T0.heap = h0 → Fr n0 locs → f1_91 = f1_0 p0 → own_Goes p e below s (own_Pure ((.int (f1_0 p0))) h0 n0) ({ frames := 0, cells := 0, slots := 0, locals := 0 } : Room).cells ({ frames := 0, cells := 0, slots := 0, locals := 0 } : Room).slots T0 (mkF m 91 #[.val (.int x0)] []) := by
    intro T0 locs x0   X0 e0 N0 hf
    refine own_step (T' := T0) (g' := (mkF m 93 #[.val (.int x0)] [(.int (13 : Int32))])) (fun _ k => XS.bipush X0.here hx rfl (hb hby d1_91) k) ?_
    refine own_step (T' := T0) (g' := (mkF m 106 #[.val (.int x0)] [(.int (13 : Int32))])) (fun _ k => XS.goto X0.here hx rfl (pc0 := 93) (pc' := 106) rfl (hb hby d1_93) (by decide) (by decide) k) ?_
    exact B106 T0 _ x0 (13 : Int32)   X0 e0 N0 hf
  have B86 : ∀ (T0 : State) (locs : List Loc) (x0 : Int32), Stand p l e ({ frames := 0, cells := 0, slots := 0, locals := 0 } : Room) s m #[(.int p0)] below meth c T0 locs 0 0 → T0.heap = h0 → Fr n0 locs → f1_86 = f1_0 p0 → own_Goes p e below s (own_Pure ((.int (f1_0 p0))) h0 n0) ({ frames := 0, cells := 0, slots := 0, locals := 0 } : Room).cells ({ frames := 0, cells := 0, slots := 0, locals := 0 } : Room).slots T0 (mkF m 86 #[.val (.int x0)] []) := by
    intro T0 locs x0   X0 e0 N0 hf
    refine own_step (T' := T0) (g' := (mkF m 88 #[.val (.int x0)] [(.int (10 : Int32))])) (fun _ k => XS.bipush X0.here hx rfl (hb hby d1_86) k) ?_
    refine own_step (T' := T0) (g' := (mkF m 106 #[.val (.int x0)] [(.int (10 : Int32))])) (fun _ k => XS.goto X0.here hx rfl (pc0 := 88) (pc' := 106) rfl (hb hby d1_88) (by decide) (by decide) k) ?_
    exact B106 T0 _ x0 (10 : Int32)   X0 e0 N0 hf
  have B81 : ∀ (T0 : State) (locs : List Loc) (x0 : Int32), Stand p l e ({ frames := 0, cells := 0, slots := 0, locals := 0 } : Room) s m #[(.int p0)] below meth c T0 locs 0 0 → T0.heap = h0 → Fr n0 locs → f1_81 = f1_0 p0 → own_Goes p e below s (own_Pure ((.int (f1_0 p0))) h0 n0) ({ frames := 0, cells := 0, slots := 0, locals := 0 } : Room).cells ({ frames := 0, cells := 0, slots := 0, locals := 0 } : Room).slots T0 (mkF m 81 #[.val (.int x0)] []) := by
    intro T0 locs x0   X0 e0 N0 hf
    refine own_step (T' := T0) (g' := (mkF m 83 #[.val (.int x0)] [(.int (8 : Int32))])) (fun _ k => XS.bipush X0.here hx rfl (hb hby d1_81) k) ?_
    refine own_step (T' := T0) (g' := (mkF m 106 #[.val (.int x0)] [(.int (8 : Int32))])) (fun _ k => XS.goto X0.here hx rfl (pc0 := 83) (pc' := 106) rfl (hb hby d1_83) (by decide) (by decide) k) ?_
    exact B106 T0 _ x0 (8 : Int32)   X0 e0 N0 hf
  have B76 : ∀ (T0 : State) (locs : List Loc) (x0 : Int32), Stand p l e ({ frames := 0, cells := 0, slots := 0, locals := 0 } : Room) s m #[(.int p0)] below meth c T0 locs 0 0 → T0.heap = h0 → Fr n0 locs → f1_76 = f1_0 p0 → own_Goes p e below s (own_Pure ((.int (f1_0 p0))) h0 n0) ({ frames := 0, cells := 0, slots := 0, locals := 0 } : Room).cells ({ frames := 0, cells := 0, slots := 0, locals := 0 } : Room).slots T0 (mkF m 76 #[.val (.int x0)] []) := by
    intro T0 locs x0   X0 e0 N0 hf
    refine own_step (T' := T0) (g' := (mkF m 78 #[.val (.int x0)] [(.int (9 : Int32))])) (fun _ k => XS.bipush X0.here hx rfl (hb hby d1_76) k) ?_
    refine own_step (T' := T0) (g' := (mkF m 106 #[.val (.int x0)] [(.int (9 : Int32))])) (fun _ k => XS.goto X0.here hx rfl (pc0 := 78) (pc' := 106) rfl (hb hby d1_78) (by decide) (by decide) k) ?_
    exact B106 T0 _ x0 (9 : Int32)   X0 e0 N0 hf
  have B0 : ∀ (T0 : State) (locs : List Loc) (x0 : Int32), Stand p l e ({ frames := 0, cells := 0, slots := 0, locals := 0 } : Room) s m #[(.int p0)] below meth c T0 locs 0 0 → T0.heap = h0 → Fr n0 locs → f1_0 x0 = f1_0 p0 → own_Goes p e below s (own_Pure ((.int (f1_0 p0))) h0 n0) ({ frames := 0, cells := 0, slots := 0, locals := 0 } : Room).cells ({ frames := 0, cells := 0, slots := 0, locals := 0 } : Room).slots T0 (mkF m 0 #[.val (.int x0)] []) := by
    intro T0 locs x0   X0 e0 N0 hf
    refine own_step (T' := T0) (g' := (mkF m 1 #[.val (.int x0)] [(.int x0)])) (fun _ k => XS.iloadN X0.here hx rfl (hb hby d1_0) rfl k) ?_
    by_cases hc0 : x0 = (34 : Int32)
    · refine own_step (T' := T0) (g' := (mkF m 101 #[.val (.int x0)] [])) (fun _ k => own_lsw X0.here hx rfl (pc0 := 1) (pc' := 101) rfl (hb hby d1_1) rfl (by decide) (o := 100) (own_off1_1_0 hc0) (by decide) (by decide) k) ?_
      exact B101 T0 _ x0   X0 e0 N0 ((if_pos hc0).symm.trans hf)
    by_cases hc1 : x0 = (39 : Int32)
    · refine own_step (T' := T0) (g' := (mkF m 101 #[.val (.int x0)] [])) (fun _ k => own_lsw X0.here hx rfl (pc0 := 1) (pc' := 101) rfl (hb hby d1_1) rfl (by decide) (o := 100) (own_off1_1_1 hc1) (by decide) (by decide) k) ?_
      exact B101 T0 _ x0   X0 e0 N0 ((if_pos hc1).symm.trans ((if_neg hc0).symm.trans hf))
    by_cases hc2 : x0 = (92 : Int32)
    · refine own_step (T' := T0) (g' := (mkF m 101 #[.val (.int x0)] [])) (fun _ k => own_lsw X0.here hx rfl (pc0 := 1) (pc' := 101) rfl (hb hby d1_1) rfl (by decide) (o := 100) (own_off1_1_2 hc2) (by decide) (by decide) k) ?_
      exact B101 T0 _ x0   X0 e0 N0 ((if_pos hc2).symm.trans ((if_neg hc1).symm.trans ((if_neg hc0).symm.trans hf)))
    by_cases hc3 : x0 = (98 : Int32)
    · refine own_step (T' := T0) (g' := (mkF m 81 #[.val (.int x0)] [])) (fun _ k => own_lsw X0.here hx rfl (pc0 := 1) (pc' := 81) rfl (hb hby d1_1) rfl (by decide) (o := 80) (own_off1_1_3 hc3) (by decide) (by decide) k) ?_
      exact B81 T0 _ x0   X0 e0 N0 ((if_pos hc3).symm.trans ((if_neg hc2).symm.trans ((if_neg hc1).symm.trans ((if_neg hc0).symm.trans hf))))
    by_cases hc4 : x0 = (102 : Int32)
    · refine own_step (T' := T0) (g' := (mkF m 96 #[.val (.int x0)] [])) (fun _ k => own_lsw X0.here hx rfl (pc0 := 1) (pc' := 96) rfl (hb hby d1_1) rfl (by decide) (o := 95) (own_off1_1_4 hc4) (by decide) (by decide) k) ?_
      exact B96 T0 _ x0   X0 e0 N0 ((if_pos hc4).symm.trans ((if_neg hc3).symm.trans ((if_neg hc2).symm.trans ((if_neg hc1).symm.trans ((if_neg hc0).symm.trans hf)))))
    by_cases hc5 : x0 = (110 : Int32)
    · refine own_step (T' := T0) (g' := (mkF m 86 #[.val (.int x0)] [])) (fun _ k => own_lsw X0.here hx rfl (pc0 := 1) (pc' := 86) rfl (hb hby d1_1) rfl (by decide) (o := 85) (own_off1_1_5 hc5) (by decide) (by decide) k) ?_
      exact B86 T0 _ x0   X0 e0 N0 ((if_pos hc5).symm.trans ((if_neg hc4).symm.trans ((if_neg hc3).symm.trans ((if_neg hc2).symm.trans ((if_neg hc1).symm.trans ((if_neg hc0).symm.trans hf))))))
    by_cases hc6 : x0 = (114 : Int32)
    · refine own_step (T' := T0) (g' := (mkF m 91 #[.val (.int x0)] [])) (fun _ k => own_lsw X0.here hx rfl (pc0 := 1) (pc' := 91) rfl (hb hby d1_1) rfl (by decide) (o := 90) (own_off1_1_6 hc6) (by decide) (by decide) k) ?_
      exact B91 T0 _ x0   X0 e0 N0 ((if_pos hc6).symm.trans ((if_neg hc5).symm.trans ((if_neg hc4).symm.trans ((if_neg hc3).symm.trans ((if_neg hc2).symm.trans ((if_neg hc1).symm.trans ((if_neg hc0).symm.trans hf)))))))
    by_cases hc7 : x0 = (116 : Int32)
    · refine own_step (T' := T0) (g' := (mkF m 76 #[.val (.int x0)] [])) (fun _ k => own_lsw X0.here hx rfl (pc0 := 1) (pc' := 76) rfl (hb hby d1_1) rfl (by decide) (o := 75) (own_off1_1_7 hc7) (by decide) (by decide) k) ?_
      exact B76 T0 _ x0   X0 e0 N0 ((if_pos hc7).symm.trans ((if_neg hc6).symm.trans ((if_neg hc5).symm.trans ((if_neg hc4).symm.trans ((if_neg hc3).symm.trans ((if_neg hc2).symm.trans ((if_neg hc1).symm.trans ((if_neg hc0).symm.trans hf))))))))
    refine own_step (T' := T0) (g' := (mkF m 105 #[.val (.int x0)] [])) (fun _ k => own_lsw X0.here hx rfl (pc0 := 1) (pc' := 105) rfl (hb hby d1_1) rfl (by decide) (o := 104) (own_off1_1_d hc0 hc1 hc2 hc3 hc4 hc5 hc6 hc7) (by decide) (by decide) k) ?_
    exact B105 T0 _ x0   X0 e0 N0 ((if_neg hc7).symm.trans ((if_neg hc6).symm.trans ((if_neg hc5).symm.trans ((if_neg hc4).symm.trans ((if_neg hc3).symm.trans ((if_neg hc2).symm.trans ((if_neg hc1).symm.trans ((if_neg hc0).symm.trans hf))))))))
  have hB := B0 s₁ [] p0  X00 e00 (Fr.nil n0) rfl
  obtain ⟨s₂, o, q1, q2, q3, v, L, q4, q5, q6⟩ := hB
  exact ⟨s₂, o, castTop (ef_1 m p0) q1, q2, q3, v, L, q4, q5, q6⟩
set_option maxRecDepth 65536 in
set_option maxHeartbeats 40000000 in
theorem rm2 (l : Launch) (Z : State) (a0 : Array Value) (hw : ∀ d ∈ tables_1, d.before a0 Z = true) (ws : List Jvm.Cond) (p0 : Int32) (h0 : Heap) (n0 : Nat) (Z0 : n0 ≤ h0.size) :
    MetFree l (⟨"com/example/graphwright/graphwright/model/TerminalsEcharPinLaw", "expected", "(I)I"⟩ : MethodName) (head1 (Jvm.Cond.code (⟨"com/example/graphwright/graphwright/model/TerminalsEcharPinLaw", "expected", "(I)I"⟩ : MethodName) method_3_code 1 (some .int) :: ws) ({ frames := 0, cells := 0, slots := 0, locals := 0 } : Room)) (fun a U => a = #[(.int p0)] ∧ Z.Warmed39 U.vm ∧ U.heap = h0) (fun _ _ _ _ _ => True) (fun _ U o U' => ∃ v L, o = .returned v ∧ own_Pure ((.int (f2_0 p0))) h0 n0 v U'.heap L ∧ FrameEnd U o U' L ({ frames := 0, cells := 0, slots := 0, locals := 0 } : Room).cells ({ frames := 0, cells := 0, slots := 0, locals := 0 } : Room).slots) := by
  refine MetFree.of_bodySF (plainFor_of_name pn_2) hisR ?_
  intro p e s m args below meth c s₁ Bd hml0 hP hK
  obtain ⟨rfl, hZ, hh0⟩ := hP
  have hx := Bd.exec
  have hby := Bd.bytes
  have hml : c.maxLocals = 1 := hml0
  have hown : s.vm.findClass "com/example/graphwright/graphwright/model/TerminalsEcharPinLaw" = some m.cls := findClass_of_methodNamed Bd.named
  have X00 : Stand p l e ({ frames := 0, cells := 0, slots := 0, locals := 0 } : Room) s m #[(.int p0)] below meth c s₁ [] 0 0 := Stand.of_body Bd
  have e00 : s₁.heap = h0 := by rw [← hh0, Bd.state]; rfl
  have B65 : ∀ (T0 : State) (locs : List Loc) (x0 : Int32), Stand p l e ({ frames := 0, cells := 0, slots := 0, locals := 0 } : Room) s m #[(.int p0)] below meth c T0 locs 0 0 → T0.heap = h0 → Fr n0 locs → f2_65 = f2_0 p0 → own_Goes p e below s (own_Pure ((.int (f2_0 p0))) h0 n0) ({ frames := 0, cells := 0, slots := 0, locals := 0 } : Room).cells ({ frames := 0, cells := 0, slots := 0, locals := 0 } : Room).slots T0 (mkF m 65 #[.val (.int x0)] []) := by
    intro T0 locs x0   X0 e0 N0 hf
    refine own_step (T' := T0) (g' := (mkF m 66 #[.val (.int x0)] [(.int (-1 : Int32))])) (fun _ k => XS.iconst X0.here hx rfl (hb hby d2_65) k) ?_
    exact own_ret X0 Bd (v := some (.int (-1 : Int32))) (fun q => by rw [Bd.returns] at q; cases q) (fun fs q => retI X0 hx Bd.returns (hb hby d2_66) q) (show own_Pure ((.int (f2_0 p0))) h0 n0 _ _ _ from ⟨congrArg (fun z => some (Value.int z)) hf, N0, e0⟩) (by decide) (by decide)
  have B63 : ∀ (T0 : State) (locs : List Loc) (x0 : Int32), Stand p l e ({ frames := 0, cells := 0, slots := 0, locals := 0 } : Room) s m #[(.int p0)] below meth c T0 locs 0 0 → T0.heap = h0 → Fr n0 locs → f2_63 x0 = f2_0 p0 → own_Goes p e below s (own_Pure ((.int (f2_0 p0))) h0 n0) ({ frames := 0, cells := 0, slots := 0, locals := 0 } : Room).cells ({ frames := 0, cells := 0, slots := 0, locals := 0 } : Room).slots T0 (mkF m 63 #[.val (.int x0)] []) := by
    intro T0 locs x0   X0 e0 N0 hf
    refine own_step (T' := T0) (g' := (mkF m 64 #[.val (.int x0)] [(.int x0)])) (fun _ k => XS.iloadN X0.here hx rfl (hb hby d2_63) rfl k) ?_
    exact own_ret X0 Bd (v := some (.int x0)) (fun q => by rw [Bd.returns] at q; cases q) (fun fs q => retI X0 hx Bd.returns (hb hby d2_64) q) (show own_Pure ((.int (f2_0 p0))) h0 n0 _ _ _ from ⟨congrArg (fun z => some (Value.int z)) hf, N0, e0⟩) (by decide) (by decide)
  have B57 : ∀ (T0 : State) (locs : List Loc) (x0 : Int32), Stand p l e ({ frames := 0, cells := 0, slots := 0, locals := 0 } : Room) s m #[(.int p0)] below meth c T0 locs 0 0 → T0.heap = h0 → Fr n0 locs → f2_57 x0 = f2_0 p0 → own_Goes p e below s (own_Pure ((.int (f2_0 p0))) h0 n0) ({ frames := 0, cells := 0, slots := 0, locals := 0 } : Room).cells ({ frames := 0, cells := 0, slots := 0, locals := 0 } : Room).slots T0 (mkF m 57 #[.val (.int x0)] []) := by
    intro T0 locs x0   X0 e0 N0 hf
    refine own_step (T' := T0) (g' := (mkF m 58 #[.val (.int x0)] [(.int x0)])) (fun _ k => XS.iloadN X0.here hx rfl (hb hby d2_57) rfl k) ?_
    refine own_step (T' := T0) (g' := (mkF m 60 #[.val (.int x0)] [(.int (92 : Int32)), (.int x0)])) (fun _ k => XS.bipush X0.here hx rfl (hb hby d2_58) k) ?_
    by_cases hc : x0 = (92 : Int32)
    · refine own_step (T' := T0) (g' := (mkF m 63 #[.val (.int x0)] [])) (fun _ k => XS.icmpNo X0.here hx rfl (hb hby d2_60) rfl (teq hc).2 k) ?_
      exact B63 T0 _ x0   X0 e0 N0 ((if_pos hc).symm.trans hf)
    · refine own_step (T' := T0) (g' := (mkF m 65 #[.val (.int x0)] [])) (fun _ k => XS.icmpYes X0.here hx rfl (pc0 := 60) (pc' := 65) rfl (hb hby d2_60) rfl (feq hc).2 (by decide) (by decide) k) ?_
      exact B65 T0 _ x0   X0 e0 N0 ((if_neg hc).symm.trans hf)
  have B51 : ∀ (T0 : State) (locs : List Loc) (x0 : Int32), Stand p l e ({ frames := 0, cells := 0, slots := 0, locals := 0 } : Room) s m #[(.int p0)] below meth c T0 locs 0 0 → T0.heap = h0 → Fr n0 locs → f2_51 x0 = f2_0 p0 → own_Goes p e below s (own_Pure ((.int (f2_0 p0))) h0 n0) ({ frames := 0, cells := 0, slots := 0, locals := 0 } : Room).cells ({ frames := 0, cells := 0, slots := 0, locals := 0 } : Room).slots T0 (mkF m 51 #[.val (.int x0)] []) := by
    intro T0 locs x0   X0 e0 N0 hf
    refine own_step (T' := T0) (g' := (mkF m 52 #[.val (.int x0)] [(.int x0)])) (fun _ k => XS.iloadN X0.here hx rfl (hb hby d2_51) rfl k) ?_
    refine own_step (T' := T0) (g' := (mkF m 54 #[.val (.int x0)] [(.int (39 : Int32)), (.int x0)])) (fun _ k => XS.bipush X0.here hx rfl (hb hby d2_52) k) ?_
    by_cases hc : x0 = (39 : Int32)
    · refine own_step (T' := T0) (g' := (mkF m 63 #[.val (.int x0)] [])) (fun _ k => XS.icmpYes X0.here hx rfl (pc0 := 54) (pc' := 63) rfl (hb hby d2_54) rfl (teq hc).1 (by decide) (by decide) k) ?_
      exact B63 T0 _ x0   X0 e0 N0 ((if_pos hc).symm.trans hf)
    · refine own_step (T' := T0) (g' := (mkF m 57 #[.val (.int x0)] [])) (fun _ k => XS.icmpNo X0.here hx rfl (hb hby d2_54) rfl (feq hc).1 k) ?_
      exact B57 T0 _ x0   X0 e0 N0 ((if_neg hc).symm.trans hf)
  have B45 : ∀ (T0 : State) (locs : List Loc) (x0 : Int32), Stand p l e ({ frames := 0, cells := 0, slots := 0, locals := 0 } : Room) s m #[(.int p0)] below meth c T0 locs 0 0 → T0.heap = h0 → Fr n0 locs → f2_45 x0 = f2_0 p0 → own_Goes p e below s (own_Pure ((.int (f2_0 p0))) h0 n0) ({ frames := 0, cells := 0, slots := 0, locals := 0 } : Room).cells ({ frames := 0, cells := 0, slots := 0, locals := 0 } : Room).slots T0 (mkF m 45 #[.val (.int x0)] []) := by
    intro T0 locs x0   X0 e0 N0 hf
    refine own_step (T' := T0) (g' := (mkF m 46 #[.val (.int x0)] [(.int x0)])) (fun _ k => XS.iloadN X0.here hx rfl (hb hby d2_45) rfl k) ?_
    refine own_step (T' := T0) (g' := (mkF m 48 #[.val (.int x0)] [(.int (34 : Int32)), (.int x0)])) (fun _ k => XS.bipush X0.here hx rfl (hb hby d2_46) k) ?_
    by_cases hc : x0 = (34 : Int32)
    · refine own_step (T' := T0) (g' := (mkF m 63 #[.val (.int x0)] [])) (fun _ k => XS.icmpYes X0.here hx rfl (pc0 := 48) (pc' := 63) rfl (hb hby d2_48) rfl (teq hc).1 (by decide) (by decide) k) ?_
      exact B63 T0 _ x0   X0 e0 N0 ((if_pos hc).symm.trans hf)
    · refine own_step (T' := T0) (g' := (mkF m 51 #[.val (.int x0)] [])) (fun _ k => XS.icmpNo X0.here hx rfl (hb hby d2_48) rfl (feq hc).1 k) ?_
      exact B51 T0 _ x0   X0 e0 N0 ((if_neg hc).symm.trans hf)
  have B42 : ∀ (T0 : State) (locs : List Loc) (x0 : Int32), Stand p l e ({ frames := 0, cells := 0, slots := 0, locals := 0 } : Room) s m #[(.int p0)] below meth c T0 locs 0 0 → T0.heap = h0 → Fr n0 locs → f2_42 = f2_0 p0 → own_Goes p e below s (own_Pure ((.int (f2_0 p0))) h0 n0) ({ frames := 0, cells := 0, slots := 0, locals := 0 } : Room).cells ({ frames := 0, cells := 0, slots := 0, locals := 0 } : Room).slots T0 (mkF m 42 #[.val (.int x0)] []) := by
    intro T0 locs x0   X0 e0 N0 hf
    refine own_step (T' := T0) (g' := (mkF m 44 #[.val (.int x0)] [(.int (12 : Int32))])) (fun _ k => XS.bipush X0.here hx rfl (hb hby d2_42) k) ?_
    exact own_ret X0 Bd (v := some (.int (12 : Int32))) (fun q => by rw [Bd.returns] at q; cases q) (fun fs q => retI X0 hx Bd.returns (hb hby d2_44) q) (show own_Pure ((.int (f2_0 p0))) h0 n0 _ _ _ from ⟨congrArg (fun z => some (Value.int z)) hf, N0, e0⟩) (by decide) (by decide)
  have B36 : ∀ (T0 : State) (locs : List Loc) (x0 : Int32), Stand p l e ({ frames := 0, cells := 0, slots := 0, locals := 0 } : Room) s m #[(.int p0)] below meth c T0 locs 0 0 → T0.heap = h0 → Fr n0 locs → f2_36 x0 = f2_0 p0 → own_Goes p e below s (own_Pure ((.int (f2_0 p0))) h0 n0) ({ frames := 0, cells := 0, slots := 0, locals := 0 } : Room).cells ({ frames := 0, cells := 0, slots := 0, locals := 0 } : Room).slots T0 (mkF m 36 #[.val (.int x0)] []) := by
    intro T0 locs x0   X0 e0 N0 hf
    refine own_step (T' := T0) (g' := (mkF m 37 #[.val (.int x0)] [(.int x0)])) (fun _ k => XS.iloadN X0.here hx rfl (hb hby d2_36) rfl k) ?_
    refine own_step (T' := T0) (g' := (mkF m 39 #[.val (.int x0)] [(.int (102 : Int32)), (.int x0)])) (fun _ k => XS.bipush X0.here hx rfl (hb hby d2_37) k) ?_
    by_cases hc : x0 = (102 : Int32)
    · refine own_step (T' := T0) (g' := (mkF m 42 #[.val (.int x0)] [])) (fun _ k => XS.icmpNo X0.here hx rfl (hb hby d2_39) rfl (teq hc).2 k) ?_
      exact B42 T0 _ x0   X0 e0 N0 ((if_pos hc).symm.trans hf)
    · refine own_step (T' := T0) (g' := (mkF m 45 #[.val (.int x0)] [])) (fun _ k => XS.icmpYes X0.here hx rfl (pc0 := 39) (pc' := 45) rfl (hb hby d2_39) rfl (feq hc).2 (by decide) (by decide) k) ?_
      exact B45 T0 _ x0   X0 e0 N0 ((if_neg hc).symm.trans hf)
  have B33 : ∀ (T0 : State) (locs : List Loc) (x0 : Int32), Stand p l e ({ frames := 0, cells := 0, slots := 0, locals := 0 } : Room) s m #[(.int p0)] below meth c T0 locs 0 0 → T0.heap = h0 → Fr n0 locs → f2_33 = f2_0 p0 → own_Goes p e below s (own_Pure ((.int (f2_0 p0))) h0 n0) ({ frames := 0, cells := 0, slots := 0, locals := 0 } : Room).cells ({ frames := 0, cells := 0, slots := 0, locals := 0 } : Room).slots T0 (mkF m 33 #[.val (.int x0)] []) := by
    intro T0 locs x0   X0 e0 N0 hf
    refine own_step (T' := T0) (g' := (mkF m 35 #[.val (.int x0)] [(.int (13 : Int32))])) (fun _ k => XS.bipush X0.here hx rfl (hb hby d2_33) k) ?_
    exact own_ret X0 Bd (v := some (.int (13 : Int32))) (fun q => by rw [Bd.returns] at q; cases q) (fun fs q => retI X0 hx Bd.returns (hb hby d2_35) q) (show own_Pure ((.int (f2_0 p0))) h0 n0 _ _ _ from ⟨congrArg (fun z => some (Value.int z)) hf, N0, e0⟩) (by decide) (by decide)
  have B27 : ∀ (T0 : State) (locs : List Loc) (x0 : Int32), Stand p l e ({ frames := 0, cells := 0, slots := 0, locals := 0 } : Room) s m #[(.int p0)] below meth c T0 locs 0 0 → T0.heap = h0 → Fr n0 locs → f2_27 x0 = f2_0 p0 → own_Goes p e below s (own_Pure ((.int (f2_0 p0))) h0 n0) ({ frames := 0, cells := 0, slots := 0, locals := 0 } : Room).cells ({ frames := 0, cells := 0, slots := 0, locals := 0 } : Room).slots T0 (mkF m 27 #[.val (.int x0)] []) := by
    intro T0 locs x0   X0 e0 N0 hf
    refine own_step (T' := T0) (g' := (mkF m 28 #[.val (.int x0)] [(.int x0)])) (fun _ k => XS.iloadN X0.here hx rfl (hb hby d2_27) rfl k) ?_
    refine own_step (T' := T0) (g' := (mkF m 30 #[.val (.int x0)] [(.int (114 : Int32)), (.int x0)])) (fun _ k => XS.bipush X0.here hx rfl (hb hby d2_28) k) ?_
    by_cases hc : x0 = (114 : Int32)
    · refine own_step (T' := T0) (g' := (mkF m 33 #[.val (.int x0)] [])) (fun _ k => XS.icmpNo X0.here hx rfl (hb hby d2_30) rfl (teq hc).2 k) ?_
      exact B33 T0 _ x0   X0 e0 N0 ((if_pos hc).symm.trans hf)
    · refine own_step (T' := T0) (g' := (mkF m 36 #[.val (.int x0)] [])) (fun _ k => XS.icmpYes X0.here hx rfl (pc0 := 30) (pc' := 36) rfl (hb hby d2_30) rfl (feq hc).2 (by decide) (by decide) k) ?_
      exact B36 T0 _ x0   X0 e0 N0 ((if_neg hc).symm.trans hf)
  have B24 : ∀ (T0 : State) (locs : List Loc) (x0 : Int32), Stand p l e ({ frames := 0, cells := 0, slots := 0, locals := 0 } : Room) s m #[(.int p0)] below meth c T0 locs 0 0 → T0.heap = h0 → Fr n0 locs → f2_24 = f2_0 p0 → own_Goes p e below s (own_Pure ((.int (f2_0 p0))) h0 n0) ({ frames := 0, cells := 0, slots := 0, locals := 0 } : Room).cells ({ frames := 0, cells := 0, slots := 0, locals := 0 } : Room).slots T0 (mkF m 24 #[.val (.int x0)] []) := by
    intro T0 locs x0   X0 e0 N0 hf
    refine own_step (T' := T0) (g' := (mkF m 26 #[.val (.int x0)] [(.int (10 : Int32))])) (fun _ k => XS.bipush X0.here hx rfl (hb hby d2_24) k) ?_
    exact own_ret X0 Bd (v := some (.int (10 : Int32))) (fun q => by rw [Bd.returns] at q; cases q) (fun fs q => retI X0 hx Bd.returns (hb hby d2_26) q) (show own_Pure ((.int (f2_0 p0))) h0 n0 _ _ _ from ⟨congrArg (fun z => some (Value.int z)) hf, N0, e0⟩) (by decide) (by decide)
  have B18 : ∀ (T0 : State) (locs : List Loc) (x0 : Int32), Stand p l e ({ frames := 0, cells := 0, slots := 0, locals := 0 } : Room) s m #[(.int p0)] below meth c T0 locs 0 0 → T0.heap = h0 → Fr n0 locs → f2_18 x0 = f2_0 p0 → own_Goes p e below s (own_Pure ((.int (f2_0 p0))) h0 n0) ({ frames := 0, cells := 0, slots := 0, locals := 0 } : Room).cells ({ frames := 0, cells := 0, slots := 0, locals := 0 } : Room).slots T0 (mkF m 18 #[.val (.int x0)] []) := by
    intro T0 locs x0   X0 e0 N0 hf
    refine own_step (T' := T0) (g' := (mkF m 19 #[.val (.int x0)] [(.int x0)])) (fun _ k => XS.iloadN X0.here hx rfl (hb hby d2_18) rfl k) ?_
    refine own_step (T' := T0) (g' := (mkF m 21 #[.val (.int x0)] [(.int (110 : Int32)), (.int x0)])) (fun _ k => XS.bipush X0.here hx rfl (hb hby d2_19) k) ?_
    by_cases hc : x0 = (110 : Int32)
    · refine own_step (T' := T0) (g' := (mkF m 24 #[.val (.int x0)] [])) (fun _ k => XS.icmpNo X0.here hx rfl (hb hby d2_21) rfl (teq hc).2 k) ?_
      exact B24 T0 _ x0   X0 e0 N0 ((if_pos hc).symm.trans hf)
    · refine own_step (T' := T0) (g' := (mkF m 27 #[.val (.int x0)] [])) (fun _ k => XS.icmpYes X0.here hx rfl (pc0 := 21) (pc' := 27) rfl (hb hby d2_21) rfl (feq hc).2 (by decide) (by decide) k) ?_
      exact B27 T0 _ x0   X0 e0 N0 ((if_neg hc).symm.trans hf)
  have B15 : ∀ (T0 : State) (locs : List Loc) (x0 : Int32), Stand p l e ({ frames := 0, cells := 0, slots := 0, locals := 0 } : Room) s m #[(.int p0)] below meth c T0 locs 0 0 → T0.heap = h0 → Fr n0 locs → f2_15 = f2_0 p0 → own_Goes p e below s (own_Pure ((.int (f2_0 p0))) h0 n0) ({ frames := 0, cells := 0, slots := 0, locals := 0 } : Room).cells ({ frames := 0, cells := 0, slots := 0, locals := 0 } : Room).slots T0 (mkF m 15 #[.val (.int x0)] []) := by
    intro T0 locs x0   X0 e0 N0 hf
    refine own_step (T' := T0) (g' := (mkF m 17 #[.val (.int x0)] [(.int (8 : Int32))])) (fun _ k => XS.bipush X0.here hx rfl (hb hby d2_15) k) ?_
    exact own_ret X0 Bd (v := some (.int (8 : Int32))) (fun q => by rw [Bd.returns] at q; cases q) (fun fs q => retI X0 hx Bd.returns (hb hby d2_17) q) (show own_Pure ((.int (f2_0 p0))) h0 n0 _ _ _ from ⟨congrArg (fun z => some (Value.int z)) hf, N0, e0⟩) (by decide) (by decide)
  have B9 : ∀ (T0 : State) (locs : List Loc) (x0 : Int32), Stand p l e ({ frames := 0, cells := 0, slots := 0, locals := 0 } : Room) s m #[(.int p0)] below meth c T0 locs 0 0 → T0.heap = h0 → Fr n0 locs → f2_9 x0 = f2_0 p0 → own_Goes p e below s (own_Pure ((.int (f2_0 p0))) h0 n0) ({ frames := 0, cells := 0, slots := 0, locals := 0 } : Room).cells ({ frames := 0, cells := 0, slots := 0, locals := 0 } : Room).slots T0 (mkF m 9 #[.val (.int x0)] []) := by
    intro T0 locs x0   X0 e0 N0 hf
    refine own_step (T' := T0) (g' := (mkF m 10 #[.val (.int x0)] [(.int x0)])) (fun _ k => XS.iloadN X0.here hx rfl (hb hby d2_9) rfl k) ?_
    refine own_step (T' := T0) (g' := (mkF m 12 #[.val (.int x0)] [(.int (98 : Int32)), (.int x0)])) (fun _ k => XS.bipush X0.here hx rfl (hb hby d2_10) k) ?_
    by_cases hc : x0 = (98 : Int32)
    · refine own_step (T' := T0) (g' := (mkF m 15 #[.val (.int x0)] [])) (fun _ k => XS.icmpNo X0.here hx rfl (hb hby d2_12) rfl (teq hc).2 k) ?_
      exact B15 T0 _ x0   X0 e0 N0 ((if_pos hc).symm.trans hf)
    · refine own_step (T' := T0) (g' := (mkF m 18 #[.val (.int x0)] [])) (fun _ k => XS.icmpYes X0.here hx rfl (pc0 := 12) (pc' := 18) rfl (hb hby d2_12) rfl (feq hc).2 (by decide) (by decide) k) ?_
      exact B18 T0 _ x0   X0 e0 N0 ((if_neg hc).symm.trans hf)
  have B6 : ∀ (T0 : State) (locs : List Loc) (x0 : Int32), Stand p l e ({ frames := 0, cells := 0, slots := 0, locals := 0 } : Room) s m #[(.int p0)] below meth c T0 locs 0 0 → T0.heap = h0 → Fr n0 locs → f2_6 = f2_0 p0 → own_Goes p e below s (own_Pure ((.int (f2_0 p0))) h0 n0) ({ frames := 0, cells := 0, slots := 0, locals := 0 } : Room).cells ({ frames := 0, cells := 0, slots := 0, locals := 0 } : Room).slots T0 (mkF m 6 #[.val (.int x0)] []) := by
    intro T0 locs x0   X0 e0 N0 hf
    refine own_step (T' := T0) (g' := (mkF m 8 #[.val (.int x0)] [(.int (9 : Int32))])) (fun _ k => XS.bipush X0.here hx rfl (hb hby d2_6) k) ?_
    exact own_ret X0 Bd (v := some (.int (9 : Int32))) (fun q => by rw [Bd.returns] at q; cases q) (fun fs q => retI X0 hx Bd.returns (hb hby d2_8) q) (show own_Pure ((.int (f2_0 p0))) h0 n0 _ _ _ from ⟨congrArg (fun z => some (Value.int z)) hf, N0, e0⟩) (by decide) (by decide)
  have B0 : ∀ (T0 : State) (locs : List Loc) (x0 : Int32), Stand p l e ({ frames := 0, cells := 0, slots := 0, locals := 0 } : Room) s m #[(.int p0)] below meth c T0 locs 0 0 → T0.heap = h0 → Fr n0 locs → f2_0 x0 = f2_0 p0 → own_Goes p e below s (own_Pure ((.int (f2_0 p0))) h0 n0) ({ frames := 0, cells := 0, slots := 0, locals := 0 } : Room).cells ({ frames := 0, cells := 0, slots := 0, locals := 0 } : Room).slots T0 (mkF m 0 #[.val (.int x0)] []) := by
    intro T0 locs x0   X0 e0 N0 hf
    refine own_step (T' := T0) (g' := (mkF m 1 #[.val (.int x0)] [(.int x0)])) (fun _ k => XS.iloadN X0.here hx rfl (hb hby d2_0) rfl k) ?_
    refine own_step (T' := T0) (g' := (mkF m 3 #[.val (.int x0)] [(.int (116 : Int32)), (.int x0)])) (fun _ k => XS.bipush X0.here hx rfl (hb hby d2_1) k) ?_
    by_cases hc : x0 = (116 : Int32)
    · refine own_step (T' := T0) (g' := (mkF m 6 #[.val (.int x0)] [])) (fun _ k => XS.icmpNo X0.here hx rfl (hb hby d2_3) rfl (teq hc).2 k) ?_
      exact B6 T0 _ x0   X0 e0 N0 ((if_pos hc).symm.trans hf)
    · refine own_step (T' := T0) (g' := (mkF m 9 #[.val (.int x0)] [])) (fun _ k => XS.icmpYes X0.here hx rfl (pc0 := 3) (pc' := 9) rfl (hb hby d2_3) rfl (feq hc).2 (by decide) (by decide) k) ?_
      exact B9 T0 _ x0   X0 e0 N0 ((if_neg hc).symm.trans hf)
  have hB := B0 s₁ [] p0  X00 e00 (Fr.nil n0) rfl
  obtain ⟨s₂, o, q1, q2, q3, v, L, q4, q5, q6⟩ := hB
  exact ⟨s₂, o, castTop (ef_2 m p0) q1, q2, q3, v, L, q4, q5, q6⟩
set_option maxRecDepth 65536 in
set_option maxHeartbeats 40000000 in
theorem rm0 (l : Launch) (Z : State) (a0 : Array Value) (hw : ∀ d ∈ tables_1, d.before a0 Z = true) (ws : List Jvm.Cond) (p0 : Int32) (p1 : Int32) (h0 : Heap) (n0 : Nat) (Z0 : n0 ≤ h0.size) (hlaw : f0_0 p0 p1 = 1) :
    MetFree l x (head1 (Jvm.Cond.code x code maxLocals ret :: ws) room_1) (fun a U => a = #[(.int p0), (.int p1)] ∧ Z.Warmed39 U.vm ∧ U.heap = h0) (fun _ _ _ _ _ => True) (fun _ U o U' => ∃ v L, o = .returned v ∧ own_Law n0 v U'.heap L ∧ FrameEnd U o U' L 16 128) := by
  refine MetFree.of_bodySF (plainFor_of_name pn_0) hisR ?_
  intro p e s m args below meth c s₁ Bd hml0 hP hK
  obtain ⟨rfl, hZ, hh0⟩ := hP
  have hx := Bd.exec
  have hby := Bd.bytes
  have hml : c.maxLocals = 6 := hml0
  have hown : s.vm.findClass "com/example/graphwright/graphwright/model/TerminalsEcharPinLaw" = some m.cls := findClass_of_methodNamed Bd.named
  have X00 : Stand p l e room_1 s m #[(.int p0), (.int p1)] below meth c s₁ [] 0 0 := Stand.of_body Bd
  have e00 : s₁.heap = h0 := by rw [← hh0, Bd.state]; rfl
  have B93 : ∀ (T0 : State) (locs : List Loc) (x0 : Int32) (x1 : Int32) (x2 : Addr) (x3 : Int32) (x4 : Int32) (x5 : Int32) (t0 : Int32) (hh : Heap), n0 ≤ hh.size → ∀ (k_x2 : ClassId), Arv Z hh x2 k_x2 .char (8 : Int32) [(.int (116 : Int32)), (.int (98 : Int32)), (.int (110 : Int32)), (.int (114 : Int32)), (.int (102 : Int32)), (.int (34 : Int32)), (.int (39 : Int32)), (.int (92 : Int32))] (.int (0 : Int32)) → Stand p l e room_1 s m #[(.int p0), (.int p1)] below meth c T0 locs 1 8 → T0.heap = hh → Fr n0 locs → f0_93 t0 = 1 → own_Goes p e below s (own_Law n0) 16 128 T0 (mkF m 93 #[.val (.int x0), .val (.int x1), .val (.ref x2), .val (.int x3), .val (.int x4), .val (.int x5)] [(.int t0)]) := by
    intro T0 locs x0 x1 x2 x3 x4 x5 t0 hh Zh k_x2 V_x2 X0 e0 N0 hf
    exact own_ret X0 Bd (v := some (.int (t0 &&& 1))) (fun q => by rw [Bd.returns] at q; cases q) (fun fs q => retN X0 hx (t := .boolean) Bd.returns (by simp) (hb hby at_93) q) (show own_Law n0 _ _ _ from ⟨congrArg (fun z => some (Value.int z)) hf, N0⟩) (by decide) (by decide)
  have B92 : ∀ (T0 : State) (locs : List Loc) (x0 : Int32) (x1 : Int32) (x2 : Addr) (x3 : Int32) (x4 : Int32) (x5 : Int32) (hh : Heap), n0 ≤ hh.size → ∀ (k_x2 : ClassId), Arv Z hh x2 k_x2 .char (8 : Int32) [(.int (116 : Int32)), (.int (98 : Int32)), (.int (110 : Int32)), (.int (114 : Int32)), (.int (102 : Int32)), (.int (34 : Int32)), (.int (39 : Int32)), (.int (92 : Int32))] (.int (0 : Int32)) → Stand p l e room_1 s m #[(.int p0), (.int p1)] below meth c T0 locs 1 8 → T0.heap = hh → Fr n0 locs → f0_92 = 1 → own_Goes p e below s (own_Law n0) 16 128 T0 (mkF m 92 #[.val (.int x0), .val (.int x1), .val (.ref x2), .val (.int x3), .val (.int x4), .val (.int x5)] []) := by
    intro T0 locs x0 x1 x2 x3 x4 x5 hh Zh k_x2 V_x2 X0 e0 N0 hf
    refine own_step (T' := T0) (g' := (mkF m 93 #[.val (.int x0), .val (.int x1), .val (.ref x2), .val (.int x3), .val (.int x4), .val (.int x5)] [(.int (0 : Int32))])) (fun _ k => XS.iconst X0.here hx rfl (hb hby at_92) k) ?_
    exact B93 T0 _ x0 x1 x2 x3 x4 x5 (0 : Int32) hh Zh k_x2 V_x2 X0 e0 N0 hf
  have B88 : ∀ (T0 : State) (locs : List Loc) (x0 : Int32) (x1 : Int32) (x2 : Addr) (x3 : Int32) (x4 : Int32) (x5 : Int32) (hh : Heap), n0 ≤ hh.size → ∀ (k_x2 : ClassId), Arv Z hh x2 k_x2 .char (8 : Int32) [(.int (116 : Int32)), (.int (98 : Int32)), (.int (110 : Int32)), (.int (114 : Int32)), (.int (102 : Int32)), (.int (34 : Int32)), (.int (39 : Int32)), (.int (92 : Int32))] (.int (0 : Int32)) → Stand p l e room_1 s m #[(.int p0), (.int p1)] below meth c T0 locs 1 8 → T0.heap = hh → Fr n0 locs → f0_88 = 1 → own_Goes p e below s (own_Law n0) 16 128 T0 (mkF m 88 #[.val (.int x0), .val (.int x1), .val (.ref x2), .val (.int x3), .val (.int x4), .val (.int x5)] []) := by
    intro T0 locs x0 x1 x2 x3 x4 x5 hh Zh k_x2 V_x2 X0 e0 N0 hf
    refine own_step (T' := T0) (g' := (mkF m 89 #[.val (.int x0), .val (.int x1), .val (.ref x2), .val (.int x3), .val (.int x4), .val (.int x5)] [(.int (1 : Int32))])) (fun _ k => XS.iconst X0.here hx rfl (hb hby at_88) k) ?_
    refine own_step (T' := T0) (g' := (mkF m 93 #[.val (.int x0), .val (.int x1), .val (.ref x2), .val (.int x3), .val (.int x4), .val (.int x5)] [(.int (1 : Int32))])) (fun _ k => XS.goto X0.here hx rfl (pc0 := 89) (pc' := 93) rfl (hb hby at_89) (by decide) (by decide) k) ?_
    exact B93 T0 _ x0 x1 x2 x3 x4 x5 (1 : Int32) hh Zh k_x2 V_x2 X0 e0 N0 hf
  have B69 : ∀ (T0 : State) (locs : List Loc) (x0 : Int32) (x1 : Int32) (x2 : Addr) (x3 : Int32) (t0 : Int32) (hh : Heap), n0 ≤ hh.size → ∀ (k_x2 : ClassId), Arv Z hh x2 k_x2 .char (8 : Int32) [(.int (116 : Int32)), (.int (98 : Int32)), (.int (110 : Int32)), (.int (114 : Int32)), (.int (102 : Int32)), (.int (34 : Int32)), (.int (39 : Int32)), (.int (92 : Int32))] (.int (0 : Int32)) → Stand p l e room_1 s m #[(.int p0), (.int p1)] below meth c T0 locs 1 8 → T0.heap = hh → Fr n0 locs → f0_69 t0 = 1 → own_Goes p e below s (own_Law n0) 16 128 T0 (mkF m 69 #[.val (.int x0), .val (.int x1), .val (.ref x2), .val (.int x3), .unset, .unset] [(.int t0)]) := by
    intro T0 locs x0 x1 x2 x3 t0 hh Zh k_x2 V_x2 X0 e0 N0 hf
    refine own_step (T' := T0) (g' := (mkF m 71 #[.val (.int x0), .val (.int x1), .val (.ref x2), .val (.int x3), .val (.int t0), .unset] [])) (fun _ k => XS.istore X0.here hx rfl (hb hby at_69) rfl (l' := #[.val (.int x0), .val (.int x1), .val (.ref x2), .val (.int x3), .val (.int t0), .unset]) rfl k) ?_
    refine own_step (T' := T0) (g' := (mkF m 73 #[.val (.int x0), .val (.int x1), .val (.ref x2), .val (.int x3), .val (.int t0), .unset] [(.int t0)])) (fun _ k => XS.iload X0.here hx rfl (hb hby at_71) rfl k) ?_
    obtain ⟨_, _, ⟨T1, L1, k1, n1⟩, -, X1, ⟨Lc1, hQ1, l1, y1, z1⟩, st1⟩ := Jvm.LawKit.callS X0 hx (y := (⟨"com/example/graphwright/graphwright/model/Terminals", "echar", "(C)I"⟩ : MethodName)) hown (mvT hZ (hw _ (List.mem_of_getElem? (i := 1) rfl))) (mvT hZ (hw _ (List.mem_of_getElem? (i := 2) rfl))) (mvT hZ (hw _ (List.mem_of_getElem? (i := 3) rfl))) (mvT hZ (hw _ (List.mem_of_getElem? (i := 4) rfl))) (by decide) (backOf (W := 0) (rm1 l Z a0 hw [] t0 hh n0 Zh) hZ (hw _ (List.mem_of_getElem? (i := 4) rfl)) (hw _ (List.mem_of_getElem? (i := 3) rfl)) (by decide) (by decide)) (g := (mkF m 73 #[.val (.int x0), .val (.int x1), .val (.ref x2), .val (.int x3), .val (.int t0), .unset] [(.int t0)])) rfl (by rw [hml]; rfl) (argsL := [(.int t0)]) (rest := []) (lenOf pd_0 rfl) rfl (by show 2 * 0 + _ ≤ _; exact Nat.le_of_eq rfl) (hb hby at_73) (fun _ _ => ⟨rfl, e0, (by decide : 1 + 0 ≤ _), (by decide : 8 + 0 ≤ _)⟩)
    dsimp only [Pt.U, Pt.locs, Pt.cells, Pt.slots] at X1 l1 y1 z1 st1 hQ1
    subst l1 y1 z1
    obtain ⟨rfl, N1q, e1⟩ := hQ1
    have N1 := Fr.app N0 N1q
    refine own_step (T' := T1) (g' := (mkF m 76 #[.val (.int x0), .val (.int x1), .val (.ref x2), .val (.int x3), .val (.int t0), .unset] [(.int (f1_0 t0))])) (fun _ k => st1 _ k) ?_
    refine own_step (T' := T1) (g' := (mkF m 78 #[.val (.int x0), .val (.int x1), .val (.ref x2), .val (.int x3), .val (.int t0), .val (.int (f1_0 t0))] [])) (fun _ k => XS.istore X1.here hx rfl (hb hby at_76) rfl (l' := #[.val (.int x0), .val (.int x1), .val (.ref x2), .val (.int x3), .val (.int t0), .val (.int (f1_0 t0))]) rfl k) ?_
    refine own_step (T' := T1) (g' := (mkF m 80 #[.val (.int x0), .val (.int x1), .val (.ref x2), .val (.int x3), .val (.int t0), .val (.int (f1_0 t0))] [(.int (f1_0 t0))])) (fun _ k => XS.iload X1.here hx rfl (hb hby at_78) rfl k) ?_
    refine own_step (T' := T1) (g' := (mkF m 82 #[.val (.int x0), .val (.int x1), .val (.ref x2), .val (.int x3), .val (.int t0), .val (.int (f1_0 t0))] [(.int t0), (.int (f1_0 t0))])) (fun _ k => XS.iload X1.here hx rfl (hb hby at_80) rfl k) ?_
    obtain ⟨_, _, ⟨T2, L2, k2, n2⟩, -, X2, ⟨Lc2, hQ2, l2, y2, z2⟩, st2⟩ := Jvm.LawKit.callS X1 hx (y := (⟨"com/example/graphwright/graphwright/model/TerminalsEcharPinLaw", "expected", "(I)I"⟩ : MethodName)) hown (mvT hZ (hw _ (List.mem_of_getElem? (i := 5) rfl))) (mvT hZ (hw _ (List.mem_of_getElem? (i := 6) rfl))) (mvT hZ (hw _ (List.mem_of_getElem? (i := 7) rfl))) (mvT hZ (hw _ (List.mem_of_getElem? (i := 8) rfl))) (by decide) (backOf (W := 1) (rm2 l Z a0 hw [] t0 hh n0 Zh) hZ (hw _ (List.mem_of_getElem? (i := 8) rfl)) (hw _ (List.mem_of_getElem? (i := 7) rfl)) (by decide) (by decide)) (g := (mkF m 82 #[.val (.int x0), .val (.int x1), .val (.ref x2), .val (.int x3), .val (.int t0), .val (.int (f1_0 t0))] [(.int t0), (.int (f1_0 t0))])) rfl (by rw [hml]; rfl) (argsL := [(.int t0)]) (rest := [(.int (f1_0 t0))]) (lenOf pd_1 rfl) rfl (by show 2 * 0 + _ ≤ _; exact Nat.le_of_eq rfl) (hb hby at_82) (fun _ _ => ⟨rfl, e1, (by decide : 1 + 0 ≤ _), (by decide : 8 + 0 ≤ _)⟩)
    dsimp only [Pt.U, Pt.locs, Pt.cells, Pt.slots] at X2 l2 y2 z2 st2 hQ2
    subst l2 y2 z2
    obtain ⟨rfl, N2q, e2⟩ := hQ2
    have N2 := Fr.app N1 N2q
    refine own_step (T' := T2) (g' := (mkF m 85 #[.val (.int x0), .val (.int x1), .val (.ref x2), .val (.int x3), .val (.int t0), .val (.int (f1_0 t0))] [(.int (f2_0 t0)), (.int (f1_0 t0))])) (fun _ k => st2 _ k) ?_
    by_cases hc : (f1_0 t0) = (f2_0 t0)
    · refine own_step (T' := T2) (g' := (mkF m 88 #[.val (.int x0), .val (.int x1), .val (.ref x2), .val (.int x3), .val (.int t0), .val (.int (f1_0 t0))] [])) (fun _ k => XS.icmpNo X2.here hx rfl (hb hby at_85) rfl (teq hc).2 k) ?_
      exact B88 T2 _ x0 x1 x2 x3 t0 (f1_0 t0) hh Zh k_x2 V_x2 X2 e2 N2 ((if_pos hc).symm.trans hf)
    · refine own_step (T' := T2) (g' := (mkF m 92 #[.val (.int x0), .val (.int x1), .val (.ref x2), .val (.int x3), .val (.int t0), .val (.int (f1_0 t0))] [])) (fun _ k => XS.icmpYes X2.here hx rfl (pc0 := 85) (pc' := 92) rfl (hb hby at_85) rfl (feq hc).2 (by decide) (by decide) k) ?_
      exact B92 T2 _ x0 x1 x2 x3 t0 (f1_0 t0) hh Zh k_x2 V_x2 X2 e2 N2 ((if_neg hc).symm.trans hf)
  have B64 : ∀ (T0 : State) (locs : List Loc) (x0 : Int32) (x1 : Int32) (x2 : Addr) (x3 : Int32) (hh : Heap), n0 ≤ hh.size → ∀ (k_x2 : ClassId), Arv Z hh x2 k_x2 .char (8 : Int32) [(.int (116 : Int32)), (.int (98 : Int32)), (.int (110 : Int32)), (.int (114 : Int32)), (.int (102 : Int32)), (.int (34 : Int32)), (.int (39 : Int32)), (.int (92 : Int32))] (.int (0 : Int32)) → Stand p l e room_1 s m #[(.int p0), (.int p1)] below meth c T0 locs 1 8 → T0.heap = hh → Fr n0 locs → f0_64 x1 = 1 → own_Goes p e below s (own_Law n0) 16 128 T0 (mkF m 64 #[.val (.int x0), .val (.int x1), .val (.ref x2), .val (.int x3), .unset, .unset] []) := by
    intro T0 locs x0 x1 x2 x3 hh Zh k_x2 V_x2 X0 e0 N0 hf
    refine own_step (T' := T0) (g' := (mkF m 65 #[.val (.int x0), .val (.int x1), .val (.ref x2), .val (.int x3), .unset, .unset] [(.int x1)])) (fun _ k => XS.iloadN X0.here hx rfl (hb hby at_64) rfl k) ?_
    refine own_step (T' := T0) (g' := (mkF m 67 #[.val (.int x0), .val (.int x1), .val (.ref x2), .val (.int x3), .unset, .unset] [(.int (65535 : Int32)), (.int x1)])) (fun _ k => X0.ldcInt hx hown (mvT hZ (hw _ (List.mem_of_getElem? (i := 9) rfl))) (g := (mkF m 65 #[.val (.int x0), .val (.int x1), .val (.ref x2), .val (.int x3), .unset, .unset] [(.int x1)])) rfl (hb hby at_65) _ k) ?_
    refine own_step (T' := T0) (g' := (mkF m 68 #[.val (.int x0), .val (.int x1), .val (.ref x2), .val (.int x3), .unset, .unset] [(.int (x1 &&& (65535 : Int32)))])) (fun _ k => XS.iand X0.here hx rfl (hb hby at_67) rfl k) ?_
    refine own_step (T' := T0) (g' := (mkF m 69 #[.val (.int x0), .val (.int x1), .val (.ref x2), .val (.int x3), .unset, .unset] [(.int ((x1 &&& (65535 : Int32)).toUInt32.toUInt16.toUInt32.toInt32))])) (fun _ k => XS.i2c X0.here hx rfl (hb hby at_68) rfl k) ?_
    exact B69 T0 _ x0 x1 x2 x3 ((x1 &&& (65535 : Int32)).toUInt32.toUInt16.toUInt32.toInt32) hh Zh k_x2 V_x2 X0 e0 N0 hf
  have B58 : ∀ (T0 : State) (locs : List Loc) (x0 : Int32) (x1 : Int32) (x2 : Addr) (x3 : Int32) (hh : Heap), n0 ≤ hh.size → ∀ (k_x2 : ClassId), Arv Z hh x2 k_x2 .char (8 : Int32) [(.int (116 : Int32)), (.int (98 : Int32)), (.int (110 : Int32)), (.int (114 : Int32)), (.int (102 : Int32)), (.int (34 : Int32)), (.int (39 : Int32)), (.int (92 : Int32))] (.int (0 : Int32)) → (¬ x3 < 0 ∧ x3 < (8 : Int32)) → Stand p l e room_1 s m #[(.int p0), (.int p1)] below meth c T0 locs 1 8 → T0.heap = hh → Fr n0 locs → f0_58 x3 = 1 → own_Goes p e below s (own_Law n0) 16 128 T0 (mkF m 58 #[.val (.int x0), .val (.int x1), .val (.ref x2), .val (.int x3), .unset, .unset] []) := by
    intro T0 locs x0 x1 x2 x3 hh Zh k_x2 V_x2 hy X0 e0 N0 hf
    refine own_step (T' := T0) (g' := (mkF m 59 #[.val (.int x0), .val (.int x1), .val (.ref x2), .val (.int x3), .unset, .unset] [(.ref x2)])) (fun _ k => XS.aloadN X0.here hx rfl (hb hby at_58) rfl rfl k) ?_
    refine own_step (T' := T0) (g' := (mkF m 60 #[.val (.int x0), .val (.int x1), .val (.ref x2), .val (.int x3), .unset, .unset] [(.int x3), (.ref x2)])) (fun _ k => XS.iloadN X0.here hx rfl (hb hby at_59) rfl k) ?_
    have hj1 : ¬ x3 < 0 ∧ x3 < (8 : Int32) := hy
    have Vq1 := V_x2
    obtain ⟨cl1, Ar1, -, S1, -, H1, -⟩ := Vq1
    have hin1 := inb_of S1 hj1
    have hat1 : cl1.slots[(x3).toNatClampNeg]? = some (.int (own_a0_60.getD x3.toNatClampNeg (0 : Int32))) := H1.at hin1 (own_getD own_a0_60 _)
    refine own_step (T' := T0) (g' := (mkF m 61 #[.val (.int x0), .val (.int x1), .val (.ref x2), .val (.int x3), .unset, .unset] [(.int (own_a0_60.getD x3.toNatClampNeg (0 : Int32)))])) (fun _ k => X0.caload hx (j := x3) (v := .int (own_a0_60.getD x3.toNatClampNeg (0 : Int32))) (by rw [e0]; exact Ar1.1) (State.isArrayOf_alike hZ.alike Ar1.2.1) Ar1.2.2 hin1 hat1 (g := (mkF m 60 #[.val (.int x0), .val (.int x1), .val (.ref x2), .val (.int x3), .unset, .unset] [(.int x3), (.ref x2)])) rfl rfl (hb hby at_60) _ k) ?_
    refine own_step (T' := T0) (g' := (mkF m 69 #[.val (.int x0), .val (.int x1), .val (.ref x2), .val (.int x3), .unset, .unset] [(.int (own_a0_60.getD x3.toNatClampNeg (0 : Int32)))])) (fun _ k => XS.goto X0.here hx rfl (pc0 := 61) (pc' := 69) rfl (hb hby at_61) (by decide) (by decide) k) ?_
    exact B69 T0 _ x0 x1 x2 x3 (own_a0_60.getD x3.toNatClampNeg (0 : Int32)) hh Zh k_x2 V_x2 X0 e0 N0 hf
  have B0 : ∀ (T0 : State) (locs : List Loc) (x0 : Int32) (x1 : Int32) (hh : Heap), n0 ≤ hh.size → Stand p l e room_1 s m #[(.int p0), (.int p1)] below meth c T0 locs 0 0 → T0.heap = hh → Fr n0 locs → f0_0 x0 x1 = 1 → own_Goes p e below s (own_Law n0) 16 128 T0 (mkF m 0 #[.val (.int x0), .val (.int x1), .unset, .unset, .unset, .unset] []) := by
    intro T0 locs x0 x1 hh Zh  X0 e0 N0 hf
    refine own_step (T' := T0) (g' := (mkF m 2 #[.val (.int x0), .val (.int x1), .unset, .unset, .unset, .unset] [(.int (8 : Int32))])) (fun _ k => XS.bipush X0.here hx rfl (hb hby at_0) k) ?_
    obtain ⟨T1, h1, k1, X1, e1, E1, A1, st1⟩ := newP X0 hx hZ (hw _ (List.mem_of_getElem? (i := 0) rfl)) e0 (g := (mkF m 2 #[.val (.int x0), .val (.int x1), .unset, .unset, .unset, .unset] [(.int (8 : Int32))])) rfl (hb hby at_2) rfl (by decide) (cap := 8) (by decide) (by decide) (by decide) (by decide)
    obtain ⟨b1, g1⟩ : ∃ z, z = hh.size := ⟨_, rfl⟩
    rw [← g1] at A1 st1
    have V1 : Arv Z h1 b1 k1 .char (8 : Int32) (List.replicate 8 (.int (0 : Int32))) (.int (0 : Int32)) := (Arv.new A1 (by decide)).pad (pad_rep [] (.int (0 : Int32)) 8)
    have g_b1 : n0 ≤ b1 := Nat.le_trans Zh (Nat.le_of_eq g1.symm)
    have Z1 : n0 ≤ h1.size := Nat.le_trans Zh E1.1
    refine own_step (T' := T1) (g' := (mkF m 4 #[.val (.int x0), .val (.int x1), .unset, .unset, .unset, .unset] [(.ref b1)])) (fun _ k => st1 _ k) ?_
    refine own_step (T' := T1) (g' := (mkF m 5 #[.val (.int x0), .val (.int x1), .unset, .unset, .unset, .unset] [(.ref b1), (.ref b1)])) (fun _ k => XS.dup X1.here hx rfl (hb hby at_4) rfl rfl k) ?_
    refine own_step (T' := T1) (g' := (mkF m 6 #[.val (.int x0), .val (.int x1), .unset, .unset, .unset, .unset] [(.int (0 : Int32)), (.ref b1), (.ref b1)])) (fun _ k => XS.iconst X1.here hx rfl (hb hby at_5) k) ?_
    refine own_step (T' := T1) (g' := (mkF m 8 #[.val (.int x0), .val (.int x1), .unset, .unset, .unset, .unset] [(.int (116 : Int32)), (.int (0 : Int32)), (.ref b1), (.ref b1)])) (fun _ k => XS.bipush X1.here hx rfl (hb hby at_6) k) ?_
    obtain ⟨cl2, Ar2, q2, S2, M2, H2, G2⟩ := V1
    obtain ⟨T2, h2, X2, e2, W2, st2⟩ := stC X1 hx hZ e1 Ar2 (j := (0 : Int32)) (inb_of S2 ⟨by decide, by decide⟩) (g := (mkF m 8 #[.val (.int x0), .val (.int x1), .unset, .unset, .unset, .unset] [(.int (116 : Int32)), (.int (0 : Int32)), (.ref b1), (.ref b1)])) rfl rfl (hb hby at_8)
    have V2 : Arv Z h2 b1 k1 .char (8 : Int32) [(.int (116 : Int32)), (.int (0 : Int32)), (.int (0 : Int32)), (.int (0 : Int32)), (.int (0 : Int32)), (.int (0 : Int32)), (.int (0 : Int32)), (.int (0 : Int32))] (.int (0 : Int32)) := Arv.set Ar2 q2 S2 M2 H2 G2 (fits_nar_char _) W2 0 rfl (Nat.le_of_ble_eq_true rfl)
    have N2 := Fr.snoc X2 N0 g_b1
    have Z2 : n0 ≤ h2.size := Nat.le_trans Z1 (Keep.of_wr W2).1
    refine own_step (T' := T2) (g' := (mkF m 9 #[.val (.int x0), .val (.int x1), .unset, .unset, .unset, .unset] [(.ref b1)])) (fun _ k => st2 _ k) ?_
    refine own_step (T' := T2) (g' := (mkF m 10 #[.val (.int x0), .val (.int x1), .unset, .unset, .unset, .unset] [(.ref b1), (.ref b1)])) (fun _ k => XS.dup X2.here hx rfl (hb hby at_9) rfl rfl k) ?_
    refine own_step (T' := T2) (g' := (mkF m 11 #[.val (.int x0), .val (.int x1), .unset, .unset, .unset, .unset] [(.int (1 : Int32)), (.ref b1), (.ref b1)])) (fun _ k => XS.iconst X2.here hx rfl (hb hby at_10) k) ?_
    refine own_step (T' := T2) (g' := (mkF m 13 #[.val (.int x0), .val (.int x1), .unset, .unset, .unset, .unset] [(.int (98 : Int32)), (.int (1 : Int32)), (.ref b1), (.ref b1)])) (fun _ k => XS.bipush X2.here hx rfl (hb hby at_11) k) ?_
    obtain ⟨cl3, Ar3, q3, S3, M3, H3, G3⟩ := V2
    obtain ⟨T3, h3, X3, e3, W3, st3⟩ := stC X2 hx hZ e2 Ar3 (j := (1 : Int32)) (inb_of S3 ⟨by decide, by decide⟩) (g := (mkF m 13 #[.val (.int x0), .val (.int x1), .unset, .unset, .unset, .unset] [(.int (98 : Int32)), (.int (1 : Int32)), (.ref b1), (.ref b1)])) rfl rfl (hb hby at_13)
    have V3 : Arv Z h3 b1 k1 .char (8 : Int32) [(.int (116 : Int32)), (.int (98 : Int32)), (.int (0 : Int32)), (.int (0 : Int32)), (.int (0 : Int32)), (.int (0 : Int32)), (.int (0 : Int32)), (.int (0 : Int32))] (.int (0 : Int32)) := Arv.set Ar3 q3 S3 M3 H3 G3 (fits_nar_char _) W3 1 rfl (Nat.le_of_ble_eq_true rfl)
    have N3 := Fr.snoc X3 N2 g_b1
    have Z3 : n0 ≤ h3.size := Nat.le_trans Z2 (Keep.of_wr W3).1
    refine own_step (T' := T3) (g' := (mkF m 14 #[.val (.int x0), .val (.int x1), .unset, .unset, .unset, .unset] [(.ref b1)])) (fun _ k => st3 _ k) ?_
    refine own_step (T' := T3) (g' := (mkF m 15 #[.val (.int x0), .val (.int x1), .unset, .unset, .unset, .unset] [(.ref b1), (.ref b1)])) (fun _ k => XS.dup X3.here hx rfl (hb hby at_14) rfl rfl k) ?_
    refine own_step (T' := T3) (g' := (mkF m 16 #[.val (.int x0), .val (.int x1), .unset, .unset, .unset, .unset] [(.int (2 : Int32)), (.ref b1), (.ref b1)])) (fun _ k => XS.iconst X3.here hx rfl (hb hby at_15) k) ?_
    refine own_step (T' := T3) (g' := (mkF m 18 #[.val (.int x0), .val (.int x1), .unset, .unset, .unset, .unset] [(.int (110 : Int32)), (.int (2 : Int32)), (.ref b1), (.ref b1)])) (fun _ k => XS.bipush X3.here hx rfl (hb hby at_16) k) ?_
    obtain ⟨cl4, Ar4, q4, S4, M4, H4, G4⟩ := V3
    obtain ⟨T4, h4, X4, e4, W4, st4⟩ := stC X3 hx hZ e3 Ar4 (j := (2 : Int32)) (inb_of S4 ⟨by decide, by decide⟩) (g := (mkF m 18 #[.val (.int x0), .val (.int x1), .unset, .unset, .unset, .unset] [(.int (110 : Int32)), (.int (2 : Int32)), (.ref b1), (.ref b1)])) rfl rfl (hb hby at_18)
    have V4 : Arv Z h4 b1 k1 .char (8 : Int32) [(.int (116 : Int32)), (.int (98 : Int32)), (.int (110 : Int32)), (.int (0 : Int32)), (.int (0 : Int32)), (.int (0 : Int32)), (.int (0 : Int32)), (.int (0 : Int32))] (.int (0 : Int32)) := Arv.set Ar4 q4 S4 M4 H4 G4 (fits_nar_char _) W4 2 rfl (Nat.le_of_ble_eq_true rfl)
    have N4 := Fr.snoc X4 N3 g_b1
    have Z4 : n0 ≤ h4.size := Nat.le_trans Z3 (Keep.of_wr W4).1
    refine own_step (T' := T4) (g' := (mkF m 19 #[.val (.int x0), .val (.int x1), .unset, .unset, .unset, .unset] [(.ref b1)])) (fun _ k => st4 _ k) ?_
    refine own_step (T' := T4) (g' := (mkF m 20 #[.val (.int x0), .val (.int x1), .unset, .unset, .unset, .unset] [(.ref b1), (.ref b1)])) (fun _ k => XS.dup X4.here hx rfl (hb hby at_19) rfl rfl k) ?_
    refine own_step (T' := T4) (g' := (mkF m 21 #[.val (.int x0), .val (.int x1), .unset, .unset, .unset, .unset] [(.int (3 : Int32)), (.ref b1), (.ref b1)])) (fun _ k => XS.iconst X4.here hx rfl (hb hby at_20) k) ?_
    refine own_step (T' := T4) (g' := (mkF m 23 #[.val (.int x0), .val (.int x1), .unset, .unset, .unset, .unset] [(.int (114 : Int32)), (.int (3 : Int32)), (.ref b1), (.ref b1)])) (fun _ k => XS.bipush X4.here hx rfl (hb hby at_21) k) ?_
    obtain ⟨cl5, Ar5, q5, S5, M5, H5, G5⟩ := V4
    obtain ⟨T5, h5, X5, e5, W5, st5⟩ := stC X4 hx hZ e4 Ar5 (j := (3 : Int32)) (inb_of S5 ⟨by decide, by decide⟩) (g := (mkF m 23 #[.val (.int x0), .val (.int x1), .unset, .unset, .unset, .unset] [(.int (114 : Int32)), (.int (3 : Int32)), (.ref b1), (.ref b1)])) rfl rfl (hb hby at_23)
    have V5 : Arv Z h5 b1 k1 .char (8 : Int32) [(.int (116 : Int32)), (.int (98 : Int32)), (.int (110 : Int32)), (.int (114 : Int32)), (.int (0 : Int32)), (.int (0 : Int32)), (.int (0 : Int32)), (.int (0 : Int32))] (.int (0 : Int32)) := Arv.set Ar5 q5 S5 M5 H5 G5 (fits_nar_char _) W5 3 rfl (Nat.le_of_ble_eq_true rfl)
    have N5 := Fr.snoc X5 N4 g_b1
    have Z5 : n0 ≤ h5.size := Nat.le_trans Z4 (Keep.of_wr W5).1
    refine own_step (T' := T5) (g' := (mkF m 24 #[.val (.int x0), .val (.int x1), .unset, .unset, .unset, .unset] [(.ref b1)])) (fun _ k => st5 _ k) ?_
    refine own_step (T' := T5) (g' := (mkF m 25 #[.val (.int x0), .val (.int x1), .unset, .unset, .unset, .unset] [(.ref b1), (.ref b1)])) (fun _ k => XS.dup X5.here hx rfl (hb hby at_24) rfl rfl k) ?_
    refine own_step (T' := T5) (g' := (mkF m 26 #[.val (.int x0), .val (.int x1), .unset, .unset, .unset, .unset] [(.int (4 : Int32)), (.ref b1), (.ref b1)])) (fun _ k => XS.iconst X5.here hx rfl (hb hby at_25) k) ?_
    refine own_step (T' := T5) (g' := (mkF m 28 #[.val (.int x0), .val (.int x1), .unset, .unset, .unset, .unset] [(.int (102 : Int32)), (.int (4 : Int32)), (.ref b1), (.ref b1)])) (fun _ k => XS.bipush X5.here hx rfl (hb hby at_26) k) ?_
    obtain ⟨cl6, Ar6, q6, S6, M6, H6, G6⟩ := V5
    obtain ⟨T6, h6, X6, e6, W6, st6⟩ := stC X5 hx hZ e5 Ar6 (j := (4 : Int32)) (inb_of S6 ⟨by decide, by decide⟩) (g := (mkF m 28 #[.val (.int x0), .val (.int x1), .unset, .unset, .unset, .unset] [(.int (102 : Int32)), (.int (4 : Int32)), (.ref b1), (.ref b1)])) rfl rfl (hb hby at_28)
    have V6 : Arv Z h6 b1 k1 .char (8 : Int32) [(.int (116 : Int32)), (.int (98 : Int32)), (.int (110 : Int32)), (.int (114 : Int32)), (.int (102 : Int32)), (.int (0 : Int32)), (.int (0 : Int32)), (.int (0 : Int32))] (.int (0 : Int32)) := Arv.set Ar6 q6 S6 M6 H6 G6 (fits_nar_char _) W6 4 rfl (Nat.le_of_ble_eq_true rfl)
    have N6 := Fr.snoc X6 N5 g_b1
    have Z6 : n0 ≤ h6.size := Nat.le_trans Z5 (Keep.of_wr W6).1
    refine own_step (T' := T6) (g' := (mkF m 29 #[.val (.int x0), .val (.int x1), .unset, .unset, .unset, .unset] [(.ref b1)])) (fun _ k => st6 _ k) ?_
    refine own_step (T' := T6) (g' := (mkF m 30 #[.val (.int x0), .val (.int x1), .unset, .unset, .unset, .unset] [(.ref b1), (.ref b1)])) (fun _ k => XS.dup X6.here hx rfl (hb hby at_29) rfl rfl k) ?_
    refine own_step (T' := T6) (g' := (mkF m 31 #[.val (.int x0), .val (.int x1), .unset, .unset, .unset, .unset] [(.int (5 : Int32)), (.ref b1), (.ref b1)])) (fun _ k => XS.iconst X6.here hx rfl (hb hby at_30) k) ?_
    refine own_step (T' := T6) (g' := (mkF m 33 #[.val (.int x0), .val (.int x1), .unset, .unset, .unset, .unset] [(.int (34 : Int32)), (.int (5 : Int32)), (.ref b1), (.ref b1)])) (fun _ k => XS.bipush X6.here hx rfl (hb hby at_31) k) ?_
    obtain ⟨cl7, Ar7, q7, S7, M7, H7, G7⟩ := V6
    obtain ⟨T7, h7, X7, e7, W7, st7⟩ := stC X6 hx hZ e6 Ar7 (j := (5 : Int32)) (inb_of S7 ⟨by decide, by decide⟩) (g := (mkF m 33 #[.val (.int x0), .val (.int x1), .unset, .unset, .unset, .unset] [(.int (34 : Int32)), (.int (5 : Int32)), (.ref b1), (.ref b1)])) rfl rfl (hb hby at_33)
    have V7 : Arv Z h7 b1 k1 .char (8 : Int32) [(.int (116 : Int32)), (.int (98 : Int32)), (.int (110 : Int32)), (.int (114 : Int32)), (.int (102 : Int32)), (.int (34 : Int32)), (.int (0 : Int32)), (.int (0 : Int32))] (.int (0 : Int32)) := Arv.set Ar7 q7 S7 M7 H7 G7 (fits_nar_char _) W7 5 rfl (Nat.le_of_ble_eq_true rfl)
    have N7 := Fr.snoc X7 N6 g_b1
    have Z7 : n0 ≤ h7.size := Nat.le_trans Z6 (Keep.of_wr W7).1
    refine own_step (T' := T7) (g' := (mkF m 34 #[.val (.int x0), .val (.int x1), .unset, .unset, .unset, .unset] [(.ref b1)])) (fun _ k => st7 _ k) ?_
    refine own_step (T' := T7) (g' := (mkF m 35 #[.val (.int x0), .val (.int x1), .unset, .unset, .unset, .unset] [(.ref b1), (.ref b1)])) (fun _ k => XS.dup X7.here hx rfl (hb hby at_34) rfl rfl k) ?_
    refine own_step (T' := T7) (g' := (mkF m 37 #[.val (.int x0), .val (.int x1), .unset, .unset, .unset, .unset] [(.int (6 : Int32)), (.ref b1), (.ref b1)])) (fun _ k => XS.bipush X7.here hx rfl (hb hby at_35) k) ?_
    refine own_step (T' := T7) (g' := (mkF m 39 #[.val (.int x0), .val (.int x1), .unset, .unset, .unset, .unset] [(.int (39 : Int32)), (.int (6 : Int32)), (.ref b1), (.ref b1)])) (fun _ k => XS.bipush X7.here hx rfl (hb hby at_37) k) ?_
    obtain ⟨cl8, Ar8, q8, S8, M8, H8, G8⟩ := V7
    obtain ⟨T8, h8, X8, e8, W8, st8⟩ := stC X7 hx hZ e7 Ar8 (j := (6 : Int32)) (inb_of S8 ⟨by decide, by decide⟩) (g := (mkF m 39 #[.val (.int x0), .val (.int x1), .unset, .unset, .unset, .unset] [(.int (39 : Int32)), (.int (6 : Int32)), (.ref b1), (.ref b1)])) rfl rfl (hb hby at_39)
    have V8 : Arv Z h8 b1 k1 .char (8 : Int32) [(.int (116 : Int32)), (.int (98 : Int32)), (.int (110 : Int32)), (.int (114 : Int32)), (.int (102 : Int32)), (.int (34 : Int32)), (.int (39 : Int32)), (.int (0 : Int32))] (.int (0 : Int32)) := Arv.set Ar8 q8 S8 M8 H8 G8 (fits_nar_char _) W8 6 rfl (Nat.le_of_ble_eq_true rfl)
    have N8 := Fr.snoc X8 N7 g_b1
    have Z8 : n0 ≤ h8.size := Nat.le_trans Z7 (Keep.of_wr W8).1
    refine own_step (T' := T8) (g' := (mkF m 40 #[.val (.int x0), .val (.int x1), .unset, .unset, .unset, .unset] [(.ref b1)])) (fun _ k => st8 _ k) ?_
    refine own_step (T' := T8) (g' := (mkF m 41 #[.val (.int x0), .val (.int x1), .unset, .unset, .unset, .unset] [(.ref b1), (.ref b1)])) (fun _ k => XS.dup X8.here hx rfl (hb hby at_40) rfl rfl k) ?_
    refine own_step (T' := T8) (g' := (mkF m 43 #[.val (.int x0), .val (.int x1), .unset, .unset, .unset, .unset] [(.int (7 : Int32)), (.ref b1), (.ref b1)])) (fun _ k => XS.bipush X8.here hx rfl (hb hby at_41) k) ?_
    refine own_step (T' := T8) (g' := (mkF m 45 #[.val (.int x0), .val (.int x1), .unset, .unset, .unset, .unset] [(.int (92 : Int32)), (.int (7 : Int32)), (.ref b1), (.ref b1)])) (fun _ k => XS.bipush X8.here hx rfl (hb hby at_43) k) ?_
    obtain ⟨cl9, Ar9, q9, S9, M9, H9, G9⟩ := V8
    obtain ⟨T9, h9, X9, e9, W9, st9⟩ := stC X8 hx hZ e8 Ar9 (j := (7 : Int32)) (inb_of S9 ⟨by decide, by decide⟩) (g := (mkF m 45 #[.val (.int x0), .val (.int x1), .unset, .unset, .unset, .unset] [(.int (92 : Int32)), (.int (7 : Int32)), (.ref b1), (.ref b1)])) rfl rfl (hb hby at_45)
    have V9 : Arv Z h9 b1 k1 .char (8 : Int32) [(.int (116 : Int32)), (.int (98 : Int32)), (.int (110 : Int32)), (.int (114 : Int32)), (.int (102 : Int32)), (.int (34 : Int32)), (.int (39 : Int32)), (.int (92 : Int32))] (.int (0 : Int32)) := Arv.set Ar9 q9 S9 M9 H9 G9 (fits_nar_char _) W9 7 rfl (Nat.le_of_ble_eq_true rfl)
    have N9 := Fr.snoc X9 N8 g_b1
    have Z9 : n0 ≤ h9.size := Nat.le_trans Z8 (Keep.of_wr W9).1
    refine own_step (T' := T9) (g' := (mkF m 46 #[.val (.int x0), .val (.int x1), .unset, .unset, .unset, .unset] [(.ref b1)])) (fun _ k => st9 _ k) ?_
    refine own_step (T' := T9) (g' := (mkF m 47 #[.val (.int x0), .val (.int x1), .val (.ref b1), .unset, .unset, .unset] [])) (fun _ k => XS.astoreN X9.here hx rfl (hb hby at_46) rfl rfl (l' := #[.val (.int x0), .val (.int x1), .val (.ref b1), .unset, .unset, .unset]) rfl k) ?_
    refine own_step (T' := T9) (g' := (mkF m 48 #[.val (.int x0), .val (.int x1), .val (.ref b1), .unset, .unset, .unset] [(.int x0)])) (fun _ k => XS.iloadN X9.here hx rfl (hb hby at_47) rfl k) ?_
    refine own_step (T' := T9) (g' := (mkF m 50 #[.val (.int x0), .val (.int x1), .val (.ref b1), .unset, .unset, .unset] [(.int (15 : Int32)), (.int x0)])) (fun _ k => XS.bipush X9.here hx rfl (hb hby at_48) k) ?_
    refine own_step (T' := T9) (g' := (mkF m 51 #[.val (.int x0), .val (.int x1), .val (.ref b1), .unset, .unset, .unset] [(.int (x0 &&& (15 : Int32)))])) (fun _ k => XS.iand X9.here hx rfl (hb hby at_50) rfl k) ?_
    refine own_step (T' := T9) (g' := (mkF m 52 #[.val (.int x0), .val (.int x1), .val (.ref b1), .val (.int (x0 &&& (15 : Int32))), .unset, .unset] [])) (fun _ k => XS.istoreN X9.here hx rfl (hb hby at_51) rfl (l' := #[.val (.int x0), .val (.int x1), .val (.ref b1), .val (.int (x0 &&& (15 : Int32))), .unset, .unset]) rfl k) ?_
    refine own_step (T' := T9) (g' := (mkF m 53 #[.val (.int x0), .val (.int x1), .val (.ref b1), .val (.int (x0 &&& (15 : Int32))), .unset, .unset] [(.int (x0 &&& (15 : Int32)))])) (fun _ k => XS.iloadN X9.here hx rfl (hb hby at_52) rfl k) ?_
    refine own_step (T' := T9) (g' := (mkF m 55 #[.val (.int x0), .val (.int x1), .val (.ref b1), .val (.int (x0 &&& (15 : Int32))), .unset, .unset] [(.int (8 : Int32)), (.int (x0 &&& (15 : Int32)))])) (fun _ k => XS.bipush X9.here hx rfl (hb hby at_53) k) ?_
    by_cases hc : (x0 &&& (15 : Int32)) < (8 : Int32)
    · refine own_step (T' := T9) (g' := (mkF m 58 #[.val (.int x0), .val (.int x1), .val (.ref b1), .val (.int (x0 &&& (15 : Int32))), .unset, .unset] [])) (fun _ k => XS.icmpNo X9.here hx rfl (hb hby at_55) rfl (tlt hc).2.1 k) ?_
      exact B58 T9 _ x0 x1 b1 (x0 &&& (15 : Int32)) h9 Z9 k1 V9 (own_hy0_58 hc) X9 e9 N9 ((if_pos hc).symm.trans hf)
    · refine own_step (T' := T9) (g' := (mkF m 64 #[.val (.int x0), .val (.int x1), .val (.ref b1), .val (.int (x0 &&& (15 : Int32))), .unset, .unset] [])) (fun _ k => XS.icmpYes X9.here hx rfl (pc0 := 55) (pc' := 64) rfl (hb hby at_55) rfl (flt hc).2.1 (by decide) (by decide) k) ?_
      exact B64 T9 _ x0 x1 b1 (x0 &&& (15 : Int32)) h9 Z9 k1 V9 X9 e9 N9 ((if_neg hc).symm.trans hf)
  have hB := B0 s₁ [] p0 p1 h0 Z0 X00 e00 (Fr.nil n0) hlaw
  obtain ⟨s₂, o, q1, q2, q3, v, L, q4, q5, q6⟩ := hB
  exact ⟨s₂, o, castTop (ef_0 m p0 p1) q1, q2, q3, v, L, q4, q5, q6⟩
set_option maxRecDepth 65536 in
set_option maxHeartbeats 40000000 in
theorem comes_1 {Post : Tables → Env → Array Value → State → Outcome → State → Prop} (hpost : ∀ tb e args s v u, (limb_1_1.after args s (.returned v) u = true ∧ limb_1_2.after args s (.returned v) u = true ∧ True) → FrameEnd s (.returned v) u (Jvm.fieldLocs frame_1_writes args s ++ Jvm.arrayLocs frame_1_arrays args s ++ Jvm.staticLocs frame_1_statics s) 16 128 → Post tb e args s (.returned v) u) :
    ArmFor flags0 classFile x code maxLocals ret World_1 tables_1 room_1 Calls_1 rest_1 Pre_1 Post := by
  intro l hfl _ _ p e ha hc hk s m args below hf hA hF happ hP
  obtain ⟨hcalls, hrest, hpre⟩ := hP
  obtain ⟨-, -, -, hnamed, -, -, -, hat⟩ := (Spec.applies_iff hf).mp happ
  obtain ⟨hg, hn⟩ := and_e (Cond.before_iff.mp (show (Jvm.Cond.and given_1 narrow_1).before args s = true from hpre))
  obtain ⟨hcnt, g0⟩ := and_e hg
  obtain ⟨a0, g1⟩ := and_e g0
  obtain ⟨w0, w1, rfl⟩ : ∃ w0 w1 : Value, args = #[w0, w1] := by
    have hs : args.size = 2 := by simpa [Cond.value, given_1] using hcnt
    obtain ⟨L⟩ := args
    match L, hs with
    | [w0, w1], _ => exact ⟨w0, w1, rfl⟩
  have hw := fun d (hd : d ∈ tables_1) => atoms_spec (ws := Jvm.Cond.code x code maxLocals ret :: tables_1) hat d (List.mem_cons_of_mem _ hd)
  obtain ⟨i0, ei0⟩ := is_v a0
  obtain rfl : w0 = (.int i0) := Option.some.inj ei0
  obtain ⟨i1, ei1⟩ := is_v g1
  obtain rfl : w1 = (.int i1) := Option.some.inj ei1
  obtain ⟨n, o, h1, h2, h3, _, L, rfl, ⟨rfl, N⟩, hq⟩ := rm0 l s _ hw tables_1 i0 i1 s.heap s.heap.size (Nat.le_refl _) (own_law i0 i1) p e ha hc hk s m _ below hf ((Spec.applies_iff_loose hf).mp happ).1 ⟨rfl, State.Warmed39.refl s, rfl⟩ trivial
  refine ⟨n, _, h1, h2, h3, hpost _ _ _ _ _ _ ⟨Cond.after_iff.mpr rfl, Cond.after_iff.mpr (eq_i res_at (Term.int_eval (1)) rfl), trivial⟩ ⟨hq.1, hq.2.1, (hq.2.2.sift fun y hy => Or.inr (N y hy)).mono (by decide) (by decide)⟩⟩
theorem main_1_1 : Claimed_1_1 := comes_1 fun _ _ _ _ _ _ h hF => ⟨h.1, hF⟩
theorem main_1_2 : Claimed_1_2 := comes_1 fun _ _ _ _ _ _ h hF => ⟨h.2.1, hF⟩
end Jvm.Pilot.@@N@@
namespace Jvm.Pilot.@@N@@
open Jvm Jvm.ClassFile Sem Op Lib Jvm.Free Jvm.Stand Jvm.Pilot.@@N@@.Jvm.D
/-! MADE BY PROGRAM (witnessworld.py) out of the Statement's table words and the real class files: 11 classes; the members and pool entries that the words name. The judged class is class 1, her method 1. -/
namespace start1
open Jvm.ClassFile
def u (s : String) : CpInfo := .utf8 (stringToUtf16 s)
/-- a pool by its gaps: so many unusable entries, then the entry; so many at the end -/
def gap : Nat → List CpInfo → List CpInfo
  | 0, r => r
  | n + 1, r => .unusable :: gap n r
def poolList (es : List (Nat × CpInfo)) (last : Nat) : List CpInfo := es.foldr (fun e r => gap e.1 (e.2 :: r)) (gap last [])
def pool (es : List (Nat × CpInfo)) (last : Nat) : Array CpInfo := ⟨poolList es last⟩
def fileOf (pool : Array CpInfo) (this : Nat) (attrs : Array Attribute := #[]) (ms : Array MethodInfo := #[]) (fl : Nat := 33) (sup : Nat := 0) (ifs : Array Nat := #[]) (fds : Array FieldInfo := #[]) : ClassFile where
  minorVersion := 0
  majorVersion := 65
  constantPool := pool
  accessFlags := fl
  thisClass := this
  superClass := sup
  interfaces := ifs
  fields := fds
  methods := ms
  attributes := attrs
def plain (name : String) (sup : Option ClassId) : Class where
  name := name
  kind := .ordinary
  loader := none
  accessFlags := 33
  super := sup
  interfaces := #[]
  cf := none
  fields := #[]
  methods := #[]
  instanceTypes := #[]
  staticTypes := #[]
  resolved := #[]
  callSites := []
  init := .initialized
  statics := none
  mirror := none

def pool0 : Array CpInfo := pool [(5, u "<init>"), (0, u "()V"), (1, .class_ 10), (1, u "java/lang/Object")] 113

def k0m0 : Method := { name := "<init>", desc := "()V", sig := { parameters := [], returnType := none }, accessFlags := 1, code := none }
/-- java/lang/Object -/
def k0 : Class := { plain "java/lang/Object" none with
  accessFlags := 33
  interfaces := #[]
  cf := some (fileOf pool0 8 #[] #[{ accessFlags := 1, nameIndex := 5, descriptorIndex := 6, attributes := #[] }] 33 0 #[] #[])
  fields := #[]
  methods := #[k0m0]
  instanceTypes := #[]
  staticTypes := #[]
  resolved := Array.replicate 124 none
  statics := none }

def pool1 : Array CpInfo := pool [(2, .class_ 4), (1, u "java/lang/Object"), (0, u "<init>"), (0, u "()V"), (0, .integer 65535), (0, .methodref 9 10), (0, .class_ 11), (0, .nameAndType 12 13), (0, u "com/example/graphwright/graphwright/model/Terminals"), (0, u "echar"), (0, u "(C)I"), (0, .methodref 15 16), (0, .class_ 17), (0, .nameAndType 18 19), (0, u "com/example/graphwright/graphwright/model/TerminalsEcharPinLaw"), (0, u "expected"), (0, u "(I)I"), (2, u "law"), (0, u "(II)Z")] 5

def k1m0 : Method := { name := "<init>", desc := "()V", sig := { parameters := [], returnType := none }, accessFlags := 2, code := none }
def k1c1 : Code := { maxStack := 4, maxLocals := 6, code := code, exceptionTable := #[], attributes := #[] }
def k1m1 : Method := { name := "law", desc := "(II)Z", sig := { parameters := [.int, .int], returnType := some .boolean }, accessFlags := 9, code := some k1c1 }
def k1c2 : Code := { maxStack := 2, maxLocals := 1, code := method_3_code, exceptionTable := #[], attributes := #[] }
def k1m2 : Method := { name := "expected", desc := "(I)I", sig := { parameters := [.int], returnType := some .int }, accessFlags := 10, code := some k1c2 }
/-- com/example/graphwright/graphwright/model/TerminalsEcharPinLaw -/
def k1 : Class := { plain "com/example/graphwright/graphwright/model/TerminalsEcharPinLaw" (some 0) with
  accessFlags := 49
  interfaces := #[]
  cf := some (fileOf pool1 15 #[] #[{ accessFlags := 2, nameIndex := 5, descriptorIndex := 6, attributes := #[] }, { accessFlags := 9, nameIndex := 22, descriptorIndex := 23, attributes := #[] }, { accessFlags := 10, nameIndex := 18, descriptorIndex := 19, attributes := #[] }] 49 2 #[] #[])
  fields := #[]
  methods := #[k1m0, k1m1, k1m2]
  instanceTypes := #[]
  staticTypes := #[]
  resolved := Array.replicate 29 none
  statics := none }

def pool2 : Array CpInfo := pool [(2, .class_ 4), (1, u "java/lang/Object"), (0, u "<init>"), (0, u "()V"), (8, .class_ 17), (1, u "com/example/graphwright/graphwright/model/Terminals"), (74, .class_ 93), (0, u "com/example/graphwright/graphwright/model/Terminals$Escape"), (19, u "echar"), (0, u "(C)I")] 7

def k2m0 : Method := { name := "<init>", desc := "()V", sig := { parameters := [], returnType := none }, accessFlags := 2, code := none }
def k2c1 : Code := { maxStack := 1, maxLocals := 1, code := prog_146_method_12_code, exceptionTable := #[], attributes := #[] }
def k2m1 : Method := { name := "echar", desc := "(C)I", sig := { parameters := [.char], returnType := some .int }, accessFlags := 9, code := some k2c1 }
/-- com/example/graphwright/graphwright/model/Terminals -/
def k2 : Class := { plain "com/example/graphwright/graphwright/model/Terminals" (some 0) with
  accessFlags := 49
  interfaces := #[]
  cf := some (fileOf pool2 15 #[.nestMembers #[92]] #[{ accessFlags := 2, nameIndex := 5, descriptorIndex := 6, attributes := #[] }, { accessFlags := 9, nameIndex := 113, descriptorIndex := 114, attributes := #[] }] 49 2 #[] #[])
  fields := #[]
  methods := #[k2m0, k2m1]
  instanceTypes := #[]
  staticTypes := #[]
  resolved := Array.replicate 122 none
  statics := none }

def pool3 : Array CpInfo := pool [(1, u "java/lang/Cloneable"), (0, .class_ 1), (0, u "java/lang/Object"), (0, .class_ 3)] 3

/-- java/lang/Cloneable -/
def k3 : Class := { plain "java/lang/Cloneable" (some 0) with
  accessFlags := 1537
  interfaces := #[]
  cf := some (fileOf pool3 2 #[] #[] 1537 4 #[] #[])
  fields := #[]
  methods := #[]
  instanceTypes := #[]
  staticTypes := #[]
  resolved := Array.replicate 8 none
  statics := none }

def pool4 : Array CpInfo := pool [(1, u "java/io/Serializable"), (0, .class_ 1), (0, u "java/lang/Object"), (0, .class_ 3)] 3

/-- java/io/Serializable -/
def k4 : Class := { plain "java/io/Serializable" (some 0) with
  accessFlags := 1537
  interfaces := #[]
  cf := some (fileOf pool4 2 #[] #[] 1537 4 #[] #[])
  fields := #[]
  methods := #[]
  instanceTypes := #[]
  staticTypes := #[]
  resolved := Array.replicate 8 none
  statics := none }

/-- the primitive byte -/
def k5 : Class := { plain "byte" none with kind := .primitive 'B', accessFlags := 0x411 }
/-- [B -/
def k6 : Class := { plain "[B" (some 0) with kind := .array 5 .byte, interfaces := #[3, 4], accessFlags := 1041 }

/-- the primitive char -/
def k7 : Class := { plain "char" none with kind := .primitive 'C', accessFlags := 0x411 }
/-- [C -/
def k8 : Class := { plain "[C" (some 0) with kind := .array 7 .char, interfaces := #[3, 4], accessFlags := 1041 }

/-- the primitive int -/
def k9 : Class := { plain "int" none with kind := .primitive 'I', accessFlags := 0x411 }
/-- [I -/
def k10 : Class := { plain "[I" (some 0) with kind := .array 9 .int, interfaces := #[3, 4], accessFlags := 1041 }

def heap : Heap := #[]
def classes : Array Class := #[k0, k1, k2, k3, k4, k5, k6, k7, k8, k9, k10]
def interned : List (Array UInt16 × Addr) := []
def slotsUsed : Nat := 0
def theMethod : MethodId := ⟨1, 1⟩
def args0 : Array Value := #[.int 5, .int 6]
def aboutOver (below : List Frame) : State where
  vm := { classes := classes, interned := interned.toArray }
  heap := heap
  slotsUsed := slotsUsed
  threads := #[{ frames := .invoking theMethod args0 :: below }]
def below0 : List Frame := [.native { method := ⟨0, 0⟩, args := #[] }]
def about1 : State := aboutOver below0
def p0 : Program := .bare "" "" ""
def e0 : Env := launch0.env 0 0 0
theorem w_frames : about1.frames = Frame.invoking theMethod args0 :: below0 := rfl
set_option maxRecDepth 65536 in
theorem w_args : argsFit about1.vm theMethod args0 = true := by decide +kernel
set_option maxRecDepth 65536 in
theorem w_heap : heapFits about1 = true := by decide +kernel
set_option maxRecDepth 65536 in
theorem w_runnable : about1.curStatus? = some .runnable := by decide +kernel
set_option maxRecDepth 65536 in
theorem w_alone : about1.alone = true := by decide +kernel
set_option maxRecDepth 65536 in
theorem w_named : about1.methodNamed? x = some theMethod := by decide +kernel
set_option maxRecDepth 65536 in
theorem w_hears : about1.hears theMethod below0 = true := by decide +kernel
set_option maxRecDepth 65536 in
theorem w_ripe : about1.ripe theMethod args0 below0 = true := by decide +kernel
theorem w_running : about1.status = .running := rfl
set_option maxRecDepth 65536 in
theorem w_room : about1.hasRoom e0.platform room_1 = true :=
  launch0.hasRoom_least _ room_1 (by decide +kernel) (by decide +kernel) (by decide +kernel) (by decide +kernel) (by decide +kernel) (by decide +kernel)
theorem allAtoms_all (ts : List Jvm.Cond) (a : Array Jvm.Value) (st : Jvm.State) : (allAtoms ts).before a st = ts.all (fun c => c.before a st) := by
  induction ts with
  | nil => rfl
  | cons c t ih =>
    show (Jvm.Cond.and c (allAtoms t)).before a st = _
    rw [Jvm.Cond.before_and, ih, List.all_cons]
def words1 : List Jvm.Cond := Jvm.Cond.code x code maxLocals ret :: tables_1
/-- a 'code' word, met by the world's own term for the bytes: nothing is compared byte by byte -/
theorem code_word {y : MethodName} {bytes : ByteArray} {mx : Nat} {rt : Option FieldType} {a : Array Value} {s : State} {m : MethodId} {meth : Method} {c : Code} (h1 : s.methodNamed? y = some m) (h2 : s.vm.method? m = some meth) (h3 : meth.code = some c) (h4 : c.code = bytes)
    (h5 : (c.maxLocals == mx && c.exceptionTable.isEmpty && decide (c.maxStack ≤ mostOperands) && decide (meth.sig.returnType = rt) && !meth.locks && decide (parseMethodDescriptor y.desc = some meth.sig)) = true) : (Jvm.Cond.code y bytes mx rt).before a s = true := by
  simp only [Bool.and_eq_true, beq_iff_eq, Bool.not_eq_true', decide_eq_true_eq] at h5
  obtain ⟨⟨⟨⟨⟨g1, g2⟩, g3⟩, g4⟩, g5⟩, g6⟩ := h5
  simp [Cond.before, Cond.holds, Cond.value, h1, h2, h3, h4, g1, g2, g3, g4, g5, g6]
def isCode : Jvm.Cond → Bool
  | .code _ _ _ _ => true
  | _ => false
theorem all_split {L : List Jvm.Cond} {P : Jvm.Cond → Bool} (h1 : L.all (fun c => isCode c || P c) = true) (h2 : ∀ c ∈ L.filter isCode, P c = true) : L.all P = true := by
  refine List.all_eq_true.mpr fun c hc => ?_
  have h := List.all_eq_true.mp h1 c hc
  rcases Bool.eq_false_or_eq_true (isCode c) with hi | hi
  · exact h2 c (List.mem_filter.mpr ⟨hc, hi⟩)
  · simpa [hi] using h
set_option maxRecDepth 65536 in
theorem w_c0 : (Jvm.Cond.code x code maxLocals ret).before args0 about1 = true := code_word (m := ⟨1, 1⟩) (meth := k1m1) (c := k1c1) (by decide +kernel) rfl rfl rfl (by decide +kernel)
set_option maxRecDepth 65536 in
theorem w_c1 : (Jvm.Cond.code ({ cls := "com/example/graphwright/graphwright/model/Terminals", name := "echar", desc := "(C)I" } : Jvm.MethodName) prog_146_method_12_code (1 : Nat) (Option.some Jvm.ClassFile.FieldType.int)).before args0 about1 = true := code_word (m := ⟨2, 1⟩) (meth := k2m1) (c := k2c1) (by decide +kernel) rfl rfl rfl (by decide +kernel)
set_option maxRecDepth 65536 in
theorem w_c2 : (Jvm.Cond.code ({ cls := "com/example/graphwright/graphwright/model/TerminalsEcharPinLaw", name := "expected", desc := "(I)I" } : Jvm.MethodName) method_3_code (1 : Nat) (Option.some Jvm.ClassFile.FieldType.int)).before args0 about1 = true := code_word (m := ⟨1, 2⟩) (meth := k1m2) (c := k1c2) (by decide +kernel) rfl rfl rfl (by decide +kernel)
def codes1 : List Jvm.Cond := [Jvm.Cond.code x code maxLocals ret, Jvm.Cond.code ({ cls := "com/example/graphwright/graphwright/model/Terminals", name := "echar", desc := "(C)I" } : Jvm.MethodName) prog_146_method_12_code (1 : Nat) (Option.some Jvm.ClassFile.FieldType.int), Jvm.Cond.code ({ cls := "com/example/graphwright/graphwright/model/TerminalsEcharPinLaw", name := "expected", desc := "(I)I" } : Jvm.MethodName) method_3_code (1 : Nat) (Option.some Jvm.ClassFile.FieldType.int)]
set_option maxRecDepth 65536 in
theorem codes_eq : words1.filter isCode = codes1 := rfl
theorem w_codes : ∀ c ∈ words1.filter isCode, c.before args0 about1 = true := by
  rw [codes_eq]
  intro c hc
  simp only [codes1, List.mem_cons, List.not_mem_nil, or_false] at hc
  rcases hc with rfl | rfl | rfl
  · exact w_c0
  · exact w_c1
  · exact w_c2
set_option maxRecDepth 65536 in
theorem w_t1 : words1.all (fun c => isCode c || c.before args0 about1) = true := by decide +kernel
theorem w_tables : (allAtoms (Jvm.Cond.code x code maxLocals ret :: tables_1)).before args0 about1 = true := by
  rw [allAtoms_all]
  show words1.all (fun c => c.before args0 about1) = true
  refine all_split ?_ w_codes
  rw [w_t1]
set_option maxRecDepth 65536 in
theorem w_case : (Jvm.Cond.and given_1 narrow_1).before args0 about1 = true := by decide +kernel
theorem w_applies : (headSpec (Jvm.Cond.code x code maxLocals ret :: tables_1) room_1).applies x e0.platform about1 = true :=
  (Spec.applies_iff w_frames).mpr ⟨w_running, w_runnable, w_alone, w_named, w_hears, w_ripe, w_room, w_tables⟩
theorem atStart : AtStart classFile x code maxLocals ret World_1 tables_1 room_1 Calls_1 rest_1 Pre_1 launch0 p0 e0 about1 theMethod args0 below0 :=
  ⟨lists_1, trivial, launch0.admits_env _ _ _, launch0.least_env, fairChoices_fair.cas, fairChoices_fair.clock, w_frames, w_args, w_heap, w_applies, trivial, trivial, w_case⟩
end start1
theorem witness_1 : WitnessClaimed_1 := ⟨start1.p0, start1.e0, start1.about1, start1.theMethod, start1.args0, start1.below0, start1.atStart⟩
end Jvm.Pilot.@@N@@
