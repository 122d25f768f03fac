import JvmDerived
import JvmDerived.Pilot.@@N@@Statement
import JvmDerived.Pilot.@@N@@Code
set_option linter.unusedVariables false
set_option linter.unusedSimpArgs false
namespace Jvm.Pilot.@@N@@
open Jvm Jvm.ClassFile Sem Op Lib Jvm.Free Jvm.Stand Jvm.LawKit Jvm.RoadKit Bundle Jvm.Pilot.@@N@@.Jvm.D
abbrev jv (x : Int64) : Slot := .val (.long x)
section OwnKit
variable {p : Program} {l : Launch} {e : Env} {R : Room} {s : State} {m : MethodId} {args : Array Value} {below : List Frame} {meth : Method} {c : Code} {T T' : State} {locs : List Loc} {cells slots kc ks : Nat} {Q : Option Value → Heap → List Loc → Prop} {g g' : JFrame}
/-- from the state T, its top frame g, the invocation comes to its end with Q -/
def own_WP (p : Program) (e : Env) (below : List Frame) (s : State) (Q : Option Value → Heap → List Loc → Prop) (kc ks : Nat) (T : State) (g : JFrame) : Prop :=
  ∃ s₂ o, Steps p.tables e below (T.setTop g) s₂ ∧ s₂.status = .running ∧ Ended s₂ below o ∧ ∃ v L, o = .returned v ∧ Q v s₂.heap L ∧ FrameEnd s o s₂ L kc ks
theorem own_step (h : ∀ t, Steps p.tables e below (T'.setTop g') t → Steps p.tables e below (T.setTop g) t) (hr : own_WP p e below s Q kc ks T' g') : own_WP p e below s Q kc ks T g := by
  obtain ⟨s₂, o, h1, h2⟩ := hr
  exact ⟨s₂, o, h _ h1, h2⟩
theorem own_st (g' : JFrame) (h : ∀ t, Steps p.tables e below (T.setTop g') t → Steps p.tables e below (T.setTop g) t) (hr : own_WP p e below s Q kc ks T g') : own_WP p e below s Q kc ks T g := own_step h hr
theorem own_jump (h : Steps p.tables e below (T.setTop g) (T'.setTop g')) (hr : own_WP p e below s Q kc ks T' g') : own_WP p e below s Q kc ks T g := by
  obtain ⟨s₂, o, h1, h2⟩ := hr
  exact ⟨s₂, o, h.trans h1, h2⟩
theorem own_ret (X : Stand p l e R s m args below meth c T locs cells slots) (hlk : meth.locks = false) {v : Option Value} (hv : meth.sig.returnType = none → v = none)
    (hst : ∀ fs, (∀ (f : JFrame) (acts : List Action), f.method = m → f.locked = none → f.entered = [] → (doReturn e (T.setTop f) acts v).1 = T.setFrames fs) → Steps p.tables e below (T.setTop g) (T.setFrames fs))
    (hq : Q v T.heap locs) (h1 : cells ≤ kc) (h2 : slots ≤ ks) : own_WP p e below s Q kc ks T g := by
  obtain ⟨fs, hr, hrun, hended, hW, hsame⟩ := X.leave (v := v) hv hlk
  exact ⟨_, _, hst fs hr, hrun, hended, v, locs, rfl, hq, ⟨v, rfl⟩, hW, hsame.mono h1 h2⟩
theorem own_wide (X : Stand p l e R s m args below meth c T locs cells slots) {cells' slots' : Nat} (h1 : cells ≤ cells') (h2 : slots ≤ slots') : Stand p l e R s m args below meth c T locs cells' slots' :=
  ⟨X.admits, X.cas, X.clock, X.frames, X.room, X.hears, X.method, X.code, X.here, X.tail, X.warmed, X.limits, X.bytes, X.same.mono h1 h2⟩
end OwnKit
theorem own_body {l : Launch} {y : MethodName} {bytes : ByteArray} {maxL : Nat} {ret : Option FieldType} {ws : List Jvm.Cond} {rm : Room} {A : Array Value} {Z : State} {h0 : Heap} {Q : Option Value → Heap → List Loc → Prop} {ls : Array Slot} {kc ks : Nat}
    (hpl : plainFor y = true) (ef : ∀ m, entryFrame m A maxL = mkF m 0 ls [])
    (body : ∀ (p : Program) (e : Env) (s : State) (m : MethodId) (below : List Frame) (meth : Method) (c : Code) (T : State), Stand p l e rm s m A below meth c T [] 0 0 → p.tables.exec = Jvm.exec → c.code = bytes → c.maxLocals = maxL → Z.Warmed39 s.vm → s.vm.findClass y.cls = some m.cls → meth.name = y.name → meth.sig.returnType = ret → meth.locks = false → T.heap = h0 →
      own_WP p e below s Q kc ks T (mkF m 0 ls [])) :
    MetFree l y (head1 (Jvm.Cond.code y bytes maxL ret :: ws) rm) (fun a U => a = A ∧ Z.Warmed39 U.vm ∧ U.heap = h0) (fun _ _ _ _ _ => True) (fun _ U o U' => ∃ v L, o = .returned v ∧ Q v U'.heap L ∧ FrameEnd U o U' L kc ks) := by
  refine MetFree.of_bodySF hpl hisR ?_
  intro p e s m args below meth c s₁ Bd hml0 hP hK
  obtain ⟨rfl, hZ, hh⟩ := hP
  obtain ⟨s₂, o, h1, h2⟩ := body p e s m below meth c s₁ (Stand.of_body Bd) Bd.exec Bd.bytes hml0 hZ (findClass_of_methodNamed Bd.named) (name_of_methodNamed Bd.named Bd.method).1 Bd.returns Bd.notSynchronized (by rw [← hh, Bd.state]; rfl)
  exact ⟨s₂, o, castTop (ef m) h1, h2⟩
theorem own_llt1 {x y : Int64} (h : x < y) : ifCond.holds .lt (lcmpW x y) = true := (if0 _ _).trans (tlt ((lw_lt x y).mpr h)).1
theorem own_llt0 {x y : Int64} (h : ¬ x < y) : ifCond.holds .lt (lcmpW x y) = false := (if0 _ _).trans (flt (mt (lw_lt x y).mp h)).1
theorem own_lge1 {x y : Int64} (h : ¬ x < y) : ifCond.holds .ge (lcmpW x y) = true := (if0 _ _).trans (flt (mt (lw_lt x y).mp h)).2.1
theorem own_lge0 {x y : Int64} (h : x < y) : ifCond.holds .ge (lcmpW x y) = false := (if0 _ _).trans (tlt ((lw_lt x y).mpr h)).2.1
theorem own_lgt1 {x y : Int64} (h : y < x) : ifCond.holds .gt (lcmpW x y) = true := (if0 _ _).trans (tlt ((lw_gt x y).mpr h)).2.2.1
theorem own_lgt0 {x y : Int64} (h : ¬ y < x) : ifCond.holds .gt (lcmpW x y) = false := (if0 _ _).trans (flt (mt (lw_gt x y).mp h)).2.2.1
theorem own_lle1 {x y : Int64} (h : ¬ y < x) : ifCond.holds .le (lcmpW x y) = true := (if0 _ _).trans (flt (mt (lw_gt x y).mp h)).2.2.2
theorem own_lle0 {x y : Int64} (h : y < x) : ifCond.holds .le (lcmpW x y) = false := (if0 _ _).trans (tlt ((lw_gt x y).mpr h)).2.2.2
theorem own_leq1 {x y : Int64} (h : x = y) : ifCond.holds .eq (lcmpW x y) = true := (if0 _ _).trans (teq ((lw_eq x y).mpr h)).1
theorem own_leq0 {x y : Int64} (h : ¬ x = y) : ifCond.holds .eq (lcmpW x y) = false := (if0 _ _).trans (feq (mt (lw_eq x y).mp h)).1
theorem own_lne1 {x y : Int64} (h : ¬ x = y) : ifCond.holds .ne (lcmpW x y) = true := (if0 _ _).trans (feq (mt (lw_eq x y).mp h)).2
theorem own_lne0 {x y : Int64} (h : x = y) : ifCond.holds .ne (lcmpW x y) = false := (if0 _ _).trans (teq ((lw_eq x y).mpr h)).2
def own_has (q a b c d : Int32) : Int32 := if q = a ∨ q = b ∨ q = c ∨ q = d then 1 else 0
theorem own_rev (q a b c d : Int32) : own_has q a b c d = own_has q d c b a := by
  unfold own_has
  by_cases h1 : q = a <;> by_cases h2 : q = b <;> by_cases h3 : q = c <;> by_cases h4 : q = d <;> simp [h1, h2, h3, h4]
theorem own_in (q a b c d : Int32) (h : q = a ∨ q = b ∨ q = c ∨ q = d) : ¬ own_has q a b c d = (0 : Int32) := by
  unfold own_has; rw [if_pos h]; decide
theorem own_cc (x : Int32) : nar .char (x.toUInt32.toUInt16.toUInt32.toInt32) = x.toUInt32.toUInt16.toUInt32.toInt32 := by
  show (x.toUInt32.toUInt16.toUInt32.toInt32).toUInt32.toUInt16.toUInt32.toInt32 = x.toUInt32.toUInt16.toUInt32.toInt32
  rw [UInt32.toUInt32_toInt32, UInt16.toUInt16_toUInt32]
theorem d2_0 : decode jdk_30_method_1_code 0 = .ok (.aload_n 0, 1) := by decide +kernel
theorem d2_1 : decode jdk_30_method_1_code 1 = .ok (.invokespecial 1, 3) := by decide +kernel
theorem hw_11 {a0 : Array Value} {Z : State} (hw : ∀ d ∈ tables_1, d.before a0 Z = true) : (Jvm.Cond.methodLink "java/lang/Record" (1 : Nat) ({ cls := "java/lang/Object", name := "<init>", desc := "()V" } : Jvm.MethodName)).before a0 Z = true := hw _ (List.mem_of_getElem? (i := 11) rfl)
theorem hw_12 {a0 : Array Value} {Z : State} (hw : ∀ d ∈ tables_1, d.before a0 Z = true) : (Jvm.Cond.instanceMethod ({ cls := "java/lang/Object", name := "<init>", desc := "()V" } : Jvm.MethodName)).before a0 Z = true := hw _ (List.mem_of_getElem? (i := 12) rfl)
theorem hw_13 {a0 : Array Value} {Z : State} (hw : ∀ d ∈ tables_1, d.before a0 Z = true) : (Jvm.Cond.code ({ cls := "java/lang/Object", name := "<init>", desc := "()V" } : Jvm.MethodName) object_method_1_code (1 : Nat) (Option.none : Option Jvm.ClassFile.FieldType)).before a0 Z = true := hw _ (List.mem_of_getElem? (i := 13) rfl)
theorem d2_4 : decode jdk_30_method_1_code 4 = .ok (.return_, 1) := by decide +kernel
theorem pn_2 : plainName "java/lang/Record" = true := by first | (simp [plainName, overriddenIn]; done) | decide +kernel
theorem own_ef2 (m : MethodId) (a1 : Addr) : entryFrame m #[(.ref a1)] 1 = mkF m 0 #[rv a1] [] := by first | (simp [entryFrame, mkF, argsToLocals, Value.category]; done) | rfl
def own_Q2 (Z : State) (a1 : Addr) (h0 : Heap) (n0 : Nat) (v : Option Value) (h : Heap) (L : List Loc) : Prop := v = none ∧ Fr n0 L ∧ h = h0
set_option maxRecDepth 65536 in
set_option maxHeartbeats 40000000 in
theorem own_rm2 (l : Launch) (Z : State) (a0 : Array Value) (hw : ∀ d ∈ tables_1, d.before a0 Z = true) (ws : List Jvm.Cond) (a1 : Addr) (h0 : Heap) (n0 : Nat) (Z0 : n0 ≤ h0.size) :
    MetFree l (⟨"java/lang/Record", "<init>", "()V"⟩ : MethodName) (head1 (Jvm.Cond.code (⟨"java/lang/Record", "<init>", "()V"⟩ : MethodName) jdk_30_method_1_code 1 none :: ws) ({ frames := 1, cells := 0, slots := 0, locals := 12 } : Room)) (fun a U => a = #[(.ref a1)] ∧ Z.Warmed39 U.vm ∧ U.heap = h0) (fun _ _ _ _ _ => True) (fun _ U o U' => ∃ v L, o = .returned v ∧ own_Q2 Z a1 h0 n0 v U'.heap L ∧ FrameEnd U o U' L ({ frames := 1, cells := 0, slots := 0, locals := 12 } : Room).cells ({ frames := 1, cells := 0, slots := 0, locals := 12 } : Room).slots) := by
  refine own_body (plainFor_of_name pn_2) (fun m => own_ef2 m a1) ?_
  intro p e s m below meth c T0 X0 hx hby hml hZ hown hnm hret hlk e0
  have hown : s.vm.findClass "java/lang/Record" = some m.cls := hown
  have hnm : meth.name = "<init>" := hnm
  have N0 := Fr.nil n0
  refine own_st (mkF m 1 #[rv a1] [(.ref a1)]) (fun t k => XS.aloadN X0.here hx rfl (hb hby d2_0) rfl rfl k) ?_
  obtain ⟨T1, X1, e1, st1⟩ := initO X0 hx hZ hown (hw_11 hw) (hw_12 hw) (hw_13 hw) e0 (g := (mkF m 1 #[rv a1] [(.ref a1)])) rfl (by rw [hml]; rfl) rfl (hb hby d2_1) (by decide) (W := 0) (by show 2 * 0 + _ ≤ _; exact Nat.le_of_eq rfl) (by decide)
  refine own_step (g' := (mkF m 4 #[rv a1] [])) st1 ?_
  refine own_ret X1 hlk (v := none) (fun _ => rfl) (fun fs hr => X1.returnOut hx hret (hb hby d2_4) hr) ?_ (by decide) (by decide)
  show own_Q2 Z a1 h0 n0 _ T1.heap _
  rw [e1]
  exact ⟨rfl, N0, rfl⟩
theorem d1_0 : decode prog_94_method_1_code 0 = .ok (.aload_n 0, 1) := by decide +kernel
theorem d1_1 : decode prog_94_method_1_code 1 = .ok (.invokespecial 1, 3) := by decide +kernel
theorem hw_6 {a0 : Array Value} {Z : State} (hw : ∀ d ∈ tables_1, d.before a0 Z = true) : (Jvm.Cond.methodLink "com/example/chargeweave/chargeweave/x12/Delimiters" (1 : Nat) ({ cls := "java/lang/Record", name := "<init>", desc := "()V" } : Jvm.MethodName)).before a0 Z = true := hw _ (List.mem_of_getElem? (i := 6) rfl)
theorem hw_10 {a0 : Array Value} {Z : State} (hw : ∀ d ∈ tables_1, d.before a0 Z = true) : (Jvm.Cond.code ({ cls := "java/lang/Record", name := "<init>", desc := "()V" } : Jvm.MethodName) jdk_30_method_1_code (1 : Nat) (Option.none : Option Jvm.ClassFile.FieldType)).before a0 Z = true := hw _ (List.mem_of_getElem? (i := 10) rfl)
theorem hw_9 {a0 : Array Value} {Z : State} (hw : ∀ d ∈ tables_1, d.before a0 Z = true) : (Jvm.Cond.initialized "java/lang/Record").before a0 Z = true := hw _ (List.mem_of_getElem? (i := 9) rfl)
theorem pd_0 : parseMethodDescriptor "()V" = some ⟨[], none⟩ := by decide +kernel
theorem hw_7 {a0 : Array Value} {Z : State} (hw : ∀ d ∈ tables_1, d.before a0 Z = true) : (Jvm.Cond.instanceMethod ({ cls := "java/lang/Record", name := "<init>", desc := "()V" } : Jvm.MethodName)).before a0 Z = true := hw _ (List.mem_of_getElem? (i := 7) rfl)
theorem d1_4 : decode prog_94_method_1_code 4 = .ok (.aload_n 0, 1) := by decide +kernel
theorem d1_5 : decode prog_94_method_1_code 5 = .ok (.iload_n 1, 1) := by decide +kernel
theorem d1_6 : decode prog_94_method_1_code 6 = .ok (.putfield 7, 3) := by decide +kernel
theorem hw_14 {a0 : Array Value} {Z : State} (hw : ∀ d ∈ tables_1, d.before a0 Z = true) : (Jvm.Cond.fieldLink "com/example/chargeweave/chargeweave/x12/Delimiters" (7 : Nat) "com/example/chargeweave/chargeweave/x12/Delimiters" "element" "C").before a0 Z = true := hw _ (List.mem_of_getElem? (i := 14) rfl)
theorem hw_15 {a0 : Array Value} {Z : State} (hw : ∀ d ∈ tables_1, d.before a0 Z = true) : (Jvm.Cond.laysFinal "com/example/chargeweave/chargeweave/x12/Delimiters" "com/example/chargeweave/chargeweave/x12/Delimiters" "element" "C").before a0 Z = true := hw _ (List.mem_of_getElem? (i := 15) rfl)
theorem hw_1 {a0 : Array Value} {Z : State} (hw : ∀ d ∈ tables_1, d.before a0 Z = true) : (Jvm.Cond.instantiable "com/example/chargeweave/chargeweave/x12/Delimiters" (4 : Nat)).before a0 Z = true := hw _ (List.mem_of_getElem? (i := 1) rfl)
theorem hw_17 {a0 : Array Value} {Z : State} (hw : ∀ d ∈ tables_1, d.before a0 Z = true) : (Jvm.Cond.laysFinal "com/example/chargeweave/chargeweave/x12/Delimiters" "com/example/chargeweave/chargeweave/x12/Delimiters" "repetition" "C").before a0 Z = true := hw _ (List.mem_of_getElem? (i := 17) rfl)
theorem hw_19 {a0 : Array Value} {Z : State} (hw : ∀ d ∈ tables_1, d.before a0 Z = true) : (Jvm.Cond.laysFinal "com/example/chargeweave/chargeweave/x12/Delimiters" "com/example/chargeweave/chargeweave/x12/Delimiters" "component" "C").before a0 Z = true := hw _ (List.mem_of_getElem? (i := 19) rfl)
theorem hw_21 {a0 : Array Value} {Z : State} (hw : ∀ d ∈ tables_1, d.before a0 Z = true) : (Jvm.Cond.laysFinal "com/example/chargeweave/chargeweave/x12/Delimiters" "com/example/chargeweave/chargeweave/x12/Delimiters" "segment" "C").before a0 Z = true := hw _ (List.mem_of_getElem? (i := 21) rfl)
theorem d1_9 : decode prog_94_method_1_code 9 = .ok (.aload_n 0, 1) := by decide +kernel
theorem d1_10 : decode prog_94_method_1_code 10 = .ok (.iload_n 2, 1) := by decide +kernel
theorem d1_11 : decode prog_94_method_1_code 11 = .ok (.putfield 13, 3) := by decide +kernel
theorem hw_16 {a0 : Array Value} {Z : State} (hw : ∀ d ∈ tables_1, d.before a0 Z = true) : (Jvm.Cond.fieldLink "com/example/chargeweave/chargeweave/x12/Delimiters" (13 : Nat) "com/example/chargeweave/chargeweave/x12/Delimiters" "repetition" "C").before a0 Z = true := hw _ (List.mem_of_getElem? (i := 16) rfl)
theorem d1_14 : decode prog_94_method_1_code 14 = .ok (.aload_n 0, 1) := by decide +kernel
theorem d1_15 : decode prog_94_method_1_code 15 = .ok (.iload_n 3, 1) := by decide +kernel
theorem d1_16 : decode prog_94_method_1_code 16 = .ok (.putfield 16, 3) := by decide +kernel
theorem hw_18 {a0 : Array Value} {Z : State} (hw : ∀ d ∈ tables_1, d.before a0 Z = true) : (Jvm.Cond.fieldLink "com/example/chargeweave/chargeweave/x12/Delimiters" (16 : Nat) "com/example/chargeweave/chargeweave/x12/Delimiters" "component" "C").before a0 Z = true := hw _ (List.mem_of_getElem? (i := 18) rfl)
theorem d1_19 : decode prog_94_method_1_code 19 = .ok (.aload_n 0, 1) := by decide +kernel
theorem d1_20 : decode prog_94_method_1_code 20 = .ok (.iload 4, 2) := by decide +kernel
theorem d1_22 : decode prog_94_method_1_code 22 = .ok (.putfield 19, 3) := by decide +kernel
theorem hw_20 {a0 : Array Value} {Z : State} (hw : ∀ d ∈ tables_1, d.before a0 Z = true) : (Jvm.Cond.fieldLink "com/example/chargeweave/chargeweave/x12/Delimiters" (19 : Nat) "com/example/chargeweave/chargeweave/x12/Delimiters" "segment" "C").before a0 Z = true := hw _ (List.mem_of_getElem? (i := 20) rfl)
theorem d1_25 : decode prog_94_method_1_code 25 = .ok (.return_, 1) := by decide +kernel
theorem pn_1 : plainName "com/example/chargeweave/chargeweave/x12/Delimiters" = true := by first | (simp [plainName, overriddenIn]; done) | decide +kernel
theorem own_ef1 (m : MethodId) (a1 : Addr) (p2 : Int32) (p3 : Int32) (p4 : Int32) (p5 : Int32) : entryFrame m #[(.ref a1), (.int p2), (.int p3), (.int p4), (.int p5)] 5 = mkF m 0 #[rv a1, iv p2, iv p3, iv p4, iv p5] [] := by first | (simp [entryFrame, mkF, argsToLocals, Value.category]; done) | rfl
def own_Q1 (Z : State) (a1 : Addr) (p2 : Int32) (p3 : Int32) (p4 : Int32) (p5 : Int32) (h0 : Heap) (n0 : Nat) (v : Option Value) (h : Heap) (L : List Loc) : Prop := v = none ∧ Fr n0 L ∧ Keep h0 h [a1] ∧ Exa Z h a1 "com/example/chargeweave/chargeweave/x12/Delimiters" ∧ Fld Z h a1 "com/example/chargeweave/chargeweave/x12/Delimiters" "element" "C" (.int (nar .char p2)) ∧ Fld Z h a1 "com/example/chargeweave/chargeweave/x12/Delimiters" "repetition" "C" (.int (nar .char p3)) ∧ Fld Z h a1 "com/example/chargeweave/chargeweave/x12/Delimiters" "component" "C" (.int (nar .char p4)) ∧ Fld Z h a1 "com/example/chargeweave/chargeweave/x12/Delimiters" "segment" "C" (.int (nar .char p5))
set_option maxRecDepth 65536 in
set_option maxHeartbeats 40000000 in
theorem own_rm1 (l : Launch) (Z : State) (a0 : Array Value) (hw : ∀ d ∈ tables_1, d.before a0 Z = true) (ws : List Jvm.Cond) (a1 : Addr) (p2 : Int32) (p3 : Int32) (p4 : Int32) (p5 : Int32) (h0 : Heap) (n0 : Nat) (Z0 : n0 ≤ h0.size) (E_a1 : Exa Z h0 a1 "com/example/chargeweave/chargeweave/x12/Delimiters") (g_a1 : n0 ≤ a1) (F_element : Fld Z h0 a1 "com/example/chargeweave/chargeweave/x12/Delimiters" "element" "C" (.int (0 : Int32))) (F_repetition : Fld Z h0 a1 "com/example/chargeweave/chargeweave/x12/Delimiters" "repetition" "C" (.int (0 : Int32))) (F_component : Fld Z h0 a1 "com/example/chargeweave/chargeweave/x12/Delimiters" "component" "C" (.int (0 : Int32))) (F_segment : Fld Z h0 a1 "com/example/chargeweave/chargeweave/x12/Delimiters" "segment" "C" (.int (0 : Int32))) :
    MetFree l (⟨"com/example/chargeweave/chargeweave/x12/Delimiters", "<init>", "(CCCC)V"⟩ : MethodName) (head1 (Jvm.Cond.code (⟨"com/example/chargeweave/chargeweave/x12/Delimiters", "<init>", "(CCCC)V"⟩ : MethodName) prog_94_method_1_code 5 none :: ws) ({ frames := 2, cells := 0, slots := 0, locals := 24 } : Room)) (fun a U => a = #[(.ref a1), (.int p2), (.int p3), (.int p4), (.int p5)] ∧ Z.Warmed39 U.vm ∧ U.heap = h0) (fun _ _ _ _ _ => True) (fun _ U o U' => ∃ v L, o = .returned v ∧ own_Q1 Z a1 p2 p3 p4 p5 h0 n0 v U'.heap L ∧ FrameEnd U o U' L ({ frames := 2, cells := 0, slots := 0, locals := 24 } : Room).cells ({ frames := 2, cells := 0, slots := 0, locals := 24 } : Room).slots) := by
  refine own_body (plainFor_of_name pn_1) (fun m => own_ef1 m a1 p2 p3 p4 p5) ?_
  intro p e s m below meth c T0 X0 hx hby hml hZ hown hnm hret hlk e0
  have hown : s.vm.findClass "com/example/chargeweave/chargeweave/x12/Delimiters" = some m.cls := hown
  have hnm : meth.name = "<init>" := hnm
  have N0 := Fr.nil n0
  have K0 : Keep h0 h0 [a1] := Keep.refl _ _
  refine own_st (mkF m 1 #[rv a1, iv p2, iv p3, iv p4, iv p5] [(.ref a1)]) (fun t k => XS.aloadN X0.here hx rfl (hb hby d1_0) rfl rfl k) ?_
  obtain ⟨_, _, ⟨T2, L2, k2, n2⟩, -, X2, ⟨Lc2, hQ2, l2, y2, z2⟩, st2⟩ := X0.specialBack hx (y := (⟨"java/lang/Record", "<init>", "()V"⟩ : MethodName)) rfl hown (mvT hZ (hw_6 hw)) (mvT hZ (hw_7 hw)) (mvT hZ (hw_10 hw)) (by decide) (backOf (W := 0) (own_rm2 l Z a0 hw [] a1 h0 n0 Z0) hZ (hw_10 hw) (hw_9 hw) (by decide) (by decide)) (g := (mkF m 1 #[rv a1, iv p2, iv p3, iv p4, iv p5] [(.ref a1)])) rfl (by rw [hml]; rfl) (Steps.refl _) (a := a1) (argsL := []) (rest := []) (lenOf pd_0 rfl) rfl (by show 2 * 0 + _ ≤ _; exact Nat.le_of_eq rfl) (hb hby d1_1) (fun _ _ => ⟨rfl, e0, (by decide : 0 + 0 ≤ _), (by decide : 0 + 0 ≤ _)⟩)
  dsimp only [Pt.U, Pt.locs, Pt.cells, Pt.slots] at X2 l2 y2 z2 st2 hQ2
  subst l2 y2 z2
  obtain ⟨rfl, Nq2, e2⟩ := hQ2
  have N2 := Fr.app N0 Nq2
  refine own_jump (g' := (mkF m 4 #[rv a1, iv p2, iv p3, iv p4, iv p5] [])) st2 ?_
  refine own_st (mkF m 5 #[rv a1, iv p2, iv p3, iv p4, iv p5] [(.ref a1)]) (fun t k => XS.aloadN X2.here hx rfl (hb hby d1_4) rfl rfl k) ?_
  refine own_st (mkF m 6 #[rv a1, iv p2, iv p3, iv p4, iv p5] [(.int p2), (.ref a1)]) (fun t k => XS.iloadN X2.here hx rfl (hb hby d1_5) rfl k) ?_
  obtain ⟨T3, h3, X3, e3, W3, st3⟩ := putFN X2 hx hZ hown (hw_14 hw) Via.refl e2 F_element E_a1 (Or.inr ⟨(hw_15 hw), rfl, hnm⟩) (hw_1 hw) (ty := .char) (v' := (.int (nar .char p2))) (by decide) rfl (fits_nar_char _) (g := (mkF m 6 #[rv a1, iv p2, iv p3, iv p4, iv p5] [(.int p2), (.ref a1)])) rfl rfl (hb hby d1_6)
  have f1_Exa_a1 : Exa Z h3 a1 "com/example/chargeweave/chargeweave/x12/Delimiters" := (E_a1.wr W3)
  have f2_Fld_a1 : Fld Z h3 a1 "com/example/chargeweave/chargeweave/x12/Delimiters" "repetition" "C" (.int (0 : Int32)) := (F_repetition.other W3 (Or.inr (slot_ne (a0 := a0) (C := "com/example/chargeweave/chargeweave/x12/Delimiters") (Or.inr (hw_17 hw)) (Or.inr (hw_15 hw)) (by decide) (t := .char) (t' := .char) (by decide) (by decide))))
  have f3_Fld_a1 : Fld Z h3 a1 "com/example/chargeweave/chargeweave/x12/Delimiters" "component" "C" (.int (0 : Int32)) := (F_component.other W3 (Or.inr (slot_ne (a0 := a0) (C := "com/example/chargeweave/chargeweave/x12/Delimiters") (Or.inr (hw_19 hw)) (Or.inr (hw_15 hw)) (by decide) (t := .char) (t' := .char) (by decide) (by decide))))
  have f4_Fld_a1 : Fld Z h3 a1 "com/example/chargeweave/chargeweave/x12/Delimiters" "segment" "C" (.int (0 : Int32)) := (F_segment.other W3 (Or.inr (slot_ne (a0 := a0) (C := "com/example/chargeweave/chargeweave/x12/Delimiters") (Or.inr (hw_21 hw)) (Or.inr (hw_15 hw)) (by decide) (t := .char) (t' := .char) (by decide) (by decide))))
  have fw3 : Fld Z h3 a1 "com/example/chargeweave/chargeweave/x12/Delimiters" "element" "C" (.int (nar .char p2)) := F_element.same W3
  have Z3 : n0 ≤ h3.size := Nat.le_trans Z0 (Keep.of_wr W3).1
  have Kp3 : Keep h0 h3 [a1] := K0.wr W3 (Or.inl (List.mem_of_getElem? (i := 0) rfl))
  have N3 := Fr.snoc X3 N2 g_a1
  refine own_step (g' := (mkF m 9 #[rv a1, iv p2, iv p3, iv p4, iv p5] [])) st3 ?_
  refine own_st (mkF m 10 #[rv a1, iv p2, iv p3, iv p4, iv p5] [(.ref a1)]) (fun t k => XS.aloadN X3.here hx rfl (hb hby d1_9) rfl rfl k) ?_
  refine own_st (mkF m 11 #[rv a1, iv p2, iv p3, iv p4, iv p5] [(.int p3), (.ref a1)]) (fun t k => XS.iloadN X3.here hx rfl (hb hby d1_10) rfl k) ?_
  obtain ⟨T4, h4, X4, e4, W4, st4⟩ := putFN X3 hx hZ hown (hw_16 hw) Via.refl e3 f2_Fld_a1 f1_Exa_a1 (Or.inr ⟨(hw_17 hw), rfl, hnm⟩) (hw_1 hw) (ty := .char) (v' := (.int (nar .char p3))) (by decide) rfl (fits_nar_char _) (g := (mkF m 11 #[rv a1, iv p2, iv p3, iv p4, iv p5] [(.int p3), (.ref a1)])) rfl rfl (hb hby d1_11)
  have f5_Exa_a1 : Exa Z h4 a1 "com/example/chargeweave/chargeweave/x12/Delimiters" := (f1_Exa_a1.wr W4)
  have f6_Fld_a1 : Fld Z h4 a1 "com/example/chargeweave/chargeweave/x12/Delimiters" "element" "C" (.int (nar .char p2)) := (fw3.other W4 (Or.inr (slot_ne (a0 := a0) (C := "com/example/chargeweave/chargeweave/x12/Delimiters") (Or.inr (hw_15 hw)) (Or.inr (hw_17 hw)) (by decide) (t := .char) (t' := .char) (by decide) (by decide))))
  have f7_Fld_a1 : Fld Z h4 a1 "com/example/chargeweave/chargeweave/x12/Delimiters" "component" "C" (.int (0 : Int32)) := (f3_Fld_a1.other W4 (Or.inr (slot_ne (a0 := a0) (C := "com/example/chargeweave/chargeweave/x12/Delimiters") (Or.inr (hw_19 hw)) (Or.inr (hw_17 hw)) (by decide) (t := .char) (t' := .char) (by decide) (by decide))))
  have f8_Fld_a1 : Fld Z h4 a1 "com/example/chargeweave/chargeweave/x12/Delimiters" "segment" "C" (.int (0 : Int32)) := (f4_Fld_a1.other W4 (Or.inr (slot_ne (a0 := a0) (C := "com/example/chargeweave/chargeweave/x12/Delimiters") (Or.inr (hw_21 hw)) (Or.inr (hw_17 hw)) (by decide) (t := .char) (t' := .char) (by decide) (by decide))))
  have fw4 : Fld Z h4 a1 "com/example/chargeweave/chargeweave/x12/Delimiters" "repetition" "C" (.int (nar .char p3)) := f2_Fld_a1.same W4
  have Z4 : n0 ≤ h4.size := Nat.le_trans Z3 (Keep.of_wr W4).1
  have Kp4 : Keep h0 h4 [a1] := Kp3.wr W4 (Or.inl (List.mem_of_getElem? (i := 0) rfl))
  have N4 := Fr.snoc X4 N3 g_a1
  refine own_step (g' := (mkF m 14 #[rv a1, iv p2, iv p3, iv p4, iv p5] [])) st4 ?_
  refine own_st (mkF m 15 #[rv a1, iv p2, iv p3, iv p4, iv p5] [(.ref a1)]) (fun t k => XS.aloadN X4.here hx rfl (hb hby d1_14) rfl rfl k) ?_
  refine own_st (mkF m 16 #[rv a1, iv p2, iv p3, iv p4, iv p5] [(.int p4), (.ref a1)]) (fun t k => XS.iloadN X4.here hx rfl (hb hby d1_15) rfl k) ?_
  obtain ⟨T5, h5, X5, e5, W5, st5⟩ := putFN X4 hx hZ hown (hw_18 hw) Via.refl e4 f7_Fld_a1 f5_Exa_a1 (Or.inr ⟨(hw_19 hw), rfl, hnm⟩) (hw_1 hw) (ty := .char) (v' := (.int (nar .char p4))) (by decide) rfl (fits_nar_char _) (g := (mkF m 16 #[rv a1, iv p2, iv p3, iv p4, iv p5] [(.int p4), (.ref a1)])) rfl rfl (hb hby d1_16)
  have f9_Exa_a1 : Exa Z h5 a1 "com/example/chargeweave/chargeweave/x12/Delimiters" := (f5_Exa_a1.wr W5)
  have f10_Fld_a1 : Fld Z h5 a1 "com/example/chargeweave/chargeweave/x12/Delimiters" "element" "C" (.int (nar .char p2)) := (f6_Fld_a1.other W5 (Or.inr (slot_ne (a0 := a0) (C := "com/example/chargeweave/chargeweave/x12/Delimiters") (Or.inr (hw_15 hw)) (Or.inr (hw_19 hw)) (by decide) (t := .char) (t' := .char) (by decide) (by decide))))
  have f11_Fld_a1 : Fld Z h5 a1 "com/example/chargeweave/chargeweave/x12/Delimiters" "repetition" "C" (.int (nar .char p3)) := (fw4.other W5 (Or.inr (slot_ne (a0 := a0) (C := "com/example/chargeweave/chargeweave/x12/Delimiters") (Or.inr (hw_17 hw)) (Or.inr (hw_19 hw)) (by decide) (t := .char) (t' := .char) (by decide) (by decide))))
  have f12_Fld_a1 : Fld Z h5 a1 "com/example/chargeweave/chargeweave/x12/Delimiters" "segment" "C" (.int (0 : Int32)) := (f8_Fld_a1.other W5 (Or.inr (slot_ne (a0 := a0) (C := "com/example/chargeweave/chargeweave/x12/Delimiters") (Or.inr (hw_21 hw)) (Or.inr (hw_19 hw)) (by decide) (t := .char) (t' := .char) (by decide) (by decide))))
  have fw5 : Fld Z h5 a1 "com/example/chargeweave/chargeweave/x12/Delimiters" "component" "C" (.int (nar .char p4)) := f7_Fld_a1.same W5
  have Z5 : n0 ≤ h5.size := Nat.le_trans Z4 (Keep.of_wr W5).1
  have Kp5 : Keep h0 h5 [a1] := Kp4.wr W5 (Or.inl (List.mem_of_getElem? (i := 0) rfl))
  have N5 := Fr.snoc X5 N4 g_a1
  refine own_step (g' := (mkF m 19 #[rv a1, iv p2, iv p3, iv p4, iv p5] [])) st5 ?_
  refine own_st (mkF m 20 #[rv a1, iv p2, iv p3, iv p4, iv p5] [(.ref a1)]) (fun t k => XS.aloadN X5.here hx rfl (hb hby d1_19) rfl rfl k) ?_
  refine own_st (mkF m 22 #[rv a1, iv p2, iv p3, iv p4, iv p5] [(.int p5), (.ref a1)]) (fun t k => XS.iload X5.here hx rfl (hb hby d1_20) rfl k) ?_
  obtain ⟨T6, h6, X6, e6, W6, st6⟩ := putFN X5 hx hZ hown (hw_20 hw) Via.refl e5 f12_Fld_a1 f9_Exa_a1 (Or.inr ⟨(hw_21 hw), rfl, hnm⟩) (hw_1 hw) (ty := .char) (v' := (.int (nar .char p5))) (by decide) rfl (fits_nar_char _) (g := (mkF m 22 #[rv a1, iv p2, iv p3, iv p4, iv p5] [(.int p5), (.ref a1)])) rfl rfl (hb hby d1_22)
  have f13_Exa_a1 : Exa Z h6 a1 "com/example/chargeweave/chargeweave/x12/Delimiters" := (f9_Exa_a1.wr W6)
  have f14_Fld_a1 : Fld Z h6 a1 "com/example/chargeweave/chargeweave/x12/Delimiters" "element" "C" (.int (nar .char p2)) := (f10_Fld_a1.other W6 (Or.inr (slot_ne (a0 := a0) (C := "com/example/chargeweave/chargeweave/x12/Delimiters") (Or.inr (hw_15 hw)) (Or.inr (hw_21 hw)) (by decide) (t := .char) (t' := .char) (by decide) (by decide))))
  have f15_Fld_a1 : Fld Z h6 a1 "com/example/chargeweave/chargeweave/x12/Delimiters" "repetition" "C" (.int (nar .char p3)) := (f11_Fld_a1.other W6 (Or.inr (slot_ne (a0 := a0) (C := "com/example/chargeweave/chargeweave/x12/Delimiters") (Or.inr (hw_17 hw)) (Or.inr (hw_21 hw)) (by decide) (t := .char) (t' := .char) (by decide) (by decide))))
  have f16_Fld_a1 : Fld Z h6 a1 "com/example/chargeweave/chargeweave/x12/Delimiters" "component" "C" (.int (nar .char p4)) := (fw5.other W6 (Or.inr (slot_ne (a0 := a0) (C := "com/example/chargeweave/chargeweave/x12/Delimiters") (Or.inr (hw_19 hw)) (Or.inr (hw_21 hw)) (by decide) (t := .char) (t' := .char) (by decide) (by decide))))
  have fw6 : Fld Z h6 a1 "com/example/chargeweave/chargeweave/x12/Delimiters" "segment" "C" (.int (nar .char p5)) := f12_Fld_a1.same W6
  have Z6 : n0 ≤ h6.size := Nat.le_trans Z5 (Keep.of_wr W6).1
  have Kp6 : Keep h0 h6 [a1] := Kp5.wr W6 (Or.inl (List.mem_of_getElem? (i := 0) rfl))
  have N6 := Fr.snoc X6 N5 g_a1
  refine own_step (g' := (mkF m 25 #[rv a1, iv p2, iv p3, iv p4, iv p5] [])) st6 ?_
  refine own_ret X6 hlk (v := none) (fun _ => rfl) (fun fs hr => X6.returnOut hx hret (hb hby d1_25) hr) ?_ (by decide) (by decide)
  show own_Q1 Z a1 p2 p3 p4 p5 h0 n0 _ T6.heap _
  rw [e6]
  exact ⟨rfl, N6, Kp6, f13_Exa_a1, f14_Fld_a1, f15_Fld_a1, f16_Fld_a1, fw6⟩
theorem d4_0 : decode prog_94_method_2_code 0 = .ok (.iload_n 1, 1) := by decide +kernel
theorem d4_1 : decode prog_94_method_2_code 1 = .ok (.aload_n 0, 1) := by decide +kernel
theorem d4_2 : decode prog_94_method_2_code 2 = .ok (.getfield 7, 3) := by decide +kernel
theorem d4_5 : decode prog_94_method_2_code 5 = .ok (.if_icmp .eq 27, 3) := by decide +kernel
theorem d4_32 : decode prog_94_method_2_code 32 = .ok (.iconst 1, 1) := by decide +kernel
theorem d4_33 : decode prog_94_method_2_code 33 = .ok (.goto 4, 3) := by decide +kernel
theorem d4_37 : decode prog_94_method_2_code 37 = .ok (.ireturn, 1) := by decide +kernel
theorem d4_8 : decode prog_94_method_2_code 8 = .ok (.iload_n 1, 1) := by decide +kernel
theorem d4_9 : decode prog_94_method_2_code 9 = .ok (.aload_n 0, 1) := by decide +kernel
theorem d4_10 : decode prog_94_method_2_code 10 = .ok (.getfield 13, 3) := by decide +kernel
theorem d4_13 : decode prog_94_method_2_code 13 = .ok (.if_icmp .eq 19, 3) := by decide +kernel
theorem d4_16 : decode prog_94_method_2_code 16 = .ok (.iload_n 1, 1) := by decide +kernel
theorem d4_17 : decode prog_94_method_2_code 17 = .ok (.aload_n 0, 1) := by decide +kernel
theorem d4_18 : decode prog_94_method_2_code 18 = .ok (.getfield 16, 3) := by decide +kernel
theorem d4_21 : decode prog_94_method_2_code 21 = .ok (.if_icmp .eq 11, 3) := by decide +kernel
theorem d4_24 : decode prog_94_method_2_code 24 = .ok (.iload_n 1, 1) := by decide +kernel
theorem d4_25 : decode prog_94_method_2_code 25 = .ok (.aload_n 0, 1) := by decide +kernel
theorem d4_26 : decode prog_94_method_2_code 26 = .ok (.getfield 19, 3) := by decide +kernel
theorem d4_29 : decode prog_94_method_2_code 29 = .ok (.if_icmp .ne 7, 3) := by decide +kernel
theorem d4_36 : decode prog_94_method_2_code 36 = .ok (.iconst 0, 1) := by decide +kernel
theorem own_ef4 (m : MethodId) (a1 : Addr) (p2 : Int32) : entryFrame m #[(.ref a1), (.int p2)] 2 = mkF m 0 #[rv a1, iv p2] [] := by first | (simp [entryFrame, mkF, argsToLocals, Value.category]; done) | rfl
def own_Q4 (Z : State) (a1 : Addr) (p2 : Int32) (f0 : Int32) (f1 : Int32) (f2 : Int32) (f3 : Int32) (h0 : Heap) (n0 : Nat) (v : Option Value) (h : Heap) (L : List Loc) : Prop := v = some (.int (own_has p2 f0 f1 f2 f3)) ∧ Fr n0 L ∧ h = h0
set_option maxRecDepth 65536 in
set_option maxHeartbeats 40000000 in
theorem own_rm4 (l : Launch) (Z : State) (a0 : Array Value) (hw : ∀ d ∈ tables_1, d.before a0 Z = true) (ws : List Jvm.Cond) (a1 : Addr) (p2 : Int32) (f0 : Int32) (f1 : Int32) (f2 : Int32) (f3 : Int32) (h0 : Heap) (n0 : Nat) (Z0 : n0 ≤ h0.size) (F0 : Fld Z h0 a1 "com/example/chargeweave/chargeweave/x12/Delimiters" "element" "C" (.int f0)) (F1 : Fld Z h0 a1 "com/example/chargeweave/chargeweave/x12/Delimiters" "repetition" "C" (.int f1)) (F2 : Fld Z h0 a1 "com/example/chargeweave/chargeweave/x12/Delimiters" "component" "C" (.int f2)) (F3 : Fld Z h0 a1 "com/example/chargeweave/chargeweave/x12/Delimiters" "segment" "C" (.int f3)) :
    MetFree l (⟨"com/example/chargeweave/chargeweave/x12/Delimiters", "contains", "(C)Z"⟩ : MethodName) (head1 (Jvm.Cond.code (⟨"com/example/chargeweave/chargeweave/x12/Delimiters", "contains", "(C)Z"⟩ : MethodName) prog_94_method_2_code 2 (some .boolean) :: ws) ({ frames := 0, cells := 0, slots := 0, locals := 0 } : Room)) (fun a U => a = #[(.ref a1), (.int p2)] ∧ Z.Warmed39 U.vm ∧ U.heap = h0) (fun _ _ _ _ _ => True) (fun _ U o U' => ∃ v L, o = .returned v ∧ own_Q4 Z a1 p2 f0 f1 f2 f3 h0 n0 v U'.heap L ∧ FrameEnd U o U' L ({ frames := 0, cells := 0, slots := 0, locals := 0 } : Room).cells ({ frames := 0, cells := 0, slots := 0, locals := 0 } : Room).slots) := by
  refine own_body (plainFor_of_name pn_1) (fun m => own_ef4 m a1 p2) ?_
  intro p e s m below meth c T0 X0 hx hby hml hZ hown hnm hret hlk e0
  have hown : s.vm.findClass "com/example/chargeweave/chargeweave/x12/Delimiters" = some m.cls := hown
  have hnm : meth.name = "contains" := hnm
  have N0 := Fr.nil n0
  refine own_st (mkF m 1 #[rv a1, iv p2] [(.int p2)]) (fun t k => XS.iloadN X0.here hx rfl (hb hby d4_0) rfl k) ?_
  refine own_st (mkF m 2 #[rv a1, iv p2] [(.ref a1), (.int p2)]) (fun t k => XS.aloadN X0.here hx rfl (hb hby d4_1) rfl rfl k) ?_
  obtain ⟨T7, X7, e7, st7⟩ := getF X0 hx hZ hown (host := "") (Or.inl (hw_14 hw)) Via.refl e0 F0 (g := (mkF m 2 #[rv a1, iv p2] [(.ref a1), (.int p2)])) rfl rfl (hb hby d4_2)
  refine own_step (g' := (mkF m 5 #[rv a1, iv p2] [(.int f0), (.int p2)])) st7 ?_
  by_cases hc8 : p2 = f0
  · refine own_st (mkF m 32 #[rv a1, iv p2] []) (fun t k => XS.icmpYes X7.here hx rfl (pc0 := 5) (pc' := 32) rfl (hb hby d4_5) rfl (teq hc8).1 (by decide) (by decide) k) ?_
    refine own_st (mkF m 33 #[rv a1, iv p2] [(.int (1 : Int32))]) (fun t k => XS.iconst X7.here hx rfl (hb hby d4_32) k) ?_
    refine own_st (mkF m 37 #[rv a1, iv p2] [(.int (1 : Int32))]) (fun t k => XS.goto X7.here hx rfl (pc0 := 33) (pc' := 37) rfl (hb hby d4_33) (by decide) (by decide) k) ?_
    refine own_ret X7 hlk (v := some (.int (1 : Int32))) (fun h => by rw [hret] at h; cases h) (fun fs hr => retN X7 hx (t := .boolean) hret (by simp) (hb hby d4_37) hr) ?_ (by decide) (by decide)
    show own_Q4 Z a1 p2 f0 f1 f2 f3 h0 n0 _ T7.heap _
    rw [e7]
    exact ⟨congrArg (fun z => some (Value.int z)) (by simp [own_has, hc8] : (1 : Int32) = own_has p2 f0 f1 f2 f3), N0, rfl⟩
  · refine own_st (mkF m 8 #[rv a1, iv p2] []) (fun t k => XS.icmpNo X7.here hx rfl (hb hby d4_5) rfl (feq hc8).1 k) ?_
    refine own_st (mkF m 9 #[rv a1, iv p2] [(.int p2)]) (fun t k => XS.iloadN X7.here hx rfl (hb hby d4_8) rfl k) ?_
    refine own_st (mkF m 10 #[rv a1, iv p2] [(.ref a1), (.int p2)]) (fun t k => XS.aloadN X7.here hx rfl (hb hby d4_9) rfl rfl k) ?_
    obtain ⟨T9, X9, e9, st9⟩ := getF X7 hx hZ hown (host := "") (Or.inl (hw_16 hw)) Via.refl e7 F1 (g := (mkF m 10 #[rv a1, iv p2] [(.ref a1), (.int p2)])) rfl rfl (hb hby d4_10)
    refine own_step (g' := (mkF m 13 #[rv a1, iv p2] [(.int f1), (.int p2)])) st9 ?_
    by_cases hc10 : p2 = f1
    · refine own_st (mkF m 32 #[rv a1, iv p2] []) (fun t k => XS.icmpYes X9.here hx rfl (pc0 := 13) (pc' := 32) rfl (hb hby d4_13) rfl (teq hc10).1 (by decide) (by decide) k) ?_
      refine own_st (mkF m 33 #[rv a1, iv p2] [(.int (1 : Int32))]) (fun t k => XS.iconst X9.here hx rfl (hb hby d4_32) k) ?_
      refine own_st (mkF m 37 #[rv a1, iv p2] [(.int (1 : Int32))]) (fun t k => XS.goto X9.here hx rfl (pc0 := 33) (pc' := 37) rfl (hb hby d4_33) (by decide) (by decide) k) ?_
      refine own_ret X9 hlk (v := some (.int (1 : Int32))) (fun h => by rw [hret] at h; cases h) (fun fs hr => retN X9 hx (t := .boolean) hret (by simp) (hb hby d4_37) hr) ?_ (by decide) (by decide)
      show own_Q4 Z a1 p2 f0 f1 f2 f3 h0 n0 _ T9.heap _
      rw [e9]
      exact ⟨congrArg (fun z => some (Value.int z)) (by simp [own_has, hc8, hc10] : (1 : Int32) = own_has p2 f0 f1 f2 f3), N0, rfl⟩
    · refine own_st (mkF m 16 #[rv a1, iv p2] []) (fun t k => XS.icmpNo X9.here hx rfl (hb hby d4_13) rfl (feq hc10).1 k) ?_
      refine own_st (mkF m 17 #[rv a1, iv p2] [(.int p2)]) (fun t k => XS.iloadN X9.here hx rfl (hb hby d4_16) rfl k) ?_
      refine own_st (mkF m 18 #[rv a1, iv p2] [(.ref a1), (.int p2)]) (fun t k => XS.aloadN X9.here hx rfl (hb hby d4_17) rfl rfl k) ?_
      obtain ⟨T11, X11, e11, st11⟩ := getF X9 hx hZ hown (host := "") (Or.inl (hw_18 hw)) Via.refl e9 F2 (g := (mkF m 18 #[rv a1, iv p2] [(.ref a1), (.int p2)])) rfl rfl (hb hby d4_18)
      refine own_step (g' := (mkF m 21 #[rv a1, iv p2] [(.int f2), (.int p2)])) st11 ?_
      by_cases hc12 : p2 = f2
      · refine own_st (mkF m 32 #[rv a1, iv p2] []) (fun t k => XS.icmpYes X11.here hx rfl (pc0 := 21) (pc' := 32) rfl (hb hby d4_21) rfl (teq hc12).1 (by decide) (by decide) k) ?_
        refine own_st (mkF m 33 #[rv a1, iv p2] [(.int (1 : Int32))]) (fun t k => XS.iconst X11.here hx rfl (hb hby d4_32) k) ?_
        refine own_st (mkF m 37 #[rv a1, iv p2] [(.int (1 : Int32))]) (fun t k => XS.goto X11.here hx rfl (pc0 := 33) (pc' := 37) rfl (hb hby d4_33) (by decide) (by decide) k) ?_
        refine own_ret X11 hlk (v := some (.int (1 : Int32))) (fun h => by rw [hret] at h; cases h) (fun fs hr => retN X11 hx (t := .boolean) hret (by simp) (hb hby d4_37) hr) ?_ (by decide) (by decide)
        show own_Q4 Z a1 p2 f0 f1 f2 f3 h0 n0 _ T11.heap _
        rw [e11]
        exact ⟨congrArg (fun z => some (Value.int z)) (by simp [own_has, hc8, hc10, hc12] : (1 : Int32) = own_has p2 f0 f1 f2 f3), N0, rfl⟩
      · refine own_st (mkF m 24 #[rv a1, iv p2] []) (fun t k => XS.icmpNo X11.here hx rfl (hb hby d4_21) rfl (feq hc12).1 k) ?_
        refine own_st (mkF m 25 #[rv a1, iv p2] [(.int p2)]) (fun t k => XS.iloadN X11.here hx rfl (hb hby d4_24) rfl k) ?_
        refine own_st (mkF m 26 #[rv a1, iv p2] [(.ref a1), (.int p2)]) (fun t k => XS.aloadN X11.here hx rfl (hb hby d4_25) rfl rfl k) ?_
        obtain ⟨T13, X13, e13, st13⟩ := getF X11 hx hZ hown (host := "") (Or.inl (hw_20 hw)) Via.refl e11 F3 (g := (mkF m 26 #[rv a1, iv p2] [(.ref a1), (.int p2)])) rfl rfl (hb hby d4_26)
        refine own_step (g' := (mkF m 29 #[rv a1, iv p2] [(.int f3), (.int p2)])) st13 ?_
        by_cases hc14 : p2 = f3
        · refine own_st (mkF m 32 #[rv a1, iv p2] []) (fun t k => XS.icmpNo X13.here hx rfl (hb hby d4_29) rfl (teq hc14).2 k) ?_
          refine own_st (mkF m 33 #[rv a1, iv p2] [(.int (1 : Int32))]) (fun t k => XS.iconst X13.here hx rfl (hb hby d4_32) k) ?_
          refine own_st (mkF m 37 #[rv a1, iv p2] [(.int (1 : Int32))]) (fun t k => XS.goto X13.here hx rfl (pc0 := 33) (pc' := 37) rfl (hb hby d4_33) (by decide) (by decide) k) ?_
          refine own_ret X13 hlk (v := some (.int (1 : Int32))) (fun h => by rw [hret] at h; cases h) (fun fs hr => retN X13 hx (t := .boolean) hret (by simp) (hb hby d4_37) hr) ?_ (by decide) (by decide)
          show own_Q4 Z a1 p2 f0 f1 f2 f3 h0 n0 _ T13.heap _
          rw [e13]
          exact ⟨congrArg (fun z => some (Value.int z)) (by simp [own_has, hc8, hc10, hc12, hc14] : (1 : Int32) = own_has p2 f0 f1 f2 f3), N0, rfl⟩
        · refine own_st (mkF m 36 #[rv a1, iv p2] []) (fun t k => XS.icmpYes X13.here hx rfl (pc0 := 29) (pc' := 36) rfl (hb hby d4_29) rfl (feq hc14).2 (by decide) (by decide) k) ?_
          refine own_st (mkF m 37 #[rv a1, iv p2] [(.int (0 : Int32))]) (fun t k => XS.iconst X13.here hx rfl (hb hby d4_36) k) ?_
          refine own_ret X13 hlk (v := some (.int (0 : Int32))) (fun h => by rw [hret] at h; cases h) (fun fs hr => retN X13 hx (t := .boolean) hret (by simp) (hb hby d4_37) hr) ?_ (by decide) (by decide)
          show own_Q4 Z a1 p2 f0 f1 f2 f3 h0 n0 _ T13.heap _
          rw [e13]
          exact ⟨congrArg (fun z => some (Value.int z)) (by simp [own_has, hc8, hc10, hc12, hc14] : (0 : Int32) = own_has p2 f0 f1 f2 f3), N0, rfl⟩
theorem hw_0 {a0 : Array Value} {Z : State} (hw : ∀ d ∈ tables_1, d.before a0 Z = true) : (Jvm.Cond.classLink "com/example/chargeweave/chargeweave/x12/DelimitersContainsPinLaw" (7 : Nat) "com/example/chargeweave/chargeweave/x12/Delimiters").before a0 Z = true := hw _ (List.mem_of_getElem? (i := 0) rfl)
theorem hw_2 {a0 : Array Value} {Z : State} (hw : ∀ d ∈ tables_1, d.before a0 Z = true) : (Jvm.Cond.initialized "com/example/chargeweave/chargeweave/x12/Delimiters").before a0 Z = true := hw _ (List.mem_of_getElem? (i := 2) rfl)
theorem hw_3 {a0 : Array Value} {Z : State} (hw : ∀ d ∈ tables_1, d.before a0 Z = true) : (Jvm.Cond.methodLink "com/example/chargeweave/chargeweave/x12/DelimitersContainsPinLaw" (9 : Nat) ({ cls := "com/example/chargeweave/chargeweave/x12/Delimiters", name := "<init>", desc := "(CCCC)V" } : Jvm.MethodName)).before a0 Z = true := hw _ (List.mem_of_getElem? (i := 3) rfl)
theorem hw_5 {a0 : Array Value} {Z : State} (hw : ∀ d ∈ tables_1, d.before a0 Z = true) : (Jvm.Cond.code ({ cls := "com/example/chargeweave/chargeweave/x12/Delimiters", name := "<init>", desc := "(CCCC)V" } : Jvm.MethodName) prog_94_method_1_code (5 : Nat) (Option.none : Option Jvm.ClassFile.FieldType)).before a0 Z = true := hw _ (List.mem_of_getElem? (i := 5) rfl)
theorem pd_1 : parseMethodDescriptor "(CCCC)V" = some ⟨[.char, .char, .char, .char], none⟩ := by decide +kernel
theorem hw_4 {a0 : Array Value} {Z : State} (hw : ∀ d ∈ tables_1, d.before a0 Z = true) : (Jvm.Cond.instanceMethod ({ cls := "com/example/chargeweave/chargeweave/x12/Delimiters", name := "<init>", desc := "(CCCC)V" } : Jvm.MethodName)).before a0 Z = true := hw _ (List.mem_of_getElem? (i := 4) rfl)
theorem hw_22 {a0 : Array Value} {Z : State} (hw : ∀ d ∈ tables_1, d.before a0 Z = true) : (Jvm.Cond.methodLink "com/example/chargeweave/chargeweave/x12/DelimitersContainsPinLaw" (12 : Nat) ({ cls := "com/example/chargeweave/chargeweave/x12/Delimiters", name := "contains", desc := "(C)Z" } : Jvm.MethodName)).before a0 Z = true := hw _ (List.mem_of_getElem? (i := 22) rfl)
theorem hw_26 {a0 : Array Value} {Z : State} (hw : ∀ d ∈ tables_1, d.before a0 Z = true) : (Jvm.Cond.code ({ cls := "com/example/chargeweave/chargeweave/x12/Delimiters", name := "contains", desc := "(C)Z" } : Jvm.MethodName) prog_94_method_2_code (2 : Nat) (Option.some Jvm.ClassFile.FieldType.boolean)).before a0 Z = true := hw _ (List.mem_of_getElem? (i := 26) rfl)
theorem pd_2 : parseMethodDescriptor "(C)Z" = some ⟨[.char], some .boolean⟩ := by decide +kernel
theorem hw_25 {a0 : Array Value} {Z : State} (hw : ∀ d ∈ tables_1, d.before a0 Z = true) : (Jvm.Cond.selects "com/example/chargeweave/chargeweave/x12/Delimiters" ({ cls := "com/example/chargeweave/chargeweave/x12/Delimiters", name := "contains", desc := "(C)Z" } : Jvm.MethodName) ({ cls := "com/example/chargeweave/chargeweave/x12/Delimiters", name := "contains", desc := "(C)Z" } : Jvm.MethodName)).before a0 Z = true := hw _ (List.mem_of_getElem? (i := 25) rfl)
theorem hw_23 {a0 : Array Value} {Z : State} (hw : ∀ d ∈ tables_1, d.before a0 Z = true) : (Jvm.Cond.declares ({ cls := "com/example/chargeweave/chargeweave/x12/Delimiters", name := "contains", desc := "(C)Z" } : Jvm.MethodName)).before a0 Z = true := hw _ (List.mem_of_getElem? (i := 23) rfl)
theorem hw_24 {a0 : Array Value} {Z : State} (hw : ∀ d ∈ tables_1, d.before a0 Z = true) : (Jvm.Cond.instanceMethod ({ cls := "com/example/chargeweave/chargeweave/x12/Delimiters", name := "contains", desc := "(C)Z" } : Jvm.MethodName)).before a0 Z = true := hw _ (List.mem_of_getElem? (i := 24) rfl)
theorem pn_0 : plainName "com/example/chargeweave/chargeweave/x12/DelimitersContainsPinLaw" = true := by first | (simp [plainName, overriddenIn]; done) | decide +kernel
theorem own_ef0 (m : MethodId) (p1 : Int32) (p2 : Int32) (p3 : Int32) (p4 : Int32) (p5 : Int32) (p6 : Int32) : entryFrame m #[(.int p1), (.int p2), (.int p3), (.int p4), (.int p5), (.int p6)] maxLocals = mkF m 0 #[iv p1, iv p2, iv p3, iv p4, iv p5, iv p6, .unset, .unset, .unset, .unset, .unset, .unset, .unset, .unset, .unset, .unset, .unset, .unset] [] := by first | (simp [entryFrame, mkF, argsToLocals, Value.category, maxLocals]; done) | rfl
def own_Q0 (Z : State) (p1 : Int32) (p2 : Int32) (p3 : Int32) (p4 : Int32) (p5 : Int32) (p6 : Int32) (h0 : Heap) (n0 : Nat) (v : Option Value) (h : Heap) (L : List Loc) : Prop := v = some (.int 1) ∧ Fr n0 L
set_option maxRecDepth 65536 in
set_option maxHeartbeats 40000000 in
theorem own_rm0 (l : Launch) (Z : State) (a0 : Array Value) (hw : ∀ d ∈ tables_1, d.before a0 Z = true) (ws : List Jvm.Cond) (p1 : Int32) (p2 : Int32) (p3 : Int32) (p4 : Int32) (p5 : Int32) (p6 : Int32) (h0 : Heap) (n0 : Nat) (Z0 : n0 ≤ h0.size) :
    MetFree l x (head1 (Jvm.Cond.code x code maxLocals ret :: ws) room_1) (fun a U => a = #[(.int p1), (.int p2), (.int p3), (.int p4), (.int p5), (.int p6)] ∧ Z.Warmed39 U.vm ∧ U.heap = h0) (fun _ _ _ _ _ => True) (fun _ U o U' => ∃ v L, o = .returned v ∧ own_Q0 Z p1 p2 p3 p4 p5 p6 h0 n0 v U'.heap L ∧ FrameEnd U o U' L 16 128) := by
  refine own_body (plainFor_of_name pn_0) (fun m => own_ef0 m p1 p2 p3 p4 p5 p6) ?_
  intro p e s m below meth c T0 X0 hx hby hml hZ hown hnm hret hlk e0
  have hown : s.vm.findClass "com/example/chargeweave/chargeweave/x12/DelimitersContainsPinLaw" = some m.cls := hown
  have hnm : meth.name = "law" := hnm
  have N0 := Fr.nil n0
  refine own_st (mkF m 1 #[iv p1, iv p2, iv p3, iv p4, iv p5, iv p6, .unset, .unset, .unset, .unset, .unset, .unset, .unset, .unset, .unset, .unset, .unset, .unset] [(.int p1)]) (fun t k => XS.iloadN X0.here hx rfl (hb hby at_0) rfl k) ?_
  refine own_st (mkF m 2 #[iv p1, iv p2, iv p3, iv p4, iv p5, iv p6, .unset, .unset, .unset, .unset, .unset, .unset, .unset, .unset, .unset, .unset, .unset, .unset] [(.int (p1.toUInt32.toUInt16.toUInt32.toInt32))]) (fun t k => XS.i2c X0.here hx rfl (hb hby at_1) rfl k) ?_
  obtain ⟨ca, h_ca⟩ : ∃ z, z = (p1.toUInt32.toUInt16.toUInt32.toInt32) := ⟨_, rfl⟩
  rw [← h_ca]
  have hca : nar .char ca = ca := h_ca ▸ own_cc _
  refine own_st (mkF m 4 #[iv p1, iv p2, iv p3, iv p4, iv p5, iv p6, iv ca, .unset, .unset, .unset, .unset, .unset, .unset, .unset, .unset, .unset, .unset, .unset] []) (fun t k => XS.istore X0.here hx rfl (hb hby at_2) rfl (l' := #[iv p1, iv p2, iv p3, iv p4, iv p5, iv p6, iv ca, .unset, .unset, .unset, .unset, .unset, .unset, .unset, .unset, .unset, .unset, .unset]) rfl k) ?_
  refine own_st (mkF m 5 #[iv p1, iv p2, iv p3, iv p4, iv p5, iv p6, iv ca, .unset, .unset, .unset, .unset, .unset, .unset, .unset, .unset, .unset, .unset, .unset] [(.int p2)]) (fun t k => XS.iloadN X0.here hx rfl (hb hby at_4) rfl k) ?_
  refine own_st (mkF m 6 #[iv p1, iv p2, iv p3, iv p4, iv p5, iv p6, iv ca, .unset, .unset, .unset, .unset, .unset, .unset, .unset, .unset, .unset, .unset, .unset] [(.int (p2.toUInt32.toUInt16.toUInt32.toInt32))]) (fun t k => XS.i2c X0.here hx rfl (hb hby at_5) rfl k) ?_
  obtain ⟨cb, h_cb⟩ : ∃ z, z = (p2.toUInt32.toUInt16.toUInt32.toInt32) := ⟨_, rfl⟩
  rw [← h_cb]
  have hcb : nar .char cb = cb := h_cb ▸ own_cc _
  refine own_st (mkF m 8 #[iv p1, iv p2, iv p3, iv p4, iv p5, iv p6, iv ca, iv cb, .unset, .unset, .unset, .unset, .unset, .unset, .unset, .unset, .unset, .unset] []) (fun t k => XS.istore X0.here hx rfl (hb hby at_6) rfl (l' := #[iv p1, iv p2, iv p3, iv p4, iv p5, iv p6, iv ca, iv cb, .unset, .unset, .unset, .unset, .unset, .unset, .unset, .unset, .unset, .unset]) rfl k) ?_
  refine own_st (mkF m 9 #[iv p1, iv p2, iv p3, iv p4, iv p5, iv p6, iv ca, iv cb, .unset, .unset, .unset, .unset, .unset, .unset, .unset, .unset, .unset, .unset] [(.int p3)]) (fun t k => XS.iloadN X0.here hx rfl (hb hby at_8) rfl k) ?_
  refine own_st (mkF m 10 #[iv p1, iv p2, iv p3, iv p4, iv p5, iv p6, iv ca, iv cb, .unset, .unset, .unset, .unset, .unset, .unset, .unset, .unset, .unset, .unset] [(.int (p3.toUInt32.toUInt16.toUInt32.toInt32))]) (fun t k => XS.i2c X0.here hx rfl (hb hby at_9) rfl k) ?_
  obtain ⟨cd, h_cd⟩ : ∃ z, z = (p3.toUInt32.toUInt16.toUInt32.toInt32) := ⟨_, rfl⟩
  rw [← h_cd]
  have hcd : nar .char cd = cd := h_cd ▸ own_cc _
  refine own_st (mkF m 12 #[iv p1, iv p2, iv p3, iv p4, iv p5, iv p6, iv ca, iv cb, iv cd, .unset, .unset, .unset, .unset, .unset, .unset, .unset, .unset, .unset] []) (fun t k => XS.istore X0.here hx rfl (hb hby at_10) rfl (l' := #[iv p1, iv p2, iv p3, iv p4, iv p5, iv p6, iv ca, iv cb, iv cd, .unset, .unset, .unset, .unset, .unset, .unset, .unset, .unset, .unset]) rfl k) ?_
  refine own_st (mkF m 13 #[iv p1, iv p2, iv p3, iv p4, iv p5, iv p6, iv ca, iv cb, iv cd, .unset, .unset, .unset, .unset, .unset, .unset, .unset, .unset, .unset] [(.int p4)]) (fun t k => XS.iloadN X0.here hx rfl (hb hby at_12) rfl k) ?_
  refine own_st (mkF m 14 #[iv p1, iv p2, iv p3, iv p4, iv p5, iv p6, iv ca, iv cb, iv cd, .unset, .unset, .unset, .unset, .unset, .unset, .unset, .unset, .unset] [(.int (p4.toUInt32.toUInt16.toUInt32.toInt32))]) (fun t k => XS.i2c X0.here hx rfl (hb hby at_13) rfl k) ?_
  obtain ⟨ce, h_ce⟩ : ∃ z, z = (p4.toUInt32.toUInt16.toUInt32.toInt32) := ⟨_, rfl⟩
  rw [← h_ce]
  have hce : nar .char ce = ce := h_ce ▸ own_cc _
  refine own_st (mkF m 16 #[iv p1, iv p2, iv p3, iv p4, iv p5, iv p6, iv ca, iv cb, iv cd, iv ce, .unset, .unset, .unset, .unset, .unset, .unset, .unset, .unset] []) (fun t k => XS.istore X0.here hx rfl (hb hby at_14) rfl (l' := #[iv p1, iv p2, iv p3, iv p4, iv p5, iv p6, iv ca, iv cb, iv cd, iv ce, .unset, .unset, .unset, .unset, .unset, .unset, .unset, .unset]) rfl k) ?_
  refine own_st (mkF m 18 #[iv p1, iv p2, iv p3, iv p4, iv p5, iv p6, iv ca, iv cb, iv cd, iv ce, .unset, .unset, .unset, .unset, .unset, .unset, .unset, .unset] [(.int p6)]) (fun t k => XS.iload X0.here hx rfl (hb hby at_16) rfl k) ?_
  refine own_st (mkF m 20 #[iv p1, iv p2, iv p3, iv p4, iv p5, iv p6, iv ca, iv cb, iv cd, iv ce, .unset, .unset, .unset, .unset, .unset, .unset, .unset, .unset] [(.int (7 : Int32)), (.int p6)]) (fun t k => XS.bipush X0.here hx rfl (hb hby at_18) k) ?_
  refine own_st (mkF m 21 #[iv p1, iv p2, iv p3, iv p4, iv p5, iv p6, iv ca, iv cb, iv cd, iv ce, .unset, .unset, .unset, .unset, .unset, .unset, .unset, .unset] [(.int (p6 &&& (7 : Int32)))]) (fun t k => XS.iand X0.here hx rfl (hb hby at_20) rfl k) ?_
  refine own_st (mkF m 23 #[iv p1, iv p2, iv p3, iv p4, iv p5, iv p6, iv ca, iv cb, iv cd, iv ce, iv (p6 &&& (7 : Int32)), .unset, .unset, .unset, .unset, .unset, .unset, .unset] []) (fun t k => XS.istore X0.here hx rfl (hb hby at_21) rfl (l' := #[iv p1, iv p2, iv p3, iv p4, iv p5, iv p6, iv ca, iv cb, iv cd, iv ce, iv (p6 &&& (7 : Int32)), .unset, .unset, .unset, .unset, .unset, .unset, .unset]) rfl k) ?_
  have J79 : ∀ (qq : Int32), own_WP p e below s (own_Q0 Z p1 p2 p3 p4 p5 p6 h0 n0) 16 128 T0 (mkF m 79 #[iv p1, iv p2, iv p3, iv p4, iv p5, iv p6, iv ca, iv cb, iv cd, iv ce, iv (p6 &&& (7 : Int32)), iv qq, .unset, .unset, .unset, .unset, .unset, .unset] []) := by
    intro qq
    obtain ⟨T15, h15, X15, e15, E15, A15, D15, -, st15⟩ := newO X0 hx hZ hown (hw_0 hw) (hw_1 hw) (hw_2 hw) e0 (g := (mkF m 79 #[iv p1, iv p2, iv p3, iv p4, iv p5, iv p6, iv ca, iv cb, iv cd, iv ce, iv (p6 &&& (7 : Int32)), iv qq, .unset, .unset, .unset, .unset, .unset, .unset] [])) rfl (hb hby at_79) (by decide) (by decide)
    obtain ⟨b15, g15⟩ : ∃ z, z = h0.size := ⟨_, rfl⟩
    rw [← g15] at A15 D15 st15
    have E_15 : Ext h0 h15 := E15
    have g_b15 : n0 ≤ b15 := Nat.le_trans Z0 (Nat.le_of_eq g15.symm)
    have Z15 : n0 ≤ h15.size := Nat.le_trans Z0 E15.1
    have F_element_b15 : Fld Z h15 b15 "com/example/chargeweave/chargeweave/x12/Delimiters" "element" "C" (.int (0 : Int32)) := D15 (Or.inr (hw_15 hw)) (ty := .char) (by decide)
    have F_repetition_b15 : Fld Z h15 b15 "com/example/chargeweave/chargeweave/x12/Delimiters" "repetition" "C" (.int (0 : Int32)) := D15 (Or.inr (hw_17 hw)) (ty := .char) (by decide)
    have F_component_b15 : Fld Z h15 b15 "com/example/chargeweave/chargeweave/x12/Delimiters" "component" "C" (.int (0 : Int32)) := D15 (Or.inr (hw_19 hw)) (ty := .char) (by decide)
    have F_segment_b15 : Fld Z h15 b15 "com/example/chargeweave/chargeweave/x12/Delimiters" "segment" "C" (.int (0 : Int32)) := D15 (Or.inr (hw_21 hw)) (ty := .char) (by decide)
    refine own_step (g' := (mkF m 82 #[iv p1, iv p2, iv p3, iv p4, iv p5, iv p6, iv ca, iv cb, iv cd, iv ce, iv (p6 &&& (7 : Int32)), iv qq, .unset, .unset, .unset, .unset, .unset, .unset] [(.ref b15)])) st15 ?_
    refine own_st (mkF m 83 #[iv p1, iv p2, iv p3, iv p4, iv p5, iv p6, iv ca, iv cb, iv cd, iv ce, iv (p6 &&& (7 : Int32)), iv qq, .unset, .unset, .unset, .unset, .unset, .unset] [(.ref b15), (.ref b15)]) (fun t k => XS.dup X15.here hx rfl (hb hby at_82) rfl rfl k) ?_
    refine own_st (mkF m 85 #[iv p1, iv p2, iv p3, iv p4, iv p5, iv p6, iv ca, iv cb, iv cd, iv ce, iv (p6 &&& (7 : Int32)), iv qq, .unset, .unset, .unset, .unset, .unset, .unset] [(.int ca), (.ref b15), (.ref b15)]) (fun t k => XS.iload X15.here hx rfl (hb hby at_83) rfl k) ?_
    refine own_st (mkF m 87 #[iv p1, iv p2, iv p3, iv p4, iv p5, iv p6, iv ca, iv cb, iv cd, iv ce, iv (p6 &&& (7 : Int32)), iv qq, .unset, .unset, .unset, .unset, .unset, .unset] [(.int cb), (.int ca), (.ref b15), (.ref b15)]) (fun t k => XS.iload X15.here hx rfl (hb hby at_85) rfl k) ?_
    refine own_st (mkF m 89 #[iv p1, iv p2, iv p3, iv p4, iv p5, iv p6, iv ca, iv cb, iv cd, iv ce, iv (p6 &&& (7 : Int32)), iv qq, .unset, .unset, .unset, .unset, .unset, .unset] [(.int cd), (.int cb), (.int ca), (.ref b15), (.ref b15)]) (fun t k => XS.iload X15.here hx rfl (hb hby at_87) rfl k) ?_
    refine own_st (mkF m 91 #[iv p1, iv p2, iv p3, iv p4, iv p5, iv p6, iv ca, iv cb, iv cd, iv ce, iv (p6 &&& (7 : Int32)), iv qq, .unset, .unset, .unset, .unset, .unset, .unset] [(.int ce), (.int cd), (.int cb), (.int ca), (.ref b15), (.ref b15)]) (fun t k => XS.iload X15.here hx rfl (hb hby at_89) rfl k) ?_
    obtain ⟨_, _, ⟨T16, L16, k16, n16⟩, -, X16, ⟨Lc16, hQ16, l16, y16, z16⟩, st16⟩ := X15.specialBack hx (y := (⟨"com/example/chargeweave/chargeweave/x12/Delimiters", "<init>", "(CCCC)V"⟩ : MethodName)) rfl hown (mvT hZ (hw_3 hw)) (mvT hZ (hw_4 hw)) (mvT hZ (hw_5 hw)) (by decide) (backOf (W := 1) (own_rm1 l Z a0 hw [] b15 ca cb cd ce h15 n0 Z15 A15 g_b15 F_element_b15 F_repetition_b15 F_component_b15 F_segment_b15) hZ (hw_5 hw) (hw_2 hw) (by decide) (by decide)) (g := (mkF m 91 #[iv p1, iv p2, iv p3, iv p4, iv p5, iv p6, iv ca, iv cb, iv cd, iv ce, iv (p6 &&& (7 : Int32)), iv qq, .unset, .unset, .unset, .unset, .unset, .unset] [(.int ce), (.int cd), (.int cb), (.int ca), (.ref b15), (.ref b15)])) rfl (by rw [hml]; rfl) (Steps.refl _) (a := b15) (argsL := [(.int ca), (.int cb), (.int cd), (.int ce)]) (rest := [(.ref b15)]) (lenOf pd_1 rfl) rfl (by show 2 * 0 + _ ≤ _; exact Nat.le_of_eq rfl) (hb hby at_91) (fun _ _ => ⟨rfl, e15, (by decide : 1 + 0 ≤ _), (by decide : 4 + 0 ≤ _)⟩)
    dsimp only [Pt.U, Pt.locs, Pt.cells, Pt.slots] at X16 l16 y16 z16 st16 hQ16
    subst l16 y16 z16
    obtain ⟨rfl, Nq16, K16, Ex16, Fl16_element, Fl16_repetition, Fl16_component, Fl16_segment⟩ := hQ16
    have N16 := Fr.app N0 Nq16
    have Z16 : n0 ≤ T16.heap.size := Nat.le_trans Z15 K16.1
    have f1_Exa_b15 : Exa Z T16.heap b15 "com/example/chargeweave/chargeweave/x12/Delimiters" := (A15.keep K16)
    refine own_jump (g' := (mkF m 94 #[iv p1, iv p2, iv p3, iv p4, iv p5, iv p6, iv ca, iv cb, iv cd, iv ce, iv (p6 &&& (7 : Int32)), iv qq, .unset, .unset, .unset, .unset, .unset, .unset] [(.ref b15)])) st16 ?_
    refine own_st (mkF m 96 #[iv p1, iv p2, iv p3, iv p4, iv p5, iv p6, iv ca, iv cb, iv cd, iv ce, iv (p6 &&& (7 : Int32)), iv qq, rv b15, .unset, .unset, .unset, .unset, .unset] []) (fun t k => XS.astore X16.here hx rfl (hb hby at_94) rfl rfl (l' := #[iv p1, iv p2, iv p3, iv p4, iv p5, iv p6, iv ca, iv cb, iv cd, iv ce, iv (p6 &&& (7 : Int32)), iv qq, rv b15, .unset, .unset, .unset, .unset, .unset]) rfl k) ?_
    obtain ⟨T17, h17, X17, e17, E17, A17, D17, -, st17⟩ := newO X16 hx hZ hown (hw_0 hw) (hw_1 hw) (hw_2 hw) rfl (g := (mkF m 96 #[iv p1, iv p2, iv p3, iv p4, iv p5, iv p6, iv ca, iv cb, iv cd, iv ce, iv (p6 &&& (7 : Int32)), iv qq, rv b15, .unset, .unset, .unset, .unset, .unset] [])) rfl (hb hby at_96) (by decide) (by decide)
    obtain ⟨b17, g17⟩ : ∃ z, z = T16.heap.size := ⟨_, rfl⟩
    rw [← g17] at A17 D17 st17
    have E_17 : Ext T16.heap h17 := E17
    have g_b17 : n0 ≤ b17 := Nat.le_trans Z16 (Nat.le_of_eq g17.symm)
    have ne_b15_b17 : b15 ≠ b17 := Nat.ne_of_lt (Nat.lt_of_lt_of_le Ex16.lt (Nat.le_of_eq g17.symm))
    have Z17 : n0 ≤ h17.size := Nat.le_trans Z16 E17.1
    have f2_Exa_b15 : Exa Z h17 b15 "com/example/chargeweave/chargeweave/x12/Delimiters" := (Ex16.ext E17)
    have f3_Fld_b15 : Fld Z h17 b15 "com/example/chargeweave/chargeweave/x12/Delimiters" "element" "C" (.int (nar .char ca)) := (Fl16_element.ext E17)
    have f4_Fld_b15 : Fld Z h17 b15 "com/example/chargeweave/chargeweave/x12/Delimiters" "repetition" "C" (.int (nar .char cb)) := (Fl16_repetition.ext E17)
    have f5_Fld_b15 : Fld Z h17 b15 "com/example/chargeweave/chargeweave/x12/Delimiters" "component" "C" (.int (nar .char cd)) := (Fl16_component.ext E17)
    have f6_Fld_b15 : Fld Z h17 b15 "com/example/chargeweave/chargeweave/x12/Delimiters" "segment" "C" (.int (nar .char ce)) := (Fl16_segment.ext E17)
    have F_element_b17 : Fld Z h17 b17 "com/example/chargeweave/chargeweave/x12/Delimiters" "element" "C" (.int (0 : Int32)) := D17 (Or.inr (hw_15 hw)) (ty := .char) (by decide)
    have F_repetition_b17 : Fld Z h17 b17 "com/example/chargeweave/chargeweave/x12/Delimiters" "repetition" "C" (.int (0 : Int32)) := D17 (Or.inr (hw_17 hw)) (ty := .char) (by decide)
    have F_component_b17 : Fld Z h17 b17 "com/example/chargeweave/chargeweave/x12/Delimiters" "component" "C" (.int (0 : Int32)) := D17 (Or.inr (hw_19 hw)) (ty := .char) (by decide)
    have F_segment_b17 : Fld Z h17 b17 "com/example/chargeweave/chargeweave/x12/Delimiters" "segment" "C" (.int (0 : Int32)) := D17 (Or.inr (hw_21 hw)) (ty := .char) (by decide)
    refine own_step (g' := (mkF m 99 #[iv p1, iv p2, iv p3, iv p4, iv p5, iv p6, iv ca, iv cb, iv cd, iv ce, iv (p6 &&& (7 : Int32)), iv qq, rv b15, .unset, .unset, .unset, .unset, .unset] [(.ref b17)])) st17 ?_
    refine own_st (mkF m 100 #[iv p1, iv p2, iv p3, iv p4, iv p5, iv p6, iv ca, iv cb, iv cd, iv ce, iv (p6 &&& (7 : Int32)), iv qq, rv b15, .unset, .unset, .unset, .unset, .unset] [(.ref b17), (.ref b17)]) (fun t k => XS.dup X17.here hx rfl (hb hby at_99) rfl rfl k) ?_
    refine own_st (mkF m 102 #[iv p1, iv p2, iv p3, iv p4, iv p5, iv p6, iv ca, iv cb, iv cd, iv ce, iv (p6 &&& (7 : Int32)), iv qq, rv b15, .unset, .unset, .unset, .unset, .unset] [(.int ce), (.ref b17), (.ref b17)]) (fun t k => XS.iload X17.here hx rfl (hb hby at_100) rfl k) ?_
    refine own_st (mkF m 104 #[iv p1, iv p2, iv p3, iv p4, iv p5, iv p6, iv ca, iv cb, iv cd, iv ce, iv (p6 &&& (7 : Int32)), iv qq, rv b15, .unset, .unset, .unset, .unset, .unset] [(.int cd), (.int ce), (.ref b17), (.ref b17)]) (fun t k => XS.iload X17.here hx rfl (hb hby at_102) rfl k) ?_
    refine own_st (mkF m 106 #[iv p1, iv p2, iv p3, iv p4, iv p5, iv p6, iv ca, iv cb, iv cd, iv ce, iv (p6 &&& (7 : Int32)), iv qq, rv b15, .unset, .unset, .unset, .unset, .unset] [(.int cb), (.int cd), (.int ce), (.ref b17), (.ref b17)]) (fun t k => XS.iload X17.here hx rfl (hb hby at_104) rfl k) ?_
    refine own_st (mkF m 108 #[iv p1, iv p2, iv p3, iv p4, iv p5, iv p6, iv ca, iv cb, iv cd, iv ce, iv (p6 &&& (7 : Int32)), iv qq, rv b15, .unset, .unset, .unset, .unset, .unset] [(.int ca), (.int cb), (.int cd), (.int ce), (.ref b17), (.ref b17)]) (fun t k => XS.iload X17.here hx rfl (hb hby at_106) rfl k) ?_
    obtain ⟨_, _, ⟨T18, L18, k18, n18⟩, -, X18, ⟨Lc18, hQ18, l18, y18, z18⟩, st18⟩ := X17.specialBack hx (y := (⟨"com/example/chargeweave/chargeweave/x12/Delimiters", "<init>", "(CCCC)V"⟩ : MethodName)) rfl hown (mvT hZ (hw_3 hw)) (mvT hZ (hw_4 hw)) (mvT hZ (hw_5 hw)) (by decide) (backOf (W := 1) (own_rm1 l Z a0 hw [] b17 ce cd cb ca h17 n0 Z17 A17 g_b17 F_element_b17 F_repetition_b17 F_component_b17 F_segment_b17) hZ (hw_5 hw) (hw_2 hw) (by decide) (by decide)) (g := (mkF m 108 #[iv p1, iv p2, iv p3, iv p4, iv p5, iv p6, iv ca, iv cb, iv cd, iv ce, iv (p6 &&& (7 : Int32)), iv qq, rv b15, .unset, .unset, .unset, .unset, .unset] [(.int ca), (.int cb), (.int cd), (.int ce), (.ref b17), (.ref b17)])) rfl (by rw [hml]; rfl) (Steps.refl _) (a := b17) (argsL := [(.int ce), (.int cd), (.int cb), (.int ca)]) (rest := [(.ref b17)]) (lenOf pd_1 rfl) rfl (by show 2 * 0 + _ ≤ _; exact Nat.le_of_eq rfl) (hb hby at_108) (fun _ _ => ⟨rfl, e17, (by decide : 2 + 0 ≤ _), (by decide : 8 + 0 ≤ _)⟩)
    dsimp only [Pt.U, Pt.locs, Pt.cells, Pt.slots] at X18 l18 y18 z18 st18 hQ18
    subst l18 y18 z18
    obtain ⟨rfl, Nq18, K18, Ex18, Fl18_element, Fl18_repetition, Fl18_component, Fl18_segment⟩ := hQ18
    have N18 := Fr.app N16 Nq18
    have Z18 : n0 ≤ T18.heap.size := Nat.le_trans Z17 K18.1
    have f7_Exa_b15 : Exa Z T18.heap b15 "com/example/chargeweave/chargeweave/x12/Delimiters" := (f2_Exa_b15.keep K18)
    have f8_Fld_b15 : Fld Z T18.heap b15 "com/example/chargeweave/chargeweave/x12/Delimiters" "element" "C" (.int (nar .char ca)) := (f3_Fld_b15.keep K18 (ninS ne_b15_b17 nin0))
    have f9_Fld_b15 : Fld Z T18.heap b15 "com/example/chargeweave/chargeweave/x12/Delimiters" "repetition" "C" (.int (nar .char cb)) := (f4_Fld_b15.keep K18 (ninS ne_b15_b17 nin0))
    have f10_Fld_b15 : Fld Z T18.heap b15 "com/example/chargeweave/chargeweave/x12/Delimiters" "component" "C" (.int (nar .char cd)) := (f5_Fld_b15.keep K18 (ninS ne_b15_b17 nin0))
    have f11_Fld_b15 : Fld Z T18.heap b15 "com/example/chargeweave/chargeweave/x12/Delimiters" "segment" "C" (.int (nar .char ce)) := (f6_Fld_b15.keep K18 (ninS ne_b15_b17 nin0))
    have f12_Exa_b17 : Exa Z T18.heap b17 "com/example/chargeweave/chargeweave/x12/Delimiters" := (A17.keep K18)
    refine own_jump (g' := (mkF m 111 #[iv p1, iv p2, iv p3, iv p4, iv p5, iv p6, iv ca, iv cb, iv cd, iv ce, iv (p6 &&& (7 : Int32)), iv qq, rv b15, .unset, .unset, .unset, .unset, .unset] [(.ref b17)])) st18 ?_
    refine own_st (mkF m 113 #[iv p1, iv p2, iv p3, iv p4, iv p5, iv p6, iv ca, iv cb, iv cd, iv ce, iv (p6 &&& (7 : Int32)), iv qq, rv b15, rv b17, .unset, .unset, .unset, .unset] []) (fun t k => XS.astore X18.here hx rfl (hb hby at_111) rfl rfl (l' := #[iv p1, iv p2, iv p3, iv p4, iv p5, iv p6, iv ca, iv cb, iv cd, iv ce, iv (p6 &&& (7 : Int32)), iv qq, rv b15, rv b17, .unset, .unset, .unset, .unset]) rfl k) ?_
    obtain ⟨T19, h19, X19, e19, E19, A19, D19, -, st19⟩ := newO X18 hx hZ hown (hw_0 hw) (hw_1 hw) (hw_2 hw) rfl (g := (mkF m 113 #[iv p1, iv p2, iv p3, iv p4, iv p5, iv p6, iv ca, iv cb, iv cd, iv ce, iv (p6 &&& (7 : Int32)), iv qq, rv b15, rv b17, .unset, .unset, .unset, .unset] [])) rfl (hb hby at_113) (by decide) (by decide)
    obtain ⟨b19, g19⟩ : ∃ z, z = T18.heap.size := ⟨_, rfl⟩
    rw [← g19] at A19 D19 st19
    have E_19 : Ext T18.heap h19 := E19
    have g_b19 : n0 ≤ b19 := Nat.le_trans Z18 (Nat.le_of_eq g19.symm)
    have ne_b15_b19 : b15 ≠ b19 := Nat.ne_of_lt (Nat.lt_of_lt_of_le f7_Exa_b15.lt (Nat.le_of_eq g19.symm))
    have ne_b17_b19 : b17 ≠ b19 := Nat.ne_of_lt (Nat.lt_of_lt_of_le Ex18.lt (Nat.le_of_eq g19.symm))
    have Z19 : n0 ≤ h19.size := Nat.le_trans Z18 E19.1
    have f13_Exa_b15 : Exa Z h19 b15 "com/example/chargeweave/chargeweave/x12/Delimiters" := (f7_Exa_b15.ext E19)
    have f14_Fld_b15 : Fld Z h19 b15 "com/example/chargeweave/chargeweave/x12/Delimiters" "element" "C" (.int (nar .char ca)) := (f8_Fld_b15.ext E19)
    have f15_Fld_b15 : Fld Z h19 b15 "com/example/chargeweave/chargeweave/x12/Delimiters" "repetition" "C" (.int (nar .char cb)) := (f9_Fld_b15.ext E19)
    have f16_Fld_b15 : Fld Z h19 b15 "com/example/chargeweave/chargeweave/x12/Delimiters" "component" "C" (.int (nar .char cd)) := (f10_Fld_b15.ext E19)
    have f17_Fld_b15 : Fld Z h19 b15 "com/example/chargeweave/chargeweave/x12/Delimiters" "segment" "C" (.int (nar .char ce)) := (f11_Fld_b15.ext E19)
    have f18_Exa_b17 : Exa Z h19 b17 "com/example/chargeweave/chargeweave/x12/Delimiters" := (Ex18.ext E19)
    have f19_Fld_b17 : Fld Z h19 b17 "com/example/chargeweave/chargeweave/x12/Delimiters" "element" "C" (.int (nar .char ce)) := (Fl18_element.ext E19)
    have f20_Fld_b17 : Fld Z h19 b17 "com/example/chargeweave/chargeweave/x12/Delimiters" "repetition" "C" (.int (nar .char cd)) := (Fl18_repetition.ext E19)
    have f21_Fld_b17 : Fld Z h19 b17 "com/example/chargeweave/chargeweave/x12/Delimiters" "component" "C" (.int (nar .char cb)) := (Fl18_component.ext E19)
    have f22_Fld_b17 : Fld Z h19 b17 "com/example/chargeweave/chargeweave/x12/Delimiters" "segment" "C" (.int (nar .char ca)) := (Fl18_segment.ext E19)
    have F_element_b19 : Fld Z h19 b19 "com/example/chargeweave/chargeweave/x12/Delimiters" "element" "C" (.int (0 : Int32)) := D19 (Or.inr (hw_15 hw)) (ty := .char) (by decide)
    have F_repetition_b19 : Fld Z h19 b19 "com/example/chargeweave/chargeweave/x12/Delimiters" "repetition" "C" (.int (0 : Int32)) := D19 (Or.inr (hw_17 hw)) (ty := .char) (by decide)
    have F_component_b19 : Fld Z h19 b19 "com/example/chargeweave/chargeweave/x12/Delimiters" "component" "C" (.int (0 : Int32)) := D19 (Or.inr (hw_19 hw)) (ty := .char) (by decide)
    have F_segment_b19 : Fld Z h19 b19 "com/example/chargeweave/chargeweave/x12/Delimiters" "segment" "C" (.int (0 : Int32)) := D19 (Or.inr (hw_21 hw)) (ty := .char) (by decide)
    refine own_step (g' := (mkF m 116 #[iv p1, iv p2, iv p3, iv p4, iv p5, iv p6, iv ca, iv cb, iv cd, iv ce, iv (p6 &&& (7 : Int32)), iv qq, rv b15, rv b17, .unset, .unset, .unset, .unset] [(.ref b19)])) st19 ?_
    refine own_st (mkF m 117 #[iv p1, iv p2, iv p3, iv p4, iv p5, iv p6, iv ca, iv cb, iv cd, iv ce, iv (p6 &&& (7 : Int32)), iv qq, rv b15, rv b17, .unset, .unset, .unset, .unset] [(.ref b19), (.ref b19)]) (fun t k => XS.dup X19.here hx rfl (hb hby at_116) rfl rfl k) ?_
    refine own_st (mkF m 119 #[iv p1, iv p2, iv p3, iv p4, iv p5, iv p6, iv ca, iv cb, iv cd, iv ce, iv (p6 &&& (7 : Int32)), iv qq, rv b15, rv b17, .unset, .unset, .unset, .unset] [(.int ca), (.ref b19), (.ref b19)]) (fun t k => XS.iload X19.here hx rfl (hb hby at_117) rfl k) ?_
    refine own_st (mkF m 121 #[iv p1, iv p2, iv p3, iv p4, iv p5, iv p6, iv ca, iv cb, iv cd, iv ce, iv (p6 &&& (7 : Int32)), iv qq, rv b15, rv b17, .unset, .unset, .unset, .unset] [(.int ca), (.int ca), (.ref b19), (.ref b19)]) (fun t k => XS.iload X19.here hx rfl (hb hby at_119) rfl k) ?_
    refine own_st (mkF m 123 #[iv p1, iv p2, iv p3, iv p4, iv p5, iv p6, iv ca, iv cb, iv cd, iv ce, iv (p6 &&& (7 : Int32)), iv qq, rv b15, rv b17, .unset, .unset, .unset, .unset] [(.int ca), (.int ca), (.int ca), (.ref b19), (.ref b19)]) (fun t k => XS.iload X19.here hx rfl (hb hby at_121) rfl k) ?_
    refine own_st (mkF m 125 #[iv p1, iv p2, iv p3, iv p4, iv p5, iv p6, iv ca, iv cb, iv cd, iv ce, iv (p6 &&& (7 : Int32)), iv qq, rv b15, rv b17, .unset, .unset, .unset, .unset] [(.int ca), (.int ca), (.int ca), (.int ca), (.ref b19), (.ref b19)]) (fun t k => XS.iload X19.here hx rfl (hb hby at_123) rfl k) ?_
    obtain ⟨_, _, ⟨T20, L20, k20, n20⟩, -, X20, ⟨Lc20, hQ20, l20, y20, z20⟩, st20⟩ := X19.specialBack hx (y := (⟨"com/example/chargeweave/chargeweave/x12/Delimiters", "<init>", "(CCCC)V"⟩ : MethodName)) rfl hown (mvT hZ (hw_3 hw)) (mvT hZ (hw_4 hw)) (mvT hZ (hw_5 hw)) (by decide) (backOf (W := 1) (own_rm1 l Z a0 hw [] b19 ca ca ca ca h19 n0 Z19 A19 g_b19 F_element_b19 F_repetition_b19 F_component_b19 F_segment_b19) hZ (hw_5 hw) (hw_2 hw) (by decide) (by decide)) (g := (mkF m 125 #[iv p1, iv p2, iv p3, iv p4, iv p5, iv p6, iv ca, iv cb, iv cd, iv ce, iv (p6 &&& (7 : Int32)), iv qq, rv b15, rv b17, .unset, .unset, .unset, .unset] [(.int ca), (.int ca), (.int ca), (.int ca), (.ref b19), (.ref b19)])) rfl (by rw [hml]; rfl) (Steps.refl _) (a := b19) (argsL := [(.int ca), (.int ca), (.int ca), (.int ca)]) (rest := [(.ref b19)]) (lenOf pd_1 rfl) rfl (by show 2 * 0 + _ ≤ _; exact Nat.le_of_eq rfl) (hb hby at_125) (fun _ _ => ⟨rfl, e19, (by decide : 3 + 0 ≤ _), (by decide : 12 + 0 ≤ _)⟩)
    dsimp only [Pt.U, Pt.locs, Pt.cells, Pt.slots] at X20 l20 y20 z20 st20 hQ20
    subst l20 y20 z20
    obtain ⟨rfl, Nq20, K20, Ex20, Fl20_element, Fl20_repetition, Fl20_component, Fl20_segment⟩ := hQ20
    have N20 := Fr.app N18 Nq20
    have Z20 : n0 ≤ T20.heap.size := Nat.le_trans Z19 K20.1
    have f23_Exa_b15 : Exa Z T20.heap b15 "com/example/chargeweave/chargeweave/x12/Delimiters" := (f13_Exa_b15.keep K20)
    have f24_Fld_b15 : Fld Z T20.heap b15 "com/example/chargeweave/chargeweave/x12/Delimiters" "element" "C" (.int (nar .char ca)) := (f14_Fld_b15.keep K20 (ninS ne_b15_b19 nin0))
    have f25_Fld_b15 : Fld Z T20.heap b15 "com/example/chargeweave/chargeweave/x12/Delimiters" "repetition" "C" (.int (nar .char cb)) := (f15_Fld_b15.keep K20 (ninS ne_b15_b19 nin0))
    have f26_Fld_b15 : Fld Z T20.heap b15 "com/example/chargeweave/chargeweave/x12/Delimiters" "component" "C" (.int (nar .char cd)) := (f16_Fld_b15.keep K20 (ninS ne_b15_b19 nin0))
    have f27_Fld_b15 : Fld Z T20.heap b15 "com/example/chargeweave/chargeweave/x12/Delimiters" "segment" "C" (.int (nar .char ce)) := (f17_Fld_b15.keep K20 (ninS ne_b15_b19 nin0))
    have f28_Exa_b17 : Exa Z T20.heap b17 "com/example/chargeweave/chargeweave/x12/Delimiters" := (f18_Exa_b17.keep K20)
    have f29_Fld_b17 : Fld Z T20.heap b17 "com/example/chargeweave/chargeweave/x12/Delimiters" "element" "C" (.int (nar .char ce)) := (f19_Fld_b17.keep K20 (ninS ne_b17_b19 nin0))
    have f30_Fld_b17 : Fld Z T20.heap b17 "com/example/chargeweave/chargeweave/x12/Delimiters" "repetition" "C" (.int (nar .char cd)) := (f20_Fld_b17.keep K20 (ninS ne_b17_b19 nin0))
    have f31_Fld_b17 : Fld Z T20.heap b17 "com/example/chargeweave/chargeweave/x12/Delimiters" "component" "C" (.int (nar .char cb)) := (f21_Fld_b17.keep K20 (ninS ne_b17_b19 nin0))
    have f32_Fld_b17 : Fld Z T20.heap b17 "com/example/chargeweave/chargeweave/x12/Delimiters" "segment" "C" (.int (nar .char ca)) := (f22_Fld_b17.keep K20 (ninS ne_b17_b19 nin0))
    have f33_Exa_b19 : Exa Z T20.heap b19 "com/example/chargeweave/chargeweave/x12/Delimiters" := (A19.keep K20)
    refine own_jump (g' := (mkF m 128 #[iv p1, iv p2, iv p3, iv p4, iv p5, iv p6, iv ca, iv cb, iv cd, iv ce, iv (p6 &&& (7 : Int32)), iv qq, rv b15, rv b17, .unset, .unset, .unset, .unset] [(.ref b19)])) st20 ?_
    refine own_st (mkF m 130 #[iv p1, iv p2, iv p3, iv p4, iv p5, iv p6, iv ca, iv cb, iv cd, iv ce, iv (p6 &&& (7 : Int32)), iv qq, rv b15, rv b17, rv b19, .unset, .unset, .unset] []) (fun t k => XS.astore X20.here hx rfl (hb hby at_128) rfl rfl (l' := #[iv p1, iv p2, iv p3, iv p4, iv p5, iv p6, iv ca, iv cb, iv cd, iv ce, iv (p6 &&& (7 : Int32)), iv qq, rv b15, rv b17, rv b19, .unset, .unset, .unset]) rfl k) ?_
    refine own_st (mkF m 132 #[iv p1, iv p2, iv p3, iv p4, iv p5, iv p6, iv ca, iv cb, iv cd, iv ce, iv (p6 &&& (7 : Int32)), iv qq, rv b15, rv b17, rv b19, .unset, .unset, .unset] [(.ref b15)]) (fun t k => XS.aload X20.here hx rfl (hb hby at_130) rfl rfl k) ?_
    refine own_st (mkF m 134 #[iv p1, iv p2, iv p3, iv p4, iv p5, iv p6, iv ca, iv cb, iv cd, iv ce, iv (p6 &&& (7 : Int32)), iv qq, rv b15, rv b17, rv b19, .unset, .unset, .unset] [(.int ca), (.ref b15)]) (fun t k => XS.iload X20.here hx rfl (hb hby at_132) rfl k) ?_
    obtain ⟨cq21, kq21, q21a, q21b, q21c⟩ := isOf hZ rfl f23_Exa_b15
    obtain ⟨_, _, ⟨T21, L21, k21, n21⟩, -, X21, ⟨Lc21, hQ21, l21, y21, z21⟩, st21⟩ := X20.virtualBack hx (y := (⟨"com/example/chargeweave/chargeweave/x12/Delimiters", "contains", "(C)Z"⟩ : MethodName)) (z := (⟨"com/example/chargeweave/chargeweave/x12/Delimiters", "contains", "(C)Z"⟩ : MethodName)) hown (mvT hZ (hw_22 hw)) (mvT hZ (hw_23 hw)) (notFace_of_selects (args := #[]) (mvT hZ (hw_25 hw))) (mvT hZ (hw_25 hw)) (mvT hZ (hw_24 hw)) (by decide) (backOf (W := 0) (own_rm4 l Z a0 hw [] b15 ca (nar .char ca) (nar .char cb) (nar .char cd) (nar .char ce) T20.heap n0 Z20 f24_Fld_b15 f25_Fld_b15 f26_Fld_b15 f27_Fld_b15) hZ (hw_26 hw) (hw_2 hw) (by decide) (by decide)) q21a q21c (g := (mkF m 134 #[iv p1, iv p2, iv p3, iv p4, iv p5, iv p6, iv ca, iv cb, iv cd, iv ce, iv (p6 &&& (7 : Int32)), iv qq, rv b15, rv b17, rv b19, .unset, .unset, .unset] [(.int ca), (.ref b15)])) rfl (by rw [hml]; rfl) (Steps.refl _) (argsL := [(.int ca)]) (rest := []) (lenOf pd_2 rfl) rfl (by show 2 * 0 + _ ≤ _; exact Nat.le_of_eq rfl) (hb hby at_134) (fun _ _ => ⟨rfl, rfl, (by decide : 3 + 0 ≤ _), (by decide : 12 + 0 ≤ _)⟩)
    dsimp only [Pt.U, Pt.locs, Pt.cells, Pt.slots] at X21 l21 y21 z21 st21 hQ21
    subst l21 y21 z21
    obtain ⟨rfl, Nq21, e21⟩ := hQ21
    have N21 := Fr.app N20 Nq21
    refine own_jump (g' := (mkF m 137 #[iv p1, iv p2, iv p3, iv p4, iv p5, iv p6, iv ca, iv cb, iv cd, iv ce, iv (p6 &&& (7 : Int32)), iv qq, rv b15, rv b17, rv b19, .unset, .unset, .unset] [(.int (own_has ca (nar .char ca) (nar .char cb) (nar .char cd) (nar .char ce)))])) st21 ?_
    refine own_st (mkF m 140 #[iv p1, iv p2, iv p3, iv p4, iv p5, iv p6, iv ca, iv cb, iv cd, iv ce, iv (p6 &&& (7 : Int32)), iv qq, rv b15, rv b17, rv b19, .unset, .unset, .unset] []) (fun t k => XS.ifNo X21.here hx rfl (hb hby at_137) rfl ((if0 _ _).trans (feq (own_in _ _ _ _ _ (by simp [hca, hcb, hcd, hce]))).1) k) ?_
    refine own_st (mkF m 142 #[iv p1, iv p2, iv p3, iv p4, iv p5, iv p6, iv ca, iv cb, iv cd, iv ce, iv (p6 &&& (7 : Int32)), iv qq, rv b15, rv b17, rv b19, .unset, .unset, .unset] [(.ref b15)]) (fun t k => XS.aload X21.here hx rfl (hb hby at_140) rfl rfl k) ?_
    refine own_st (mkF m 144 #[iv p1, iv p2, iv p3, iv p4, iv p5, iv p6, iv ca, iv cb, iv cd, iv ce, iv (p6 &&& (7 : Int32)), iv qq, rv b15, rv b17, rv b19, .unset, .unset, .unset] [(.int cb), (.ref b15)]) (fun t k => XS.iload X21.here hx rfl (hb hby at_142) rfl k) ?_
    obtain ⟨cq22, kq22, q22a, q22b, q22c⟩ := isOf hZ e21 f23_Exa_b15
    obtain ⟨_, _, ⟨T22, L22, k22, n22⟩, -, X22, ⟨Lc22, hQ22, l22, y22, z22⟩, st22⟩ := X21.virtualBack hx (y := (⟨"com/example/chargeweave/chargeweave/x12/Delimiters", "contains", "(C)Z"⟩ : MethodName)) (z := (⟨"com/example/chargeweave/chargeweave/x12/Delimiters", "contains", "(C)Z"⟩ : MethodName)) hown (mvT hZ (hw_22 hw)) (mvT hZ (hw_23 hw)) (notFace_of_selects (args := #[]) (mvT hZ (hw_25 hw))) (mvT hZ (hw_25 hw)) (mvT hZ (hw_24 hw)) (by decide) (backOf (W := 0) (own_rm4 l Z a0 hw [] b15 cb (nar .char ca) (nar .char cb) (nar .char cd) (nar .char ce) T20.heap n0 Z20 f24_Fld_b15 f25_Fld_b15 f26_Fld_b15 f27_Fld_b15) hZ (hw_26 hw) (hw_2 hw) (by decide) (by decide)) q22a q22c (g := (mkF m 144 #[iv p1, iv p2, iv p3, iv p4, iv p5, iv p6, iv ca, iv cb, iv cd, iv ce, iv (p6 &&& (7 : Int32)), iv qq, rv b15, rv b17, rv b19, .unset, .unset, .unset] [(.int cb), (.ref b15)])) rfl (by rw [hml]; rfl) (Steps.refl _) (argsL := [(.int cb)]) (rest := []) (lenOf pd_2 rfl) rfl (by show 2 * 0 + _ ≤ _; exact Nat.le_of_eq rfl) (hb hby at_144) (fun _ _ => ⟨rfl, e21, (by decide : 3 + 0 ≤ _), (by decide : 12 + 0 ≤ _)⟩)
    dsimp only [Pt.U, Pt.locs, Pt.cells, Pt.slots] at X22 l22 y22 z22 st22 hQ22
    subst l22 y22 z22
    obtain ⟨rfl, Nq22, e22⟩ := hQ22
    have N22 := Fr.app N21 Nq22
    refine own_jump (g' := (mkF m 147 #[iv p1, iv p2, iv p3, iv p4, iv p5, iv p6, iv ca, iv cb, iv cd, iv ce, iv (p6 &&& (7 : Int32)), iv qq, rv b15, rv b17, rv b19, .unset, .unset, .unset] [(.int (own_has cb (nar .char ca) (nar .char cb) (nar .char cd) (nar .char ce)))])) st22 ?_
    refine own_st (mkF m 150 #[iv p1, iv p2, iv p3, iv p4, iv p5, iv p6, iv ca, iv cb, iv cd, iv ce, iv (p6 &&& (7 : Int32)), iv qq, rv b15, rv b17, rv b19, .unset, .unset, .unset] []) (fun t k => XS.ifNo X22.here hx rfl (hb hby at_147) rfl ((if0 _ _).trans (feq (own_in _ _ _ _ _ (by simp [hca, hcb, hcd, hce]))).1) k) ?_
    refine own_st (mkF m 152 #[iv p1, iv p2, iv p3, iv p4, iv p5, iv p6, iv ca, iv cb, iv cd, iv ce, iv (p6 &&& (7 : Int32)), iv qq, rv b15, rv b17, rv b19, .unset, .unset, .unset] [(.ref b15)]) (fun t k => XS.aload X22.here hx rfl (hb hby at_150) rfl rfl k) ?_
    refine own_st (mkF m 154 #[iv p1, iv p2, iv p3, iv p4, iv p5, iv p6, iv ca, iv cb, iv cd, iv ce, iv (p6 &&& (7 : Int32)), iv qq, rv b15, rv b17, rv b19, .unset, .unset, .unset] [(.int cd), (.ref b15)]) (fun t k => XS.iload X22.here hx rfl (hb hby at_152) rfl k) ?_
    obtain ⟨cq23, kq23, q23a, q23b, q23c⟩ := isOf hZ e22 f23_Exa_b15
    obtain ⟨_, _, ⟨T23, L23, k23, n23⟩, -, X23, ⟨Lc23, hQ23, l23, y23, z23⟩, st23⟩ := X22.virtualBack hx (y := (⟨"com/example/chargeweave/chargeweave/x12/Delimiters", "contains", "(C)Z"⟩ : MethodName)) (z := (⟨"com/example/chargeweave/chargeweave/x12/Delimiters", "contains", "(C)Z"⟩ : MethodName)) hown (mvT hZ (hw_22 hw)) (mvT hZ (hw_23 hw)) (notFace_of_selects (args := #[]) (mvT hZ (hw_25 hw))) (mvT hZ (hw_25 hw)) (mvT hZ (hw_24 hw)) (by decide) (backOf (W := 0) (own_rm4 l Z a0 hw [] b15 cd (nar .char ca) (nar .char cb) (nar .char cd) (nar .char ce) T20.heap n0 Z20 f24_Fld_b15 f25_Fld_b15 f26_Fld_b15 f27_Fld_b15) hZ (hw_26 hw) (hw_2 hw) (by decide) (by decide)) q23a q23c (g := (mkF m 154 #[iv p1, iv p2, iv p3, iv p4, iv p5, iv p6, iv ca, iv cb, iv cd, iv ce, iv (p6 &&& (7 : Int32)), iv qq, rv b15, rv b17, rv b19, .unset, .unset, .unset] [(.int cd), (.ref b15)])) rfl (by rw [hml]; rfl) (Steps.refl _) (argsL := [(.int cd)]) (rest := []) (lenOf pd_2 rfl) rfl (by show 2 * 0 + _ ≤ _; exact Nat.le_of_eq rfl) (hb hby at_154) (fun _ _ => ⟨rfl, e22, (by decide : 3 + 0 ≤ _), (by decide : 12 + 0 ≤ _)⟩)
    dsimp only [Pt.U, Pt.locs, Pt.cells, Pt.slots] at X23 l23 y23 z23 st23 hQ23
    subst l23 y23 z23
    obtain ⟨rfl, Nq23, e23⟩ := hQ23
    have N23 := Fr.app N22 Nq23
    refine own_jump (g' := (mkF m 157 #[iv p1, iv p2, iv p3, iv p4, iv p5, iv p6, iv ca, iv cb, iv cd, iv ce, iv (p6 &&& (7 : Int32)), iv qq, rv b15, rv b17, rv b19, .unset, .unset, .unset] [(.int (own_has cd (nar .char ca) (nar .char cb) (nar .char cd) (nar .char ce)))])) st23 ?_
    refine own_st (mkF m 160 #[iv p1, iv p2, iv p3, iv p4, iv p5, iv p6, iv ca, iv cb, iv cd, iv ce, iv (p6 &&& (7 : Int32)), iv qq, rv b15, rv b17, rv b19, .unset, .unset, .unset] []) (fun t k => XS.ifNo X23.here hx rfl (hb hby at_157) rfl ((if0 _ _).trans (feq (own_in _ _ _ _ _ (by simp [hca, hcb, hcd, hce]))).1) k) ?_
    refine own_st (mkF m 162 #[iv p1, iv p2, iv p3, iv p4, iv p5, iv p6, iv ca, iv cb, iv cd, iv ce, iv (p6 &&& (7 : Int32)), iv qq, rv b15, rv b17, rv b19, .unset, .unset, .unset] [(.ref b15)]) (fun t k => XS.aload X23.here hx rfl (hb hby at_160) rfl rfl k) ?_
    refine own_st (mkF m 164 #[iv p1, iv p2, iv p3, iv p4, iv p5, iv p6, iv ca, iv cb, iv cd, iv ce, iv (p6 &&& (7 : Int32)), iv qq, rv b15, rv b17, rv b19, .unset, .unset, .unset] [(.int ce), (.ref b15)]) (fun t k => XS.iload X23.here hx rfl (hb hby at_162) rfl k) ?_
    obtain ⟨cq24, kq24, q24a, q24b, q24c⟩ := isOf hZ e23 f23_Exa_b15
    obtain ⟨_, _, ⟨T24, L24, k24, n24⟩, -, X24, ⟨Lc24, hQ24, l24, y24, z24⟩, st24⟩ := X23.virtualBack hx (y := (⟨"com/example/chargeweave/chargeweave/x12/Delimiters", "contains", "(C)Z"⟩ : MethodName)) (z := (⟨"com/example/chargeweave/chargeweave/x12/Delimiters", "contains", "(C)Z"⟩ : MethodName)) hown (mvT hZ (hw_22 hw)) (mvT hZ (hw_23 hw)) (notFace_of_selects (args := #[]) (mvT hZ (hw_25 hw))) (mvT hZ (hw_25 hw)) (mvT hZ (hw_24 hw)) (by decide) (backOf (W := 0) (own_rm4 l Z a0 hw [] b15 ce (nar .char ca) (nar .char cb) (nar .char cd) (nar .char ce) T20.heap n0 Z20 f24_Fld_b15 f25_Fld_b15 f26_Fld_b15 f27_Fld_b15) hZ (hw_26 hw) (hw_2 hw) (by decide) (by decide)) q24a q24c (g := (mkF m 164 #[iv p1, iv p2, iv p3, iv p4, iv p5, iv p6, iv ca, iv cb, iv cd, iv ce, iv (p6 &&& (7 : Int32)), iv qq, rv b15, rv b17, rv b19, .unset, .unset, .unset] [(.int ce), (.ref b15)])) rfl (by rw [hml]; rfl) (Steps.refl _) (argsL := [(.int ce)]) (rest := []) (lenOf pd_2 rfl) rfl (by show 2 * 0 + _ ≤ _; exact Nat.le_of_eq rfl) (hb hby at_164) (fun _ _ => ⟨rfl, e23, (by decide : 3 + 0 ≤ _), (by decide : 12 + 0 ≤ _)⟩)
    dsimp only [Pt.U, Pt.locs, Pt.cells, Pt.slots] at X24 l24 y24 z24 st24 hQ24
    subst l24 y24 z24
    obtain ⟨rfl, Nq24, e24⟩ := hQ24
    have N24 := Fr.app N23 Nq24
    refine own_jump (g' := (mkF m 167 #[iv p1, iv p2, iv p3, iv p4, iv p5, iv p6, iv ca, iv cb, iv cd, iv ce, iv (p6 &&& (7 : Int32)), iv qq, rv b15, rv b17, rv b19, .unset, .unset, .unset] [(.int (own_has ce (nar .char ca) (nar .char cb) (nar .char cd) (nar .char ce)))])) st24 ?_
    refine own_st (mkF m 170 #[iv p1, iv p2, iv p3, iv p4, iv p5, iv p6, iv ca, iv cb, iv cd, iv ce, iv (p6 &&& (7 : Int32)), iv qq, rv b15, rv b17, rv b19, .unset, .unset, .unset] []) (fun t k => XS.ifNo X24.here hx rfl (hb hby at_167) rfl ((if0 _ _).trans (feq (own_in _ _ _ _ _ (by simp [hca, hcb, hcd, hce]))).1) k) ?_
    refine own_st (mkF m 171 #[iv p1, iv p2, iv p3, iv p4, iv p5, iv p6, iv ca, iv cb, iv cd, iv ce, iv (p6 &&& (7 : Int32)), iv qq, rv b15, rv b17, rv b19, .unset, .unset, .unset] [(.int (1 : Int32))]) (fun t k => XS.iconst X24.here hx rfl (hb hby at_170) k) ?_
    refine own_st (mkF m 175 #[iv p1, iv p2, iv p3, iv p4, iv p5, iv p6, iv ca, iv cb, iv cd, iv ce, iv (p6 &&& (7 : Int32)), iv qq, rv b15, rv b17, rv b19, .unset, .unset, .unset] [(.int (1 : Int32))]) (fun t k => XS.goto X24.here hx rfl (pc0 := 171) (pc' := 175) rfl (hb hby at_171) (by decide) (by decide) k) ?_
    refine own_st (mkF m 177 #[iv p1, iv p2, iv p3, iv p4, iv p5, iv p6, iv ca, iv cb, iv cd, iv ce, iv (p6 &&& (7 : Int32)), iv qq, rv b15, rv b17, rv b19, iv (1 : Int32), .unset, .unset] []) (fun t k => XS.istore X24.here hx rfl (hb hby at_175) rfl (l' := #[iv p1, iv p2, iv p3, iv p4, iv p5, iv p6, iv ca, iv cb, iv cd, iv ce, iv (p6 &&& (7 : Int32)), iv qq, rv b15, rv b17, rv b19, iv (1 : Int32), .unset, .unset]) rfl k) ?_
    refine own_st (mkF m 179 #[iv p1, iv p2, iv p3, iv p4, iv p5, iv p6, iv ca, iv cb, iv cd, iv ce, iv (p6 &&& (7 : Int32)), iv qq, rv b15, rv b17, rv b19, iv (1 : Int32), .unset, .unset] [(.ref b15)]) (fun t k => XS.aload X24.here hx rfl (hb hby at_177) rfl rfl k) ?_
    refine own_st (mkF m 181 #[iv p1, iv p2, iv p3, iv p4, iv p5, iv p6, iv ca, iv cb, iv cd, iv ce, iv (p6 &&& (7 : Int32)), iv qq, rv b15, rv b17, rv b19, iv (1 : Int32), .unset, .unset] [(.int qq), (.ref b15)]) (fun t k => XS.iload X24.here hx rfl (hb hby at_179) rfl k) ?_
    obtain ⟨cq25, kq25, q25a, q25b, q25c⟩ := isOf hZ e24 f23_Exa_b15
    obtain ⟨_, _, ⟨T25, L25, k25, n25⟩, -, X25, ⟨Lc25, hQ25, l25, y25, z25⟩, st25⟩ := X24.virtualBack hx (y := (⟨"com/example/chargeweave/chargeweave/x12/Delimiters", "contains", "(C)Z"⟩ : MethodName)) (z := (⟨"com/example/chargeweave/chargeweave/x12/Delimiters", "contains", "(C)Z"⟩ : MethodName)) hown (mvT hZ (hw_22 hw)) (mvT hZ (hw_23 hw)) (notFace_of_selects (args := #[]) (mvT hZ (hw_25 hw))) (mvT hZ (hw_25 hw)) (mvT hZ (hw_24 hw)) (by decide) (backOf (W := 0) (own_rm4 l Z a0 hw [] b15 qq (nar .char ca) (nar .char cb) (nar .char cd) (nar .char ce) T20.heap n0 Z20 f24_Fld_b15 f25_Fld_b15 f26_Fld_b15 f27_Fld_b15) hZ (hw_26 hw) (hw_2 hw) (by decide) (by decide)) q25a q25c (g := (mkF m 181 #[iv p1, iv p2, iv p3, iv p4, iv p5, iv p6, iv ca, iv cb, iv cd, iv ce, iv (p6 &&& (7 : Int32)), iv qq, rv b15, rv b17, rv b19, iv (1 : Int32), .unset, .unset] [(.int qq), (.ref b15)])) rfl (by rw [hml]; rfl) (Steps.refl _) (argsL := [(.int qq)]) (rest := []) (lenOf pd_2 rfl) rfl (by show 2 * 0 + _ ≤ _; exact Nat.le_of_eq rfl) (hb hby at_181) (fun _ _ => ⟨rfl, e24, (by decide : 3 + 0 ≤ _), (by decide : 12 + 0 ≤ _)⟩)
    dsimp only [Pt.U, Pt.locs, Pt.cells, Pt.slots] at X25 l25 y25 z25 st25 hQ25
    subst l25 y25 z25
    obtain ⟨rfl, Nq25, e25⟩ := hQ25
    have N25 := Fr.app N24 Nq25
    refine own_jump (g' := (mkF m 184 #[iv p1, iv p2, iv p3, iv p4, iv p5, iv p6, iv ca, iv cb, iv cd, iv ce, iv (p6 &&& (7 : Int32)), iv qq, rv b15, rv b17, rv b19, iv (1 : Int32), .unset, .unset] [(.int (own_has qq (nar .char ca) (nar .char cb) (nar .char cd) (nar .char ce)))])) st25 ?_
    refine own_st (mkF m 186 #[iv p1, iv p2, iv p3, iv p4, iv p5, iv p6, iv ca, iv cb, iv cd, iv ce, iv (p6 &&& (7 : Int32)), iv qq, rv b15, rv b17, rv b19, iv (1 : Int32), .unset, .unset] [(.ref b17), (.int (own_has qq (nar .char ca) (nar .char cb) (nar .char cd) (nar .char ce)))]) (fun t k => XS.aload X25.here hx rfl (hb hby at_184) rfl rfl k) ?_
    refine own_st (mkF m 188 #[iv p1, iv p2, iv p3, iv p4, iv p5, iv p6, iv ca, iv cb, iv cd, iv ce, iv (p6 &&& (7 : Int32)), iv qq, rv b15, rv b17, rv b19, iv (1 : Int32), .unset, .unset] [(.int qq), (.ref b17), (.int (own_has qq (nar .char ca) (nar .char cb) (nar .char cd) (nar .char ce)))]) (fun t k => XS.iload X25.here hx rfl (hb hby at_186) rfl k) ?_
    obtain ⟨cq26, kq26, q26a, q26b, q26c⟩ := isOf hZ e25 f28_Exa_b17
    obtain ⟨_, _, ⟨T26, L26, k26, n26⟩, -, X26, ⟨Lc26, hQ26, l26, y26, z26⟩, st26⟩ := X25.virtualBack hx (y := (⟨"com/example/chargeweave/chargeweave/x12/Delimiters", "contains", "(C)Z"⟩ : MethodName)) (z := (⟨"com/example/chargeweave/chargeweave/x12/Delimiters", "contains", "(C)Z"⟩ : MethodName)) hown (mvT hZ (hw_22 hw)) (mvT hZ (hw_23 hw)) (notFace_of_selects (args := #[]) (mvT hZ (hw_25 hw))) (mvT hZ (hw_25 hw)) (mvT hZ (hw_24 hw)) (by decide) (backOf (W := 1) (own_rm4 l Z a0 hw [] b17 qq (nar .char ce) (nar .char cd) (nar .char cb) (nar .char ca) T20.heap n0 Z20 f29_Fld_b17 f30_Fld_b17 f31_Fld_b17 f32_Fld_b17) hZ (hw_26 hw) (hw_2 hw) (by decide) (by decide)) q26a q26c (g := (mkF m 188 #[iv p1, iv p2, iv p3, iv p4, iv p5, iv p6, iv ca, iv cb, iv cd, iv ce, iv (p6 &&& (7 : Int32)), iv qq, rv b15, rv b17, rv b19, iv (1 : Int32), .unset, .unset] [(.int qq), (.ref b17), (.int (own_has qq (nar .char ca) (nar .char cb) (nar .char cd) (nar .char ce)))])) rfl (by rw [hml]; rfl) (Steps.refl _) (argsL := [(.int qq)]) (rest := [(.int (own_has qq (nar .char ca) (nar .char cb) (nar .char cd) (nar .char ce)))]) (lenOf pd_2 rfl) rfl (by show 2 * 0 + _ ≤ _; exact Nat.le_of_eq rfl) (hb hby at_188) (fun _ _ => ⟨rfl, e25, (by decide : 3 + 0 ≤ _), (by decide : 12 + 0 ≤ _)⟩)
    dsimp only [Pt.U, Pt.locs, Pt.cells, Pt.slots] at X26 l26 y26 z26 st26 hQ26
    subst l26 y26 z26
    obtain ⟨rfl, Nq26, e26⟩ := hQ26
    have N26 := Fr.app N25 Nq26
    refine own_jump (g' := (mkF m 191 #[iv p1, iv p2, iv p3, iv p4, iv p5, iv p6, iv ca, iv cb, iv cd, iv ce, iv (p6 &&& (7 : Int32)), iv qq, rv b15, rv b17, rv b19, iv (1 : Int32), .unset, .unset] [(.int (own_has qq (nar .char ce) (nar .char cd) (nar .char cb) (nar .char ca))), (.int (own_has qq (nar .char ca) (nar .char cb) (nar .char cd) (nar .char ce)))])) st26 ?_
    refine own_st (mkF m 194 #[iv p1, iv p2, iv p3, iv p4, iv p5, iv p6, iv ca, iv cb, iv cd, iv ce, iv (p6 &&& (7 : Int32)), iv qq, rv b15, rv b17, rv b19, iv (1 : Int32), .unset, .unset] []) (fun t k => XS.icmpNo X26.here hx rfl (hb hby at_191) rfl (teq (own_rev _ _ _ _ _)).2 k) ?_
    refine own_st (mkF m 195 #[iv p1, iv p2, iv p3, iv p4, iv p5, iv p6, iv ca, iv cb, iv cd, iv ce, iv (p6 &&& (7 : Int32)), iv qq, rv b15, rv b17, rv b19, iv (1 : Int32), .unset, .unset] [(.int (1 : Int32))]) (fun t k => XS.iconst X26.here hx rfl (hb hby at_194) k) ?_
    refine own_st (mkF m 199 #[iv p1, iv p2, iv p3, iv p4, iv p5, iv p6, iv ca, iv cb, iv cd, iv ce, iv (p6 &&& (7 : Int32)), iv qq, rv b15, rv b17, rv b19, iv (1 : Int32), .unset, .unset] [(.int (1 : Int32))]) (fun t k => XS.goto X26.here hx rfl (pc0 := 195) (pc' := 199) rfl (hb hby at_195) (by decide) (by decide) k) ?_
    refine own_st (mkF m 201 #[iv p1, iv p2, iv p3, iv p4, iv p5, iv p6, iv ca, iv cb, iv cd, iv ce, iv (p6 &&& (7 : Int32)), iv qq, rv b15, rv b17, rv b19, iv (1 : Int32), iv (1 : Int32), .unset] []) (fun t k => XS.istore X26.here hx rfl (hb hby at_199) rfl (l' := #[iv p1, iv p2, iv p3, iv p4, iv p5, iv p6, iv ca, iv cb, iv cd, iv ce, iv (p6 &&& (7 : Int32)), iv qq, rv b15, rv b17, rv b19, iv (1 : Int32), iv (1 : Int32), .unset]) rfl k) ?_
    refine own_st (mkF m 203 #[iv p1, iv p2, iv p3, iv p4, iv p5, iv p6, iv ca, iv cb, iv cd, iv ce, iv (p6 &&& (7 : Int32)), iv qq, rv b15, rv b17, rv b19, iv (1 : Int32), iv (1 : Int32), .unset] [(.ref b19)]) (fun t k => XS.aload X26.here hx rfl (hb hby at_201) rfl rfl k) ?_
    refine own_st (mkF m 205 #[iv p1, iv p2, iv p3, iv p4, iv p5, iv p6, iv ca, iv cb, iv cd, iv ce, iv (p6 &&& (7 : Int32)), iv qq, rv b15, rv b17, rv b19, iv (1 : Int32), iv (1 : Int32), .unset] [(.int qq), (.ref b19)]) (fun t k => XS.iload X26.here hx rfl (hb hby at_203) rfl k) ?_
    obtain ⟨cq27, kq27, q27a, q27b, q27c⟩ := isOf hZ e26 Ex20
    obtain ⟨_, _, ⟨T27, L27, k27, n27⟩, -, X27, ⟨Lc27, hQ27, l27, y27, z27⟩, st27⟩ := X26.virtualBack hx (y := (⟨"com/example/chargeweave/chargeweave/x12/Delimiters", "contains", "(C)Z"⟩ : MethodName)) (z := (⟨"com/example/chargeweave/chargeweave/x12/Delimiters", "contains", "(C)Z"⟩ : MethodName)) hown (mvT hZ (hw_22 hw)) (mvT hZ (hw_23 hw)) (notFace_of_selects (args := #[]) (mvT hZ (hw_25 hw))) (mvT hZ (hw_25 hw)) (mvT hZ (hw_24 hw)) (by decide) (backOf (W := 0) (own_rm4 l Z a0 hw [] b19 qq (nar .char ca) (nar .char ca) (nar .char ca) (nar .char ca) T20.heap n0 Z20 Fl20_element Fl20_repetition Fl20_component Fl20_segment) hZ (hw_26 hw) (hw_2 hw) (by decide) (by decide)) q27a q27c (g := (mkF m 205 #[iv p1, iv p2, iv p3, iv p4, iv p5, iv p6, iv ca, iv cb, iv cd, iv ce, iv (p6 &&& (7 : Int32)), iv qq, rv b15, rv b17, rv b19, iv (1 : Int32), iv (1 : Int32), .unset] [(.int qq), (.ref b19)])) rfl (by rw [hml]; rfl) (Steps.refl _) (argsL := [(.int qq)]) (rest := []) (lenOf pd_2 rfl) rfl (by show 2 * 0 + _ ≤ _; exact Nat.le_of_eq rfl) (hb hby at_205) (fun _ _ => ⟨rfl, e26, (by decide : 3 + 0 ≤ _), (by decide : 12 + 0 ≤ _)⟩)
    dsimp only [Pt.U, Pt.locs, Pt.cells, Pt.slots] at X27 l27 y27 z27 st27 hQ27
    subst l27 y27 z27
    obtain ⟨rfl, Nq27, e27⟩ := hQ27
    have N27 := Fr.app N26 Nq27
    refine own_jump (g' := (mkF m 208 #[iv p1, iv p2, iv p3, iv p4, iv p5, iv p6, iv ca, iv cb, iv cd, iv ce, iv (p6 &&& (7 : Int32)), iv qq, rv b15, rv b17, rv b19, iv (1 : Int32), iv (1 : Int32), .unset] [(.int (own_has qq (nar .char ca) (nar .char ca) (nar .char ca) (nar .char ca)))])) st27 ?_
    refine own_st (mkF m 210 #[iv p1, iv p2, iv p3, iv p4, iv p5, iv p6, iv ca, iv cb, iv cd, iv ce, iv (p6 &&& (7 : Int32)), iv qq, rv b15, rv b17, rv b19, iv (1 : Int32), iv (1 : Int32), .unset] [(.int qq), (.int (own_has qq (nar .char ca) (nar .char ca) (nar .char ca) (nar .char ca)))]) (fun t k => XS.iload X27.here hx rfl (hb hby at_208) rfl k) ?_
    refine own_st (mkF m 212 #[iv p1, iv p2, iv p3, iv p4, iv p5, iv p6, iv ca, iv cb, iv cd, iv ce, iv (p6 &&& (7 : Int32)), iv qq, rv b15, rv b17, rv b19, iv (1 : Int32), iv (1 : Int32), .unset] [(.int ca), (.int qq), (.int (own_has qq (nar .char ca) (nar .char ca) (nar .char ca) (nar .char ca)))]) (fun t k => XS.iload X27.here hx rfl (hb hby at_210) rfl k) ?_
    by_cases hc28 : qq = ca
    · refine own_st (mkF m 215 #[iv p1, iv p2, iv p3, iv p4, iv p5, iv p6, iv ca, iv cb, iv cd, iv ce, iv (p6 &&& (7 : Int32)), iv qq, rv b15, rv b17, rv b19, iv (1 : Int32), iv (1 : Int32), .unset] [(.int (own_has qq (nar .char ca) (nar .char ca) (nar .char ca) (nar .char ca)))]) (fun t k => XS.icmpNo X27.here hx rfl (hb hby at_212) rfl (teq hc28).2 k) ?_
      refine own_st (mkF m 216 #[iv p1, iv p2, iv p3, iv p4, iv p5, iv p6, iv ca, iv cb, iv cd, iv ce, iv (p6 &&& (7 : Int32)), iv qq, rv b15, rv b17, rv b19, iv (1 : Int32), iv (1 : Int32), .unset] [(.int (1 : Int32)), (.int (own_has qq (nar .char ca) (nar .char ca) (nar .char ca) (nar .char ca)))]) (fun t k => XS.iconst X27.here hx rfl (hb hby at_215) k) ?_
      refine own_st (mkF m 220 #[iv p1, iv p2, iv p3, iv p4, iv p5, iv p6, iv ca, iv cb, iv cd, iv ce, iv (p6 &&& (7 : Int32)), iv qq, rv b15, rv b17, rv b19, iv (1 : Int32), iv (1 : Int32), .unset] [(.int (1 : Int32)), (.int (own_has qq (nar .char ca) (nar .char ca) (nar .char ca) (nar .char ca)))]) (fun t k => XS.goto X27.here hx rfl (pc0 := 216) (pc' := 220) rfl (hb hby at_216) (by decide) (by decide) k) ?_
      refine own_st (mkF m 223 #[iv p1, iv p2, iv p3, iv p4, iv p5, iv p6, iv ca, iv cb, iv cd, iv ce, iv (p6 &&& (7 : Int32)), iv qq, rv b15, rv b17, rv b19, iv (1 : Int32), iv (1 : Int32), .unset] []) (fun t k => XS.icmpNo X27.here hx rfl (hb hby at_220) rfl (teq (by simp [own_has, hca, hcb, hcd, hce, hc28])).2 k) ?_
      refine own_st (mkF m 224 #[iv p1, iv p2, iv p3, iv p4, iv p5, iv p6, iv ca, iv cb, iv cd, iv ce, iv (p6 &&& (7 : Int32)), iv qq, rv b15, rv b17, rv b19, iv (1 : Int32), iv (1 : Int32), .unset] [(.int (1 : Int32))]) (fun t k => XS.iconst X27.here hx rfl (hb hby at_223) k) ?_
      refine own_st (mkF m 228 #[iv p1, iv p2, iv p3, iv p4, iv p5, iv p6, iv ca, iv cb, iv cd, iv ce, iv (p6 &&& (7 : Int32)), iv qq, rv b15, rv b17, rv b19, iv (1 : Int32), iv (1 : Int32), .unset] [(.int (1 : Int32))]) (fun t k => XS.goto X27.here hx rfl (pc0 := 224) (pc' := 228) rfl (hb hby at_224) (by decide) (by decide) k) ?_
      refine own_st (mkF m 230 #[iv p1, iv p2, iv p3, iv p4, iv p5, iv p6, iv ca, iv cb, iv cd, iv ce, iv (p6 &&& (7 : Int32)), iv qq, rv b15, rv b17, rv b19, iv (1 : Int32), iv (1 : Int32), iv (1 : Int32)] []) (fun t k => XS.istore X27.here hx rfl (hb hby at_228) rfl (l' := #[iv p1, iv p2, iv p3, iv p4, iv p5, iv p6, iv ca, iv cb, iv cd, iv ce, iv (p6 &&& (7 : Int32)), iv qq, rv b15, rv b17, rv b19, iv (1 : Int32), iv (1 : Int32), iv (1 : Int32)]) rfl k) ?_
      refine own_st (mkF m 232 #[iv p1, iv p2, iv p3, iv p4, iv p5, iv p6, iv ca, iv cb, iv cd, iv ce, iv (p6 &&& (7 : Int32)), iv qq, rv b15, rv b17, rv b19, iv (1 : Int32), iv (1 : Int32), iv (1 : Int32)] [(.int (1 : Int32))]) (fun t k => XS.iload X27.here hx rfl (hb hby at_230) rfl k) ?_
      refine own_st (mkF m 235 #[iv p1, iv p2, iv p3, iv p4, iv p5, iv p6, iv ca, iv cb, iv cd, iv ce, iv (p6 &&& (7 : Int32)), iv qq, rv b15, rv b17, rv b19, iv (1 : Int32), iv (1 : Int32), iv (1 : Int32)] []) (fun t k => XS.ifNo X27.here hx rfl (hb hby at_232) rfl ((if0 _ _).trans (feq (by decide : ¬ ((1 : Int32) = (0 : Int32)))).1) k) ?_
      refine own_st (mkF m 237 #[iv p1, iv p2, iv p3, iv p4, iv p5, iv p6, iv ca, iv cb, iv cd, iv ce, iv (p6 &&& (7 : Int32)), iv qq, rv b15, rv b17, rv b19, iv (1 : Int32), iv (1 : Int32), iv (1 : Int32)] [(.int (1 : Int32))]) (fun t k => XS.iload X27.here hx rfl (hb hby at_235) rfl k) ?_
      refine own_st (mkF m 240 #[iv p1, iv p2, iv p3, iv p4, iv p5, iv p6, iv ca, iv cb, iv cd, iv ce, iv (p6 &&& (7 : Int32)), iv qq, rv b15, rv b17, rv b19, iv (1 : Int32), iv (1 : Int32), iv (1 : Int32)] []) (fun t k => XS.ifNo X27.here hx rfl (hb hby at_237) rfl ((if0 _ _).trans (feq (by decide : ¬ ((1 : Int32) = (0 : Int32)))).1) k) ?_
      refine own_st (mkF m 242 #[iv p1, iv p2, iv p3, iv p4, iv p5, iv p6, iv ca, iv cb, iv cd, iv ce, iv (p6 &&& (7 : Int32)), iv qq, rv b15, rv b17, rv b19, iv (1 : Int32), iv (1 : Int32), iv (1 : Int32)] [(.int (1 : Int32))]) (fun t k => XS.iload X27.here hx rfl (hb hby at_240) rfl k) ?_
      refine own_st (mkF m 245 #[iv p1, iv p2, iv p3, iv p4, iv p5, iv p6, iv ca, iv cb, iv cd, iv ce, iv (p6 &&& (7 : Int32)), iv qq, rv b15, rv b17, rv b19, iv (1 : Int32), iv (1 : Int32), iv (1 : Int32)] []) (fun t k => XS.ifNo X27.here hx rfl (hb hby at_242) rfl ((if0 _ _).trans (feq (by decide : ¬ ((1 : Int32) = (0 : Int32)))).1) k) ?_
      refine own_st (mkF m 246 #[iv p1, iv p2, iv p3, iv p4, iv p5, iv p6, iv ca, iv cb, iv cd, iv ce, iv (p6 &&& (7 : Int32)), iv qq, rv b15, rv b17, rv b19, iv (1 : Int32), iv (1 : Int32), iv (1 : Int32)] [(.int (1 : Int32))]) (fun t k => XS.iconst X27.here hx rfl (hb hby at_245) k) ?_
      refine own_st (mkF m 250 #[iv p1, iv p2, iv p3, iv p4, iv p5, iv p6, iv ca, iv cb, iv cd, iv ce, iv (p6 &&& (7 : Int32)), iv qq, rv b15, rv b17, rv b19, iv (1 : Int32), iv (1 : Int32), iv (1 : Int32)] [(.int (1 : Int32))]) (fun t k => XS.goto X27.here hx rfl (pc0 := 246) (pc' := 250) rfl (hb hby at_246) (by decide) (by decide) k) ?_
      refine own_ret X27 hlk (v := some (.int (1 : Int32))) (fun h => by rw [hret] at h; cases h) (fun fs hr => retN X27 hx (t := .boolean) hret (by simp) (hb hby at_250) hr) ?_ (by decide) (by decide)
      show own_Q0 Z p1 p2 p3 p4 p5 p6 h0 n0 _ T27.heap _
      rw [e27]
      exact ⟨rfl, N27⟩
    · refine own_st (mkF m 219 #[iv p1, iv p2, iv p3, iv p4, iv p5, iv p6, iv ca, iv cb, iv cd, iv ce, iv (p6 &&& (7 : Int32)), iv qq, rv b15, rv b17, rv b19, iv (1 : Int32), iv (1 : Int32), .unset] [(.int (own_has qq (nar .char ca) (nar .char ca) (nar .char ca) (nar .char ca)))]) (fun t k => XS.icmpYes X27.here hx rfl (pc0 := 212) (pc' := 219) rfl (hb hby at_212) rfl (feq hc28).2 (by decide) (by decide) k) ?_
      refine own_st (mkF m 220 #[iv p1, iv p2, iv p3, iv p4, iv p5, iv p6, iv ca, iv cb, iv cd, iv ce, iv (p6 &&& (7 : Int32)), iv qq, rv b15, rv b17, rv b19, iv (1 : Int32), iv (1 : Int32), .unset] [(.int (0 : Int32)), (.int (own_has qq (nar .char ca) (nar .char ca) (nar .char ca) (nar .char ca)))]) (fun t k => XS.iconst X27.here hx rfl (hb hby at_219) k) ?_
      refine own_st (mkF m 223 #[iv p1, iv p2, iv p3, iv p4, iv p5, iv p6, iv ca, iv cb, iv cd, iv ce, iv (p6 &&& (7 : Int32)), iv qq, rv b15, rv b17, rv b19, iv (1 : Int32), iv (1 : Int32), .unset] []) (fun t k => XS.icmpNo X27.here hx rfl (hb hby at_220) rfl (teq (by simp [own_has, hca, hcb, hcd, hce, hc28])).2 k) ?_
      refine own_st (mkF m 224 #[iv p1, iv p2, iv p3, iv p4, iv p5, iv p6, iv ca, iv cb, iv cd, iv ce, iv (p6 &&& (7 : Int32)), iv qq, rv b15, rv b17, rv b19, iv (1 : Int32), iv (1 : Int32), .unset] [(.int (1 : Int32))]) (fun t k => XS.iconst X27.here hx rfl (hb hby at_223) k) ?_
      refine own_st (mkF m 228 #[iv p1, iv p2, iv p3, iv p4, iv p5, iv p6, iv ca, iv cb, iv cd, iv ce, iv (p6 &&& (7 : Int32)), iv qq, rv b15, rv b17, rv b19, iv (1 : Int32), iv (1 : Int32), .unset] [(.int (1 : Int32))]) (fun t k => XS.goto X27.here hx rfl (pc0 := 224) (pc' := 228) rfl (hb hby at_224) (by decide) (by decide) k) ?_
      refine own_st (mkF m 230 #[iv p1, iv p2, iv p3, iv p4, iv p5, iv p6, iv ca, iv cb, iv cd, iv ce, iv (p6 &&& (7 : Int32)), iv qq, rv b15, rv b17, rv b19, iv (1 : Int32), iv (1 : Int32), iv (1 : Int32)] []) (fun t k => XS.istore X27.here hx rfl (hb hby at_228) rfl (l' := #[iv p1, iv p2, iv p3, iv p4, iv p5, iv p6, iv ca, iv cb, iv cd, iv ce, iv (p6 &&& (7 : Int32)), iv qq, rv b15, rv b17, rv b19, iv (1 : Int32), iv (1 : Int32), iv (1 : Int32)]) rfl k) ?_
      refine own_st (mkF m 232 #[iv p1, iv p2, iv p3, iv p4, iv p5, iv p6, iv ca, iv cb, iv cd, iv ce, iv (p6 &&& (7 : Int32)), iv qq, rv b15, rv b17, rv b19, iv (1 : Int32), iv (1 : Int32), iv (1 : Int32)] [(.int (1 : Int32))]) (fun t k => XS.iload X27.here hx rfl (hb hby at_230) rfl k) ?_
      refine own_st (mkF m 235 #[iv p1, iv p2, iv p3, iv p4, iv p5, iv p6, iv ca, iv cb, iv cd, iv ce, iv (p6 &&& (7 : Int32)), iv qq, rv b15, rv b17, rv b19, iv (1 : Int32), iv (1 : Int32), iv (1 : Int32)] []) (fun t k => XS.ifNo X27.here hx rfl (hb hby at_232) rfl ((if0 _ _).trans (feq (by decide : ¬ ((1 : Int32) = (0 : Int32)))).1) k) ?_
      refine own_st (mkF m 237 #[iv p1, iv p2, iv p3, iv p4, iv p5, iv p6, iv ca, iv cb, iv cd, iv ce, iv (p6 &&& (7 : Int32)), iv qq, rv b15, rv b17, rv b19, iv (1 : Int32), iv (1 : Int32), iv (1 : Int32)] [(.int (1 : Int32))]) (fun t k => XS.iload X27.here hx rfl (hb hby at_235) rfl k) ?_
      refine own_st (mkF m 240 #[iv p1, iv p2, iv p3, iv p4, iv p5, iv p6, iv ca, iv cb, iv cd, iv ce, iv (p6 &&& (7 : Int32)), iv qq, rv b15, rv b17, rv b19, iv (1 : Int32), iv (1 : Int32), iv (1 : Int32)] []) (fun t k => XS.ifNo X27.here hx rfl (hb hby at_237) rfl ((if0 _ _).trans (feq (by decide : ¬ ((1 : Int32) = (0 : Int32)))).1) k) ?_
      refine own_st (mkF m 242 #[iv p1, iv p2, iv p3, iv p4, iv p5, iv p6, iv ca, iv cb, iv cd, iv ce, iv (p6 &&& (7 : Int32)), iv qq, rv b15, rv b17, rv b19, iv (1 : Int32), iv (1 : Int32), iv (1 : Int32)] [(.int (1 : Int32))]) (fun t k => XS.iload X27.here hx rfl (hb hby at_240) rfl k) ?_
      refine own_st (mkF m 245 #[iv p1, iv p2, iv p3, iv p4, iv p5, iv p6, iv ca, iv cb, iv cd, iv ce, iv (p6 &&& (7 : Int32)), iv qq, rv b15, rv b17, rv b19, iv (1 : Int32), iv (1 : Int32), iv (1 : Int32)] []) (fun t k => XS.ifNo X27.here hx rfl (hb hby at_242) rfl ((if0 _ _).trans (feq (by decide : ¬ ((1 : Int32) = (0 : Int32)))).1) k) ?_
      refine own_st (mkF m 246 #[iv p1, iv p2, iv p3, iv p4, iv p5, iv p6, iv ca, iv cb, iv cd, iv ce, iv (p6 &&& (7 : Int32)), iv qq, rv b15, rv b17, rv b19, iv (1 : Int32), iv (1 : Int32), iv (1 : Int32)] [(.int (1 : Int32))]) (fun t k => XS.iconst X27.here hx rfl (hb hby at_245) k) ?_
      refine own_st (mkF m 250 #[iv p1, iv p2, iv p3, iv p4, iv p5, iv p6, iv ca, iv cb, iv cd, iv ce, iv (p6 &&& (7 : Int32)), iv qq, rv b15, rv b17, rv b19, iv (1 : Int32), iv (1 : Int32), iv (1 : Int32)] [(.int (1 : Int32))]) (fun t k => XS.goto X27.here hx rfl (pc0 := 246) (pc' := 250) rfl (hb hby at_246) (by decide) (by decide) k) ?_
      refine own_ret X27 hlk (v := some (.int (1 : Int32))) (fun h => by rw [hret] at h; cases h) (fun fs hr => retN X27 hx (t := .boolean) hret (by simp) (hb hby at_250) hr) ?_ (by decide) (by decide)
      show own_Q0 Z p1 p2 p3 p4 p5 p6 h0 n0 _ T27.heap _
      rw [e27]
      exact ⟨rfl, N27⟩
  refine own_st (mkF m 25 #[iv p1, iv p2, iv p3, iv p4, iv p5, iv p6, iv ca, iv cb, iv cd, iv ce, iv (p6 &&& (7 : Int32)), .unset, .unset, .unset, .unset, .unset, .unset, .unset] [(.int (p6 &&& (7 : Int32)))]) (fun t k => XS.iload X0.here hx rfl (hb hby at_23) rfl k) ?_
  by_cases hc29 : (p6 &&& (7 : Int32)) = (0 : Int32)
  · refine own_st (mkF m 28 #[iv p1, iv p2, iv p3, iv p4, iv p5, iv p6, iv ca, iv cb, iv cd, iv ce, iv (p6 &&& (7 : Int32)), .unset, .unset, .unset, .unset, .unset, .unset, .unset] []) (fun t k => XS.ifNo X0.here hx rfl (hb hby at_25) rfl ((if0 _ _).trans (teq hc29).2) k) ?_
    refine own_st (mkF m 30 #[iv p1, iv p2, iv p3, iv p4, iv p5, iv p6, iv ca, iv cb, iv cd, iv ce, iv (p6 &&& (7 : Int32)), .unset, .unset, .unset, .unset, .unset, .unset, .unset] [(.int ca)]) (fun t k => XS.iload X0.here hx rfl (hb hby at_28) rfl k) ?_
    refine own_st (mkF m 32 #[iv p1, iv p2, iv p3, iv p4, iv p5, iv p6, iv ca, iv cb, iv cd, iv ce, iv (p6 &&& (7 : Int32)), iv ca, .unset, .unset, .unset, .unset, .unset, .unset] []) (fun t k => XS.istore X0.here hx rfl (hb hby at_30) rfl (l' := #[iv p1, iv p2, iv p3, iv p4, iv p5, iv p6, iv ca, iv cb, iv cd, iv ce, iv (p6 &&& (7 : Int32)), iv ca, .unset, .unset, .unset, .unset, .unset, .unset]) rfl k) ?_
    refine own_st (mkF m 79 #[iv p1, iv p2, iv p3, iv p4, iv p5, iv p6, iv ca, iv cb, iv cd, iv ce, iv (p6 &&& (7 : Int32)), iv ca, .unset, .unset, .unset, .unset, .unset, .unset] []) (fun t k => XS.goto X0.here hx rfl (pc0 := 32) (pc' := 79) rfl (hb hby at_32) (by decide) (by decide) k) ?_
    exact J79 ca
  · refine own_st (mkF m 35 #[iv p1, iv p2, iv p3, iv p4, iv p5, iv p6, iv ca, iv cb, iv cd, iv ce, iv (p6 &&& (7 : Int32)), .unset, .unset, .unset, .unset, .unset, .unset, .unset] []) (fun t k => XS.ifYes X0.here hx rfl (pc0 := 25) (pc' := 35) rfl (hb hby at_25) rfl ((if0 _ _).trans (feq hc29).2) (by decide) (by decide) k) ?_
    refine own_st (mkF m 37 #[iv p1, iv p2, iv p3, iv p4, iv p5, iv p6, iv ca, iv cb, iv cd, iv ce, iv (p6 &&& (7 : Int32)), .unset, .unset, .unset, .unset, .unset, .unset, .unset] [(.int (p6 &&& (7 : Int32)))]) (fun t k => XS.iload X0.here hx rfl (hb hby at_35) rfl k) ?_
    refine own_st (mkF m 38 #[iv p1, iv p2, iv p3, iv p4, iv p5, iv p6, iv ca, iv cb, iv cd, iv ce, iv (p6 &&& (7 : Int32)), .unset, .unset, .unset, .unset, .unset, .unset, .unset] [(.int (1 : Int32)), (.int (p6 &&& (7 : Int32)))]) (fun t k => XS.iconst X0.here hx rfl (hb hby at_37) k) ?_
    by_cases hc30 : (p6 &&& (7 : Int32)) = (1 : Int32)
    · refine own_st (mkF m 41 #[iv p1, iv p2, iv p3, iv p4, iv p5, iv p6, iv ca, iv cb, iv cd, iv ce, iv (p6 &&& (7 : Int32)), .unset, .unset, .unset, .unset, .unset, .unset, .unset] []) (fun t k => XS.icmpNo X0.here hx rfl (hb hby at_38) rfl (teq hc30).2 k) ?_
      refine own_st (mkF m 43 #[iv p1, iv p2, iv p3, iv p4, iv p5, iv p6, iv ca, iv cb, iv cd, iv ce, iv (p6 &&& (7 : Int32)), .unset, .unset, .unset, .unset, .unset, .unset, .unset] [(.int cb)]) (fun t k => XS.iload X0.here hx rfl (hb hby at_41) rfl k) ?_
      refine own_st (mkF m 45 #[iv p1, iv p2, iv p3, iv p4, iv p5, iv p6, iv ca, iv cb, iv cd, iv ce, iv (p6 &&& (7 : Int32)), iv cb, .unset, .unset, .unset, .unset, .unset, .unset] []) (fun t k => XS.istore X0.here hx rfl (hb hby at_43) rfl (l' := #[iv p1, iv p2, iv p3, iv p4, iv p5, iv p6, iv ca, iv cb, iv cd, iv ce, iv (p6 &&& (7 : Int32)), iv cb, .unset, .unset, .unset, .unset, .unset, .unset]) rfl k) ?_
      refine own_st (mkF m 79 #[iv p1, iv p2, iv p3, iv p4, iv p5, iv p6, iv ca, iv cb, iv cd, iv ce, iv (p6 &&& (7 : Int32)), iv cb, .unset, .unset, .unset, .unset, .unset, .unset] []) (fun t k => XS.goto X0.here hx rfl (pc0 := 45) (pc' := 79) rfl (hb hby at_45) (by decide) (by decide) k) ?_
      exact J79 cb
    · refine own_st (mkF m 48 #[iv p1, iv p2, iv p3, iv p4, iv p5, iv p6, iv ca, iv cb, iv cd, iv ce, iv (p6 &&& (7 : Int32)), .unset, .unset, .unset, .unset, .unset, .unset, .unset] []) (fun t k => XS.icmpYes X0.here hx rfl (pc0 := 38) (pc' := 48) rfl (hb hby at_38) rfl (feq hc30).2 (by decide) (by decide) k) ?_
      refine own_st (mkF m 50 #[iv p1, iv p2, iv p3, iv p4, iv p5, iv p6, iv ca, iv cb, iv cd, iv ce, iv (p6 &&& (7 : Int32)), .unset, .unset, .unset, .unset, .unset, .unset, .unset] [(.int (p6 &&& (7 : Int32)))]) (fun t k => XS.iload X0.here hx rfl (hb hby at_48) rfl k) ?_
      refine own_st (mkF m 51 #[iv p1, iv p2, iv p3, iv p4, iv p5, iv p6, iv ca, iv cb, iv cd, iv ce, iv (p6 &&& (7 : Int32)), .unset, .unset, .unset, .unset, .unset, .unset, .unset] [(.int (2 : Int32)), (.int (p6 &&& (7 : Int32)))]) (fun t k => XS.iconst X0.here hx rfl (hb hby at_50) k) ?_
      by_cases hc31 : (p6 &&& (7 : Int32)) = (2 : Int32)
      · refine own_st (mkF m 54 #[iv p1, iv p2, iv p3, iv p4, iv p5, iv p6, iv ca, iv cb, iv cd, iv ce, iv (p6 &&& (7 : Int32)), .unset, .unset, .unset, .unset, .unset, .unset, .unset] []) (fun t k => XS.icmpNo X0.here hx rfl (hb hby at_51) rfl (teq hc31).2 k) ?_
        refine own_st (mkF m 56 #[iv p1, iv p2, iv p3, iv p4, iv p5, iv p6, iv ca, iv cb, iv cd, iv ce, iv (p6 &&& (7 : Int32)), .unset, .unset, .unset, .unset, .unset, .unset, .unset] [(.int cd)]) (fun t k => XS.iload X0.here hx rfl (hb hby at_54) rfl k) ?_
        refine own_st (mkF m 58 #[iv p1, iv p2, iv p3, iv p4, iv p5, iv p6, iv ca, iv cb, iv cd, iv ce, iv (p6 &&& (7 : Int32)), iv cd, .unset, .unset, .unset, .unset, .unset, .unset] []) (fun t k => XS.istore X0.here hx rfl (hb hby at_56) rfl (l' := #[iv p1, iv p2, iv p3, iv p4, iv p5, iv p6, iv ca, iv cb, iv cd, iv ce, iv (p6 &&& (7 : Int32)), iv cd, .unset, .unset, .unset, .unset, .unset, .unset]) rfl k) ?_
        refine own_st (mkF m 79 #[iv p1, iv p2, iv p3, iv p4, iv p5, iv p6, iv ca, iv cb, iv cd, iv ce, iv (p6 &&& (7 : Int32)), iv cd, .unset, .unset, .unset, .unset, .unset, .unset] []) (fun t k => XS.goto X0.here hx rfl (pc0 := 58) (pc' := 79) rfl (hb hby at_58) (by decide) (by decide) k) ?_
        exact J79 cd
      · refine own_st (mkF m 61 #[iv p1, iv p2, iv p3, iv p4, iv p5, iv p6, iv ca, iv cb, iv cd, iv ce, iv (p6 &&& (7 : Int32)), .unset, .unset, .unset, .unset, .unset, .unset, .unset] []) (fun t k => XS.icmpYes X0.here hx rfl (pc0 := 51) (pc' := 61) rfl (hb hby at_51) rfl (feq hc31).2 (by decide) (by decide) k) ?_
        refine own_st (mkF m 63 #[iv p1, iv p2, iv p3, iv p4, iv p5, iv p6, iv ca, iv cb, iv cd, iv ce, iv (p6 &&& (7 : Int32)), .unset, .unset, .unset, .unset, .unset, .unset, .unset] [(.int (p6 &&& (7 : Int32)))]) (fun t k => XS.iload X0.here hx rfl (hb hby at_61) rfl k) ?_
        refine own_st (mkF m 64 #[iv p1, iv p2, iv p3, iv p4, iv p5, iv p6, iv ca, iv cb, iv cd, iv ce, iv (p6 &&& (7 : Int32)), .unset, .unset, .unset, .unset, .unset, .unset, .unset] [(.int (3 : Int32)), (.int (p6 &&& (7 : Int32)))]) (fun t k => XS.iconst X0.here hx rfl (hb hby at_63) k) ?_
        by_cases hc32 : (p6 &&& (7 : Int32)) = (3 : Int32)
        · refine own_st (mkF m 67 #[iv p1, iv p2, iv p3, iv p4, iv p5, iv p6, iv ca, iv cb, iv cd, iv ce, iv (p6 &&& (7 : Int32)), .unset, .unset, .unset, .unset, .unset, .unset, .unset] []) (fun t k => XS.icmpNo X0.here hx rfl (hb hby at_64) rfl (teq hc32).2 k) ?_
          refine own_st (mkF m 69 #[iv p1, iv p2, iv p3, iv p4, iv p5, iv p6, iv ca, iv cb, iv cd, iv ce, iv (p6 &&& (7 : Int32)), .unset, .unset, .unset, .unset, .unset, .unset, .unset] [(.int ce)]) (fun t k => XS.iload X0.here hx rfl (hb hby at_67) rfl k) ?_
          refine own_st (mkF m 71 #[iv p1, iv p2, iv p3, iv p4, iv p5, iv p6, iv ca, iv cb, iv cd, iv ce, iv (p6 &&& (7 : Int32)), iv ce, .unset, .unset, .unset, .unset, .unset, .unset] []) (fun t k => XS.istore X0.here hx rfl (hb hby at_69) rfl (l' := #[iv p1, iv p2, iv p3, iv p4, iv p5, iv p6, iv ca, iv cb, iv cd, iv ce, iv (p6 &&& (7 : Int32)), iv ce, .unset, .unset, .unset, .unset, .unset, .unset]) rfl k) ?_
          refine own_st (mkF m 79 #[iv p1, iv p2, iv p3, iv p4, iv p5, iv p6, iv ca, iv cb, iv cd, iv ce, iv (p6 &&& (7 : Int32)), iv ce, .unset, .unset, .unset, .unset, .unset, .unset] []) (fun t k => XS.goto X0.here hx rfl (pc0 := 71) (pc' := 79) rfl (hb hby at_71) (by decide) (by decide) k) ?_
          exact J79 ce
        · refine own_st (mkF m 74 #[iv p1, iv p2, iv p3, iv p4, iv p5, iv p6, iv ca, iv cb, iv cd, iv ce, iv (p6 &&& (7 : Int32)), .unset, .unset, .unset, .unset, .unset, .unset, .unset] []) (fun t k => XS.icmpYes X0.here hx rfl (pc0 := 64) (pc' := 74) rfl (hb hby at_64) rfl (feq hc32).2 (by decide) (by decide) k) ?_
          refine own_st (mkF m 76 #[iv p1, iv p2, iv p3, iv p4, iv p5, iv p6, iv ca, iv cb, iv cd, iv ce, iv (p6 &&& (7 : Int32)), .unset, .unset, .unset, .unset, .unset, .unset, .unset] [(.int p5)]) (fun t k => XS.iload X0.here hx rfl (hb hby at_74) rfl k) ?_
          refine own_st (mkF m 77 #[iv p1, iv p2, iv p3, iv p4, iv p5, iv p6, iv ca, iv cb, iv cd, iv ce, iv (p6 &&& (7 : Int32)), .unset, .unset, .unset, .unset, .unset, .unset, .unset] [(.int (p5.toUInt32.toUInt16.toUInt32.toInt32))]) (fun t k => XS.i2c X0.here hx rfl (hb hby at_76) rfl k) ?_
          refine own_st (mkF m 79 #[iv p1, iv p2, iv p3, iv p4, iv p5, iv p6, iv ca, iv cb, iv cd, iv ce, iv (p6 &&& (7 : Int32)), iv (p5.toUInt32.toUInt16.toUInt32.toInt32), .unset, .unset, .unset, .unset, .unset, .unset] []) (fun t k => XS.istore X0.here hx rfl (hb hby at_77) rfl (l' := #[iv p1, iv p2, iv p3, iv p4, iv p5, iv p6, iv ca, iv cb, iv cd, iv ce, iv (p6 &&& (7 : Int32)), iv (p5.toUInt32.toUInt16.toUInt32.toInt32), .unset, .unset, .unset, .unset, .unset, .unset]) rfl k) ?_
          exact J79 (p5.toUInt32.toUInt16.toUInt32.toInt32)
set_option maxRecDepth 65536 in
set_option maxHeartbeats 40000000 in
theorem own_comes {Post : Tables → Env → Array Value → State → Outcome → State → Prop} (hpost : ∀ tb e args s v u, (limb_1_1.after args s (.returned v) u = true ∧ limb_1_2.after args s (.returned v) u = true ∧ True) → FrameEnd s (.returned v) u (Jvm.fieldLocs frame_1_writes args s ++ Jvm.arrayLocs frame_1_arrays args s ++ Jvm.staticLocs frame_1_statics s) 16 128 → Post tb e args s (.returned v) u) :
    ArmFor flags0 classFile x code maxLocals ret World_1 tables_1 room_1 Calls_1 rest_1 Pre_1 Post := by
  intro l hfl _ _ p e ha hc hk s m args below hf hA hF happ hP
  obtain ⟨hcalls, hrest, hpre⟩ := hP
  obtain ⟨-, -, -, hnamed, -, -, -, hat⟩ := (Spec.applies_iff hf).mp happ
  obtain ⟨hg, hn⟩ := and_e (Cond.before_iff.mp (show (Jvm.Cond.and given_1 narrow_1).before args s = true from hpre))
  obtain ⟨hcnt, hg0⟩ := and_e hg
  obtain ⟨ha0, hg1⟩ := and_e hg0
  obtain ⟨ha1, hg2⟩ := and_e hg1
  obtain ⟨ha2, hg3⟩ := and_e hg2
  obtain ⟨ha3, hg4⟩ := and_e hg3
  obtain ⟨ha4, hg5⟩ := and_e hg4
  obtain ⟨w0, w1, w2, w3, w4, w5, rfl⟩ : ∃ w0 w1 w2 w3 w4 w5 : Value, args = #[w0, w1, w2, w3, w4, w5] := by
    have hs : args.size = 6 := by simpa [Cond.value, given_1] using hcnt
    obtain ⟨L⟩ := args
    match L, hs with
    | [w0, w1, w2, w3, w4, w5], _ => exact ⟨w0, w1, w2, w3, w4, w5, rfl⟩
  have hw := fun d (hd : d ∈ tables_1) => atoms_spec (ws := Jvm.Cond.code x code maxLocals ret :: tables_1) hat d (List.mem_cons_of_mem _ hd)
  have hfit : Fit s := fun {y c} hc i hi => by
    obtain ⟨ha, rfl⟩ := Array.getElem?_eq_some_iff.mp hc
    have q := List.all_eq_true.mp ((Array.all_eq_true_iff_forall_mem.mp hF) _ (Array.getElem_mem ha)) i (List.mem_range.mpr hi)
    simpa [Array.getElem?_eq_getElem hi] using q
  obtain ⟨i0, ei0⟩ := is_v ha0
  obtain rfl : w0 = (.int i0) := Option.some.inj ei0
  obtain ⟨i1, ei1⟩ := is_v ha1
  obtain rfl : w1 = (.int i1) := Option.some.inj ei1
  obtain ⟨i2, ei2⟩ := is_v ha2
  obtain rfl : w2 = (.int i2) := Option.some.inj ei2
  obtain ⟨i3, ei3⟩ := is_v ha3
  obtain rfl : w3 = (.int i3) := Option.some.inj ei3
  obtain ⟨i4, ei4⟩ := is_v ha4
  obtain rfl : w4 = (.int i4) := Option.some.inj ei4
  obtain ⟨i5, ei5⟩ := is_v hg5
  obtain rfl : w5 = (.int i5) := Option.some.inj ei5
  obtain ⟨n, o, h1, h2, h3, _, L, rfl, ⟨rfl, N⟩, hq⟩ := own_rm0 l s _ hw tables_1 i0 i1 i2 i3 i4 i5  s.heap s.heap.size (Nat.le_refl _)  p e ha hc hk s m _ below hf ((Spec.applies_iff_loose hf).mp happ).1 ⟨rfl, State.Warmed39.refl s, rfl⟩ trivial
  refine ⟨n, _, h1, h2, h3, hpost _ _ _ _ _ _ ⟨Cond.after_iff.mpr rfl, Cond.after_iff.mpr (eq_i res_at (Term.int_eval (1)) rfl), trivial⟩ ⟨hq.1, hq.2.1, (hq.2.2.sift fun y hy => Or.inr (N y hy)).mono (by decide) (by decide)⟩⟩
theorem main_1_1 : Claimed_1_1 := own_comes fun _ _ _ _ _ _ h hF => ⟨h.1, hF⟩
theorem main_1_2 : Claimed_1_2 := own_comes fun _ _ _ _ _ _ h hF => ⟨h.2.1, hF⟩
end Jvm.Pilot.@@N@@
namespace Jvm.Pilot.@@N@@
open Jvm Jvm.ClassFile Sem Op Lib Jvm.Free Jvm.Stand Jvm.Pilot.@@N@@.Jvm.D
/-! MADE BY PROGRAM (witnessworld.py) out of the Statement's table words and the real class files: 10 classes; the members and pool entries that the words name. The judged class is class 1, her method 1. -/
namespace start1
open Jvm.ClassFile
def u (s : String) : CpInfo := .utf8 (stringToUtf16 s)
/-- a pool by its gaps: so many unusable entries, then the entry; so many at the end -/
def gap : Nat → List CpInfo → List CpInfo
  | 0, r => r
  | n + 1, r => .unusable :: gap n r
def poolList (es : List (Nat × CpInfo)) (last : Nat) : List CpInfo := es.foldr (fun e r => gap e.1 (e.2 :: r)) (gap last [])
def pool (es : List (Nat × CpInfo)) (last : Nat) : Array CpInfo := ⟨poolList es last⟩
def fileOf (pool : Array CpInfo) (this : Nat) (attrs : Array Attribute := #[]) (ms : Array MethodInfo := #[]) (fl : Nat := 33) (sup : Nat := 0) (ifs : Array Nat := #[]) (fds : Array FieldInfo := #[]) : ClassFile where
  minorVersion := 0
  majorVersion := 65
  constantPool := pool
  accessFlags := fl
  thisClass := this
  superClass := sup
  interfaces := ifs
  fields := fds
  methods := ms
  attributes := attrs
def plain (name : String) (sup : Option ClassId) : Class where
  name := name
  kind := .ordinary
  loader := none
  accessFlags := 33
  super := sup
  interfaces := #[]
  cf := none
  fields := #[]
  methods := #[]
  instanceTypes := #[]
  staticTypes := #[]
  resolved := #[]
  callSites := []
  init := .initialized
  statics := none
  mirror := none

def pool0 : Array CpInfo := pool [(5, u "<init>"), (0, u "()V"), (1, .class_ 10), (1, u "java/lang/Object")] 113

def k0c0 : Code := { maxStack := 0, maxLocals := 1, code := object_method_1_code, exceptionTable := #[], attributes := #[] }
def k0m0 : Method := { name := "<init>", desc := "()V", sig := { parameters := [], returnType := none }, accessFlags := 1, code := some k0c0 }
/-- java/lang/Object -/
def k0 : Class := { plain "java/lang/Object" none with
  accessFlags := 33
  interfaces := #[]
  cf := some (fileOf pool0 8 #[] #[{ accessFlags := 1, nameIndex := 5, descriptorIndex := 6, attributes := #[] }] 33 0 #[] #[])
  fields := #[]
  methods := #[k0m0]
  instanceTypes := #[]
  staticTypes := #[]
  resolved := Array.replicate 124 none
  statics := none }

def pool1 : Array CpInfo := pool [(2, .class_ 4), (1, u "java/lang/Object"), (0, u "<init>"), (0, u "()V"), (0, .class_ 8), (0, u "com/example/chargeweave/chargeweave/x12/Delimiters"), (0, .methodref 7 10), (0, .nameAndType 5 11), (0, u "(CCCC)V"), (0, .methodref 7 13), (0, .nameAndType 14 15), (0, u "contains"), (0, u "(C)Z"), (0, .class_ 17), (0, u "com/example/chargeweave/chargeweave/x12/DelimitersContainsPinLaw"), (2, u "law"), (0, u "(IIIIII)Z")] 3

def k1m0 : Method := { name := "<init>", desc := "()V", sig := { parameters := [], returnType := none }, accessFlags := 1, code := none }
def k1c1 : Code := { maxStack := 6, maxLocals := 18, code := code, exceptionTable := #[], attributes := #[] }
def k1m1 : Method := { name := "law", desc := "(IIIIII)Z", sig := { parameters := [.int, .int, .int, .int, .int, .int], returnType := some .boolean }, accessFlags := 9, code := some k1c1 }
/-- com/example/chargeweave/chargeweave/x12/DelimitersContainsPinLaw -/
def k1 : Class := { plain "com/example/chargeweave/chargeweave/x12/DelimitersContainsPinLaw" (some 0) with
  accessFlags := 49
  interfaces := #[]
  cf := some (fileOf pool1 16 #[] #[{ accessFlags := 1, nameIndex := 5, descriptorIndex := 6, attributes := #[] }, { accessFlags := 9, nameIndex := 20, descriptorIndex := 21, attributes := #[] }] 49 2 #[] #[])
  fields := #[]
  methods := #[k1m0, k1m1]
  instanceTypes := #[]
  staticTypes := #[]
  resolved := Array.replicate 25 none
  statics := none }

def pool2 : Array CpInfo := pool [(1, .methodref 2 3), (0, .class_ 4), (0, .nameAndType 5 6), (0, u "java/lang/Object"), (0, u "<init>"), (0, u "()V"), (0, .class_ 8), (0, u "java/lang/Record")] 13

def k2c0 : Code := { maxStack := 1, maxLocals := 1, code := jdk_30_method_1_code, exceptionTable := #[], attributes := #[] }
def k2m0 : Method := { name := "<init>", desc := "()V", sig := { parameters := [], returnType := none }, accessFlags := 4, code := some k2c0 }
/-- java/lang/Record -/
def k2 : Class := { plain "java/lang/Record" (some 0) with
  accessFlags := 1057
  interfaces := #[]
  cf := some (fileOf pool2 7 #[] #[{ accessFlags := 4, nameIndex := 5, descriptorIndex := 6, attributes := #[] }] 1057 2 #[] #[])
  fields := #[]
  methods := #[k2m0]
  instanceTypes := #[]
  staticTypes := #[]
  resolved := Array.replicate 22 none
  statics := none }

def pool3 : Array CpInfo := pool [(1, .methodref 2 3), (0, .class_ 4), (0, .nameAndType 5 6), (0, u "java/lang/Record"), (0, u "<init>"), (0, u "()V"), (0, .fieldref 8 9), (0, .class_ 10), (0, .nameAndType 11 12), (0, u "com/example/chargeweave/chargeweave/x12/Delimiters"), (0, u "element"), (0, u "C"), (0, .fieldref 8 14), (0, .nameAndType 15 12), (0, u "repetition"), (0, .fieldref 8 17), (0, .nameAndType 18 12), (0, u "component"), (0, .fieldref 8 20), (0, .nameAndType 21 12), (0, u "segment"), (14, u "(CCCC)V"), (2, u "WRITTEN"), (0, u "Lcom/example/chargeweave/chargeweave/x12/Delimiters;"), (3, u "contains"), (0, u "(C)Z")] 29

def k3c0 : Code := { maxStack := 2, maxLocals := 5, code := prog_94_method_1_code, exceptionTable := #[], attributes := #[] }
def k3m0 : Method := { name := "<init>", desc := "(CCCC)V", sig := { parameters := [.char, .char, .char, .char], returnType := none }, accessFlags := 1, code := some k3c0 }
def k3c1 : Code := { maxStack := 2, maxLocals := 2, code := prog_94_method_2_code, exceptionTable := #[], attributes := #[] }
def k3m1 : Method := { name := "contains", desc := "(C)Z", sig := { parameters := [.char], returnType := some .boolean }, accessFlags := 1, code := some k3c1 }
/-- com/example/chargeweave/chargeweave/x12/Delimiters -/
def k3 : Class := { plain "com/example/chargeweave/chargeweave/x12/Delimiters" (some 2) with
  accessFlags := 49
  interfaces := #[]
  cf := some (fileOf pool3 8 #[] #[{ accessFlags := 1, nameIndex := 5, descriptorIndex := 36, attributes := #[] }, { accessFlags := 1, nameIndex := 44, descriptorIndex := 45, attributes := #[] }] 49 2 #[] #[{ accessFlags := 18, nameIndex := 11, descriptorIndex := 12, attributes := #[] }, { accessFlags := 18, nameIndex := 15, descriptorIndex := 12, attributes := #[] }, { accessFlags := 18, nameIndex := 18, descriptorIndex := 12, attributes := #[] }, { accessFlags := 18, nameIndex := 21, descriptorIndex := 12, attributes := #[] }, { accessFlags := 25, nameIndex := 39, descriptorIndex := 40, attributes := #[] }])
  fields := #[{ name := "element", type := .char, accessFlags := 18, slot := 0, constantValue := 0 }, { name := "repetition", type := .char, accessFlags := 18, slot := 1, constantValue := 0 }, { name := "component", type := .char, accessFlags := 18, slot := 2, constantValue := 0 }, { name := "segment", type := .char, accessFlags := 18, slot := 3, constantValue := 0 }, { name := "WRITTEN", type := (.object "com/example/chargeweave/chargeweave/x12/Delimiters"), accessFlags := 25, slot := 0, constantValue := 0 }]
  methods := #[k3m0, k3m1]
  instanceTypes := #[.char, .char, .char, .char]
  staticTypes := #[(.object "com/example/chargeweave/chargeweave/x12/Delimiters")]
  resolved := Array.replicate 75 none
  statics := none }

def pool4 : Array CpInfo := pool [(1, u "java/lang/Cloneable"), (0, .class_ 1), (0, u "java/lang/Object"), (0, .class_ 3)] 3

/-- java/lang/Cloneable -/
def k4 : Class := { plain "java/lang/Cloneable" (some 0) with
  accessFlags := 1537
  interfaces := #[]
  cf := some (fileOf pool4 2 #[] #[] 1537 4 #[] #[])
  fields := #[]
  methods := #[]
  instanceTypes := #[]
  staticTypes := #[]
  resolved := Array.replicate 8 none
  statics := none }

def pool5 : Array CpInfo := pool [(1, u "java/io/Serializable"), (0, .class_ 1), (0, u "java/lang/Object"), (0, .class_ 3)] 3

/-- java/io/Serializable -/
def k5 : Class := { plain "java/io/Serializable" (some 0) with
  accessFlags := 1537
  interfaces := #[]
  cf := some (fileOf pool5 2 #[] #[] 1537 4 #[] #[])
  fields := #[]
  methods := #[]
  instanceTypes := #[]
  staticTypes := #[]
  resolved := Array.replicate 8 none
  statics := none }

/-- the primitive byte -/
def k6 : Class := { plain "byte" none with kind := .primitive 'B', accessFlags := 0x411 }
/-- [B -/
def k7 : Class := { plain "[B" (some 0) with kind := .array 6 .byte, interfaces := #[4, 5], accessFlags := 1041 }

/-- the primitive int -/
def k8 : Class := { plain "int" none with kind := .primitive 'I', accessFlags := 0x411 }
/-- [I -/
def k9 : Class := { plain "[I" (some 0) with kind := .array 8 .int, interfaces := #[4, 5], accessFlags := 1041 }

def heap : Heap := #[]
def classes : Array Class := #[k0, k1, k2, k3, k4, k5, k6, k7, k8, k9]
def interned : List (Array UInt16 × Addr) := []
def slotsUsed : Nat := 0
def theMethod : MethodId := ⟨1, 1⟩
def args0 : Array Value := #[.int 65, .int 66, .int 67, .int 68, .int 69, .int 4]
def aboutOver (below : List Frame) : State where
  vm := { classes := classes, interned := interned.toArray }
  heap := heap
  slotsUsed := slotsUsed
  threads := #[{ frames := .invoking theMethod args0 :: below }]
def below0 : List Frame := [.native { method := ⟨0, 0⟩, args := #[] }]
def about1 : State := aboutOver below0
def p0 : Program := .bare "" "" ""
def e0 : Env := launch0.env 0 0 0
theorem w_frames : about1.frames = Frame.invoking theMethod args0 :: below0 := rfl
set_option maxRecDepth 65536 in
theorem w_args : argsFit about1.vm theMethod args0 = true := by decide +kernel
set_option maxRecDepth 65536 in
theorem w_heap : heapFits about1 = true := by decide +kernel
set_option maxRecDepth 65536 in
theorem w_runnable : about1.curStatus? = some .runnable := by decide +kernel
set_option maxRecDepth 65536 in
theorem w_alone : about1.alone = true := by decide +kernel
set_option maxRecDepth 65536 in
theorem w_named : about1.methodNamed? x = some theMethod := by decide +kernel
set_option maxRecDepth 65536 in
theorem w_hears : about1.hears theMethod below0 = true := by decide +kernel
set_option maxRecDepth 65536 in
theorem w_ripe : about1.ripe theMethod args0 below0 = true := by decide +kernel
theorem w_running : about1.status = .running := rfl
set_option maxRecDepth 65536 in
theorem w_room : about1.hasRoom e0.platform room_1 = true :=
  launch0.hasRoom_least _ room_1 (by decide +kernel) (by decide +kernel) (by decide +kernel) (by decide +kernel) (by decide +kernel) (by decide +kernel)
theorem allAtoms_all (ts : List Jvm.Cond) (a : Array Jvm.Value) (st : Jvm.State) : (allAtoms ts).before a st = ts.all (fun c => c.before a st) := by
  induction ts with
  | nil => rfl
  | cons c t ih =>
    show (Jvm.Cond.and c (allAtoms t)).before a st = _
    rw [Jvm.Cond.before_and, ih, List.all_cons]
def words1 : List Jvm.Cond := Jvm.Cond.code x code maxLocals ret :: tables_1
/-- a 'code' word, met by the world's own term for the bytes: nothing is compared byte by byte -/
theorem code_word {y : MethodName} {bytes : ByteArray} {mx : Nat} {rt : Option FieldType} {a : Array Value} {s : State} {m : MethodId} {meth : Method} {c : Code} (h1 : s.methodNamed? y = some m) (h2 : s.vm.method? m = some meth) (h3 : meth.code = some c) (h4 : c.code = bytes)
    (h5 : (c.maxLocals == mx && c.exceptionTable.isEmpty && decide (c.maxStack ≤ mostOperands) && decide (meth.sig.returnType = rt) && !meth.locks && decide (parseMethodDescriptor y.desc = some meth.sig)) = true) : (Jvm.Cond.code y bytes mx rt).before a s = true := by
  simp only [Bool.and_eq_true, beq_iff_eq, Bool.not_eq_true', decide_eq_true_eq] at h5
  obtain ⟨⟨⟨⟨⟨g1, g2⟩, g3⟩, g4⟩, g5⟩, g6⟩ := h5
  simp [Cond.before, Cond.holds, Cond.value, h1, h2, h3, h4, g1, g2, g3, g4, g5, g6]
def isCode : Jvm.Cond → Bool
  | .code _ _ _ _ => true
  | _ => false
theorem all_split {L : List Jvm.Cond} {P : Jvm.Cond → Bool} (h1 : L.all (fun c => isCode c || P c) = true) (h2 : ∀ c ∈ L.filter isCode, P c = true) : L.all P = true := by
  refine List.all_eq_true.mpr fun c hc => ?_
  have h := List.all_eq_true.mp h1 c hc
  rcases Bool.eq_false_or_eq_true (isCode c) with hi | hi
  · exact h2 c (List.mem_filter.mpr ⟨hc, hi⟩)
  · simpa [hi] using h
set_option maxRecDepth 65536 in
theorem w_c0 : (Jvm.Cond.code x code maxLocals ret).before args0 about1 = true := code_word (m := ⟨1, 1⟩) (meth := k1m1) (c := k1c1) (by decide +kernel) rfl rfl rfl (by decide +kernel)
set_option maxRecDepth 65536 in
theorem w_c1 : (Jvm.Cond.code ({ cls := "com/example/chargeweave/chargeweave/x12/Delimiters", name := "<init>", desc := "(CCCC)V" } : Jvm.MethodName) prog_94_method_1_code (5 : Nat) (Option.none : Option Jvm.ClassFile.FieldType)).before args0 about1 = true := code_word (m := ⟨3, 0⟩) (meth := k3m0) (c := k3c0) (by decide +kernel) rfl rfl rfl (by decide +kernel)
set_option maxRecDepth 65536 in
theorem w_c2 : (Jvm.Cond.code ({ cls := "java/lang/Record", name := "<init>", desc := "()V" } : Jvm.MethodName) jdk_30_method_1_code (1 : Nat) (Option.none : Option Jvm.ClassFile.FieldType)).before args0 about1 = true := code_word (m := ⟨2, 0⟩) (meth := k2m0) (c := k2c0) (by decide +kernel) rfl rfl rfl (by decide +kernel)
set_option maxRecDepth 65536 in
theorem w_c3 : (Jvm.Cond.code ({ cls := "java/lang/Object", name := "<init>", desc := "()V" } : Jvm.MethodName) object_method_1_code (1 : Nat) (Option.none : Option Jvm.ClassFile.FieldType)).before args0 about1 = true := code_word (m := ⟨0, 0⟩) (meth := k0m0) (c := k0c0) (by decide +kernel) rfl rfl rfl (by decide +kernel)
set_option maxRecDepth 65536 in
theorem w_c4 : (Jvm.Cond.code ({ cls := "com/example/chargeweave/chargeweave/x12/Delimiters", name := "contains", desc := "(C)Z" } : Jvm.MethodName) prog_94_method_2_code (2 : Nat) (Option.some Jvm.ClassFile.FieldType.boolean)).before args0 about1 = true := code_word (m := ⟨3, 1⟩) (meth := k3m1) (c := k3c1) (by decide +kernel) rfl rfl rfl (by decide +kernel)
def codes1 : List Jvm.Cond := [Jvm.Cond.code x code maxLocals ret, Jvm.Cond.code ({ cls := "com/example/chargeweave/chargeweave/x12/Delimiters", name := "<init>", desc := "(CCCC)V" } : Jvm.MethodName) prog_94_method_1_code (5 : Nat) (Option.none : Option Jvm.ClassFile.FieldType), Jvm.Cond.code ({ cls := "java/lang/Record", name := "<init>", desc := "()V" } : Jvm.MethodName) jdk_30_method_1_code (1 : Nat) (Option.none : Option Jvm.ClassFile.FieldType), Jvm.Cond.code ({ cls := "java/lang/Object", name := "<init>", desc := "()V" } : Jvm.MethodName) object_method_1_code (1 : Nat) (Option.none : Option Jvm.ClassFile.FieldType), Jvm.Cond.code ({ cls := "com/example/chargeweave/chargeweave/x12/Delimiters", name := "contains", desc := "(C)Z" } : Jvm.MethodName) prog_94_method_2_code (2 : Nat) (Option.some Jvm.ClassFile.FieldType.boolean)]
set_option maxRecDepth 65536 in
theorem codes_eq : words1.filter isCode = codes1 := rfl
theorem w_codes : ∀ c ∈ words1.filter isCode, c.before args0 about1 = true := by
  rw [codes_eq]
  intro c hc
  simp only [codes1, List.mem_cons, List.not_mem_nil, or_false] at hc
  rcases hc with rfl | rfl | rfl | rfl | rfl
  · exact w_c0
  · exact w_c1
  · exact w_c2
  · exact w_c3
  · exact w_c4
set_option maxRecDepth 65536 in
theorem w_t1 : (words1.take 24).all (fun c => isCode c || c.before args0 about1) = true := by decide +kernel
set_option maxRecDepth 65536 in
theorem w_t2 : (words1.drop 24).all (fun c => isCode c || c.before args0 about1) = true := by decide +kernel
theorem w_tables : (allAtoms (Jvm.Cond.code x code maxLocals ret :: tables_1)).before args0 about1 = true := by
  rw [allAtoms_all]
  show words1.all (fun c => c.before args0 about1) = true
  refine all_split ?_ w_codes
  rw [← List.take_append_drop 24 words1, List.all_append, w_t1, w_t2]
  rfl
set_option maxRecDepth 65536 in
theorem w_case : (Jvm.Cond.and given_1 narrow_1).before args0 about1 = true := by decide +kernel
theorem w_applies : (headSpec (Jvm.Cond.code x code maxLocals ret :: tables_1) room_1).applies x e0.platform about1 = true :=
  (Spec.applies_iff w_frames).mpr ⟨w_running, w_runnable, w_alone, w_named, w_hears, w_ripe, w_room, w_tables⟩
theorem atStart : AtStart classFile x code maxLocals ret World_1 tables_1 room_1 Calls_1 rest_1 Pre_1 launch0 p0 e0 about1 theMethod args0 below0 :=
  ⟨lists_1, trivial, launch0.admits_env _ _ _, launch0.least_env, fairChoices_fair.cas, fairChoices_fair.clock, w_frames, w_args, w_heap, w_applies, trivial, trivial, w_case⟩
end start1
theorem witness_1 : WitnessClaimed_1 := ⟨start1.p0, start1.e0, start1.about1, start1.theMethod, start1.args0, start1.below0, start1.atStart⟩
end Jvm.Pilot.@@N@@
