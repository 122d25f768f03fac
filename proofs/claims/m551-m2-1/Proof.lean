import JvmDerived
import JvmDerived.Pilot.@@N@@Statement
import JvmDerived.Pilot.@@N@@Code
set_option linter.unusedVariables false
set_option linter.unusedSimpArgs false
namespace Jvm.Pilot.@@N@@
open Jvm Jvm.ClassFile Sem Op Lib Jvm.Free Jvm.Stand Jvm.LawKit Jvm.RoadKit Bundle Jvm.Pilot.@@N@@.Jvm.D
abbrev jv (x : Int64) : Slot := .val (.long x)
section OwnKit
variable {p : Program} {l : Launch} {e : Env} {R : Room} {s : State} {m : MethodId} {args : Array Value} {below : List Frame} {meth : Method} {c : Code} {T T' : State} {locs : List Loc} {cells slots kc ks : Nat} {Q : Option Value → Heap → List Loc → Prop} {g g' : JFrame}
/-- from the state T, its top frame g, the invocation comes to its end with Q -/
def own_WP (p : Program) (e : Env) (below : List Frame) (s : State) (Q : Option Value → Heap → List Loc → Prop) (kc ks : Nat) (T : State) (g : JFrame) : Prop :=
  ∃ s₂ o, Steps p.tables e below (T.setTop g) s₂ ∧ s₂.status = .running ∧ Ended s₂ below o ∧ ∃ v L, o = .returned v ∧ Q v s₂.heap L ∧ FrameEnd s o s₂ L kc ks
theorem own_step (h : ∀ t, Steps p.tables e below (T'.setTop g') t → Steps p.tables e below (T.setTop g) t) (hr : own_WP p e below s Q kc ks T' g') : own_WP p e below s Q kc ks T g := by
  obtain ⟨s₂, o, h1, h2⟩ := hr
  exact ⟨s₂, o, h _ h1, h2⟩
theorem own_st (g' : JFrame) (h : ∀ t, Steps p.tables e below (T.setTop g') t → Steps p.tables e below (T.setTop g) t) (hr : own_WP p e below s Q kc ks T g') : own_WP p e below s Q kc ks T g := own_step h hr
theorem own_jump (h : Steps p.tables e below (T.setTop g) (T'.setTop g')) (hr : own_WP p e below s Q kc ks T' g') : own_WP p e below s Q kc ks T g := by
  obtain ⟨s₂, o, h1, h2⟩ := hr
  exact ⟨s₂, o, h.trans h1, h2⟩
theorem own_ret (X : Stand p l e R s m args below meth c T locs cells slots) (hlk : meth.locks = false) {v : Option Value} (hv : meth.sig.returnType = none → v = none)
    (hst : ∀ fs, (∀ (f : JFrame) (acts : List Action), f.method = m → f.locked = none → f.entered = [] → (doReturn e (T.setTop f) acts v).1 = T.setFrames fs) → Steps p.tables e below (T.setTop g) (T.setFrames fs))
    (hq : Q v T.heap locs) (h1 : cells ≤ kc) (h2 : slots ≤ ks) : own_WP p e below s Q kc ks T g := by
  obtain ⟨fs, hr, hrun, hended, hW, hsame⟩ := X.leave (v := v) hv hlk
  exact ⟨_, _, hst fs hr, hrun, hended, v, locs, rfl, hq, ⟨v, rfl⟩, hW, hsame.mono h1 h2⟩
theorem own_wide (X : Stand p l e R s m args below meth c T locs cells slots) {cells' slots' : Nat} (h1 : cells ≤ cells') (h2 : slots ≤ slots') : Stand p l e R s m args below meth c T locs cells' slots' :=
  ⟨X.admits, X.cas, X.clock, X.frames, X.room, X.hears, X.method, X.code, X.here, X.tail, X.warmed, X.limits, X.bytes, X.same.mono h1 h2⟩
end OwnKit
theorem own_body {l : Launch} {y : MethodName} {bytes : ByteArray} {maxL : Nat} {ret : Option FieldType} {ws : List Jvm.Cond} {rm : Room} {A : Array Value} {Z : State} {h0 : Heap} {Q : Option Value → Heap → List Loc → Prop} {ls : Array Slot} {kc ks : Nat}
    (hpl : plainFor y = true) (ef : ∀ m, entryFrame m A maxL = mkF m 0 ls [])
    (body : ∀ (p : Program) (e : Env) (s : State) (m : MethodId) (below : List Frame) (meth : Method) (c : Code) (T : State), Stand p l e rm s m A below meth c T [] 0 0 → p.tables.exec = Jvm.exec → c.code = bytes → c.maxLocals = maxL → Z.Warmed39 s.vm → s.vm.findClass y.cls = some m.cls → meth.name = y.name → meth.sig.returnType = ret → meth.locks = false → T.heap = h0 →
      own_WP p e below s Q kc ks T (mkF m 0 ls [])) :
    MetFree l y (head1 (Jvm.Cond.code y bytes maxL ret :: ws) rm) (fun a U => a = A ∧ Z.Warmed39 U.vm ∧ U.heap = h0) (fun _ _ _ _ _ => True) (fun _ U o U' => ∃ v L, o = .returned v ∧ Q v U'.heap L ∧ FrameEnd U o U' L kc ks) := by
  refine MetFree.of_bodySF hpl hisR ?_
  intro p e s m args below meth c s₁ Bd hml0 hP hK
  obtain ⟨rfl, hZ, hh⟩ := hP
  obtain ⟨s₂, o, h1, h2⟩ := body p e s m below meth c s₁ (Stand.of_body Bd) Bd.exec Bd.bytes hml0 hZ (findClass_of_methodNamed Bd.named) (name_of_methodNamed Bd.named Bd.method).1 Bd.returns Bd.notSynchronized (by rw [← hh, Bd.state]; rfl)
  exact ⟨s₂, o, castTop (ef m) h1, h2⟩
theorem own_llt1 {x y : Int64} (h : x < y) : ifCond.holds .lt (lcmpW x y) = true := (if0 _ _).trans (tlt ((lw_lt x y).mpr h)).1
theorem own_llt0 {x y : Int64} (h : ¬ x < y) : ifCond.holds .lt (lcmpW x y) = false := (if0 _ _).trans (flt (mt (lw_lt x y).mp h)).1
theorem own_lge1 {x y : Int64} (h : ¬ x < y) : ifCond.holds .ge (lcmpW x y) = true := (if0 _ _).trans (flt (mt (lw_lt x y).mp h)).2.1
theorem own_lge0 {x y : Int64} (h : x < y) : ifCond.holds .ge (lcmpW x y) = false := (if0 _ _).trans (tlt ((lw_lt x y).mpr h)).2.1
theorem own_lgt1 {x y : Int64} (h : y < x) : ifCond.holds .gt (lcmpW x y) = true := (if0 _ _).trans (tlt ((lw_gt x y).mpr h)).2.2.1
theorem own_lgt0 {x y : Int64} (h : ¬ y < x) : ifCond.holds .gt (lcmpW x y) = false := (if0 _ _).trans (flt (mt (lw_gt x y).mp h)).2.2.1
theorem own_lle1 {x y : Int64} (h : ¬ y < x) : ifCond.holds .le (lcmpW x y) = true := (if0 _ _).trans (flt (mt (lw_gt x y).mp h)).2.2.2
theorem own_lle0 {x y : Int64} (h : y < x) : ifCond.holds .le (lcmpW x y) = false := (if0 _ _).trans (tlt ((lw_gt x y).mpr h)).2.2.2
theorem own_leq1 {x y : Int64} (h : x = y) : ifCond.holds .eq (lcmpW x y) = true := (if0 _ _).trans (teq ((lw_eq x y).mpr h)).1
theorem own_leq0 {x y : Int64} (h : ¬ x = y) : ifCond.holds .eq (lcmpW x y) = false := (if0 _ _).trans (feq (mt (lw_eq x y).mp h)).1
theorem own_lne1 {x y : Int64} (h : ¬ x = y) : ifCond.holds .ne (lcmpW x y) = true := (if0 _ _).trans (feq (mt (lw_eq x y).mp h)).2
theorem own_lne0 {x y : Int64} (h : x = y) : ifCond.holds .ne (lcmpW x y) = false := (if0 _ _).trans (teq ((lw_eq x y).mpr h)).2
def own_dir (r c : Int32) : Int32 := if ¬ r < (-1 : Int32) ∧ ¬ (1 : Int32) < r ∧ ¬ c < (-1 : Int32) ∧ ¬ (1 : Int32) < c ∧ (¬ r = (0 : Int32) ∨ ¬ c = (0 : Int32)) then 1 else 0
def own_oct (r c : Int32) : Int32 := if (r = (-1 : Int32) ∧ c = (-1 : Int32)) ∨ (r = (-1 : Int32) ∧ c = (0 : Int32)) ∨ (r = (-1 : Int32) ∧ c = (1 : Int32)) ∨ (r = (0 : Int32) ∧ c = (-1 : Int32)) ∨ (r = (0 : Int32) ∧ c = (1 : Int32)) ∨ (r = (1 : Int32) ∧ c = (-1 : Int32)) ∨ (r = (1 : Int32) ∧ c = (0 : Int32)) ∨ (r = (1 : Int32) ∧ c = (1 : Int32)) then 1 else 0
theorem own_same (r c : Int32) : own_dir r c = own_oct r c := by
  have e0 : (0 : Int32).toInt = 0 := rfl
  have e1 : (1 : Int32).toInt = 1 := rfl
  have e2 : (-1 : Int32).toInt = -1 := rfl
  unfold own_dir own_oct
  simp only [Int32.lt_iff_toInt_lt, ← Int32.toInt_inj, e0, e1, e2]
  split <;> split <;> first | rfl | (exfalso; omega)
theorem d1_0 : decode prog_40_method_2_code 0 = .ok (.iload_n 0, 1) := by decide +kernel
theorem d1_1 : decode prog_40_method_2_code 1 = .ok (.iconst (-1), 1) := by decide +kernel
theorem d1_2 : decode prog_40_method_2_code 2 = .ok (.if_icmp .lt 30, 3) := by decide +kernel
theorem d1_32 : decode prog_40_method_2_code 32 = .ok (.iconst 0, 1) := by decide +kernel
theorem d1_33 : decode prog_40_method_2_code 33 = .ok (.ireturn, 1) := by decide +kernel
theorem d1_5 : decode prog_40_method_2_code 5 = .ok (.iload_n 0, 1) := by decide +kernel
theorem d1_6 : decode prog_40_method_2_code 6 = .ok (.iconst 1, 1) := by decide +kernel
theorem d1_7 : decode prog_40_method_2_code 7 = .ok (.if_icmp .gt 25, 3) := by decide +kernel
theorem d1_10 : decode prog_40_method_2_code 10 = .ok (.iload_n 1, 1) := by decide +kernel
theorem d1_11 : decode prog_40_method_2_code 11 = .ok (.iconst (-1), 1) := by decide +kernel
theorem d1_12 : decode prog_40_method_2_code 12 = .ok (.if_icmp .lt 20, 3) := by decide +kernel
theorem d1_15 : decode prog_40_method_2_code 15 = .ok (.iload_n 1, 1) := by decide +kernel
theorem d1_16 : decode prog_40_method_2_code 16 = .ok (.iconst 1, 1) := by decide +kernel
theorem d1_17 : decode prog_40_method_2_code 17 = .ok (.if_icmp .gt 15, 3) := by decide +kernel
theorem d1_20 : decode prog_40_method_2_code 20 = .ok (.iload_n 0, 1) := by decide +kernel
theorem d1_21 : decode prog_40_method_2_code 21 = .ok (.ifCond .ne 7, 3) := by decide +kernel
theorem d1_24 : decode prog_40_method_2_code 24 = .ok (.iload_n 1, 1) := by decide +kernel
theorem d1_25 : decode prog_40_method_2_code 25 = .ok (.ifCond .eq 7, 3) := by decide +kernel
theorem d1_28 : decode prog_40_method_2_code 28 = .ok (.iconst 1, 1) := by decide +kernel
theorem d1_29 : decode prog_40_method_2_code 29 = .ok (.goto 4, 3) := by decide +kernel
theorem pn_1 : plainName "com/example/croupier/croupier/paint/Action" = true := by first | (simp [plainName, overriddenIn]; done) | decide +kernel
theorem own_ef1 (m : MethodId) (p1 : Int32) (p2 : Int32) : entryFrame m #[(.int p1), (.int p2)] 2 = mkF m 0 #[iv p1, iv p2] [] := by first | (simp [entryFrame, mkF, argsToLocals, Value.category]; done) | rfl
def own_Q1 (Z : State) (p1 : Int32) (p2 : Int32) (h0 : Heap) (n0 : Nat) (v : Option Value) (h : Heap) (L : List Loc) : Prop := v = some (.int (own_dir p1 p2)) ∧ Fr n0 L ∧ h = h0
set_option maxRecDepth 65536 in
set_option maxHeartbeats 40000000 in
theorem own_rm1 (l : Launch) (Z : State) (a0 : Array Value) (hw : ∀ d ∈ tables_1, d.before a0 Z = true) (ws : List Jvm.Cond) (p1 : Int32) (p2 : Int32) (h0 : Heap) (n0 : Nat) (Z0 : n0 ≤ h0.size) :
    MetFree l (⟨"com/example/croupier/croupier/paint/Action", "isDirection", "(II)Z"⟩ : MethodName) (head1 (Jvm.Cond.code (⟨"com/example/croupier/croupier/paint/Action", "isDirection", "(II)Z"⟩ : MethodName) prog_40_method_2_code 2 (some .boolean) :: ws) ({ frames := 0, cells := 0, slots := 0, locals := 0 } : Room)) (fun a U => a = #[(.int p1), (.int p2)] ∧ Z.Warmed39 U.vm ∧ U.heap = h0) (fun _ _ _ _ _ => True) (fun _ U o U' => ∃ v L, o = .returned v ∧ own_Q1 Z p1 p2 h0 n0 v U'.heap L ∧ FrameEnd U o U' L ({ frames := 0, cells := 0, slots := 0, locals := 0 } : Room).cells ({ frames := 0, cells := 0, slots := 0, locals := 0 } : Room).slots) := by
  refine own_body (plainFor_of_name pn_1) (fun m => own_ef1 m p1 p2) ?_
  intro p e s m below meth c T0 X0 hx hby hml hZ hown hnm hret hlk e0
  have hown : s.vm.findClass "com/example/croupier/croupier/paint/Action" = some m.cls := hown
  have hnm : meth.name = "isDirection" := hnm
  have N0 := Fr.nil n0
  refine own_st (mkF m 1 #[iv p1, iv p2] [(.int p1)]) (fun t k => XS.iloadN X0.here hx rfl (hb hby d1_0) rfl k) ?_
  refine own_st (mkF m 2 #[iv p1, iv p2] [(.int (-1 : Int32)), (.int p1)]) (fun t k => XS.iconst X0.here hx rfl (hb hby d1_1) k) ?_
  by_cases hc1 : p1 < (-1 : Int32)
  · refine own_st (mkF m 32 #[iv p1, iv p2] []) (fun t k => XS.icmpYes X0.here hx rfl (pc0 := 2) (pc' := 32) rfl (hb hby d1_2) rfl (tlt hc1).1 (by decide) (by decide) k) ?_
    refine own_st (mkF m 33 #[iv p1, iv p2] [(.int (0 : Int32))]) (fun t k => XS.iconst X0.here hx rfl (hb hby d1_32) k) ?_
    refine own_ret X0 hlk (v := some (.int (0 : Int32))) (fun h => by rw [hret] at h; cases h) (fun fs hr => retN X0 hx (t := .boolean) hret (by simp) (hb hby d1_33) hr) ?_ (by decide) (by decide)
    show own_Q1 Z p1 p2 h0 n0 _ T0.heap _
    rw [e0]
    exact ⟨congrArg (fun z => some (Value.int z)) (by simp [own_dir, hc1] : (0 : Int32) = own_dir p1 p2), N0, rfl⟩
  · refine own_st (mkF m 5 #[iv p1, iv p2] []) (fun t k => XS.icmpNo X0.here hx rfl (hb hby d1_2) rfl (flt hc1).1 k) ?_
    refine own_st (mkF m 6 #[iv p1, iv p2] [(.int p1)]) (fun t k => XS.iloadN X0.here hx rfl (hb hby d1_5) rfl k) ?_
    refine own_st (mkF m 7 #[iv p1, iv p2] [(.int (1 : Int32)), (.int p1)]) (fun t k => XS.iconst X0.here hx rfl (hb hby d1_6) k) ?_
    by_cases hc2 : (1 : Int32) < p1
    · refine own_st (mkF m 32 #[iv p1, iv p2] []) (fun t k => XS.icmpYes X0.here hx rfl (pc0 := 7) (pc' := 32) rfl (hb hby d1_7) rfl (tlt hc2).2.2.1 (by decide) (by decide) k) ?_
      refine own_st (mkF m 33 #[iv p1, iv p2] [(.int (0 : Int32))]) (fun t k => XS.iconst X0.here hx rfl (hb hby d1_32) k) ?_
      refine own_ret X0 hlk (v := some (.int (0 : Int32))) (fun h => by rw [hret] at h; cases h) (fun fs hr => retN X0 hx (t := .boolean) hret (by simp) (hb hby d1_33) hr) ?_ (by decide) (by decide)
      show own_Q1 Z p1 p2 h0 n0 _ T0.heap _
      rw [e0]
      exact ⟨congrArg (fun z => some (Value.int z)) (by simp [own_dir, hc1, hc2] : (0 : Int32) = own_dir p1 p2), N0, rfl⟩
    · refine own_st (mkF m 10 #[iv p1, iv p2] []) (fun t k => XS.icmpNo X0.here hx rfl (hb hby d1_7) rfl (flt hc2).2.2.1 k) ?_
      refine own_st (mkF m 11 #[iv p1, iv p2] [(.int p2)]) (fun t k => XS.iloadN X0.here hx rfl (hb hby d1_10) rfl k) ?_
      refine own_st (mkF m 12 #[iv p1, iv p2] [(.int (-1 : Int32)), (.int p2)]) (fun t k => XS.iconst X0.here hx rfl (hb hby d1_11) k) ?_
      by_cases hc3 : p2 < (-1 : Int32)
      · refine own_st (mkF m 32 #[iv p1, iv p2] []) (fun t k => XS.icmpYes X0.here hx rfl (pc0 := 12) (pc' := 32) rfl (hb hby d1_12) rfl (tlt hc3).1 (by decide) (by decide) k) ?_
        refine own_st (mkF m 33 #[iv p1, iv p2] [(.int (0 : Int32))]) (fun t k => XS.iconst X0.here hx rfl (hb hby d1_32) k) ?_
        refine own_ret X0 hlk (v := some (.int (0 : Int32))) (fun h => by rw [hret] at h; cases h) (fun fs hr => retN X0 hx (t := .boolean) hret (by simp) (hb hby d1_33) hr) ?_ (by decide) (by decide)
        show own_Q1 Z p1 p2 h0 n0 _ T0.heap _
        rw [e0]
        exact ⟨congrArg (fun z => some (Value.int z)) (by simp [own_dir, hc1, hc2, hc3] : (0 : Int32) = own_dir p1 p2), N0, rfl⟩
      · refine own_st (mkF m 15 #[iv p1, iv p2] []) (fun t k => XS.icmpNo X0.here hx rfl (hb hby d1_12) rfl (flt hc3).1 k) ?_
        refine own_st (mkF m 16 #[iv p1, iv p2] [(.int p2)]) (fun t k => XS.iloadN X0.here hx rfl (hb hby d1_15) rfl k) ?_
        refine own_st (mkF m 17 #[iv p1, iv p2] [(.int (1 : Int32)), (.int p2)]) (fun t k => XS.iconst X0.here hx rfl (hb hby d1_16) k) ?_
        by_cases hc4 : (1 : Int32) < p2
        · refine own_st (mkF m 32 #[iv p1, iv p2] []) (fun t k => XS.icmpYes X0.here hx rfl (pc0 := 17) (pc' := 32) rfl (hb hby d1_17) rfl (tlt hc4).2.2.1 (by decide) (by decide) k) ?_
          refine own_st (mkF m 33 #[iv p1, iv p2] [(.int (0 : Int32))]) (fun t k => XS.iconst X0.here hx rfl (hb hby d1_32) k) ?_
          refine own_ret X0 hlk (v := some (.int (0 : Int32))) (fun h => by rw [hret] at h; cases h) (fun fs hr => retN X0 hx (t := .boolean) hret (by simp) (hb hby d1_33) hr) ?_ (by decide) (by decide)
          show own_Q1 Z p1 p2 h0 n0 _ T0.heap _
          rw [e0]
          exact ⟨congrArg (fun z => some (Value.int z)) (by simp [own_dir, hc1, hc2, hc3, hc4] : (0 : Int32) = own_dir p1 p2), N0, rfl⟩
        · refine own_st (mkF m 20 #[iv p1, iv p2] []) (fun t k => XS.icmpNo X0.here hx rfl (hb hby d1_17) rfl (flt hc4).2.2.1 k) ?_
          refine own_st (mkF m 21 #[iv p1, iv p2] [(.int p1)]) (fun t k => XS.iloadN X0.here hx rfl (hb hby d1_20) rfl k) ?_
          by_cases hc5 : p1 = (0 : Int32)
          · refine own_st (mkF m 24 #[iv p1, iv p2] []) (fun t k => XS.ifNo X0.here hx rfl (hb hby d1_21) rfl ((if0 _ _).trans (teq hc5).2) k) ?_
            refine own_st (mkF m 25 #[iv p1, iv p2] [(.int p2)]) (fun t k => XS.iloadN X0.here hx rfl (hb hby d1_24) rfl k) ?_
            by_cases hc6 : p2 = (0 : Int32)
            · refine own_st (mkF m 32 #[iv p1, iv p2] []) (fun t k => XS.ifYes X0.here hx rfl (pc0 := 25) (pc' := 32) rfl (hb hby d1_25) rfl ((if0 _ _).trans (teq hc6).1) (by decide) (by decide) k) ?_
              refine own_st (mkF m 33 #[iv p1, iv p2] [(.int (0 : Int32))]) (fun t k => XS.iconst X0.here hx rfl (hb hby d1_32) k) ?_
              refine own_ret X0 hlk (v := some (.int (0 : Int32))) (fun h => by rw [hret] at h; cases h) (fun fs hr => retN X0 hx (t := .boolean) hret (by simp) (hb hby d1_33) hr) ?_ (by decide) (by decide)
              show own_Q1 Z p1 p2 h0 n0 _ T0.heap _
              rw [e0]
              exact ⟨congrArg (fun z => some (Value.int z)) (by simp [own_dir, hc1, hc2, hc3, hc4, hc5, hc6] : (0 : Int32) = own_dir p1 p2), N0, rfl⟩
            · refine own_st (mkF m 28 #[iv p1, iv p2] []) (fun t k => XS.ifNo X0.here hx rfl (hb hby d1_25) rfl ((if0 _ _).trans (feq hc6).1) k) ?_
              refine own_st (mkF m 29 #[iv p1, iv p2] [(.int (1 : Int32))]) (fun t k => XS.iconst X0.here hx rfl (hb hby d1_28) k) ?_
              refine own_st (mkF m 33 #[iv p1, iv p2] [(.int (1 : Int32))]) (fun t k => XS.goto X0.here hx rfl (pc0 := 29) (pc' := 33) rfl (hb hby d1_29) (by decide) (by decide) k) ?_
              refine own_ret X0 hlk (v := some (.int (1 : Int32))) (fun h => by rw [hret] at h; cases h) (fun fs hr => retN X0 hx (t := .boolean) hret (by simp) (hb hby d1_33) hr) ?_ (by decide) (by decide)
              show own_Q1 Z p1 p2 h0 n0 _ T0.heap _
              rw [e0]
              exact ⟨congrArg (fun z => some (Value.int z)) (by simp [own_dir, hc1, hc2, hc3, hc4, hc5, hc6] : (1 : Int32) = own_dir p1 p2), N0, rfl⟩
          · refine own_st (mkF m 28 #[iv p1, iv p2] []) (fun t k => XS.ifYes X0.here hx rfl (pc0 := 21) (pc' := 28) rfl (hb hby d1_21) rfl ((if0 _ _).trans (feq hc5).2) (by decide) (by decide) k) ?_
            refine own_st (mkF m 29 #[iv p1, iv p2] [(.int (1 : Int32))]) (fun t k => XS.iconst X0.here hx rfl (hb hby d1_28) k) ?_
            refine own_st (mkF m 33 #[iv p1, iv p2] [(.int (1 : Int32))]) (fun t k => XS.goto X0.here hx rfl (pc0 := 29) (pc' := 33) rfl (hb hby d1_29) (by decide) (by decide) k) ?_
            refine own_ret X0 hlk (v := some (.int (1 : Int32))) (fun h => by rw [hret] at h; cases h) (fun fs hr => retN X0 hx (t := .boolean) hret (by simp) (hb hby d1_33) hr) ?_ (by decide) (by decide)
            show own_Q1 Z p1 p2 h0 n0 _ T0.heap _
            rw [e0]
            exact ⟨congrArg (fun z => some (Value.int z)) (by simp [own_dir, hc1, hc2, hc3, hc4, hc5] : (1 : Int32) = own_dir p1 p2), N0, rfl⟩
theorem d2_0 : decode method_2_code 0 = .ok (.iload_n 0, 1) := by decide +kernel
theorem d2_1 : decode method_2_code 1 = .ok (.iconst (-1), 1) := by decide +kernel
theorem d2_2 : decode method_2_code 2 = .ok (.if_icmp .ne 8, 3) := by decide +kernel
theorem d2_5 : decode method_2_code 5 = .ok (.iload_n 1, 1) := by decide +kernel
theorem d2_6 : decode method_2_code 6 = .ok (.iconst (-1), 1) := by decide +kernel
theorem d2_7 : decode method_2_code 7 = .ok (.if_icmp .eq 69, 3) := by decide +kernel
theorem d2_76 : decode method_2_code 76 = .ok (.iconst 1, 1) := by decide +kernel
theorem d2_77 : decode method_2_code 77 = .ok (.goto 4, 3) := by decide +kernel
theorem d2_81 : decode method_2_code 81 = .ok (.ireturn, 1) := by decide +kernel
theorem d2_10 : decode method_2_code 10 = .ok (.iload_n 0, 1) := by decide +kernel
theorem d2_11 : decode method_2_code 11 = .ok (.iconst (-1), 1) := by decide +kernel
theorem d2_12 : decode method_2_code 12 = .ok (.if_icmp .ne 7, 3) := by decide +kernel
theorem d2_15 : decode method_2_code 15 = .ok (.iload_n 1, 1) := by decide +kernel
theorem d2_16 : decode method_2_code 16 = .ok (.ifCond .eq 60, 3) := by decide +kernel
theorem d2_19 : decode method_2_code 19 = .ok (.iload_n 0, 1) := by decide +kernel
theorem d2_20 : decode method_2_code 20 = .ok (.iconst (-1), 1) := by decide +kernel
theorem d2_21 : decode method_2_code 21 = .ok (.if_icmp .ne 8, 3) := by decide +kernel
theorem d2_24 : decode method_2_code 24 = .ok (.iload_n 1, 1) := by decide +kernel
theorem d2_25 : decode method_2_code 25 = .ok (.iconst 1, 1) := by decide +kernel
theorem d2_26 : decode method_2_code 26 = .ok (.if_icmp .eq 50, 3) := by decide +kernel
theorem d2_29 : decode method_2_code 29 = .ok (.iload_n 0, 1) := by decide +kernel
theorem d2_30 : decode method_2_code 30 = .ok (.ifCond .ne 8, 3) := by decide +kernel
theorem d2_38 : decode method_2_code 38 = .ok (.iload_n 0, 1) := by decide +kernel
theorem d2_39 : decode method_2_code 39 = .ok (.ifCond .ne 8, 3) := by decide +kernel
theorem d2_47 : decode method_2_code 47 = .ok (.iload_n 0, 1) := by decide +kernel
theorem d2_48 : decode method_2_code 48 = .ok (.iconst 1, 1) := by decide +kernel
theorem d2_49 : decode method_2_code 49 = .ok (.if_icmp .ne 8, 3) := by decide +kernel
theorem d2_57 : decode method_2_code 57 = .ok (.iload_n 0, 1) := by decide +kernel
theorem d2_58 : decode method_2_code 58 = .ok (.iconst 1, 1) := by decide +kernel
theorem d2_59 : decode method_2_code 59 = .ok (.if_icmp .ne 7, 3) := by decide +kernel
theorem d2_66 : decode method_2_code 66 = .ok (.iload_n 0, 1) := by decide +kernel
theorem d2_67 : decode method_2_code 67 = .ok (.iconst 1, 1) := by decide +kernel
theorem d2_68 : decode method_2_code 68 = .ok (.if_icmp .ne 12, 3) := by decide +kernel
theorem d2_80 : decode method_2_code 80 = .ok (.iconst 0, 1) := by decide +kernel
theorem d2_33 : decode method_2_code 33 = .ok (.iload_n 1, 1) := by decide +kernel
theorem d2_34 : decode method_2_code 34 = .ok (.iconst (-1), 1) := by decide +kernel
theorem d2_35 : decode method_2_code 35 = .ok (.if_icmp .eq 41, 3) := by decide +kernel
theorem d2_42 : decode method_2_code 42 = .ok (.iload_n 1, 1) := by decide +kernel
theorem d2_43 : decode method_2_code 43 = .ok (.iconst 1, 1) := by decide +kernel
theorem d2_44 : decode method_2_code 44 = .ok (.if_icmp .eq 32, 3) := by decide +kernel
theorem d2_52 : decode method_2_code 52 = .ok (.iload_n 1, 1) := by decide +kernel
theorem d2_53 : decode method_2_code 53 = .ok (.iconst (-1), 1) := by decide +kernel
theorem d2_54 : decode method_2_code 54 = .ok (.if_icmp .eq 22, 3) := by decide +kernel
theorem d2_62 : decode method_2_code 62 = .ok (.iload_n 1, 1) := by decide +kernel
theorem d2_63 : decode method_2_code 63 = .ok (.ifCond .eq 13, 3) := by decide +kernel
theorem d2_71 : decode method_2_code 71 = .ok (.iload_n 1, 1) := by decide +kernel
theorem d2_72 : decode method_2_code 72 = .ok (.iconst 1, 1) := by decide +kernel
theorem d2_73 : decode method_2_code 73 = .ok (.if_icmp .ne 7, 3) := by decide +kernel
theorem pn_2 : plainName "com/example/croupier/croupier/paint/ActionIsDirectionPinLaw" = true := by first | (simp [plainName, overriddenIn]; done) | decide +kernel
theorem own_ef2 (m : MethodId) (p1 : Int32) (p2 : Int32) : entryFrame m #[(.int p1), (.int p2)] 2 = mkF m 0 #[iv p1, iv p2] [] := by first | (simp [entryFrame, mkF, argsToLocals, Value.category]; done) | rfl
def own_Q2 (Z : State) (p1 : Int32) (p2 : Int32) (h0 : Heap) (n0 : Nat) (v : Option Value) (h : Heap) (L : List Loc) : Prop := v = some (.int (own_oct p1 p2)) ∧ Fr n0 L ∧ h = h0
set_option maxRecDepth 65536 in
set_option maxHeartbeats 40000000 in
theorem own_rm2 (l : Launch) (Z : State) (a0 : Array Value) (hw : ∀ d ∈ tables_1, d.before a0 Z = true) (ws : List Jvm.Cond) (p1 : Int32) (p2 : Int32) (h0 : Heap) (n0 : Nat) (Z0 : n0 ≤ h0.size) :
    MetFree l (⟨"com/example/croupier/croupier/paint/ActionIsDirectionPinLaw", "oneOfEight", "(II)Z"⟩ : MethodName) (head1 (Jvm.Cond.code (⟨"com/example/croupier/croupier/paint/ActionIsDirectionPinLaw", "oneOfEight", "(II)Z"⟩ : MethodName) method_2_code 2 (some .boolean) :: ws) ({ frames := 0, cells := 0, slots := 0, locals := 0 } : Room)) (fun a U => a = #[(.int p1), (.int p2)] ∧ Z.Warmed39 U.vm ∧ U.heap = h0) (fun _ _ _ _ _ => True) (fun _ U o U' => ∃ v L, o = .returned v ∧ own_Q2 Z p1 p2 h0 n0 v U'.heap L ∧ FrameEnd U o U' L ({ frames := 0, cells := 0, slots := 0, locals := 0 } : Room).cells ({ frames := 0, cells := 0, slots := 0, locals := 0 } : Room).slots) := by
  refine own_body (plainFor_of_name pn_2) (fun m => own_ef2 m p1 p2) ?_
  intro p e s m below meth c T0 X0 hx hby hml hZ hown hnm hret hlk e0
  have hown : s.vm.findClass "com/example/croupier/croupier/paint/ActionIsDirectionPinLaw" = some m.cls := hown
  have hnm : meth.name = "oneOfEight" := hnm
  have N0 := Fr.nil n0
  refine own_st (mkF m 1 #[iv p1, iv p2] [(.int p1)]) (fun t k => XS.iloadN X0.here hx rfl (hb hby d2_0) rfl k) ?_
  refine own_st (mkF m 2 #[iv p1, iv p2] [(.int (-1 : Int32)), (.int p1)]) (fun t k => XS.iconst X0.here hx rfl (hb hby d2_1) k) ?_
  by_cases hc7 : p1 = (-1 : Int32)
  · refine own_st (mkF m 5 #[iv p1, iv p2] []) (fun t k => XS.icmpNo X0.here hx rfl (hb hby d2_2) rfl (teq hc7).2 k) ?_
    refine own_st (mkF m 6 #[iv p1, iv p2] [(.int p2)]) (fun t k => XS.iloadN X0.here hx rfl (hb hby d2_5) rfl k) ?_
    refine own_st (mkF m 7 #[iv p1, iv p2] [(.int (-1 : Int32)), (.int p2)]) (fun t k => XS.iconst X0.here hx rfl (hb hby d2_6) k) ?_
    by_cases hc8 : p2 = (-1 : Int32)
    · refine own_st (mkF m 76 #[iv p1, iv p2] []) (fun t k => XS.icmpYes X0.here hx rfl (pc0 := 7) (pc' := 76) rfl (hb hby d2_7) rfl (teq hc8).1 (by decide) (by decide) k) ?_
      refine own_st (mkF m 77 #[iv p1, iv p2] [(.int (1 : Int32))]) (fun t k => XS.iconst X0.here hx rfl (hb hby d2_76) k) ?_
      refine own_st (mkF m 81 #[iv p1, iv p2] [(.int (1 : Int32))]) (fun t k => XS.goto X0.here hx rfl (pc0 := 77) (pc' := 81) rfl (hb hby d2_77) (by decide) (by decide) k) ?_
      refine own_ret X0 hlk (v := some (.int (1 : Int32))) (fun h => by rw [hret] at h; cases h) (fun fs hr => retN X0 hx (t := .boolean) hret (by simp) (hb hby d2_81) hr) ?_ (by decide) (by decide)
      show own_Q2 Z p1 p2 h0 n0 _ T0.heap _
      rw [e0]
      exact ⟨congrArg (fun z => some (Value.int z)) (by simp [own_oct, hc7, hc8] : (1 : Int32) = own_oct p1 p2), N0, rfl⟩
    · refine own_st (mkF m 10 #[iv p1, iv p2] []) (fun t k => XS.icmpNo X0.here hx rfl (hb hby d2_7) rfl (feq hc8).1 k) ?_
      refine own_st (mkF m 11 #[iv p1, iv p2] [(.int p1)]) (fun t k => XS.iloadN X0.here hx rfl (hb hby d2_10) rfl k) ?_
      refine own_st (mkF m 12 #[iv p1, iv p2] [(.int (-1 : Int32)), (.int p1)]) (fun t k => XS.iconst X0.here hx rfl (hb hby d2_11) k) ?_
      refine own_st (mkF m 15 #[iv p1, iv p2] []) (fun t k => XS.icmpNo X0.here hx rfl (hb hby d2_12) rfl (teq hc7).2 k) ?_
      refine own_st (mkF m 16 #[iv p1, iv p2] [(.int p2)]) (fun t k => XS.iloadN X0.here hx rfl (hb hby d2_15) rfl k) ?_
      by_cases hc9 : p2 = (0 : Int32)
      · refine own_st (mkF m 76 #[iv p1, iv p2] []) (fun t k => XS.ifYes X0.here hx rfl (pc0 := 16) (pc' := 76) rfl (hb hby d2_16) rfl ((if0 _ _).trans (teq hc9).1) (by decide) (by decide) k) ?_
        refine own_st (mkF m 77 #[iv p1, iv p2] [(.int (1 : Int32))]) (fun t k => XS.iconst X0.here hx rfl (hb hby d2_76) k) ?_
        refine own_st (mkF m 81 #[iv p1, iv p2] [(.int (1 : Int32))]) (fun t k => XS.goto X0.here hx rfl (pc0 := 77) (pc' := 81) rfl (hb hby d2_77) (by decide) (by decide) k) ?_
        refine own_ret X0 hlk (v := some (.int (1 : Int32))) (fun h => by rw [hret] at h; cases h) (fun fs hr => retN X0 hx (t := .boolean) hret (by simp) (hb hby d2_81) hr) ?_ (by decide) (by decide)
        show own_Q2 Z p1 p2 h0 n0 _ T0.heap _
        rw [e0]
        exact ⟨congrArg (fun z => some (Value.int z)) (by simp [own_oct, hc7, hc8, hc9] : (1 : Int32) = own_oct p1 p2), N0, rfl⟩
      · refine own_st (mkF m 19 #[iv p1, iv p2] []) (fun t k => XS.ifNo X0.here hx rfl (hb hby d2_16) rfl ((if0 _ _).trans (feq hc9).1) k) ?_
        refine own_st (mkF m 20 #[iv p1, iv p2] [(.int p1)]) (fun t k => XS.iloadN X0.here hx rfl (hb hby d2_19) rfl k) ?_
        refine own_st (mkF m 21 #[iv p1, iv p2] [(.int (-1 : Int32)), (.int p1)]) (fun t k => XS.iconst X0.here hx rfl (hb hby d2_20) k) ?_
        refine own_st (mkF m 24 #[iv p1, iv p2] []) (fun t k => XS.icmpNo X0.here hx rfl (hb hby d2_21) rfl (teq hc7).2 k) ?_
        refine own_st (mkF m 25 #[iv p1, iv p2] [(.int p2)]) (fun t k => XS.iloadN X0.here hx rfl (hb hby d2_24) rfl k) ?_
        refine own_st (mkF m 26 #[iv p1, iv p2] [(.int (1 : Int32)), (.int p2)]) (fun t k => XS.iconst X0.here hx rfl (hb hby d2_25) k) ?_
        by_cases hc10 : p2 = (1 : Int32)
        · refine own_st (mkF m 76 #[iv p1, iv p2] []) (fun t k => XS.icmpYes X0.here hx rfl (pc0 := 26) (pc' := 76) rfl (hb hby d2_26) rfl (teq hc10).1 (by decide) (by decide) k) ?_
          refine own_st (mkF m 77 #[iv p1, iv p2] [(.int (1 : Int32))]) (fun t k => XS.iconst X0.here hx rfl (hb hby d2_76) k) ?_
          refine own_st (mkF m 81 #[iv p1, iv p2] [(.int (1 : Int32))]) (fun t k => XS.goto X0.here hx rfl (pc0 := 77) (pc' := 81) rfl (hb hby d2_77) (by decide) (by decide) k) ?_
          refine own_ret X0 hlk (v := some (.int (1 : Int32))) (fun h => by rw [hret] at h; cases h) (fun fs hr => retN X0 hx (t := .boolean) hret (by simp) (hb hby d2_81) hr) ?_ (by decide) (by decide)
          show own_Q2 Z p1 p2 h0 n0 _ T0.heap _
          rw [e0]
          exact ⟨congrArg (fun z => some (Value.int z)) (by simp [own_oct, hc7, hc8, hc9, hc10] : (1 : Int32) = own_oct p1 p2), N0, rfl⟩
        · refine own_st (mkF m 29 #[iv p1, iv p2] []) (fun t k => XS.icmpNo X0.here hx rfl (hb hby d2_26) rfl (feq hc10).1 k) ?_
          refine own_st (mkF m 30 #[iv p1, iv p2] [(.int p1)]) (fun t k => XS.iloadN X0.here hx rfl (hb hby d2_29) rfl k) ?_
          refine own_st (mkF m 38 #[iv p1, iv p2] []) (fun t k => XS.ifYes X0.here hx rfl (pc0 := 30) (pc' := 38) rfl (hb hby d2_30) rfl ((if0 _ _).trans (feq (by rw [hc7]; decide : ¬ (p1 = (0 : Int32)))).2) (by decide) (by decide) k) ?_
          refine own_st (mkF m 39 #[iv p1, iv p2] [(.int p1)]) (fun t k => XS.iloadN X0.here hx rfl (hb hby d2_38) rfl k) ?_
          refine own_st (mkF m 47 #[iv p1, iv p2] []) (fun t k => XS.ifYes X0.here hx rfl (pc0 := 39) (pc' := 47) rfl (hb hby d2_39) rfl ((if0 _ _).trans (feq (by rw [hc7]; decide : ¬ (p1 = (0 : Int32)))).2) (by decide) (by decide) k) ?_
          refine own_st (mkF m 48 #[iv p1, iv p2] [(.int p1)]) (fun t k => XS.iloadN X0.here hx rfl (hb hby d2_47) rfl k) ?_
          refine own_st (mkF m 49 #[iv p1, iv p2] [(.int (1 : Int32)), (.int p1)]) (fun t k => XS.iconst X0.here hx rfl (hb hby d2_48) k) ?_
          refine own_st (mkF m 57 #[iv p1, iv p2] []) (fun t k => XS.icmpYes X0.here hx rfl (pc0 := 49) (pc' := 57) rfl (hb hby d2_49) rfl (feq (by rw [hc7]; decide : ¬ (p1 = (1 : Int32)))).2 (by decide) (by decide) k) ?_
          refine own_st (mkF m 58 #[iv p1, iv p2] [(.int p1)]) (fun t k => XS.iloadN X0.here hx rfl (hb hby d2_57) rfl k) ?_
          refine own_st (mkF m 59 #[iv p1, iv p2] [(.int (1 : Int32)), (.int p1)]) (fun t k => XS.iconst X0.here hx rfl (hb hby d2_58) k) ?_
          refine own_st (mkF m 66 #[iv p1, iv p2] []) (fun t k => XS.icmpYes X0.here hx rfl (pc0 := 59) (pc' := 66) rfl (hb hby d2_59) rfl (feq (by rw [hc7]; decide : ¬ (p1 = (1 : Int32)))).2 (by decide) (by decide) k) ?_
          refine own_st (mkF m 67 #[iv p1, iv p2] [(.int p1)]) (fun t k => XS.iloadN X0.here hx rfl (hb hby d2_66) rfl k) ?_
          refine own_st (mkF m 68 #[iv p1, iv p2] [(.int (1 : Int32)), (.int p1)]) (fun t k => XS.iconst X0.here hx rfl (hb hby d2_67) k) ?_
          refine own_st (mkF m 80 #[iv p1, iv p2] []) (fun t k => XS.icmpYes X0.here hx rfl (pc0 := 68) (pc' := 80) rfl (hb hby d2_68) rfl (feq (by rw [hc7]; decide : ¬ (p1 = (1 : Int32)))).2 (by decide) (by decide) k) ?_
          refine own_st (mkF m 81 #[iv p1, iv p2] [(.int (0 : Int32))]) (fun t k => XS.iconst X0.here hx rfl (hb hby d2_80) k) ?_
          refine own_ret X0 hlk (v := some (.int (0 : Int32))) (fun h => by rw [hret] at h; cases h) (fun fs hr => retN X0 hx (t := .boolean) hret (by simp) (hb hby d2_81) hr) ?_ (by decide) (by decide)
          show own_Q2 Z p1 p2 h0 n0 _ T0.heap _
          rw [e0]
          exact ⟨congrArg (fun z => some (Value.int z)) (by simp [own_oct, hc7, hc8, hc9, hc10] : (0 : Int32) = own_oct p1 p2), N0, rfl⟩
  · refine own_st (mkF m 10 #[iv p1, iv p2] []) (fun t k => XS.icmpYes X0.here hx rfl (pc0 := 2) (pc' := 10) rfl (hb hby d2_2) rfl (feq hc7).2 (by decide) (by decide) k) ?_
    refine own_st (mkF m 11 #[iv p1, iv p2] [(.int p1)]) (fun t k => XS.iloadN X0.here hx rfl (hb hby d2_10) rfl k) ?_
    refine own_st (mkF m 12 #[iv p1, iv p2] [(.int (-1 : Int32)), (.int p1)]) (fun t k => XS.iconst X0.here hx rfl (hb hby d2_11) k) ?_
    refine own_st (mkF m 19 #[iv p1, iv p2] []) (fun t k => XS.icmpYes X0.here hx rfl (pc0 := 12) (pc' := 19) rfl (hb hby d2_12) rfl (feq hc7).2 (by decide) (by decide) k) ?_
    refine own_st (mkF m 20 #[iv p1, iv p2] [(.int p1)]) (fun t k => XS.iloadN X0.here hx rfl (hb hby d2_19) rfl k) ?_
    refine own_st (mkF m 21 #[iv p1, iv p2] [(.int (-1 : Int32)), (.int p1)]) (fun t k => XS.iconst X0.here hx rfl (hb hby d2_20) k) ?_
    refine own_st (mkF m 29 #[iv p1, iv p2] []) (fun t k => XS.icmpYes X0.here hx rfl (pc0 := 21) (pc' := 29) rfl (hb hby d2_21) rfl (feq hc7).2 (by decide) (by decide) k) ?_
    refine own_st (mkF m 30 #[iv p1, iv p2] [(.int p1)]) (fun t k => XS.iloadN X0.here hx rfl (hb hby d2_29) rfl k) ?_
    by_cases hc11 : p1 = (0 : Int32)
    · refine own_st (mkF m 33 #[iv p1, iv p2] []) (fun t k => XS.ifNo X0.here hx rfl (hb hby d2_30) rfl ((if0 _ _).trans (teq hc11).2) k) ?_
      refine own_st (mkF m 34 #[iv p1, iv p2] [(.int p2)]) (fun t k => XS.iloadN X0.here hx rfl (hb hby d2_33) rfl k) ?_
      refine own_st (mkF m 35 #[iv p1, iv p2] [(.int (-1 : Int32)), (.int p2)]) (fun t k => XS.iconst X0.here hx rfl (hb hby d2_34) k) ?_
      by_cases hc12 : p2 = (-1 : Int32)
      · refine own_st (mkF m 76 #[iv p1, iv p2] []) (fun t k => XS.icmpYes X0.here hx rfl (pc0 := 35) (pc' := 76) rfl (hb hby d2_35) rfl (teq hc12).1 (by decide) (by decide) k) ?_
        refine own_st (mkF m 77 #[iv p1, iv p2] [(.int (1 : Int32))]) (fun t k => XS.iconst X0.here hx rfl (hb hby d2_76) k) ?_
        refine own_st (mkF m 81 #[iv p1, iv p2] [(.int (1 : Int32))]) (fun t k => XS.goto X0.here hx rfl (pc0 := 77) (pc' := 81) rfl (hb hby d2_77) (by decide) (by decide) k) ?_
        refine own_ret X0 hlk (v := some (.int (1 : Int32))) (fun h => by rw [hret] at h; cases h) (fun fs hr => retN X0 hx (t := .boolean) hret (by simp) (hb hby d2_81) hr) ?_ (by decide) (by decide)
        show own_Q2 Z p1 p2 h0 n0 _ T0.heap _
        rw [e0]
        exact ⟨congrArg (fun z => some (Value.int z)) (by simp [own_oct, hc7, hc11, hc12] : (1 : Int32) = own_oct p1 p2), N0, rfl⟩
      · refine own_st (mkF m 38 #[iv p1, iv p2] []) (fun t k => XS.icmpNo X0.here hx rfl (hb hby d2_35) rfl (feq hc12).1 k) ?_
        refine own_st (mkF m 39 #[iv p1, iv p2] [(.int p1)]) (fun t k => XS.iloadN X0.here hx rfl (hb hby d2_38) rfl k) ?_
        refine own_st (mkF m 42 #[iv p1, iv p2] []) (fun t k => XS.ifNo X0.here hx rfl (hb hby d2_39) rfl ((if0 _ _).trans (teq hc11).2) k) ?_
        refine own_st (mkF m 43 #[iv p1, iv p2] [(.int p2)]) (fun t k => XS.iloadN X0.here hx rfl (hb hby d2_42) rfl k) ?_
        refine own_st (mkF m 44 #[iv p1, iv p2] [(.int (1 : Int32)), (.int p2)]) (fun t k => XS.iconst X0.here hx rfl (hb hby d2_43) k) ?_
        by_cases hc13 : p2 = (1 : Int32)
        · refine own_st (mkF m 76 #[iv p1, iv p2] []) (fun t k => XS.icmpYes X0.here hx rfl (pc0 := 44) (pc' := 76) rfl (hb hby d2_44) rfl (teq hc13).1 (by decide) (by decide) k) ?_
          refine own_st (mkF m 77 #[iv p1, iv p2] [(.int (1 : Int32))]) (fun t k => XS.iconst X0.here hx rfl (hb hby d2_76) k) ?_
          refine own_st (mkF m 81 #[iv p1, iv p2] [(.int (1 : Int32))]) (fun t k => XS.goto X0.here hx rfl (pc0 := 77) (pc' := 81) rfl (hb hby d2_77) (by decide) (by decide) k) ?_
          refine own_ret X0 hlk (v := some (.int (1 : Int32))) (fun h => by rw [hret] at h; cases h) (fun fs hr => retN X0 hx (t := .boolean) hret (by simp) (hb hby d2_81) hr) ?_ (by decide) (by decide)
          show own_Q2 Z p1 p2 h0 n0 _ T0.heap _
          rw [e0]
          exact ⟨congrArg (fun z => some (Value.int z)) (by simp [own_oct, hc7, hc11, hc12, hc13] : (1 : Int32) = own_oct p1 p2), N0, rfl⟩
        · refine own_st (mkF m 47 #[iv p1, iv p2] []) (fun t k => XS.icmpNo X0.here hx rfl (hb hby d2_44) rfl (feq hc13).1 k) ?_
          refine own_st (mkF m 48 #[iv p1, iv p2] [(.int p1)]) (fun t k => XS.iloadN X0.here hx rfl (hb hby d2_47) rfl k) ?_
          refine own_st (mkF m 49 #[iv p1, iv p2] [(.int (1 : Int32)), (.int p1)]) (fun t k => XS.iconst X0.here hx rfl (hb hby d2_48) k) ?_
          refine own_st (mkF m 57 #[iv p1, iv p2] []) (fun t k => XS.icmpYes X0.here hx rfl (pc0 := 49) (pc' := 57) rfl (hb hby d2_49) rfl (feq (by rw [hc11]; decide : ¬ (p1 = (1 : Int32)))).2 (by decide) (by decide) k) ?_
          refine own_st (mkF m 58 #[iv p1, iv p2] [(.int p1)]) (fun t k => XS.iloadN X0.here hx rfl (hb hby d2_57) rfl k) ?_
          refine own_st (mkF m 59 #[iv p1, iv p2] [(.int (1 : Int32)), (.int p1)]) (fun t k => XS.iconst X0.here hx rfl (hb hby d2_58) k) ?_
          refine own_st (mkF m 66 #[iv p1, iv p2] []) (fun t k => XS.icmpYes X0.here hx rfl (pc0 := 59) (pc' := 66) rfl (hb hby d2_59) rfl (feq (by rw [hc11]; decide : ¬ (p1 = (1 : Int32)))).2 (by decide) (by decide) k) ?_
          refine own_st (mkF m 67 #[iv p1, iv p2] [(.int p1)]) (fun t k => XS.iloadN X0.here hx rfl (hb hby d2_66) rfl k) ?_
          refine own_st (mkF m 68 #[iv p1, iv p2] [(.int (1 : Int32)), (.int p1)]) (fun t k => XS.iconst X0.here hx rfl (hb hby d2_67) k) ?_
          refine own_st (mkF m 80 #[iv p1, iv p2] []) (fun t k => XS.icmpYes X0.here hx rfl (pc0 := 68) (pc' := 80) rfl (hb hby d2_68) rfl (feq (by rw [hc11]; decide : ¬ (p1 = (1 : Int32)))).2 (by decide) (by decide) k) ?_
          refine own_st (mkF m 81 #[iv p1, iv p2] [(.int (0 : Int32))]) (fun t k => XS.iconst X0.here hx rfl (hb hby d2_80) k) ?_
          refine own_ret X0 hlk (v := some (.int (0 : Int32))) (fun h => by rw [hret] at h; cases h) (fun fs hr => retN X0 hx (t := .boolean) hret (by simp) (hb hby d2_81) hr) ?_ (by decide) (by decide)
          show own_Q2 Z p1 p2 h0 n0 _ T0.heap _
          rw [e0]
          exact ⟨congrArg (fun z => some (Value.int z)) (by simp [own_oct, hc7, hc11, hc12, hc13] : (0 : Int32) = own_oct p1 p2), N0, rfl⟩
    · refine own_st (mkF m 38 #[iv p1, iv p2] []) (fun t k => XS.ifYes X0.here hx rfl (pc0 := 30) (pc' := 38) rfl (hb hby d2_30) rfl ((if0 _ _).trans (feq hc11).2) (by decide) (by decide) k) ?_
      refine own_st (mkF m 39 #[iv p1, iv p2] [(.int p1)]) (fun t k => XS.iloadN X0.here hx rfl (hb hby d2_38) rfl k) ?_
      refine own_st (mkF m 47 #[iv p1, iv p2] []) (fun t k => XS.ifYes X0.here hx rfl (pc0 := 39) (pc' := 47) rfl (hb hby d2_39) rfl ((if0 _ _).trans (feq hc11).2) (by decide) (by decide) k) ?_
      refine own_st (mkF m 48 #[iv p1, iv p2] [(.int p1)]) (fun t k => XS.iloadN X0.here hx rfl (hb hby d2_47) rfl k) ?_
      refine own_st (mkF m 49 #[iv p1, iv p2] [(.int (1 : Int32)), (.int p1)]) (fun t k => XS.iconst X0.here hx rfl (hb hby d2_48) k) ?_
      by_cases hc14 : p1 = (1 : Int32)
      · refine own_st (mkF m 52 #[iv p1, iv p2] []) (fun t k => XS.icmpNo X0.here hx rfl (hb hby d2_49) rfl (teq hc14).2 k) ?_
        refine own_st (mkF m 53 #[iv p1, iv p2] [(.int p2)]) (fun t k => XS.iloadN X0.here hx rfl (hb hby d2_52) rfl k) ?_
        refine own_st (mkF m 54 #[iv p1, iv p2] [(.int (-1 : Int32)), (.int p2)]) (fun t k => XS.iconst X0.here hx rfl (hb hby d2_53) k) ?_
        by_cases hc15 : p2 = (-1 : Int32)
        · refine own_st (mkF m 76 #[iv p1, iv p2] []) (fun t k => XS.icmpYes X0.here hx rfl (pc0 := 54) (pc' := 76) rfl (hb hby d2_54) rfl (teq hc15).1 (by decide) (by decide) k) ?_
          refine own_st (mkF m 77 #[iv p1, iv p2] [(.int (1 : Int32))]) (fun t k => XS.iconst X0.here hx rfl (hb hby d2_76) k) ?_
          refine own_st (mkF m 81 #[iv p1, iv p2] [(.int (1 : Int32))]) (fun t k => XS.goto X0.here hx rfl (pc0 := 77) (pc' := 81) rfl (hb hby d2_77) (by decide) (by decide) k) ?_
          refine own_ret X0 hlk (v := some (.int (1 : Int32))) (fun h => by rw [hret] at h; cases h) (fun fs hr => retN X0 hx (t := .boolean) hret (by simp) (hb hby d2_81) hr) ?_ (by decide) (by decide)
          show own_Q2 Z p1 p2 h0 n0 _ T0.heap _
          rw [e0]
          exact ⟨congrArg (fun z => some (Value.int z)) (by simp [own_oct, hc7, hc11, hc14, hc15] : (1 : Int32) = own_oct p1 p2), N0, rfl⟩
        · refine own_st (mkF m 57 #[iv p1, iv p2] []) (fun t k => XS.icmpNo X0.here hx rfl (hb hby d2_54) rfl (feq hc15).1 k) ?_
          refine own_st (mkF m 58 #[iv p1, iv p2] [(.int p1)]) (fun t k => XS.iloadN X0.here hx rfl (hb hby d2_57) rfl k) ?_
          refine own_st (mkF m 59 #[iv p1, iv p2] [(.int (1 : Int32)), (.int p1)]) (fun t k => XS.iconst X0.here hx rfl (hb hby d2_58) k) ?_
          refine own_st (mkF m 62 #[iv p1, iv p2] []) (fun t k => XS.icmpNo X0.here hx rfl (hb hby d2_59) rfl (teq hc14).2 k) ?_
          refine own_st (mkF m 63 #[iv p1, iv p2] [(.int p2)]) (fun t k => XS.iloadN X0.here hx rfl (hb hby d2_62) rfl k) ?_
          by_cases hc16 : p2 = (0 : Int32)
          · refine own_st (mkF m 76 #[iv p1, iv p2] []) (fun t k => XS.ifYes X0.here hx rfl (pc0 := 63) (pc' := 76) rfl (hb hby d2_63) rfl ((if0 _ _).trans (teq hc16).1) (by decide) (by decide) k) ?_
            refine own_st (mkF m 77 #[iv p1, iv p2] [(.int (1 : Int32))]) (fun t k => XS.iconst X0.here hx rfl (hb hby d2_76) k) ?_
            refine own_st (mkF m 81 #[iv p1, iv p2] [(.int (1 : Int32))]) (fun t k => XS.goto X0.here hx rfl (pc0 := 77) (pc' := 81) rfl (hb hby d2_77) (by decide) (by decide) k) ?_
            refine own_ret X0 hlk (v := some (.int (1 : Int32))) (fun h => by rw [hret] at h; cases h) (fun fs hr => retN X0 hx (t := .boolean) hret (by simp) (hb hby d2_81) hr) ?_ (by decide) (by decide)
            show own_Q2 Z p1 p2 h0 n0 _ T0.heap _
            rw [e0]
            exact ⟨congrArg (fun z => some (Value.int z)) (by simp [own_oct, hc7, hc11, hc14, hc15, hc16] : (1 : Int32) = own_oct p1 p2), N0, rfl⟩
          · refine own_st (mkF m 66 #[iv p1, iv p2] []) (fun t k => XS.ifNo X0.here hx rfl (hb hby d2_63) rfl ((if0 _ _).trans (feq hc16).1) k) ?_
            refine own_st (mkF m 67 #[iv p1, iv p2] [(.int p1)]) (fun t k => XS.iloadN X0.here hx rfl (hb hby d2_66) rfl k) ?_
            refine own_st (mkF m 68 #[iv p1, iv p2] [(.int (1 : Int32)), (.int p1)]) (fun t k => XS.iconst X0.here hx rfl (hb hby d2_67) k) ?_
            refine own_st (mkF m 71 #[iv p1, iv p2] []) (fun t k => XS.icmpNo X0.here hx rfl (hb hby d2_68) rfl (teq hc14).2 k) ?_
            refine own_st (mkF m 72 #[iv p1, iv p2] [(.int p2)]) (fun t k => XS.iloadN X0.here hx rfl (hb hby d2_71) rfl k) ?_
            refine own_st (mkF m 73 #[iv p1, iv p2] [(.int (1 : Int32)), (.int p2)]) (fun t k => XS.iconst X0.here hx rfl (hb hby d2_72) k) ?_
            by_cases hc17 : p2 = (1 : Int32)
            · refine own_st (mkF m 76 #[iv p1, iv p2] []) (fun t k => XS.icmpNo X0.here hx rfl (hb hby d2_73) rfl (teq hc17).2 k) ?_
              refine own_st (mkF m 77 #[iv p1, iv p2] [(.int (1 : Int32))]) (fun t k => XS.iconst X0.here hx rfl (hb hby d2_76) k) ?_
              refine own_st (mkF m 81 #[iv p1, iv p2] [(.int (1 : Int32))]) (fun t k => XS.goto X0.here hx rfl (pc0 := 77) (pc' := 81) rfl (hb hby d2_77) (by decide) (by decide) k) ?_
              refine own_ret X0 hlk (v := some (.int (1 : Int32))) (fun h => by rw [hret] at h; cases h) (fun fs hr => retN X0 hx (t := .boolean) hret (by simp) (hb hby d2_81) hr) ?_ (by decide) (by decide)
              show own_Q2 Z p1 p2 h0 n0 _ T0.heap _
              rw [e0]
              exact ⟨congrArg (fun z => some (Value.int z)) (by simp [own_oct, hc7, hc11, hc14, hc15, hc16, hc17] : (1 : Int32) = own_oct p1 p2), N0, rfl⟩
            · refine own_st (mkF m 80 #[iv p1, iv p2] []) (fun t k => XS.icmpYes X0.here hx rfl (pc0 := 73) (pc' := 80) rfl (hb hby d2_73) rfl (feq hc17).2 (by decide) (by decide) k) ?_
              refine own_st (mkF m 81 #[iv p1, iv p2] [(.int (0 : Int32))]) (fun t k => XS.iconst X0.here hx rfl (hb hby d2_80) k) ?_
              refine own_ret X0 hlk (v := some (.int (0 : Int32))) (fun h => by rw [hret] at h; cases h) (fun fs hr => retN X0 hx (t := .boolean) hret (by simp) (hb hby d2_81) hr) ?_ (by decide) (by decide)
              show own_Q2 Z p1 p2 h0 n0 _ T0.heap _
              rw [e0]
              exact ⟨congrArg (fun z => some (Value.int z)) (by simp [own_oct, hc7, hc11, hc14, hc15, hc16, hc17] : (0 : Int32) = own_oct p1 p2), N0, rfl⟩
      · refine own_st (mkF m 57 #[iv p1, iv p2] []) (fun t k => XS.icmpYes X0.here hx rfl (pc0 := 49) (pc' := 57) rfl (hb hby d2_49) rfl (feq hc14).2 (by decide) (by decide) k) ?_
        refine own_st (mkF m 58 #[iv p1, iv p2] [(.int p1)]) (fun t k => XS.iloadN X0.here hx rfl (hb hby d2_57) rfl k) ?_
        refine own_st (mkF m 59 #[iv p1, iv p2] [(.int (1 : Int32)), (.int p1)]) (fun t k => XS.iconst X0.here hx rfl (hb hby d2_58) k) ?_
        refine own_st (mkF m 66 #[iv p1, iv p2] []) (fun t k => XS.icmpYes X0.here hx rfl (pc0 := 59) (pc' := 66) rfl (hb hby d2_59) rfl (feq hc14).2 (by decide) (by decide) k) ?_
        refine own_st (mkF m 67 #[iv p1, iv p2] [(.int p1)]) (fun t k => XS.iloadN X0.here hx rfl (hb hby d2_66) rfl k) ?_
        refine own_st (mkF m 68 #[iv p1, iv p2] [(.int (1 : Int32)), (.int p1)]) (fun t k => XS.iconst X0.here hx rfl (hb hby d2_67) k) ?_
        refine own_st (mkF m 80 #[iv p1, iv p2] []) (fun t k => XS.icmpYes X0.here hx rfl (pc0 := 68) (pc' := 80) rfl (hb hby d2_68) rfl (feq hc14).2 (by decide) (by decide) k) ?_
        refine own_st (mkF m 81 #[iv p1, iv p2] [(.int (0 : Int32))]) (fun t k => XS.iconst X0.here hx rfl (hb hby d2_80) k) ?_
        refine own_ret X0 hlk (v := some (.int (0 : Int32))) (fun h => by rw [hret] at h; cases h) (fun fs hr => retN X0 hx (t := .boolean) hret (by simp) (hb hby d2_81) hr) ?_ (by decide) (by decide)
        show own_Q2 Z p1 p2 h0 n0 _ T0.heap _
        rw [e0]
        exact ⟨congrArg (fun z => some (Value.int z)) (by simp [own_oct, hc7, hc11, hc14] : (0 : Int32) = own_oct p1 p2), N0, rfl⟩
theorem hw_0 {a0 : Array Value} {Z : State} (hw : ∀ d ∈ tables_1, d.before a0 Z = true) : (Jvm.Cond.methodLink "com/example/croupier/croupier/paint/ActionIsDirectionPinLaw" (7 : Nat) ({ cls := "com/example/croupier/croupier/paint/Action", name := "isDirection", desc := "(II)Z" } : Jvm.MethodName)).before a0 Z = true := hw _ (List.mem_of_getElem? (i := 0) rfl)
theorem hw_3 {a0 : Array Value} {Z : State} (hw : ∀ d ∈ tables_1, d.before a0 Z = true) : (Jvm.Cond.code ({ cls := "com/example/croupier/croupier/paint/Action", name := "isDirection", desc := "(II)Z" } : Jvm.MethodName) prog_40_method_2_code (2 : Nat) (Option.some Jvm.ClassFile.FieldType.boolean)).before a0 Z = true := hw _ (List.mem_of_getElem? (i := 3) rfl)
theorem hw_2 {a0 : Array Value} {Z : State} (hw : ∀ d ∈ tables_1, d.before a0 Z = true) : (Jvm.Cond.initialized "com/example/croupier/croupier/paint/Action").before a0 Z = true := hw _ (List.mem_of_getElem? (i := 2) rfl)
theorem pd_0 : parseMethodDescriptor "(II)Z" = some ⟨[.int, .int], some .boolean⟩ := by decide +kernel
theorem hw_1 {a0 : Array Value} {Z : State} (hw : ∀ d ∈ tables_1, d.before a0 Z = true) : (Jvm.Cond.static ({ cls := "com/example/croupier/croupier/paint/Action", name := "isDirection", desc := "(II)Z" } : Jvm.MethodName)).before a0 Z = true := hw _ (List.mem_of_getElem? (i := 1) rfl)
theorem hw_4 {a0 : Array Value} {Z : State} (hw : ∀ d ∈ tables_1, d.before a0 Z = true) : (Jvm.Cond.methodLink "com/example/croupier/croupier/paint/ActionIsDirectionPinLaw" (13 : Nat) ({ cls := "com/example/croupier/croupier/paint/ActionIsDirectionPinLaw", name := "oneOfEight", desc := "(II)Z" } : Jvm.MethodName)).before a0 Z = true := hw _ (List.mem_of_getElem? (i := 4) rfl)
theorem hw_7 {a0 : Array Value} {Z : State} (hw : ∀ d ∈ tables_1, d.before a0 Z = true) : (Jvm.Cond.code ({ cls := "com/example/croupier/croupier/paint/ActionIsDirectionPinLaw", name := "oneOfEight", desc := "(II)Z" } : Jvm.MethodName) method_2_code (2 : Nat) (Option.some Jvm.ClassFile.FieldType.boolean)).before a0 Z = true := hw _ (List.mem_of_getElem? (i := 7) rfl)
theorem hw_6 {a0 : Array Value} {Z : State} (hw : ∀ d ∈ tables_1, d.before a0 Z = true) : (Jvm.Cond.initialized "com/example/croupier/croupier/paint/ActionIsDirectionPinLaw").before a0 Z = true := hw _ (List.mem_of_getElem? (i := 6) rfl)
theorem hw_5 {a0 : Array Value} {Z : State} (hw : ∀ d ∈ tables_1, d.before a0 Z = true) : (Jvm.Cond.static ({ cls := "com/example/croupier/croupier/paint/ActionIsDirectionPinLaw", name := "oneOfEight", desc := "(II)Z" } : Jvm.MethodName)).before a0 Z = true := hw _ (List.mem_of_getElem? (i := 5) rfl)
theorem own_ef0 (m : MethodId) (p1 : Int32) (p2 : Int32) (p3 : Int32) : entryFrame m #[(.int p1), (.int p2), (.int p3)] maxLocals = mkF m 0 #[iv p1, iv p2, iv p3, .unset, .unset] [] := by first | (simp [entryFrame, mkF, argsToLocals, Value.category, maxLocals]; done) | rfl
def own_Q0 (Z : State) (p1 : Int32) (p2 : Int32) (p3 : Int32) (h0 : Heap) (n0 : Nat) (v : Option Value) (h : Heap) (L : List Loc) : Prop := v = some (.int 1) ∧ Fr n0 L
set_option maxRecDepth 65536 in
set_option maxHeartbeats 40000000 in
theorem own_rm0 (l : Launch) (Z : State) (a0 : Array Value) (hw : ∀ d ∈ tables_1, d.before a0 Z = true) (ws : List Jvm.Cond) (p1 : Int32) (p2 : Int32) (p3 : Int32) (h0 : Heap) (n0 : Nat) (Z0 : n0 ≤ h0.size) :
    MetFree l x (head1 (Jvm.Cond.code x code maxLocals ret :: ws) room_1) (fun a U => a = #[(.int p1), (.int p2), (.int p3)] ∧ Z.Warmed39 U.vm ∧ U.heap = h0) (fun _ _ _ _ _ => True) (fun _ U o U' => ∃ v L, o = .returned v ∧ own_Q0 Z p1 p2 p3 h0 n0 v U'.heap L ∧ FrameEnd U o U' L 0 0) := by
  refine own_body (plainFor_of_name pn_2) (fun m => own_ef0 m p1 p2 p3) ?_
  intro p e s m below meth c T0 X0 hx hby hml hZ hown hnm hret hlk e0
  have hown : s.vm.findClass "com/example/croupier/croupier/paint/ActionIsDirectionPinLaw" = some m.cls := hown
  have hnm : meth.name = "law" := hnm
  have N0 := Fr.nil n0
  refine own_st (mkF m 1 #[iv p1, iv p2, iv p3, .unset, .unset] [(.int p3)]) (fun t k => XS.iloadN X0.here hx rfl (hb hby at_0) rfl k) ?_
  refine own_st (mkF m 2 #[iv p1, iv p2, iv p3, .unset, .unset] [(.int (1 : Int32)), (.int p3)]) (fun t k => XS.iconst X0.here hx rfl (hb hby at_1) k) ?_
  refine own_st (mkF m 3 #[iv p1, iv p2, iv p3, .unset, .unset] [(.int (p3 &&& (1 : Int32)))]) (fun t k => XS.iand X0.here hx rfl (hb hby at_2) rfl k) ?_
  by_cases hc18 : (p3 &&& (1 : Int32)) = (0 : Int32)
  · refine own_st (mkF m 10 #[iv p1, iv p2, iv p3, .unset, .unset] []) (fun t k => XS.ifYes X0.here hx rfl (pc0 := 3) (pc' := 10) rfl (hb hby at_3) rfl ((if0 _ _).trans (teq hc18).1) (by decide) (by decide) k) ?_
    refine own_st (mkF m 11 #[iv p1, iv p2, iv p3, .unset, .unset] [(.int p1)]) (fun t k => XS.iloadN X0.here hx rfl (hb hby at_10) rfl k) ?_
    refine own_st (mkF m 12 #[iv p1, iv p2, iv p3, .unset, .unset] [(.int (3 : Int32)), (.int p1)]) (fun t k => XS.iconst X0.here hx rfl (hb hby at_11) k) ?_
    refine own_st (mkF m 13 #[iv p1, iv p2, iv p3, .unset, .unset] [(.int (p1 % (3 : Int32)))]) (fun t k => iremM X0 hx rfl (hb hby at_12) rfl (by decide) k) ?_
    refine own_st (mkF m 14 #[iv p1, iv p2, iv p3, iv (p1 % (3 : Int32)), .unset] []) (fun t k => XS.istoreN X0.here hx rfl (hb hby at_13) rfl (l' := #[iv p1, iv p2, iv p3, iv (p1 % (3 : Int32)), .unset]) rfl k) ?_
    refine own_st (mkF m 15 #[iv p1, iv p2, iv p3, iv (p1 % (3 : Int32)), .unset] [(.int p3)]) (fun t k => XS.iloadN X0.here hx rfl (hb hby at_14) rfl k) ?_
    refine own_st (mkF m 16 #[iv p1, iv p2, iv p3, iv (p1 % (3 : Int32)), .unset] [(.int (2 : Int32)), (.int p3)]) (fun t k => XS.iconst X0.here hx rfl (hb hby at_15) k) ?_
    refine own_st (mkF m 17 #[iv p1, iv p2, iv p3, iv (p1 % (3 : Int32)), .unset] [(.int (p3 &&& (2 : Int32)))]) (fun t k => XS.iand X0.here hx rfl (hb hby at_16) rfl k) ?_
    by_cases hc19 : (p3 &&& (2 : Int32)) = (0 : Int32)
    · refine own_st (mkF m 24 #[iv p1, iv p2, iv p3, iv (p1 % (3 : Int32)), .unset] []) (fun t k => XS.ifYes X0.here hx rfl (pc0 := 17) (pc' := 24) rfl (hb hby at_17) rfl ((if0 _ _).trans (teq hc19).1) (by decide) (by decide) k) ?_
      refine own_st (mkF m 25 #[iv p1, iv p2, iv p3, iv (p1 % (3 : Int32)), .unset] [(.int p2)]) (fun t k => XS.iloadN X0.here hx rfl (hb hby at_24) rfl k) ?_
      refine own_st (mkF m 26 #[iv p1, iv p2, iv p3, iv (p1 % (3 : Int32)), .unset] [(.int (3 : Int32)), (.int p2)]) (fun t k => XS.iconst X0.here hx rfl (hb hby at_25) k) ?_
      refine own_st (mkF m 27 #[iv p1, iv p2, iv p3, iv (p1 % (3 : Int32)), .unset] [(.int (p2 % (3 : Int32)))]) (fun t k => iremM X0 hx rfl (hb hby at_26) rfl (by decide) k) ?_
      refine own_st (mkF m 29 #[iv p1, iv p2, iv p3, iv (p1 % (3 : Int32)), iv (p2 % (3 : Int32))] []) (fun t k => XS.istore X0.here hx rfl (hb hby at_27) rfl (l' := #[iv p1, iv p2, iv p3, iv (p1 % (3 : Int32)), iv (p2 % (3 : Int32))]) rfl k) ?_
      refine own_st (mkF m 30 #[iv p1, iv p2, iv p3, iv (p1 % (3 : Int32)), iv (p2 % (3 : Int32))] [(.int (p1 % (3 : Int32)))]) (fun t k => XS.iloadN X0.here hx rfl (hb hby at_29) rfl k) ?_
      refine own_st (mkF m 32 #[iv p1, iv p2, iv p3, iv (p1 % (3 : Int32)), iv (p2 % (3 : Int32))] [(.int (p2 % (3 : Int32))), (.int (p1 % (3 : Int32)))]) (fun t k => XS.iload X0.here hx rfl (hb hby at_30) rfl k) ?_
      obtain ⟨_, _, ⟨T20, L20, k20, n20⟩, -, X20, ⟨Lc20, hQ20, l20, y20, z20⟩, st20⟩ := Jvm.LawKit.callS X0 hx (y := (⟨"com/example/croupier/croupier/paint/Action", "isDirection", "(II)Z"⟩ : MethodName)) hown (mvT hZ (hw_0 hw)) (mvT hZ (hw_1 hw)) (mvT hZ (hw_2 hw)) (mvT hZ (hw_3 hw)) (by decide) (backOf (W := 0) (own_rm1 l Z a0 hw [] (p1 % (3 : Int32)) (p2 % (3 : Int32)) h0 n0 Z0) hZ (hw_3 hw) (hw_2 hw) (by decide) (by decide)) (g := (mkF m 32 #[iv p1, iv p2, iv p3, iv (p1 % (3 : Int32)), iv (p2 % (3 : Int32))] [(.int (p2 % (3 : Int32))), (.int (p1 % (3 : Int32)))])) rfl (by rw [hml]; rfl) (argsL := [(.int (p1 % (3 : Int32))), (.int (p2 % (3 : Int32)))]) (rest := []) (lenOf pd_0 rfl) rfl (by show 2 * 0 + _ ≤ _; exact Nat.le_of_eq rfl) (hb hby at_32) (fun _ _ => ⟨rfl, e0, (by decide : 0 + 0 ≤ _), (by decide : 0 + 0 ≤ _)⟩)
      dsimp only [Pt.U, Pt.locs, Pt.cells, Pt.slots] at X20 l20 y20 z20 st20 hQ20
      subst l20 y20 z20
      obtain ⟨rfl, Nq20, e20⟩ := hQ20
      have N20 := Fr.app N0 Nq20
      refine own_step (g' := (mkF m 35 #[iv p1, iv p2, iv p3, iv (p1 % (3 : Int32)), iv (p2 % (3 : Int32))] [(.int (own_dir (p1 % (3 : Int32)) (p2 % (3 : Int32))))])) st20 ?_
      refine own_st (mkF m 36 #[iv p1, iv p2, iv p3, iv (p1 % (3 : Int32)), iv (p2 % (3 : Int32))] [(.int (p1 % (3 : Int32))), (.int (own_dir (p1 % (3 : Int32)) (p2 % (3 : Int32))))]) (fun t k => XS.iloadN X20.here hx rfl (hb hby at_35) rfl k) ?_
      refine own_st (mkF m 38 #[iv p1, iv p2, iv p3, iv (p1 % (3 : Int32)), iv (p2 % (3 : Int32))] [(.int (p2 % (3 : Int32))), (.int (p1 % (3 : Int32))), (.int (own_dir (p1 % (3 : Int32)) (p2 % (3 : Int32))))]) (fun t k => XS.iload X20.here hx rfl (hb hby at_36) rfl k) ?_
      obtain ⟨_, _, ⟨T21, L21, k21, n21⟩, -, X21, ⟨Lc21, hQ21, l21, y21, z21⟩, st21⟩ := Jvm.LawKit.callS X20 hx (y := (⟨"com/example/croupier/croupier/paint/ActionIsDirectionPinLaw", "oneOfEight", "(II)Z"⟩ : MethodName)) hown (mvT hZ (hw_4 hw)) (mvT hZ (hw_5 hw)) (mvT hZ (hw_6 hw)) (mvT hZ (hw_7 hw)) (by decide) (backOf (W := 1) (own_rm2 l Z a0 hw [] (p1 % (3 : Int32)) (p2 % (3 : Int32)) h0 n0 Z0) hZ (hw_7 hw) (hw_6 hw) (by decide) (by decide)) (g := (mkF m 38 #[iv p1, iv p2, iv p3, iv (p1 % (3 : Int32)), iv (p2 % (3 : Int32))] [(.int (p2 % (3 : Int32))), (.int (p1 % (3 : Int32))), (.int (own_dir (p1 % (3 : Int32)) (p2 % (3 : Int32))))])) rfl (by rw [hml]; rfl) (argsL := [(.int (p1 % (3 : Int32))), (.int (p2 % (3 : Int32)))]) (rest := [(.int (own_dir (p1 % (3 : Int32)) (p2 % (3 : Int32))))]) (lenOf pd_0 rfl) rfl (by show 2 * 0 + _ ≤ _; exact Nat.le_of_eq rfl) (hb hby at_38) (fun _ _ => ⟨rfl, e20, (by decide : 0 + 0 ≤ _), (by decide : 0 + 0 ≤ _)⟩)
      dsimp only [Pt.U, Pt.locs, Pt.cells, Pt.slots] at X21 l21 y21 z21 st21 hQ21
      subst l21 y21 z21
      obtain ⟨rfl, Nq21, e21⟩ := hQ21
      have N21 := Fr.app N20 Nq21
      refine own_step (g' := (mkF m 41 #[iv p1, iv p2, iv p3, iv (p1 % (3 : Int32)), iv (p2 % (3 : Int32))] [(.int (own_oct (p1 % (3 : Int32)) (p2 % (3 : Int32)))), (.int (own_dir (p1 % (3 : Int32)) (p2 % (3 : Int32))))])) st21 ?_
      refine own_st (mkF m 44 #[iv p1, iv p2, iv p3, iv (p1 % (3 : Int32)), iv (p2 % (3 : Int32))] []) (fun t k => XS.icmpNo X21.here hx rfl (hb hby at_41) rfl (teq (own_same _ _)).2 k) ?_
      refine own_st (mkF m 45 #[iv p1, iv p2, iv p3, iv (p1 % (3 : Int32)), iv (p2 % (3 : Int32))] [(.int (1 : Int32))]) (fun t k => XS.iconst X21.here hx rfl (hb hby at_44) k) ?_
      refine own_st (mkF m 49 #[iv p1, iv p2, iv p3, iv (p1 % (3 : Int32)), iv (p2 % (3 : Int32))] [(.int (1 : Int32))]) (fun t k => XS.goto X21.here hx rfl (pc0 := 45) (pc' := 49) rfl (hb hby at_45) (by decide) (by decide) k) ?_
      refine own_ret X21 hlk (v := some (.int (1 : Int32))) (fun h => by rw [hret] at h; cases h) (fun fs hr => retN X21 hx (t := .boolean) hret (by simp) (hb hby at_49) hr) ?_ (by decide) (by decide)
      show own_Q0 Z p1 p2 p3 h0 n0 _ T21.heap _
      rw [e21]
      exact ⟨rfl, N21⟩
    · refine own_st (mkF m 20 #[iv p1, iv p2, iv p3, iv (p1 % (3 : Int32)), .unset] []) (fun t k => XS.ifNo X0.here hx rfl (hb hby at_17) rfl ((if0 _ _).trans (feq hc19).1) k) ?_
      refine own_st (mkF m 21 #[iv p1, iv p2, iv p3, iv (p1 % (3 : Int32)), .unset] [(.int p2)]) (fun t k => XS.iloadN X0.here hx rfl (hb hby at_20) rfl k) ?_
      refine own_st (mkF m 27 #[iv p1, iv p2, iv p3, iv (p1 % (3 : Int32)), .unset] [(.int p2)]) (fun t k => XS.goto X0.here hx rfl (pc0 := 21) (pc' := 27) rfl (hb hby at_21) (by decide) (by decide) k) ?_
      refine own_st (mkF m 29 #[iv p1, iv p2, iv p3, iv (p1 % (3 : Int32)), iv p2] []) (fun t k => XS.istore X0.here hx rfl (hb hby at_27) rfl (l' := #[iv p1, iv p2, iv p3, iv (p1 % (3 : Int32)), iv p2]) rfl k) ?_
      refine own_st (mkF m 30 #[iv p1, iv p2, iv p3, iv (p1 % (3 : Int32)), iv p2] [(.int (p1 % (3 : Int32)))]) (fun t k => XS.iloadN X0.here hx rfl (hb hby at_29) rfl k) ?_
      refine own_st (mkF m 32 #[iv p1, iv p2, iv p3, iv (p1 % (3 : Int32)), iv p2] [(.int p2), (.int (p1 % (3 : Int32)))]) (fun t k => XS.iload X0.here hx rfl (hb hby at_30) rfl k) ?_
      obtain ⟨_, _, ⟨T22, L22, k22, n22⟩, -, X22, ⟨Lc22, hQ22, l22, y22, z22⟩, st22⟩ := Jvm.LawKit.callS X0 hx (y := (⟨"com/example/croupier/croupier/paint/Action", "isDirection", "(II)Z"⟩ : MethodName)) hown (mvT hZ (hw_0 hw)) (mvT hZ (hw_1 hw)) (mvT hZ (hw_2 hw)) (mvT hZ (hw_3 hw)) (by decide) (backOf (W := 0) (own_rm1 l Z a0 hw [] (p1 % (3 : Int32)) p2 h0 n0 Z0) hZ (hw_3 hw) (hw_2 hw) (by decide) (by decide)) (g := (mkF m 32 #[iv p1, iv p2, iv p3, iv (p1 % (3 : Int32)), iv p2] [(.int p2), (.int (p1 % (3 : Int32)))])) rfl (by rw [hml]; rfl) (argsL := [(.int (p1 % (3 : Int32))), (.int p2)]) (rest := []) (lenOf pd_0 rfl) rfl (by show 2 * 0 + _ ≤ _; exact Nat.le_of_eq rfl) (hb hby at_32) (fun _ _ => ⟨rfl, e0, (by decide : 0 + 0 ≤ _), (by decide : 0 + 0 ≤ _)⟩)
      dsimp only [Pt.U, Pt.locs, Pt.cells, Pt.slots] at X22 l22 y22 z22 st22 hQ22
      subst l22 y22 z22
      obtain ⟨rfl, Nq22, e22⟩ := hQ22
      have N22 := Fr.app N0 Nq22
      refine own_step (g' := (mkF m 35 #[iv p1, iv p2, iv p3, iv (p1 % (3 : Int32)), iv p2] [(.int (own_dir (p1 % (3 : Int32)) p2))])) st22 ?_
      refine own_st (mkF m 36 #[iv p1, iv p2, iv p3, iv (p1 % (3 : Int32)), iv p2] [(.int (p1 % (3 : Int32))), (.int (own_dir (p1 % (3 : Int32)) p2))]) (fun t k => XS.iloadN X22.here hx rfl (hb hby at_35) rfl k) ?_
      refine own_st (mkF m 38 #[iv p1, iv p2, iv p3, iv (p1 % (3 : Int32)), iv p2] [(.int p2), (.int (p1 % (3 : Int32))), (.int (own_dir (p1 % (3 : Int32)) p2))]) (fun t k => XS.iload X22.here hx rfl (hb hby at_36) rfl k) ?_
      obtain ⟨_, _, ⟨T23, L23, k23, n23⟩, -, X23, ⟨Lc23, hQ23, l23, y23, z23⟩, st23⟩ := Jvm.LawKit.callS X22 hx (y := (⟨"com/example/croupier/croupier/paint/ActionIsDirectionPinLaw", "oneOfEight", "(II)Z"⟩ : MethodName)) hown (mvT hZ (hw_4 hw)) (mvT hZ (hw_5 hw)) (mvT hZ (hw_6 hw)) (mvT hZ (hw_7 hw)) (by decide) (backOf (W := 1) (own_rm2 l Z a0 hw [] (p1 % (3 : Int32)) p2 h0 n0 Z0) hZ (hw_7 hw) (hw_6 hw) (by decide) (by decide)) (g := (mkF m 38 #[iv p1, iv p2, iv p3, iv (p1 % (3 : Int32)), iv p2] [(.int p2), (.int (p1 % (3 : Int32))), (.int (own_dir (p1 % (3 : Int32)) p2))])) rfl (by rw [hml]; rfl) (argsL := [(.int (p1 % (3 : Int32))), (.int p2)]) (rest := [(.int (own_dir (p1 % (3 : Int32)) p2))]) (lenOf pd_0 rfl) rfl (by show 2 * 0 + _ ≤ _; exact Nat.le_of_eq rfl) (hb hby at_38) (fun _ _ => ⟨rfl, e22, (by decide : 0 + 0 ≤ _), (by decide : 0 + 0 ≤ _)⟩)
      dsimp only [Pt.U, Pt.locs, Pt.cells, Pt.slots] at X23 l23 y23 z23 st23 hQ23
      subst l23 y23 z23
      obtain ⟨rfl, Nq23, e23⟩ := hQ23
      have N23 := Fr.app N22 Nq23
      refine own_step (g' := (mkF m 41 #[iv p1, iv p2, iv p3, iv (p1 % (3 : Int32)), iv p2] [(.int (own_oct (p1 % (3 : Int32)) p2)), (.int (own_dir (p1 % (3 : Int32)) p2))])) st23 ?_
      refine own_st (mkF m 44 #[iv p1, iv p2, iv p3, iv (p1 % (3 : Int32)), iv p2] []) (fun t k => XS.icmpNo X23.here hx rfl (hb hby at_41) rfl (teq (own_same _ _)).2 k) ?_
      refine own_st (mkF m 45 #[iv p1, iv p2, iv p3, iv (p1 % (3 : Int32)), iv p2] [(.int (1 : Int32))]) (fun t k => XS.iconst X23.here hx rfl (hb hby at_44) k) ?_
      refine own_st (mkF m 49 #[iv p1, iv p2, iv p3, iv (p1 % (3 : Int32)), iv p2] [(.int (1 : Int32))]) (fun t k => XS.goto X23.here hx rfl (pc0 := 45) (pc' := 49) rfl (hb hby at_45) (by decide) (by decide) k) ?_
      refine own_ret X23 hlk (v := some (.int (1 : Int32))) (fun h => by rw [hret] at h; cases h) (fun fs hr => retN X23 hx (t := .boolean) hret (by simp) (hb hby at_49) hr) ?_ (by decide) (by decide)
      show own_Q0 Z p1 p2 p3 h0 n0 _ T23.heap _
      rw [e23]
      exact ⟨rfl, N23⟩
  · refine own_st (mkF m 6 #[iv p1, iv p2, iv p3, .unset, .unset] []) (fun t k => XS.ifNo X0.here hx rfl (hb hby at_3) rfl ((if0 _ _).trans (feq hc18).1) k) ?_
    refine own_st (mkF m 7 #[iv p1, iv p2, iv p3, .unset, .unset] [(.int p1)]) (fun t k => XS.iloadN X0.here hx rfl (hb hby at_6) rfl k) ?_
    refine own_st (mkF m 13 #[iv p1, iv p2, iv p3, .unset, .unset] [(.int p1)]) (fun t k => XS.goto X0.here hx rfl (pc0 := 7) (pc' := 13) rfl (hb hby at_7) (by decide) (by decide) k) ?_
    refine own_st (mkF m 14 #[iv p1, iv p2, iv p3, iv p1, .unset] []) (fun t k => XS.istoreN X0.here hx rfl (hb hby at_13) rfl (l' := #[iv p1, iv p2, iv p3, iv p1, .unset]) rfl k) ?_
    refine own_st (mkF m 15 #[iv p1, iv p2, iv p3, iv p1, .unset] [(.int p3)]) (fun t k => XS.iloadN X0.here hx rfl (hb hby at_14) rfl k) ?_
    refine own_st (mkF m 16 #[iv p1, iv p2, iv p3, iv p1, .unset] [(.int (2 : Int32)), (.int p3)]) (fun t k => XS.iconst X0.here hx rfl (hb hby at_15) k) ?_
    refine own_st (mkF m 17 #[iv p1, iv p2, iv p3, iv p1, .unset] [(.int (p3 &&& (2 : Int32)))]) (fun t k => XS.iand X0.here hx rfl (hb hby at_16) rfl k) ?_
    by_cases hc24 : (p3 &&& (2 : Int32)) = (0 : Int32)
    · refine own_st (mkF m 24 #[iv p1, iv p2, iv p3, iv p1, .unset] []) (fun t k => XS.ifYes X0.here hx rfl (pc0 := 17) (pc' := 24) rfl (hb hby at_17) rfl ((if0 _ _).trans (teq hc24).1) (by decide) (by decide) k) ?_
      refine own_st (mkF m 25 #[iv p1, iv p2, iv p3, iv p1, .unset] [(.int p2)]) (fun t k => XS.iloadN X0.here hx rfl (hb hby at_24) rfl k) ?_
      refine own_st (mkF m 26 #[iv p1, iv p2, iv p3, iv p1, .unset] [(.int (3 : Int32)), (.int p2)]) (fun t k => XS.iconst X0.here hx rfl (hb hby at_25) k) ?_
      refine own_st (mkF m 27 #[iv p1, iv p2, iv p3, iv p1, .unset] [(.int (p2 % (3 : Int32)))]) (fun t k => iremM X0 hx rfl (hb hby at_26) rfl (by decide) k) ?_
      refine own_st (mkF m 29 #[iv p1, iv p2, iv p3, iv p1, iv (p2 % (3 : Int32))] []) (fun t k => XS.istore X0.here hx rfl (hb hby at_27) rfl (l' := #[iv p1, iv p2, iv p3, iv p1, iv (p2 % (3 : Int32))]) rfl k) ?_
      refine own_st (mkF m 30 #[iv p1, iv p2, iv p3, iv p1, iv (p2 % (3 : Int32))] [(.int p1)]) (fun t k => XS.iloadN X0.here hx rfl (hb hby at_29) rfl k) ?_
      refine own_st (mkF m 32 #[iv p1, iv p2, iv p3, iv p1, iv (p2 % (3 : Int32))] [(.int (p2 % (3 : Int32))), (.int p1)]) (fun t k => XS.iload X0.here hx rfl (hb hby at_30) rfl k) ?_
      obtain ⟨_, _, ⟨T25, L25, k25, n25⟩, -, X25, ⟨Lc25, hQ25, l25, y25, z25⟩, st25⟩ := Jvm.LawKit.callS X0 hx (y := (⟨"com/example/croupier/croupier/paint/Action", "isDirection", "(II)Z"⟩ : MethodName)) hown (mvT hZ (hw_0 hw)) (mvT hZ (hw_1 hw)) (mvT hZ (hw_2 hw)) (mvT hZ (hw_3 hw)) (by decide) (backOf (W := 0) (own_rm1 l Z a0 hw [] p1 (p2 % (3 : Int32)) h0 n0 Z0) hZ (hw_3 hw) (hw_2 hw) (by decide) (by decide)) (g := (mkF m 32 #[iv p1, iv p2, iv p3, iv p1, iv (p2 % (3 : Int32))] [(.int (p2 % (3 : Int32))), (.int p1)])) rfl (by rw [hml]; rfl) (argsL := [(.int p1), (.int (p2 % (3 : Int32)))]) (rest := []) (lenOf pd_0 rfl) rfl (by show 2 * 0 + _ ≤ _; exact Nat.le_of_eq rfl) (hb hby at_32) (fun _ _ => ⟨rfl, e0, (by decide : 0 + 0 ≤ _), (by decide : 0 + 0 ≤ _)⟩)
      dsimp only [Pt.U, Pt.locs, Pt.cells, Pt.slots] at X25 l25 y25 z25 st25 hQ25
      subst l25 y25 z25
      obtain ⟨rfl, Nq25, e25⟩ := hQ25
      have N25 := Fr.app N0 Nq25
      refine own_step (g' := (mkF m 35 #[iv p1, iv p2, iv p3, iv p1, iv (p2 % (3 : Int32))] [(.int (own_dir p1 (p2 % (3 : Int32))))])) st25 ?_
      refine own_st (mkF m 36 #[iv p1, iv p2, iv p3, iv p1, iv (p2 % (3 : Int32))] [(.int p1), (.int (own_dir p1 (p2 % (3 : Int32))))]) (fun t k => XS.iloadN X25.here hx rfl (hb hby at_35) rfl k) ?_
      refine own_st (mkF m 38 #[iv p1, iv p2, iv p3, iv p1, iv (p2 % (3 : Int32))] [(.int (p2 % (3 : Int32))), (.int p1), (.int (own_dir p1 (p2 % (3 : Int32))))]) (fun t k => XS.iload X25.here hx rfl (hb hby at_36) rfl k) ?_
      obtain ⟨_, _, ⟨T26, L26, k26, n26⟩, -, X26, ⟨Lc26, hQ26, l26, y26, z26⟩, st26⟩ := Jvm.LawKit.callS X25 hx (y := (⟨"com/example/croupier/croupier/paint/ActionIsDirectionPinLaw", "oneOfEight", "(II)Z"⟩ : MethodName)) hown (mvT hZ (hw_4 hw)) (mvT hZ (hw_5 hw)) (mvT hZ (hw_6 hw)) (mvT hZ (hw_7 hw)) (by decide) (backOf (W := 1) (own_rm2 l Z a0 hw [] p1 (p2 % (3 : Int32)) h0 n0 Z0) hZ (hw_7 hw) (hw_6 hw) (by decide) (by decide)) (g := (mkF m 38 #[iv p1, iv p2, iv p3, iv p1, iv (p2 % (3 : Int32))] [(.int (p2 % (3 : Int32))), (.int p1), (.int (own_dir p1 (p2 % (3 : Int32))))])) rfl (by rw [hml]; rfl) (argsL := [(.int p1), (.int (p2 % (3 : Int32)))]) (rest := [(.int (own_dir p1 (p2 % (3 : Int32))))]) (lenOf pd_0 rfl) rfl (by show 2 * 0 + _ ≤ _; exact Nat.le_of_eq rfl) (hb hby at_38) (fun _ _ => ⟨rfl, e25, (by decide : 0 + 0 ≤ _), (by decide : 0 + 0 ≤ _)⟩)
      dsimp only [Pt.U, Pt.locs, Pt.cells, Pt.slots] at X26 l26 y26 z26 st26 hQ26
      subst l26 y26 z26
      obtain ⟨rfl, Nq26, e26⟩ := hQ26
      have N26 := Fr.app N25 Nq26
      refine own_step (g' := (mkF m 41 #[iv p1, iv p2, iv p3, iv p1, iv (p2 % (3 : Int32))] [(.int (own_oct p1 (p2 % (3 : Int32)))), (.int (own_dir p1 (p2 % (3 : Int32))))])) st26 ?_
      refine own_st (mkF m 44 #[iv p1, iv p2, iv p3, iv p1, iv (p2 % (3 : Int32))] []) (fun t k => XS.icmpNo X26.here hx rfl (hb hby at_41) rfl (teq (own_same _ _)).2 k) ?_
      refine own_st (mkF m 45 #[iv p1, iv p2, iv p3, iv p1, iv (p2 % (3 : Int32))] [(.int (1 : Int32))]) (fun t k => XS.iconst X26.here hx rfl (hb hby at_44) k) ?_
      refine own_st (mkF m 49 #[iv p1, iv p2, iv p3, iv p1, iv (p2 % (3 : Int32))] [(.int (1 : Int32))]) (fun t k => XS.goto X26.here hx rfl (pc0 := 45) (pc' := 49) rfl (hb hby at_45) (by decide) (by decide) k) ?_
      refine own_ret X26 hlk (v := some (.int (1 : Int32))) (fun h => by rw [hret] at h; cases h) (fun fs hr => retN X26 hx (t := .boolean) hret (by simp) (hb hby at_49) hr) ?_ (by decide) (by decide)
      show own_Q0 Z p1 p2 p3 h0 n0 _ T26.heap _
      rw [e26]
      exact ⟨rfl, N26⟩
    · refine own_st (mkF m 20 #[iv p1, iv p2, iv p3, iv p1, .unset] []) (fun t k => XS.ifNo X0.here hx rfl (hb hby at_17) rfl ((if0 _ _).trans (feq hc24).1) k) ?_
      refine own_st (mkF m 21 #[iv p1, iv p2, iv p3, iv p1, .unset] [(.int p2)]) (fun t k => XS.iloadN X0.here hx rfl (hb hby at_20) rfl k) ?_
      refine own_st (mkF m 27 #[iv p1, iv p2, iv p3, iv p1, .unset] [(.int p2)]) (fun t k => XS.goto X0.here hx rfl (pc0 := 21) (pc' := 27) rfl (hb hby at_21) (by decide) (by decide) k) ?_
      refine own_st (mkF m 29 #[iv p1, iv p2, iv p3, iv p1, iv p2] []) (fun t k => XS.istore X0.here hx rfl (hb hby at_27) rfl (l' := #[iv p1, iv p2, iv p3, iv p1, iv p2]) rfl k) ?_
      refine own_st (mkF m 30 #[iv p1, iv p2, iv p3, iv p1, iv p2] [(.int p1)]) (fun t k => XS.iloadN X0.here hx rfl (hb hby at_29) rfl k) ?_
      refine own_st (mkF m 32 #[iv p1, iv p2, iv p3, iv p1, iv p2] [(.int p2), (.int p1)]) (fun t k => XS.iload X0.here hx rfl (hb hby at_30) rfl k) ?_
      obtain ⟨_, _, ⟨T27, L27, k27, n27⟩, -, X27, ⟨Lc27, hQ27, l27, y27, z27⟩, st27⟩ := Jvm.LawKit.callS X0 hx (y := (⟨"com/example/croupier/croupier/paint/Action", "isDirection", "(II)Z"⟩ : MethodName)) hown (mvT hZ (hw_0 hw)) (mvT hZ (hw_1 hw)) (mvT hZ (hw_2 hw)) (mvT hZ (hw_3 hw)) (by decide) (backOf (W := 0) (own_rm1 l Z a0 hw [] p1 p2 h0 n0 Z0) hZ (hw_3 hw) (hw_2 hw) (by decide) (by decide)) (g := (mkF m 32 #[iv p1, iv p2, iv p3, iv p1, iv p2] [(.int p2), (.int p1)])) rfl (by rw [hml]; rfl) (argsL := [(.int p1), (.int p2)]) (rest := []) (lenOf pd_0 rfl) rfl (by show 2 * 0 + _ ≤ _; exact Nat.le_of_eq rfl) (hb hby at_32) (fun _ _ => ⟨rfl, e0, (by decide : 0 + 0 ≤ _), (by decide : 0 + 0 ≤ _)⟩)
      dsimp only [Pt.U, Pt.locs, Pt.cells, Pt.slots] at X27 l27 y27 z27 st27 hQ27
      subst l27 y27 z27
      obtain ⟨rfl, Nq27, e27⟩ := hQ27
      have N27 := Fr.app N0 Nq27
      refine own_step (g' := (mkF m 35 #[iv p1, iv p2, iv p3, iv p1, iv p2] [(.int (own_dir p1 p2))])) st27 ?_
      refine own_st (mkF m 36 #[iv p1, iv p2, iv p3, iv p1, iv p2] [(.int p1), (.int (own_dir p1 p2))]) (fun t k => XS.iloadN X27.here hx rfl (hb hby at_35) rfl k) ?_
      refine own_st (mkF m 38 #[iv p1, iv p2, iv p3, iv p1, iv p2] [(.int p2), (.int p1), (.int (own_dir p1 p2))]) (fun t k => XS.iload X27.here hx rfl (hb hby at_36) rfl k) ?_
      obtain ⟨_, _, ⟨T28, L28, k28, n28⟩, -, X28, ⟨Lc28, hQ28, l28, y28, z28⟩, st28⟩ := Jvm.LawKit.callS X27 hx (y := (⟨"com/example/croupier/croupier/paint/ActionIsDirectionPinLaw", "oneOfEight", "(II)Z"⟩ : MethodName)) hown (mvT hZ (hw_4 hw)) (mvT hZ (hw_5 hw)) (mvT hZ (hw_6 hw)) (mvT hZ (hw_7 hw)) (by decide) (backOf (W := 1) (own_rm2 l Z a0 hw [] p1 p2 h0 n0 Z0) hZ (hw_7 hw) (hw_6 hw) (by decide) (by decide)) (g := (mkF m 38 #[iv p1, iv p2, iv p3, iv p1, iv p2] [(.int p2), (.int p1), (.int (own_dir p1 p2))])) rfl (by rw [hml]; rfl) (argsL := [(.int p1), (.int p2)]) (rest := [(.int (own_dir p1 p2))]) (lenOf pd_0 rfl) rfl (by show 2 * 0 + _ ≤ _; exact Nat.le_of_eq rfl) (hb hby at_38) (fun _ _ => ⟨rfl, e27, (by decide : 0 + 0 ≤ _), (by decide : 0 + 0 ≤ _)⟩)
      dsimp only [Pt.U, Pt.locs, Pt.cells, Pt.slots] at X28 l28 y28 z28 st28 hQ28
      subst l28 y28 z28
      obtain ⟨rfl, Nq28, e28⟩ := hQ28
      have N28 := Fr.app N27 Nq28
      refine own_step (g' := (mkF m 41 #[iv p1, iv p2, iv p3, iv p1, iv p2] [(.int (own_oct p1 p2)), (.int (own_dir p1 p2))])) st28 ?_
      refine own_st (mkF m 44 #[iv p1, iv p2, iv p3, iv p1, iv p2] []) (fun t k => XS.icmpNo X28.here hx rfl (hb hby at_41) rfl (teq (own_same _ _)).2 k) ?_
      refine own_st (mkF m 45 #[iv p1, iv p2, iv p3, iv p1, iv p2] [(.int (1 : Int32))]) (fun t k => XS.iconst X28.here hx rfl (hb hby at_44) k) ?_
      refine own_st (mkF m 49 #[iv p1, iv p2, iv p3, iv p1, iv p2] [(.int (1 : Int32))]) (fun t k => XS.goto X28.here hx rfl (pc0 := 45) (pc' := 49) rfl (hb hby at_45) (by decide) (by decide) k) ?_
      refine own_ret X28 hlk (v := some (.int (1 : Int32))) (fun h => by rw [hret] at h; cases h) (fun fs hr => retN X28 hx (t := .boolean) hret (by simp) (hb hby at_49) hr) ?_ (by decide) (by decide)
      show own_Q0 Z p1 p2 p3 h0 n0 _ T28.heap _
      rw [e28]
      exact ⟨rfl, N28⟩
set_option maxRecDepth 65536 in
set_option maxHeartbeats 40000000 in
theorem own_comes {Post : Tables → Env → Array Value → State → Outcome → State → Prop} (hpost : ∀ tb e args s v u, (limb_1_1.after args s (.returned v) u = true ∧ limb_1_2.after args s (.returned v) u = true ∧ True) → FrameEnd s (.returned v) u (Jvm.fieldLocs frame_1_writes args s ++ Jvm.arrayLocs frame_1_arrays args s ++ Jvm.staticLocs frame_1_statics s) 0 0 → Post tb e args s (.returned v) u) :
    ArmFor flags0 classFile x code maxLocals ret World_1 tables_1 room_1 Calls_1 rest_1 Pre_1 Post := by
  intro l hfl _ _ p e ha hc hk s m args below hf hA hF happ hP
  obtain ⟨hcalls, hrest, hpre⟩ := hP
  obtain ⟨-, -, -, hnamed, -, -, -, hat⟩ := (Spec.applies_iff hf).mp happ
  obtain ⟨hg, hn⟩ := and_e (Cond.before_iff.mp (show (Jvm.Cond.and given_1 narrow_1).before args s = true from hpre))
  obtain ⟨hcnt, hg0⟩ := and_e hg
  obtain ⟨ha0, hg1⟩ := and_e hg0
  obtain ⟨ha1, hg2⟩ := and_e hg1
  obtain ⟨w0, w1, w2, rfl⟩ : ∃ w0 w1 w2 : Value, args = #[w0, w1, w2] := by
    have hs : args.size = 3 := by simpa [Cond.value, given_1] using hcnt
    obtain ⟨L⟩ := args
    match L, hs with
    | [w0, w1, w2], _ => exact ⟨w0, w1, w2, rfl⟩
  have hw := fun d (hd : d ∈ tables_1) => atoms_spec (ws := Jvm.Cond.code x code maxLocals ret :: tables_1) hat d (List.mem_cons_of_mem _ hd)
  have hfit : Fit s := fun {y c} hc i hi => by
    obtain ⟨ha, rfl⟩ := Array.getElem?_eq_some_iff.mp hc
    have q := List.all_eq_true.mp ((Array.all_eq_true_iff_forall_mem.mp hF) _ (Array.getElem_mem ha)) i (List.mem_range.mpr hi)
    simpa [Array.getElem?_eq_getElem hi] using q
  obtain ⟨i0, ei0⟩ := is_v ha0
  obtain rfl : w0 = (.int i0) := Option.some.inj ei0
  obtain ⟨i1, ei1⟩ := is_v ha1
  obtain rfl : w1 = (.int i1) := Option.some.inj ei1
  obtain ⟨i2, ei2⟩ := is_v hg2
  obtain rfl : w2 = (.int i2) := Option.some.inj ei2
  obtain ⟨n, o, h1, h2, h3, _, L, rfl, ⟨rfl, N⟩, hq⟩ := own_rm0 l s _ hw tables_1 i0 i1 i2  s.heap s.heap.size (Nat.le_refl _)  p e ha hc hk s m _ below hf ((Spec.applies_iff_loose hf).mp happ).1 ⟨rfl, State.Warmed39.refl s, rfl⟩ trivial
  refine ⟨n, _, h1, h2, h3, hpost _ _ _ _ _ _ ⟨Cond.after_iff.mpr rfl, Cond.after_iff.mpr (eq_i res_at (Term.int_eval (1)) rfl), trivial⟩ ⟨hq.1, hq.2.1, (hq.2.2.sift fun y hy => Or.inr (N y hy)).mono (by decide) (by decide)⟩⟩
theorem main_1_1 : Claimed_1_1 := own_comes fun _ _ _ _ _ _ h hF => ⟨h.1, hF⟩
theorem main_1_2 : Claimed_1_2 := own_comes fun _ _ _ _ _ _ h hF => ⟨h.2.1, hF⟩
end Jvm.Pilot.@@N@@
namespace Jvm.Pilot.@@N@@
open Jvm Jvm.ClassFile Sem Op Lib Jvm.Free Jvm.Stand Jvm.Pilot.@@N@@.Jvm.D
/-! MADE BY PROGRAM (witnessworld.py) out of the Statement's table words and the real class files: 10 classes; the members and pool entries that the words name. The judged class is class 1, her method 2. -/
namespace start1
open Jvm.ClassFile
def u (s : String) : CpInfo := .utf8 (stringToUtf16 s)
/-- a pool by its gaps: so many unusable entries, then the entry; so many at the end -/
def gap : Nat → List CpInfo → List CpInfo
  | 0, r => r
  | n + 1, r => .unusable :: gap n r
def poolList (es : List (Nat × CpInfo)) (last : Nat) : List CpInfo := es.foldr (fun e r => gap e.1 (e.2 :: r)) (gap last [])
def pool (es : List (Nat × CpInfo)) (last : Nat) : Array CpInfo := ⟨poolList es last⟩
def fileOf (pool : Array CpInfo) (this : Nat) (attrs : Array Attribute := #[]) (ms : Array MethodInfo := #[]) (fl : Nat := 33) (sup : Nat := 0) (ifs : Array Nat := #[]) (fds : Array FieldInfo := #[]) : ClassFile where
  minorVersion := 0
  majorVersion := 65
  constantPool := pool
  accessFlags := fl
  thisClass := this
  superClass := sup
  interfaces := ifs
  fields := fds
  methods := ms
  attributes := attrs
def plain (name : String) (sup : Option ClassId) : Class where
  name := name
  kind := .ordinary
  loader := none
  accessFlags := 33
  super := sup
  interfaces := #[]
  cf := none
  fields := #[]
  methods := #[]
  instanceTypes := #[]
  staticTypes := #[]
  resolved := #[]
  callSites := []
  init := .initialized
  statics := none
  mirror := none

def pool0 : Array CpInfo := pool [(5, u "<init>"), (0, u "()V"), (1, .class_ 10), (1, u "java/lang/Object")] 113

def k0m0 : Method := { name := "<init>", desc := "()V", sig := { parameters := [], returnType := none }, accessFlags := 1, code := none }
/-- java/lang/Object -/
def k0 : Class := { plain "java/lang/Object" none with
  accessFlags := 33
  interfaces := #[]
  cf := some (fileOf pool0 8 #[] #[{ accessFlags := 1, nameIndex := 5, descriptorIndex := 6, attributes := #[] }] 33 0 #[] #[])
  fields := #[]
  methods := #[k0m0]
  instanceTypes := #[]
  staticTypes := #[]
  resolved := Array.replicate 124 none
  statics := none }

def pool1 : Array CpInfo := pool [(2, .class_ 4), (1, u "java/lang/Object"), (0, u "<init>"), (0, u "()V"), (0, .methodref 8 9), (0, .class_ 10), (0, .nameAndType 11 12), (0, u "com/example/croupier/croupier/paint/Action"), (0, u "isDirection"), (0, u "(II)Z"), (0, .methodref 14 15), (0, .class_ 16), (0, .nameAndType 17 12), (0, u "com/example/croupier/croupier/paint/ActionIsDirectionPinLaw"), (0, u "oneOfEight"), (3, u "law"), (0, u "(III)Z")] 2

def k1m0 : Method := { name := "<init>", desc := "()V", sig := { parameters := [], returnType := none }, accessFlags := 2, code := none }
def k1c1 : Code := { maxStack := 2, maxLocals := 2, code := method_2_code, exceptionTable := #[], attributes := #[] }
def k1m1 : Method := { name := "oneOfEight", desc := "(II)Z", sig := { parameters := [.int, .int], returnType := some .boolean }, accessFlags := 10, code := some k1c1 }
def k1c2 : Code := { maxStack := 3, maxLocals := 5, code := code, exceptionTable := #[], attributes := #[] }
def k1m2 : Method := { name := "law", desc := "(III)Z", sig := { parameters := [.int, .int, .int], returnType := some .boolean }, accessFlags := 9, code := some k1c2 }
/-- com/example/croupier/croupier/paint/ActionIsDirectionPinLaw -/
def k1 : Class := { plain "com/example/croupier/croupier/paint/ActionIsDirectionPinLaw" (some 0) with
  accessFlags := 49
  interfaces := #[]
  cf := some (fileOf pool1 14 #[] #[{ accessFlags := 2, nameIndex := 5, descriptorIndex := 6, attributes := #[] }, { accessFlags := 10, nameIndex := 17, descriptorIndex := 12, attributes := #[] }, { accessFlags := 9, nameIndex := 21, descriptorIndex := 22, attributes := #[] }] 49 2 #[] #[])
  fields := #[]
  methods := #[k1m0, k1m1, k1m2]
  instanceTypes := #[]
  staticTypes := #[]
  resolved := Array.replicate 25 none
  statics := none }

def pool2 : Array CpInfo := pool [(2, .class_ 4), (1, u "java/lang/Object"), (0, u "<init>"), (0, u "()V"), (0, .class_ 8), (0, u "java/lang/Record")] 13

def k2m0 : Method := { name := "<init>", desc := "()V", sig := { parameters := [], returnType := none }, accessFlags := 4, code := none }
/-- java/lang/Record -/
def k2 : Class := { plain "java/lang/Record" (some 0) with
  accessFlags := 1057
  interfaces := #[]
  cf := some (fileOf pool2 7 #[] #[{ accessFlags := 4, nameIndex := 5, descriptorIndex := 6, attributes := #[] }] 1057 2 #[] #[])
  fields := #[]
  methods := #[k2m0]
  instanceTypes := #[]
  staticTypes := #[]
  resolved := Array.replicate 22 none
  statics := none }

def pool3 : Array CpInfo := pool [(2, .class_ 4), (1, u "java/lang/Record"), (3, .class_ 10), (1, u "com/example/croupier/croupier/paint/Action"), (0, u "isDirection"), (0, u "(II)Z"), (11, u "kind"), (0, u "Lcom/example/croupier/croupier/paint/Action$Kind;"), (2, u "dr"), (0, u "I"), (2, u "dc"), (16, .class_ 50), (0, u "com/example/croupier/croupier/paint/Action$Kind")] 37

def k3c0 : Code := { maxStack := 2, maxLocals := 2, code := prog_40_method_2_code, exceptionTable := #[], attributes := #[] }
def k3m0 : Method := { name := "isDirection", desc := "(II)Z", sig := { parameters := [.int, .int], returnType := some .boolean }, accessFlags := 8, code := some k3c0 }
/-- com/example/croupier/croupier/paint/Action -/
def k3 : Class := { plain "com/example/croupier/croupier/paint/Action" (some 2) with
  accessFlags := 48
  interfaces := #[]
  cf := some (fileOf pool3 8 #[.nestMembers #[49]] #[{ accessFlags := 8, nameIndex := 11, descriptorIndex := 12, attributes := #[] }] 48 2 #[] #[{ accessFlags := 18, nameIndex := 24, descriptorIndex := 25, attributes := #[] }, { accessFlags := 18, nameIndex := 28, descriptorIndex := 29, attributes := #[] }, { accessFlags := 18, nameIndex := 32, descriptorIndex := 29, attributes := #[] }])
  fields := #[{ name := "kind", type := (.object "com/example/croupier/croupier/paint/Action$Kind"), accessFlags := 18, slot := 0, constantValue := 0 }, { name := "dr", type := .int, accessFlags := 18, slot := 1, constantValue := 0 }, { name := "dc", type := .int, accessFlags := 18, slot := 2, constantValue := 0 }]
  methods := #[k3m0]
  instanceTypes := #[(.object "com/example/croupier/croupier/paint/Action$Kind"), .int, .int]
  staticTypes := #[]
  resolved := Array.replicate 88 none
  statics := none }

def pool4 : Array CpInfo := pool [(1, u "java/lang/Cloneable"), (0, .class_ 1), (0, u "java/lang/Object"), (0, .class_ 3)] 3

/-- java/lang/Cloneable -/
def k4 : Class := { plain "java/lang/Cloneable" (some 0) with
  accessFlags := 1537
  interfaces := #[]
  cf := some (fileOf pool4 2 #[] #[] 1537 4 #[] #[])
  fields := #[]
  methods := #[]
  instanceTypes := #[]
  staticTypes := #[]
  resolved := Array.replicate 8 none
  statics := none }

def pool5 : Array CpInfo := pool [(1, u "java/io/Serializable"), (0, .class_ 1), (0, u "java/lang/Object"), (0, .class_ 3)] 3

/-- java/io/Serializable -/
def k5 : Class := { plain "java/io/Serializable" (some 0) with
  accessFlags := 1537
  interfaces := #[]
  cf := some (fileOf pool5 2 #[] #[] 1537 4 #[] #[])
  fields := #[]
  methods := #[]
  instanceTypes := #[]
  staticTypes := #[]
  resolved := Array.replicate 8 none
  statics := none }

/-- the primitive byte -/
def k6 : Class := { plain "byte" none with kind := .primitive 'B', accessFlags := 0x411 }
/-- [B -/
def k7 : Class := { plain "[B" (some 0) with kind := .array 6 .byte, interfaces := #[4, 5], accessFlags := 1041 }

/-- the primitive int -/
def k8 : Class := { plain "int" none with kind := .primitive 'I', accessFlags := 0x411 }
/-- [I -/
def k9 : Class := { plain "[I" (some 0) with kind := .array 8 .int, interfaces := #[4, 5], accessFlags := 1041 }

def heap : Heap := #[]
def classes : Array Class := #[k0, k1, k2, k3, k4, k5, k6, k7, k8, k9]
def interned : List (Array UInt16 × Addr) := []
def slotsUsed : Nat := 0
def theMethod : MethodId := ⟨1, 2⟩
def args0 : Array Value := #[.int 5, .int 6, .int 7]
def aboutOver (below : List Frame) : State where
  vm := { classes := classes, interned := interned.toArray }
  heap := heap
  slotsUsed := slotsUsed
  threads := #[{ frames := .invoking theMethod args0 :: below }]
def below0 : List Frame := [.native { method := ⟨0, 0⟩, args := #[] }]
def about1 : State := aboutOver below0
def p0 : Program := .bare "" "" ""
def e0 : Env := launch0.env 0 0 0
theorem w_frames : about1.frames = Frame.invoking theMethod args0 :: below0 := rfl
set_option maxRecDepth 65536 in
theorem w_args : argsFit about1.vm theMethod args0 = true := by decide +kernel
set_option maxRecDepth 65536 in
theorem w_heap : heapFits about1 = true := by decide +kernel
set_option maxRecDepth 65536 in
theorem w_runnable : about1.curStatus? = some .runnable := by decide +kernel
set_option maxRecDepth 65536 in
theorem w_alone : about1.alone = true := by decide +kernel
set_option maxRecDepth 65536 in
theorem w_named : about1.methodNamed? x = some theMethod := by decide +kernel
set_option maxRecDepth 65536 in
theorem w_hears : about1.hears theMethod below0 = true := by decide +kernel
set_option maxRecDepth 65536 in
theorem w_ripe : about1.ripe theMethod args0 below0 = true := by decide +kernel
theorem w_running : about1.status = .running := rfl
set_option maxRecDepth 65536 in
theorem w_room : about1.hasRoom e0.platform room_1 = true :=
  launch0.hasRoom_least _ room_1 (by decide +kernel) (by decide +kernel) (by decide +kernel) (by decide +kernel) (by decide +kernel) (by decide +kernel)
theorem allAtoms_all (ts : List Jvm.Cond) (a : Array Jvm.Value) (st : Jvm.State) : (allAtoms ts).before a st = ts.all (fun c => c.before a st) := by
  induction ts with
  | nil => rfl
  | cons c t ih =>
    show (Jvm.Cond.and c (allAtoms t)).before a st = _
    rw [Jvm.Cond.before_and, ih, List.all_cons]
def words1 : List Jvm.Cond := Jvm.Cond.code x code maxLocals ret :: tables_1
/-- a 'code' word, met by the world's own term for the bytes: nothing is compared byte by byte -/
theorem code_word {y : MethodName} {bytes : ByteArray} {mx : Nat} {rt : Option FieldType} {a : Array Value} {s : State} {m : MethodId} {meth : Method} {c : Code} (h1 : s.methodNamed? y = some m) (h2 : s.vm.method? m = some meth) (h3 : meth.code = some c) (h4 : c.code = bytes)
    (h5 : (c.maxLocals == mx && c.exceptionTable.isEmpty && decide (c.maxStack ≤ mostOperands) && decide (meth.sig.returnType = rt) && !meth.locks && decide (parseMethodDescriptor y.desc = some meth.sig)) = true) : (Jvm.Cond.code y bytes mx rt).before a s = true := by
  simp only [Bool.and_eq_true, beq_iff_eq, Bool.not_eq_true', decide_eq_true_eq] at h5
  obtain ⟨⟨⟨⟨⟨g1, g2⟩, g3⟩, g4⟩, g5⟩, g6⟩ := h5
  simp [Cond.before, Cond.holds, Cond.value, h1, h2, h3, h4, g1, g2, g3, g4, g5, g6]
def isCode : Jvm.Cond → Bool
  | .code _ _ _ _ => true
  | _ => false
theorem all_split {L : List Jvm.Cond} {P : Jvm.Cond → Bool} (h1 : L.all (fun c => isCode c || P c) = true) (h2 : ∀ c ∈ L.filter isCode, P c = true) : L.all P = true := by
  refine List.all_eq_true.mpr fun c hc => ?_
  have h := List.all_eq_true.mp h1 c hc
  rcases Bool.eq_false_or_eq_true (isCode c) with hi | hi
  · exact h2 c (List.mem_filter.mpr ⟨hc, hi⟩)
  · simpa [hi] using h
set_option maxRecDepth 65536 in
theorem w_c0 : (Jvm.Cond.code x code maxLocals ret).before args0 about1 = true := code_word (m := ⟨1, 2⟩) (meth := k1m2) (c := k1c2) (by decide +kernel) rfl rfl rfl (by decide +kernel)
set_option maxRecDepth 65536 in
theorem w_c1 : (Jvm.Cond.code ({ cls := "com/example/croupier/croupier/paint/Action", name := "isDirection", desc := "(II)Z" } : Jvm.MethodName) prog_40_method_2_code (2 : Nat) (Option.some Jvm.ClassFile.FieldType.boolean)).before args0 about1 = true := code_word (m := ⟨3, 0⟩) (meth := k3m0) (c := k3c0) (by decide +kernel) rfl rfl rfl (by decide +kernel)
set_option maxRecDepth 65536 in
theorem w_c2 : (Jvm.Cond.code ({ cls := "com/example/croupier/croupier/paint/ActionIsDirectionPinLaw", name := "oneOfEight", desc := "(II)Z" } : Jvm.MethodName) method_2_code (2 : Nat) (Option.some Jvm.ClassFile.FieldType.boolean)).before args0 about1 = true := code_word (m := ⟨1, 1⟩) (meth := k1m1) (c := k1c1) (by decide +kernel) rfl rfl rfl (by decide +kernel)
def codes1 : List Jvm.Cond := [Jvm.Cond.code x code maxLocals ret, Jvm.Cond.code ({ cls := "com/example/croupier/croupier/paint/Action", name := "isDirection", desc := "(II)Z" } : Jvm.MethodName) prog_40_method_2_code (2 : Nat) (Option.some Jvm.ClassFile.FieldType.boolean), Jvm.Cond.code ({ cls := "com/example/croupier/croupier/paint/ActionIsDirectionPinLaw", name := "oneOfEight", desc := "(II)Z" } : Jvm.MethodName) method_2_code (2 : Nat) (Option.some Jvm.ClassFile.FieldType.boolean)]
set_option maxRecDepth 65536 in
theorem codes_eq : words1.filter isCode = codes1 := rfl
theorem w_codes : ∀ c ∈ words1.filter isCode, c.before args0 about1 = true := by
  rw [codes_eq]
  intro c hc
  simp only [codes1, List.mem_cons, List.not_mem_nil, or_false] at hc
  rcases hc with rfl | rfl | rfl
  · exact w_c0
  · exact w_c1
  · exact w_c2
set_option maxRecDepth 65536 in
theorem w_t1 : words1.all (fun c => isCode c || c.before args0 about1) = true := by decide +kernel
theorem w_tables : (allAtoms (Jvm.Cond.code x code maxLocals ret :: tables_1)).before args0 about1 = true := by
  rw [allAtoms_all]
  show words1.all (fun c => c.before args0 about1) = true
  refine all_split ?_ w_codes
  rw [w_t1]
set_option maxRecDepth 65536 in
theorem w_case : (Jvm.Cond.and given_1 narrow_1).before args0 about1 = true := by decide +kernel
theorem w_applies : (headSpec (Jvm.Cond.code x code maxLocals ret :: tables_1) room_1).applies x e0.platform about1 = true :=
  (Spec.applies_iff w_frames).mpr ⟨w_running, w_runnable, w_alone, w_named, w_hears, w_ripe, w_room, w_tables⟩
theorem atStart : AtStart classFile x code maxLocals ret World_1 tables_1 room_1 Calls_1 rest_1 Pre_1 launch0 p0 e0 about1 theMethod args0 below0 :=
  ⟨lists_1, trivial, launch0.admits_env _ _ _, launch0.least_env, fairChoices_fair.cas, fairChoices_fair.clock, w_frames, w_args, w_heap, w_applies, trivial, trivial, w_case⟩
end start1
theorem witness_1 : WitnessClaimed_1 := ⟨start1.p0, start1.e0, start1.about1, start1.theMethod, start1.args0, start1.below0, start1.atStart⟩
end Jvm.Pilot.@@N@@
