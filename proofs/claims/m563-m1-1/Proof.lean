import JvmDerived
import JvmDerived.Pilot.@@N@@Statement
import JvmDerived.Pilot.@@N@@Code
set_option linter.unusedVariables false
set_option linter.unusedSimpArgs false
namespace Jvm.Pilot.@@N@@
open Jvm Jvm.ClassFile Sem Op Lib Jvm.Free Jvm.Stand Jvm.LawKit Jvm.RoadKit Bundle Jvm.Pilot.@@N@@.Jvm.D
abbrev jv (x : Int64) : Slot := .val (.long x)
section OwnKit
variable {p : Program} {l : Launch} {e : Env} {R : Room} {s : State} {m : MethodId} {args : Array Value} {below : List Frame} {meth : Method} {c : Code} {T T' : State} {locs : List Loc} {cells slots kc ks : Nat} {Q : Option Value → Heap → List Loc → Prop} {g g' : JFrame}
/-- from the state T, its top frame g, the invocation comes to its end with Q -/
def own_WP (p : Program) (e : Env) (below : List Frame) (s : State) (Q : Option Value → Heap → List Loc → Prop) (kc ks : Nat) (T : State) (g : JFrame) : Prop :=
  ∃ s₂ o, Steps p.tables e below (T.setTop g) s₂ ∧ s₂.status = .running ∧ Ended s₂ below o ∧ ∃ v L, o = .returned v ∧ Q v s₂.heap L ∧ FrameEnd s o s₂ L kc ks
theorem own_step (h : ∀ t, Steps p.tables e below (T'.setTop g') t → Steps p.tables e below (T.setTop g) t) (hr : own_WP p e below s Q kc ks T' g') : own_WP p e below s Q kc ks T g := by
  obtain ⟨s₂, o, h1, h2⟩ := hr
  exact ⟨s₂, o, h _ h1, h2⟩
theorem own_st (g' : JFrame) (h : ∀ t, Steps p.tables e below (T.setTop g') t → Steps p.tables e below (T.setTop g) t) (hr : own_WP p e below s Q kc ks T g') : own_WP p e below s Q kc ks T g := own_step h hr
theorem own_jump (h : Steps p.tables e below (T.setTop g) (T'.setTop g')) (hr : own_WP p e below s Q kc ks T' g') : own_WP p e below s Q kc ks T g := by
  obtain ⟨s₂, o, h1, h2⟩ := hr
  exact ⟨s₂, o, h.trans h1, h2⟩
theorem own_ret (X : Stand p l e R s m args below meth c T locs cells slots) (hlk : meth.locks = false) {v : Option Value} (hv : meth.sig.returnType = none → v = none)
    (hst : ∀ fs, (∀ (f : JFrame) (acts : List Action), f.method = m → f.locked = none → f.entered = [] → (doReturn e (T.setTop f) acts v).1 = T.setFrames fs) → Steps p.tables e below (T.setTop g) (T.setFrames fs))
    (hq : Q v T.heap locs) (h1 : cells ≤ kc) (h2 : slots ≤ ks) : own_WP p e below s Q kc ks T g := by
  obtain ⟨fs, hr, hrun, hended, hW, hsame⟩ := X.leave (v := v) hv hlk
  exact ⟨_, _, hst fs hr, hrun, hended, v, locs, rfl, hq, ⟨v, rfl⟩, hW, hsame.mono h1 h2⟩
theorem own_wide (X : Stand p l e R s m args below meth c T locs cells slots) {cells' slots' : Nat} (h1 : cells ≤ cells') (h2 : slots ≤ slots') : Stand p l e R s m args below meth c T locs cells' slots' :=
  ⟨X.admits, X.cas, X.clock, X.frames, X.room, X.hears, X.method, X.code, X.here, X.tail, X.warmed, X.limits, X.bytes, X.same.mono h1 h2⟩
end OwnKit
theorem own_body {l : Launch} {y : MethodName} {bytes : ByteArray} {maxL : Nat} {ret : Option FieldType} {ws : List Jvm.Cond} {rm : Room} {A : Array Value} {Z : State} {h0 : Heap} {Q : Option Value → Heap → List Loc → Prop} {ls : Array Slot} {kc ks : Nat}
    (hpl : plainFor y = true) (ef : ∀ m, entryFrame m A maxL = mkF m 0 ls [])
    (body : ∀ (p : Program) (e : Env) (s : State) (m : MethodId) (below : List Frame) (meth : Method) (c : Code) (T : State), Stand p l e rm s m A below meth c T [] 0 0 → p.tables.exec = Jvm.exec → c.code = bytes → c.maxLocals = maxL → Z.Warmed39 s.vm → s.vm.findClass y.cls = some m.cls → meth.name = y.name → meth.sig.returnType = ret → meth.locks = false → T.heap = h0 →
      own_WP p e below s Q kc ks T (mkF m 0 ls [])) :
    MetFree l y (head1 (Jvm.Cond.code y bytes maxL ret :: ws) rm) (fun a U => a = A ∧ Z.Warmed39 U.vm ∧ U.heap = h0) (fun _ _ _ _ _ => True) (fun _ U o U' => ∃ v L, o = .returned v ∧ Q v U'.heap L ∧ FrameEnd U o U' L kc ks) := by
  refine MetFree.of_bodySF hpl hisR ?_
  intro p e s m args below meth c s₁ Bd hml0 hP hK
  obtain ⟨rfl, hZ, hh⟩ := hP
  obtain ⟨s₂, o, h1, h2⟩ := body p e s m below meth c s₁ (Stand.of_body Bd) Bd.exec Bd.bytes hml0 hZ (findClass_of_methodNamed Bd.named) (name_of_methodNamed Bd.named Bd.method).1 Bd.returns Bd.notSynchronized (by rw [← hh, Bd.state]; rfl)
  exact ⟨s₂, o, castTop (ef m) h1, h2⟩
theorem own_llt1 {x y : Int64} (h : x < y) : ifCond.holds .lt (lcmpW x y) = true := (if0 _ _).trans (tlt ((lw_lt x y).mpr h)).1
theorem own_llt0 {x y : Int64} (h : ¬ x < y) : ifCond.holds .lt (lcmpW x y) = false := (if0 _ _).trans (flt (mt (lw_lt x y).mp h)).1
theorem own_lge1 {x y : Int64} (h : ¬ x < y) : ifCond.holds .ge (lcmpW x y) = true := (if0 _ _).trans (flt (mt (lw_lt x y).mp h)).2.1
theorem own_lge0 {x y : Int64} (h : x < y) : ifCond.holds .ge (lcmpW x y) = false := (if0 _ _).trans (tlt ((lw_lt x y).mpr h)).2.1
theorem own_lgt1 {x y : Int64} (h : y < x) : ifCond.holds .gt (lcmpW x y) = true := (if0 _ _).trans (tlt ((lw_gt x y).mpr h)).2.2.1
theorem own_lgt0 {x y : Int64} (h : ¬ y < x) : ifCond.holds .gt (lcmpW x y) = false := (if0 _ _).trans (flt (mt (lw_gt x y).mp h)).2.2.1
theorem own_lle1 {x y : Int64} (h : ¬ y < x) : ifCond.holds .le (lcmpW x y) = true := (if0 _ _).trans (flt (mt (lw_gt x y).mp h)).2.2.2
theorem own_lle0 {x y : Int64} (h : y < x) : ifCond.holds .le (lcmpW x y) = false := (if0 _ _).trans (tlt ((lw_gt x y).mpr h)).2.2.2
theorem own_leq1 {x y : Int64} (h : x = y) : ifCond.holds .eq (lcmpW x y) = true := (if0 _ _).trans (teq ((lw_eq x y).mpr h)).1
theorem own_leq0 {x y : Int64} (h : ¬ x = y) : ifCond.holds .eq (lcmpW x y) = false := (if0 _ _).trans (feq (mt (lw_eq x y).mp h)).1
theorem own_lne1 {x y : Int64} (h : ¬ x = y) : ifCond.holds .ne (lcmpW x y) = true := (if0 _ _).trans (feq (mt (lw_eq x y).mp h)).2
theorem own_lne0 {x y : Int64} (h : x = y) : ifCond.holds .ne (lcmpW x y) = false := (if0 _ _).trans (teq ((lw_eq x y).mpr h)).2
def own_start (v : Int32) : Int32 := if (¬ v < (97 : Int32) ∧ ¬ (122 : Int32) < v) ∨ (¬ v < (65 : Int32) ∧ ¬ (90 : Int32) < v) ∨ v = (95 : Int32) then 1 else 0
def own_refv (v : Int32) : Int32 := if (¬ (v ||| (32 : Int32)) < (97 : Int32) ∧ ¬ (122 : Int32) < (v ||| (32 : Int32))) ∨ v = (95 : Int32) then 1 else 0
theorem own_nor (n : Nat) : n ||| 32 = if n / 32 % 2 = 1 then n else n + 32 := by
  have h1 : n = 2 ^ 6 * (n / 64) + n % 64 := by omega
  have h2 : ∀ r : Fin 64, r.val ||| 32 = if r.val / 32 % 2 = 1 then r.val else r.val + 32 := by decide
  have h3 : 2 ^ 6 * (n / 64) + n % 64 = 2 ^ 6 * (n / 64) ||| n % 64 := Nat.two_pow_add_eq_or_of_lt (by omega) _
  have h4 := h2 ⟨n % 64, by omega⟩
  simp only at h4
  have h5 : n ||| 32 = 2 ^ 6 * (n / 64) + (n % 64 ||| 32) := by
    have h6 : n % 64 ||| 32 < 2 ^ 6 := Nat.or_lt_two_pow (by omega) (by decide)
    rw [Nat.two_pow_add_eq_or_of_lt h6, ← Nat.or_assoc, ← h3, ← h1]
  rw [h5, h4]
  split <;> split <;> omega
theorem own_i32nat (v : Int32) : v.toInt = if v.toBitVec.toNat < 2 ^ 31 then (v.toBitVec.toNat : Int) else (v.toBitVec.toNat : Int) - 2 ^ 32 := by
  have := v.toBitVec.isLt
  rw [← Int32.toInt_toBitVec, BitVec.toInt_eq_toNat_cond]
  split <;> split <;> omega
theorem own_same (v : Int32) : own_start v = own_refv v := by
  have e0 : (97 : Int32).toInt = 97 := rfl
  have e1 : (122 : Int32).toInt = 122 := rfl
  have e2 : (65 : Int32).toInt = 65 := rfl
  have e3 : (90 : Int32).toInt = 90 := rfl
  have e4 : (95 : Int32).toInt = 95 := rfl
  have h1 := own_i32nat v
  have h2 := own_i32nat (v ||| 32)
  have h3 : (v ||| 32).toBitVec.toNat = v.toBitVec.toNat ||| 32 := rfl
  have h5 := own_nor v.toBitVec.toNat
  have h4 := v.toBitVec.isLt
  rw [h3] at h2
  unfold own_start own_refv
  simp only [Int32.lt_iff_toInt_lt, ← Int32.toInt_inj, e0, e1, e2, e3, e4]
  generalize v.toBitVec.toNat ||| 32 = k at *
  generalize v.toBitVec.toNat = n at *
  generalize (v ||| 32).toInt = w at *
  generalize v.toInt = u at *
  have h6 : (u = n ∧ n < 2 ^ 31) ∨ (u = (n : Int) - 2 ^ 32 ∧ ¬ n < 2 ^ 31) := by split at h1 <;> omega
  have h7 : (w = k ∧ k < 2 ^ 31) ∨ (w = (k : Int) - 2 ^ 32 ∧ ¬ k < 2 ^ 31) := by split at h2 <;> omega
  have h8 : (k = n ∧ n / 32 % 2 = 1) ∨ (k = n + 32 ∧ ¬ n / 32 % 2 = 1) := by split at h5 <;> omega
  clear h1 h2 h3 h5
  split <;> split <;> first | rfl | (exfalso; omega)

theorem d1_0 : decode prog_180_method_44_code 0 = .ok (.iload_n 0, 1) := by decide +kernel
theorem d1_1 : decode prog_180_method_44_code 1 = .ok (.bipush 97, 2) := by decide +kernel
theorem d1_3 : decode prog_180_method_44_code 3 = .ok (.if_icmp .lt 9, 3) := by decide +kernel
theorem d1_12 : decode prog_180_method_44_code 12 = .ok (.iload_n 0, 1) := by decide +kernel
theorem d1_13 : decode prog_180_method_44_code 13 = .ok (.bipush 65, 2) := by decide +kernel
theorem d1_15 : decode prog_180_method_44_code 15 = .ok (.if_icmp .lt 9, 3) := by decide +kernel
theorem d1_24 : decode prog_180_method_44_code 24 = .ok (.iload_n 0, 1) := by decide +kernel
theorem d1_25 : decode prog_180_method_44_code 25 = .ok (.bipush 95, 2) := by decide +kernel
theorem d1_27 : decode prog_180_method_44_code 27 = .ok (.if_icmp .ne 7, 3) := by decide +kernel
theorem d1_30 : decode prog_180_method_44_code 30 = .ok (.iconst 1, 1) := by decide +kernel
theorem d1_31 : decode prog_180_method_44_code 31 = .ok (.goto 4, 3) := by decide +kernel
theorem d1_35 : decode prog_180_method_44_code 35 = .ok (.ireturn, 1) := by decide +kernel
theorem d1_34 : decode prog_180_method_44_code 34 = .ok (.iconst 0, 1) := by decide +kernel
theorem d1_18 : decode prog_180_method_44_code 18 = .ok (.iload_n 0, 1) := by decide +kernel
theorem d1_19 : decode prog_180_method_44_code 19 = .ok (.bipush 90, 2) := by decide +kernel
theorem d1_21 : decode prog_180_method_44_code 21 = .ok (.if_icmp .le 9, 3) := by decide +kernel
theorem d1_6 : decode prog_180_method_44_code 6 = .ok (.iload_n 0, 1) := by decide +kernel
theorem d1_7 : decode prog_180_method_44_code 7 = .ok (.bipush 122, 2) := by decide +kernel
theorem d1_9 : decode prog_180_method_44_code 9 = .ok (.if_icmp .le 21, 3) := by decide +kernel
theorem pn_1 : plainName "com/example/bidel/bidel/reading/VerilogLexer" = true := by first | (simp [plainName, overriddenIn]; done) | decide +kernel
theorem own_ef1 (m : MethodId) (p1 : Int32) : entryFrame m #[(.int p1)] 1 = mkF m 0 #[iv p1] [] := by first | (simp [entryFrame, mkF, argsToLocals, Value.category]; done) | rfl
def own_Q1 (Z : State) (p1 : Int32) (h0 : Heap) (n0 : Nat) (v : Option Value) (h : Heap) (L : List Loc) : Prop := v = some (.int (own_start p1)) ∧ Fr n0 L ∧ h = h0
set_option maxRecDepth 65536 in
set_option maxHeartbeats 40000000 in
theorem own_rm1 (l : Launch) (Z : State) (a0 : Array Value) (hw : ∀ d ∈ tables_1, d.before a0 Z = true) (ws : List Jvm.Cond) (p1 : Int32) (h0 : Heap) (n0 : Nat) (Z0 : n0 ≤ h0.size) :
    MetFree l (⟨"com/example/bidel/bidel/reading/VerilogLexer", "isIdentifierStart", "(I)Z"⟩ : MethodName) (head1 (Jvm.Cond.code (⟨"com/example/bidel/bidel/reading/VerilogLexer", "isIdentifierStart", "(I)Z"⟩ : MethodName) prog_180_method_44_code 1 (some .boolean) :: ws) ({ frames := 0, cells := 0, slots := 0, locals := 0 } : Room)) (fun a U => a = #[(.int p1)] ∧ Z.Warmed39 U.vm ∧ U.heap = h0) (fun _ _ _ _ _ => True) (fun _ U o U' => ∃ v L, o = .returned v ∧ own_Q1 Z p1 h0 n0 v U'.heap L ∧ FrameEnd U o U' L ({ frames := 0, cells := 0, slots := 0, locals := 0 } : Room).cells ({ frames := 0, cells := 0, slots := 0, locals := 0 } : Room).slots) := by
  refine own_body (plainFor_of_name pn_1) (fun m => own_ef1 m p1) ?_
  intro p e s m below meth c T0 X0 hx hby hml hZ hown hnm hret hlk e0
  have hown : s.vm.findClass "com/example/bidel/bidel/reading/VerilogLexer" = some m.cls := hown
  have hnm : meth.name = "isIdentifierStart" := hnm
  have N0 := Fr.nil n0
  refine own_st (mkF m 1 #[iv p1] [(.int p1)]) (fun t k => XS.iloadN X0.here hx rfl (hb hby d1_0) rfl k) ?_
  refine own_st (mkF m 3 #[iv p1] [(.int (97 : Int32)), (.int p1)]) (fun t k => XS.bipush X0.here hx rfl (hb hby d1_1) k) ?_
  by_cases hc1 : p1 < (97 : Int32)
  · refine own_st (mkF m 12 #[iv p1] []) (fun t k => XS.icmpYes X0.here hx rfl (pc0 := 3) (pc' := 12) rfl (hb hby d1_3) rfl (tlt hc1).1 (by decide) (by decide) k) ?_
    refine own_st (mkF m 13 #[iv p1] [(.int p1)]) (fun t k => XS.iloadN X0.here hx rfl (hb hby d1_12) rfl k) ?_
    refine own_st (mkF m 15 #[iv p1] [(.int (65 : Int32)), (.int p1)]) (fun t k => XS.bipush X0.here hx rfl (hb hby d1_13) k) ?_
    by_cases hc2 : p1 < (65 : Int32)
    · refine own_st (mkF m 24 #[iv p1] []) (fun t k => XS.icmpYes X0.here hx rfl (pc0 := 15) (pc' := 24) rfl (hb hby d1_15) rfl (tlt hc2).1 (by decide) (by decide) k) ?_
      refine own_st (mkF m 25 #[iv p1] [(.int p1)]) (fun t k => XS.iloadN X0.here hx rfl (hb hby d1_24) rfl k) ?_
      refine own_st (mkF m 27 #[iv p1] [(.int (95 : Int32)), (.int p1)]) (fun t k => XS.bipush X0.here hx rfl (hb hby d1_25) k) ?_
      by_cases hc3 : p1 = (95 : Int32)
      · refine own_st (mkF m 30 #[iv p1] []) (fun t k => XS.icmpNo X0.here hx rfl (hb hby d1_27) rfl (teq hc3).2 k) ?_
        refine own_st (mkF m 31 #[iv p1] [(.int (1 : Int32))]) (fun t k => XS.iconst X0.here hx rfl (hb hby d1_30) k) ?_
        refine own_st (mkF m 35 #[iv p1] [(.int (1 : Int32))]) (fun t k => XS.goto X0.here hx rfl (pc0 := 31) (pc' := 35) rfl (hb hby d1_31) (by decide) (by decide) k) ?_
        refine own_ret X0 hlk (v := some (.int (1 : Int32))) (fun h => by rw [hret] at h; cases h) (fun fs hr => retN X0 hx (t := .boolean) hret (by simp) (hb hby d1_35) hr) ?_ (by decide) (by decide)
        show own_Q1 Z p1 h0 n0 _ T0.heap _
        rw [e0]
        exact ⟨congrArg (fun z => some (Value.int z)) (by simp [own_start, hc1, hc2, hc3] : (1 : Int32) = own_start p1), N0, rfl⟩
      · refine own_st (mkF m 34 #[iv p1] []) (fun t k => XS.icmpYes X0.here hx rfl (pc0 := 27) (pc' := 34) rfl (hb hby d1_27) rfl (feq hc3).2 (by decide) (by decide) k) ?_
        refine own_st (mkF m 35 #[iv p1] [(.int (0 : Int32))]) (fun t k => XS.iconst X0.here hx rfl (hb hby d1_34) k) ?_
        refine own_ret X0 hlk (v := some (.int (0 : Int32))) (fun h => by rw [hret] at h; cases h) (fun fs hr => retN X0 hx (t := .boolean) hret (by simp) (hb hby d1_35) hr) ?_ (by decide) (by decide)
        show own_Q1 Z p1 h0 n0 _ T0.heap _
        rw [e0]
        exact ⟨congrArg (fun z => some (Value.int z)) (by simp [own_start, hc1, hc2, hc3] : (0 : Int32) = own_start p1), N0, rfl⟩
    · refine own_st (mkF m 18 #[iv p1] []) (fun t k => XS.icmpNo X0.here hx rfl (hb hby d1_15) rfl (flt hc2).1 k) ?_
      refine own_st (mkF m 19 #[iv p1] [(.int p1)]) (fun t k => XS.iloadN X0.here hx rfl (hb hby d1_18) rfl k) ?_
      refine own_st (mkF m 21 #[iv p1] [(.int (90 : Int32)), (.int p1)]) (fun t k => XS.bipush X0.here hx rfl (hb hby d1_19) k) ?_
      by_cases hc4 : (90 : Int32) < p1
      · refine own_st (mkF m 24 #[iv p1] []) (fun t k => XS.icmpNo X0.here hx rfl (hb hby d1_21) rfl (tlt hc4).2.2.2 k) ?_
        refine own_st (mkF m 25 #[iv p1] [(.int p1)]) (fun t k => XS.iloadN X0.here hx rfl (hb hby d1_24) rfl k) ?_
        refine own_st (mkF m 27 #[iv p1] [(.int (95 : Int32)), (.int p1)]) (fun t k => XS.bipush X0.here hx rfl (hb hby d1_25) k) ?_
        by_cases hc5 : p1 = (95 : Int32)
        · refine own_st (mkF m 30 #[iv p1] []) (fun t k => XS.icmpNo X0.here hx rfl (hb hby d1_27) rfl (teq hc5).2 k) ?_
          refine own_st (mkF m 31 #[iv p1] [(.int (1 : Int32))]) (fun t k => XS.iconst X0.here hx rfl (hb hby d1_30) k) ?_
          refine own_st (mkF m 35 #[iv p1] [(.int (1 : Int32))]) (fun t k => XS.goto X0.here hx rfl (pc0 := 31) (pc' := 35) rfl (hb hby d1_31) (by decide) (by decide) k) ?_
          refine own_ret X0 hlk (v := some (.int (1 : Int32))) (fun h => by rw [hret] at h; cases h) (fun fs hr => retN X0 hx (t := .boolean) hret (by simp) (hb hby d1_35) hr) ?_ (by decide) (by decide)
          show own_Q1 Z p1 h0 n0 _ T0.heap _
          rw [e0]
          exact ⟨congrArg (fun z => some (Value.int z)) (by simp [own_start, hc1, hc2, hc4, hc5] : (1 : Int32) = own_start p1), N0, rfl⟩
        · refine own_st (mkF m 34 #[iv p1] []) (fun t k => XS.icmpYes X0.here hx rfl (pc0 := 27) (pc' := 34) rfl (hb hby d1_27) rfl (feq hc5).2 (by decide) (by decide) k) ?_
          refine own_st (mkF m 35 #[iv p1] [(.int (0 : Int32))]) (fun t k => XS.iconst X0.here hx rfl (hb hby d1_34) k) ?_
          refine own_ret X0 hlk (v := some (.int (0 : Int32))) (fun h => by rw [hret] at h; cases h) (fun fs hr => retN X0 hx (t := .boolean) hret (by simp) (hb hby d1_35) hr) ?_ (by decide) (by decide)
          show own_Q1 Z p1 h0 n0 _ T0.heap _
          rw [e0]
          exact ⟨congrArg (fun z => some (Value.int z)) (by simp [own_start, hc1, hc2, hc4, hc5] : (0 : Int32) = own_start p1), N0, rfl⟩
      · refine own_st (mkF m 30 #[iv p1] []) (fun t k => XS.icmpYes X0.here hx rfl (pc0 := 21) (pc' := 30) rfl (hb hby d1_21) rfl (flt hc4).2.2.2 (by decide) (by decide) k) ?_
        refine own_st (mkF m 31 #[iv p1] [(.int (1 : Int32))]) (fun t k => XS.iconst X0.here hx rfl (hb hby d1_30) k) ?_
        refine own_st (mkF m 35 #[iv p1] [(.int (1 : Int32))]) (fun t k => XS.goto X0.here hx rfl (pc0 := 31) (pc' := 35) rfl (hb hby d1_31) (by decide) (by decide) k) ?_
        refine own_ret X0 hlk (v := some (.int (1 : Int32))) (fun h => by rw [hret] at h; cases h) (fun fs hr => retN X0 hx (t := .boolean) hret (by simp) (hb hby d1_35) hr) ?_ (by decide) (by decide)
        show own_Q1 Z p1 h0 n0 _ T0.heap _
        rw [e0]
        exact ⟨congrArg (fun z => some (Value.int z)) (by simp [own_start, hc1, hc2, hc4] : (1 : Int32) = own_start p1), N0, rfl⟩
  · refine own_st (mkF m 6 #[iv p1] []) (fun t k => XS.icmpNo X0.here hx rfl (hb hby d1_3) rfl (flt hc1).1 k) ?_
    refine own_st (mkF m 7 #[iv p1] [(.int p1)]) (fun t k => XS.iloadN X0.here hx rfl (hb hby d1_6) rfl k) ?_
    refine own_st (mkF m 9 #[iv p1] [(.int (122 : Int32)), (.int p1)]) (fun t k => XS.bipush X0.here hx rfl (hb hby d1_7) k) ?_
    by_cases hc6 : (122 : Int32) < p1
    · refine own_st (mkF m 12 #[iv p1] []) (fun t k => XS.icmpNo X0.here hx rfl (hb hby d1_9) rfl (tlt hc6).2.2.2 k) ?_
      refine own_st (mkF m 13 #[iv p1] [(.int p1)]) (fun t k => XS.iloadN X0.here hx rfl (hb hby d1_12) rfl k) ?_
      refine own_st (mkF m 15 #[iv p1] [(.int (65 : Int32)), (.int p1)]) (fun t k => XS.bipush X0.here hx rfl (hb hby d1_13) k) ?_
      by_cases hc7 : p1 < (65 : Int32)
      · refine own_st (mkF m 24 #[iv p1] []) (fun t k => XS.icmpYes X0.here hx rfl (pc0 := 15) (pc' := 24) rfl (hb hby d1_15) rfl (tlt hc7).1 (by decide) (by decide) k) ?_
        refine own_st (mkF m 25 #[iv p1] [(.int p1)]) (fun t k => XS.iloadN X0.here hx rfl (hb hby d1_24) rfl k) ?_
        refine own_st (mkF m 27 #[iv p1] [(.int (95 : Int32)), (.int p1)]) (fun t k => XS.bipush X0.here hx rfl (hb hby d1_25) k) ?_
        by_cases hc8 : p1 = (95 : Int32)
        · refine own_st (mkF m 30 #[iv p1] []) (fun t k => XS.icmpNo X0.here hx rfl (hb hby d1_27) rfl (teq hc8).2 k) ?_
          refine own_st (mkF m 31 #[iv p1] [(.int (1 : Int32))]) (fun t k => XS.iconst X0.here hx rfl (hb hby d1_30) k) ?_
          refine own_st (mkF m 35 #[iv p1] [(.int (1 : Int32))]) (fun t k => XS.goto X0.here hx rfl (pc0 := 31) (pc' := 35) rfl (hb hby d1_31) (by decide) (by decide) k) ?_
          refine own_ret X0 hlk (v := some (.int (1 : Int32))) (fun h => by rw [hret] at h; cases h) (fun fs hr => retN X0 hx (t := .boolean) hret (by simp) (hb hby d1_35) hr) ?_ (by decide) (by decide)
          show own_Q1 Z p1 h0 n0 _ T0.heap _
          rw [e0]
          exact ⟨congrArg (fun z => some (Value.int z)) (by simp [own_start, hc1, hc6, hc7, hc8] : (1 : Int32) = own_start p1), N0, rfl⟩
        · refine own_st (mkF m 34 #[iv p1] []) (fun t k => XS.icmpYes X0.here hx rfl (pc0 := 27) (pc' := 34) rfl (hb hby d1_27) rfl (feq hc8).2 (by decide) (by decide) k) ?_
          refine own_st (mkF m 35 #[iv p1] [(.int (0 : Int32))]) (fun t k => XS.iconst X0.here hx rfl (hb hby d1_34) k) ?_
          refine own_ret X0 hlk (v := some (.int (0 : Int32))) (fun h => by rw [hret] at h; cases h) (fun fs hr => retN X0 hx (t := .boolean) hret (by simp) (hb hby d1_35) hr) ?_ (by decide) (by decide)
          show own_Q1 Z p1 h0 n0 _ T0.heap _
          rw [e0]
          exact ⟨congrArg (fun z => some (Value.int z)) (by simp [own_start, hc1, hc6, hc7, hc8] : (0 : Int32) = own_start p1), N0, rfl⟩
      · refine own_st (mkF m 18 #[iv p1] []) (fun t k => XS.icmpNo X0.here hx rfl (hb hby d1_15) rfl (flt hc7).1 k) ?_
        refine own_st (mkF m 19 #[iv p1] [(.int p1)]) (fun t k => XS.iloadN X0.here hx rfl (hb hby d1_18) rfl k) ?_
        refine own_st (mkF m 21 #[iv p1] [(.int (90 : Int32)), (.int p1)]) (fun t k => XS.bipush X0.here hx rfl (hb hby d1_19) k) ?_
        by_cases hc9 : (90 : Int32) < p1
        · refine own_st (mkF m 24 #[iv p1] []) (fun t k => XS.icmpNo X0.here hx rfl (hb hby d1_21) rfl (tlt hc9).2.2.2 k) ?_
          refine own_st (mkF m 25 #[iv p1] [(.int p1)]) (fun t k => XS.iloadN X0.here hx rfl (hb hby d1_24) rfl k) ?_
          refine own_st (mkF m 27 #[iv p1] [(.int (95 : Int32)), (.int p1)]) (fun t k => XS.bipush X0.here hx rfl (hb hby d1_25) k) ?_
          by_cases hc10 : p1 = (95 : Int32)
          · refine own_st (mkF m 30 #[iv p1] []) (fun t k => XS.icmpNo X0.here hx rfl (hb hby d1_27) rfl (teq hc10).2 k) ?_
            refine own_st (mkF m 31 #[iv p1] [(.int (1 : Int32))]) (fun t k => XS.iconst X0.here hx rfl (hb hby d1_30) k) ?_
            refine own_st (mkF m 35 #[iv p1] [(.int (1 : Int32))]) (fun t k => XS.goto X0.here hx rfl (pc0 := 31) (pc' := 35) rfl (hb hby d1_31) (by decide) (by decide) k) ?_
            refine own_ret X0 hlk (v := some (.int (1 : Int32))) (fun h => by rw [hret] at h; cases h) (fun fs hr => retN X0 hx (t := .boolean) hret (by simp) (hb hby d1_35) hr) ?_ (by decide) (by decide)
            show own_Q1 Z p1 h0 n0 _ T0.heap _
            rw [e0]
            exact ⟨congrArg (fun z => some (Value.int z)) (by simp [own_start, hc1, hc6, hc7, hc9, hc10] : (1 : Int32) = own_start p1), N0, rfl⟩
          · refine own_st (mkF m 34 #[iv p1] []) (fun t k => XS.icmpYes X0.here hx rfl (pc0 := 27) (pc' := 34) rfl (hb hby d1_27) rfl (feq hc10).2 (by decide) (by decide) k) ?_
            refine own_st (mkF m 35 #[iv p1] [(.int (0 : Int32))]) (fun t k => XS.iconst X0.here hx rfl (hb hby d1_34) k) ?_
            refine own_ret X0 hlk (v := some (.int (0 : Int32))) (fun h => by rw [hret] at h; cases h) (fun fs hr => retN X0 hx (t := .boolean) hret (by simp) (hb hby d1_35) hr) ?_ (by decide) (by decide)
            show own_Q1 Z p1 h0 n0 _ T0.heap _
            rw [e0]
            exact ⟨congrArg (fun z => some (Value.int z)) (by simp [own_start, hc1, hc6, hc7, hc9, hc10] : (0 : Int32) = own_start p1), N0, rfl⟩
        · refine own_st (mkF m 30 #[iv p1] []) (fun t k => XS.icmpYes X0.here hx rfl (pc0 := 21) (pc' := 30) rfl (hb hby d1_21) rfl (flt hc9).2.2.2 (by decide) (by decide) k) ?_
          refine own_st (mkF m 31 #[iv p1] [(.int (1 : Int32))]) (fun t k => XS.iconst X0.here hx rfl (hb hby d1_30) k) ?_
          refine own_st (mkF m 35 #[iv p1] [(.int (1 : Int32))]) (fun t k => XS.goto X0.here hx rfl (pc0 := 31) (pc' := 35) rfl (hb hby d1_31) (by decide) (by decide) k) ?_
          refine own_ret X0 hlk (v := some (.int (1 : Int32))) (fun h => by rw [hret] at h; cases h) (fun fs hr => retN X0 hx (t := .boolean) hret (by simp) (hb hby d1_35) hr) ?_ (by decide) (by decide)
          show own_Q1 Z p1 h0 n0 _ T0.heap _
          rw [e0]
          exact ⟨congrArg (fun z => some (Value.int z)) (by simp [own_start, hc1, hc6, hc7, hc9] : (1 : Int32) = own_start p1), N0, rfl⟩
    · refine own_st (mkF m 30 #[iv p1] []) (fun t k => XS.icmpYes X0.here hx rfl (pc0 := 9) (pc' := 30) rfl (hb hby d1_9) rfl (flt hc6).2.2.2 (by decide) (by decide) k) ?_
      refine own_st (mkF m 31 #[iv p1] [(.int (1 : Int32))]) (fun t k => XS.iconst X0.here hx rfl (hb hby d1_30) k) ?_
      refine own_st (mkF m 35 #[iv p1] [(.int (1 : Int32))]) (fun t k => XS.goto X0.here hx rfl (pc0 := 31) (pc' := 35) rfl (hb hby d1_31) (by decide) (by decide) k) ?_
      refine own_ret X0 hlk (v := some (.int (1 : Int32))) (fun h => by rw [hret] at h; cases h) (fun fs hr => retN X0 hx (t := .boolean) hret (by simp) (hb hby d1_35) hr) ?_ (by decide) (by decide)
      show own_Q1 Z p1 h0 n0 _ T0.heap _
      rw [e0]
      exact ⟨congrArg (fun z => some (Value.int z)) (by simp [own_start, hc1, hc6] : (1 : Int32) = own_start p1), N0, rfl⟩
theorem d2_0 : decode method_2_code 0 = .ok (.iload_n 0, 1) := by decide +kernel
theorem d2_1 : decode method_2_code 1 = .ok (.bipush 32, 2) := by decide +kernel
theorem d2_3 : decode method_2_code 3 = .ok (.ior, 1) := by decide +kernel
theorem d2_4 : decode method_2_code 4 = .ok (.istore_n 1, 1) := by decide +kernel
theorem d2_5 : decode method_2_code 5 = .ok (.iload_n 1, 1) := by decide +kernel
theorem d2_6 : decode method_2_code 6 = .ok (.bipush 97, 2) := by decide +kernel
theorem d2_8 : decode method_2_code 8 = .ok (.if_icmp .lt 13, 3) := by decide +kernel
theorem d2_21 : decode method_2_code 21 = .ok (.iconst 0, 1) := by decide +kernel
theorem d2_22 : decode method_2_code 22 = .ok (.istore_n 2, 1) := by decide +kernel
theorem d2_23 : decode method_2_code 23 = .ok (.iload_n 2, 1) := by decide +kernel
theorem d2_24 : decode method_2_code 24 = .ok (.ifCond .ne 9, 3) := by decide +kernel
theorem d2_27 : decode method_2_code 27 = .ok (.iload_n 0, 1) := by decide +kernel
theorem d2_28 : decode method_2_code 28 = .ok (.bipush 95, 2) := by decide +kernel
theorem d2_30 : decode method_2_code 30 = .ok (.if_icmp .ne 7, 3) := by decide +kernel
theorem d2_33 : decode method_2_code 33 = .ok (.iconst 1, 1) := by decide +kernel
theorem d2_34 : decode method_2_code 34 = .ok (.goto 4, 3) := by decide +kernel
theorem d2_38 : decode method_2_code 38 = .ok (.ireturn, 1) := by decide +kernel
theorem d2_37 : decode method_2_code 37 = .ok (.iconst 0, 1) := by decide +kernel
theorem d2_11 : decode method_2_code 11 = .ok (.iload_n 1, 1) := by decide +kernel
theorem d2_12 : decode method_2_code 12 = .ok (.bipush 122, 2) := by decide +kernel
theorem d2_14 : decode method_2_code 14 = .ok (.if_icmp .gt 7, 3) := by decide +kernel
theorem d2_17 : decode method_2_code 17 = .ok (.iconst 1, 1) := by decide +kernel
theorem d2_18 : decode method_2_code 18 = .ok (.goto 4, 3) := by decide +kernel
theorem pn_2 : plainName "com/example/bidel/bidel/reading/VerilogLexerIsIdentifierStartPinLaw" = true := by first | (simp [plainName, overriddenIn]; done) | decide +kernel
theorem own_ef2 (m : MethodId) (p1 : Int32) : entryFrame m #[(.int p1)] 3 = mkF m 0 #[iv p1, .unset, .unset] [] := by first | (simp [entryFrame, mkF, argsToLocals, Value.category]; done) | rfl
def own_Q2 (Z : State) (p1 : Int32) (h0 : Heap) (n0 : Nat) (v : Option Value) (h : Heap) (L : List Loc) : Prop := v = some (.int (own_refv p1)) ∧ Fr n0 L ∧ h = h0
set_option maxRecDepth 65536 in
set_option maxHeartbeats 40000000 in
theorem own_rm2 (l : Launch) (Z : State) (a0 : Array Value) (hw : ∀ d ∈ tables_1, d.before a0 Z = true) (ws : List Jvm.Cond) (p1 : Int32) (h0 : Heap) (n0 : Nat) (Z0 : n0 ≤ h0.size) :
    MetFree l (⟨"com/example/bidel/bidel/reading/VerilogLexerIsIdentifierStartPinLaw", "reference", "(I)Z"⟩ : MethodName) (head1 (Jvm.Cond.code (⟨"com/example/bidel/bidel/reading/VerilogLexerIsIdentifierStartPinLaw", "reference", "(I)Z"⟩ : MethodName) method_2_code 3 (some .boolean) :: ws) ({ frames := 0, cells := 0, slots := 0, locals := 0 } : Room)) (fun a U => a = #[(.int p1)] ∧ Z.Warmed39 U.vm ∧ U.heap = h0) (fun _ _ _ _ _ => True) (fun _ U o U' => ∃ v L, o = .returned v ∧ own_Q2 Z p1 h0 n0 v U'.heap L ∧ FrameEnd U o U' L ({ frames := 0, cells := 0, slots := 0, locals := 0 } : Room).cells ({ frames := 0, cells := 0, slots := 0, locals := 0 } : Room).slots) := by
  refine own_body (plainFor_of_name pn_2) (fun m => own_ef2 m p1) ?_
  intro p e s m below meth c T0 X0 hx hby hml hZ hown hnm hret hlk e0
  have hown : s.vm.findClass "com/example/bidel/bidel/reading/VerilogLexerIsIdentifierStartPinLaw" = some m.cls := hown
  have hnm : meth.name = "reference" := hnm
  have N0 := Fr.nil n0
  refine own_st (mkF m 1 #[iv p1, .unset, .unset] [(.int p1)]) (fun t k => XS.iloadN X0.here hx rfl (hb hby d2_0) rfl k) ?_
  refine own_st (mkF m 3 #[iv p1, .unset, .unset] [(.int (32 : Int32)), (.int p1)]) (fun t k => XS.bipush X0.here hx rfl (hb hby d2_1) k) ?_
  refine own_st (mkF m 4 #[iv p1, .unset, .unset] [(.int (p1 ||| (32 : Int32)))]) (fun t k => XS.ior X0.here hx rfl (hb hby d2_3) rfl k) ?_
  refine own_st (mkF m 5 #[iv p1, iv (p1 ||| (32 : Int32)), .unset] []) (fun t k => XS.istoreN X0.here hx rfl (hb hby d2_4) rfl (l' := #[iv p1, iv (p1 ||| (32 : Int32)), .unset]) rfl k) ?_
  refine own_st (mkF m 6 #[iv p1, iv (p1 ||| (32 : Int32)), .unset] [(.int (p1 ||| (32 : Int32)))]) (fun t k => XS.iloadN X0.here hx rfl (hb hby d2_5) rfl k) ?_
  refine own_st (mkF m 8 #[iv p1, iv (p1 ||| (32 : Int32)), .unset] [(.int (97 : Int32)), (.int (p1 ||| (32 : Int32)))]) (fun t k => XS.bipush X0.here hx rfl (hb hby d2_6) k) ?_
  by_cases hc11 : (p1 ||| (32 : Int32)) < (97 : Int32)
  · refine own_st (mkF m 21 #[iv p1, iv (p1 ||| (32 : Int32)), .unset] []) (fun t k => XS.icmpYes X0.here hx rfl (pc0 := 8) (pc' := 21) rfl (hb hby d2_8) rfl (tlt hc11).1 (by decide) (by decide) k) ?_
    refine own_st (mkF m 22 #[iv p1, iv (p1 ||| (32 : Int32)), .unset] [(.int (0 : Int32))]) (fun t k => XS.iconst X0.here hx rfl (hb hby d2_21) k) ?_
    refine own_st (mkF m 23 #[iv p1, iv (p1 ||| (32 : Int32)), iv (0 : Int32)] []) (fun t k => XS.istoreN X0.here hx rfl (hb hby d2_22) rfl (l' := #[iv p1, iv (p1 ||| (32 : Int32)), iv (0 : Int32)]) rfl k) ?_
    refine own_st (mkF m 24 #[iv p1, iv (p1 ||| (32 : Int32)), iv (0 : Int32)] [(.int (0 : Int32))]) (fun t k => XS.iloadN X0.here hx rfl (hb hby d2_23) rfl k) ?_
    refine own_st (mkF m 27 #[iv p1, iv (p1 ||| (32 : Int32)), iv (0 : Int32)] []) (fun t k => XS.ifNo X0.here hx rfl (hb hby d2_24) rfl ((if0 _ _).trans (teq (by decide : (0 : Int32) = (0 : Int32))).2) k) ?_
    refine own_st (mkF m 28 #[iv p1, iv (p1 ||| (32 : Int32)), iv (0 : Int32)] [(.int p1)]) (fun t k => XS.iloadN X0.here hx rfl (hb hby d2_27) rfl k) ?_
    refine own_st (mkF m 30 #[iv p1, iv (p1 ||| (32 : Int32)), iv (0 : Int32)] [(.int (95 : Int32)), (.int p1)]) (fun t k => XS.bipush X0.here hx rfl (hb hby d2_28) k) ?_
    by_cases hc12 : p1 = (95 : Int32)
    · refine own_st (mkF m 33 #[iv p1, iv (p1 ||| (32 : Int32)), iv (0 : Int32)] []) (fun t k => XS.icmpNo X0.here hx rfl (hb hby d2_30) rfl (teq hc12).2 k) ?_
      refine own_st (mkF m 34 #[iv p1, iv (p1 ||| (32 : Int32)), iv (0 : Int32)] [(.int (1 : Int32))]) (fun t k => XS.iconst X0.here hx rfl (hb hby d2_33) k) ?_
      refine own_st (mkF m 38 #[iv p1, iv (p1 ||| (32 : Int32)), iv (0 : Int32)] [(.int (1 : Int32))]) (fun t k => XS.goto X0.here hx rfl (pc0 := 34) (pc' := 38) rfl (hb hby d2_34) (by decide) (by decide) k) ?_
      refine own_ret X0 hlk (v := some (.int (1 : Int32))) (fun h => by rw [hret] at h; cases h) (fun fs hr => retN X0 hx (t := .boolean) hret (by simp) (hb hby d2_38) hr) ?_ (by decide) (by decide)
      show own_Q2 Z p1 h0 n0 _ T0.heap _
      rw [e0]
      exact ⟨congrArg (fun z => some (Value.int z)) (by simp [own_refv, hc11, hc12] : (1 : Int32) = own_refv p1), N0, rfl⟩
    · refine own_st (mkF m 37 #[iv p1, iv (p1 ||| (32 : Int32)), iv (0 : Int32)] []) (fun t k => XS.icmpYes X0.here hx rfl (pc0 := 30) (pc' := 37) rfl (hb hby d2_30) rfl (feq hc12).2 (by decide) (by decide) k) ?_
      refine own_st (mkF m 38 #[iv p1, iv (p1 ||| (32 : Int32)), iv (0 : Int32)] [(.int (0 : Int32))]) (fun t k => XS.iconst X0.here hx rfl (hb hby d2_37) k) ?_
      refine own_ret X0 hlk (v := some (.int (0 : Int32))) (fun h => by rw [hret] at h; cases h) (fun fs hr => retN X0 hx (t := .boolean) hret (by simp) (hb hby d2_38) hr) ?_ (by decide) (by decide)
      show own_Q2 Z p1 h0 n0 _ T0.heap _
      rw [e0]
      exact ⟨congrArg (fun z => some (Value.int z)) (by simp [own_refv, hc11, hc12] : (0 : Int32) = own_refv p1), N0, rfl⟩
  · refine own_st (mkF m 11 #[iv p1, iv (p1 ||| (32 : Int32)), .unset] []) (fun t k => XS.icmpNo X0.here hx rfl (hb hby d2_8) rfl (flt hc11).1 k) ?_
    refine own_st (mkF m 12 #[iv p1, iv (p1 ||| (32 : Int32)), .unset] [(.int (p1 ||| (32 : Int32)))]) (fun t k => XS.iloadN X0.here hx rfl (hb hby d2_11) rfl k) ?_
    refine own_st (mkF m 14 #[iv p1, iv (p1 ||| (32 : Int32)), .unset] [(.int (122 : Int32)), (.int (p1 ||| (32 : Int32)))]) (fun t k => XS.bipush X0.here hx rfl (hb hby d2_12) k) ?_
    by_cases hc13 : (122 : Int32) < (p1 ||| (32 : Int32))
    · refine own_st (mkF m 21 #[iv p1, iv (p1 ||| (32 : Int32)), .unset] []) (fun t k => XS.icmpYes X0.here hx rfl (pc0 := 14) (pc' := 21) rfl (hb hby d2_14) rfl (tlt hc13).2.2.1 (by decide) (by decide) k) ?_
      refine own_st (mkF m 22 #[iv p1, iv (p1 ||| (32 : Int32)), .unset] [(.int (0 : Int32))]) (fun t k => XS.iconst X0.here hx rfl (hb hby d2_21) k) ?_
      refine own_st (mkF m 23 #[iv p1, iv (p1 ||| (32 : Int32)), iv (0 : Int32)] []) (fun t k => XS.istoreN X0.here hx rfl (hb hby d2_22) rfl (l' := #[iv p1, iv (p1 ||| (32 : Int32)), iv (0 : Int32)]) rfl k) ?_
      refine own_st (mkF m 24 #[iv p1, iv (p1 ||| (32 : Int32)), iv (0 : Int32)] [(.int (0 : Int32))]) (fun t k => XS.iloadN X0.here hx rfl (hb hby d2_23) rfl k) ?_
      refine own_st (mkF m 27 #[iv p1, iv (p1 ||| (32 : Int32)), iv (0 : Int32)] []) (fun t k => XS.ifNo X0.here hx rfl (hb hby d2_24) rfl ((if0 _ _).trans (teq (by decide : (0 : Int32) = (0 : Int32))).2) k) ?_
      refine own_st (mkF m 28 #[iv p1, iv (p1 ||| (32 : Int32)), iv (0 : Int32)] [(.int p1)]) (fun t k => XS.iloadN X0.here hx rfl (hb hby d2_27) rfl k) ?_
      refine own_st (mkF m 30 #[iv p1, iv (p1 ||| (32 : Int32)), iv (0 : Int32)] [(.int (95 : Int32)), (.int p1)]) (fun t k => XS.bipush X0.here hx rfl (hb hby d2_28) k) ?_
      by_cases hc14 : p1 = (95 : Int32)
      · refine own_st (mkF m 33 #[iv p1, iv (p1 ||| (32 : Int32)), iv (0 : Int32)] []) (fun t k => XS.icmpNo X0.here hx rfl (hb hby d2_30) rfl (teq hc14).2 k) ?_
        refine own_st (mkF m 34 #[iv p1, iv (p1 ||| (32 : Int32)), iv (0 : Int32)] [(.int (1 : Int32))]) (fun t k => XS.iconst X0.here hx rfl (hb hby d2_33) k) ?_
        refine own_st (mkF m 38 #[iv p1, iv (p1 ||| (32 : Int32)), iv (0 : Int32)] [(.int (1 : Int32))]) (fun t k => XS.goto X0.here hx rfl (pc0 := 34) (pc' := 38) rfl (hb hby d2_34) (by decide) (by decide) k) ?_
        refine own_ret X0 hlk (v := some (.int (1 : Int32))) (fun h => by rw [hret] at h; cases h) (fun fs hr => retN X0 hx (t := .boolean) hret (by simp) (hb hby d2_38) hr) ?_ (by decide) (by decide)
        show own_Q2 Z p1 h0 n0 _ T0.heap _
        rw [e0]
        exact ⟨congrArg (fun z => some (Value.int z)) (by simp [own_refv, hc11, hc13, hc14] : (1 : Int32) = own_refv p1), N0, rfl⟩
      · refine own_st (mkF m 37 #[iv p1, iv (p1 ||| (32 : Int32)), iv (0 : Int32)] []) (fun t k => XS.icmpYes X0.here hx rfl (pc0 := 30) (pc' := 37) rfl (hb hby d2_30) rfl (feq hc14).2 (by decide) (by decide) k) ?_
        refine own_st (mkF m 38 #[iv p1, iv (p1 ||| (32 : Int32)), iv (0 : Int32)] [(.int (0 : Int32))]) (fun t k => XS.iconst X0.here hx rfl (hb hby d2_37) k) ?_
        refine own_ret X0 hlk (v := some (.int (0 : Int32))) (fun h => by rw [hret] at h; cases h) (fun fs hr => retN X0 hx (t := .boolean) hret (by simp) (hb hby d2_38) hr) ?_ (by decide) (by decide)
        show own_Q2 Z p1 h0 n0 _ T0.heap _
        rw [e0]
        exact ⟨congrArg (fun z => some (Value.int z)) (by simp [own_refv, hc11, hc13, hc14] : (0 : Int32) = own_refv p1), N0, rfl⟩
    · refine own_st (mkF m 17 #[iv p1, iv (p1 ||| (32 : Int32)), .unset] []) (fun t k => XS.icmpNo X0.here hx rfl (hb hby d2_14) rfl (flt hc13).2.2.1 k) ?_
      refine own_st (mkF m 18 #[iv p1, iv (p1 ||| (32 : Int32)), .unset] [(.int (1 : Int32))]) (fun t k => XS.iconst X0.here hx rfl (hb hby d2_17) k) ?_
      refine own_st (mkF m 22 #[iv p1, iv (p1 ||| (32 : Int32)), .unset] [(.int (1 : Int32))]) (fun t k => XS.goto X0.here hx rfl (pc0 := 18) (pc' := 22) rfl (hb hby d2_18) (by decide) (by decide) k) ?_
      refine own_st (mkF m 23 #[iv p1, iv (p1 ||| (32 : Int32)), iv (1 : Int32)] []) (fun t k => XS.istoreN X0.here hx rfl (hb hby d2_22) rfl (l' := #[iv p1, iv (p1 ||| (32 : Int32)), iv (1 : Int32)]) rfl k) ?_
      refine own_st (mkF m 24 #[iv p1, iv (p1 ||| (32 : Int32)), iv (1 : Int32)] [(.int (1 : Int32))]) (fun t k => XS.iloadN X0.here hx rfl (hb hby d2_23) rfl k) ?_
      refine own_st (mkF m 33 #[iv p1, iv (p1 ||| (32 : Int32)), iv (1 : Int32)] []) (fun t k => XS.ifYes X0.here hx rfl (pc0 := 24) (pc' := 33) rfl (hb hby d2_24) rfl ((if0 _ _).trans (feq (by decide : ¬ ((1 : Int32) = (0 : Int32)))).2) (by decide) (by decide) k) ?_
      refine own_st (mkF m 34 #[iv p1, iv (p1 ||| (32 : Int32)), iv (1 : Int32)] [(.int (1 : Int32))]) (fun t k => XS.iconst X0.here hx rfl (hb hby d2_33) k) ?_
      refine own_st (mkF m 38 #[iv p1, iv (p1 ||| (32 : Int32)), iv (1 : Int32)] [(.int (1 : Int32))]) (fun t k => XS.goto X0.here hx rfl (pc0 := 34) (pc' := 38) rfl (hb hby d2_34) (by decide) (by decide) k) ?_
      refine own_ret X0 hlk (v := some (.int (1 : Int32))) (fun h => by rw [hret] at h; cases h) (fun fs hr => retN X0 hx (t := .boolean) hret (by simp) (hb hby d2_38) hr) ?_ (by decide) (by decide)
      show own_Q2 Z p1 h0 n0 _ T0.heap _
      rw [e0]
      exact ⟨congrArg (fun z => some (Value.int z)) (by simp [own_refv, hc11, hc13] : (1 : Int32) = own_refv p1), N0, rfl⟩
theorem hw_0 {a0 : Array Value} {Z : State} (hw : ∀ d ∈ tables_1, d.before a0 Z = true) : (Jvm.Cond.methodLink "com/example/bidel/bidel/reading/VerilogLexerIsIdentifierStartPinLaw" (7 : Nat) ({ cls := "com/example/bidel/bidel/reading/VerilogLexer", name := "isIdentifierStart", desc := "(I)Z" } : Jvm.MethodName)).before a0 Z = true := hw _ (List.mem_of_getElem? (i := 0) rfl)
theorem hw_3 {a0 : Array Value} {Z : State} (hw : ∀ d ∈ tables_1, d.before a0 Z = true) : (Jvm.Cond.code ({ cls := "com/example/bidel/bidel/reading/VerilogLexer", name := "isIdentifierStart", desc := "(I)Z" } : Jvm.MethodName) prog_180_method_44_code (1 : Nat) (Option.some Jvm.ClassFile.FieldType.boolean)).before a0 Z = true := hw _ (List.mem_of_getElem? (i := 3) rfl)
theorem hw_2 {a0 : Array Value} {Z : State} (hw : ∀ d ∈ tables_1, d.before a0 Z = true) : (Jvm.Cond.initialized "com/example/bidel/bidel/reading/VerilogLexer").before a0 Z = true := hw _ (List.mem_of_getElem? (i := 2) rfl)
theorem pd_0 : parseMethodDescriptor "(I)Z" = some ⟨[.int], some .boolean⟩ := by decide +kernel
theorem hw_1 {a0 : Array Value} {Z : State} (hw : ∀ d ∈ tables_1, d.before a0 Z = true) : (Jvm.Cond.static ({ cls := "com/example/bidel/bidel/reading/VerilogLexer", name := "isIdentifierStart", desc := "(I)Z" } : Jvm.MethodName)).before a0 Z = true := hw _ (List.mem_of_getElem? (i := 1) rfl)
theorem hw_4 {a0 : Array Value} {Z : State} (hw : ∀ d ∈ tables_1, d.before a0 Z = true) : (Jvm.Cond.methodLink "com/example/bidel/bidel/reading/VerilogLexerIsIdentifierStartPinLaw" (13 : Nat) ({ cls := "com/example/bidel/bidel/reading/VerilogLexerIsIdentifierStartPinLaw", name := "reference", desc := "(I)Z" } : Jvm.MethodName)).before a0 Z = true := hw _ (List.mem_of_getElem? (i := 4) rfl)
theorem hw_7 {a0 : Array Value} {Z : State} (hw : ∀ d ∈ tables_1, d.before a0 Z = true) : (Jvm.Cond.code ({ cls := "com/example/bidel/bidel/reading/VerilogLexerIsIdentifierStartPinLaw", name := "reference", desc := "(I)Z" } : Jvm.MethodName) method_2_code (3 : Nat) (Option.some Jvm.ClassFile.FieldType.boolean)).before a0 Z = true := hw _ (List.mem_of_getElem? (i := 7) rfl)
theorem hw_6 {a0 : Array Value} {Z : State} (hw : ∀ d ∈ tables_1, d.before a0 Z = true) : (Jvm.Cond.initialized "com/example/bidel/bidel/reading/VerilogLexerIsIdentifierStartPinLaw").before a0 Z = true := hw _ (List.mem_of_getElem? (i := 6) rfl)
theorem hw_5 {a0 : Array Value} {Z : State} (hw : ∀ d ∈ tables_1, d.before a0 Z = true) : (Jvm.Cond.static ({ cls := "com/example/bidel/bidel/reading/VerilogLexerIsIdentifierStartPinLaw", name := "reference", desc := "(I)Z" } : Jvm.MethodName)).before a0 Z = true := hw _ (List.mem_of_getElem? (i := 5) rfl)
theorem own_ef0 (m : MethodId) (p1 : Int32) (p2 : Int32) : entryFrame m #[(.int p1), (.int p2)] maxLocals = mkF m 0 #[iv p1, iv p2, .unset, .unset, .unset, .unset, .unset, .unset] [] := by first | (simp [entryFrame, mkF, argsToLocals, Value.category, maxLocals]; done) | rfl
def own_Q0 (Z : State) (p1 : Int32) (p2 : Int32) (h0 : Heap) (n0 : Nat) (v : Option Value) (h : Heap) (L : List Loc) : Prop := v = some (.int 1) ∧ Fr n0 L
set_option maxRecDepth 65536 in
set_option maxHeartbeats 40000000 in
theorem own_rm0 (l : Launch) (Z : State) (a0 : Array Value) (hw : ∀ d ∈ tables_1, d.before a0 Z = true) (ws : List Jvm.Cond) (p1 : Int32) (p2 : Int32) (h0 : Heap) (n0 : Nat) (Z0 : n0 ≤ h0.size) :
    MetFree l x (head1 (Jvm.Cond.code x code maxLocals ret :: ws) room_1) (fun a U => a = #[(.int p1), (.int p2)] ∧ Z.Warmed39 U.vm ∧ U.heap = h0) (fun _ _ _ _ _ => True) (fun _ U o U' => ∃ v L, o = .returned v ∧ own_Q0 Z p1 p2 h0 n0 v U'.heap L ∧ FrameEnd U o U' L 0 0) := by
  refine own_body (plainFor_of_name pn_2) (fun m => own_ef0 m p1 p2) ?_
  intro p e s m below meth c T0 X0 hx hby hml hZ hown hnm hret hlk e0
  have hown : s.vm.findClass "com/example/bidel/bidel/reading/VerilogLexerIsIdentifierStartPinLaw" = some m.cls := hown
  have hnm : meth.name = "law" := hnm
  have N0 := Fr.nil n0
  refine own_st (mkF m 1 #[iv p1, iv p2, .unset, .unset, .unset, .unset, .unset, .unset] [(.int p1)]) (fun t k => XS.iloadN X0.here hx rfl (hb hby at_0) rfl k) ?_
  refine own_st (mkF m 2 #[iv p1, iv p2, iv p1, .unset, .unset, .unset, .unset, .unset] []) (fun t k => XS.istoreN X0.here hx rfl (hb hby at_1) rfl (l' := #[iv p1, iv p2, iv p1, .unset, .unset, .unset, .unset, .unset]) rfl k) ?_
  refine own_st (mkF m 3 #[iv p1, iv p2, iv p1, .unset, .unset, .unset, .unset, .unset] [(.int p2)]) (fun t k => XS.iloadN X0.here hx rfl (hb hby at_2) rfl k) ?_
  refine own_st (mkF m 6 #[iv p1, iv p2, iv p1, .unset, .unset, .unset, .unset, .unset] [(.int (255 : Int32)), (.int p2)]) (fun t k => XS.sipush X0.here hx rfl (hb hby at_3) k) ?_
  refine own_st (mkF m 7 #[iv p1, iv p2, iv p1, .unset, .unset, .unset, .unset, .unset] [(.int (p2 &&& (255 : Int32)))]) (fun t k => XS.iand X0.here hx rfl (hb hby at_6) rfl k) ?_
  refine own_st (mkF m 8 #[iv p1, iv p2, iv p1, iv (p2 &&& (255 : Int32)), .unset, .unset, .unset, .unset] []) (fun t k => XS.istoreN X0.here hx rfl (hb hby at_7) rfl (l' := #[iv p1, iv p2, iv p1, iv (p2 &&& (255 : Int32)), .unset, .unset, .unset, .unset]) rfl k) ?_
  refine own_st (mkF m 9 #[iv p1, iv p2, iv p1, iv (p2 &&& (255 : Int32)), .unset, .unset, .unset, .unset] [(.int p2)]) (fun t k => XS.iloadN X0.here hx rfl (hb hby at_8) rfl k) ?_
  refine own_st (mkF m 11 #[iv p1, iv p2, iv p1, iv (p2 &&& (255 : Int32)), .unset, .unset, .unset, .unset] [(.int (127 : Int32)), (.int p2)]) (fun t k => XS.bipush X0.here hx rfl (hb hby at_9) k) ?_
  refine own_st (mkF m 12 #[iv p1, iv p2, iv p1, iv (p2 &&& (255 : Int32)), .unset, .unset, .unset, .unset] [(.int (p2 &&& (127 : Int32)))]) (fun t k => XS.iand X0.here hx rfl (hb hby at_11) rfl k) ?_
  refine own_st (mkF m 14 #[iv p1, iv p2, iv p1, iv (p2 &&& (255 : Int32)), iv (p2 &&& (127 : Int32)), .unset, .unset, .unset] []) (fun t k => XS.istore X0.here hx rfl (hb hby at_12) rfl (l' := #[iv p1, iv p2, iv p1, iv (p2 &&& (255 : Int32)), iv (p2 &&& (127 : Int32)), .unset, .unset, .unset]) rfl k) ?_
  refine own_st (mkF m 15 #[iv p1, iv p2, iv p1, iv (p2 &&& (255 : Int32)), iv (p2 &&& (127 : Int32)), .unset, .unset, .unset] [(.int p1)]) (fun t k => XS.iloadN X0.here hx rfl (hb hby at_14) rfl k) ?_
  obtain ⟨_, _, ⟨T15, L15, k15, n15⟩, -, X15, ⟨Lc15, hQ15, l15, y15, z15⟩, st15⟩ := Jvm.LawKit.callS X0 hx (y := (⟨"com/example/bidel/bidel/reading/VerilogLexer", "isIdentifierStart", "(I)Z"⟩ : MethodName)) hown (mvT hZ (hw_0 hw)) (mvT hZ (hw_1 hw)) (mvT hZ (hw_2 hw)) (mvT hZ (hw_3 hw)) (by decide) (backOf (W := 0) (own_rm1 l Z a0 hw [] p1 h0 n0 Z0) hZ (hw_3 hw) (hw_2 hw) (by decide) (by decide)) (g := (mkF m 15 #[iv p1, iv p2, iv p1, iv (p2 &&& (255 : Int32)), iv (p2 &&& (127 : Int32)), .unset, .unset, .unset] [(.int p1)])) rfl (by rw [hml]; rfl) (argsL := [(.int p1)]) (rest := []) (lenOf pd_0 rfl) rfl (by show 2 * 0 + _ ≤ _; exact Nat.le_of_eq rfl) (hb hby at_15) (fun _ _ => ⟨rfl, e0, (by decide : 0 + 0 ≤ _), (by decide : 0 + 0 ≤ _)⟩)
  dsimp only [Pt.U, Pt.locs, Pt.cells, Pt.slots] at X15 l15 y15 z15 st15 hQ15
  subst l15 y15 z15
  obtain ⟨rfl, Nq15, e15⟩ := hQ15
  have N15 := Fr.app N0 Nq15
  refine own_step (g' := (mkF m 18 #[iv p1, iv p2, iv p1, iv (p2 &&& (255 : Int32)), iv (p2 &&& (127 : Int32)), .unset, .unset, .unset] [(.int (own_start p1))])) st15 ?_
  refine own_st (mkF m 19 #[iv p1, iv p2, iv p1, iv (p2 &&& (255 : Int32)), iv (p2 &&& (127 : Int32)), .unset, .unset, .unset] [(.int p1), (.int (own_start p1))]) (fun t k => XS.iloadN X15.here hx rfl (hb hby at_18) rfl k) ?_
  obtain ⟨_, _, ⟨T16, L16, k16, n16⟩, -, X16, ⟨Lc16, hQ16, l16, y16, z16⟩, st16⟩ := Jvm.LawKit.callS X15 hx (y := (⟨"com/example/bidel/bidel/reading/VerilogLexerIsIdentifierStartPinLaw", "reference", "(I)Z"⟩ : MethodName)) hown (mvT hZ (hw_4 hw)) (mvT hZ (hw_5 hw)) (mvT hZ (hw_6 hw)) (mvT hZ (hw_7 hw)) (by decide) (backOf (W := 1) (own_rm2 l Z a0 hw [] p1 h0 n0 Z0) hZ (hw_7 hw) (hw_6 hw) (by decide) (by decide)) (g := (mkF m 19 #[iv p1, iv p2, iv p1, iv (p2 &&& (255 : Int32)), iv (p2 &&& (127 : Int32)), .unset, .unset, .unset] [(.int p1), (.int (own_start p1))])) rfl (by rw [hml]; rfl) (argsL := [(.int p1)]) (rest := [(.int (own_start p1))]) (lenOf pd_0 rfl) rfl (by show 2 * 0 + _ ≤ _; exact Nat.le_of_eq rfl) (hb hby at_19) (fun _ _ => ⟨rfl, e15, (by decide : 0 + 0 ≤ _), (by decide : 0 + 0 ≤ _)⟩)
  dsimp only [Pt.U, Pt.locs, Pt.cells, Pt.slots] at X16 l16 y16 z16 st16 hQ16
  subst l16 y16 z16
  obtain ⟨rfl, Nq16, e16⟩ := hQ16
  have N16 := Fr.app N15 Nq16
  refine own_step (g' := (mkF m 22 #[iv p1, iv p2, iv p1, iv (p2 &&& (255 : Int32)), iv (p2 &&& (127 : Int32)), .unset, .unset, .unset] [(.int (own_refv p1)), (.int (own_start p1))])) st16 ?_
  refine own_st (mkF m 25 #[iv p1, iv p2, iv p1, iv (p2 &&& (255 : Int32)), iv (p2 &&& (127 : Int32)), .unset, .unset, .unset] []) (fun t k => XS.icmpNo X16.here hx rfl (hb hby at_22) rfl (teq (own_same _)).2 k) ?_
  refine own_st (mkF m 26 #[iv p1, iv p2, iv p1, iv (p2 &&& (255 : Int32)), iv (p2 &&& (127 : Int32)), .unset, .unset, .unset] [(.int (1 : Int32))]) (fun t k => XS.iconst X16.here hx rfl (hb hby at_25) k) ?_
  refine own_st (mkF m 30 #[iv p1, iv p2, iv p1, iv (p2 &&& (255 : Int32)), iv (p2 &&& (127 : Int32)), .unset, .unset, .unset] [(.int (1 : Int32))]) (fun t k => XS.goto X16.here hx rfl (pc0 := 26) (pc' := 30) rfl (hb hby at_26) (by decide) (by decide) k) ?_
  refine own_st (mkF m 32 #[iv p1, iv p2, iv p1, iv (p2 &&& (255 : Int32)), iv (p2 &&& (127 : Int32)), iv (1 : Int32), .unset, .unset] []) (fun t k => XS.istore X16.here hx rfl (hb hby at_30) rfl (l' := #[iv p1, iv p2, iv p1, iv (p2 &&& (255 : Int32)), iv (p2 &&& (127 : Int32)), iv (1 : Int32), .unset, .unset]) rfl k) ?_
  refine own_st (mkF m 33 #[iv p1, iv p2, iv p1, iv (p2 &&& (255 : Int32)), iv (p2 &&& (127 : Int32)), iv (1 : Int32), .unset, .unset] [(.int (p2 &&& (255 : Int32)))]) (fun t k => XS.iloadN X16.here hx rfl (hb hby at_32) rfl k) ?_
  obtain ⟨_, _, ⟨T17, L17, k17, n17⟩, -, X17, ⟨Lc17, hQ17, l17, y17, z17⟩, st17⟩ := Jvm.LawKit.callS X16 hx (y := (⟨"com/example/bidel/bidel/reading/VerilogLexer", "isIdentifierStart", "(I)Z"⟩ : MethodName)) hown (mvT hZ (hw_0 hw)) (mvT hZ (hw_1 hw)) (mvT hZ (hw_2 hw)) (mvT hZ (hw_3 hw)) (by decide) (backOf (W := 0) (own_rm1 l Z a0 hw [] (p2 &&& (255 : Int32)) h0 n0 Z0) hZ (hw_3 hw) (hw_2 hw) (by decide) (by decide)) (g := (mkF m 33 #[iv p1, iv p2, iv p1, iv (p2 &&& (255 : Int32)), iv (p2 &&& (127 : Int32)), iv (1 : Int32), .unset, .unset] [(.int (p2 &&& (255 : Int32)))])) rfl (by rw [hml]; rfl) (argsL := [(.int (p2 &&& (255 : Int32)))]) (rest := []) (lenOf pd_0 rfl) rfl (by show 2 * 0 + _ ≤ _; exact Nat.le_of_eq rfl) (hb hby at_33) (fun _ _ => ⟨rfl, e16, (by decide : 0 + 0 ≤ _), (by decide : 0 + 0 ≤ _)⟩)
  dsimp only [Pt.U, Pt.locs, Pt.cells, Pt.slots] at X17 l17 y17 z17 st17 hQ17
  subst l17 y17 z17
  obtain ⟨rfl, Nq17, e17⟩ := hQ17
  have N17 := Fr.app N16 Nq17
  refine own_step (g' := (mkF m 36 #[iv p1, iv p2, iv p1, iv (p2 &&& (255 : Int32)), iv (p2 &&& (127 : Int32)), iv (1 : Int32), .unset, .unset] [(.int (own_start (p2 &&& (255 : Int32))))])) st17 ?_
  refine own_st (mkF m 37 #[iv p1, iv p2, iv p1, iv (p2 &&& (255 : Int32)), iv (p2 &&& (127 : Int32)), iv (1 : Int32), .unset, .unset] [(.int (p2 &&& (255 : Int32))), (.int (own_start (p2 &&& (255 : Int32))))]) (fun t k => XS.iloadN X17.here hx rfl (hb hby at_36) rfl k) ?_
  obtain ⟨_, _, ⟨T18, L18, k18, n18⟩, -, X18, ⟨Lc18, hQ18, l18, y18, z18⟩, st18⟩ := Jvm.LawKit.callS X17 hx (y := (⟨"com/example/bidel/bidel/reading/VerilogLexerIsIdentifierStartPinLaw", "reference", "(I)Z"⟩ : MethodName)) hown (mvT hZ (hw_4 hw)) (mvT hZ (hw_5 hw)) (mvT hZ (hw_6 hw)) (mvT hZ (hw_7 hw)) (by decide) (backOf (W := 1) (own_rm2 l Z a0 hw [] (p2 &&& (255 : Int32)) h0 n0 Z0) hZ (hw_7 hw) (hw_6 hw) (by decide) (by decide)) (g := (mkF m 37 #[iv p1, iv p2, iv p1, iv (p2 &&& (255 : Int32)), iv (p2 &&& (127 : Int32)), iv (1 : Int32), .unset, .unset] [(.int (p2 &&& (255 : Int32))), (.int (own_start (p2 &&& (255 : Int32))))])) rfl (by rw [hml]; rfl) (argsL := [(.int (p2 &&& (255 : Int32)))]) (rest := [(.int (own_start (p2 &&& (255 : Int32))))]) (lenOf pd_0 rfl) rfl (by show 2 * 0 + _ ≤ _; exact Nat.le_of_eq rfl) (hb hby at_37) (fun _ _ => ⟨rfl, e17, (by decide : 0 + 0 ≤ _), (by decide : 0 + 0 ≤ _)⟩)
  dsimp only [Pt.U, Pt.locs, Pt.cells, Pt.slots] at X18 l18 y18 z18 st18 hQ18
  subst l18 y18 z18
  obtain ⟨rfl, Nq18, e18⟩ := hQ18
  have N18 := Fr.app N17 Nq18
  refine own_step (g' := (mkF m 40 #[iv p1, iv p2, iv p1, iv (p2 &&& (255 : Int32)), iv (p2 &&& (127 : Int32)), iv (1 : Int32), .unset, .unset] [(.int (own_refv (p2 &&& (255 : Int32)))), (.int (own_start (p2 &&& (255 : Int32))))])) st18 ?_
  refine own_st (mkF m 43 #[iv p1, iv p2, iv p1, iv (p2 &&& (255 : Int32)), iv (p2 &&& (127 : Int32)), iv (1 : Int32), .unset, .unset] []) (fun t k => XS.icmpNo X18.here hx rfl (hb hby at_40) rfl (teq (own_same _)).2 k) ?_
  refine own_st (mkF m 44 #[iv p1, iv p2, iv p1, iv (p2 &&& (255 : Int32)), iv (p2 &&& (127 : Int32)), iv (1 : Int32), .unset, .unset] [(.int (1 : Int32))]) (fun t k => XS.iconst X18.here hx rfl (hb hby at_43) k) ?_
  refine own_st (mkF m 48 #[iv p1, iv p2, iv p1, iv (p2 &&& (255 : Int32)), iv (p2 &&& (127 : Int32)), iv (1 : Int32), .unset, .unset] [(.int (1 : Int32))]) (fun t k => XS.goto X18.here hx rfl (pc0 := 44) (pc' := 48) rfl (hb hby at_44) (by decide) (by decide) k) ?_
  refine own_st (mkF m 50 #[iv p1, iv p2, iv p1, iv (p2 &&& (255 : Int32)), iv (p2 &&& (127 : Int32)), iv (1 : Int32), iv (1 : Int32), .unset] []) (fun t k => XS.istore X18.here hx rfl (hb hby at_48) rfl (l' := #[iv p1, iv p2, iv p1, iv (p2 &&& (255 : Int32)), iv (p2 &&& (127 : Int32)), iv (1 : Int32), iv (1 : Int32), .unset]) rfl k) ?_
  refine own_st (mkF m 52 #[iv p1, iv p2, iv p1, iv (p2 &&& (255 : Int32)), iv (p2 &&& (127 : Int32)), iv (1 : Int32), iv (1 : Int32), .unset] [(.int (p2 &&& (127 : Int32)))]) (fun t k => XS.iload X18.here hx rfl (hb hby at_50) rfl k) ?_
  obtain ⟨_, _, ⟨T19, L19, k19, n19⟩, -, X19, ⟨Lc19, hQ19, l19, y19, z19⟩, st19⟩ := Jvm.LawKit.callS X18 hx (y := (⟨"com/example/bidel/bidel/reading/VerilogLexer", "isIdentifierStart", "(I)Z"⟩ : MethodName)) hown (mvT hZ (hw_0 hw)) (mvT hZ (hw_1 hw)) (mvT hZ (hw_2 hw)) (mvT hZ (hw_3 hw)) (by decide) (backOf (W := 0) (own_rm1 l Z a0 hw [] (p2 &&& (127 : Int32)) h0 n0 Z0) hZ (hw_3 hw) (hw_2 hw) (by decide) (by decide)) (g := (mkF m 52 #[iv p1, iv p2, iv p1, iv (p2 &&& (255 : Int32)), iv (p2 &&& (127 : Int32)), iv (1 : Int32), iv (1 : Int32), .unset] [(.int (p2 &&& (127 : Int32)))])) rfl (by rw [hml]; rfl) (argsL := [(.int (p2 &&& (127 : Int32)))]) (rest := []) (lenOf pd_0 rfl) rfl (by show 2 * 0 + _ ≤ _; exact Nat.le_of_eq rfl) (hb hby at_52) (fun _ _ => ⟨rfl, e18, (by decide : 0 + 0 ≤ _), (by decide : 0 + 0 ≤ _)⟩)
  dsimp only [Pt.U, Pt.locs, Pt.cells, Pt.slots] at X19 l19 y19 z19 st19 hQ19
  subst l19 y19 z19
  obtain ⟨rfl, Nq19, e19⟩ := hQ19
  have N19 := Fr.app N18 Nq19
  refine own_step (g' := (mkF m 55 #[iv p1, iv p2, iv p1, iv (p2 &&& (255 : Int32)), iv (p2 &&& (127 : Int32)), iv (1 : Int32), iv (1 : Int32), .unset] [(.int (own_start (p2 &&& (127 : Int32))))])) st19 ?_
  refine own_st (mkF m 57 #[iv p1, iv p2, iv p1, iv (p2 &&& (255 : Int32)), iv (p2 &&& (127 : Int32)), iv (1 : Int32), iv (1 : Int32), .unset] [(.int (p2 &&& (127 : Int32))), (.int (own_start (p2 &&& (127 : Int32))))]) (fun t k => XS.iload X19.here hx rfl (hb hby at_55) rfl k) ?_
  obtain ⟨_, _, ⟨T20, L20, k20, n20⟩, -, X20, ⟨Lc20, hQ20, l20, y20, z20⟩, st20⟩ := Jvm.LawKit.callS X19 hx (y := (⟨"com/example/bidel/bidel/reading/VerilogLexerIsIdentifierStartPinLaw", "reference", "(I)Z"⟩ : MethodName)) hown (mvT hZ (hw_4 hw)) (mvT hZ (hw_5 hw)) (mvT hZ (hw_6 hw)) (mvT hZ (hw_7 hw)) (by decide) (backOf (W := 1) (own_rm2 l Z a0 hw [] (p2 &&& (127 : Int32)) h0 n0 Z0) hZ (hw_7 hw) (hw_6 hw) (by decide) (by decide)) (g := (mkF m 57 #[iv p1, iv p2, iv p1, iv (p2 &&& (255 : Int32)), iv (p2 &&& (127 : Int32)), iv (1 : Int32), iv (1 : Int32), .unset] [(.int (p2 &&& (127 : Int32))), (.int (own_start (p2 &&& (127 : Int32))))])) rfl (by rw [hml]; rfl) (argsL := [(.int (p2 &&& (127 : Int32)))]) (rest := [(.int (own_start (p2 &&& (127 : Int32))))]) (lenOf pd_0 rfl) rfl (by show 2 * 0 + _ ≤ _; exact Nat.le_of_eq rfl) (hb hby at_57) (fun _ _ => ⟨rfl, e19, (by decide : 0 + 0 ≤ _), (by decide : 0 + 0 ≤ _)⟩)
  dsimp only [Pt.U, Pt.locs, Pt.cells, Pt.slots] at X20 l20 y20 z20 st20 hQ20
  subst l20 y20 z20
  obtain ⟨rfl, Nq20, e20⟩ := hQ20
  have N20 := Fr.app N19 Nq20
  refine own_step (g' := (mkF m 60 #[iv p1, iv p2, iv p1, iv (p2 &&& (255 : Int32)), iv (p2 &&& (127 : Int32)), iv (1 : Int32), iv (1 : Int32), .unset] [(.int (own_refv (p2 &&& (127 : Int32)))), (.int (own_start (p2 &&& (127 : Int32))))])) st20 ?_
  refine own_st (mkF m 63 #[iv p1, iv p2, iv p1, iv (p2 &&& (255 : Int32)), iv (p2 &&& (127 : Int32)), iv (1 : Int32), iv (1 : Int32), .unset] []) (fun t k => XS.icmpNo X20.here hx rfl (hb hby at_60) rfl (teq (own_same _)).2 k) ?_
  refine own_st (mkF m 64 #[iv p1, iv p2, iv p1, iv (p2 &&& (255 : Int32)), iv (p2 &&& (127 : Int32)), iv (1 : Int32), iv (1 : Int32), .unset] [(.int (1 : Int32))]) (fun t k => XS.iconst X20.here hx rfl (hb hby at_63) k) ?_
  refine own_st (mkF m 68 #[iv p1, iv p2, iv p1, iv (p2 &&& (255 : Int32)), iv (p2 &&& (127 : Int32)), iv (1 : Int32), iv (1 : Int32), .unset] [(.int (1 : Int32))]) (fun t k => XS.goto X20.here hx rfl (pc0 := 64) (pc' := 68) rfl (hb hby at_64) (by decide) (by decide) k) ?_
  refine own_st (mkF m 70 #[iv p1, iv p2, iv p1, iv (p2 &&& (255 : Int32)), iv (p2 &&& (127 : Int32)), iv (1 : Int32), iv (1 : Int32), iv (1 : Int32)] []) (fun t k => XS.istore X20.here hx rfl (hb hby at_68) rfl (l' := #[iv p1, iv p2, iv p1, iv (p2 &&& (255 : Int32)), iv (p2 &&& (127 : Int32)), iv (1 : Int32), iv (1 : Int32), iv (1 : Int32)]) rfl k) ?_
  refine own_st (mkF m 72 #[iv p1, iv p2, iv p1, iv (p2 &&& (255 : Int32)), iv (p2 &&& (127 : Int32)), iv (1 : Int32), iv (1 : Int32), iv (1 : Int32)] [(.int (1 : Int32))]) (fun t k => XS.iload X20.here hx rfl (hb hby at_70) rfl k) ?_
  refine own_st (mkF m 75 #[iv p1, iv p2, iv p1, iv (p2 &&& (255 : Int32)), iv (p2 &&& (127 : Int32)), iv (1 : Int32), iv (1 : Int32), iv (1 : Int32)] []) (fun t k => XS.ifNo X20.here hx rfl (hb hby at_72) rfl ((if0 _ _).trans (feq (by decide : ¬ ((1 : Int32) = (0 : Int32)))).1) k) ?_
  refine own_st (mkF m 77 #[iv p1, iv p2, iv p1, iv (p2 &&& (255 : Int32)), iv (p2 &&& (127 : Int32)), iv (1 : Int32), iv (1 : Int32), iv (1 : Int32)] [(.int (1 : Int32))]) (fun t k => XS.iload X20.here hx rfl (hb hby at_75) rfl k) ?_
  refine own_st (mkF m 80 #[iv p1, iv p2, iv p1, iv (p2 &&& (255 : Int32)), iv (p2 &&& (127 : Int32)), iv (1 : Int32), iv (1 : Int32), iv (1 : Int32)] []) (fun t k => XS.ifNo X20.here hx rfl (hb hby at_77) rfl ((if0 _ _).trans (feq (by decide : ¬ ((1 : Int32) = (0 : Int32)))).1) k) ?_
  refine own_st (mkF m 82 #[iv p1, iv p2, iv p1, iv (p2 &&& (255 : Int32)), iv (p2 &&& (127 : Int32)), iv (1 : Int32), iv (1 : Int32), iv (1 : Int32)] [(.int (1 : Int32))]) (fun t k => XS.iload X20.here hx rfl (hb hby at_80) rfl k) ?_
  refine own_st (mkF m 85 #[iv p1, iv p2, iv p1, iv (p2 &&& (255 : Int32)), iv (p2 &&& (127 : Int32)), iv (1 : Int32), iv (1 : Int32), iv (1 : Int32)] []) (fun t k => XS.ifNo X20.here hx rfl (hb hby at_82) rfl ((if0 _ _).trans (feq (by decide : ¬ ((1 : Int32) = (0 : Int32)))).1) k) ?_
  refine own_st (mkF m 86 #[iv p1, iv p2, iv p1, iv (p2 &&& (255 : Int32)), iv (p2 &&& (127 : Int32)), iv (1 : Int32), iv (1 : Int32), iv (1 : Int32)] [(.int (1 : Int32))]) (fun t k => XS.iconst X20.here hx rfl (hb hby at_85) k) ?_
  refine own_st (mkF m 90 #[iv p1, iv p2, iv p1, iv (p2 &&& (255 : Int32)), iv (p2 &&& (127 : Int32)), iv (1 : Int32), iv (1 : Int32), iv (1 : Int32)] [(.int (1 : Int32))]) (fun t k => XS.goto X20.here hx rfl (pc0 := 86) (pc' := 90) rfl (hb hby at_86) (by decide) (by decide) k) ?_
  refine own_ret X20 hlk (v := some (.int (1 : Int32))) (fun h => by rw [hret] at h; cases h) (fun fs hr => retN X20 hx (t := .boolean) hret (by simp) (hb hby at_90) hr) ?_ (by decide) (by decide)
  show own_Q0 Z p1 p2 h0 n0 _ T20.heap _
  rw [e20]
  exact ⟨rfl, N20⟩
set_option maxRecDepth 65536 in
set_option maxHeartbeats 40000000 in
theorem own_comes {Post : Tables → Env → Array Value → State → Outcome → State → Prop} (hpost : ∀ tb e args s v u, (limb_1_1.after args s (.returned v) u = true ∧ limb_1_2.after args s (.returned v) u = true ∧ True) → FrameEnd s (.returned v) u (Jvm.fieldLocs frame_1_writes args s ++ Jvm.arrayLocs frame_1_arrays args s ++ Jvm.staticLocs frame_1_statics s) 0 0 → Post tb e args s (.returned v) u) :
    ArmFor flags0 classFile x code maxLocals ret World_1 tables_1 room_1 Calls_1 rest_1 Pre_1 Post := by
  intro l hfl _ _ p e ha hc hk s m args below hf hA hF happ hP
  obtain ⟨hcalls, hrest, hpre⟩ := hP
  obtain ⟨-, -, -, hnamed, -, -, -, hat⟩ := (Spec.applies_iff hf).mp happ
  obtain ⟨hg, hn⟩ := and_e (Cond.before_iff.mp (show (Jvm.Cond.and given_1 narrow_1).before args s = true from hpre))
  obtain ⟨hcnt, hg0⟩ := and_e hg
  obtain ⟨ha0, hg1⟩ := and_e hg0
  obtain ⟨w0, w1, rfl⟩ : ∃ w0 w1 : Value, args = #[w0, w1] := by
    have hs : args.size = 2 := by simpa [Cond.value, given_1] using hcnt
    obtain ⟨L⟩ := args
    match L, hs with
    | [w0, w1], _ => exact ⟨w0, w1, rfl⟩
  have hw := fun d (hd : d ∈ tables_1) => atoms_spec (ws := Jvm.Cond.code x code maxLocals ret :: tables_1) hat d (List.mem_cons_of_mem _ hd)
  have hfit : Fit s := fun {y c} hc i hi => by
    obtain ⟨ha, rfl⟩ := Array.getElem?_eq_some_iff.mp hc
    have q := List.all_eq_true.mp ((Array.all_eq_true_iff_forall_mem.mp hF) _ (Array.getElem_mem ha)) i (List.mem_range.mpr hi)
    simpa [Array.getElem?_eq_getElem hi] using q
  obtain ⟨i0, ei0⟩ := is_v ha0
  obtain rfl : w0 = (.int i0) := Option.some.inj ei0
  obtain ⟨i1, ei1⟩ := is_v hg1
  obtain rfl : w1 = (.int i1) := Option.some.inj ei1
  obtain ⟨n, o, h1, h2, h3, _, L, rfl, ⟨rfl, N⟩, hq⟩ := own_rm0 l s _ hw tables_1 i0 i1  s.heap s.heap.size (Nat.le_refl _)  p e ha hc hk s m _ below hf ((Spec.applies_iff_loose hf).mp happ).1 ⟨rfl, State.Warmed39.refl s, rfl⟩ trivial
  refine ⟨n, _, h1, h2, h3, hpost _ _ _ _ _ _ ⟨Cond.after_iff.mpr rfl, Cond.after_iff.mpr (eq_i res_at (Term.int_eval (1)) rfl), trivial⟩ ⟨hq.1, hq.2.1, (hq.2.2.sift fun y hy => Or.inr (N y hy)).mono (by decide) (by decide)⟩⟩
theorem main_1_1 : Claimed_1_1 := own_comes fun _ _ _ _ _ _ h hF => ⟨h.1, hF⟩
theorem main_1_2 : Claimed_1_2 := own_comes fun _ _ _ _ _ _ h hF => ⟨h.2.1, hF⟩
end Jvm.Pilot.@@N@@
namespace Jvm.Pilot.@@N@@
open Jvm Jvm.ClassFile Sem Op Lib Jvm.Free Jvm.Stand Jvm.Pilot.@@N@@.Jvm.D
/-! MADE BY PROGRAM (witnessworld.py) out of the Statement's table words and the real class files: 9 classes; the members and pool entries that the words name. The judged class is class 1, her method 2. -/
namespace start1
open Jvm.ClassFile
def u (s : String) : CpInfo := .utf8 (stringToUtf16 s)
/-- a pool by its gaps: so many unusable entries, then the entry; so many at the end -/
def gap : Nat → List CpInfo → List CpInfo
  | 0, r => r
  | n + 1, r => .unusable :: gap n r
def poolList (es : List (Nat × CpInfo)) (last : Nat) : List CpInfo := es.foldr (fun e r => gap e.1 (e.2 :: r)) (gap last [])
def pool (es : List (Nat × CpInfo)) (last : Nat) : Array CpInfo := ⟨poolList es last⟩
def fileOf (pool : Array CpInfo) (this : Nat) (attrs : Array Attribute := #[]) (ms : Array MethodInfo := #[]) (fl : Nat := 33) (sup : Nat := 0) (ifs : Array Nat := #[]) (fds : Array FieldInfo := #[]) : ClassFile where
  minorVersion := 0
  majorVersion := 65
  constantPool := pool
  accessFlags := fl
  thisClass := this
  superClass := sup
  interfaces := ifs
  fields := fds
  methods := ms
  attributes := attrs
def plain (name : String) (sup : Option ClassId) : Class where
  name := name
  kind := .ordinary
  loader := none
  accessFlags := 33
  super := sup
  interfaces := #[]
  cf := none
  fields := #[]
  methods := #[]
  instanceTypes := #[]
  staticTypes := #[]
  resolved := #[]
  callSites := []
  init := .initialized
  statics := none
  mirror := none

def pool0 : Array CpInfo := pool [(5, u "<init>"), (0, u "()V"), (1, .class_ 10), (1, u "java/lang/Object")] 113

def k0m0 : Method := { name := "<init>", desc := "()V", sig := { parameters := [], returnType := none }, accessFlags := 1, code := none }
/-- java/lang/Object -/
def k0 : Class := { plain "java/lang/Object" none with
  accessFlags := 33
  interfaces := #[]
  cf := some (fileOf pool0 8 #[] #[{ accessFlags := 1, nameIndex := 5, descriptorIndex := 6, attributes := #[] }] 33 0 #[] #[])
  fields := #[]
  methods := #[k0m0]
  instanceTypes := #[]
  staticTypes := #[]
  resolved := Array.replicate 124 none
  statics := none }

def pool1 : Array CpInfo := pool [(2, .class_ 4), (1, u "java/lang/Object"), (0, u "<init>"), (0, u "()V"), (0, .methodref 8 9), (0, .class_ 10), (0, .nameAndType 11 12), (0, u "com/example/bidel/bidel/reading/VerilogLexer"), (0, u "isIdentifierStart"), (0, u "(I)Z"), (0, .methodref 14 15), (0, .class_ 16), (0, .nameAndType 17 12), (0, u "com/example/bidel/bidel/reading/VerilogLexerIsIdentifierStartPinLaw"), (0, u "reference"), (3, u "law"), (0, u "(II)Z")] 2

def k1m0 : Method := { name := "<init>", desc := "()V", sig := { parameters := [], returnType := none }, accessFlags := 2, code := none }
def k1c1 : Code := { maxStack := 2, maxLocals := 3, code := method_2_code, exceptionTable := #[], attributes := #[] }
def k1m1 : Method := { name := "reference", desc := "(I)Z", sig := { parameters := [.int], returnType := some .boolean }, accessFlags := 10, code := some k1c1 }
def k1c2 : Code := { maxStack := 2, maxLocals := 8, code := code, exceptionTable := #[], attributes := #[] }
def k1m2 : Method := { name := "law", desc := "(II)Z", sig := { parameters := [.int, .int], returnType := some .boolean }, accessFlags := 9, code := some k1c2 }
/-- com/example/bidel/bidel/reading/VerilogLexerIsIdentifierStartPinLaw -/
def k1 : Class := { plain "com/example/bidel/bidel/reading/VerilogLexerIsIdentifierStartPinLaw" (some 0) with
  accessFlags := 49
  interfaces := #[]
  cf := some (fileOf pool1 14 #[] #[{ accessFlags := 2, nameIndex := 5, descriptorIndex := 6, attributes := #[] }, { accessFlags := 10, nameIndex := 17, descriptorIndex := 12, attributes := #[] }, { accessFlags := 9, nameIndex := 21, descriptorIndex := 22, attributes := #[] }] 49 2 #[] #[])
  fields := #[]
  methods := #[k1m0, k1m1, k1m2]
  instanceTypes := #[]
  staticTypes := #[]
  resolved := Array.replicate 25 none
  statics := none }

def pool2 : Array CpInfo := pool [(2, .class_ 4), (1, u "java/lang/Object"), (3, .class_ 10), (1, u "com/example/bidel/bidel/reading/VerilogLexer"), (0, u "KEYWORD_WORDS"), (0, u "Lcom/example/bidel/bidel/reading/WordTable;"), (8, u "words"), (5, u "found"), (0, u "Ljava/util/HashMap;"), (5, u "measured"), (0, u "Ljava/util/HashSet;"), (5, u "conditionals"), (0, u "Ljava/util/ArrayDeque;"), (2, u "nested"), (8, u "includers"), (0, u "Ljava/util/List;"), (2, u "readsCode"), (0, u "Z"), (2, u "beingRead"), (2, u "line"), (0, u "I"), (5, u "ahead"), (0, u "Ljava/util/ArrayList;"), (2, u "text"), (0, u "[B"), (2, u "file"), (0, u "Ljava/lang/String;"), (2, u "includes"), (0, u "Lcom/example/bidel/bidel/reading/VerilogLexer$Includes;"), (7, u "macros"), (0, u "Lcom/example/bidel/bidel/reading/MacroTable;"), (6, u "firstAhead"), (19, .class_ 122), (0, u "com/example/bidel/bidel/reading/VerilogLexer$Token"), (5, u "position"), (2, u "WHITE_SPACE"), (0, u "[Z"), (5, u "ALONE"), (1, .class_ 142), (1, u "com/example/bidel/bidel/reading/VerilogLexer$Kind"), (4, u "SYMBOLS"), (0, u "[Ljava/lang/String;"), (6, u "NAME_START"), (6, u "NAME_PART"), (7, u "(I)Z"), (11, u "MAY_OPEN"), (14, .class_ 198), (0, u "com/example/bidel/bidel/reading/VerilogLexer$Nested"), (28, .class_ 228), (0, u "com/example/bidel/bidel/reading/VerilogLexer$Conditional"), (22, .class_ 253), (1, u "com/example/bidel/bidel/reading/VerilogLexer$1"), (182, .class_ 437), (0, u "com/example/bidel/bidel/reading/VerilogLexer$MacroTextSpan"), (95, .class_ 535), (1, u "com/example/bidel/bidel/reading/VerilogLexer$Included"), (31, .class_ 569), (1, u "com/example/bidel/bidel/reading/VerilogLexer$Includes"), (7, u "measuredLength"), (0, u "J"), (12, u "readInPlaceLimit"), (2, u "readInPlace"), (23, u "KEYWORDS"), (0, u "Ljava/util/Set;"), (8, u "isIdentifierStart"), (266, u "APPLIED_DIRECTIVES"), (16, u "LEAST_READ_IN_PLACE"), (1, u "READ_IN_PLACE_PER_CHARACTER"), (1, u "MOST_NESTED_INCLUDES")] 64

def k2c0 : Code := { maxStack := 2, maxLocals := 1, code := prog_180_method_44_code, exceptionTable := #[], attributes := #[] }
def k2m0 : Method := { name := "isIdentifierStart", desc := "(I)Z", sig := { parameters := [.int], returnType := some .boolean }, accessFlags := 8, code := some k2c0 }
/-- com/example/bidel/bidel/reading/VerilogLexer -/
def k2 : Class := { plain "com/example/bidel/bidel/reading/VerilogLexer" (some 0) with
  accessFlags := 48
  interfaces := #[]
  cf := some (fileOf pool2 8 #[.nestMembers #[251, 436, 197, 227, 121, 533, 567, 140]] #[{ accessFlags := 8, nameIndex := 628, descriptorIndex := 170, attributes := #[] }] 48 2 #[] #[{ accessFlags := 26, nameIndex := 618, descriptorIndex := 619, attributes := #[] }, { accessFlags := 26, nameIndex := 11, descriptorIndex := 12, attributes := #[] }, { accessFlags := 24, nameIndex := 895, descriptorIndex := 619, attributes := #[] }, { accessFlags := 24, nameIndex := 155, descriptorIndex := 132, attributes := #[] }, { accessFlags := 24, nameIndex := 162, descriptorIndex := 132, attributes := #[] }, { accessFlags := 24, nameIndex := 131, descriptorIndex := 132, attributes := #[] }, { accessFlags := 26, nameIndex := 182, descriptorIndex := 132, attributes := #[] }, { accessFlags := 26, nameIndex := 147, descriptorIndex := 148, attributes := #[] }, { accessFlags := 26, nameIndex := 138, descriptorIndex := 132, attributes := #[] }, { accessFlags := 26, nameIndex := 912, descriptorIndex := 578, attributes := #[] }, { accessFlags := 26, nameIndex := 914, descriptorIndex := 66, attributes := #[] }, { accessFlags := 26, nameIndex := 916, descriptorIndex := 66, attributes := #[] }, { accessFlags := 18, nameIndex := 84, descriptorIndex := 85, attributes := #[] }, { accessFlags := 18, nameIndex := 21, descriptorIndex := 12, attributes := #[] }, { accessFlags := 18, nameIndex := 27, descriptorIndex := 28, attributes := #[] }, { accessFlags := 2, nameIndex := 591, descriptorIndex := 578, attributes := #[] }, { accessFlags := 2, nameIndex := 594, descriptorIndex := 578, attributes := #[] }, { accessFlags := 18, nameIndex := 34, descriptorIndex := 35, attributes := #[] }, { accessFlags := 2, nameIndex := 577, descriptorIndex := 578, attributes := #[] }, { accessFlags := 18, nameIndex := 93, descriptorIndex := 94, attributes := #[] }, { accessFlags := 18, nameIndex := 41, descriptorIndex := 42, attributes := #[] }, { accessFlags := 18, nameIndex := 45, descriptorIndex := 42, attributes := #[] }, { accessFlags := 2, nameIndex := 54, descriptorIndex := 55, attributes := #[] }, { accessFlags := 2, nameIndex := 58, descriptorIndex := 59, attributes := #[] }, { accessFlags := 18, nameIndex := 62, descriptorIndex := 35, attributes := #[] }, { accessFlags := 2, nameIndex := 80, descriptorIndex := 81, attributes := #[] }, { accessFlags := 2, nameIndex := 76, descriptorIndex := 77, attributes := #[] }, { accessFlags := 2, nameIndex := 128, descriptorIndex := 66, attributes := #[] }, { accessFlags := 2, nameIndex := 65, descriptorIndex := 66, attributes := #[] }, { accessFlags := 18, nameIndex := 72, descriptorIndex := 73, attributes := #[] }, { accessFlags := 2, nameIndex := 101, descriptorIndex := 66, attributes := #[] }])
  fields := #[{ name := "KEYWORDS", type := (.object "java/util/Set"), accessFlags := 26, slot := 0, constantValue := 0 }, { name := "KEYWORD_WORDS", type := (.object "com/example/bidel/bidel/reading/WordTable"), accessFlags := 26, slot := 1, constantValue := 0 }, { name := "APPLIED_DIRECTIVES", type := (.object "java/util/Set"), accessFlags := 24, slot := 2, constantValue := 0 }, { name := "NAME_START", type := (.array .boolean), accessFlags := 24, slot := 3, constantValue := 0 }, { name := "NAME_PART", type := (.array .boolean), accessFlags := 24, slot := 4, constantValue := 0 }, { name := "WHITE_SPACE", type := (.array .boolean), accessFlags := 24, slot := 5, constantValue := 0 }, { name := "MAY_OPEN", type := (.array .boolean), accessFlags := 26, slot := 6, constantValue := 0 }, { name := "SYMBOLS", type := (.array (.object "java/lang/String")), accessFlags := 26, slot := 7, constantValue := 0 }, { name := "ALONE", type := (.array .boolean), accessFlags := 26, slot := 8, constantValue := 0 }, { name := "LEAST_READ_IN_PLACE", type := .long, accessFlags := 26, slot := 9, constantValue := 0 }, { name := "READ_IN_PLACE_PER_CHARACTER", type := .int, accessFlags := 26, slot := 10, constantValue := 0 }, { name := "MOST_NESTED_INCLUDES", type := .int, accessFlags := 26, slot := 11, constantValue := 0 }, { name := "includes", type := (.object "com/example/bidel/bidel/reading/VerilogLexer$Includes"), accessFlags := 18, slot := 0, constantValue := 0 }, { name := "words", type := (.object "com/example/bidel/bidel/reading/WordTable"), accessFlags := 18, slot := 1, constantValue := 0 }, { name := "found", type := (.object "java/util/HashMap"), accessFlags := 18, slot := 2, constantValue := 0 }, { name := "readInPlaceLimit", type := .long, accessFlags := 2, slot := 3, constantValue := 0 }, { name := "readInPlace", type := .long, accessFlags := 2, slot := 4, constantValue := 0 }, { name := "measured", type := (.object "java/util/HashSet"), accessFlags := 18, slot := 5, constantValue := 0 }, { name := "measuredLength", type := .long, accessFlags := 2, slot := 6, constantValue := 0 }, { name := "macros", type := (.object "com/example/bidel/bidel/reading/MacroTable"), accessFlags := 18, slot := 7, constantValue := 0 }, { name := "conditionals", type := (.object "java/util/ArrayDeque"), accessFlags := 18, slot := 8, constantValue := 0 }, { name := "nested", type := (.object "java/util/ArrayDeque"), accessFlags := 18, slot := 9, constantValue := 0 }, { name := "includers", type := (.object "java/util/List"), accessFlags := 2, slot := 10, constantValue := 0 }, { name := "readsCode", type := .boolean, accessFlags := 2, slot := 11, constantValue := 0 }, { name := "beingRead", type := (.object "java/util/HashSet"), accessFlags := 18, slot := 12, constantValue := 0 }, { name := "file", type := (.object "java/lang/String"), accessFlags := 2, slot := 13, constantValue := 0 }, { name := "text", type := (.array .byte), accessFlags := 2, slot := 14, constantValue := 0 }, { name := "position", type := .int, accessFlags := 2, slot := 15, constantValue := 0 }, { name := "line", type := .int, accessFlags := 2, slot := 16, constantValue := 0 }, { name := "ahead", type := (.object "java/util/ArrayList"), accessFlags := 18, slot := 17, constantValue := 0 }, { name := "firstAhead", type := .int, accessFlags := 2, slot := 18, constantValue := 0 }]
  methods := #[k2m0]
  instanceTypes := #[(.object "com/example/bidel/bidel/reading/VerilogLexer$Includes"), (.object "com/example/bidel/bidel/reading/WordTable"), (.object "java/util/HashMap"), .long, .long, (.object "java/util/HashSet"), .long, (.object "com/example/bidel/bidel/reading/MacroTable"), (.object "java/util/ArrayDeque"), (.object "java/util/ArrayDeque"), (.object "java/util/List"), .boolean, (.object "java/util/HashSet"), (.object "java/lang/String"), (.array .byte), .int, .int, (.object "java/util/ArrayList"), .int]
  staticTypes := #[(.object "java/util/Set"), (.object "com/example/bidel/bidel/reading/WordTable"), (.object "java/util/Set"), (.array .boolean), (.array .boolean), (.array .boolean), (.array .boolean), (.array (.object "java/lang/String")), (.array .boolean), .long, .int, .int]
  resolved := Array.replicate 981 none
  statics := none }

def pool3 : Array CpInfo := pool [(1, u "java/lang/Cloneable"), (0, .class_ 1), (0, u "java/lang/Object"), (0, .class_ 3)] 3

/-- java/lang/Cloneable -/
def k3 : Class := { plain "java/lang/Cloneable" (some 0) with
  accessFlags := 1537
  interfaces := #[]
  cf := some (fileOf pool3 2 #[] #[] 1537 4 #[] #[])
  fields := #[]
  methods := #[]
  instanceTypes := #[]
  staticTypes := #[]
  resolved := Array.replicate 8 none
  statics := none }

def pool4 : Array CpInfo := pool [(1, u "java/io/Serializable"), (0, .class_ 1), (0, u "java/lang/Object"), (0, .class_ 3)] 3

/-- java/io/Serializable -/
def k4 : Class := { plain "java/io/Serializable" (some 0) with
  accessFlags := 1537
  interfaces := #[]
  cf := some (fileOf pool4 2 #[] #[] 1537 4 #[] #[])
  fields := #[]
  methods := #[]
  instanceTypes := #[]
  staticTypes := #[]
  resolved := Array.replicate 8 none
  statics := none }

/-- the primitive byte -/
def k5 : Class := { plain "byte" none with kind := .primitive 'B', accessFlags := 0x411 }
/-- [B -/
def k6 : Class := { plain "[B" (some 0) with kind := .array 5 .byte, interfaces := #[3, 4], accessFlags := 1041 }

/-- the primitive int -/
def k7 : Class := { plain "int" none with kind := .primitive 'I', accessFlags := 0x411 }
/-- [I -/
def k8 : Class := { plain "[I" (some 0) with kind := .array 7 .int, interfaces := #[3, 4], accessFlags := 1041 }

def heap : Heap := #[]
def classes : Array Class := #[k0, k1, k2, k3, k4, k5, k6, k7, k8]
def interned : List (Array UInt16 × Addr) := []
def slotsUsed : Nat := 0
def theMethod : MethodId := ⟨1, 2⟩
def args0 : Array Value := #[.int 5, .int 6]
def aboutOver (below : List Frame) : State where
  vm := { classes := classes, interned := interned.toArray }
  heap := heap
  slotsUsed := slotsUsed
  threads := #[{ frames := .invoking theMethod args0 :: below }]
def below0 : List Frame := [.native { method := ⟨0, 0⟩, args := #[] }]
def about1 : State := aboutOver below0
def p0 : Program := .bare "" "" ""
def e0 : Env := launch0.env 0 0 0
theorem w_frames : about1.frames = Frame.invoking theMethod args0 :: below0 := rfl
set_option maxRecDepth 65536 in
theorem w_args : argsFit about1.vm theMethod args0 = true := by decide +kernel
set_option maxRecDepth 65536 in
theorem w_heap : heapFits about1 = true := by decide +kernel
set_option maxRecDepth 65536 in
theorem w_runnable : about1.curStatus? = some .runnable := by decide +kernel
set_option maxRecDepth 65536 in
theorem w_alone : about1.alone = true := by decide +kernel
set_option maxRecDepth 65536 in
theorem w_named : about1.methodNamed? x = some theMethod := by decide +kernel
set_option maxRecDepth 65536 in
theorem w_hears : about1.hears theMethod below0 = true := by decide +kernel
set_option maxRecDepth 65536 in
theorem w_ripe : about1.ripe theMethod args0 below0 = true := by decide +kernel
theorem w_running : about1.status = .running := rfl
set_option maxRecDepth 65536 in
theorem w_room : about1.hasRoom e0.platform room_1 = true :=
  launch0.hasRoom_least _ room_1 (by decide +kernel) (by decide +kernel) (by decide +kernel) (by decide +kernel) (by decide +kernel) (by decide +kernel)
theorem allAtoms_all (ts : List Jvm.Cond) (a : Array Jvm.Value) (st : Jvm.State) : (allAtoms ts).before a st = ts.all (fun c => c.before a st) := by
  induction ts with
  | nil => rfl
  | cons c t ih =>
    show (Jvm.Cond.and c (allAtoms t)).before a st = _
    rw [Jvm.Cond.before_and, ih, List.all_cons]
def words1 : List Jvm.Cond := Jvm.Cond.code x code maxLocals ret :: tables_1
/-- a 'code' word, met by the world's own term for the bytes: nothing is compared byte by byte -/
theorem code_word {y : MethodName} {bytes : ByteArray} {mx : Nat} {rt : Option FieldType} {a : Array Value} {s : State} {m : MethodId} {meth : Method} {c : Code} (h1 : s.methodNamed? y = some m) (h2 : s.vm.method? m = some meth) (h3 : meth.code = some c) (h4 : c.code = bytes)
    (h5 : (c.maxLocals == mx && c.exceptionTable.isEmpty && decide (c.maxStack ≤ mostOperands) && decide (meth.sig.returnType = rt) && !meth.locks && decide (parseMethodDescriptor y.desc = some meth.sig)) = true) : (Jvm.Cond.code y bytes mx rt).before a s = true := by
  simp only [Bool.and_eq_true, beq_iff_eq, Bool.not_eq_true', decide_eq_true_eq] at h5
  obtain ⟨⟨⟨⟨⟨g1, g2⟩, g3⟩, g4⟩, g5⟩, g6⟩ := h5
  simp [Cond.before, Cond.holds, Cond.value, h1, h2, h3, h4, g1, g2, g3, g4, g5, g6]
def isCode : Jvm.Cond → Bool
  | .code _ _ _ _ => true
  | _ => false
theorem all_split {L : List Jvm.Cond} {P : Jvm.Cond → Bool} (h1 : L.all (fun c => isCode c || P c) = true) (h2 : ∀ c ∈ L.filter isCode, P c = true) : L.all P = true := by
  refine List.all_eq_true.mpr fun c hc => ?_
  have h := List.all_eq_true.mp h1 c hc
  rcases Bool.eq_false_or_eq_true (isCode c) with hi | hi
  · exact h2 c (List.mem_filter.mpr ⟨hc, hi⟩)
  · simpa [hi] using h
set_option maxRecDepth 65536 in
theorem w_c0 : (Jvm.Cond.code x code maxLocals ret).before args0 about1 = true := code_word (m := ⟨1, 2⟩) (meth := k1m2) (c := k1c2) (by decide +kernel) rfl rfl rfl (by decide +kernel)
set_option maxRecDepth 65536 in
theorem w_c1 : (Jvm.Cond.code ({ cls := "com/example/bidel/bidel/reading/VerilogLexer", name := "isIdentifierStart", desc := "(I)Z" } : Jvm.MethodName) prog_180_method_44_code (1 : Nat) (Option.some Jvm.ClassFile.FieldType.boolean)).before args0 about1 = true := code_word (m := ⟨2, 0⟩) (meth := k2m0) (c := k2c0) (by decide +kernel) rfl rfl rfl (by decide +kernel)
set_option maxRecDepth 65536 in
theorem w_c2 : (Jvm.Cond.code ({ cls := "com/example/bidel/bidel/reading/VerilogLexerIsIdentifierStartPinLaw", name := "reference", desc := "(I)Z" } : Jvm.MethodName) method_2_code (3 : Nat) (Option.some Jvm.ClassFile.FieldType.boolean)).before args0 about1 = true := code_word (m := ⟨1, 1⟩) (meth := k1m1) (c := k1c1) (by decide +kernel) rfl rfl rfl (by decide +kernel)
def codes1 : List Jvm.Cond := [Jvm.Cond.code x code maxLocals ret, Jvm.Cond.code ({ cls := "com/example/bidel/bidel/reading/VerilogLexer", name := "isIdentifierStart", desc := "(I)Z" } : Jvm.MethodName) prog_180_method_44_code (1 : Nat) (Option.some Jvm.ClassFile.FieldType.boolean), Jvm.Cond.code ({ cls := "com/example/bidel/bidel/reading/VerilogLexerIsIdentifierStartPinLaw", name := "reference", desc := "(I)Z" } : Jvm.MethodName) method_2_code (3 : Nat) (Option.some Jvm.ClassFile.FieldType.boolean)]
set_option maxRecDepth 65536 in
theorem codes_eq : words1.filter isCode = codes1 := rfl
theorem w_codes : ∀ c ∈ words1.filter isCode, c.before args0 about1 = true := by
  rw [codes_eq]
  intro c hc
  simp only [codes1, List.mem_cons, List.not_mem_nil, or_false] at hc
  rcases hc with rfl | rfl | rfl
  · exact w_c0
  · exact w_c1
  · exact w_c2
set_option maxRecDepth 65536 in
theorem w_t1 : words1.all (fun c => isCode c || c.before args0 about1) = true := by decide +kernel
theorem w_tables : (allAtoms (Jvm.Cond.code x code maxLocals ret :: tables_1)).before args0 about1 = true := by
  rw [allAtoms_all]
  show words1.all (fun c => c.before args0 about1) = true
  refine all_split ?_ w_codes
  rw [w_t1]
set_option maxRecDepth 65536 in
theorem w_case : (Jvm.Cond.and given_1 narrow_1).before args0 about1 = true := by decide +kernel
theorem w_applies : (headSpec (Jvm.Cond.code x code maxLocals ret :: tables_1) room_1).applies x e0.platform about1 = true :=
  (Spec.applies_iff w_frames).mpr ⟨w_running, w_runnable, w_alone, w_named, w_hears, w_ripe, w_room, w_tables⟩
theorem atStart : AtStart classFile x code maxLocals ret World_1 tables_1 room_1 Calls_1 rest_1 Pre_1 launch0 p0 e0 about1 theMethod args0 below0 :=
  ⟨lists_1, trivial, launch0.admits_env _ _ _, launch0.least_env, fairChoices_fair.cas, fairChoices_fair.clock, w_frames, w_args, w_heap, w_applies, trivial, trivial, w_case⟩
end start1
theorem witness_1 : WitnessClaimed_1 := ⟨start1.p0, start1.e0, start1.about1, start1.theMethod, start1.args0, start1.below0, start1.atStart⟩
end Jvm.Pilot.@@N@@
