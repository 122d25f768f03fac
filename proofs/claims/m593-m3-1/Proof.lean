import JvmDerived
import JvmDerived.Pilot.@@N@@Statement
import JvmDerived.Pilot.@@N@@Code
set_option linter.unusedVariables false
set_option linter.unusedSimpArgs false
namespace Jvm.Pilot.@@N@@
open Jvm Jvm.ClassFile Sem Op Lib Jvm.Free Jvm.Stand Jvm.LawKit Jvm.RoadKit Bundle Jvm.Pilot.@@N@@.Jvm.D
abbrev jv (x : Int64) : Slot := .val (.long x)
section OwnKit
variable {p : Program} {l : Launch} {e : Env} {R : Room} {s : State} {m : MethodId} {args : Array Value} {below : List Frame} {meth : Method} {c : Code} {T T' : State} {locs : List Loc} {cells slots kc ks : Nat} {Q : Option Value → Heap → List Loc → Prop} {g g' : JFrame}
/-- from the state T, its top frame g, the invocation comes to its end with Q -/
def own_WP (p : Program) (e : Env) (below : List Frame) (s : State) (Q : Option Value → Heap → List Loc → Prop) (kc ks : Nat) (T : State) (g : JFrame) : Prop :=
  ∃ s₂ o, Steps p.tables e below (T.setTop g) s₂ ∧ s₂.status = .running ∧ Ended s₂ below o ∧ ∃ v L, o = .returned v ∧ Q v s₂.heap L ∧ FrameEnd s o s₂ L kc ks
theorem own_step (h : ∀ t, Steps p.tables e below (T'.setTop g') t → Steps p.tables e below (T.setTop g) t) (hr : own_WP p e below s Q kc ks T' g') : own_WP p e below s Q kc ks T g := by
  obtain ⟨s₂, o, h1, h2⟩ := hr
  exact ⟨s₂, o, h _ h1, h2⟩
theorem own_st (g' : JFrame) (h : ∀ t, Steps p.tables e below (T.setTop g') t → Steps p.tables e below (T.setTop g) t) (hr : own_WP p e below s Q kc ks T g') : own_WP p e below s Q kc ks T g := own_step h hr
theorem own_jump (h : Steps p.tables e below (T.setTop g) (T'.setTop g')) (hr : own_WP p e below s Q kc ks T' g') : own_WP p e below s Q kc ks T g := by
  obtain ⟨s₂, o, h1, h2⟩ := hr
  exact ⟨s₂, o, h.trans h1, h2⟩
theorem own_ret (X : Stand p l e R s m args below meth c T locs cells slots) (hlk : meth.locks = false) {v : Option Value} (hv : meth.sig.returnType = none → v = none)
    (hst : ∀ fs, (∀ (f : JFrame) (acts : List Action), f.method = m → f.locked = none → f.entered = [] → (doReturn e (T.setTop f) acts v).1 = T.setFrames fs) → Steps p.tables e below (T.setTop g) (T.setFrames fs))
    (hq : Q v T.heap locs) (h1 : cells ≤ kc) (h2 : slots ≤ ks) : own_WP p e below s Q kc ks T g := by
  obtain ⟨fs, hr, hrun, hended, hW, hsame⟩ := X.leave (v := v) hv hlk
  exact ⟨_, _, hst fs hr, hrun, hended, v, locs, rfl, hq, ⟨v, rfl⟩, hW, hsame.mono h1 h2⟩
theorem own_wide (X : Stand p l e R s m args below meth c T locs cells slots) {cells' slots' : Nat} (h1 : cells ≤ cells') (h2 : slots ≤ slots') : Stand p l e R s m args below meth c T locs cells' slots' :=
  ⟨X.admits, X.cas, X.clock, X.frames, X.room, X.hears, X.method, X.code, X.here, X.tail, X.warmed, X.limits, X.bytes, X.same.mono h1 h2⟩
end OwnKit
theorem own_body {l : Launch} {y : MethodName} {bytes : ByteArray} {maxL : Nat} {ret : Option FieldType} {ws : List Jvm.Cond} {rm : Room} {A : Array Value} {Z : State} {h0 : Heap} {Q : Option Value → Heap → List Loc → Prop} {ls : Array Slot} {kc ks : Nat}
    (hpl : plainFor y = true) (ef : ∀ m, entryFrame m A maxL = mkF m 0 ls [])
    (body : ∀ (p : Program) (e : Env) (s : State) (m : MethodId) (below : List Frame) (meth : Method) (c : Code) (T : State), Stand p l e rm s m A below meth c T [] 0 0 → p.tables.exec = Jvm.exec → c.code = bytes → c.maxLocals = maxL → Z.Warmed39 s.vm → s.vm.findClass y.cls = some m.cls → meth.name = y.name → meth.sig.returnType = ret → meth.locks = false → T.heap = h0 →
      own_WP p e below s Q kc ks T (mkF m 0 ls [])) :
    MetFree l y (head1 (Jvm.Cond.code y bytes maxL ret :: ws) rm) (fun a U => a = A ∧ Z.Warmed39 U.vm ∧ U.heap = h0) (fun _ _ _ _ _ => True) (fun _ U o U' => ∃ v L, o = .returned v ∧ Q v U'.heap L ∧ FrameEnd U o U' L kc ks) := by
  refine MetFree.of_bodySF hpl hisR ?_
  intro p e s m args below meth c s₁ Bd hml0 hP hK
  obtain ⟨rfl, hZ, hh⟩ := hP
  obtain ⟨s₂, o, h1, h2⟩ := body p e s m below meth c s₁ (Stand.of_body Bd) Bd.exec Bd.bytes hml0 hZ (findClass_of_methodNamed Bd.named) (name_of_methodNamed Bd.named Bd.method).1 Bd.returns Bd.notSynchronized (by rw [← hh, Bd.state]; rfl)
  exact ⟨s₂, o, castTop (ef m) h1, h2⟩
theorem own_llt1 {x y : Int64} (h : x < y) : ifCond.holds .lt (lcmpW x y) = true := (if0 _ _).trans (tlt ((lw_lt x y).mpr h)).1
theorem own_llt0 {x y : Int64} (h : ¬ x < y) : ifCond.holds .lt (lcmpW x y) = false := (if0 _ _).trans (flt (mt (lw_lt x y).mp h)).1
theorem own_lge1 {x y : Int64} (h : ¬ x < y) : ifCond.holds .ge (lcmpW x y) = true := (if0 _ _).trans (flt (mt (lw_lt x y).mp h)).2.1
theorem own_lge0 {x y : Int64} (h : x < y) : ifCond.holds .ge (lcmpW x y) = false := (if0 _ _).trans (tlt ((lw_lt x y).mpr h)).2.1
theorem own_lgt1 {x y : Int64} (h : y < x) : ifCond.holds .gt (lcmpW x y) = true := (if0 _ _).trans (tlt ((lw_gt x y).mpr h)).2.2.1
theorem own_lgt0 {x y : Int64} (h : ¬ y < x) : ifCond.holds .gt (lcmpW x y) = false := (if0 _ _).trans (flt (mt (lw_gt x y).mp h)).2.2.1
theorem own_lle1 {x y : Int64} (h : ¬ y < x) : ifCond.holds .le (lcmpW x y) = true := (if0 _ _).trans (flt (mt (lw_gt x y).mp h)).2.2.2
theorem own_lle0 {x y : Int64} (h : y < x) : ifCond.holds .le (lcmpW x y) = false := (if0 _ _).trans (tlt ((lw_gt x y).mpr h)).2.2.2
theorem own_leq1 {x y : Int64} (h : x = y) : ifCond.holds .eq (lcmpW x y) = true := (if0 _ _).trans (teq ((lw_eq x y).mpr h)).1
theorem own_leq0 {x y : Int64} (h : ¬ x = y) : ifCond.holds .eq (lcmpW x y) = false := (if0 _ _).trans (feq (mt (lw_eq x y).mp h)).1
theorem own_lne1 {x y : Int64} (h : ¬ x = y) : ifCond.holds .ne (lcmpW x y) = true := (if0 _ _).trans (feq (mt (lw_eq x y).mp h)).2
theorem own_lne0 {x y : Int64} (h : x = y) : ifCond.holds .ne (lcmpW x y) = false := (if0 _ _).trans (teq ((lw_eq x y).mpr h)).2
theorem own_eqint {t : Term} {n : Int32} {args : Array Value} {first s : State} {o : Option Outcome} {idx : List Nat} (h : (Jvm.Cond.eq t (.int n)).value args first o s idx = some true) : t.eval args first o idx s = some (.int n) := by
  obtain ⟨x, y, h1, h2, h3, -⟩ := cmp_v (Or.inl h)
  have e : y = .int n := (Option.some.inj ((show (Term.int n).eval args first o idx s = some (.int n) from rfl).symm.trans h2)).symm
  subst e
  cases x with
  | int k =>
    rw [h1]
    have q : (Jvm.Cond.eq t (.int n)).value args first o s idx = some (decide (k = n)) := by simp [Cond.value, h1, h2]
    rw [gotT q h]
  | _ => simp [Kin, Value.isRef] at h3

theorem own_b64 {n : Int} (h1 : -2 ^ 63 ≤ n) (h2 : n < 2 ^ 63) : n.bmod (2 ^ 64) = n := by rw [Int.bmod_def]; omega
theorem own_add64 {x y : Int64} (h1 : -2 ^ 63 ≤ x.toInt + y.toInt) (h2 : x.toInt + y.toInt < 2 ^ 63) : (x + y).toInt = x.toInt + y.toInt := by rw [Int64.toInt_add, own_b64 h1 h2]
theorem own_sub64 {x y : Int64} (h1 : -2 ^ 63 ≤ x.toInt - y.toInt) (h2 : x.toInt - y.toInt < 2 ^ 63) : (x - y).toInt = x.toInt - y.toInt := by rw [Int64.toInt_sub, own_b64 h1 h2]
theorem own_mul64 {x y : Int64} (h1 : -2 ^ 63 ≤ x.toInt * y.toInt) (h2 : x.toInt * y.toInt < 2 ^ 63) : (x * y).toInt = x.toInt * y.toInt := by rw [Int64.toInt_mul, own_b64 h1 h2]
theorem own_div64 {x y : Int64} (hx : 0 ≤ x.toInt) (hy : 0 < y.toInt) : (x / y).toInt = x.toInt / y.toInt := by
  rw [Int64.toInt_div, Int.tdiv_eq_ediv_of_nonneg hx]
  have h1 : 0 ≤ x.toInt / y.toInt := Int.ediv_nonneg hx (by omega)
  have h2 : x.toInt / y.toInt ≤ x.toInt := Int.ediv_le_self _ hx
  have h3 := x.toInt_lt
  exact own_b64 (by omega) (by omega)
theorem own_mod64 {x y : Int64} (hx : 0 ≤ x.toInt) : (x % y).toInt = x.toInt % y.toInt := by
  rw [Int64.toInt_mod, Int.tmod_eq_emod_of_nonneg hx]
theorem own_lrem (x y : Int64) : x - (x / y) * y = x % y := by
  apply Int64.toInt_inj.mp
  have h1 := Int64.le_toInt (x % y)
  have h2 := Int64.toInt_lt (x % y)
  rw [Int64.toInt_sub, Int64.toInt_mul, Int64.toInt_div, Int.bmod_mul_bmod, Int.sub_bmod_bmod, Int.mul_comm (x.toInt.tdiv y.toInt), ← Int.tmod_def, ← Int64.toInt_mod]
  exact Int.bmod_eq_of_le_mul_two (by omega) (by omega)
theorem own_i64nat (v : Int64) : v.toInt = if v.toBitVec.toNat < 2 ^ 63 then (v.toBitVec.toNat : Int) else (v.toBitVec.toNat : Int) - 2 ^ 64 := by
  have := v.toBitVec.isLt
  rw [← Int64.toInt_toBitVec, BitVec.toInt_eq_toNat_cond]
  split <;> split <;> omega
theorem own_i32nat (v : Int32) : v.toInt = if v.toBitVec.toNat < 2 ^ 31 then (v.toBitVec.toNat : Int) else (v.toBitVec.toNat : Int) - 2 ^ 32 := by
  have := v.toBitVec.isLt
  rw [← Int32.toInt_toBitVec, BitVec.toInt_eq_toNat_cond]
  split <;> split <;> omega
/-- a mask of k ones, k at most 31 -/
theorem own_and32 (x m : Int32) {k : Nat} (hk : k ≤ 31) (hm : m.toBitVec.toNat = 2 ^ k - 1) : 0 ≤ (x &&& m).toInt ∧ (x &&& m).toInt < 2 ^ k ∧ (x &&& m).toBitVec.toNat = x.toBitVec.toNat % 2 ^ k := by
  have h1 := own_i32nat (x &&& m)
  have h2 : (x &&& m).toBitVec.toNat = x.toBitVec.toNat &&& m.toBitVec.toNat := rfl
  rw [hm, Nat.and_two_pow_sub_one_eq_mod] at h2
  have h3 : x.toBitVec.toNat % 2 ^ k < 2 ^ k := Nat.mod_lt _ (Nat.two_pow_pos k)
  have h4 : 2 ^ k ≤ 2 ^ 31 := Nat.pow_le_pow_right (by decide) hk
  rw [h2, if_pos (Nat.lt_of_lt_of_le h3 h4)] at h1
  refine ⟨by omega, ?_, h2⟩
  rw [h1]
  exact_mod_cast h3
theorem own_and64 (x m : Int64) {k : Nat} (hk : k ≤ 63) (hm : m.toBitVec.toNat = 2 ^ k - 1) : 0 ≤ (x &&& m).toInt ∧ (x &&& m).toInt < 2 ^ k ∧ (x &&& m).toBitVec.toNat = x.toBitVec.toNat % 2 ^ k := by
  have h1 := own_i64nat (x &&& m)
  have h2 : (x &&& m).toBitVec.toNat = x.toBitVec.toNat &&& m.toBitVec.toNat := rfl
  rw [hm, Nat.and_two_pow_sub_one_eq_mod] at h2
  have h3 : x.toBitVec.toNat % 2 ^ k < 2 ^ k := Nat.mod_lt _ (Nat.two_pow_pos k)
  have h4 : 2 ^ k ≤ 2 ^ 63 := Nat.pow_le_pow_right (by decide) hk
  rw [h2, if_pos (Nat.lt_of_lt_of_le h3 h4)] at h1
  refine ⟨by omega, ?_, h2⟩
  rw [h1]
  exact_mod_cast h3
theorem own_lremM {p : Program} {l : Launch} {e : Env} {R : Room} {s : State} {m : MethodId} {args : Array Value} {below : List Frame} {meth : Method} {c : Code} {T : State} {locs : List Loc} {cells slots : Nat} {g : JFrame} {target : State} (X : Stand p l e R s m args below meth c T locs cells slots) (hx : p.tables.exec = Jvm.exec) (hg : g.method = m) {x y : Int64} {rest : List Value} (hd : decode c.code g.pc = .ok (.lrem, 1)) (hs : g.stack = .long y :: .long x :: rest) (hy : y ≠ 0)
    (hr : Steps p.tables e below (T.setTop { g with pc := g.pc + 1, stack := .long (x % y) :: rest }) target) : Steps p.tables e below (T.setTop g) target :=
  XS.lrem X.here hx hg hd hs hy (by rw [own_lrem]; exact hr)
theorem own_pos_ne {x : Int64} (h : (0 : Int64) < x) : x ≠ 0 := fun q => by rw [q] at h; exact absurd h (by decide)

def own_err (a b : Int64) : Int32 := if (0 : Int64) < a + b then 1 else 0
def own_B (k : Int) (rd oc : Int64) : Prop := 0 ≤ rd.toInt ∧ rd.toInt ≤ k * 2147483647 ∧ 0 ≤ oc.toInt ∧ oc.toInt ≤ k
theorem own_B0 : own_B 0 (0 : Int64) (0 : Int64) := ⟨by decide, by decide, by decide, by decide⟩
theorem own_Bm {k : Int} {rd oc : Int64} (h : own_B k rd oc) : own_B (k + 1) rd oc := by unfold own_B at *; omega
theorem own_Br {k : Int} {rd oc : Int64} {x : Int32} (h : own_B k rd oc) (hk : k ≤ 10) (hx : 0 ≤ x.toInt) : own_B (k + 1) (rd + x.toInt64) oc := by
  have h1 := x.toInt_lt
  have e : x.toInt64.toInt = x.toInt := Int32.toInt_toInt64 x
  unfold own_B at *
  have a : (rd + x.toInt64).toInt = rd.toInt + x.toInt := by rw [own_add64 (by omega) (by omega), e]
  rw [a]; omega
theorem own_Bo {k : Int} {rd oc : Int64} (h : own_B k rd oc) (hk : k ≤ 10) : own_B (k + 1) rd (oc + (1 : Int64)) := by
  have e : (1 : Int64).toInt = 1 := rfl
  unfold own_B at *
  have a : (oc + (1 : Int64)).toInt = oc.toInt + 1 := by rw [own_add64 (by omega) (by omega), e]
  rw [a]; omega
theorem own_err_int {k : Int} {rd oc : Int64} (h : own_B k rd oc) (hk : k ≤ 10) : own_err rd oc = if (0 : Int64) < rd ∨ (0 : Int64) < oc then 1 else 0 := by
  have e : (0 : Int64).toInt = 0 := rfl
  unfold own_B at h
  have a : (rd + oc).toInt = rd.toInt + oc.toInt := own_add64 (by omega) (by omega)
  unfold own_err
  simp only [Int64.lt_iff_toInt_lt, a, e]
  split <;> split <;> first | rfl | (exfalso; omega)
theorem own_mask (p : Int32) : 0 ≤ (p &&& (2147483647 : Int32)).toInt := (own_and32 p _ (k := 31) (by decide) rfl).1
theorem own_zero : 0 ≤ (0 : Int32).toInt := by decide
theorem d1_0 : decode prog_13_method_1_code 0 = .ok (.aload_n 0, 1) := by decide +kernel
theorem d1_1 : decode prog_13_method_1_code 1 = .ok (.invokespecial 1, 3) := by decide +kernel
theorem hw_7 {a0 : Array Value} {Z : State} (hw : ∀ d ∈ tables_1, d.before a0 Z = true) : (Jvm.Cond.methodLink "com/example/chargeweave/chargeweave/Summary" (1 : Nat) ({ cls := "java/lang/Object", name := "<init>", desc := "()V" } : Jvm.MethodName)).before a0 Z = true := hw _ (List.mem_of_getElem? (i := 7) rfl)
theorem hw_8 {a0 : Array Value} {Z : State} (hw : ∀ d ∈ tables_1, d.before a0 Z = true) : (Jvm.Cond.instanceMethod ({ cls := "java/lang/Object", name := "<init>", desc := "()V" } : Jvm.MethodName)).before a0 Z = true := hw _ (List.mem_of_getElem? (i := 8) rfl)
theorem hw_9 {a0 : Array Value} {Z : State} (hw : ∀ d ∈ tables_1, d.before a0 Z = true) : (Jvm.Cond.code ({ cls := "java/lang/Object", name := "<init>", desc := "()V" } : Jvm.MethodName) object_method_1_code (1 : Nat) (Option.none : Option Jvm.ClassFile.FieldType)).before a0 Z = true := hw _ (List.mem_of_getElem? (i := 9) rfl)
theorem d1_4 : decode prog_13_method_1_code 4 = .ok (.aload_n 0, 1) := by decide +kernel
theorem d1_5 : decode prog_13_method_1_code 5 = .ok (.getstatic 7, 3) := by decide +kernel
theorem hw_10 {a0 : Array Value} {Z : State} (hw : ∀ d ∈ tables_1, d.before a0 Z = true) : (Jvm.Cond.fieldLink "com/example/chargeweave/chargeweave/Summary" (7 : Nat) "java/math/BigDecimal" "ZERO" "Ljava/math/BigDecimal;").before a0 Z = true := hw _ (List.mem_of_getElem? (i := 10) rfl)
theorem d1_8 : decode prog_13_method_1_code 8 = .ok (.putfield 13, 3) := by decide +kernel
theorem hw_12 {a0 : Array Value} {Z : State} (hw : ∀ d ∈ tables_1, d.before a0 Z = true) : (Jvm.Cond.fieldLink "com/example/chargeweave/chargeweave/Summary" (13 : Nat) "com/example/chargeweave/chargeweave/Summary" "_chargesIn" "Ljava/math/BigDecimal;").before a0 Z = true := hw _ (List.mem_of_getElem? (i := 12) rfl)
theorem hw_13 {a0 : Array Value} {Z : State} (hw : ∀ d ∈ tables_1, d.before a0 Z = true) : (Jvm.Cond.lays "com/example/chargeweave/chargeweave/Summary" "com/example/chargeweave/chargeweave/Summary" "_chargesIn" "Ljava/math/BigDecimal;").before a0 Z = true := hw _ (List.mem_of_getElem? (i := 13) rfl)
theorem hw_2 {a0 : Array Value} {Z : State} (hw : ∀ d ∈ tables_1, d.before a0 Z = true) : (Jvm.Cond.instantiable "com/example/chargeweave/chargeweave/Summary" (9 : Nat)).before a0 Z = true := hw _ (List.mem_of_getElem? (i := 2) rfl)
theorem hw_15 {a0 : Array Value} {Z : State} (hw : ∀ d ∈ tables_1, d.before a0 Z = true) : (Jvm.Cond.lays "com/example/chargeweave/chargeweave/Summary" "com/example/chargeweave/chargeweave/Summary" "_chargesOut" "Ljava/math/BigDecimal;").before a0 Z = true := hw _ (List.mem_of_getElem? (i := 15) rfl)
theorem hw_22 {a0 : Array Value} {Z : State} (hw : ∀ d ∈ tables_1, d.before a0 Z = true) : (Jvm.Cond.lays "com/example/chargeweave/chargeweave/Summary" "com/example/chargeweave/chargeweave/Summary" "_ruleFileErrorsRead" "J").before a0 Z = true := hw _ (List.mem_of_getElem? (i := 22) rfl)
theorem hw_24 {a0 : Array Value} {Z : State} (hw : ∀ d ∈ tables_1, d.before a0 Z = true) : (Jvm.Cond.lays "com/example/chargeweave/chargeweave/Summary" "com/example/chargeweave/chargeweave/Summary" "_ruleFileErrorsOnClaims" "J").before a0 Z = true := hw _ (List.mem_of_getElem? (i := 24) rfl)
theorem hw_41 {a0 : Array Value} {Z : State} (hw : ∀ d ∈ tables_1, d.before a0 Z = true) : (Jvm.Cond.lays "com/example/chargeweave/chargeweave/Summary" "com/example/chargeweave/chargeweave/Summary" "_claimsSplitOff" "J").before a0 Z = true := hw _ (List.mem_of_getElem? (i := 41) rfl)
theorem hw_48 {a0 : Array Value} {Z : State} (hw : ∀ d ∈ tables_1, d.before a0 Z = true) : (Jvm.Cond.lays "com/example/chargeweave/chargeweave/Summary" "com/example/chargeweave/chargeweave/Summary" "_claimsDiscarded" "J").before a0 Z = true := hw _ (List.mem_of_getElem? (i := 48) rfl)
theorem hw_55 {a0 : Array Value} {Z : State} (hw : ∀ d ∈ tables_1, d.before a0 Z = true) : (Jvm.Cond.lays "com/example/chargeweave/chargeweave/Summary" "com/example/chargeweave/chargeweave/Summary" "_claimsHeld" "J").before a0 Z = true := hw _ (List.mem_of_getElem? (i := 55) rfl)
theorem d1_11 : decode prog_13_method_1_code 11 = .ok (.aload_n 0, 1) := by decide +kernel
theorem d1_12 : decode prog_13_method_1_code 12 = .ok (.getstatic 7, 3) := by decide +kernel
theorem d1_15 : decode prog_13_method_1_code 15 = .ok (.putfield 18, 3) := by decide +kernel
theorem hw_14 {a0 : Array Value} {Z : State} (hw : ∀ d ∈ tables_1, d.before a0 Z = true) : (Jvm.Cond.fieldLink "com/example/chargeweave/chargeweave/Summary" (18 : Nat) "com/example/chargeweave/chargeweave/Summary" "_chargesOut" "Ljava/math/BigDecimal;").before a0 Z = true := hw _ (List.mem_of_getElem? (i := 14) rfl)
theorem d1_18 : decode prog_13_method_1_code 18 = .ok (.return_, 1) := by decide +kernel
theorem pn_1 : plainName "com/example/chargeweave/chargeweave/Summary" = true := by first | (simp [plainName, overriddenIn]; done) | decide +kernel
theorem own_ef1 (m : MethodId) (a1 : Addr) : entryFrame m #[(.ref a1)] 1 = mkF m 0 #[rv a1] [] := by first | (simp [entryFrame, mkF, argsToLocals, Value.category]; done) | rfl
def own_Q1 (Z : State) (a1 : Addr) (wz : Addr) (h0 : Heap) (n0 : Nat) (v : Option Value) (h : Heap) (L : List Loc) : Prop := v = none ∧ Fr n0 L ∧ Keep h0 h [a1] ∧ Exa Z h a1 "com/example/chargeweave/chargeweave/Summary" ∧ Fld Z h a1 "com/example/chargeweave/chargeweave/Summary" "_ruleFileErrorsRead" "J" (.long (0 : Int64)) ∧ Fld Z h a1 "com/example/chargeweave/chargeweave/Summary" "_ruleFileErrorsOnClaims" "J" (.long (0 : Int64)) ∧ Fld Z h a1 "com/example/chargeweave/chargeweave/Summary" "_claimsSplitOff" "J" (.long (0 : Int64)) ∧ Fld Z h a1 "com/example/chargeweave/chargeweave/Summary" "_claimsDiscarded" "J" (.long (0 : Int64)) ∧ Fld Z h a1 "com/example/chargeweave/chargeweave/Summary" "_claimsHeld" "J" (.long (0 : Int64))
set_option maxRecDepth 65536 in
set_option maxHeartbeats 40000000 in
theorem own_rm1 (l : Launch) (Z : State) (a0 : Array Value) (hw : ∀ d ∈ tables_1, d.before a0 Z = true) (ws : List Jvm.Cond) (a1 : Addr) (wz : Addr) (h0 : Heap) (n0 : Nat) (Z0 : n0 ≤ h0.size) (O0 : Old Z n0 h0) (S_wz : Sta Z Z.heap "java/math/BigDecimal" "ZERO" "Ljava/math/BigDecimal;" (.ref wz)) (E_a1 : Exa Z h0 a1 "com/example/chargeweave/chargeweave/Summary") (g_a1 : n0 ≤ a1) (F_chargesIn : Fld Z h0 a1 "com/example/chargeweave/chargeweave/Summary" "_chargesIn" "Ljava/math/BigDecimal;" .null) (F_chargesOut : Fld Z h0 a1 "com/example/chargeweave/chargeweave/Summary" "_chargesOut" "Ljava/math/BigDecimal;" .null) (F_ruleFileErrorsRead : Fld Z h0 a1 "com/example/chargeweave/chargeweave/Summary" "_ruleFileErrorsRead" "J" (.long (0 : Int64))) (F_ruleFileErrorsOnClaims : Fld Z h0 a1 "com/example/chargeweave/chargeweave/Summary" "_ruleFileErrorsOnClaims" "J" (.long (0 : Int64))) (F_claimsSplitOff : Fld Z h0 a1 "com/example/chargeweave/chargeweave/Summary" "_claimsSplitOff" "J" (.long (0 : Int64))) (F_claimsDiscarded : Fld Z h0 a1 "com/example/chargeweave/chargeweave/Summary" "_claimsDiscarded" "J" (.long (0 : Int64))) (F_claimsHeld : Fld Z h0 a1 "com/example/chargeweave/chargeweave/Summary" "_claimsHeld" "J" (.long (0 : Int64))) :
    MetFree l (⟨"com/example/chargeweave/chargeweave/Summary", "<init>", "()V"⟩ : MethodName) (head1 (Jvm.Cond.code (⟨"com/example/chargeweave/chargeweave/Summary", "<init>", "()V"⟩ : MethodName) prog_13_method_1_code 1 none :: ws) ({ frames := 1, cells := 0, slots := 0, locals := 12 } : Room)) (fun a U => a = #[(.ref a1)] ∧ Z.Warmed39 U.vm ∧ U.heap = h0) (fun _ _ _ _ _ => True) (fun _ U o U' => ∃ v L, o = .returned v ∧ own_Q1 Z a1 wz h0 n0 v U'.heap L ∧ FrameEnd U o U' L ({ frames := 1, cells := 0, slots := 0, locals := 12 } : Room).cells ({ frames := 1, cells := 0, slots := 0, locals := 12 } : Room).slots) := by
  refine own_body (plainFor_of_name pn_1) (fun m => own_ef1 m a1) ?_
  intro p e s m below meth c T0 X0 hx hby hml hZ hown hnm hret hlk e0
  have hown : s.vm.findClass "com/example/chargeweave/chargeweave/Summary" = some m.cls := hown
  have hnm : meth.name = "<init>" := hnm
  have N0 := Fr.nil n0
  have K0 : Keep h0 h0 [a1] := Keep.refl _ _
  refine own_st (mkF m 1 #[rv a1] [(.ref a1)]) (fun t k => XS.aloadN X0.here hx rfl (hb hby d1_0) rfl rfl k) ?_
  obtain ⟨T1, X1, e1, st1⟩ := initO X0 hx hZ hown (hw_7 hw) (hw_8 hw) (hw_9 hw) e0 (g := (mkF m 1 #[rv a1] [(.ref a1)])) rfl (by rw [hml]; rfl) rfl (hb hby d1_1) (by decide) (W := 0) (by show 2 * 0 + _ ≤ _; exact Nat.le_of_eq rfl) (by decide)
  refine own_step (g' := (mkF m 4 #[rv a1] [])) st1 ?_
  refine own_st (mkF m 5 #[rv a1] [(.ref a1)]) (fun t k => XS.aloadN X1.here hx rfl (hb hby d1_4) rfl rfl k) ?_
  obtain ⟨T2, X2, e2, st2⟩ := getS2 X1 hx hZ hown (host := "") (Or.inl (hw_10 hw)) Via.refl e1 (S_wz.ext O0.2) (g := (mkF m 5 #[rv a1] [(.ref a1)])) rfl (hb hby d1_5)
  refine own_step (g' := (mkF m 8 #[rv a1] [(.ref wz), (.ref a1)])) st2 ?_
  obtain ⟨T3, h3, X3, e3, W3, st3⟩ := putF X2 hx hZ hown (host := "") (Or.inl (hw_12 hw)) Via.refl e2 F_chargesIn E_a1 (Or.inl (hw_13 hw)) (hw_2 hw) (ty := (.object "java/math/BigDecimal")) (by decide) rfl rfl (g := (mkF m 8 #[rv a1] [(.ref wz), (.ref a1)])) rfl rfl (hb hby d1_8)
  have f1_Exa_a1 : Exa Z h3 a1 "com/example/chargeweave/chargeweave/Summary" := (E_a1.wr W3)
  have f2_Fld_a1 : Fld Z h3 a1 "com/example/chargeweave/chargeweave/Summary" "_chargesOut" "Ljava/math/BigDecimal;" .null := (F_chargesOut.other W3 (Or.inr (slot_ne (a0 := a0) (C := "com/example/chargeweave/chargeweave/Summary") (Or.inl (hw_15 hw)) (Or.inl (hw_13 hw)) (by decide) (t := (.object "java/math/BigDecimal")) (t' := (.object "java/math/BigDecimal")) (by decide) (by decide))))
  have f3_Fld_a1 : Fld Z h3 a1 "com/example/chargeweave/chargeweave/Summary" "_ruleFileErrorsRead" "J" (.long (0 : Int64)) := (F_ruleFileErrorsRead.other W3 (Or.inr (slot_ne (a0 := a0) (C := "com/example/chargeweave/chargeweave/Summary") (Or.inl (hw_22 hw)) (Or.inl (hw_13 hw)) (by decide) (t := .long) (t' := (.object "java/math/BigDecimal")) (by decide) (by decide))))
  have f4_Fld_a1 : Fld Z h3 a1 "com/example/chargeweave/chargeweave/Summary" "_ruleFileErrorsOnClaims" "J" (.long (0 : Int64)) := (F_ruleFileErrorsOnClaims.other W3 (Or.inr (slot_ne (a0 := a0) (C := "com/example/chargeweave/chargeweave/Summary") (Or.inl (hw_24 hw)) (Or.inl (hw_13 hw)) (by decide) (t := .long) (t' := (.object "java/math/BigDecimal")) (by decide) (by decide))))
  have f5_Fld_a1 : Fld Z h3 a1 "com/example/chargeweave/chargeweave/Summary" "_claimsSplitOff" "J" (.long (0 : Int64)) := (F_claimsSplitOff.other W3 (Or.inr (slot_ne (a0 := a0) (C := "com/example/chargeweave/chargeweave/Summary") (Or.inl (hw_41 hw)) (Or.inl (hw_13 hw)) (by decide) (t := .long) (t' := (.object "java/math/BigDecimal")) (by decide) (by decide))))
  have f6_Fld_a1 : Fld Z h3 a1 "com/example/chargeweave/chargeweave/Summary" "_claimsDiscarded" "J" (.long (0 : Int64)) := (F_claimsDiscarded.other W3 (Or.inr (slot_ne (a0 := a0) (C := "com/example/chargeweave/chargeweave/Summary") (Or.inl (hw_48 hw)) (Or.inl (hw_13 hw)) (by decide) (t := .long) (t' := (.object "java/math/BigDecimal")) (by decide) (by decide))))
  have f7_Fld_a1 : Fld Z h3 a1 "com/example/chargeweave/chargeweave/Summary" "_claimsHeld" "J" (.long (0 : Int64)) := (F_claimsHeld.other W3 (Or.inr (slot_ne (a0 := a0) (C := "com/example/chargeweave/chargeweave/Summary") (Or.inl (hw_55 hw)) (Or.inl (hw_13 hw)) (by decide) (t := .long) (t' := (.object "java/math/BigDecimal")) (by decide) (by decide))))
  have fw3 : Fld Z h3 a1 "com/example/chargeweave/chargeweave/Summary" "_chargesIn" "Ljava/math/BigDecimal;" (.ref wz) := F_chargesIn.same W3
  have Z3 : n0 ≤ h3.size := Nat.le_trans Z0 (Keep.of_wr W3).1
  have Kp3 : Keep h0 h3 [a1] := K0.wr W3 (Or.inl (List.mem_of_getElem? (i := 0) rfl))
  have O3 : Old Z n0 h3 := O0.wr W3 g_a1
  have N3 := Fr.snoc X3 N0 g_a1
  refine own_step (g' := (mkF m 11 #[rv a1] [])) st3 ?_
  refine own_st (mkF m 12 #[rv a1] [(.ref a1)]) (fun t k => XS.aloadN X3.here hx rfl (hb hby d1_11) rfl rfl k) ?_
  obtain ⟨T4, X4, e4, st4⟩ := getS2 X3 hx hZ hown (host := "") (Or.inl (hw_10 hw)) Via.refl e3 (S_wz.ext O3.2) (g := (mkF m 12 #[rv a1] [(.ref a1)])) rfl (hb hby d1_12)
  refine own_step (g' := (mkF m 15 #[rv a1] [(.ref wz), (.ref a1)])) st4 ?_
  obtain ⟨T5, h5, X5, e5, W5, st5⟩ := putF X4 hx hZ hown (host := "") (Or.inl (hw_14 hw)) Via.refl e4 f2_Fld_a1 f1_Exa_a1 (Or.inl (hw_15 hw)) (hw_2 hw) (ty := (.object "java/math/BigDecimal")) (by decide) rfl rfl (g := (mkF m 15 #[rv a1] [(.ref wz), (.ref a1)])) rfl rfl (hb hby d1_15)
  have f8_Exa_a1 : Exa Z h5 a1 "com/example/chargeweave/chargeweave/Summary" := (f1_Exa_a1.wr W5)
  have f9_Fld_a1 : Fld Z h5 a1 "com/example/chargeweave/chargeweave/Summary" "_chargesIn" "Ljava/math/BigDecimal;" (.ref wz) := (fw3.other W5 (Or.inr (slot_ne (a0 := a0) (C := "com/example/chargeweave/chargeweave/Summary") (Or.inl (hw_13 hw)) (Or.inl (hw_15 hw)) (by decide) (t := (.object "java/math/BigDecimal")) (t' := (.object "java/math/BigDecimal")) (by decide) (by decide))))
  have f10_Fld_a1 : Fld Z h5 a1 "com/example/chargeweave/chargeweave/Summary" "_ruleFileErrorsRead" "J" (.long (0 : Int64)) := (f3_Fld_a1.other W5 (Or.inr (slot_ne (a0 := a0) (C := "com/example/chargeweave/chargeweave/Summary") (Or.inl (hw_22 hw)) (Or.inl (hw_15 hw)) (by decide) (t := .long) (t' := (.object "java/math/BigDecimal")) (by decide) (by decide))))
  have f11_Fld_a1 : Fld Z h5 a1 "com/example/chargeweave/chargeweave/Summary" "_ruleFileErrorsOnClaims" "J" (.long (0 : Int64)) := (f4_Fld_a1.other W5 (Or.inr (slot_ne (a0 := a0) (C := "com/example/chargeweave/chargeweave/Summary") (Or.inl (hw_24 hw)) (Or.inl (hw_15 hw)) (by decide) (t := .long) (t' := (.object "java/math/BigDecimal")) (by decide) (by decide))))
  have f12_Fld_a1 : Fld Z h5 a1 "com/example/chargeweave/chargeweave/Summary" "_claimsSplitOff" "J" (.long (0 : Int64)) := (f5_Fld_a1.other W5 (Or.inr (slot_ne (a0 := a0) (C := "com/example/chargeweave/chargeweave/Summary") (Or.inl (hw_41 hw)) (Or.inl (hw_15 hw)) (by decide) (t := .long) (t' := (.object "java/math/BigDecimal")) (by decide) (by decide))))
  have f13_Fld_a1 : Fld Z h5 a1 "com/example/chargeweave/chargeweave/Summary" "_claimsDiscarded" "J" (.long (0 : Int64)) := (f6_Fld_a1.other W5 (Or.inr (slot_ne (a0 := a0) (C := "com/example/chargeweave/chargeweave/Summary") (Or.inl (hw_48 hw)) (Or.inl (hw_15 hw)) (by decide) (t := .long) (t' := (.object "java/math/BigDecimal")) (by decide) (by decide))))
  have f14_Fld_a1 : Fld Z h5 a1 "com/example/chargeweave/chargeweave/Summary" "_claimsHeld" "J" (.long (0 : Int64)) := (f7_Fld_a1.other W5 (Or.inr (slot_ne (a0 := a0) (C := "com/example/chargeweave/chargeweave/Summary") (Or.inl (hw_55 hw)) (Or.inl (hw_15 hw)) (by decide) (t := .long) (t' := (.object "java/math/BigDecimal")) (by decide) (by decide))))
  have fw5 : Fld Z h5 a1 "com/example/chargeweave/chargeweave/Summary" "_chargesOut" "Ljava/math/BigDecimal;" (.ref wz) := f2_Fld_a1.same W5
  have Z5 : n0 ≤ h5.size := Nat.le_trans Z3 (Keep.of_wr W5).1
  have Kp5 : Keep h0 h5 [a1] := Kp3.wr W5 (Or.inl (List.mem_of_getElem? (i := 0) rfl))
  have O5 : Old Z n0 h5 := O3.wr W5 g_a1
  have N5 := Fr.snoc X5 N3 g_a1
  refine own_step (g' := (mkF m 18 #[rv a1] [])) st5 ?_
  refine own_ret X5 hlk (v := none) (fun _ => rfl) (fun fs hr => X5.returnOut hx hret (hb hby d1_18) hr) ?_ (by decide) (by decide)
  show own_Q1 Z a1 wz h0 n0 _ T5.heap _
  rw [e5]
  exact ⟨rfl, N5, Kp5, f8_Exa_a1, f10_Fld_a1, f11_Fld_a1, f12_Fld_a1, f13_Fld_a1, f14_Fld_a1⟩
theorem d5_0 : decode prog_13_method_7_code 0 = .ok (.aload_n 0, 1) := by decide +kernel
theorem d5_1 : decode prog_13_method_7_code 1 = .ok (.dup, 1) := by decide +kernel
theorem d5_2 : decode prog_13_method_7_code 2 = .ok (.getfield 41, 3) := by decide +kernel
theorem hw_21 {a0 : Array Value} {Z : State} (hw : ∀ d ∈ tables_1, d.before a0 Z = true) : (Jvm.Cond.fieldLink "com/example/chargeweave/chargeweave/Summary" (41 : Nat) "com/example/chargeweave/chargeweave/Summary" "_ruleFileErrorsRead" "J").before a0 Z = true := hw _ (List.mem_of_getElem? (i := 21) rfl)
theorem d5_5 : decode prog_13_method_7_code 5 = .ok (.iload_n 1, 1) := by decide +kernel
theorem d5_6 : decode prog_13_method_7_code 6 = .ok (.i2l, 1) := by decide +kernel
theorem d5_7 : decode prog_13_method_7_code 7 = .ok (.ladd, 1) := by decide +kernel
theorem d5_8 : decode prog_13_method_7_code 8 = .ok (.putfield 41, 3) := by decide +kernel
theorem d5_11 : decode prog_13_method_7_code 11 = .ok (.return_, 1) := by decide +kernel
theorem own_ef5 (m : MethodId) (a1 : Addr) (p2 : Int32) : entryFrame m #[(.ref a1), (.int p2)] 2 = mkF m 0 #[rv a1, iv p2] [] := by first | (simp [entryFrame, mkF, argsToLocals, Value.category]; done) | rfl
def own_Q5 (Z : State) (a1 : Addr) (p2 : Int32) (u0 : Int64) (u1 : Int64) (u2 : Int64) (u3 : Int64) (u4 : Int64) (h0 : Heap) (n0 : Nat) (v : Option Value) (h : Heap) (L : List Loc) : Prop := v = none ∧ Fr n0 L ∧ Keep h0 h [a1] ∧ Exa Z h a1 "com/example/chargeweave/chargeweave/Summary" ∧ Fld Z h a1 "com/example/chargeweave/chargeweave/Summary" "_ruleFileErrorsRead" "J" (.long (u0 + (p2.toInt64))) ∧ Fld Z h a1 "com/example/chargeweave/chargeweave/Summary" "_ruleFileErrorsOnClaims" "J" (.long u1) ∧ Fld Z h a1 "com/example/chargeweave/chargeweave/Summary" "_claimsSplitOff" "J" (.long u2) ∧ Fld Z h a1 "com/example/chargeweave/chargeweave/Summary" "_claimsDiscarded" "J" (.long u3) ∧ Fld Z h a1 "com/example/chargeweave/chargeweave/Summary" "_claimsHeld" "J" (.long u4)
set_option maxRecDepth 65536 in
set_option maxHeartbeats 40000000 in
theorem own_rm5 (l : Launch) (Z : State) (a0 : Array Value) (hw : ∀ d ∈ tables_1, d.before a0 Z = true) (ws : List Jvm.Cond) (a1 : Addr) (p2 : Int32) (u0 : Int64) (u1 : Int64) (u2 : Int64) (u3 : Int64) (u4 : Int64) (h0 : Heap) (n0 : Nat) (Z0 : n0 ≤ h0.size) (E_a1 : Exa Z h0 a1 "com/example/chargeweave/chargeweave/Summary") (g_a1 : n0 ≤ a1) (F_ruleFileErrorsRead : Fld Z h0 a1 "com/example/chargeweave/chargeweave/Summary" "_ruleFileErrorsRead" "J" (.long u0)) (F_ruleFileErrorsOnClaims : Fld Z h0 a1 "com/example/chargeweave/chargeweave/Summary" "_ruleFileErrorsOnClaims" "J" (.long u1)) (F_claimsSplitOff : Fld Z h0 a1 "com/example/chargeweave/chargeweave/Summary" "_claimsSplitOff" "J" (.long u2)) (F_claimsDiscarded : Fld Z h0 a1 "com/example/chargeweave/chargeweave/Summary" "_claimsDiscarded" "J" (.long u3)) (F_claimsHeld : Fld Z h0 a1 "com/example/chargeweave/chargeweave/Summary" "_claimsHeld" "J" (.long u4)) :
    MetFree l (⟨"com/example/chargeweave/chargeweave/Summary", "ruleFileErrorsRead", "(I)V"⟩ : MethodName) (head1 (Jvm.Cond.code (⟨"com/example/chargeweave/chargeweave/Summary", "ruleFileErrorsRead", "(I)V"⟩ : MethodName) prog_13_method_7_code 2 none :: ws) ({ frames := 0, cells := 0, slots := 0, locals := 0 } : Room)) (fun a U => a = #[(.ref a1), (.int p2)] ∧ Z.Warmed39 U.vm ∧ U.heap = h0) (fun _ _ _ _ _ => True) (fun _ U o U' => ∃ v L, o = .returned v ∧ own_Q5 Z a1 p2 u0 u1 u2 u3 u4 h0 n0 v U'.heap L ∧ FrameEnd U o U' L ({ frames := 0, cells := 0, slots := 0, locals := 0 } : Room).cells ({ frames := 0, cells := 0, slots := 0, locals := 0 } : Room).slots) := by
  refine own_body (plainFor_of_name pn_1) (fun m => own_ef5 m a1 p2) ?_
  intro p e s m below meth c T0 X0 hx hby hml hZ hown hnm hret hlk e0
  have hown : s.vm.findClass "com/example/chargeweave/chargeweave/Summary" = some m.cls := hown
  have hnm : meth.name = "ruleFileErrorsRead" := hnm
  have N0 := Fr.nil n0
  have K0 : Keep h0 h0 [a1] := Keep.refl _ _
  refine own_st (mkF m 1 #[rv a1, iv p2] [(.ref a1)]) (fun t k => XS.aloadN X0.here hx rfl (hb hby d5_0) rfl rfl k) ?_
  refine own_st (mkF m 2 #[rv a1, iv p2] [(.ref a1), (.ref a1)]) (fun t k => XS.dup X0.here hx rfl (hb hby d5_1) rfl rfl k) ?_
  obtain ⟨T6, X6, e6, st6⟩ := getF X0 hx hZ hown (host := "") (Or.inl (hw_21 hw)) Via.refl e0 F_ruleFileErrorsRead (g := (mkF m 2 #[rv a1, iv p2] [(.ref a1), (.ref a1)])) rfl rfl (hb hby d5_2)
  refine own_step (g' := (mkF m 5 #[rv a1, iv p2] [(.long u0), (.ref a1)])) st6 ?_
  refine own_st (mkF m 6 #[rv a1, iv p2] [(.int p2), (.long u0), (.ref a1)]) (fun t k => XS.iloadN X6.here hx rfl (hb hby d5_5) rfl k) ?_
  refine own_st (mkF m 7 #[rv a1, iv p2] [(.long (p2.toInt64)), (.long u0), (.ref a1)]) (fun t k => XS.i2l X6.here hx rfl (hb hby d5_6) rfl k) ?_
  refine own_st (mkF m 8 #[rv a1, iv p2] [(.long (u0 + (p2.toInt64))), (.ref a1)]) (fun t k => XS.ladd X6.here hx rfl (hb hby d5_7) rfl k) ?_
  obtain ⟨T7, h7, X7, e7, W7, st7⟩ := putF X6 hx hZ hown (host := "") (Or.inl (hw_21 hw)) Via.refl e6 F_ruleFileErrorsRead E_a1 (Or.inl (hw_22 hw)) (hw_2 hw) (ty := .long) (by decide) rfl rfl (g := (mkF m 8 #[rv a1, iv p2] [(.long (u0 + (p2.toInt64))), (.ref a1)])) rfl rfl (hb hby d5_8)
  have f1_Exa_a1 : Exa Z h7 a1 "com/example/chargeweave/chargeweave/Summary" := (E_a1.wr W7)
  have f2_Fld_a1 : Fld Z h7 a1 "com/example/chargeweave/chargeweave/Summary" "_ruleFileErrorsOnClaims" "J" (.long u1) := (F_ruleFileErrorsOnClaims.other W7 (Or.inr (slot_ne (a0 := a0) (C := "com/example/chargeweave/chargeweave/Summary") (Or.inl (hw_24 hw)) (Or.inl (hw_22 hw)) (by decide) (t := .long) (t' := .long) (by decide) (by decide))))
  have f3_Fld_a1 : Fld Z h7 a1 "com/example/chargeweave/chargeweave/Summary" "_claimsSplitOff" "J" (.long u2) := (F_claimsSplitOff.other W7 (Or.inr (slot_ne (a0 := a0) (C := "com/example/chargeweave/chargeweave/Summary") (Or.inl (hw_41 hw)) (Or.inl (hw_22 hw)) (by decide) (t := .long) (t' := .long) (by decide) (by decide))))
  have f4_Fld_a1 : Fld Z h7 a1 "com/example/chargeweave/chargeweave/Summary" "_claimsDiscarded" "J" (.long u3) := (F_claimsDiscarded.other W7 (Or.inr (slot_ne (a0 := a0) (C := "com/example/chargeweave/chargeweave/Summary") (Or.inl (hw_48 hw)) (Or.inl (hw_22 hw)) (by decide) (t := .long) (t' := .long) (by decide) (by decide))))
  have f5_Fld_a1 : Fld Z h7 a1 "com/example/chargeweave/chargeweave/Summary" "_claimsHeld" "J" (.long u4) := (F_claimsHeld.other W7 (Or.inr (slot_ne (a0 := a0) (C := "com/example/chargeweave/chargeweave/Summary") (Or.inl (hw_55 hw)) (Or.inl (hw_22 hw)) (by decide) (t := .long) (t' := .long) (by decide) (by decide))))
  have fw7 : Fld Z h7 a1 "com/example/chargeweave/chargeweave/Summary" "_ruleFileErrorsRead" "J" (.long (u0 + (p2.toInt64))) := F_ruleFileErrorsRead.same W7
  have Z7 : n0 ≤ h7.size := Nat.le_trans Z0 (Keep.of_wr W7).1
  have Kp7 : Keep h0 h7 [a1] := K0.wr W7 (Or.inl (List.mem_of_getElem? (i := 0) rfl))
  have N7 := Fr.snoc X7 N0 g_a1
  refine own_step (g' := (mkF m 11 #[rv a1, iv p2] [])) st7 ?_
  refine own_ret X7 hlk (v := none) (fun _ => rfl) (fun fs hr => X7.returnOut hx hret (hb hby d5_11) hr) ?_ (by decide) (by decide)
  show own_Q5 Z a1 p2 u0 u1 u2 u3 u4 h0 n0 _ T7.heap _
  rw [e7]
  exact ⟨rfl, N7, Kp7, f1_Exa_a1, fw7, f2_Fld_a1, f3_Fld_a1, f4_Fld_a1, f5_Fld_a1⟩
theorem d4_0 : decode prog_13_method_8_code 0 = .ok (.aload_n 0, 1) := by decide +kernel
theorem d4_1 : decode prog_13_method_8_code 1 = .ok (.dup, 1) := by decide +kernel
theorem d4_2 : decode prog_13_method_8_code 2 = .ok (.getfield 44, 3) := by decide +kernel
theorem hw_23 {a0 : Array Value} {Z : State} (hw : ∀ d ∈ tables_1, d.before a0 Z = true) : (Jvm.Cond.fieldLink "com/example/chargeweave/chargeweave/Summary" (44 : Nat) "com/example/chargeweave/chargeweave/Summary" "_ruleFileErrorsOnClaims" "J").before a0 Z = true := hw _ (List.mem_of_getElem? (i := 23) rfl)
theorem d4_5 : decode prog_13_method_8_code 5 = .ok (.lconst 1, 1) := by decide +kernel
theorem d4_6 : decode prog_13_method_8_code 6 = .ok (.ladd, 1) := by decide +kernel
theorem d4_7 : decode prog_13_method_8_code 7 = .ok (.putfield 44, 3) := by decide +kernel
theorem d4_10 : decode prog_13_method_8_code 10 = .ok (.return_, 1) := by decide +kernel
theorem own_ef4 (m : MethodId) (a1 : Addr) : entryFrame m #[(.ref a1)] 1 = mkF m 0 #[rv a1] [] := by first | (simp [entryFrame, mkF, argsToLocals, Value.category]; done) | rfl
def own_Q4 (Z : State) (a1 : Addr) (u0 : Int64) (u1 : Int64) (u2 : Int64) (u3 : Int64) (u4 : Int64) (h0 : Heap) (n0 : Nat) (v : Option Value) (h : Heap) (L : List Loc) : Prop := v = none ∧ Fr n0 L ∧ Keep h0 h [a1] ∧ Exa Z h a1 "com/example/chargeweave/chargeweave/Summary" ∧ Fld Z h a1 "com/example/chargeweave/chargeweave/Summary" "_ruleFileErrorsRead" "J" (.long u0) ∧ Fld Z h a1 "com/example/chargeweave/chargeweave/Summary" "_ruleFileErrorsOnClaims" "J" (.long (u1 + (1 : Int64))) ∧ Fld Z h a1 "com/example/chargeweave/chargeweave/Summary" "_claimsSplitOff" "J" (.long u2) ∧ Fld Z h a1 "com/example/chargeweave/chargeweave/Summary" "_claimsDiscarded" "J" (.long u3) ∧ Fld Z h a1 "com/example/chargeweave/chargeweave/Summary" "_claimsHeld" "J" (.long u4)
set_option maxRecDepth 65536 in
set_option maxHeartbeats 40000000 in
theorem own_rm4 (l : Launch) (Z : State) (a0 : Array Value) (hw : ∀ d ∈ tables_1, d.before a0 Z = true) (ws : List Jvm.Cond) (a1 : Addr) (u0 : Int64) (u1 : Int64) (u2 : Int64) (u3 : Int64) (u4 : Int64) (h0 : Heap) (n0 : Nat) (Z0 : n0 ≤ h0.size) (E_a1 : Exa Z h0 a1 "com/example/chargeweave/chargeweave/Summary") (g_a1 : n0 ≤ a1) (F_ruleFileErrorsRead : Fld Z h0 a1 "com/example/chargeweave/chargeweave/Summary" "_ruleFileErrorsRead" "J" (.long u0)) (F_ruleFileErrorsOnClaims : Fld Z h0 a1 "com/example/chargeweave/chargeweave/Summary" "_ruleFileErrorsOnClaims" "J" (.long u1)) (F_claimsSplitOff : Fld Z h0 a1 "com/example/chargeweave/chargeweave/Summary" "_claimsSplitOff" "J" (.long u2)) (F_claimsDiscarded : Fld Z h0 a1 "com/example/chargeweave/chargeweave/Summary" "_claimsDiscarded" "J" (.long u3)) (F_claimsHeld : Fld Z h0 a1 "com/example/chargeweave/chargeweave/Summary" "_claimsHeld" "J" (.long u4)) :
    MetFree l (⟨"com/example/chargeweave/chargeweave/Summary", "ruleFileErrorOnClaim", "()V"⟩ : MethodName) (head1 (Jvm.Cond.code (⟨"com/example/chargeweave/chargeweave/Summary", "ruleFileErrorOnClaim", "()V"⟩ : MethodName) prog_13_method_8_code 1 none :: ws) ({ frames := 0, cells := 0, slots := 0, locals := 0 } : Room)) (fun a U => a = #[(.ref a1)] ∧ Z.Warmed39 U.vm ∧ U.heap = h0) (fun _ _ _ _ _ => True) (fun _ U o U' => ∃ v L, o = .returned v ∧ own_Q4 Z a1 u0 u1 u2 u3 u4 h0 n0 v U'.heap L ∧ FrameEnd U o U' L ({ frames := 0, cells := 0, slots := 0, locals := 0 } : Room).cells ({ frames := 0, cells := 0, slots := 0, locals := 0 } : Room).slots) := by
  refine own_body (plainFor_of_name pn_1) (fun m => own_ef4 m a1) ?_
  intro p e s m below meth c T0 X0 hx hby hml hZ hown hnm hret hlk e0
  have hown : s.vm.findClass "com/example/chargeweave/chargeweave/Summary" = some m.cls := hown
  have hnm : meth.name = "ruleFileErrorOnClaim" := hnm
  have N0 := Fr.nil n0
  have K0 : Keep h0 h0 [a1] := Keep.refl _ _
  refine own_st (mkF m 1 #[rv a1] [(.ref a1)]) (fun t k => XS.aloadN X0.here hx rfl (hb hby d4_0) rfl rfl k) ?_
  refine own_st (mkF m 2 #[rv a1] [(.ref a1), (.ref a1)]) (fun t k => XS.dup X0.here hx rfl (hb hby d4_1) rfl rfl k) ?_
  obtain ⟨T8, X8, e8, st8⟩ := getF X0 hx hZ hown (host := "") (Or.inl (hw_23 hw)) Via.refl e0 F_ruleFileErrorsOnClaims (g := (mkF m 2 #[rv a1] [(.ref a1), (.ref a1)])) rfl rfl (hb hby d4_2)
  refine own_step (g' := (mkF m 5 #[rv a1] [(.long u1), (.ref a1)])) st8 ?_
  refine own_st (mkF m 6 #[rv a1] [(.long (1 : Int64)), (.long u1), (.ref a1)]) (fun t k => XS.lconst X8.here hx rfl (hb hby d4_5) k) ?_
  refine own_st (mkF m 7 #[rv a1] [(.long (u1 + (1 : Int64))), (.ref a1)]) (fun t k => XS.ladd X8.here hx rfl (hb hby d4_6) rfl k) ?_
  obtain ⟨T9, h9, X9, e9, W9, st9⟩ := putF X8 hx hZ hown (host := "") (Or.inl (hw_23 hw)) Via.refl e8 F_ruleFileErrorsOnClaims E_a1 (Or.inl (hw_24 hw)) (hw_2 hw) (ty := .long) (by decide) rfl rfl (g := (mkF m 7 #[rv a1] [(.long (u1 + (1 : Int64))), (.ref a1)])) rfl rfl (hb hby d4_7)
  have f1_Exa_a1 : Exa Z h9 a1 "com/example/chargeweave/chargeweave/Summary" := (E_a1.wr W9)
  have f2_Fld_a1 : Fld Z h9 a1 "com/example/chargeweave/chargeweave/Summary" "_ruleFileErrorsRead" "J" (.long u0) := (F_ruleFileErrorsRead.other W9 (Or.inr (slot_ne (a0 := a0) (C := "com/example/chargeweave/chargeweave/Summary") (Or.inl (hw_22 hw)) (Or.inl (hw_24 hw)) (by decide) (t := .long) (t' := .long) (by decide) (by decide))))
  have f3_Fld_a1 : Fld Z h9 a1 "com/example/chargeweave/chargeweave/Summary" "_claimsSplitOff" "J" (.long u2) := (F_claimsSplitOff.other W9 (Or.inr (slot_ne (a0 := a0) (C := "com/example/chargeweave/chargeweave/Summary") (Or.inl (hw_41 hw)) (Or.inl (hw_24 hw)) (by decide) (t := .long) (t' := .long) (by decide) (by decide))))
  have f4_Fld_a1 : Fld Z h9 a1 "com/example/chargeweave/chargeweave/Summary" "_claimsDiscarded" "J" (.long u3) := (F_claimsDiscarded.other W9 (Or.inr (slot_ne (a0 := a0) (C := "com/example/chargeweave/chargeweave/Summary") (Or.inl (hw_48 hw)) (Or.inl (hw_24 hw)) (by decide) (t := .long) (t' := .long) (by decide) (by decide))))
  have f5_Fld_a1 : Fld Z h9 a1 "com/example/chargeweave/chargeweave/Summary" "_claimsHeld" "J" (.long u4) := (F_claimsHeld.other W9 (Or.inr (slot_ne (a0 := a0) (C := "com/example/chargeweave/chargeweave/Summary") (Or.inl (hw_55 hw)) (Or.inl (hw_24 hw)) (by decide) (t := .long) (t' := .long) (by decide) (by decide))))
  have fw9 : Fld Z h9 a1 "com/example/chargeweave/chargeweave/Summary" "_ruleFileErrorsOnClaims" "J" (.long (u1 + (1 : Int64))) := F_ruleFileErrorsOnClaims.same W9
  have Z9 : n0 ≤ h9.size := Nat.le_trans Z0 (Keep.of_wr W9).1
  have Kp9 : Keep h0 h9 [a1] := K0.wr W9 (Or.inl (List.mem_of_getElem? (i := 0) rfl))
  have N9 := Fr.snoc X9 N0 g_a1
  refine own_step (g' := (mkF m 10 #[rv a1] [])) st9 ?_
  refine own_ret X9 hlk (v := none) (fun _ => rfl) (fun fs hr => X9.returnOut hx hret (hb hby d4_10) hr) ?_ (by decide) (by decide)
  show own_Q4 Z a1 u0 u1 u2 u3 u4 h0 n0 _ T9.heap _
  rw [e9]
  exact ⟨rfl, N9, Kp9, f1_Exa_a1, f2_Fld_a1, fw9, f3_Fld_a1, f4_Fld_a1, f5_Fld_a1⟩
theorem d6_0 : decode prog_13_method_3_code 0 = .ok (.aload_n 0, 1) := by decide +kernel
theorem d6_1 : decode prog_13_method_3_code 1 = .ok (.dup, 1) := by decide +kernel
theorem d6_2 : decode prog_13_method_3_code 2 = .ok (.getfield 29, 3) := by decide +kernel
theorem hw_40 {a0 : Array Value} {Z : State} (hw : ∀ d ∈ tables_1, d.before a0 Z = true) : (Jvm.Cond.fieldLink "com/example/chargeweave/chargeweave/Summary" (29 : Nat) "com/example/chargeweave/chargeweave/Summary" "_claimsSplitOff" "J").before a0 Z = true := hw _ (List.mem_of_getElem? (i := 40) rfl)
theorem d6_5 : decode prog_13_method_3_code 5 = .ok (.iload_n 1, 1) := by decide +kernel
theorem d6_6 : decode prog_13_method_3_code 6 = .ok (.i2l, 1) := by decide +kernel
theorem d6_7 : decode prog_13_method_3_code 7 = .ok (.ladd, 1) := by decide +kernel
theorem d6_8 : decode prog_13_method_3_code 8 = .ok (.putfield 29, 3) := by decide +kernel
theorem d6_11 : decode prog_13_method_3_code 11 = .ok (.return_, 1) := by decide +kernel
theorem own_ef6 (m : MethodId) (a1 : Addr) (p2 : Int32) : entryFrame m #[(.ref a1), (.int p2)] 2 = mkF m 0 #[rv a1, iv p2] [] := by first | (simp [entryFrame, mkF, argsToLocals, Value.category]; done) | rfl
def own_Q6 (Z : State) (a1 : Addr) (p2 : Int32) (u0 : Int64) (u1 : Int64) (u2 : Int64) (u3 : Int64) (u4 : Int64) (h0 : Heap) (n0 : Nat) (v : Option Value) (h : Heap) (L : List Loc) : Prop := v = none ∧ Fr n0 L ∧ Keep h0 h [a1] ∧ Exa Z h a1 "com/example/chargeweave/chargeweave/Summary" ∧ Fld Z h a1 "com/example/chargeweave/chargeweave/Summary" "_ruleFileErrorsRead" "J" (.long u0) ∧ Fld Z h a1 "com/example/chargeweave/chargeweave/Summary" "_ruleFileErrorsOnClaims" "J" (.long u1) ∧ Fld Z h a1 "com/example/chargeweave/chargeweave/Summary" "_claimsSplitOff" "J" (.long (u2 + (p2.toInt64))) ∧ Fld Z h a1 "com/example/chargeweave/chargeweave/Summary" "_claimsDiscarded" "J" (.long u3) ∧ Fld Z h a1 "com/example/chargeweave/chargeweave/Summary" "_claimsHeld" "J" (.long u4)
set_option maxRecDepth 65536 in
set_option maxHeartbeats 40000000 in
theorem own_rm6 (l : Launch) (Z : State) (a0 : Array Value) (hw : ∀ d ∈ tables_1, d.before a0 Z = true) (ws : List Jvm.Cond) (a1 : Addr) (p2 : Int32) (u0 : Int64) (u1 : Int64) (u2 : Int64) (u3 : Int64) (u4 : Int64) (h0 : Heap) (n0 : Nat) (Z0 : n0 ≤ h0.size) (E_a1 : Exa Z h0 a1 "com/example/chargeweave/chargeweave/Summary") (g_a1 : n0 ≤ a1) (F_ruleFileErrorsRead : Fld Z h0 a1 "com/example/chargeweave/chargeweave/Summary" "_ruleFileErrorsRead" "J" (.long u0)) (F_ruleFileErrorsOnClaims : Fld Z h0 a1 "com/example/chargeweave/chargeweave/Summary" "_ruleFileErrorsOnClaims" "J" (.long u1)) (F_claimsSplitOff : Fld Z h0 a1 "com/example/chargeweave/chargeweave/Summary" "_claimsSplitOff" "J" (.long u2)) (F_claimsDiscarded : Fld Z h0 a1 "com/example/chargeweave/chargeweave/Summary" "_claimsDiscarded" "J" (.long u3)) (F_claimsHeld : Fld Z h0 a1 "com/example/chargeweave/chargeweave/Summary" "_claimsHeld" "J" (.long u4)) :
    MetFree l (⟨"com/example/chargeweave/chargeweave/Summary", "claimsSplitOff", "(I)V"⟩ : MethodName) (head1 (Jvm.Cond.code (⟨"com/example/chargeweave/chargeweave/Summary", "claimsSplitOff", "(I)V"⟩ : MethodName) prog_13_method_3_code 2 none :: ws) ({ frames := 0, cells := 0, slots := 0, locals := 0 } : Room)) (fun a U => a = #[(.ref a1), (.int p2)] ∧ Z.Warmed39 U.vm ∧ U.heap = h0) (fun _ _ _ _ _ => True) (fun _ U o U' => ∃ v L, o = .returned v ∧ own_Q6 Z a1 p2 u0 u1 u2 u3 u4 h0 n0 v U'.heap L ∧ FrameEnd U o U' L ({ frames := 0, cells := 0, slots := 0, locals := 0 } : Room).cells ({ frames := 0, cells := 0, slots := 0, locals := 0 } : Room).slots) := by
  refine own_body (plainFor_of_name pn_1) (fun m => own_ef6 m a1 p2) ?_
  intro p e s m below meth c T0 X0 hx hby hml hZ hown hnm hret hlk e0
  have hown : s.vm.findClass "com/example/chargeweave/chargeweave/Summary" = some m.cls := hown
  have hnm : meth.name = "claimsSplitOff" := hnm
  have N0 := Fr.nil n0
  have K0 : Keep h0 h0 [a1] := Keep.refl _ _
  refine own_st (mkF m 1 #[rv a1, iv p2] [(.ref a1)]) (fun t k => XS.aloadN X0.here hx rfl (hb hby d6_0) rfl rfl k) ?_
  refine own_st (mkF m 2 #[rv a1, iv p2] [(.ref a1), (.ref a1)]) (fun t k => XS.dup X0.here hx rfl (hb hby d6_1) rfl rfl k) ?_
  obtain ⟨T10, X10, e10, st10⟩ := getF X0 hx hZ hown (host := "") (Or.inl (hw_40 hw)) Via.refl e0 F_claimsSplitOff (g := (mkF m 2 #[rv a1, iv p2] [(.ref a1), (.ref a1)])) rfl rfl (hb hby d6_2)
  refine own_step (g' := (mkF m 5 #[rv a1, iv p2] [(.long u2), (.ref a1)])) st10 ?_
  refine own_st (mkF m 6 #[rv a1, iv p2] [(.int p2), (.long u2), (.ref a1)]) (fun t k => XS.iloadN X10.here hx rfl (hb hby d6_5) rfl k) ?_
  refine own_st (mkF m 7 #[rv a1, iv p2] [(.long (p2.toInt64)), (.long u2), (.ref a1)]) (fun t k => XS.i2l X10.here hx rfl (hb hby d6_6) rfl k) ?_
  refine own_st (mkF m 8 #[rv a1, iv p2] [(.long (u2 + (p2.toInt64))), (.ref a1)]) (fun t k => XS.ladd X10.here hx rfl (hb hby d6_7) rfl k) ?_
  obtain ⟨T11, h11, X11, e11, W11, st11⟩ := putF X10 hx hZ hown (host := "") (Or.inl (hw_40 hw)) Via.refl e10 F_claimsSplitOff E_a1 (Or.inl (hw_41 hw)) (hw_2 hw) (ty := .long) (by decide) rfl rfl (g := (mkF m 8 #[rv a1, iv p2] [(.long (u2 + (p2.toInt64))), (.ref a1)])) rfl rfl (hb hby d6_8)
  have f1_Exa_a1 : Exa Z h11 a1 "com/example/chargeweave/chargeweave/Summary" := (E_a1.wr W11)
  have f2_Fld_a1 : Fld Z h11 a1 "com/example/chargeweave/chargeweave/Summary" "_ruleFileErrorsRead" "J" (.long u0) := (F_ruleFileErrorsRead.other W11 (Or.inr (slot_ne (a0 := a0) (C := "com/example/chargeweave/chargeweave/Summary") (Or.inl (hw_22 hw)) (Or.inl (hw_41 hw)) (by decide) (t := .long) (t' := .long) (by decide) (by decide))))
  have f3_Fld_a1 : Fld Z h11 a1 "com/example/chargeweave/chargeweave/Summary" "_ruleFileErrorsOnClaims" "J" (.long u1) := (F_ruleFileErrorsOnClaims.other W11 (Or.inr (slot_ne (a0 := a0) (C := "com/example/chargeweave/chargeweave/Summary") (Or.inl (hw_24 hw)) (Or.inl (hw_41 hw)) (by decide) (t := .long) (t' := .long) (by decide) (by decide))))
  have f4_Fld_a1 : Fld Z h11 a1 "com/example/chargeweave/chargeweave/Summary" "_claimsDiscarded" "J" (.long u3) := (F_claimsDiscarded.other W11 (Or.inr (slot_ne (a0 := a0) (C := "com/example/chargeweave/chargeweave/Summary") (Or.inl (hw_48 hw)) (Or.inl (hw_41 hw)) (by decide) (t := .long) (t' := .long) (by decide) (by decide))))
  have f5_Fld_a1 : Fld Z h11 a1 "com/example/chargeweave/chargeweave/Summary" "_claimsHeld" "J" (.long u4) := (F_claimsHeld.other W11 (Or.inr (slot_ne (a0 := a0) (C := "com/example/chargeweave/chargeweave/Summary") (Or.inl (hw_55 hw)) (Or.inl (hw_41 hw)) (by decide) (t := .long) (t' := .long) (by decide) (by decide))))
  have fw11 : Fld Z h11 a1 "com/example/chargeweave/chargeweave/Summary" "_claimsSplitOff" "J" (.long (u2 + (p2.toInt64))) := F_claimsSplitOff.same W11
  have Z11 : n0 ≤ h11.size := Nat.le_trans Z0 (Keep.of_wr W11).1
  have Kp11 : Keep h0 h11 [a1] := K0.wr W11 (Or.inl (List.mem_of_getElem? (i := 0) rfl))
  have N11 := Fr.snoc X11 N0 g_a1
  refine own_step (g' := (mkF m 11 #[rv a1, iv p2] [])) st11 ?_
  refine own_ret X11 hlk (v := none) (fun _ => rfl) (fun fs hr => X11.returnOut hx hret (hb hby d6_11) hr) ?_ (by decide) (by decide)
  show own_Q6 Z a1 p2 u0 u1 u2 u3 u4 h0 n0 _ T11.heap _
  rw [e11]
  exact ⟨rfl, N11, Kp11, f1_Exa_a1, f2_Fld_a1, f3_Fld_a1, fw11, f4_Fld_a1, f5_Fld_a1⟩
theorem d7_0 : decode prog_13_method_4_code 0 = .ok (.aload_n 0, 1) := by decide +kernel
theorem d7_1 : decode prog_13_method_4_code 1 = .ok (.dup, 1) := by decide +kernel
theorem d7_2 : decode prog_13_method_4_code 2 = .ok (.getfield 32, 3) := by decide +kernel
theorem hw_47 {a0 : Array Value} {Z : State} (hw : ∀ d ∈ tables_1, d.before a0 Z = true) : (Jvm.Cond.fieldLink "com/example/chargeweave/chargeweave/Summary" (32 : Nat) "com/example/chargeweave/chargeweave/Summary" "_claimsDiscarded" "J").before a0 Z = true := hw _ (List.mem_of_getElem? (i := 47) rfl)
theorem d7_5 : decode prog_13_method_4_code 5 = .ok (.lconst 1, 1) := by decide +kernel
theorem d7_6 : decode prog_13_method_4_code 6 = .ok (.ladd, 1) := by decide +kernel
theorem d7_7 : decode prog_13_method_4_code 7 = .ok (.putfield 32, 3) := by decide +kernel
theorem d7_10 : decode prog_13_method_4_code 10 = .ok (.return_, 1) := by decide +kernel
theorem own_ef7 (m : MethodId) (a1 : Addr) : entryFrame m #[(.ref a1)] 1 = mkF m 0 #[rv a1] [] := by first | (simp [entryFrame, mkF, argsToLocals, Value.category]; done) | rfl
def own_Q7 (Z : State) (a1 : Addr) (u0 : Int64) (u1 : Int64) (u2 : Int64) (u3 : Int64) (u4 : Int64) (h0 : Heap) (n0 : Nat) (v : Option Value) (h : Heap) (L : List Loc) : Prop := v = none ∧ Fr n0 L ∧ Keep h0 h [a1] ∧ Exa Z h a1 "com/example/chargeweave/chargeweave/Summary" ∧ Fld Z h a1 "com/example/chargeweave/chargeweave/Summary" "_ruleFileErrorsRead" "J" (.long u0) ∧ Fld Z h a1 "com/example/chargeweave/chargeweave/Summary" "_ruleFileErrorsOnClaims" "J" (.long u1) ∧ Fld Z h a1 "com/example/chargeweave/chargeweave/Summary" "_claimsSplitOff" "J" (.long u2) ∧ Fld Z h a1 "com/example/chargeweave/chargeweave/Summary" "_claimsDiscarded" "J" (.long (u3 + (1 : Int64))) ∧ Fld Z h a1 "com/example/chargeweave/chargeweave/Summary" "_claimsHeld" "J" (.long u4)
set_option maxRecDepth 65536 in
set_option maxHeartbeats 40000000 in
theorem own_rm7 (l : Launch) (Z : State) (a0 : Array Value) (hw : ∀ d ∈ tables_1, d.before a0 Z = true) (ws : List Jvm.Cond) (a1 : Addr) (u0 : Int64) (u1 : Int64) (u2 : Int64) (u3 : Int64) (u4 : Int64) (h0 : Heap) (n0 : Nat) (Z0 : n0 ≤ h0.size) (E_a1 : Exa Z h0 a1 "com/example/chargeweave/chargeweave/Summary") (g_a1 : n0 ≤ a1) (F_ruleFileErrorsRead : Fld Z h0 a1 "com/example/chargeweave/chargeweave/Summary" "_ruleFileErrorsRead" "J" (.long u0)) (F_ruleFileErrorsOnClaims : Fld Z h0 a1 "com/example/chargeweave/chargeweave/Summary" "_ruleFileErrorsOnClaims" "J" (.long u1)) (F_claimsSplitOff : Fld Z h0 a1 "com/example/chargeweave/chargeweave/Summary" "_claimsSplitOff" "J" (.long u2)) (F_claimsDiscarded : Fld Z h0 a1 "com/example/chargeweave/chargeweave/Summary" "_claimsDiscarded" "J" (.long u3)) (F_claimsHeld : Fld Z h0 a1 "com/example/chargeweave/chargeweave/Summary" "_claimsHeld" "J" (.long u4)) :
    MetFree l (⟨"com/example/chargeweave/chargeweave/Summary", "claimDiscarded", "()V"⟩ : MethodName) (head1 (Jvm.Cond.code (⟨"com/example/chargeweave/chargeweave/Summary", "claimDiscarded", "()V"⟩ : MethodName) prog_13_method_4_code 1 none :: ws) ({ frames := 0, cells := 0, slots := 0, locals := 0 } : Room)) (fun a U => a = #[(.ref a1)] ∧ Z.Warmed39 U.vm ∧ U.heap = h0) (fun _ _ _ _ _ => True) (fun _ U o U' => ∃ v L, o = .returned v ∧ own_Q7 Z a1 u0 u1 u2 u3 u4 h0 n0 v U'.heap L ∧ FrameEnd U o U' L ({ frames := 0, cells := 0, slots := 0, locals := 0 } : Room).cells ({ frames := 0, cells := 0, slots := 0, locals := 0 } : Room).slots) := by
  refine own_body (plainFor_of_name pn_1) (fun m => own_ef7 m a1) ?_
  intro p e s m below meth c T0 X0 hx hby hml hZ hown hnm hret hlk e0
  have hown : s.vm.findClass "com/example/chargeweave/chargeweave/Summary" = some m.cls := hown
  have hnm : meth.name = "claimDiscarded" := hnm
  have N0 := Fr.nil n0
  have K0 : Keep h0 h0 [a1] := Keep.refl _ _
  refine own_st (mkF m 1 #[rv a1] [(.ref a1)]) (fun t k => XS.aloadN X0.here hx rfl (hb hby d7_0) rfl rfl k) ?_
  refine own_st (mkF m 2 #[rv a1] [(.ref a1), (.ref a1)]) (fun t k => XS.dup X0.here hx rfl (hb hby d7_1) rfl rfl k) ?_
  obtain ⟨T12, X12, e12, st12⟩ := getF X0 hx hZ hown (host := "") (Or.inl (hw_47 hw)) Via.refl e0 F_claimsDiscarded (g := (mkF m 2 #[rv a1] [(.ref a1), (.ref a1)])) rfl rfl (hb hby d7_2)
  refine own_step (g' := (mkF m 5 #[rv a1] [(.long u3), (.ref a1)])) st12 ?_
  refine own_st (mkF m 6 #[rv a1] [(.long (1 : Int64)), (.long u3), (.ref a1)]) (fun t k => XS.lconst X12.here hx rfl (hb hby d7_5) k) ?_
  refine own_st (mkF m 7 #[rv a1] [(.long (u3 + (1 : Int64))), (.ref a1)]) (fun t k => XS.ladd X12.here hx rfl (hb hby d7_6) rfl k) ?_
  obtain ⟨T13, h13, X13, e13, W13, st13⟩ := putF X12 hx hZ hown (host := "") (Or.inl (hw_47 hw)) Via.refl e12 F_claimsDiscarded E_a1 (Or.inl (hw_48 hw)) (hw_2 hw) (ty := .long) (by decide) rfl rfl (g := (mkF m 7 #[rv a1] [(.long (u3 + (1 : Int64))), (.ref a1)])) rfl rfl (hb hby d7_7)
  have f1_Exa_a1 : Exa Z h13 a1 "com/example/chargeweave/chargeweave/Summary" := (E_a1.wr W13)
  have f2_Fld_a1 : Fld Z h13 a1 "com/example/chargeweave/chargeweave/Summary" "_ruleFileErrorsRead" "J" (.long u0) := (F_ruleFileErrorsRead.other W13 (Or.inr (slot_ne (a0 := a0) (C := "com/example/chargeweave/chargeweave/Summary") (Or.inl (hw_22 hw)) (Or.inl (hw_48 hw)) (by decide) (t := .long) (t' := .long) (by decide) (by decide))))
  have f3_Fld_a1 : Fld Z h13 a1 "com/example/chargeweave/chargeweave/Summary" "_ruleFileErrorsOnClaims" "J" (.long u1) := (F_ruleFileErrorsOnClaims.other W13 (Or.inr (slot_ne (a0 := a0) (C := "com/example/chargeweave/chargeweave/Summary") (Or.inl (hw_24 hw)) (Or.inl (hw_48 hw)) (by decide) (t := .long) (t' := .long) (by decide) (by decide))))
  have f4_Fld_a1 : Fld Z h13 a1 "com/example/chargeweave/chargeweave/Summary" "_claimsSplitOff" "J" (.long u2) := (F_claimsSplitOff.other W13 (Or.inr (slot_ne (a0 := a0) (C := "com/example/chargeweave/chargeweave/Summary") (Or.inl (hw_41 hw)) (Or.inl (hw_48 hw)) (by decide) (t := .long) (t' := .long) (by decide) (by decide))))
  have f5_Fld_a1 : Fld Z h13 a1 "com/example/chargeweave/chargeweave/Summary" "_claimsHeld" "J" (.long u4) := (F_claimsHeld.other W13 (Or.inr (slot_ne (a0 := a0) (C := "com/example/chargeweave/chargeweave/Summary") (Or.inl (hw_55 hw)) (Or.inl (hw_48 hw)) (by decide) (t := .long) (t' := .long) (by decide) (by decide))))
  have fw13 : Fld Z h13 a1 "com/example/chargeweave/chargeweave/Summary" "_claimsDiscarded" "J" (.long (u3 + (1 : Int64))) := F_claimsDiscarded.same W13
  have Z13 : n0 ≤ h13.size := Nat.le_trans Z0 (Keep.of_wr W13).1
  have Kp13 : Keep h0 h13 [a1] := K0.wr W13 (Or.inl (List.mem_of_getElem? (i := 0) rfl))
  have N13 := Fr.snoc X13 N0 g_a1
  refine own_step (g' := (mkF m 10 #[rv a1] [])) st13 ?_
  refine own_ret X13 hlk (v := none) (fun _ => rfl) (fun fs hr => X13.returnOut hx hret (hb hby d7_10) hr) ?_ (by decide) (by decide)
  show own_Q7 Z a1 u0 u1 u2 u3 u4 h0 n0 _ T13.heap _
  rw [e13]
  exact ⟨rfl, N13, Kp13, f1_Exa_a1, f2_Fld_a1, f3_Fld_a1, f4_Fld_a1, fw13, f5_Fld_a1⟩
theorem d8_0 : decode prog_13_method_5_code 0 = .ok (.aload_n 0, 1) := by decide +kernel
theorem d8_1 : decode prog_13_method_5_code 1 = .ok (.dup, 1) := by decide +kernel
theorem d8_2 : decode prog_13_method_5_code 2 = .ok (.getfield 35, 3) := by decide +kernel
theorem hw_54 {a0 : Array Value} {Z : State} (hw : ∀ d ∈ tables_1, d.before a0 Z = true) : (Jvm.Cond.fieldLink "com/example/chargeweave/chargeweave/Summary" (35 : Nat) "com/example/chargeweave/chargeweave/Summary" "_claimsHeld" "J").before a0 Z = true := hw _ (List.mem_of_getElem? (i := 54) rfl)
theorem d8_5 : decode prog_13_method_5_code 5 = .ok (.lconst 1, 1) := by decide +kernel
theorem d8_6 : decode prog_13_method_5_code 6 = .ok (.ladd, 1) := by decide +kernel
theorem d8_7 : decode prog_13_method_5_code 7 = .ok (.putfield 35, 3) := by decide +kernel
theorem d8_10 : decode prog_13_method_5_code 10 = .ok (.return_, 1) := by decide +kernel
theorem own_ef8 (m : MethodId) (a1 : Addr) : entryFrame m #[(.ref a1)] 1 = mkF m 0 #[rv a1] [] := by first | (simp [entryFrame, mkF, argsToLocals, Value.category]; done) | rfl
def own_Q8 (Z : State) (a1 : Addr) (u0 : Int64) (u1 : Int64) (u2 : Int64) (u3 : Int64) (u4 : Int64) (h0 : Heap) (n0 : Nat) (v : Option Value) (h : Heap) (L : List Loc) : Prop := v = none ∧ Fr n0 L ∧ Keep h0 h [a1] ∧ Exa Z h a1 "com/example/chargeweave/chargeweave/Summary" ∧ Fld Z h a1 "com/example/chargeweave/chargeweave/Summary" "_ruleFileErrorsRead" "J" (.long u0) ∧ Fld Z h a1 "com/example/chargeweave/chargeweave/Summary" "_ruleFileErrorsOnClaims" "J" (.long u1) ∧ Fld Z h a1 "com/example/chargeweave/chargeweave/Summary" "_claimsSplitOff" "J" (.long u2) ∧ Fld Z h a1 "com/example/chargeweave/chargeweave/Summary" "_claimsDiscarded" "J" (.long u3) ∧ Fld Z h a1 "com/example/chargeweave/chargeweave/Summary" "_claimsHeld" "J" (.long (u4 + (1 : Int64)))
set_option maxRecDepth 65536 in
set_option maxHeartbeats 40000000 in
theorem own_rm8 (l : Launch) (Z : State) (a0 : Array Value) (hw : ∀ d ∈ tables_1, d.before a0 Z = true) (ws : List Jvm.Cond) (a1 : Addr) (u0 : Int64) (u1 : Int64) (u2 : Int64) (u3 : Int64) (u4 : Int64) (h0 : Heap) (n0 : Nat) (Z0 : n0 ≤ h0.size) (E_a1 : Exa Z h0 a1 "com/example/chargeweave/chargeweave/Summary") (g_a1 : n0 ≤ a1) (F_ruleFileErrorsRead : Fld Z h0 a1 "com/example/chargeweave/chargeweave/Summary" "_ruleFileErrorsRead" "J" (.long u0)) (F_ruleFileErrorsOnClaims : Fld Z h0 a1 "com/example/chargeweave/chargeweave/Summary" "_ruleFileErrorsOnClaims" "J" (.long u1)) (F_claimsSplitOff : Fld Z h0 a1 "com/example/chargeweave/chargeweave/Summary" "_claimsSplitOff" "J" (.long u2)) (F_claimsDiscarded : Fld Z h0 a1 "com/example/chargeweave/chargeweave/Summary" "_claimsDiscarded" "J" (.long u3)) (F_claimsHeld : Fld Z h0 a1 "com/example/chargeweave/chargeweave/Summary" "_claimsHeld" "J" (.long u4)) :
    MetFree l (⟨"com/example/chargeweave/chargeweave/Summary", "claimHeld", "()V"⟩ : MethodName) (head1 (Jvm.Cond.code (⟨"com/example/chargeweave/chargeweave/Summary", "claimHeld", "()V"⟩ : MethodName) prog_13_method_5_code 1 none :: ws) ({ frames := 0, cells := 0, slots := 0, locals := 0 } : Room)) (fun a U => a = #[(.ref a1)] ∧ Z.Warmed39 U.vm ∧ U.heap = h0) (fun _ _ _ _ _ => True) (fun _ U o U' => ∃ v L, o = .returned v ∧ own_Q8 Z a1 u0 u1 u2 u3 u4 h0 n0 v U'.heap L ∧ FrameEnd U o U' L ({ frames := 0, cells := 0, slots := 0, locals := 0 } : Room).cells ({ frames := 0, cells := 0, slots := 0, locals := 0 } : Room).slots) := by
  refine own_body (plainFor_of_name pn_1) (fun m => own_ef8 m a1) ?_
  intro p e s m below meth c T0 X0 hx hby hml hZ hown hnm hret hlk e0
  have hown : s.vm.findClass "com/example/chargeweave/chargeweave/Summary" = some m.cls := hown
  have hnm : meth.name = "claimHeld" := hnm
  have N0 := Fr.nil n0
  have K0 : Keep h0 h0 [a1] := Keep.refl _ _
  refine own_st (mkF m 1 #[rv a1] [(.ref a1)]) (fun t k => XS.aloadN X0.here hx rfl (hb hby d8_0) rfl rfl k) ?_
  refine own_st (mkF m 2 #[rv a1] [(.ref a1), (.ref a1)]) (fun t k => XS.dup X0.here hx rfl (hb hby d8_1) rfl rfl k) ?_
  obtain ⟨T14, X14, e14, st14⟩ := getF X0 hx hZ hown (host := "") (Or.inl (hw_54 hw)) Via.refl e0 F_claimsHeld (g := (mkF m 2 #[rv a1] [(.ref a1), (.ref a1)])) rfl rfl (hb hby d8_2)
  refine own_step (g' := (mkF m 5 #[rv a1] [(.long u4), (.ref a1)])) st14 ?_
  refine own_st (mkF m 6 #[rv a1] [(.long (1 : Int64)), (.long u4), (.ref a1)]) (fun t k => XS.lconst X14.here hx rfl (hb hby d8_5) k) ?_
  refine own_st (mkF m 7 #[rv a1] [(.long (u4 + (1 : Int64))), (.ref a1)]) (fun t k => XS.ladd X14.here hx rfl (hb hby d8_6) rfl k) ?_
  obtain ⟨T15, h15, X15, e15, W15, st15⟩ := putF X14 hx hZ hown (host := "") (Or.inl (hw_54 hw)) Via.refl e14 F_claimsHeld E_a1 (Or.inl (hw_55 hw)) (hw_2 hw) (ty := .long) (by decide) rfl rfl (g := (mkF m 7 #[rv a1] [(.long (u4 + (1 : Int64))), (.ref a1)])) rfl rfl (hb hby d8_7)
  have f1_Exa_a1 : Exa Z h15 a1 "com/example/chargeweave/chargeweave/Summary" := (E_a1.wr W15)
  have f2_Fld_a1 : Fld Z h15 a1 "com/example/chargeweave/chargeweave/Summary" "_ruleFileErrorsRead" "J" (.long u0) := (F_ruleFileErrorsRead.other W15 (Or.inr (slot_ne (a0 := a0) (C := "com/example/chargeweave/chargeweave/Summary") (Or.inl (hw_22 hw)) (Or.inl (hw_55 hw)) (by decide) (t := .long) (t' := .long) (by decide) (by decide))))
  have f3_Fld_a1 : Fld Z h15 a1 "com/example/chargeweave/chargeweave/Summary" "_ruleFileErrorsOnClaims" "J" (.long u1) := (F_ruleFileErrorsOnClaims.other W15 (Or.inr (slot_ne (a0 := a0) (C := "com/example/chargeweave/chargeweave/Summary") (Or.inl (hw_24 hw)) (Or.inl (hw_55 hw)) (by decide) (t := .long) (t' := .long) (by decide) (by decide))))
  have f4_Fld_a1 : Fld Z h15 a1 "com/example/chargeweave/chargeweave/Summary" "_claimsSplitOff" "J" (.long u2) := (F_claimsSplitOff.other W15 (Or.inr (slot_ne (a0 := a0) (C := "com/example/chargeweave/chargeweave/Summary") (Or.inl (hw_41 hw)) (Or.inl (hw_55 hw)) (by decide) (t := .long) (t' := .long) (by decide) (by decide))))
  have f5_Fld_a1 : Fld Z h15 a1 "com/example/chargeweave/chargeweave/Summary" "_claimsDiscarded" "J" (.long u3) := (F_claimsDiscarded.other W15 (Or.inr (slot_ne (a0 := a0) (C := "com/example/chargeweave/chargeweave/Summary") (Or.inl (hw_48 hw)) (Or.inl (hw_55 hw)) (by decide) (t := .long) (t' := .long) (by decide) (by decide))))
  have fw15 : Fld Z h15 a1 "com/example/chargeweave/chargeweave/Summary" "_claimsHeld" "J" (.long (u4 + (1 : Int64))) := F_claimsHeld.same W15
  have Z15 : n0 ≤ h15.size := Nat.le_trans Z0 (Keep.of_wr W15).1
  have Kp15 : Keep h0 h15 [a1] := K0.wr W15 (Or.inl (List.mem_of_getElem? (i := 0) rfl))
  have N15 := Fr.snoc X15 N0 g_a1
  refine own_step (g' := (mkF m 10 #[rv a1] [])) st15 ?_
  refine own_ret X15 hlk (v := none) (fun _ => rfl) (fun fs hr => X15.returnOut hx hret (hb hby d8_10) hr) ?_ (by decide) (by decide)
  show own_Q8 Z a1 u0 u1 u2 u3 u4 h0 n0 _ T15.heap _
  rw [e15]
  exact ⟨rfl, N15, Kp15, f1_Exa_a1, f2_Fld_a1, f3_Fld_a1, f4_Fld_a1, f5_Fld_a1, fw15⟩
theorem d3_0 : decode prog_13_method_9_code 0 = .ok (.aload_n 0, 1) := by decide +kernel
theorem d3_1 : decode prog_13_method_9_code 1 = .ok (.getfield 41, 3) := by decide +kernel
theorem d3_4 : decode prog_13_method_9_code 4 = .ok (.aload_n 0, 1) := by decide +kernel
theorem d3_5 : decode prog_13_method_9_code 5 = .ok (.getfield 44, 3) := by decide +kernel
theorem d3_8 : decode prog_13_method_9_code 8 = .ok (.ladd, 1) := by decide +kernel
theorem d3_9 : decode prog_13_method_9_code 9 = .ok (.lconst 0, 1) := by decide +kernel
theorem d3_10 : decode prog_13_method_9_code 10 = .ok (.lcmp, 1) := by decide +kernel
theorem d3_11 : decode prog_13_method_9_code 11 = .ok (.ifCond .le 7, 3) := by decide +kernel
theorem d3_14 : decode prog_13_method_9_code 14 = .ok (.iconst 1, 1) := by decide +kernel
theorem d3_15 : decode prog_13_method_9_code 15 = .ok (.goto 4, 3) := by decide +kernel
theorem d3_19 : decode prog_13_method_9_code 19 = .ok (.ireturn, 1) := by decide +kernel
theorem d3_18 : decode prog_13_method_9_code 18 = .ok (.iconst 0, 1) := by decide +kernel
theorem own_ef3 (m : MethodId) (a1 : Addr) : entryFrame m #[(.ref a1)] 1 = mkF m 0 #[rv a1] [] := by first | (simp [entryFrame, mkF, argsToLocals, Value.category]; done) | rfl
def own_Q3 (Z : State) (a1 : Addr) (u0 : Int64) (u1 : Int64) (h0 : Heap) (n0 : Nat) (v : Option Value) (h : Heap) (L : List Loc) : Prop := v = some (.int (own_err u0 u1)) ∧ Fr n0 L ∧ h = h0
set_option maxRecDepth 65536 in
set_option maxHeartbeats 40000000 in
theorem own_rm3 (l : Launch) (Z : State) (a0 : Array Value) (hw : ∀ d ∈ tables_1, d.before a0 Z = true) (ws : List Jvm.Cond) (a1 : Addr) (u0 : Int64) (u1 : Int64) (h0 : Heap) (n0 : Nat) (Z0 : n0 ≤ h0.size) (F0 : Fld Z h0 a1 "com/example/chargeweave/chargeweave/Summary" "_ruleFileErrorsRead" "J" (.long u0)) (F1 : Fld Z h0 a1 "com/example/chargeweave/chargeweave/Summary" "_ruleFileErrorsOnClaims" "J" (.long u1)) :
    MetFree l (⟨"com/example/chargeweave/chargeweave/Summary", "hasRuleFileErrors", "()Z"⟩ : MethodName) (head1 (Jvm.Cond.code (⟨"com/example/chargeweave/chargeweave/Summary", "hasRuleFileErrors", "()Z"⟩ : MethodName) prog_13_method_9_code 1 (some .boolean) :: ws) ({ frames := 0, cells := 0, slots := 0, locals := 0 } : Room)) (fun a U => a = #[(.ref a1)] ∧ Z.Warmed39 U.vm ∧ U.heap = h0) (fun _ _ _ _ _ => True) (fun _ U o U' => ∃ v L, o = .returned v ∧ own_Q3 Z a1 u0 u1 h0 n0 v U'.heap L ∧ FrameEnd U o U' L ({ frames := 0, cells := 0, slots := 0, locals := 0 } : Room).cells ({ frames := 0, cells := 0, slots := 0, locals := 0 } : Room).slots) := by
  refine own_body (plainFor_of_name pn_1) (fun m => own_ef3 m a1) ?_
  intro p e s m below meth c T0 X0 hx hby hml hZ hown hnm hret hlk e0
  have hown : s.vm.findClass "com/example/chargeweave/chargeweave/Summary" = some m.cls := hown
  have hnm : meth.name = "hasRuleFileErrors" := hnm
  have N0 := Fr.nil n0
  refine own_st (mkF m 1 #[rv a1] [(.ref a1)]) (fun t k => XS.aloadN X0.here hx rfl (hb hby d3_0) rfl rfl k) ?_
  obtain ⟨T16, X16, e16, st16⟩ := getF X0 hx hZ hown (host := "") (Or.inl (hw_21 hw)) Via.refl e0 F0 (g := (mkF m 1 #[rv a1] [(.ref a1)])) rfl rfl (hb hby d3_1)
  refine own_step (g' := (mkF m 4 #[rv a1] [(.long u0)])) st16 ?_
  refine own_st (mkF m 5 #[rv a1] [(.ref a1), (.long u0)]) (fun t k => XS.aloadN X16.here hx rfl (hb hby d3_4) rfl rfl k) ?_
  obtain ⟨T17, X17, e17, st17⟩ := getF X16 hx hZ hown (host := "") (Or.inl (hw_23 hw)) Via.refl e16 F1 (g := (mkF m 5 #[rv a1] [(.ref a1), (.long u0)])) rfl rfl (hb hby d3_5)
  refine own_step (g' := (mkF m 8 #[rv a1] [(.long u1), (.long u0)])) st17 ?_
  refine own_st (mkF m 9 #[rv a1] [(.long (u0 + u1))]) (fun t k => XS.ladd X17.here hx rfl (hb hby d3_8) rfl k) ?_
  refine own_st (mkF m 10 #[rv a1] [(.long (0 : Int64)), (.long (u0 + u1))]) (fun t k => XS.lconst X17.here hx rfl (hb hby d3_9) k) ?_
  refine own_st (mkF m 11 #[rv a1] [(.int (lcmpW (u0 + u1) (0 : Int64)))]) (fun t k => XS.lcmp X17.here hx rfl (hb hby d3_10) rfl k) ?_
  by_cases hc18 : (0 : Int64) < (u0 + u1)
  · refine own_st (mkF m 14 #[rv a1] []) (fun t k => XS.ifNo X17.here hx rfl (hb hby d3_11) rfl (own_lle0 hc18) k) ?_
    refine own_st (mkF m 15 #[rv a1] [(.int (1 : Int32))]) (fun t k => XS.iconst X17.here hx rfl (hb hby d3_14) k) ?_
    refine own_st (mkF m 19 #[rv a1] [(.int (1 : Int32))]) (fun t k => XS.goto X17.here hx rfl (pc0 := 15) (pc' := 19) rfl (hb hby d3_15) (by decide) (by decide) k) ?_
    refine own_ret X17 hlk (v := some (.int (1 : Int32))) (fun h => by rw [hret] at h; cases h) (fun fs hr => retN X17 hx (t := .boolean) hret (by simp) (hb hby d3_19) hr) ?_ (by decide) (by decide)
    show own_Q3 Z a1 u0 u1 h0 n0 _ T17.heap _
    rw [e17]
    exact ⟨congrArg (fun z => some (Value.int z)) (by simp [own_err, hc18] : (1 : Int32) = own_err u0 u1), N0, rfl⟩
  · refine own_st (mkF m 18 #[rv a1] []) (fun t k => XS.ifYes X17.here hx rfl (pc0 := 11) (pc' := 18) rfl (hb hby d3_11) rfl (own_lle1 hc18) (by decide) (by decide) k) ?_
    refine own_st (mkF m 19 #[rv a1] [(.int (0 : Int32))]) (fun t k => XS.iconst X17.here hx rfl (hb hby d3_18) k) ?_
    refine own_ret X17 hlk (v := some (.int (0 : Int32))) (fun h => by rw [hret] at h; cases h) (fun fs hr => retN X17 hx (t := .boolean) hret (by simp) (hb hby d3_19) hr) ?_ (by decide) (by decide)
    show own_Q3 Z a1 u0 u1 h0 n0 _ T17.heap _
    rw [e17]
    exact ⟨congrArg (fun z => some (Value.int z)) (by simp [own_err, hc18] : (0 : Int32) = own_err u0 u1), N0, rfl⟩
theorem hw_1 {a0 : Array Value} {Z : State} (hw : ∀ d ∈ tables_1, d.before a0 Z = true) : (Jvm.Cond.classLink "com/example/chargeweave/chargeweave/SummaryHasRuleFileErrorsPinLaw" (8 : Nat) "com/example/chargeweave/chargeweave/Summary").before a0 Z = true := hw _ (List.mem_of_getElem? (i := 1) rfl)
theorem hw_3 {a0 : Array Value} {Z : State} (hw : ∀ d ∈ tables_1, d.before a0 Z = true) : (Jvm.Cond.initialized "com/example/chargeweave/chargeweave/Summary").before a0 Z = true := hw _ (List.mem_of_getElem? (i := 3) rfl)
theorem hw_4 {a0 : Array Value} {Z : State} (hw : ∀ d ∈ tables_1, d.before a0 Z = true) : (Jvm.Cond.methodLink "com/example/chargeweave/chargeweave/SummaryHasRuleFileErrorsPinLaw" (10 : Nat) ({ cls := "com/example/chargeweave/chargeweave/Summary", name := "<init>", desc := "()V" } : Jvm.MethodName)).before a0 Z = true := hw _ (List.mem_of_getElem? (i := 4) rfl)
theorem hw_6 {a0 : Array Value} {Z : State} (hw : ∀ d ∈ tables_1, d.before a0 Z = true) : (Jvm.Cond.code ({ cls := "com/example/chargeweave/chargeweave/Summary", name := "<init>", desc := "()V" } : Jvm.MethodName) prog_13_method_1_code (1 : Nat) (Option.none : Option Jvm.ClassFile.FieldType)).before a0 Z = true := hw _ (List.mem_of_getElem? (i := 6) rfl)
theorem pd_0 : parseMethodDescriptor "()V" = some ⟨[], none⟩ := by decide +kernel
theorem hw_5 {a0 : Array Value} {Z : State} (hw : ∀ d ∈ tables_1, d.before a0 Z = true) : (Jvm.Cond.instanceMethod ({ cls := "com/example/chargeweave/chargeweave/Summary", name := "<init>", desc := "()V" } : Jvm.MethodName)).before a0 Z = true := hw _ (List.mem_of_getElem? (i := 5) rfl)
theorem hw_16 {a0 : Array Value} {Z : State} (hw : ∀ d ∈ tables_1, d.before a0 Z = true) : (Jvm.Cond.methodLink "com/example/chargeweave/chargeweave/SummaryHasRuleFileErrorsPinLaw" (11 : Nat) ({ cls := "com/example/chargeweave/chargeweave/Summary", name := "hasRuleFileErrors", desc := "()Z" } : Jvm.MethodName)).before a0 Z = true := hw _ (List.mem_of_getElem? (i := 16) rfl)
theorem hw_20 {a0 : Array Value} {Z : State} (hw : ∀ d ∈ tables_1, d.before a0 Z = true) : (Jvm.Cond.code ({ cls := "com/example/chargeweave/chargeweave/Summary", name := "hasRuleFileErrors", desc := "()Z" } : Jvm.MethodName) prog_13_method_9_code (1 : Nat) (Option.some Jvm.ClassFile.FieldType.boolean)).before a0 Z = true := hw _ (List.mem_of_getElem? (i := 20) rfl)
theorem pd_1 : parseMethodDescriptor "()Z" = some ⟨[], some .boolean⟩ := by decide +kernel
theorem hw_19 {a0 : Array Value} {Z : State} (hw : ∀ d ∈ tables_1, d.before a0 Z = true) : (Jvm.Cond.selects "com/example/chargeweave/chargeweave/Summary" ({ cls := "com/example/chargeweave/chargeweave/Summary", name := "hasRuleFileErrors", desc := "()Z" } : Jvm.MethodName) ({ cls := "com/example/chargeweave/chargeweave/Summary", name := "hasRuleFileErrors", desc := "()Z" } : Jvm.MethodName)).before a0 Z = true := hw _ (List.mem_of_getElem? (i := 19) rfl)
theorem hw_17 {a0 : Array Value} {Z : State} (hw : ∀ d ∈ tables_1, d.before a0 Z = true) : (Jvm.Cond.declares ({ cls := "com/example/chargeweave/chargeweave/Summary", name := "hasRuleFileErrors", desc := "()Z" } : Jvm.MethodName)).before a0 Z = true := hw _ (List.mem_of_getElem? (i := 17) rfl)
theorem hw_18 {a0 : Array Value} {Z : State} (hw : ∀ d ∈ tables_1, d.before a0 Z = true) : (Jvm.Cond.instanceMethod ({ cls := "com/example/chargeweave/chargeweave/Summary", name := "hasRuleFileErrors", desc := "()Z" } : Jvm.MethodName)).before a0 Z = true := hw _ (List.mem_of_getElem? (i := 18) rfl)
theorem hw_35 {a0 : Array Value} {Z : State} (hw : ∀ d ∈ tables_1, d.before a0 Z = true) : (Jvm.Cond.methodLink "com/example/chargeweave/chargeweave/SummaryHasRuleFileErrorsPinLaw" (22 : Nat) ({ cls := "com/example/chargeweave/chargeweave/Summary", name := "claimsSplitOff", desc := "(I)V" } : Jvm.MethodName)).before a0 Z = true := hw _ (List.mem_of_getElem? (i := 35) rfl)
theorem hw_39 {a0 : Array Value} {Z : State} (hw : ∀ d ∈ tables_1, d.before a0 Z = true) : (Jvm.Cond.code ({ cls := "com/example/chargeweave/chargeweave/Summary", name := "claimsSplitOff", desc := "(I)V" } : Jvm.MethodName) prog_13_method_3_code (2 : Nat) (Option.none : Option Jvm.ClassFile.FieldType)).before a0 Z = true := hw _ (List.mem_of_getElem? (i := 39) rfl)
theorem pd_2 : parseMethodDescriptor "(I)V" = some ⟨[.int], none⟩ := by decide +kernel
theorem hw_38 {a0 : Array Value} {Z : State} (hw : ∀ d ∈ tables_1, d.before a0 Z = true) : (Jvm.Cond.selects "com/example/chargeweave/chargeweave/Summary" ({ cls := "com/example/chargeweave/chargeweave/Summary", name := "claimsSplitOff", desc := "(I)V" } : Jvm.MethodName) ({ cls := "com/example/chargeweave/chargeweave/Summary", name := "claimsSplitOff", desc := "(I)V" } : Jvm.MethodName)).before a0 Z = true := hw _ (List.mem_of_getElem? (i := 38) rfl)
theorem hw_36 {a0 : Array Value} {Z : State} (hw : ∀ d ∈ tables_1, d.before a0 Z = true) : (Jvm.Cond.declares ({ cls := "com/example/chargeweave/chargeweave/Summary", name := "claimsSplitOff", desc := "(I)V" } : Jvm.MethodName)).before a0 Z = true := hw _ (List.mem_of_getElem? (i := 36) rfl)
theorem hw_37 {a0 : Array Value} {Z : State} (hw : ∀ d ∈ tables_1, d.before a0 Z = true) : (Jvm.Cond.instanceMethod ({ cls := "com/example/chargeweave/chargeweave/Summary", name := "claimsSplitOff", desc := "(I)V" } : Jvm.MethodName)).before a0 Z = true := hw _ (List.mem_of_getElem? (i := 37) rfl)
theorem hw_42 {a0 : Array Value} {Z : State} (hw : ∀ d ∈ tables_1, d.before a0 Z = true) : (Jvm.Cond.methodLink "com/example/chargeweave/chargeweave/SummaryHasRuleFileErrorsPinLaw" (25 : Nat) ({ cls := "com/example/chargeweave/chargeweave/Summary", name := "claimDiscarded", desc := "()V" } : Jvm.MethodName)).before a0 Z = true := hw _ (List.mem_of_getElem? (i := 42) rfl)
theorem hw_46 {a0 : Array Value} {Z : State} (hw : ∀ d ∈ tables_1, d.before a0 Z = true) : (Jvm.Cond.code ({ cls := "com/example/chargeweave/chargeweave/Summary", name := "claimDiscarded", desc := "()V" } : Jvm.MethodName) prog_13_method_4_code (1 : Nat) (Option.none : Option Jvm.ClassFile.FieldType)).before a0 Z = true := hw _ (List.mem_of_getElem? (i := 46) rfl)
theorem hw_45 {a0 : Array Value} {Z : State} (hw : ∀ d ∈ tables_1, d.before a0 Z = true) : (Jvm.Cond.selects "com/example/chargeweave/chargeweave/Summary" ({ cls := "com/example/chargeweave/chargeweave/Summary", name := "claimDiscarded", desc := "()V" } : Jvm.MethodName) ({ cls := "com/example/chargeweave/chargeweave/Summary", name := "claimDiscarded", desc := "()V" } : Jvm.MethodName)).before a0 Z = true := hw _ (List.mem_of_getElem? (i := 45) rfl)
theorem hw_43 {a0 : Array Value} {Z : State} (hw : ∀ d ∈ tables_1, d.before a0 Z = true) : (Jvm.Cond.declares ({ cls := "com/example/chargeweave/chargeweave/Summary", name := "claimDiscarded", desc := "()V" } : Jvm.MethodName)).before a0 Z = true := hw _ (List.mem_of_getElem? (i := 43) rfl)
theorem hw_44 {a0 : Array Value} {Z : State} (hw : ∀ d ∈ tables_1, d.before a0 Z = true) : (Jvm.Cond.instanceMethod ({ cls := "com/example/chargeweave/chargeweave/Summary", name := "claimDiscarded", desc := "()V" } : Jvm.MethodName)).before a0 Z = true := hw _ (List.mem_of_getElem? (i := 44) rfl)
theorem hw_49 {a0 : Array Value} {Z : State} (hw : ∀ d ∈ tables_1, d.before a0 Z = true) : (Jvm.Cond.methodLink "com/example/chargeweave/chargeweave/SummaryHasRuleFileErrorsPinLaw" (28 : Nat) ({ cls := "com/example/chargeweave/chargeweave/Summary", name := "claimHeld", desc := "()V" } : Jvm.MethodName)).before a0 Z = true := hw _ (List.mem_of_getElem? (i := 49) rfl)
theorem hw_53 {a0 : Array Value} {Z : State} (hw : ∀ d ∈ tables_1, d.before a0 Z = true) : (Jvm.Cond.code ({ cls := "com/example/chargeweave/chargeweave/Summary", name := "claimHeld", desc := "()V" } : Jvm.MethodName) prog_13_method_5_code (1 : Nat) (Option.none : Option Jvm.ClassFile.FieldType)).before a0 Z = true := hw _ (List.mem_of_getElem? (i := 53) rfl)
theorem hw_52 {a0 : Array Value} {Z : State} (hw : ∀ d ∈ tables_1, d.before a0 Z = true) : (Jvm.Cond.selects "com/example/chargeweave/chargeweave/Summary" ({ cls := "com/example/chargeweave/chargeweave/Summary", name := "claimHeld", desc := "()V" } : Jvm.MethodName) ({ cls := "com/example/chargeweave/chargeweave/Summary", name := "claimHeld", desc := "()V" } : Jvm.MethodName)).before a0 Z = true := hw _ (List.mem_of_getElem? (i := 52) rfl)
theorem hw_50 {a0 : Array Value} {Z : State} (hw : ∀ d ∈ tables_1, d.before a0 Z = true) : (Jvm.Cond.declares ({ cls := "com/example/chargeweave/chargeweave/Summary", name := "claimHeld", desc := "()V" } : Jvm.MethodName)).before a0 Z = true := hw _ (List.mem_of_getElem? (i := 50) rfl)
theorem hw_51 {a0 : Array Value} {Z : State} (hw : ∀ d ∈ tables_1, d.before a0 Z = true) : (Jvm.Cond.instanceMethod ({ cls := "com/example/chargeweave/chargeweave/Summary", name := "claimHeld", desc := "()V" } : Jvm.MethodName)).before a0 Z = true := hw _ (List.mem_of_getElem? (i := 51) rfl)
theorem hw_30 {a0 : Array Value} {Z : State} (hw : ∀ d ∈ tables_1, d.before a0 Z = true) : (Jvm.Cond.methodLink "com/example/chargeweave/chargeweave/SummaryHasRuleFileErrorsPinLaw" (15 : Nat) ({ cls := "com/example/chargeweave/chargeweave/Summary", name := "ruleFileErrorsRead", desc := "(I)V" } : Jvm.MethodName)).before a0 Z = true := hw _ (List.mem_of_getElem? (i := 30) rfl)
theorem hw_34 {a0 : Array Value} {Z : State} (hw : ∀ d ∈ tables_1, d.before a0 Z = true) : (Jvm.Cond.code ({ cls := "com/example/chargeweave/chargeweave/Summary", name := "ruleFileErrorsRead", desc := "(I)V" } : Jvm.MethodName) prog_13_method_7_code (2 : Nat) (Option.none : Option Jvm.ClassFile.FieldType)).before a0 Z = true := hw _ (List.mem_of_getElem? (i := 34) rfl)
theorem hw_33 {a0 : Array Value} {Z : State} (hw : ∀ d ∈ tables_1, d.before a0 Z = true) : (Jvm.Cond.selects "com/example/chargeweave/chargeweave/Summary" ({ cls := "com/example/chargeweave/chargeweave/Summary", name := "ruleFileErrorsRead", desc := "(I)V" } : Jvm.MethodName) ({ cls := "com/example/chargeweave/chargeweave/Summary", name := "ruleFileErrorsRead", desc := "(I)V" } : Jvm.MethodName)).before a0 Z = true := hw _ (List.mem_of_getElem? (i := 33) rfl)
theorem hw_31 {a0 : Array Value} {Z : State} (hw : ∀ d ∈ tables_1, d.before a0 Z = true) : (Jvm.Cond.declares ({ cls := "com/example/chargeweave/chargeweave/Summary", name := "ruleFileErrorsRead", desc := "(I)V" } : Jvm.MethodName)).before a0 Z = true := hw _ (List.mem_of_getElem? (i := 31) rfl)
theorem hw_32 {a0 : Array Value} {Z : State} (hw : ∀ d ∈ tables_1, d.before a0 Z = true) : (Jvm.Cond.instanceMethod ({ cls := "com/example/chargeweave/chargeweave/Summary", name := "ruleFileErrorsRead", desc := "(I)V" } : Jvm.MethodName)).before a0 Z = true := hw _ (List.mem_of_getElem? (i := 32) rfl)
theorem hw_25 {a0 : Array Value} {Z : State} (hw : ∀ d ∈ tables_1, d.before a0 Z = true) : (Jvm.Cond.methodLink "com/example/chargeweave/chargeweave/SummaryHasRuleFileErrorsPinLaw" (19 : Nat) ({ cls := "com/example/chargeweave/chargeweave/Summary", name := "ruleFileErrorOnClaim", desc := "()V" } : Jvm.MethodName)).before a0 Z = true := hw _ (List.mem_of_getElem? (i := 25) rfl)
theorem hw_29 {a0 : Array Value} {Z : State} (hw : ∀ d ∈ tables_1, d.before a0 Z = true) : (Jvm.Cond.code ({ cls := "com/example/chargeweave/chargeweave/Summary", name := "ruleFileErrorOnClaim", desc := "()V" } : Jvm.MethodName) prog_13_method_8_code (1 : Nat) (Option.none : Option Jvm.ClassFile.FieldType)).before a0 Z = true := hw _ (List.mem_of_getElem? (i := 29) rfl)
theorem hw_28 {a0 : Array Value} {Z : State} (hw : ∀ d ∈ tables_1, d.before a0 Z = true) : (Jvm.Cond.selects "com/example/chargeweave/chargeweave/Summary" ({ cls := "com/example/chargeweave/chargeweave/Summary", name := "ruleFileErrorOnClaim", desc := "()V" } : Jvm.MethodName) ({ cls := "com/example/chargeweave/chargeweave/Summary", name := "ruleFileErrorOnClaim", desc := "()V" } : Jvm.MethodName)).before a0 Z = true := hw _ (List.mem_of_getElem? (i := 28) rfl)
theorem hw_26 {a0 : Array Value} {Z : State} (hw : ∀ d ∈ tables_1, d.before a0 Z = true) : (Jvm.Cond.declares ({ cls := "com/example/chargeweave/chargeweave/Summary", name := "ruleFileErrorOnClaim", desc := "()V" } : Jvm.MethodName)).before a0 Z = true := hw _ (List.mem_of_getElem? (i := 26) rfl)
theorem hw_27 {a0 : Array Value} {Z : State} (hw : ∀ d ∈ tables_1, d.before a0 Z = true) : (Jvm.Cond.instanceMethod ({ cls := "com/example/chargeweave/chargeweave/Summary", name := "ruleFileErrorOnClaim", desc := "()V" } : Jvm.MethodName)).before a0 Z = true := hw _ (List.mem_of_getElem? (i := 27) rfl)
theorem hw_0 {a0 : Array Value} {Z : State} (hw : ∀ d ∈ tables_1, d.before a0 Z = true) : (Jvm.Cond.constant "com/example/chargeweave/chargeweave/SummaryHasRuleFileErrorsPinLaw" (7 : Nat) (2147483647 : Int32)).before a0 Z = true := hw _ (List.mem_of_getElem? (i := 0) rfl)
theorem pn_0 : plainName "com/example/chargeweave/chargeweave/SummaryHasRuleFileErrorsPinLaw" = true := by first | (simp [plainName, overriddenIn]; done) | decide +kernel
theorem own_ef0 (m : MethodId) (p1 : Int32) (p2 : Int32) (p3 : Int32) (p4 : Int32) : entryFrame m #[(.int p1), (.int p2), (.int p3), (.int p4)] maxLocals = mkF m 0 #[iv p1, iv p2, iv p3, iv p4, .unset, .unset, .unset, .unset, .unset, .unset, .unset, .unset, .unset] [] := by first | (simp [entryFrame, mkF, argsToLocals, Value.category, maxLocals]; done) | rfl
def own_Q0 (Z : State) (p1 : Int32) (p2 : Int32) (p3 : Int32) (p4 : Int32) (wz : Addr) (h0 : Heap) (n0 : Nat) (v : Option Value) (h : Heap) (L : List Loc) : Prop := v = some (.int 1) ∧ Fr n0 L
set_option maxRecDepth 65536 in
set_option maxHeartbeats 40000000 in
theorem own_rm0 (l : Launch) (Z : State) (a0 : Array Value) (hw : ∀ d ∈ tables_1, d.before a0 Z = true) (ws : List Jvm.Cond) (p1 : Int32) (p2 : Int32) (p3 : Int32) (p4 : Int32) (wz : Addr) (h0 : Heap) (n0 : Nat) (Z0 : n0 ≤ h0.size) (O0 : Old Z n0 h0) (S_wz : Sta Z Z.heap "java/math/BigDecimal" "ZERO" "Ljava/math/BigDecimal;" (.ref wz)) :
    MetFree l x (head1 (Jvm.Cond.code x code maxLocals ret :: ws) room_1) (fun a U => a = #[(.int p1), (.int p2), (.int p3), (.int p4)] ∧ Z.Warmed39 U.vm ∧ U.heap = h0) (fun _ _ _ _ _ => True) (fun _ U o U' => ∃ v L, o = .returned v ∧ own_Q0 Z p1 p2 p3 p4 wz h0 n0 v U'.heap L ∧ FrameEnd U o U' L 16 128) := by
  refine own_body (plainFor_of_name pn_0) (fun m => own_ef0 m p1 p2 p3 p4) ?_
  intro p e s m below meth c T0 X0 hx hby hml hZ hown hnm hret hlk e0
  have hown : s.vm.findClass "com/example/chargeweave/chargeweave/SummaryHasRuleFileErrorsPinLaw" = some m.cls := hown
  have hnm : meth.name = "law" := hnm
  have N0 := Fr.nil n0
  have J17 : ∀ (ra : Int32) (hra : 0 ≤ ra.toInt), own_WP p e below s (own_Q0 Z p1 p2 p3 p4 wz h0 n0) 16 128 T0 (mkF m 17 #[iv p1, iv p2, iv p3, iv p4, iv ra, .unset, .unset, .unset, .unset, .unset, .unset, .unset, .unset] []) := by
    intro ra hra
    have J34 : ∀ (rb : Int32) (hrb : 0 ≤ rb.toInt), own_WP p e below s (own_Q0 Z p1 p2 p3 p4 wz h0 n0) 16 128 T0 (mkF m 34 #[iv p1, iv p2, iv p3, iv p4, iv ra, iv rb, .unset, .unset, .unset, .unset, .unset, .unset, .unset] []) := by
      intro rb hrb
      obtain ⟨T19, h19, X19, e19, E19, A19, D19, -, st19⟩ := newO X0 hx hZ hown (hw_1 hw) (hw_2 hw) (hw_3 hw) e0 (g := (mkF m 34 #[iv p1, iv p2, iv p3, iv p4, iv ra, iv rb, .unset, .unset, .unset, .unset, .unset, .unset, .unset] [])) rfl (hb hby at_34) (by decide) (by decide)
      obtain ⟨b19, g19⟩ : ∃ z, z = h0.size := ⟨_, rfl⟩
      rw [← g19] at A19 D19 st19
      have E_19 : Ext h0 h19 := E19
      have g_b19 : n0 ≤ b19 := Nat.le_trans Z0 (Nat.le_of_eq g19.symm)
      have Z19 : n0 ≤ h19.size := Nat.le_trans Z0 E19.1
      have O19 : Old Z n0 h19 := O0.ext E19
      have F__chargesIn_b19 : Fld Z h19 b19 "com/example/chargeweave/chargeweave/Summary" "_chargesIn" "Ljava/math/BigDecimal;" .null := D19 (Or.inl (hw_13 hw)) (ty := (.object "java/math/BigDecimal")) (by decide)
      have F__chargesOut_b19 : Fld Z h19 b19 "com/example/chargeweave/chargeweave/Summary" "_chargesOut" "Ljava/math/BigDecimal;" .null := D19 (Or.inl (hw_15 hw)) (ty := (.object "java/math/BigDecimal")) (by decide)
      have F__ruleFileErrorsRead_b19 : Fld Z h19 b19 "com/example/chargeweave/chargeweave/Summary" "_ruleFileErrorsRead" "J" (.long (0 : Int64)) := D19 (Or.inl (hw_22 hw)) (ty := .long) (by decide)
      have F__ruleFileErrorsOnClaims_b19 : Fld Z h19 b19 "com/example/chargeweave/chargeweave/Summary" "_ruleFileErrorsOnClaims" "J" (.long (0 : Int64)) := D19 (Or.inl (hw_24 hw)) (ty := .long) (by decide)
      have F__claimsSplitOff_b19 : Fld Z h19 b19 "com/example/chargeweave/chargeweave/Summary" "_claimsSplitOff" "J" (.long (0 : Int64)) := D19 (Or.inl (hw_41 hw)) (ty := .long) (by decide)
      have F__claimsDiscarded_b19 : Fld Z h19 b19 "com/example/chargeweave/chargeweave/Summary" "_claimsDiscarded" "J" (.long (0 : Int64)) := D19 (Or.inl (hw_48 hw)) (ty := .long) (by decide)
      have F__claimsHeld_b19 : Fld Z h19 b19 "com/example/chargeweave/chargeweave/Summary" "_claimsHeld" "J" (.long (0 : Int64)) := D19 (Or.inl (hw_55 hw)) (ty := .long) (by decide)
      refine own_step (g' := (mkF m 37 #[iv p1, iv p2, iv p3, iv p4, iv ra, iv rb, .unset, .unset, .unset, .unset, .unset, .unset, .unset] [(.ref b19)])) st19 ?_
      refine own_st (mkF m 38 #[iv p1, iv p2, iv p3, iv p4, iv ra, iv rb, .unset, .unset, .unset, .unset, .unset, .unset, .unset] [(.ref b19), (.ref b19)]) (fun t k => XS.dup X19.here hx rfl (hb hby at_37) rfl rfl k) ?_
      obtain ⟨_, _, ⟨T20, L20, k20, n20⟩, -, X20, ⟨Lc20, hQ20, l20, y20, z20⟩, st20⟩ := X19.specialBack hx (y := (⟨"com/example/chargeweave/chargeweave/Summary", "<init>", "()V"⟩ : MethodName)) rfl hown (mvT hZ (hw_4 hw)) (mvT hZ (hw_5 hw)) (mvT hZ (hw_6 hw)) (by decide) (backOf (W := 1) (own_rm1 l Z a0 hw [] b19 wz h19 n0 Z19 O19 S_wz A19 g_b19 F__chargesIn_b19 F__chargesOut_b19 F__ruleFileErrorsRead_b19 F__ruleFileErrorsOnClaims_b19 F__claimsSplitOff_b19 F__claimsDiscarded_b19 F__claimsHeld_b19) hZ (hw_6 hw) (hw_3 hw) (by decide) (by decide)) (g := (mkF m 38 #[iv p1, iv p2, iv p3, iv p4, iv ra, iv rb, .unset, .unset, .unset, .unset, .unset, .unset, .unset] [(.ref b19), (.ref b19)])) rfl (by rw [hml]; rfl) (Steps.refl _) (a := b19) (argsL := []) (rest := [(.ref b19)]) (lenOf pd_0 rfl) rfl (by show 2 * 0 + _ ≤ _; exact Nat.le_of_eq rfl) (hb hby at_38) (fun _ _ => ⟨rfl, e19, (by decide : 1 + 0 ≤ _), (by decide : 9 + 0 ≤ _)⟩)
      dsimp only [Pt.U, Pt.locs, Pt.cells, Pt.slots] at X20 l20 y20 z20 st20 hQ20
      subst l20 y20 z20
      obtain ⟨rfl, Nq20, K20, Ex20, Fl20_ruleFileErrorsRead, Fl20_ruleFileErrorsOnClaims, Fl20_claimsSplitOff, Fl20_claimsDiscarded, Fl20_claimsHeld⟩ := hQ20
      have N20 := Fr.app N0 Nq20
      have Z20 : n0 ≤ T20.heap.size := Nat.le_trans Z19 K20.1
      have O20 : Old Z n0 T20.heap := O19.keep K20 (allS g_b19 all0)
      have f1_Exa_b19 : Exa Z T20.heap b19 "com/example/chargeweave/chargeweave/Summary" := (A19.keep K20)
      refine own_jump (g' := (mkF m 41 #[iv p1, iv p2, iv p3, iv p4, iv ra, iv rb, .unset, .unset, .unset, .unset, .unset, .unset, .unset] [(.ref b19)])) st20 ?_
      refine own_st (mkF m 43 #[iv p1, iv p2, iv p3, iv p4, iv ra, iv rb, rv b19, .unset, .unset, .unset, .unset, .unset, .unset] []) (fun t k => XS.astore X20.here hx rfl (hb hby at_41) rfl rfl (l' := #[iv p1, iv p2, iv p3, iv p4, iv ra, iv rb, rv b19, .unset, .unset, .unset, .unset, .unset, .unset]) rfl k) ?_
      refine own_st (mkF m 45 #[iv p1, iv p2, iv p3, iv p4, iv ra, iv rb, rv b19, .unset, .unset, .unset, .unset, .unset, .unset] [(.ref b19)]) (fun t k => XS.aload X20.here hx rfl (hb hby at_43) rfl rfl k) ?_
      obtain ⟨cq21, kq21, q21a, q21b, q21c⟩ := isOf hZ rfl Ex20
      obtain ⟨_, _, ⟨T21, L21, k21, n21⟩, -, X21, ⟨Lc21, hQ21, l21, y21, z21⟩, st21⟩ := X20.virtualBack hx (y := (⟨"com/example/chargeweave/chargeweave/Summary", "hasRuleFileErrors", "()Z"⟩ : MethodName)) (z := (⟨"com/example/chargeweave/chargeweave/Summary", "hasRuleFileErrors", "()Z"⟩ : MethodName)) hown (mvT hZ (hw_16 hw)) (mvT hZ (hw_17 hw)) (notFace_of_selects (args := #[]) (mvT hZ (hw_19 hw))) (mvT hZ (hw_19 hw)) (mvT hZ (hw_18 hw)) (by decide) (backOf (W := 0) (own_rm3 l Z a0 hw [] b19 (0 : Int64) (0 : Int64) T20.heap n0 Z20 Fl20_ruleFileErrorsRead Fl20_ruleFileErrorsOnClaims) hZ (hw_20 hw) (hw_3 hw) (by decide) (by decide)) q21a q21c (g := (mkF m 45 #[iv p1, iv p2, iv p3, iv p4, iv ra, iv rb, rv b19, .unset, .unset, .unset, .unset, .unset, .unset] [(.ref b19)])) rfl (by rw [hml]; rfl) (Steps.refl _) (argsL := []) (rest := []) (lenOf pd_1 rfl) rfl (by show 2 * 0 + _ ≤ _; exact Nat.le_of_eq rfl) (hb hby at_45) (fun _ _ => ⟨rfl, rfl, (by decide : 1 + 0 ≤ _), (by decide : 9 + 0 ≤ _)⟩)
      dsimp only [Pt.U, Pt.locs, Pt.cells, Pt.slots] at X21 l21 y21 z21 st21 hQ21
      subst l21 y21 z21
      obtain ⟨rfl, Nq21, e21⟩ := hQ21
      have N21 := Fr.app N20 Nq21
      refine own_jump (g' := (mkF m 48 #[iv p1, iv p2, iv p3, iv p4, iv ra, iv rb, rv b19, .unset, .unset, .unset, .unset, .unset, .unset] [(.int (own_err (0 : Int64) (0 : Int64)))])) st21 ?_
      rw [show own_err (0 : Int64) (0 : Int64) = (0 : Int32) from by decide]
      refine own_st (mkF m 50 #[iv p1, iv p2, iv p3, iv p4, iv ra, iv rb, rv b19, iv (0 : Int32), .unset, .unset, .unset, .unset, .unset] []) (fun t k => XS.istore X21.here hx rfl (hb hby at_48) rfl (l' := #[iv p1, iv p2, iv p3, iv p4, iv ra, iv rb, rv b19, iv (0 : Int32), .unset, .unset, .unset, .unset, .unset]) rfl k) ?_
      refine own_st (mkF m 51 #[iv p1, iv p2, iv p3, iv p4, iv ra, iv rb, rv b19, iv (0 : Int32), .unset, .unset, .unset, .unset, .unset] [(.long (0 : Int64))]) (fun t k => XS.lconst X21.here hx rfl (hb hby at_50) k) ?_
      refine own_st (mkF m 53 #[iv p1, iv p2, iv p3, iv p4, iv ra, iv rb, rv b19, iv (0 : Int32), jv (0 : Int64), .second, .unset, .unset, .unset] []) (fun t k => XS.lstore X21.here hx rfl (hb hby at_51) rfl (l' := #[iv p1, iv p2, iv p3, iv p4, iv ra, iv rb, rv b19, iv (0 : Int32), jv (0 : Int64), .second, .unset, .unset, .unset]) rfl k) ?_
      refine own_st (mkF m 54 #[iv p1, iv p2, iv p3, iv p4, iv ra, iv rb, rv b19, iv (0 : Int32), jv (0 : Int64), .second, .unset, .unset, .unset] [(.long (0 : Int64))]) (fun t k => XS.lconst X21.here hx rfl (hb hby at_53) k) ?_
      refine own_st (mkF m 56 #[iv p1, iv p2, iv p3, iv p4, iv ra, iv rb, rv b19, iv (0 : Int32), jv (0 : Int64), .second, jv (0 : Int64), .second, .unset] []) (fun t k => XS.lstore X21.here hx rfl (hb hby at_54) rfl (l' := #[iv p1, iv p2, iv p3, iv p4, iv ra, iv rb, rv b19, iv (0 : Int32), jv (0 : Int64), .second, jv (0 : Int64), .second, .unset]) rfl k) ?_
      have J156 : ∀ (Tj156 : State) (hj156 : Heap) (Lj156 : List Loc) (rdj156 ocj156 u2j156 u3j156 u4j156 : Int64) (Xj156 : Stand p l e room_1 s m #[(.int p1), (.int p2), (.int p3), (.int p4)] below meth c Tj156 Lj156 1 9) (ej156 : Tj156.heap = hj156) (Zj156 : n0 ≤ hj156.size) (Nj156 : Fr n0 Lj156) (Bj156 : own_B 5 rdj156 ocj156) (Exj156 : Exa Z hj156 b19 "com/example/chargeweave/chargeweave/Summary") (Fj156_ruleFileErrorsRead : Fld Z hj156 b19 "com/example/chargeweave/chargeweave/Summary" "_ruleFileErrorsRead" "J" (.long rdj156)) (Fj156_ruleFileErrorsOnClaims : Fld Z hj156 b19 "com/example/chargeweave/chargeweave/Summary" "_ruleFileErrorsOnClaims" "J" (.long ocj156)) (Fj156_claimsSplitOff : Fld Z hj156 b19 "com/example/chargeweave/chargeweave/Summary" "_claimsSplitOff" "J" (.long u2j156)) (Fj156_claimsDiscarded : Fld Z hj156 b19 "com/example/chargeweave/chargeweave/Summary" "_claimsDiscarded" "J" (.long u3j156)) (Fj156_claimsHeld : Fld Z hj156 b19 "com/example/chargeweave/chargeweave/Summary" "_claimsHeld" "J" (.long u4j156)), own_WP p e below s (own_Q0 Z p1 p2 p3 p4 wz h0 n0) 16 128 Tj156 (mkF m 156 #[iv p1, iv p2, iv p3, iv p4, iv ra, iv rb, rv b19, iv (0 : Int32), jv rdj156, .second, jv ocj156, .second, .unset] []) := by
        intro Tj156 hj156 Lj156 rdj156 ocj156 u2j156 u3j156 u4j156 Xj156 ej156 Zj156 Nj156 Bj156 Exj156 Fj156_ruleFileErrorsRead Fj156_ruleFileErrorsOnClaims Fj156_claimsSplitOff Fj156_claimsDiscarded Fj156_claimsHeld
        refine own_st (mkF m 158 #[iv p1, iv p2, iv p3, iv p4, iv ra, iv rb, rv b19, iv (0 : Int32), jv rdj156, .second, jv ocj156, .second, .unset] [(.long rdj156)]) (fun t k => XS.lload Xj156.here hx rfl (hb hby at_156) rfl k) ?_
        refine own_st (mkF m 159 #[iv p1, iv p2, iv p3, iv p4, iv ra, iv rb, rv b19, iv (0 : Int32), jv rdj156, .second, jv ocj156, .second, .unset] [(.long (0 : Int64)), (.long rdj156)]) (fun t k => XS.lconst Xj156.here hx rfl (hb hby at_158) k) ?_
        refine own_st (mkF m 160 #[iv p1, iv p2, iv p3, iv p4, iv ra, iv rb, rv b19, iv (0 : Int32), jv rdj156, .second, jv ocj156, .second, .unset] [(.int (lcmpW rdj156 (0 : Int64)))]) (fun t k => XS.lcmp Xj156.here hx rfl (hb hby at_159) rfl k) ?_
        by_cases hc22 : (0 : Int64) < rdj156
        · refine own_st (mkF m 170 #[iv p1, iv p2, iv p3, iv p4, iv ra, iv rb, rv b19, iv (0 : Int32), jv rdj156, .second, jv ocj156, .second, .unset] []) (fun t k => XS.ifYes Xj156.here hx rfl (pc0 := 160) (pc' := 170) rfl (hb hby at_160) rfl (own_lgt1 hc22) (by decide) (by decide) k) ?_
          refine own_st (mkF m 171 #[iv p1, iv p2, iv p3, iv p4, iv ra, iv rb, rv b19, iv (0 : Int32), jv rdj156, .second, jv ocj156, .second, .unset] [(.int (1 : Int32))]) (fun t k => XS.iconst Xj156.here hx rfl (hb hby at_170) k) ?_
          refine own_st (mkF m 175 #[iv p1, iv p2, iv p3, iv p4, iv ra, iv rb, rv b19, iv (0 : Int32), jv rdj156, .second, jv ocj156, .second, .unset] [(.int (1 : Int32))]) (fun t k => XS.goto Xj156.here hx rfl (pc0 := 171) (pc' := 175) rfl (hb hby at_171) (by decide) (by decide) k) ?_
          refine own_st (mkF m 177 #[iv p1, iv p2, iv p3, iv p4, iv ra, iv rb, rv b19, iv (0 : Int32), jv rdj156, .second, jv ocj156, .second, iv (1 : Int32)] []) (fun t k => XS.istore Xj156.here hx rfl (hb hby at_175) rfl (l' := #[iv p1, iv p2, iv p3, iv p4, iv ra, iv rb, rv b19, iv (0 : Int32), jv rdj156, .second, jv ocj156, .second, iv (1 : Int32)]) rfl k) ?_
          refine own_st (mkF m 179 #[iv p1, iv p2, iv p3, iv p4, iv ra, iv rb, rv b19, iv (0 : Int32), jv rdj156, .second, jv ocj156, .second, iv (1 : Int32)] [(.int (0 : Int32))]) (fun t k => XS.iload Xj156.here hx rfl (hb hby at_177) rfl k) ?_
          refine own_st (mkF m 182 #[iv p1, iv p2, iv p3, iv p4, iv ra, iv rb, rv b19, iv (0 : Int32), jv rdj156, .second, jv ocj156, .second, iv (1 : Int32)] []) (fun t k => XS.ifNo Xj156.here hx rfl (hb hby at_179) rfl ((if0 _ _).trans (teq (by decide : (0 : Int32) = (0 : Int32))).2) k) ?_
          refine own_st (mkF m 184 #[iv p1, iv p2, iv p3, iv p4, iv ra, iv rb, rv b19, iv (0 : Int32), jv rdj156, .second, jv ocj156, .second, iv (1 : Int32)] [(.ref b19)]) (fun t k => XS.aload Xj156.here hx rfl (hb hby at_182) rfl rfl k) ?_
          obtain ⟨cq23, kq23, q23a, q23b, q23c⟩ := isOf hZ ej156 Exj156
          obtain ⟨_, _, ⟨T23, L23, k23, n23⟩, -, X23, ⟨Lc23, hQ23, l23, y23, z23⟩, st23⟩ := Xj156.virtualBack hx (y := (⟨"com/example/chargeweave/chargeweave/Summary", "hasRuleFileErrors", "()Z"⟩ : MethodName)) (z := (⟨"com/example/chargeweave/chargeweave/Summary", "hasRuleFileErrors", "()Z"⟩ : MethodName)) hown (mvT hZ (hw_16 hw)) (mvT hZ (hw_17 hw)) (notFace_of_selects (args := #[]) (mvT hZ (hw_19 hw))) (mvT hZ (hw_19 hw)) (mvT hZ (hw_18 hw)) (by decide) (backOf (W := 0) (own_rm3 l Z a0 hw [] b19 rdj156 ocj156 hj156 n0 Zj156 Fj156_ruleFileErrorsRead Fj156_ruleFileErrorsOnClaims) hZ (hw_20 hw) (hw_3 hw) (by decide) (by decide)) q23a q23c (g := (mkF m 184 #[iv p1, iv p2, iv p3, iv p4, iv ra, iv rb, rv b19, iv (0 : Int32), jv rdj156, .second, jv ocj156, .second, iv (1 : Int32)] [(.ref b19)])) rfl (by rw [hml]; rfl) (Steps.refl _) (argsL := []) (rest := []) (lenOf pd_1 rfl) rfl (by show 2 * 0 + _ ≤ _; exact Nat.le_of_eq rfl) (hb hby at_184) (fun _ _ => ⟨rfl, ej156, (by decide : 1 + 0 ≤ _), (by decide : 9 + 0 ≤ _)⟩)
          dsimp only [Pt.U, Pt.locs, Pt.cells, Pt.slots] at X23 l23 y23 z23 st23 hQ23
          subst l23 y23 z23
          obtain ⟨rfl, Nq23, e23⟩ := hQ23
          have N23 := Fr.app Nj156 Nq23
          refine own_jump (g' := (mkF m 187 #[iv p1, iv p2, iv p3, iv p4, iv ra, iv rb, rv b19, iv (0 : Int32), jv rdj156, .second, jv ocj156, .second, iv (1 : Int32)] [(.int (own_err rdj156 ocj156))])) st23 ?_
          refine own_st (mkF m 189 #[iv p1, iv p2, iv p3, iv p4, iv ra, iv rb, rv b19, iv (0 : Int32), jv rdj156, .second, jv ocj156, .second, iv (1 : Int32)] [(.int (1 : Int32)), (.int (own_err rdj156 ocj156))]) (fun t k => XS.iload X23.here hx rfl (hb hby at_187) rfl k) ?_
          refine own_st (mkF m 192 #[iv p1, iv p2, iv p3, iv p4, iv ra, iv rb, rv b19, iv (0 : Int32), jv rdj156, .second, jv ocj156, .second, iv (1 : Int32)] []) (fun t k => XS.icmpNo X23.here hx rfl (hb hby at_189) rfl (teq (by rw [own_err_int Bj156 (by decide)]; simp [hc22])).2 k) ?_
          refine own_st (mkF m 193 #[iv p1, iv p2, iv p3, iv p4, iv ra, iv rb, rv b19, iv (0 : Int32), jv rdj156, .second, jv ocj156, .second, iv (1 : Int32)] [(.int (1 : Int32))]) (fun t k => XS.iconst X23.here hx rfl (hb hby at_192) k) ?_
          refine own_st (mkF m 197 #[iv p1, iv p2, iv p3, iv p4, iv ra, iv rb, rv b19, iv (0 : Int32), jv rdj156, .second, jv ocj156, .second, iv (1 : Int32)] [(.int (1 : Int32))]) (fun t k => XS.goto X23.here hx rfl (pc0 := 193) (pc' := 197) rfl (hb hby at_193) (by decide) (by decide) k) ?_
          refine own_ret X23 hlk (v := some (.int (1 : Int32))) (fun h => by rw [hret] at h; cases h) (fun fs hr => retN X23 hx (t := .boolean) hret (by simp) (hb hby at_197) hr) ?_ (by decide) (by decide)
          show own_Q0 Z p1 p2 p3 p4 wz h0 n0 _ T23.heap _
          rw [e23]
          exact ⟨rfl, N23⟩
        · refine own_st (mkF m 163 #[iv p1, iv p2, iv p3, iv p4, iv ra, iv rb, rv b19, iv (0 : Int32), jv rdj156, .second, jv ocj156, .second, .unset] []) (fun t k => XS.ifNo Xj156.here hx rfl (hb hby at_160) rfl (own_lgt0 hc22) k) ?_
          refine own_st (mkF m 165 #[iv p1, iv p2, iv p3, iv p4, iv ra, iv rb, rv b19, iv (0 : Int32), jv rdj156, .second, jv ocj156, .second, .unset] [(.long ocj156)]) (fun t k => XS.lload Xj156.here hx rfl (hb hby at_163) rfl k) ?_
          refine own_st (mkF m 166 #[iv p1, iv p2, iv p3, iv p4, iv ra, iv rb, rv b19, iv (0 : Int32), jv rdj156, .second, jv ocj156, .second, .unset] [(.long (0 : Int64)), (.long ocj156)]) (fun t k => XS.lconst Xj156.here hx rfl (hb hby at_165) k) ?_
          refine own_st (mkF m 167 #[iv p1, iv p2, iv p3, iv p4, iv ra, iv rb, rv b19, iv (0 : Int32), jv rdj156, .second, jv ocj156, .second, .unset] [(.int (lcmpW ocj156 (0 : Int64)))]) (fun t k => XS.lcmp Xj156.here hx rfl (hb hby at_166) rfl k) ?_
          by_cases hc24 : (0 : Int64) < ocj156
          · refine own_st (mkF m 170 #[iv p1, iv p2, iv p3, iv p4, iv ra, iv rb, rv b19, iv (0 : Int32), jv rdj156, .second, jv ocj156, .second, .unset] []) (fun t k => XS.ifNo Xj156.here hx rfl (hb hby at_167) rfl (own_lle0 hc24) k) ?_
            refine own_st (mkF m 171 #[iv p1, iv p2, iv p3, iv p4, iv ra, iv rb, rv b19, iv (0 : Int32), jv rdj156, .second, jv ocj156, .second, .unset] [(.int (1 : Int32))]) (fun t k => XS.iconst Xj156.here hx rfl (hb hby at_170) k) ?_
            refine own_st (mkF m 175 #[iv p1, iv p2, iv p3, iv p4, iv ra, iv rb, rv b19, iv (0 : Int32), jv rdj156, .second, jv ocj156, .second, .unset] [(.int (1 : Int32))]) (fun t k => XS.goto Xj156.here hx rfl (pc0 := 171) (pc' := 175) rfl (hb hby at_171) (by decide) (by decide) k) ?_
            refine own_st (mkF m 177 #[iv p1, iv p2, iv p3, iv p4, iv ra, iv rb, rv b19, iv (0 : Int32), jv rdj156, .second, jv ocj156, .second, iv (1 : Int32)] []) (fun t k => XS.istore Xj156.here hx rfl (hb hby at_175) rfl (l' := #[iv p1, iv p2, iv p3, iv p4, iv ra, iv rb, rv b19, iv (0 : Int32), jv rdj156, .second, jv ocj156, .second, iv (1 : Int32)]) rfl k) ?_
            refine own_st (mkF m 179 #[iv p1, iv p2, iv p3, iv p4, iv ra, iv rb, rv b19, iv (0 : Int32), jv rdj156, .second, jv ocj156, .second, iv (1 : Int32)] [(.int (0 : Int32))]) (fun t k => XS.iload Xj156.here hx rfl (hb hby at_177) rfl k) ?_
            refine own_st (mkF m 182 #[iv p1, iv p2, iv p3, iv p4, iv ra, iv rb, rv b19, iv (0 : Int32), jv rdj156, .second, jv ocj156, .second, iv (1 : Int32)] []) (fun t k => XS.ifNo Xj156.here hx rfl (hb hby at_179) rfl ((if0 _ _).trans (teq (by decide : (0 : Int32) = (0 : Int32))).2) k) ?_
            refine own_st (mkF m 184 #[iv p1, iv p2, iv p3, iv p4, iv ra, iv rb, rv b19, iv (0 : Int32), jv rdj156, .second, jv ocj156, .second, iv (1 : Int32)] [(.ref b19)]) (fun t k => XS.aload Xj156.here hx rfl (hb hby at_182) rfl rfl k) ?_
            obtain ⟨cq25, kq25, q25a, q25b, q25c⟩ := isOf hZ ej156 Exj156
            obtain ⟨_, _, ⟨T25, L25, k25, n25⟩, -, X25, ⟨Lc25, hQ25, l25, y25, z25⟩, st25⟩ := Xj156.virtualBack hx (y := (⟨"com/example/chargeweave/chargeweave/Summary", "hasRuleFileErrors", "()Z"⟩ : MethodName)) (z := (⟨"com/example/chargeweave/chargeweave/Summary", "hasRuleFileErrors", "()Z"⟩ : MethodName)) hown (mvT hZ (hw_16 hw)) (mvT hZ (hw_17 hw)) (notFace_of_selects (args := #[]) (mvT hZ (hw_19 hw))) (mvT hZ (hw_19 hw)) (mvT hZ (hw_18 hw)) (by decide) (backOf (W := 0) (own_rm3 l Z a0 hw [] b19 rdj156 ocj156 hj156 n0 Zj156 Fj156_ruleFileErrorsRead Fj156_ruleFileErrorsOnClaims) hZ (hw_20 hw) (hw_3 hw) (by decide) (by decide)) q25a q25c (g := (mkF m 184 #[iv p1, iv p2, iv p3, iv p4, iv ra, iv rb, rv b19, iv (0 : Int32), jv rdj156, .second, jv ocj156, .second, iv (1 : Int32)] [(.ref b19)])) rfl (by rw [hml]; rfl) (Steps.refl _) (argsL := []) (rest := []) (lenOf pd_1 rfl) rfl (by show 2 * 0 + _ ≤ _; exact Nat.le_of_eq rfl) (hb hby at_184) (fun _ _ => ⟨rfl, ej156, (by decide : 1 + 0 ≤ _), (by decide : 9 + 0 ≤ _)⟩)
            dsimp only [Pt.U, Pt.locs, Pt.cells, Pt.slots] at X25 l25 y25 z25 st25 hQ25
            subst l25 y25 z25
            obtain ⟨rfl, Nq25, e25⟩ := hQ25
            have N25 := Fr.app Nj156 Nq25
            refine own_jump (g' := (mkF m 187 #[iv p1, iv p2, iv p3, iv p4, iv ra, iv rb, rv b19, iv (0 : Int32), jv rdj156, .second, jv ocj156, .second, iv (1 : Int32)] [(.int (own_err rdj156 ocj156))])) st25 ?_
            refine own_st (mkF m 189 #[iv p1, iv p2, iv p3, iv p4, iv ra, iv rb, rv b19, iv (0 : Int32), jv rdj156, .second, jv ocj156, .second, iv (1 : Int32)] [(.int (1 : Int32)), (.int (own_err rdj156 ocj156))]) (fun t k => XS.iload X25.here hx rfl (hb hby at_187) rfl k) ?_
            refine own_st (mkF m 192 #[iv p1, iv p2, iv p3, iv p4, iv ra, iv rb, rv b19, iv (0 : Int32), jv rdj156, .second, jv ocj156, .second, iv (1 : Int32)] []) (fun t k => XS.icmpNo X25.here hx rfl (hb hby at_189) rfl (teq (by rw [own_err_int Bj156 (by decide)]; simp [hc22, hc24])).2 k) ?_
            refine own_st (mkF m 193 #[iv p1, iv p2, iv p3, iv p4, iv ra, iv rb, rv b19, iv (0 : Int32), jv rdj156, .second, jv ocj156, .second, iv (1 : Int32)] [(.int (1 : Int32))]) (fun t k => XS.iconst X25.here hx rfl (hb hby at_192) k) ?_
            refine own_st (mkF m 197 #[iv p1, iv p2, iv p3, iv p4, iv ra, iv rb, rv b19, iv (0 : Int32), jv rdj156, .second, jv ocj156, .second, iv (1 : Int32)] [(.int (1 : Int32))]) (fun t k => XS.goto X25.here hx rfl (pc0 := 193) (pc' := 197) rfl (hb hby at_193) (by decide) (by decide) k) ?_
            refine own_ret X25 hlk (v := some (.int (1 : Int32))) (fun h => by rw [hret] at h; cases h) (fun fs hr => retN X25 hx (t := .boolean) hret (by simp) (hb hby at_197) hr) ?_ (by decide) (by decide)
            show own_Q0 Z p1 p2 p3 p4 wz h0 n0 _ T25.heap _
            rw [e25]
            exact ⟨rfl, N25⟩
          · refine own_st (mkF m 174 #[iv p1, iv p2, iv p3, iv p4, iv ra, iv rb, rv b19, iv (0 : Int32), jv rdj156, .second, jv ocj156, .second, .unset] []) (fun t k => XS.ifYes Xj156.here hx rfl (pc0 := 167) (pc' := 174) rfl (hb hby at_167) rfl (own_lle1 hc24) (by decide) (by decide) k) ?_
            refine own_st (mkF m 175 #[iv p1, iv p2, iv p3, iv p4, iv ra, iv rb, rv b19, iv (0 : Int32), jv rdj156, .second, jv ocj156, .second, .unset] [(.int (0 : Int32))]) (fun t k => XS.iconst Xj156.here hx rfl (hb hby at_174) k) ?_
            refine own_st (mkF m 177 #[iv p1, iv p2, iv p3, iv p4, iv ra, iv rb, rv b19, iv (0 : Int32), jv rdj156, .second, jv ocj156, .second, iv (0 : Int32)] []) (fun t k => XS.istore Xj156.here hx rfl (hb hby at_175) rfl (l' := #[iv p1, iv p2, iv p3, iv p4, iv ra, iv rb, rv b19, iv (0 : Int32), jv rdj156, .second, jv ocj156, .second, iv (0 : Int32)]) rfl k) ?_
            refine own_st (mkF m 179 #[iv p1, iv p2, iv p3, iv p4, iv ra, iv rb, rv b19, iv (0 : Int32), jv rdj156, .second, jv ocj156, .second, iv (0 : Int32)] [(.int (0 : Int32))]) (fun t k => XS.iload Xj156.here hx rfl (hb hby at_177) rfl k) ?_
            refine own_st (mkF m 182 #[iv p1, iv p2, iv p3, iv p4, iv ra, iv rb, rv b19, iv (0 : Int32), jv rdj156, .second, jv ocj156, .second, iv (0 : Int32)] []) (fun t k => XS.ifNo Xj156.here hx rfl (hb hby at_179) rfl ((if0 _ _).trans (teq (by decide : (0 : Int32) = (0 : Int32))).2) k) ?_
            refine own_st (mkF m 184 #[iv p1, iv p2, iv p3, iv p4, iv ra, iv rb, rv b19, iv (0 : Int32), jv rdj156, .second, jv ocj156, .second, iv (0 : Int32)] [(.ref b19)]) (fun t k => XS.aload Xj156.here hx rfl (hb hby at_182) rfl rfl k) ?_
            obtain ⟨cq26, kq26, q26a, q26b, q26c⟩ := isOf hZ ej156 Exj156
            obtain ⟨_, _, ⟨T26, L26, k26, n26⟩, -, X26, ⟨Lc26, hQ26, l26, y26, z26⟩, st26⟩ := Xj156.virtualBack hx (y := (⟨"com/example/chargeweave/chargeweave/Summary", "hasRuleFileErrors", "()Z"⟩ : MethodName)) (z := (⟨"com/example/chargeweave/chargeweave/Summary", "hasRuleFileErrors", "()Z"⟩ : MethodName)) hown (mvT hZ (hw_16 hw)) (mvT hZ (hw_17 hw)) (notFace_of_selects (args := #[]) (mvT hZ (hw_19 hw))) (mvT hZ (hw_19 hw)) (mvT hZ (hw_18 hw)) (by decide) (backOf (W := 0) (own_rm3 l Z a0 hw [] b19 rdj156 ocj156 hj156 n0 Zj156 Fj156_ruleFileErrorsRead Fj156_ruleFileErrorsOnClaims) hZ (hw_20 hw) (hw_3 hw) (by decide) (by decide)) q26a q26c (g := (mkF m 184 #[iv p1, iv p2, iv p3, iv p4, iv ra, iv rb, rv b19, iv (0 : Int32), jv rdj156, .second, jv ocj156, .second, iv (0 : Int32)] [(.ref b19)])) rfl (by rw [hml]; rfl) (Steps.refl _) (argsL := []) (rest := []) (lenOf pd_1 rfl) rfl (by show 2 * 0 + _ ≤ _; exact Nat.le_of_eq rfl) (hb hby at_184) (fun _ _ => ⟨rfl, ej156, (by decide : 1 + 0 ≤ _), (by decide : 9 + 0 ≤ _)⟩)
            dsimp only [Pt.U, Pt.locs, Pt.cells, Pt.slots] at X26 l26 y26 z26 st26 hQ26
            subst l26 y26 z26
            obtain ⟨rfl, Nq26, e26⟩ := hQ26
            have N26 := Fr.app Nj156 Nq26
            refine own_jump (g' := (mkF m 187 #[iv p1, iv p2, iv p3, iv p4, iv ra, iv rb, rv b19, iv (0 : Int32), jv rdj156, .second, jv ocj156, .second, iv (0 : Int32)] [(.int (own_err rdj156 ocj156))])) st26 ?_
            refine own_st (mkF m 189 #[iv p1, iv p2, iv p3, iv p4, iv ra, iv rb, rv b19, iv (0 : Int32), jv rdj156, .second, jv ocj156, .second, iv (0 : Int32)] [(.int (0 : Int32)), (.int (own_err rdj156 ocj156))]) (fun t k => XS.iload X26.here hx rfl (hb hby at_187) rfl k) ?_
            refine own_st (mkF m 192 #[iv p1, iv p2, iv p3, iv p4, iv ra, iv rb, rv b19, iv (0 : Int32), jv rdj156, .second, jv ocj156, .second, iv (0 : Int32)] []) (fun t k => XS.icmpNo X26.here hx rfl (hb hby at_189) rfl (teq (by rw [own_err_int Bj156 (by decide)]; simp [hc22, hc24])).2 k) ?_
            refine own_st (mkF m 193 #[iv p1, iv p2, iv p3, iv p4, iv ra, iv rb, rv b19, iv (0 : Int32), jv rdj156, .second, jv ocj156, .second, iv (0 : Int32)] [(.int (1 : Int32))]) (fun t k => XS.iconst X26.here hx rfl (hb hby at_192) k) ?_
            refine own_st (mkF m 197 #[iv p1, iv p2, iv p3, iv p4, iv ra, iv rb, rv b19, iv (0 : Int32), jv rdj156, .second, jv ocj156, .second, iv (0 : Int32)] [(.int (1 : Int32))]) (fun t k => XS.goto X26.here hx rfl (pc0 := 193) (pc' := 197) rfl (hb hby at_193) (by decide) (by decide) k) ?_
            refine own_ret X26 hlk (v := some (.int (1 : Int32))) (fun h => by rw [hret] at h; cases h) (fun fs hr => retN X26 hx (t := .boolean) hret (by simp) (hb hby at_197) hr) ?_ (by decide) (by decide)
            show own_Q0 Z p1 p2 p3 p4 wz h0 n0 _ T26.heap _
            rw [e26]
            exact ⟨rfl, N26⟩
      have J133 : ∀ (Tj133 : State) (hj133 : Heap) (Lj133 : List Loc) (rdj133 ocj133 u2j133 u3j133 u4j133 : Int64) (Xj133 : Stand p l e room_1 s m #[(.int p1), (.int p2), (.int p3), (.int p4)] below meth c Tj133 Lj133 1 9) (ej133 : Tj133.heap = hj133) (Zj133 : n0 ≤ hj133.size) (Nj133 : Fr n0 Lj133) (Bj133 : own_B 4 rdj133 ocj133) (Exj133 : Exa Z hj133 b19 "com/example/chargeweave/chargeweave/Summary") (Fj133_ruleFileErrorsRead : Fld Z hj133 b19 "com/example/chargeweave/chargeweave/Summary" "_ruleFileErrorsRead" "J" (.long rdj133)) (Fj133_ruleFileErrorsOnClaims : Fld Z hj133 b19 "com/example/chargeweave/chargeweave/Summary" "_ruleFileErrorsOnClaims" "J" (.long ocj133)) (Fj133_claimsSplitOff : Fld Z hj133 b19 "com/example/chargeweave/chargeweave/Summary" "_claimsSplitOff" "J" (.long u2j133)) (Fj133_claimsDiscarded : Fld Z hj133 b19 "com/example/chargeweave/chargeweave/Summary" "_claimsDiscarded" "J" (.long u3j133)) (Fj133_claimsHeld : Fld Z hj133 b19 "com/example/chargeweave/chargeweave/Summary" "_claimsHeld" "J" (.long u4j133)), own_WP p e below s (own_Q0 Z p1 p2 p3 p4 wz h0 n0) 16 128 Tj133 (mkF m 133 #[iv p1, iv p2, iv p3, iv p4, iv ra, iv rb, rv b19, iv (0 : Int32), jv rdj133, .second, jv ocj133, .second, .unset] []) := by
        intro Tj133 hj133 Lj133 rdj133 ocj133 u2j133 u3j133 u4j133 Xj133 ej133 Zj133 Nj133 Bj133 Exj133 Fj133_ruleFileErrorsRead Fj133_ruleFileErrorsOnClaims Fj133_claimsSplitOff Fj133_claimsDiscarded Fj133_claimsHeld
        refine own_st (mkF m 134 #[iv p1, iv p2, iv p3, iv p4, iv ra, iv rb, rv b19, iv (0 : Int32), jv rdj133, .second, jv ocj133, .second, .unset] [(.int p3)]) (fun t k => XS.iloadN Xj133.here hx rfl (hb hby at_133) rfl k) ?_
        refine own_st (mkF m 136 #[iv p1, iv p2, iv p3, iv p4, iv ra, iv rb, rv b19, iv (0 : Int32), jv rdj133, .second, jv ocj133, .second, .unset] [(.int (16 : Int32)), (.int p3)]) (fun t k => XS.bipush Xj133.here hx rfl (hb hby at_134) k) ?_
        refine own_st (mkF m 137 #[iv p1, iv p2, iv p3, iv p4, iv ra, iv rb, rv b19, iv (0 : Int32), jv rdj133, .second, jv ocj133, .second, .unset] [(.int (p3 &&& (16 : Int32)))]) (fun t k => XS.iand Xj133.here hx rfl (hb hby at_136) rfl k) ?_
        by_cases hc27 : (p3 &&& (16 : Int32)) = (0 : Int32)
        · refine own_st (mkF m 156 #[iv p1, iv p2, iv p3, iv p4, iv ra, iv rb, rv b19, iv (0 : Int32), jv rdj133, .second, jv ocj133, .second, .unset] []) (fun t k => XS.ifYes Xj133.here hx rfl (pc0 := 137) (pc' := 156) rfl (hb hby at_137) rfl ((if0 _ _).trans (teq hc27).1) (by decide) (by decide) k) ?_
          exact J156 _ _ _ _ _ _ _ _ Xj133 ej133 Zj133 Nj133 (own_Bm Bj133) Exj133 Fj133_ruleFileErrorsRead Fj133_ruleFileErrorsOnClaims Fj133_claimsSplitOff Fj133_claimsDiscarded Fj133_claimsHeld
        · refine own_st (mkF m 140 #[iv p1, iv p2, iv p3, iv p4, iv ra, iv rb, rv b19, iv (0 : Int32), jv rdj133, .second, jv ocj133, .second, .unset] []) (fun t k => XS.ifNo Xj133.here hx rfl (hb hby at_137) rfl ((if0 _ _).trans (feq hc27).1) k) ?_
          refine own_st (mkF m 142 #[iv p1, iv p2, iv p3, iv p4, iv ra, iv rb, rv b19, iv (0 : Int32), jv rdj133, .second, jv ocj133, .second, .unset] [(.ref b19)]) (fun t k => XS.aload Xj133.here hx rfl (hb hby at_140) rfl rfl k) ?_
          refine own_st (mkF m 143 #[iv p1, iv p2, iv p3, iv p4, iv ra, iv rb, rv b19, iv (0 : Int32), jv rdj133, .second, jv ocj133, .second, .unset] [(.int p4), (.ref b19)]) (fun t k => XS.iloadN Xj133.here hx rfl (hb hby at_142) rfl k) ?_
          obtain ⟨cq28, kq28, q28a, q28b, q28c⟩ := isOf hZ ej133 Exj133
          obtain ⟨_, _, ⟨T28, L28, k28, n28⟩, -, X28, ⟨Lc28, hQ28, l28, y28, z28⟩, st28⟩ := Xj133.virtualBack hx (y := (⟨"com/example/chargeweave/chargeweave/Summary", "claimsSplitOff", "(I)V"⟩ : MethodName)) (z := (⟨"com/example/chargeweave/chargeweave/Summary", "claimsSplitOff", "(I)V"⟩ : MethodName)) hown (mvT hZ (hw_35 hw)) (mvT hZ (hw_36 hw)) (notFace_of_selects (args := #[]) (mvT hZ (hw_38 hw))) (mvT hZ (hw_38 hw)) (mvT hZ (hw_37 hw)) (by decide) (backOf (W := 0) (own_rm6 l Z a0 hw [] b19 p4 rdj133 ocj133 u2j133 u3j133 u4j133 hj133 n0 Zj133 Exj133 g_b19 Fj133_ruleFileErrorsRead Fj133_ruleFileErrorsOnClaims Fj133_claimsSplitOff Fj133_claimsDiscarded Fj133_claimsHeld) hZ (hw_39 hw) (hw_3 hw) (by decide) (by decide)) q28a q28c (g := (mkF m 143 #[iv p1, iv p2, iv p3, iv p4, iv ra, iv rb, rv b19, iv (0 : Int32), jv rdj133, .second, jv ocj133, .second, .unset] [(.int p4), (.ref b19)])) rfl (by rw [hml]; rfl) (Steps.refl _) (argsL := [(.int p4)]) (rest := []) (lenOf pd_2 rfl) rfl (by show 2 * 0 + _ ≤ _; exact Nat.le_of_eq rfl) (hb hby at_143) (fun _ _ => ⟨rfl, ej133, (by decide : 1 + 0 ≤ _), (by decide : 9 + 0 ≤ _)⟩)
          dsimp only [Pt.U, Pt.locs, Pt.cells, Pt.slots] at X28 l28 y28 z28 st28 hQ28
          subst l28 y28 z28
          obtain ⟨rfl, Nq28, K28, Ex28, Fl28_ruleFileErrorsRead, Fl28_ruleFileErrorsOnClaims, Fl28_claimsSplitOff, Fl28_claimsDiscarded, Fl28_claimsHeld⟩ := hQ28
          have N28 := Fr.app Nj133 Nq28
          have Z28 : n0 ≤ T28.heap.size := Nat.le_trans Zj133 K28.1
          have f2_Exa_b19 : Exa Z T28.heap b19 "com/example/chargeweave/chargeweave/Summary" := (Exj133.keep K28)
          refine own_jump (g' := (mkF m 146 #[iv p1, iv p2, iv p3, iv p4, iv ra, iv rb, rv b19, iv (0 : Int32), jv rdj133, .second, jv ocj133, .second, .unset] [])) st28 ?_
          refine own_st (mkF m 148 #[iv p1, iv p2, iv p3, iv p4, iv ra, iv rb, rv b19, iv (0 : Int32), jv rdj133, .second, jv ocj133, .second, .unset] [(.ref b19)]) (fun t k => XS.aload X28.here hx rfl (hb hby at_146) rfl rfl k) ?_
          obtain ⟨cq29, kq29, q29a, q29b, q29c⟩ := isOf hZ rfl Ex28
          obtain ⟨_, _, ⟨T29, L29, k29, n29⟩, -, X29, ⟨Lc29, hQ29, l29, y29, z29⟩, st29⟩ := X28.virtualBack hx (y := (⟨"com/example/chargeweave/chargeweave/Summary", "claimDiscarded", "()V"⟩ : MethodName)) (z := (⟨"com/example/chargeweave/chargeweave/Summary", "claimDiscarded", "()V"⟩ : MethodName)) hown (mvT hZ (hw_42 hw)) (mvT hZ (hw_43 hw)) (notFace_of_selects (args := #[]) (mvT hZ (hw_45 hw))) (mvT hZ (hw_45 hw)) (mvT hZ (hw_44 hw)) (by decide) (backOf (W := 0) (own_rm7 l Z a0 hw [] b19 rdj133 ocj133 (u2j133 + (p4.toInt64)) u3j133 u4j133 T28.heap n0 Z28 Ex28 g_b19 Fl28_ruleFileErrorsRead Fl28_ruleFileErrorsOnClaims Fl28_claimsSplitOff Fl28_claimsDiscarded Fl28_claimsHeld) hZ (hw_46 hw) (hw_3 hw) (by decide) (by decide)) q29a q29c (g := (mkF m 148 #[iv p1, iv p2, iv p3, iv p4, iv ra, iv rb, rv b19, iv (0 : Int32), jv rdj133, .second, jv ocj133, .second, .unset] [(.ref b19)])) rfl (by rw [hml]; rfl) (Steps.refl _) (argsL := []) (rest := []) (lenOf pd_0 rfl) rfl (by show 2 * 0 + _ ≤ _; exact Nat.le_of_eq rfl) (hb hby at_148) (fun _ _ => ⟨rfl, rfl, (by decide : 1 + 0 ≤ _), (by decide : 9 + 0 ≤ _)⟩)
          dsimp only [Pt.U, Pt.locs, Pt.cells, Pt.slots] at X29 l29 y29 z29 st29 hQ29
          subst l29 y29 z29
          obtain ⟨rfl, Nq29, K29, Ex29, Fl29_ruleFileErrorsRead, Fl29_ruleFileErrorsOnClaims, Fl29_claimsSplitOff, Fl29_claimsDiscarded, Fl29_claimsHeld⟩ := hQ29
          have N29 := Fr.app N28 Nq29
          have Z29 : n0 ≤ T29.heap.size := Nat.le_trans Z28 K29.1
          have f3_Exa_b19 : Exa Z T29.heap b19 "com/example/chargeweave/chargeweave/Summary" := (Ex28.keep K29)
          refine own_jump (g' := (mkF m 151 #[iv p1, iv p2, iv p3, iv p4, iv ra, iv rb, rv b19, iv (0 : Int32), jv rdj133, .second, jv ocj133, .second, .unset] [])) st29 ?_
          refine own_st (mkF m 153 #[iv p1, iv p2, iv p3, iv p4, iv ra, iv rb, rv b19, iv (0 : Int32), jv rdj133, .second, jv ocj133, .second, .unset] [(.ref b19)]) (fun t k => XS.aload X29.here hx rfl (hb hby at_151) rfl rfl k) ?_
          obtain ⟨cq30, kq30, q30a, q30b, q30c⟩ := isOf hZ rfl Ex29
          obtain ⟨_, _, ⟨T30, L30, k30, n30⟩, -, X30, ⟨Lc30, hQ30, l30, y30, z30⟩, st30⟩ := X29.virtualBack hx (y := (⟨"com/example/chargeweave/chargeweave/Summary", "claimHeld", "()V"⟩ : MethodName)) (z := (⟨"com/example/chargeweave/chargeweave/Summary", "claimHeld", "()V"⟩ : MethodName)) hown (mvT hZ (hw_49 hw)) (mvT hZ (hw_50 hw)) (notFace_of_selects (args := #[]) (mvT hZ (hw_52 hw))) (mvT hZ (hw_52 hw)) (mvT hZ (hw_51 hw)) (by decide) (backOf (W := 0) (own_rm8 l Z a0 hw [] b19 rdj133 ocj133 (u2j133 + (p4.toInt64)) (u3j133 + (1 : Int64)) u4j133 T29.heap n0 Z29 Ex29 g_b19 Fl29_ruleFileErrorsRead Fl29_ruleFileErrorsOnClaims Fl29_claimsSplitOff Fl29_claimsDiscarded Fl29_claimsHeld) hZ (hw_53 hw) (hw_3 hw) (by decide) (by decide)) q30a q30c (g := (mkF m 153 #[iv p1, iv p2, iv p3, iv p4, iv ra, iv rb, rv b19, iv (0 : Int32), jv rdj133, .second, jv ocj133, .second, .unset] [(.ref b19)])) rfl (by rw [hml]; rfl) (Steps.refl _) (argsL := []) (rest := []) (lenOf pd_0 rfl) rfl (by show 2 * 0 + _ ≤ _; exact Nat.le_of_eq rfl) (hb hby at_153) (fun _ _ => ⟨rfl, rfl, (by decide : 1 + 0 ≤ _), (by decide : 9 + 0 ≤ _)⟩)
          dsimp only [Pt.U, Pt.locs, Pt.cells, Pt.slots] at X30 l30 y30 z30 st30 hQ30
          subst l30 y30 z30
          obtain ⟨rfl, Nq30, K30, Ex30, Fl30_ruleFileErrorsRead, Fl30_ruleFileErrorsOnClaims, Fl30_claimsSplitOff, Fl30_claimsDiscarded, Fl30_claimsHeld⟩ := hQ30
          have N30 := Fr.app N29 Nq30
          have Z30 : n0 ≤ T30.heap.size := Nat.le_trans Z29 K30.1
          have f4_Exa_b19 : Exa Z T30.heap b19 "com/example/chargeweave/chargeweave/Summary" := (Ex29.keep K30)
          refine own_jump (g' := (mkF m 156 #[iv p1, iv p2, iv p3, iv p4, iv ra, iv rb, rv b19, iv (0 : Int32), jv rdj133, .second, jv ocj133, .second, .unset] [])) st30 ?_
          exact J156 _ _ _ _ _ _ _ _ X30 rfl Z30 N30 (own_Bm Bj133) Ex30 Fl30_ruleFileErrorsRead Fl30_ruleFileErrorsOnClaims Fl30_claimsSplitOff Fl30_claimsDiscarded Fl30_claimsHeld
      have J111 : ∀ (Tj111 : State) (hj111 : Heap) (Lj111 : List Loc) (rdj111 ocj111 u2j111 u3j111 u4j111 : Int64) (Xj111 : Stand p l e room_1 s m #[(.int p1), (.int p2), (.int p3), (.int p4)] below meth c Tj111 Lj111 1 9) (ej111 : Tj111.heap = hj111) (Zj111 : n0 ≤ hj111.size) (Nj111 : Fr n0 Lj111) (Bj111 : own_B 3 rdj111 ocj111) (Exj111 : Exa Z hj111 b19 "com/example/chargeweave/chargeweave/Summary") (Fj111_ruleFileErrorsRead : Fld Z hj111 b19 "com/example/chargeweave/chargeweave/Summary" "_ruleFileErrorsRead" "J" (.long rdj111)) (Fj111_ruleFileErrorsOnClaims : Fld Z hj111 b19 "com/example/chargeweave/chargeweave/Summary" "_ruleFileErrorsOnClaims" "J" (.long ocj111)) (Fj111_claimsSplitOff : Fld Z hj111 b19 "com/example/chargeweave/chargeweave/Summary" "_claimsSplitOff" "J" (.long u2j111)) (Fj111_claimsDiscarded : Fld Z hj111 b19 "com/example/chargeweave/chargeweave/Summary" "_claimsDiscarded" "J" (.long u3j111)) (Fj111_claimsHeld : Fld Z hj111 b19 "com/example/chargeweave/chargeweave/Summary" "_claimsHeld" "J" (.long u4j111)), own_WP p e below s (own_Q0 Z p1 p2 p3 p4 wz h0 n0) 16 128 Tj111 (mkF m 111 #[iv p1, iv p2, iv p3, iv p4, iv ra, iv rb, rv b19, iv (0 : Int32), jv rdj111, .second, jv ocj111, .second, .unset] []) := by
        intro Tj111 hj111 Lj111 rdj111 ocj111 u2j111 u3j111 u4j111 Xj111 ej111 Zj111 Nj111 Bj111 Exj111 Fj111_ruleFileErrorsRead Fj111_ruleFileErrorsOnClaims Fj111_claimsSplitOff Fj111_claimsDiscarded Fj111_claimsHeld
        refine own_st (mkF m 112 #[iv p1, iv p2, iv p3, iv p4, iv ra, iv rb, rv b19, iv (0 : Int32), jv rdj111, .second, jv ocj111, .second, .unset] [(.int p3)]) (fun t k => XS.iloadN Xj111.here hx rfl (hb hby at_111) rfl k) ?_
        refine own_st (mkF m 114 #[iv p1, iv p2, iv p3, iv p4, iv ra, iv rb, rv b19, iv (0 : Int32), jv rdj111, .second, jv ocj111, .second, .unset] [(.int (8 : Int32)), (.int p3)]) (fun t k => XS.bipush Xj111.here hx rfl (hb hby at_112) k) ?_
        refine own_st (mkF m 115 #[iv p1, iv p2, iv p3, iv p4, iv ra, iv rb, rv b19, iv (0 : Int32), jv rdj111, .second, jv ocj111, .second, .unset] [(.int (p3 &&& (8 : Int32)))]) (fun t k => XS.iand Xj111.here hx rfl (hb hby at_114) rfl k) ?_
        by_cases hc31 : (p3 &&& (8 : Int32)) = (0 : Int32)
        · refine own_st (mkF m 133 #[iv p1, iv p2, iv p3, iv p4, iv ra, iv rb, rv b19, iv (0 : Int32), jv rdj111, .second, jv ocj111, .second, .unset] []) (fun t k => XS.ifYes Xj111.here hx rfl (pc0 := 115) (pc' := 133) rfl (hb hby at_115) rfl ((if0 _ _).trans (teq hc31).1) (by decide) (by decide) k) ?_
          exact J133 _ _ _ _ _ _ _ _ Xj111 ej111 Zj111 Nj111 (own_Bm Bj111) Exj111 Fj111_ruleFileErrorsRead Fj111_ruleFileErrorsOnClaims Fj111_claimsSplitOff Fj111_claimsDiscarded Fj111_claimsHeld
        · refine own_st (mkF m 118 #[iv p1, iv p2, iv p3, iv p4, iv ra, iv rb, rv b19, iv (0 : Int32), jv rdj111, .second, jv ocj111, .second, .unset] []) (fun t k => XS.ifNo Xj111.here hx rfl (hb hby at_115) rfl ((if0 _ _).trans (feq hc31).1) k) ?_
          refine own_st (mkF m 120 #[iv p1, iv p2, iv p3, iv p4, iv ra, iv rb, rv b19, iv (0 : Int32), jv rdj111, .second, jv ocj111, .second, .unset] [(.ref b19)]) (fun t k => XS.aload Xj111.here hx rfl (hb hby at_118) rfl rfl k) ?_
          refine own_st (mkF m 122 #[iv p1, iv p2, iv p3, iv p4, iv ra, iv rb, rv b19, iv (0 : Int32), jv rdj111, .second, jv ocj111, .second, .unset] [(.int rb), (.ref b19)]) (fun t k => XS.iload Xj111.here hx rfl (hb hby at_120) rfl k) ?_
          obtain ⟨cq32, kq32, q32a, q32b, q32c⟩ := isOf hZ ej111 Exj111
          obtain ⟨_, _, ⟨T32, L32, k32, n32⟩, -, X32, ⟨Lc32, hQ32, l32, y32, z32⟩, st32⟩ := Xj111.virtualBack hx (y := (⟨"com/example/chargeweave/chargeweave/Summary", "ruleFileErrorsRead", "(I)V"⟩ : MethodName)) (z := (⟨"com/example/chargeweave/chargeweave/Summary", "ruleFileErrorsRead", "(I)V"⟩ : MethodName)) hown (mvT hZ (hw_30 hw)) (mvT hZ (hw_31 hw)) (notFace_of_selects (args := #[]) (mvT hZ (hw_33 hw))) (mvT hZ (hw_33 hw)) (mvT hZ (hw_32 hw)) (by decide) (backOf (W := 0) (own_rm5 l Z a0 hw [] b19 rb rdj111 ocj111 u2j111 u3j111 u4j111 hj111 n0 Zj111 Exj111 g_b19 Fj111_ruleFileErrorsRead Fj111_ruleFileErrorsOnClaims Fj111_claimsSplitOff Fj111_claimsDiscarded Fj111_claimsHeld) hZ (hw_34 hw) (hw_3 hw) (by decide) (by decide)) q32a q32c (g := (mkF m 122 #[iv p1, iv p2, iv p3, iv p4, iv ra, iv rb, rv b19, iv (0 : Int32), jv rdj111, .second, jv ocj111, .second, .unset] [(.int rb), (.ref b19)])) rfl (by rw [hml]; rfl) (Steps.refl _) (argsL := [(.int rb)]) (rest := []) (lenOf pd_2 rfl) rfl (by show 2 * 0 + _ ≤ _; exact Nat.le_of_eq rfl) (hb hby at_122) (fun _ _ => ⟨rfl, ej111, (by decide : 1 + 0 ≤ _), (by decide : 9 + 0 ≤ _)⟩)
          dsimp only [Pt.U, Pt.locs, Pt.cells, Pt.slots] at X32 l32 y32 z32 st32 hQ32
          subst l32 y32 z32
          obtain ⟨rfl, Nq32, K32, Ex32, Fl32_ruleFileErrorsRead, Fl32_ruleFileErrorsOnClaims, Fl32_claimsSplitOff, Fl32_claimsDiscarded, Fl32_claimsHeld⟩ := hQ32
          have N32 := Fr.app Nj111 Nq32
          have Z32 : n0 ≤ T32.heap.size := Nat.le_trans Zj111 K32.1
          have f5_Exa_b19 : Exa Z T32.heap b19 "com/example/chargeweave/chargeweave/Summary" := (Exj111.keep K32)
          refine own_jump (g' := (mkF m 125 #[iv p1, iv p2, iv p3, iv p4, iv ra, iv rb, rv b19, iv (0 : Int32), jv rdj111, .second, jv ocj111, .second, .unset] [])) st32 ?_
          refine own_st (mkF m 127 #[iv p1, iv p2, iv p3, iv p4, iv ra, iv rb, rv b19, iv (0 : Int32), jv rdj111, .second, jv ocj111, .second, .unset] [(.long rdj111)]) (fun t k => XS.lload X32.here hx rfl (hb hby at_125) rfl k) ?_
          refine own_st (mkF m 129 #[iv p1, iv p2, iv p3, iv p4, iv ra, iv rb, rv b19, iv (0 : Int32), jv rdj111, .second, jv ocj111, .second, .unset] [(.int rb), (.long rdj111)]) (fun t k => XS.iload X32.here hx rfl (hb hby at_127) rfl k) ?_
          refine own_st (mkF m 130 #[iv p1, iv p2, iv p3, iv p4, iv ra, iv rb, rv b19, iv (0 : Int32), jv rdj111, .second, jv ocj111, .second, .unset] [(.long (rb.toInt64)), (.long rdj111)]) (fun t k => XS.i2l X32.here hx rfl (hb hby at_129) rfl k) ?_
          refine own_st (mkF m 131 #[iv p1, iv p2, iv p3, iv p4, iv ra, iv rb, rv b19, iv (0 : Int32), jv rdj111, .second, jv ocj111, .second, .unset] [(.long (rdj111 + (rb.toInt64)))]) (fun t k => XS.ladd X32.here hx rfl (hb hby at_130) rfl k) ?_
          refine own_st (mkF m 133 #[iv p1, iv p2, iv p3, iv p4, iv ra, iv rb, rv b19, iv (0 : Int32), jv (rdj111 + (rb.toInt64)), .second, jv ocj111, .second, .unset] []) (fun t k => XS.lstore X32.here hx rfl (hb hby at_131) rfl (l' := #[iv p1, iv p2, iv p3, iv p4, iv ra, iv rb, rv b19, iv (0 : Int32), jv (rdj111 + (rb.toInt64)), .second, jv ocj111, .second, .unset]) rfl k) ?_
          exact J133 _ _ _ _ _ _ _ _ X32 rfl Z32 N32 (own_Br Bj111 (by decide) hrb) Ex32 Fl32_ruleFileErrorsRead Fl32_ruleFileErrorsOnClaims Fl32_claimsSplitOff Fl32_claimsDiscarded Fl32_claimsHeld
      have J94 : ∀ (Tj94 : State) (hj94 : Heap) (Lj94 : List Loc) (rdj94 ocj94 u2j94 u3j94 u4j94 : Int64) (Xj94 : Stand p l e room_1 s m #[(.int p1), (.int p2), (.int p3), (.int p4)] below meth c Tj94 Lj94 1 9) (ej94 : Tj94.heap = hj94) (Zj94 : n0 ≤ hj94.size) (Nj94 : Fr n0 Lj94) (Bj94 : own_B 2 rdj94 ocj94) (Exj94 : Exa Z hj94 b19 "com/example/chargeweave/chargeweave/Summary") (Fj94_ruleFileErrorsRead : Fld Z hj94 b19 "com/example/chargeweave/chargeweave/Summary" "_ruleFileErrorsRead" "J" (.long rdj94)) (Fj94_ruleFileErrorsOnClaims : Fld Z hj94 b19 "com/example/chargeweave/chargeweave/Summary" "_ruleFileErrorsOnClaims" "J" (.long ocj94)) (Fj94_claimsSplitOff : Fld Z hj94 b19 "com/example/chargeweave/chargeweave/Summary" "_claimsSplitOff" "J" (.long u2j94)) (Fj94_claimsDiscarded : Fld Z hj94 b19 "com/example/chargeweave/chargeweave/Summary" "_claimsDiscarded" "J" (.long u3j94)) (Fj94_claimsHeld : Fld Z hj94 b19 "com/example/chargeweave/chargeweave/Summary" "_claimsHeld" "J" (.long u4j94)), own_WP p e below s (own_Q0 Z p1 p2 p3 p4 wz h0 n0) 16 128 Tj94 (mkF m 94 #[iv p1, iv p2, iv p3, iv p4, iv ra, iv rb, rv b19, iv (0 : Int32), jv rdj94, .second, jv ocj94, .second, .unset] []) := by
        intro Tj94 hj94 Lj94 rdj94 ocj94 u2j94 u3j94 u4j94 Xj94 ej94 Zj94 Nj94 Bj94 Exj94 Fj94_ruleFileErrorsRead Fj94_ruleFileErrorsOnClaims Fj94_claimsSplitOff Fj94_claimsDiscarded Fj94_claimsHeld
        refine own_st (mkF m 95 #[iv p1, iv p2, iv p3, iv p4, iv ra, iv rb, rv b19, iv (0 : Int32), jv rdj94, .second, jv ocj94, .second, .unset] [(.int p3)]) (fun t k => XS.iloadN Xj94.here hx rfl (hb hby at_94) rfl k) ?_
        refine own_st (mkF m 96 #[iv p1, iv p2, iv p3, iv p4, iv ra, iv rb, rv b19, iv (0 : Int32), jv rdj94, .second, jv ocj94, .second, .unset] [(.int (4 : Int32)), (.int p3)]) (fun t k => XS.iconst Xj94.here hx rfl (hb hby at_95) k) ?_
        refine own_st (mkF m 97 #[iv p1, iv p2, iv p3, iv p4, iv ra, iv rb, rv b19, iv (0 : Int32), jv rdj94, .second, jv ocj94, .second, .unset] [(.int (p3 &&& (4 : Int32)))]) (fun t k => XS.iand Xj94.here hx rfl (hb hby at_96) rfl k) ?_
        by_cases hc33 : (p3 &&& (4 : Int32)) = (0 : Int32)
        · refine own_st (mkF m 111 #[iv p1, iv p2, iv p3, iv p4, iv ra, iv rb, rv b19, iv (0 : Int32), jv rdj94, .second, jv ocj94, .second, .unset] []) (fun t k => XS.ifYes Xj94.here hx rfl (pc0 := 97) (pc' := 111) rfl (hb hby at_97) rfl ((if0 _ _).trans (teq hc33).1) (by decide) (by decide) k) ?_
          exact J111 _ _ _ _ _ _ _ _ Xj94 ej94 Zj94 Nj94 (own_Bm Bj94) Exj94 Fj94_ruleFileErrorsRead Fj94_ruleFileErrorsOnClaims Fj94_claimsSplitOff Fj94_claimsDiscarded Fj94_claimsHeld
        · refine own_st (mkF m 100 #[iv p1, iv p2, iv p3, iv p4, iv ra, iv rb, rv b19, iv (0 : Int32), jv rdj94, .second, jv ocj94, .second, .unset] []) (fun t k => XS.ifNo Xj94.here hx rfl (hb hby at_97) rfl ((if0 _ _).trans (feq hc33).1) k) ?_
          refine own_st (mkF m 102 #[iv p1, iv p2, iv p3, iv p4, iv ra, iv rb, rv b19, iv (0 : Int32), jv rdj94, .second, jv ocj94, .second, .unset] [(.ref b19)]) (fun t k => XS.aload Xj94.here hx rfl (hb hby at_100) rfl rfl k) ?_
          obtain ⟨cq34, kq34, q34a, q34b, q34c⟩ := isOf hZ ej94 Exj94
          obtain ⟨_, _, ⟨T34, L34, k34, n34⟩, -, X34, ⟨Lc34, hQ34, l34, y34, z34⟩, st34⟩ := Xj94.virtualBack hx (y := (⟨"com/example/chargeweave/chargeweave/Summary", "ruleFileErrorOnClaim", "()V"⟩ : MethodName)) (z := (⟨"com/example/chargeweave/chargeweave/Summary", "ruleFileErrorOnClaim", "()V"⟩ : MethodName)) hown (mvT hZ (hw_25 hw)) (mvT hZ (hw_26 hw)) (notFace_of_selects (args := #[]) (mvT hZ (hw_28 hw))) (mvT hZ (hw_28 hw)) (mvT hZ (hw_27 hw)) (by decide) (backOf (W := 0) (own_rm4 l Z a0 hw [] b19 rdj94 ocj94 u2j94 u3j94 u4j94 hj94 n0 Zj94 Exj94 g_b19 Fj94_ruleFileErrorsRead Fj94_ruleFileErrorsOnClaims Fj94_claimsSplitOff Fj94_claimsDiscarded Fj94_claimsHeld) hZ (hw_29 hw) (hw_3 hw) (by decide) (by decide)) q34a q34c (g := (mkF m 102 #[iv p1, iv p2, iv p3, iv p4, iv ra, iv rb, rv b19, iv (0 : Int32), jv rdj94, .second, jv ocj94, .second, .unset] [(.ref b19)])) rfl (by rw [hml]; rfl) (Steps.refl _) (argsL := []) (rest := []) (lenOf pd_0 rfl) rfl (by show 2 * 0 + _ ≤ _; exact Nat.le_of_eq rfl) (hb hby at_102) (fun _ _ => ⟨rfl, ej94, (by decide : 1 + 0 ≤ _), (by decide : 9 + 0 ≤ _)⟩)
          dsimp only [Pt.U, Pt.locs, Pt.cells, Pt.slots] at X34 l34 y34 z34 st34 hQ34
          subst l34 y34 z34
          obtain ⟨rfl, Nq34, K34, Ex34, Fl34_ruleFileErrorsRead, Fl34_ruleFileErrorsOnClaims, Fl34_claimsSplitOff, Fl34_claimsDiscarded, Fl34_claimsHeld⟩ := hQ34
          have N34 := Fr.app Nj94 Nq34
          have Z34 : n0 ≤ T34.heap.size := Nat.le_trans Zj94 K34.1
          have f6_Exa_b19 : Exa Z T34.heap b19 "com/example/chargeweave/chargeweave/Summary" := (Exj94.keep K34)
          refine own_jump (g' := (mkF m 105 #[iv p1, iv p2, iv p3, iv p4, iv ra, iv rb, rv b19, iv (0 : Int32), jv rdj94, .second, jv ocj94, .second, .unset] [])) st34 ?_
          refine own_st (mkF m 107 #[iv p1, iv p2, iv p3, iv p4, iv ra, iv rb, rv b19, iv (0 : Int32), jv rdj94, .second, jv ocj94, .second, .unset] [(.long ocj94)]) (fun t k => XS.lload X34.here hx rfl (hb hby at_105) rfl k) ?_
          refine own_st (mkF m 108 #[iv p1, iv p2, iv p3, iv p4, iv ra, iv rb, rv b19, iv (0 : Int32), jv rdj94, .second, jv ocj94, .second, .unset] [(.long (1 : Int64)), (.long ocj94)]) (fun t k => XS.lconst X34.here hx rfl (hb hby at_107) k) ?_
          refine own_st (mkF m 109 #[iv p1, iv p2, iv p3, iv p4, iv ra, iv rb, rv b19, iv (0 : Int32), jv rdj94, .second, jv ocj94, .second, .unset] [(.long (ocj94 + (1 : Int64)))]) (fun t k => XS.ladd X34.here hx rfl (hb hby at_108) rfl k) ?_
          refine own_st (mkF m 111 #[iv p1, iv p2, iv p3, iv p4, iv ra, iv rb, rv b19, iv (0 : Int32), jv rdj94, .second, jv (ocj94 + (1 : Int64)), .second, .unset] []) (fun t k => XS.lstore X34.here hx rfl (hb hby at_109) rfl (l' := #[iv p1, iv p2, iv p3, iv p4, iv ra, iv rb, rv b19, iv (0 : Int32), jv rdj94, .second, jv (ocj94 + (1 : Int64)), .second, .unset]) rfl k) ?_
          exact J111 _ _ _ _ _ _ _ _ X34 rfl Z34 N34 (own_Bo Bj94 (by decide)) Ex34 Fl34_ruleFileErrorsRead Fl34_ruleFileErrorsOnClaims Fl34_claimsSplitOff Fl34_claimsDiscarded Fl34_claimsHeld
      have J77 : ∀ (Tj77 : State) (hj77 : Heap) (Lj77 : List Loc) (rdj77 ocj77 u2j77 u3j77 u4j77 : Int64) (Xj77 : Stand p l e room_1 s m #[(.int p1), (.int p2), (.int p3), (.int p4)] below meth c Tj77 Lj77 1 9) (ej77 : Tj77.heap = hj77) (Zj77 : n0 ≤ hj77.size) (Nj77 : Fr n0 Lj77) (Bj77 : own_B 1 rdj77 ocj77) (Exj77 : Exa Z hj77 b19 "com/example/chargeweave/chargeweave/Summary") (Fj77_ruleFileErrorsRead : Fld Z hj77 b19 "com/example/chargeweave/chargeweave/Summary" "_ruleFileErrorsRead" "J" (.long rdj77)) (Fj77_ruleFileErrorsOnClaims : Fld Z hj77 b19 "com/example/chargeweave/chargeweave/Summary" "_ruleFileErrorsOnClaims" "J" (.long ocj77)) (Fj77_claimsSplitOff : Fld Z hj77 b19 "com/example/chargeweave/chargeweave/Summary" "_claimsSplitOff" "J" (.long u2j77)) (Fj77_claimsDiscarded : Fld Z hj77 b19 "com/example/chargeweave/chargeweave/Summary" "_claimsDiscarded" "J" (.long u3j77)) (Fj77_claimsHeld : Fld Z hj77 b19 "com/example/chargeweave/chargeweave/Summary" "_claimsHeld" "J" (.long u4j77)), own_WP p e below s (own_Q0 Z p1 p2 p3 p4 wz h0 n0) 16 128 Tj77 (mkF m 77 #[iv p1, iv p2, iv p3, iv p4, iv ra, iv rb, rv b19, iv (0 : Int32), jv rdj77, .second, jv ocj77, .second, .unset] []) := by
        intro Tj77 hj77 Lj77 rdj77 ocj77 u2j77 u3j77 u4j77 Xj77 ej77 Zj77 Nj77 Bj77 Exj77 Fj77_ruleFileErrorsRead Fj77_ruleFileErrorsOnClaims Fj77_claimsSplitOff Fj77_claimsDiscarded Fj77_claimsHeld
        refine own_st (mkF m 78 #[iv p1, iv p2, iv p3, iv p4, iv ra, iv rb, rv b19, iv (0 : Int32), jv rdj77, .second, jv ocj77, .second, .unset] [(.int p3)]) (fun t k => XS.iloadN Xj77.here hx rfl (hb hby at_77) rfl k) ?_
        refine own_st (mkF m 79 #[iv p1, iv p2, iv p3, iv p4, iv ra, iv rb, rv b19, iv (0 : Int32), jv rdj77, .second, jv ocj77, .second, .unset] [(.int (2 : Int32)), (.int p3)]) (fun t k => XS.iconst Xj77.here hx rfl (hb hby at_78) k) ?_
        refine own_st (mkF m 80 #[iv p1, iv p2, iv p3, iv p4, iv ra, iv rb, rv b19, iv (0 : Int32), jv rdj77, .second, jv ocj77, .second, .unset] [(.int (p3 &&& (2 : Int32)))]) (fun t k => XS.iand Xj77.here hx rfl (hb hby at_79) rfl k) ?_
        by_cases hc35 : (p3 &&& (2 : Int32)) = (0 : Int32)
        · refine own_st (mkF m 94 #[iv p1, iv p2, iv p3, iv p4, iv ra, iv rb, rv b19, iv (0 : Int32), jv rdj77, .second, jv ocj77, .second, .unset] []) (fun t k => XS.ifYes Xj77.here hx rfl (pc0 := 80) (pc' := 94) rfl (hb hby at_80) rfl ((if0 _ _).trans (teq hc35).1) (by decide) (by decide) k) ?_
          exact J94 _ _ _ _ _ _ _ _ Xj77 ej77 Zj77 Nj77 (own_Bm Bj77) Exj77 Fj77_ruleFileErrorsRead Fj77_ruleFileErrorsOnClaims Fj77_claimsSplitOff Fj77_claimsDiscarded Fj77_claimsHeld
        · refine own_st (mkF m 83 #[iv p1, iv p2, iv p3, iv p4, iv ra, iv rb, rv b19, iv (0 : Int32), jv rdj77, .second, jv ocj77, .second, .unset] []) (fun t k => XS.ifNo Xj77.here hx rfl (hb hby at_80) rfl ((if0 _ _).trans (feq hc35).1) k) ?_
          refine own_st (mkF m 85 #[iv p1, iv p2, iv p3, iv p4, iv ra, iv rb, rv b19, iv (0 : Int32), jv rdj77, .second, jv ocj77, .second, .unset] [(.ref b19)]) (fun t k => XS.aload Xj77.here hx rfl (hb hby at_83) rfl rfl k) ?_
          obtain ⟨cq36, kq36, q36a, q36b, q36c⟩ := isOf hZ ej77 Exj77
          obtain ⟨_, _, ⟨T36, L36, k36, n36⟩, -, X36, ⟨Lc36, hQ36, l36, y36, z36⟩, st36⟩ := Xj77.virtualBack hx (y := (⟨"com/example/chargeweave/chargeweave/Summary", "ruleFileErrorOnClaim", "()V"⟩ : MethodName)) (z := (⟨"com/example/chargeweave/chargeweave/Summary", "ruleFileErrorOnClaim", "()V"⟩ : MethodName)) hown (mvT hZ (hw_25 hw)) (mvT hZ (hw_26 hw)) (notFace_of_selects (args := #[]) (mvT hZ (hw_28 hw))) (mvT hZ (hw_28 hw)) (mvT hZ (hw_27 hw)) (by decide) (backOf (W := 0) (own_rm4 l Z a0 hw [] b19 rdj77 ocj77 u2j77 u3j77 u4j77 hj77 n0 Zj77 Exj77 g_b19 Fj77_ruleFileErrorsRead Fj77_ruleFileErrorsOnClaims Fj77_claimsSplitOff Fj77_claimsDiscarded Fj77_claimsHeld) hZ (hw_29 hw) (hw_3 hw) (by decide) (by decide)) q36a q36c (g := (mkF m 85 #[iv p1, iv p2, iv p3, iv p4, iv ra, iv rb, rv b19, iv (0 : Int32), jv rdj77, .second, jv ocj77, .second, .unset] [(.ref b19)])) rfl (by rw [hml]; rfl) (Steps.refl _) (argsL := []) (rest := []) (lenOf pd_0 rfl) rfl (by show 2 * 0 + _ ≤ _; exact Nat.le_of_eq rfl) (hb hby at_85) (fun _ _ => ⟨rfl, ej77, (by decide : 1 + 0 ≤ _), (by decide : 9 + 0 ≤ _)⟩)
          dsimp only [Pt.U, Pt.locs, Pt.cells, Pt.slots] at X36 l36 y36 z36 st36 hQ36
          subst l36 y36 z36
          obtain ⟨rfl, Nq36, K36, Ex36, Fl36_ruleFileErrorsRead, Fl36_ruleFileErrorsOnClaims, Fl36_claimsSplitOff, Fl36_claimsDiscarded, Fl36_claimsHeld⟩ := hQ36
          have N36 := Fr.app Nj77 Nq36
          have Z36 : n0 ≤ T36.heap.size := Nat.le_trans Zj77 K36.1
          have f7_Exa_b19 : Exa Z T36.heap b19 "com/example/chargeweave/chargeweave/Summary" := (Exj77.keep K36)
          refine own_jump (g' := (mkF m 88 #[iv p1, iv p2, iv p3, iv p4, iv ra, iv rb, rv b19, iv (0 : Int32), jv rdj77, .second, jv ocj77, .second, .unset] [])) st36 ?_
          refine own_st (mkF m 90 #[iv p1, iv p2, iv p3, iv p4, iv ra, iv rb, rv b19, iv (0 : Int32), jv rdj77, .second, jv ocj77, .second, .unset] [(.long ocj77)]) (fun t k => XS.lload X36.here hx rfl (hb hby at_88) rfl k) ?_
          refine own_st (mkF m 91 #[iv p1, iv p2, iv p3, iv p4, iv ra, iv rb, rv b19, iv (0 : Int32), jv rdj77, .second, jv ocj77, .second, .unset] [(.long (1 : Int64)), (.long ocj77)]) (fun t k => XS.lconst X36.here hx rfl (hb hby at_90) k) ?_
          refine own_st (mkF m 92 #[iv p1, iv p2, iv p3, iv p4, iv ra, iv rb, rv b19, iv (0 : Int32), jv rdj77, .second, jv ocj77, .second, .unset] [(.long (ocj77 + (1 : Int64)))]) (fun t k => XS.ladd X36.here hx rfl (hb hby at_91) rfl k) ?_
          refine own_st (mkF m 94 #[iv p1, iv p2, iv p3, iv p4, iv ra, iv rb, rv b19, iv (0 : Int32), jv rdj77, .second, jv (ocj77 + (1 : Int64)), .second, .unset] []) (fun t k => XS.lstore X36.here hx rfl (hb hby at_92) rfl (l' := #[iv p1, iv p2, iv p3, iv p4, iv ra, iv rb, rv b19, iv (0 : Int32), jv rdj77, .second, jv (ocj77 + (1 : Int64)), .second, .unset]) rfl k) ?_
          exact J94 _ _ _ _ _ _ _ _ X36 rfl Z36 N36 (own_Bo Bj77 (by decide)) Ex36 Fl36_ruleFileErrorsRead Fl36_ruleFileErrorsOnClaims Fl36_claimsSplitOff Fl36_claimsDiscarded Fl36_claimsHeld
      refine own_st (mkF m 57 #[iv p1, iv p2, iv p3, iv p4, iv ra, iv rb, rv b19, iv (0 : Int32), jv (0 : Int64), .second, jv (0 : Int64), .second, .unset] [(.int p3)]) (fun t k => XS.iloadN X21.here hx rfl (hb hby at_56) rfl k) ?_
      refine own_st (mkF m 58 #[iv p1, iv p2, iv p3, iv p4, iv ra, iv rb, rv b19, iv (0 : Int32), jv (0 : Int64), .second, jv (0 : Int64), .second, .unset] [(.int (1 : Int32)), (.int p3)]) (fun t k => XS.iconst X21.here hx rfl (hb hby at_57) k) ?_
      refine own_st (mkF m 59 #[iv p1, iv p2, iv p3, iv p4, iv ra, iv rb, rv b19, iv (0 : Int32), jv (0 : Int64), .second, jv (0 : Int64), .second, .unset] [(.int (p3 &&& (1 : Int32)))]) (fun t k => XS.iand X21.here hx rfl (hb hby at_58) rfl k) ?_
      by_cases hc37 : (p3 &&& (1 : Int32)) = (0 : Int32)
      · refine own_st (mkF m 77 #[iv p1, iv p2, iv p3, iv p4, iv ra, iv rb, rv b19, iv (0 : Int32), jv (0 : Int64), .second, jv (0 : Int64), .second, .unset] []) (fun t k => XS.ifYes X21.here hx rfl (pc0 := 59) (pc' := 77) rfl (hb hby at_59) rfl ((if0 _ _).trans (teq hc37).1) (by decide) (by decide) k) ?_
        exact J77 _ _ _ _ _ _ _ _ X21 e21 Z20 N21 (own_Bm own_B0) Ex20 Fl20_ruleFileErrorsRead Fl20_ruleFileErrorsOnClaims Fl20_claimsSplitOff Fl20_claimsDiscarded Fl20_claimsHeld
      · refine own_st (mkF m 62 #[iv p1, iv p2, iv p3, iv p4, iv ra, iv rb, rv b19, iv (0 : Int32), jv (0 : Int64), .second, jv (0 : Int64), .second, .unset] []) (fun t k => XS.ifNo X21.here hx rfl (hb hby at_59) rfl ((if0 _ _).trans (feq hc37).1) k) ?_
        refine own_st (mkF m 64 #[iv p1, iv p2, iv p3, iv p4, iv ra, iv rb, rv b19, iv (0 : Int32), jv (0 : Int64), .second, jv (0 : Int64), .second, .unset] [(.ref b19)]) (fun t k => XS.aload X21.here hx rfl (hb hby at_62) rfl rfl k) ?_
        refine own_st (mkF m 66 #[iv p1, iv p2, iv p3, iv p4, iv ra, iv rb, rv b19, iv (0 : Int32), jv (0 : Int64), .second, jv (0 : Int64), .second, .unset] [(.int ra), (.ref b19)]) (fun t k => XS.iload X21.here hx rfl (hb hby at_64) rfl k) ?_
        obtain ⟨cq38, kq38, q38a, q38b, q38c⟩ := isOf hZ e21 Ex20
        obtain ⟨_, _, ⟨T38, L38, k38, n38⟩, -, X38, ⟨Lc38, hQ38, l38, y38, z38⟩, st38⟩ := X21.virtualBack hx (y := (⟨"com/example/chargeweave/chargeweave/Summary", "ruleFileErrorsRead", "(I)V"⟩ : MethodName)) (z := (⟨"com/example/chargeweave/chargeweave/Summary", "ruleFileErrorsRead", "(I)V"⟩ : MethodName)) hown (mvT hZ (hw_30 hw)) (mvT hZ (hw_31 hw)) (notFace_of_selects (args := #[]) (mvT hZ (hw_33 hw))) (mvT hZ (hw_33 hw)) (mvT hZ (hw_32 hw)) (by decide) (backOf (W := 0) (own_rm5 l Z a0 hw [] b19 ra (0 : Int64) (0 : Int64) (0 : Int64) (0 : Int64) (0 : Int64) T20.heap n0 Z20 Ex20 g_b19 Fl20_ruleFileErrorsRead Fl20_ruleFileErrorsOnClaims Fl20_claimsSplitOff Fl20_claimsDiscarded Fl20_claimsHeld) hZ (hw_34 hw) (hw_3 hw) (by decide) (by decide)) q38a q38c (g := (mkF m 66 #[iv p1, iv p2, iv p3, iv p4, iv ra, iv rb, rv b19, iv (0 : Int32), jv (0 : Int64), .second, jv (0 : Int64), .second, .unset] [(.int ra), (.ref b19)])) rfl (by rw [hml]; rfl) (Steps.refl _) (argsL := [(.int ra)]) (rest := []) (lenOf pd_2 rfl) rfl (by show 2 * 0 + _ ≤ _; exact Nat.le_of_eq rfl) (hb hby at_66) (fun _ _ => ⟨rfl, e21, (by decide : 1 + 0 ≤ _), (by decide : 9 + 0 ≤ _)⟩)
        dsimp only [Pt.U, Pt.locs, Pt.cells, Pt.slots] at X38 l38 y38 z38 st38 hQ38
        subst l38 y38 z38
        obtain ⟨rfl, Nq38, K38, Ex38, Fl38_ruleFileErrorsRead, Fl38_ruleFileErrorsOnClaims, Fl38_claimsSplitOff, Fl38_claimsDiscarded, Fl38_claimsHeld⟩ := hQ38
        have N38 := Fr.app N21 Nq38
        have Z38 : n0 ≤ T38.heap.size := Nat.le_trans Z20 K38.1
        have O38 : Old Z n0 T38.heap := O20.keep K38 (allS g_b19 all0)
        have f8_Exa_b19 : Exa Z T38.heap b19 "com/example/chargeweave/chargeweave/Summary" := (Ex20.keep K38)
        refine own_jump (g' := (mkF m 69 #[iv p1, iv p2, iv p3, iv p4, iv ra, iv rb, rv b19, iv (0 : Int32), jv (0 : Int64), .second, jv (0 : Int64), .second, .unset] [])) st38 ?_
        refine own_st (mkF m 71 #[iv p1, iv p2, iv p3, iv p4, iv ra, iv rb, rv b19, iv (0 : Int32), jv (0 : Int64), .second, jv (0 : Int64), .second, .unset] [(.long (0 : Int64))]) (fun t k => XS.lload X38.here hx rfl (hb hby at_69) rfl k) ?_
        refine own_st (mkF m 73 #[iv p1, iv p2, iv p3, iv p4, iv ra, iv rb, rv b19, iv (0 : Int32), jv (0 : Int64), .second, jv (0 : Int64), .second, .unset] [(.int ra), (.long (0 : Int64))]) (fun t k => XS.iload X38.here hx rfl (hb hby at_71) rfl k) ?_
        refine own_st (mkF m 74 #[iv p1, iv p2, iv p3, iv p4, iv ra, iv rb, rv b19, iv (0 : Int32), jv (0 : Int64), .second, jv (0 : Int64), .second, .unset] [(.long (ra.toInt64)), (.long (0 : Int64))]) (fun t k => XS.i2l X38.here hx rfl (hb hby at_73) rfl k) ?_
        refine own_st (mkF m 75 #[iv p1, iv p2, iv p3, iv p4, iv ra, iv rb, rv b19, iv (0 : Int32), jv (0 : Int64), .second, jv (0 : Int64), .second, .unset] [(.long ((0 : Int64) + (ra.toInt64)))]) (fun t k => XS.ladd X38.here hx rfl (hb hby at_74) rfl k) ?_
        refine own_st (mkF m 77 #[iv p1, iv p2, iv p3, iv p4, iv ra, iv rb, rv b19, iv (0 : Int32), jv ((0 : Int64) + (ra.toInt64)), .second, jv (0 : Int64), .second, .unset] []) (fun t k => XS.lstore X38.here hx rfl (hb hby at_75) rfl (l' := #[iv p1, iv p2, iv p3, iv p4, iv ra, iv rb, rv b19, iv (0 : Int32), jv ((0 : Int64) + (ra.toInt64)), .second, jv (0 : Int64), .second, .unset]) rfl k) ?_
        exact J77 _ _ _ _ _ _ _ _ X38 rfl Z38 N38 (own_Br own_B0 (by decide) hra) Ex38 Fl38_ruleFileErrorsRead Fl38_ruleFileErrorsOnClaims Fl38_claimsSplitOff Fl38_claimsDiscarded Fl38_claimsHeld
    refine own_st (mkF m 18 #[iv p1, iv p2, iv p3, iv p4, iv ra, .unset, .unset, .unset, .unset, .unset, .unset, .unset, .unset] [(.int p3)]) (fun t k => XS.iloadN X0.here hx rfl (hb hby at_17) rfl k) ?_
    refine own_st (mkF m 20 #[iv p1, iv p2, iv p3, iv p4, iv ra, .unset, .unset, .unset, .unset, .unset, .unset, .unset, .unset] [(.int (64 : Int32)), (.int p3)]) (fun t k => XS.bipush X0.here hx rfl (hb hby at_18) k) ?_
    refine own_st (mkF m 21 #[iv p1, iv p2, iv p3, iv p4, iv ra, .unset, .unset, .unset, .unset, .unset, .unset, .unset, .unset] [(.int (p3 &&& (64 : Int32)))]) (fun t k => XS.iand X0.here hx rfl (hb hby at_20) rfl k) ?_
    by_cases hc39 : (p3 &&& (64 : Int32)) = (0 : Int32)
    · refine own_st (mkF m 28 #[iv p1, iv p2, iv p3, iv p4, iv ra, .unset, .unset, .unset, .unset, .unset, .unset, .unset, .unset] []) (fun t k => XS.ifYes X0.here hx rfl (pc0 := 21) (pc' := 28) rfl (hb hby at_21) rfl ((if0 _ _).trans (teq hc39).1) (by decide) (by decide) k) ?_
      refine own_st (mkF m 29 #[iv p1, iv p2, iv p3, iv p4, iv ra, .unset, .unset, .unset, .unset, .unset, .unset, .unset, .unset] [(.int p2)]) (fun t k => XS.iloadN X0.here hx rfl (hb hby at_28) rfl k) ?_
      refine own_st (mkF m 31 #[iv p1, iv p2, iv p3, iv p4, iv ra, .unset, .unset, .unset, .unset, .unset, .unset, .unset, .unset] [(.int (2147483647 : Int32)), (.int p2)]) (fun t k => X0.ldcInt hx hown (mvT hZ (hw_0 hw)) (g := (mkF m 29 #[iv p1, iv p2, iv p3, iv p4, iv ra, .unset, .unset, .unset, .unset, .unset, .unset, .unset, .unset] [(.int p2)])) rfl (hb hby at_29) _ k) ?_
      refine own_st (mkF m 32 #[iv p1, iv p2, iv p3, iv p4, iv ra, .unset, .unset, .unset, .unset, .unset, .unset, .unset, .unset] [(.int (p2 &&& (2147483647 : Int32)))]) (fun t k => XS.iand X0.here hx rfl (hb hby at_31) rfl k) ?_
      refine own_st (mkF m 34 #[iv p1, iv p2, iv p3, iv p4, iv ra, iv (p2 &&& (2147483647 : Int32)), .unset, .unset, .unset, .unset, .unset, .unset, .unset] []) (fun t k => XS.istore X0.here hx rfl (hb hby at_32) rfl (l' := #[iv p1, iv p2, iv p3, iv p4, iv ra, iv (p2 &&& (2147483647 : Int32)), .unset, .unset, .unset, .unset, .unset, .unset, .unset]) rfl k) ?_
      exact J34 _ (own_mask _)
    · refine own_st (mkF m 24 #[iv p1, iv p2, iv p3, iv p4, iv ra, .unset, .unset, .unset, .unset, .unset, .unset, .unset, .unset] []) (fun t k => XS.ifNo X0.here hx rfl (hb hby at_21) rfl ((if0 _ _).trans (feq hc39).1) k) ?_
      refine own_st (mkF m 25 #[iv p1, iv p2, iv p3, iv p4, iv ra, .unset, .unset, .unset, .unset, .unset, .unset, .unset, .unset] [(.int (0 : Int32))]) (fun t k => XS.iconst X0.here hx rfl (hb hby at_24) k) ?_
      refine own_st (mkF m 32 #[iv p1, iv p2, iv p3, iv p4, iv ra, .unset, .unset, .unset, .unset, .unset, .unset, .unset, .unset] [(.int (0 : Int32))]) (fun t k => XS.goto X0.here hx rfl (pc0 := 25) (pc' := 32) rfl (hb hby at_25) (by decide) (by decide) k) ?_
      refine own_st (mkF m 34 #[iv p1, iv p2, iv p3, iv p4, iv ra, iv (0 : Int32), .unset, .unset, .unset, .unset, .unset, .unset, .unset] []) (fun t k => XS.istore X0.here hx rfl (hb hby at_32) rfl (l' := #[iv p1, iv p2, iv p3, iv p4, iv ra, iv (0 : Int32), .unset, .unset, .unset, .unset, .unset, .unset, .unset]) rfl k) ?_
      exact J34 _ own_zero
  refine own_st (mkF m 1 #[iv p1, iv p2, iv p3, iv p4, .unset, .unset, .unset, .unset, .unset, .unset, .unset, .unset, .unset] [(.int p3)]) (fun t k => XS.iloadN X0.here hx rfl (hb hby at_0) rfl k) ?_
  refine own_st (mkF m 3 #[iv p1, iv p2, iv p3, iv p4, .unset, .unset, .unset, .unset, .unset, .unset, .unset, .unset, .unset] [(.int (32 : Int32)), (.int p3)]) (fun t k => XS.bipush X0.here hx rfl (hb hby at_1) k) ?_
  refine own_st (mkF m 4 #[iv p1, iv p2, iv p3, iv p4, .unset, .unset, .unset, .unset, .unset, .unset, .unset, .unset, .unset] [(.int (p3 &&& (32 : Int32)))]) (fun t k => XS.iand X0.here hx rfl (hb hby at_3) rfl k) ?_
  by_cases hc40 : (p3 &&& (32 : Int32)) = (0 : Int32)
  · refine own_st (mkF m 11 #[iv p1, iv p2, iv p3, iv p4, .unset, .unset, .unset, .unset, .unset, .unset, .unset, .unset, .unset] []) (fun t k => XS.ifYes X0.here hx rfl (pc0 := 4) (pc' := 11) rfl (hb hby at_4) rfl ((if0 _ _).trans (teq hc40).1) (by decide) (by decide) k) ?_
    refine own_st (mkF m 12 #[iv p1, iv p2, iv p3, iv p4, .unset, .unset, .unset, .unset, .unset, .unset, .unset, .unset, .unset] [(.int p1)]) (fun t k => XS.iloadN X0.here hx rfl (hb hby at_11) rfl k) ?_
    refine own_st (mkF m 14 #[iv p1, iv p2, iv p3, iv p4, .unset, .unset, .unset, .unset, .unset, .unset, .unset, .unset, .unset] [(.int (2147483647 : Int32)), (.int p1)]) (fun t k => X0.ldcInt hx hown (mvT hZ (hw_0 hw)) (g := (mkF m 12 #[iv p1, iv p2, iv p3, iv p4, .unset, .unset, .unset, .unset, .unset, .unset, .unset, .unset, .unset] [(.int p1)])) rfl (hb hby at_12) _ k) ?_
    refine own_st (mkF m 15 #[iv p1, iv p2, iv p3, iv p4, .unset, .unset, .unset, .unset, .unset, .unset, .unset, .unset, .unset] [(.int (p1 &&& (2147483647 : Int32)))]) (fun t k => XS.iand X0.here hx rfl (hb hby at_14) rfl k) ?_
    refine own_st (mkF m 17 #[iv p1, iv p2, iv p3, iv p4, iv (p1 &&& (2147483647 : Int32)), .unset, .unset, .unset, .unset, .unset, .unset, .unset, .unset] []) (fun t k => XS.istore X0.here hx rfl (hb hby at_15) rfl (l' := #[iv p1, iv p2, iv p3, iv p4, iv (p1 &&& (2147483647 : Int32)), .unset, .unset, .unset, .unset, .unset, .unset, .unset, .unset]) rfl k) ?_
    exact J17 _ (own_mask _)
  · refine own_st (mkF m 7 #[iv p1, iv p2, iv p3, iv p4, .unset, .unset, .unset, .unset, .unset, .unset, .unset, .unset, .unset] []) (fun t k => XS.ifNo X0.here hx rfl (hb hby at_4) rfl ((if0 _ _).trans (feq hc40).1) k) ?_
    refine own_st (mkF m 8 #[iv p1, iv p2, iv p3, iv p4, .unset, .unset, .unset, .unset, .unset, .unset, .unset, .unset, .unset] [(.int (0 : Int32))]) (fun t k => XS.iconst X0.here hx rfl (hb hby at_7) k) ?_
    refine own_st (mkF m 15 #[iv p1, iv p2, iv p3, iv p4, .unset, .unset, .unset, .unset, .unset, .unset, .unset, .unset, .unset] [(.int (0 : Int32))]) (fun t k => XS.goto X0.here hx rfl (pc0 := 8) (pc' := 15) rfl (hb hby at_8) (by decide) (by decide) k) ?_
    refine own_st (mkF m 17 #[iv p1, iv p2, iv p3, iv p4, iv (0 : Int32), .unset, .unset, .unset, .unset, .unset, .unset, .unset, .unset] []) (fun t k => XS.istore X0.here hx rfl (hb hby at_15) rfl (l' := #[iv p1, iv p2, iv p3, iv p4, iv (0 : Int32), .unset, .unset, .unset, .unset, .unset, .unset, .unset, .unset]) rfl k) ?_
    exact J17 _ own_zero
set_option maxRecDepth 65536 in
set_option maxHeartbeats 40000000 in
theorem own_comes {Post : Tables → Env → Array Value → State → Outcome → State → Prop} (hpost : ∀ tb e args s v u, (limb_1_1.after args s (.returned v) u = true ∧ limb_1_2.after args s (.returned v) u = true ∧ True) → FrameEnd s (.returned v) u (Jvm.fieldLocs frame_1_writes args s ++ Jvm.arrayLocs frame_1_arrays args s ++ Jvm.staticLocs frame_1_statics s) 16 128 → Post tb e args s (.returned v) u) :
    ArmFor flags0 classFile x code maxLocals ret World_1 tables_1 room_1 Calls_1 rest_1 Pre_1 Post := by
  intro l hfl _ _ p e ha hc hk s m args below hf hA hF happ hP
  obtain ⟨hcalls, hrest, hpre⟩ := hP
  obtain ⟨-, -, -, hnamed, -, -, -, hat⟩ := (Spec.applies_iff hf).mp happ
  obtain ⟨hg, hn⟩ := and_e (Cond.before_iff.mp (show (Jvm.Cond.and given_1 narrow_1).before args s = true from hpre))
  obtain ⟨hcnt, hg0⟩ := and_e hg
  obtain ⟨ha0, hg1⟩ := and_e hg0
  obtain ⟨ha1, hg2⟩ := and_e hg1
  obtain ⟨ha2, hg3⟩ := and_e hg2
  obtain ⟨w0, w1, w2, w3, rfl⟩ : ∃ w0 w1 w2 w3 : Value, args = #[w0, w1, w2, w3] := by
    have hs : args.size = 4 := by simpa [Cond.value, given_1] using hcnt
    obtain ⟨L⟩ := args
    match L, hs with
    | [w0, w1, w2, w3], _ => exact ⟨w0, w1, w2, w3, rfl⟩
  have hw := fun d (hd : d ∈ tables_1) => atoms_spec (ws := Jvm.Cond.code x code maxLocals ret :: tables_1) hat d (List.mem_cons_of_mem _ hd)
  have hfit : Fit s := fun {y c} hc i hi => by
    obtain ⟨ha, rfl⟩ := Array.getElem?_eq_some_iff.mp hc
    have q := List.all_eq_true.mp ((Array.all_eq_true_iff_forall_mem.mp hF) _ (Array.getElem_mem ha)) i (List.mem_range.mpr hi)
    simpa [Array.getElem?_eq_getElem hi] using q
  obtain ⟨hsets, hown0⟩ := atoms_of _ (rest_1_c_eq ▸ (show rest_1_c.before _ s = true from hrest))
  obtain ⟨i0, ei0⟩ := is_v ha0
  obtain rfl : w0 = (.int i0) := Option.some.inj ei0
  obtain ⟨i1, ei1⟩ := is_v ha1
  obtain rfl : w1 = (.int i1) := Option.some.inj ei1
  obtain ⟨i2, ei2⟩ := is_v ha2
  obtain rfl : w2 = (.int i2) := Option.some.inj ei2
  obtain ⟨i3, ei3⟩ := is_v hg3
  obtain rfl : w3 = (.int i3) := Option.some.inj ei3
  have n_z := Cond.before_iff.mp (hsets _ (List.mem_of_getElem? (i := 4) rfl))
  obtain ⟨wz, v_z⟩ := exa_v n_z
  have S_wz := Sta.start v_z (Or.inl (hsets _ (List.mem_of_getElem? (i := 1) rfl)))
  obtain ⟨n, o, h1, h2, h3, _, L, rfl, ⟨rfl, N⟩, hq⟩ := own_rm0 l s _ hw tables_1 i0 i1 i2 i3 wz s.heap s.heap.size (Nat.le_refl _) (Old.start s) S_wz p e ha hc hk s m _ below hf ((Spec.applies_iff_loose hf).mp happ).1 ⟨rfl, State.Warmed39.refl s, rfl⟩ trivial
  refine ⟨n, _, h1, h2, h3, hpost _ _ _ _ _ _ ⟨Cond.after_iff.mpr rfl, Cond.after_iff.mpr (eq_i res_at (Term.int_eval (1)) rfl), trivial⟩ ⟨hq.1, hq.2.1, (hq.2.2.sift fun y hy => Or.inr (N y hy)).mono (by decide) (by decide)⟩⟩
theorem main_1_1 : Claimed_1_1 := own_comes fun _ _ _ _ _ _ h hF => ⟨h.1, hF⟩
theorem main_1_2 : Claimed_1_2 := own_comes fun _ _ _ _ _ _ h hF => ⟨h.2.1, hF⟩
end Jvm.Pilot.@@N@@
namespace Jvm.Pilot.@@N@@
open Jvm Jvm.ClassFile Sem Op Lib Jvm.Free Jvm.Stand Jvm.Pilot.@@N@@.Jvm.D
/-! MADE BY PROGRAM (witnessworld.py) out of the Statement's table words and the real class files: 13 classes; the members and pool entries that the words name. The judged class is class 1, her method 1. -/
namespace start1
open Jvm.ClassFile
def u (s : String) : CpInfo := .utf8 (stringToUtf16 s)
/-- a pool by its gaps: so many unusable entries, then the entry; so many at the end -/
def gap : Nat → List CpInfo → List CpInfo
  | 0, r => r
  | n + 1, r => .unusable :: gap n r
def poolList (es : List (Nat × CpInfo)) (last : Nat) : List CpInfo := es.foldr (fun e r => gap e.1 (e.2 :: r)) (gap last [])
def pool (es : List (Nat × CpInfo)) (last : Nat) : Array CpInfo := ⟨poolList es last⟩
def fileOf (pool : Array CpInfo) (this : Nat) (attrs : Array Attribute := #[]) (ms : Array MethodInfo := #[]) (fl : Nat := 33) (sup : Nat := 0) (ifs : Array Nat := #[]) (fds : Array FieldInfo := #[]) : ClassFile where
  minorVersion := 0
  majorVersion := 65
  constantPool := pool
  accessFlags := fl
  thisClass := this
  superClass := sup
  interfaces := ifs
  fields := fds
  methods := ms
  attributes := attrs
def plain (name : String) (sup : Option ClassId) : Class where
  name := name
  kind := .ordinary
  loader := none
  accessFlags := 33
  super := sup
  interfaces := #[]
  cf := none
  fields := #[]
  methods := #[]
  instanceTypes := #[]
  staticTypes := #[]
  resolved := #[]
  callSites := []
  init := .initialized
  statics := none
  mirror := none

def pool0 : Array CpInfo := pool [(5, u "<init>"), (0, u "()V"), (1, .class_ 10), (1, u "java/lang/Object")] 113

def k0c0 : Code := { maxStack := 0, maxLocals := 1, code := object_method_1_code, exceptionTable := #[], attributes := #[] }
def k0m0 : Method := { name := "<init>", desc := "()V", sig := { parameters := [], returnType := none }, accessFlags := 1, code := some k0c0 }
/-- java/lang/Object -/
def k0 : Class := { plain "java/lang/Object" none with
  accessFlags := 33
  interfaces := #[]
  cf := some (fileOf pool0 8 #[] #[{ accessFlags := 1, nameIndex := 5, descriptorIndex := 6, attributes := #[] }] 33 0 #[] #[])
  fields := #[]
  methods := #[k0m0]
  instanceTypes := #[]
  staticTypes := #[]
  resolved := Array.replicate 124 none
  statics := none }

def pool1 : Array CpInfo := pool [(2, .class_ 4), (0, .nameAndType 5 6), (0, u "java/lang/Object"), (0, u "<init>"), (0, u "()V"), (0, .integer 2147483647), (0, .class_ 9), (0, u "com/example/chargeweave/chargeweave/Summary"), (0, .methodref 8 3), (0, .methodref 8 12), (0, .nameAndType 13 14), (0, u "hasRuleFileErrors"), (0, u "()Z"), (0, .methodref 8 16), (0, .nameAndType 17 18), (0, u "ruleFileErrorsRead"), (0, u "(I)V"), (0, .methodref 8 20), (0, .nameAndType 21 6), (0, u "ruleFileErrorOnClaim"), (0, .methodref 8 23), (0, .nameAndType 24 18), (0, u "claimsSplitOff"), (0, .methodref 8 26), (0, .nameAndType 27 6), (0, u "claimDiscarded"), (0, .methodref 8 29), (0, .nameAndType 30 6), (0, u "claimHeld"), (0, .class_ 32), (0, u "com/example/chargeweave/chargeweave/SummaryHasRuleFileErrorsPinLaw"), (2, u "law"), (0, u "(IIII)Z")] 3

def k1m0 : Method := { name := "<init>", desc := "()V", sig := { parameters := [], returnType := none }, accessFlags := 1, code := none }
def k1c1 : Code := { maxStack := 4, maxLocals := 13, code := code, exceptionTable := #[], attributes := #[] }
def k1m1 : Method := { name := "law", desc := "(IIII)Z", sig := { parameters := [.int, .int, .int, .int], returnType := some .boolean }, accessFlags := 9, code := some k1c1 }
/-- com/example/chargeweave/chargeweave/SummaryHasRuleFileErrorsPinLaw -/
def k1 : Class := { plain "com/example/chargeweave/chargeweave/SummaryHasRuleFileErrorsPinLaw" (some 0) with
  accessFlags := 49
  interfaces := #[]
  cf := some (fileOf pool1 31 #[] #[{ accessFlags := 1, nameIndex := 5, descriptorIndex := 6, attributes := #[] }, { accessFlags := 9, nameIndex := 35, descriptorIndex := 36, attributes := #[] }] 49 2 #[] #[])
  fields := #[]
  methods := #[k1m0, k1m1]
  instanceTypes := #[]
  staticTypes := #[]
  resolved := Array.replicate 40 none
  statics := none }

def pool2 : Array CpInfo := pool [(1, .methodref 2 3), (0, .class_ 4), (0, .nameAndType 5 6), (0, u "java/lang/Object"), (0, u "<init>"), (0, u "()V"), (0, .fieldref 8 9), (0, .class_ 10), (0, .nameAndType 11 12), (0, u "java/math/BigDecimal"), (0, u "ZERO"), (0, u "Ljava/math/BigDecimal;"), (0, .fieldref 14 15), (0, .class_ 16), (0, .nameAndType 17 12), (0, u "com/example/chargeweave/chargeweave/Summary"), (0, u "_chargesIn"), (0, .fieldref 14 19), (0, .nameAndType 20 12), (0, u "_chargesOut"), (2, u "_claimsRead"), (0, u "J"), (4, .fieldref 14 30), (0, .nameAndType 31 24), (0, u "_claimsSplitOff"), (0, .fieldref 14 33), (0, .nameAndType 34 24), (0, u "_claimsDiscarded"), (0, .fieldref 14 36), (0, .nameAndType 37 24), (0, u "_claimsHeld"), (2, u "_claimsWritten"), (0, .fieldref 14 42), (0, .nameAndType 43 24), (0, u "_ruleFileErrorsRead"), (0, .fieldref 14 45), (0, .nameAndType 46 24), (0, u "_ruleFileErrorsOnClaims"), (32, u "claimsSplitOff"), (0, u "(I)V"), (0, u "claimDiscarded"), (0, u "claimHeld"), (1, u "ruleFileErrorsRead"), (0, u "ruleFileErrorOnClaim"), (0, u "hasRuleFileErrors"), (0, u "()Z")] 6

def k2c0 : Code := { maxStack := 2, maxLocals := 1, code := prog_13_method_1_code, exceptionTable := #[], attributes := #[] }
def k2m0 : Method := { name := "<init>", desc := "()V", sig := { parameters := [], returnType := none }, accessFlags := 1, code := some k2c0 }
def k2c1 : Code := { maxStack := 5, maxLocals := 2, code := prog_13_method_3_code, exceptionTable := #[], attributes := #[] }
def k2m1 : Method := { name := "claimsSplitOff", desc := "(I)V", sig := { parameters := [.int], returnType := none }, accessFlags := 0, code := some k2c1 }
def k2c2 : Code := { maxStack := 5, maxLocals := 1, code := prog_13_method_4_code, exceptionTable := #[], attributes := #[] }
def k2m2 : Method := { name := "claimDiscarded", desc := "()V", sig := { parameters := [], returnType := none }, accessFlags := 0, code := some k2c2 }
def k2c3 : Code := { maxStack := 5, maxLocals := 1, code := prog_13_method_5_code, exceptionTable := #[], attributes := #[] }
def k2m3 : Method := { name := "claimHeld", desc := "()V", sig := { parameters := [], returnType := none }, accessFlags := 0, code := some k2c3 }
def k2c4 : Code := { maxStack := 5, maxLocals := 2, code := prog_13_method_7_code, exceptionTable := #[], attributes := #[] }
def k2m4 : Method := { name := "ruleFileErrorsRead", desc := "(I)V", sig := { parameters := [.int], returnType := none }, accessFlags := 0, code := some k2c4 }
def k2c5 : Code := { maxStack := 5, maxLocals := 1, code := prog_13_method_8_code, exceptionTable := #[], attributes := #[] }
def k2m5 : Method := { name := "ruleFileErrorOnClaim", desc := "()V", sig := { parameters := [], returnType := none }, accessFlags := 0, code := some k2c5 }
def k2c6 : Code := { maxStack := 4, maxLocals := 1, code := prog_13_method_9_code, exceptionTable := #[], attributes := #[] }
def k2m6 : Method := { name := "hasRuleFileErrors", desc := "()Z", sig := { parameters := [], returnType := some .boolean }, accessFlags := 1, code := some k2c6 }
/-- com/example/chargeweave/chargeweave/Summary -/
def k2 : Class := { plain "com/example/chargeweave/chargeweave/Summary" (some 0) with
  accessFlags := 33
  interfaces := #[]
  cf := some (fileOf pool2 14 #[] #[{ accessFlags := 1, nameIndex := 5, descriptorIndex := 6, attributes := #[] }, { accessFlags := 0, nameIndex := 79, descriptorIndex := 80, attributes := #[] }, { accessFlags := 0, nameIndex := 81, descriptorIndex := 6, attributes := #[] }, { accessFlags := 0, nameIndex := 82, descriptorIndex := 6, attributes := #[] }, { accessFlags := 0, nameIndex := 84, descriptorIndex := 80, attributes := #[] }, { accessFlags := 0, nameIndex := 85, descriptorIndex := 6, attributes := #[] }, { accessFlags := 1, nameIndex := 86, descriptorIndex := 87, attributes := #[] }] 33 2 #[] #[{ accessFlags := 2, nameIndex := 23, descriptorIndex := 24, attributes := #[] }, { accessFlags := 2, nameIndex := 31, descriptorIndex := 24, attributes := #[] }, { accessFlags := 2, nameIndex := 34, descriptorIndex := 24, attributes := #[] }, { accessFlags := 2, nameIndex := 37, descriptorIndex := 24, attributes := #[] }, { accessFlags := 2, nameIndex := 40, descriptorIndex := 24, attributes := #[] }, { accessFlags := 2, nameIndex := 17, descriptorIndex := 12, attributes := #[] }, { accessFlags := 2, nameIndex := 20, descriptorIndex := 12, attributes := #[] }, { accessFlags := 2, nameIndex := 43, descriptorIndex := 24, attributes := #[] }, { accessFlags := 2, nameIndex := 46, descriptorIndex := 24, attributes := #[] }])
  fields := #[{ name := "_claimsRead", type := .long, accessFlags := 2, slot := 0, constantValue := 0 }, { name := "_claimsSplitOff", type := .long, accessFlags := 2, slot := 1, constantValue := 0 }, { name := "_claimsDiscarded", type := .long, accessFlags := 2, slot := 2, constantValue := 0 }, { name := "_claimsHeld", type := .long, accessFlags := 2, slot := 3, constantValue := 0 }, { name := "_claimsWritten", type := .long, accessFlags := 2, slot := 4, constantValue := 0 }, { name := "_chargesIn", type := (.object "java/math/BigDecimal"), accessFlags := 2, slot := 5, constantValue := 0 }, { name := "_chargesOut", type := (.object "java/math/BigDecimal"), accessFlags := 2, slot := 6, constantValue := 0 }, { name := "_ruleFileErrorsRead", type := .long, accessFlags := 2, slot := 7, constantValue := 0 }, { name := "_ruleFileErrorsOnClaims", type := .long, accessFlags := 2, slot := 8, constantValue := 0 }]
  methods := #[k2m0, k2m1, k2m2, k2m3, k2m4, k2m5, k2m6]
  instanceTypes := #[.long, .long, .long, .long, .long, (.object "java/math/BigDecimal"), (.object "java/math/BigDecimal"), .long, .long]
  staticTypes := #[]
  resolved := Array.replicate 94 none
  statics := none }

def pool3 : Array CpInfo := pool [(1, .class_ 2), (0, u "java/io/Serializable"), (0, .class_ 4), (0, u "java/lang/Object")] 2

/-- java/io/Serializable -/
def k3 : Class := { plain "java/io/Serializable" (some 0) with
  accessFlags := 1537
  interfaces := #[]
  cf := some (fileOf pool3 1 #[] #[] 1537 3 #[] #[])
  fields := #[]
  methods := #[]
  instanceTypes := #[]
  staticTypes := #[]
  resolved := Array.replicate 7 none
  statics := none }

def pool4 : Array CpInfo := pool [(2, .class_ 4), (1, u "java/lang/Object"), (0, u "<init>"), (0, u "()V"), (1, .class_ 10), (1, u "java/lang/Number"), (2, .class_ 14), (0, u "java/io/Serializable"), (0, u "serialVersionUID"), (0, u "J")] 20

def k4m0 : Method := { name := "<init>", desc := "()V", sig := { parameters := [], returnType := none }, accessFlags := 1, code := none }
/-- java/lang/Number -/
def k4 : Class := { plain "java/lang/Number" (some 0) with
  accessFlags := 1057
  interfaces := #[3]
  cf := some (fileOf pool4 8 #[] #[{ accessFlags := 1, nameIndex := 5, descriptorIndex := 6, attributes := #[] }] 1057 2 #[13] #[{ accessFlags := 26, nameIndex := 15, descriptorIndex := 16, attributes := #[] }])
  fields := #[{ name := "serialVersionUID", type := .long, accessFlags := 26, slot := 0, constantValue := 0 }]
  methods := #[k4m0]
  instanceTypes := #[]
  staticTypes := #[.long]
  resolved := Array.replicate 37 none
  statics := none }

def pool5 : Array CpInfo := pool [(1, .class_ 2), (0, u "java/lang/Comparable"), (0, .class_ 4), (0, u "java/lang/Object")] 7

/-- java/lang/Comparable -/
def k5 : Class := { plain "java/lang/Comparable" (some 0) with
  accessFlags := 1537
  interfaces := #[]
  cf := some (fileOf pool5 1 #[] #[] 1537 3 #[] #[])
  fields := #[]
  methods := #[]
  instanceTypes := #[]
  staticTypes := #[]
  resolved := Array.replicate 12 none
  statics := none }

def pool6 : Array CpInfo := pool [(3, .class_ 4), (0, u "java/math/BigDecimal"), (7, .class_ 14), (1, u "java/lang/Number"), (4, u "scale"), (0, u "I"), (2, u "precision"), (2, u "intCompact"), (0, u "J"), (2, u "intVal"), (0, u "Ljava/math/BigInteger;"), (65, u "LONG_TEN_POWERS_TABLE"), (0, u "[J"), (88, u "ZERO"), (2, u "INFLATED_BIGINT"), (15, u "TWO"), (41, u "ZERO_THROUGH_TEN"), (0, u "[Ljava/math/BigDecimal;"), (2, u "ZERO_SCALED_BY"), (60, u "$assertionsDisabled"), (0, u "Z"), (163, u "ONE_TENTH"), (0, u "Ljava/math/BigDecimal;"), (5, u "TEN"), (14, .class_ 502), (1, u "java/math/BigDecimal$1"), (15, u "ONE_HALF"), (16, u "ONE"), (107, u "stringCache"), (0, u "Ljava/lang/String;"), (52, .class_ 699), (1, u "java/math/BigDecimal$LongOverflow"), (8, u "FLOAT_10_POW"), (0, u "[F"), (39, u "DOUBLE_10_POW"), (0, u "[D"), (19, .class_ 772), (1, u "java/math/BigDecimal$StringBuilderHelper"), (35, u "BIG_TEN_POWERS_TABLE_MAX"), (2, u "BIG_TEN_POWERS_TABLE"), (0, u "[Ljava/math/BigInteger;"), (14, u "THRESHOLDS_TABLE"), (23, .class_ 853), (1, u "java/math/BigDecimal$UnsafeHolder"), (214, u "LONGLONG_TEN_POWERS_TABLE"), (0, u "[[J"), (112, u "BIG_TEN_POWERS_TABLE_INITLEN"), (113, .class_ 1297), (0, u "java/lang/Comparable"), (0, u "L"), (0, u "D"), (1, u "P_F"), (1, u "Q_MIN_F"), (1, u "Q_MAX_F"), (1, u "P_D"), (1, u "Q_MIN_D"), (1, u "Q_MAX_D"), (1, u "INFLATED"), (0, u "MAX_COMPACT_DIGITS"), (1, u "serialVersionUID"), (2, u "HALF_LONG_MAX_VALUE"), (0, u "HALF_LONG_MIN_VALUE"), (0, u "ROUND_UP"), (6, u "ROUND_DOWN"), (1, u "ROUND_CEILING"), (1, u "ROUND_FLOOR"), (1, u "ROUND_HALF_UP"), (1, u "ROUND_HALF_DOWN"), (1, u "ROUND_HALF_EVEN"), (1, u "ROUND_UNNECESSARY"), (1, u "DIV_NUM_BASE")] 294

/-- java/math/BigDecimal -/
def k6 : Class := { plain "java/math/BigDecimal" (some 4) with
  accessFlags := 33
  interfaces := #[5]
  cf := some (fileOf pool6 3 #[.nestMembers #[500, 851, 770, 697]] #[] 33 12 #[1296] #[{ accessFlags := 26, nameIndex := 1298, descriptorIndex := 1299, attributes := #[] }, { accessFlags := 26, nameIndex := 1301, descriptorIndex := 20, attributes := #[] }, { accessFlags := 26, nameIndex := 1303, descriptorIndex := 20, attributes := #[] }, { accessFlags := 26, nameIndex := 1305, descriptorIndex := 20, attributes := #[] }, { accessFlags := 26, nameIndex := 1307, descriptorIndex := 20, attributes := #[] }, { accessFlags := 26, nameIndex := 1309, descriptorIndex := 20, attributes := #[] }, { accessFlags := 26, nameIndex := 1311, descriptorIndex := 20, attributes := #[] }, { accessFlags := 18, nameIndex := 30, descriptorIndex := 31, attributes := #[] }, { accessFlags := 18, nameIndex := 19, descriptorIndex := 20, attributes := #[] }, { accessFlags := 130, nameIndex := 23, descriptorIndex := 20, attributes := #[] }, { accessFlags := 130, nameIndex := 643, descriptorIndex := 644, attributes := #[] }, { accessFlags := 24, nameIndex := 1313, descriptorIndex := 27, attributes := #[] }, { accessFlags := 26, nameIndex := 190, descriptorIndex := 31, attributes := #[] }, { accessFlags := 146, nameIndex := 26, descriptorIndex := 27, attributes := #[] }, { accessFlags := 26, nameIndex := 1314, descriptorIndex := 20, attributes := #[] }, { accessFlags := 26, nameIndex := 1316, descriptorIndex := 27, attributes := #[] }, { accessFlags := 26, nameIndex := 248, descriptorIndex := 249, attributes := #[] }, { accessFlags := 26, nameIndex := 252, descriptorIndex := 249, attributes := #[] }, { accessFlags := 26, nameIndex := 1319, descriptorIndex := 27, attributes := #[] }, { accessFlags := 26, nameIndex := 1320, descriptorIndex := 27, attributes := #[] }, { accessFlags := 25, nameIndex := 187, descriptorIndex := 479, attributes := #[] }, { accessFlags := 25, nameIndex := 535, descriptorIndex := 479, attributes := #[] }, { accessFlags := 25, nameIndex := 206, descriptorIndex := 479, attributes := #[] }, { accessFlags := 25, nameIndex := 485, descriptorIndex := 479, attributes := #[] }, { accessFlags := 26, nameIndex := 478, descriptorIndex := 479, attributes := #[] }, { accessFlags := 26, nameIndex := 518, descriptorIndex := 479, attributes := #[] }, { accessFlags := 25, nameIndex := 1321, descriptorIndex := 20, attributes := #[] }, { accessFlags := 25, nameIndex := 1328, descriptorIndex := 20, attributes := #[] }, { accessFlags := 25, nameIndex := 1330, descriptorIndex := 20, attributes := #[] }, { accessFlags := 25, nameIndex := 1332, descriptorIndex := 20, attributes := #[] }, { accessFlags := 25, nameIndex := 1334, descriptorIndex := 20, attributes := #[] }, { accessFlags := 25, nameIndex := 1336, descriptorIndex := 20, attributes := #[] }, { accessFlags := 25, nameIndex := 1338, descriptorIndex := 20, attributes := #[] }, { accessFlags := 25, nameIndex := 1340, descriptorIndex := 20, attributes := #[] }, { accessFlags := 26, nameIndex := 749, descriptorIndex := 750, attributes := #[] }, { accessFlags := 26, nameIndex := 708, descriptorIndex := 709, attributes := #[] }, { accessFlags := 26, nameIndex := 97, descriptorIndex := 98, attributes := #[] }, { accessFlags := 74, nameIndex := 811, descriptorIndex := 812, attributes := #[] }, { accessFlags := 26, nameIndex := 1182, descriptorIndex := 20, attributes := #[] }, { accessFlags := 26, nameIndex := 808, descriptorIndex := 20, attributes := #[] }, { accessFlags := 26, nameIndex := 827, descriptorIndex := 98, attributes := #[] }, { accessFlags := 26, nameIndex := 1342, descriptorIndex := 27, attributes := #[] }, { accessFlags := 26, nameIndex := 1068, descriptorIndex := 1069, attributes := #[] }, { accessFlags := 4120, nameIndex := 313, descriptorIndex := 314, attributes := #[] }])
  fields := #[{ name := "L", type := .double, accessFlags := 26, slot := 0, constantValue := 0 }, { name := "P_F", type := .int, accessFlags := 26, slot := 1, constantValue := 0 }, { name := "Q_MIN_F", type := .int, accessFlags := 26, slot := 2, constantValue := 0 }, { name := "Q_MAX_F", type := .int, accessFlags := 26, slot := 3, constantValue := 0 }, { name := "P_D", type := .int, accessFlags := 26, slot := 4, constantValue := 0 }, { name := "Q_MIN_D", type := .int, accessFlags := 26, slot := 5, constantValue := 0 }, { name := "Q_MAX_D", type := .int, accessFlags := 26, slot := 6, constantValue := 0 }, { name := "intVal", type := (.object "java/math/BigInteger"), accessFlags := 18, slot := 0, constantValue := 0 }, { name := "scale", type := .int, accessFlags := 18, slot := 1, constantValue := 0 }, { name := "precision", type := .int, accessFlags := 130, slot := 2, constantValue := 0 }, { name := "stringCache", type := (.object "java/lang/String"), accessFlags := 130, slot := 3, constantValue := 0 }, { name := "INFLATED", type := .long, accessFlags := 24, slot := 7, constantValue := 0 }, { name := "INFLATED_BIGINT", type := (.object "java/math/BigInteger"), accessFlags := 26, slot := 8, constantValue := 0 }, { name := "intCompact", type := .long, accessFlags := 146, slot := 4, constantValue := 0 }, { name := "MAX_COMPACT_DIGITS", type := .int, accessFlags := 26, slot := 9, constantValue := 0 }, { name := "serialVersionUID", type := .long, accessFlags := 26, slot := 10, constantValue := 0 }, { name := "ZERO_THROUGH_TEN", type := (.array (.object "java/math/BigDecimal")), accessFlags := 26, slot := 11, constantValue := 0 }, { name := "ZERO_SCALED_BY", type := (.array (.object "java/math/BigDecimal")), accessFlags := 26, slot := 12, constantValue := 0 }, { name := "HALF_LONG_MAX_VALUE", type := .long, accessFlags := 26, slot := 13, constantValue := 0 }, { name := "HALF_LONG_MIN_VALUE", type := .long, accessFlags := 26, slot := 14, constantValue := 0 }, { name := "ZERO", type := (.object "java/math/BigDecimal"), accessFlags := 25, slot := 15, constantValue := 0 }, { name := "ONE", type := (.object "java/math/BigDecimal"), accessFlags := 25, slot := 16, constantValue := 0 }, { name := "TWO", type := (.object "java/math/BigDecimal"), accessFlags := 25, slot := 17, constantValue := 0 }, { name := "TEN", type := (.object "java/math/BigDecimal"), accessFlags := 25, slot := 18, constantValue := 0 }, { name := "ONE_TENTH", type := (.object "java/math/BigDecimal"), accessFlags := 26, slot := 19, constantValue := 0 }, { name := "ONE_HALF", type := (.object "java/math/BigDecimal"), accessFlags := 26, slot := 20, constantValue := 0 }, { name := "ROUND_UP", type := .int, accessFlags := 25, slot := 21, constantValue := 0 }, { name := "ROUND_DOWN", type := .int, accessFlags := 25, slot := 22, constantValue := 0 }, { name := "ROUND_CEILING", type := .int, accessFlags := 25, slot := 23, constantValue := 0 }, { name := "ROUND_FLOOR", type := .int, accessFlags := 25, slot := 24, constantValue := 0 }, { name := "ROUND_HALF_UP", type := .int, accessFlags := 25, slot := 25, constantValue := 0 }, { name := "ROUND_HALF_DOWN", type := .int, accessFlags := 25, slot := 26, constantValue := 0 }, { name := "ROUND_HALF_EVEN", type := .int, accessFlags := 25, slot := 27, constantValue := 0 }, { name := "ROUND_UNNECESSARY", type := .int, accessFlags := 25, slot := 28, constantValue := 0 }, { name := "DOUBLE_10_POW", type := (.array .double), accessFlags := 26, slot := 29, constantValue := 0 }, { name := "FLOAT_10_POW", type := (.array .float), accessFlags := 26, slot := 30, constantValue := 0 }, { name := "LONG_TEN_POWERS_TABLE", type := (.array .long), accessFlags := 26, slot := 31, constantValue := 0 }, { name := "BIG_TEN_POWERS_TABLE", type := (.array (.object "java/math/BigInteger")), accessFlags := 74, slot := 32, constantValue := 0 }, { name := "BIG_TEN_POWERS_TABLE_INITLEN", type := .int, accessFlags := 26, slot := 33, constantValue := 0 }, { name := "BIG_TEN_POWERS_TABLE_MAX", type := .int, accessFlags := 26, slot := 34, constantValue := 0 }, { name := "THRESHOLDS_TABLE", type := (.array .long), accessFlags := 26, slot := 35, constantValue := 0 }, { name := "DIV_NUM_BASE", type := .long, accessFlags := 26, slot := 36, constantValue := 0 }, { name := "LONGLONG_TEN_POWERS_TABLE", type := (.array (.array .long)), accessFlags := 26, slot := 37, constantValue := 0 }, { name := "$assertionsDisabled", type := .boolean, accessFlags := 4120, slot := 38, constantValue := 0 }]
  methods := #[]
  instanceTypes := #[(.object "java/math/BigInteger"), .int, .int, (.object "java/lang/String"), .long]
  staticTypes := #[.double, .int, .int, .int, .int, .int, .int, .long, (.object "java/math/BigInteger"), .int, .long, (.array (.object "java/math/BigDecimal")), (.array (.object "java/math/BigDecimal")), .long, .long, (.object "java/math/BigDecimal"), (.object "java/math/BigDecimal"), (.object "java/math/BigDecimal"), (.object "java/math/BigDecimal"), (.object "java/math/BigDecimal"), (.object "java/math/BigDecimal"), .int, .int, .int, .int, .int, .int, .int, .int, (.array .double), (.array .float), (.array .long), (.array (.object "java/math/BigInteger")), .int, .int, (.array .long), .long, (.array (.array .long)), .boolean]
  resolved := Array.replicate 1637 none
  statics := some 0 }

def pool7 : Array CpInfo := pool [(4, .class_ 6), (1, u "java/lang/Number"), (16, .class_ 25), (1, u "java/math/BigInteger"), (0, u "ZERO"), (0, u "Ljava/math/BigInteger;"), (2, u "mag"), (0, u "[I"), (2, u "signum"), (0, u "I"), (59, u "bitsPerDigit"), (0, u "[J"), (9, u "digitsPerInt"), (12, u "intRadix"), (60, u "SMALL_PRIME_PRODUCT"), (79, u "ONE"), (6, u "TWO"), (43, u "$assertionsDisabled"), (0, u "Z"), (36, u "posConst"), (0, u "[Ljava/math/BigInteger;"), (4, u "negConst"), (116, .class_ 474), (1, u "java/math/BigInteger$RecursiveOp"), (106, u "NEGATIVE_ONE"), (91, u "bnExpModThreshTable"), (72, u "lowestSetBitPlusTwo"), (2, u "bitLengthPlusOne"), (2, u "bitCountPlusOne"), (6, u "LOG_TWO"), (0, u "D"), (2, u "logCache"), (0, u "[D"), (13, u "NUM_ZEROS"), (2, u "ZEROS"), (0, u "Ljava/lang/String;"), (9, u "longRadix"), (5, u "digitsPerLong"), (22, u "powerCache"), (0, u "[[Ljava/math/BigInteger;"), (45, u "firstNonzeroIntNumPlusTwo"), (38, .class_ 909), (1, u "java/math/BigInteger$UnsafeHolder"), (141, u "TEN"), (106, u "serialPersistentFields"), (0, u "[Ljava/io/ObjectStreamField;"), (0, .class_ 1161), (0, u "java/lang/Comparable"), (0, u "LONG_MASK"), (0, u "J"), (1, u "MAX_MAG_LENGTH"), (0, u "PRIME_SEARCH_BIT_LENGTH_LIMIT"), (1, u "KARATSUBA_THRESHOLD"), (1, u "TOOM_COOK_THRESHOLD"), (1, u "KARATSUBA_SQUARE_THRESHOLD"), (1, u "TOOM_COOK_SQUARE_THRESHOLD"), (1, u "BURNIKEL_ZIEGLER_THRESHOLD"), (0, u "BURNIKEL_ZIEGLER_OFFSET"), (1, u "SCHOENHAGE_BASE_CONVERSION_THRESHOLD"), (1, u "MULTIPLY_SQUARE_THRESHOLD"), (0, u "MONTGOMERY_INTRINSIC_THRESHOLD"), (1, u "SMALL_PRIME_THRESHOLD"), (1, u "DEFAULT_PRIME_CERTAINTY"), (1, u "MAX_CONSTANT"), (3, u "serialVersionUID"), (338, .class_ 1532), (0, u "java/math/BigInteger$RecursiveOp$RecursiveSquare"), (0, .class_ 1534), (0, u "java/math/BigInteger$RecursiveOp$RecursiveMultiply")] 7

/-- java/math/BigInteger -/
def k7 : Class := { plain "java/math/BigInteger" (some 4) with
  accessFlags := 33
  interfaces := #[5]
  cf := some (fileOf pool7 23 #[.nestMembers #[907, 472, 1531, 1533]] #[] 33 4 #[1160] #[{ accessFlags := 16, nameIndex := 34, descriptorIndex := 35, attributes := #[] }, { accessFlags := 16, nameIndex := 30, descriptorIndex := 31, attributes := #[] }, { accessFlags := 2, nameIndex := 752, descriptorIndex := 35, attributes := #[] }, { accessFlags := 2, nameIndex := 749, descriptorIndex := 35, attributes := #[] }, { accessFlags := 2, nameIndex := 746, descriptorIndex := 35, attributes := #[] }, { accessFlags := 2, nameIndex := 868, descriptorIndex := 35, attributes := #[] }, { accessFlags := 24, nameIndex := 1162, descriptorIndex := 1163, attributes := #[] }, { accessFlags := 26, nameIndex := 1165, descriptorIndex := 35, attributes := #[] }, { accessFlags := 26, nameIndex := 1166, descriptorIndex := 35, attributes := #[] }, { accessFlags := 26, nameIndex := 1168, descriptorIndex := 35, attributes := #[] }, { accessFlags := 26, nameIndex := 1170, descriptorIndex := 35, attributes := #[] }, { accessFlags := 26, nameIndex := 1172, descriptorIndex := 35, attributes := #[] }, { accessFlags := 26, nameIndex := 1174, descriptorIndex := 35, attributes := #[] }, { accessFlags := 24, nameIndex := 1176, descriptorIndex := 35, attributes := #[] }, { accessFlags := 24, nameIndex := 1177, descriptorIndex := 35, attributes := #[] }, { accessFlags := 26, nameIndex := 1179, descriptorIndex := 35, attributes := #[] }, { accessFlags := 26, nameIndex := 1181, descriptorIndex := 35, attributes := #[] }, { accessFlags := 26, nameIndex := 1182, descriptorIndex := 35, attributes := #[] }, { accessFlags := 10, nameIndex := 95, descriptorIndex := 96, attributes := #[] }, { accessFlags := 26, nameIndex := 1184, descriptorIndex := 35, attributes := #[] }, { accessFlags := 26, nameIndex := 1186, descriptorIndex := 35, attributes := #[] }, { accessFlags := 26, nameIndex := 180, descriptorIndex := 27, attributes := #[] }, { accessFlags := 26, nameIndex := 1188, descriptorIndex := 35, attributes := #[] }, { accessFlags := 26, nameIndex := 349, descriptorIndex := 350, attributes := #[] }, { accessFlags := 26, nameIndex := 355, descriptorIndex := 350, attributes := #[] }, { accessFlags := 74, nameIndex := 821, descriptorIndex := 822, attributes := #[] }, { accessFlags := 26, nameIndex := 763, descriptorIndex := 764, attributes := #[] }, { accessFlags := 26, nameIndex := 759, descriptorIndex := 760, attributes := #[] }, { accessFlags := 25, nameIndex := 26, descriptorIndex := 27, attributes := #[] }, { accessFlags := 25, nameIndex := 260, descriptorIndex := 27, attributes := #[] }, { accessFlags := 25, nameIndex := 267, descriptorIndex := 27, attributes := #[] }, { accessFlags := 26, nameIndex := 581, descriptorIndex := 27, attributes := #[] }, { accessFlags := 25, nameIndex := 1051, descriptorIndex := 27, attributes := #[] }, { accessFlags := 8, nameIndex := 673, descriptorIndex := 31, attributes := #[] }, { accessFlags := 10, nameIndex := 778, descriptorIndex := 35, attributes := #[] }, { accessFlags := 26, nameIndex := 781, descriptorIndex := 782, attributes := #[] }, { accessFlags := 10, nameIndex := 798, descriptorIndex := 31, attributes := #[] }, { accessFlags := 10, nameIndex := 792, descriptorIndex := 350, attributes := #[] }, { accessFlags := 10, nameIndex := 106, descriptorIndex := 31, attributes := #[] }, { accessFlags := 10, nameIndex := 119, descriptorIndex := 31, attributes := #[] }, { accessFlags := 26, nameIndex := 1192, descriptorIndex := 1163, attributes := #[] }, { accessFlags := 26, nameIndex := 1158, descriptorIndex := 1159, attributes := #[] }, { accessFlags := 4120, nameIndex := 311, descriptorIndex := 312, attributes := #[] }])
  fields := #[{ name := "signum", type := .int, accessFlags := 16, slot := 0, constantValue := 0 }, { name := "mag", type := (.array .int), accessFlags := 16, slot := 1, constantValue := 0 }, { name := "bitCountPlusOne", type := .int, accessFlags := 2, slot := 2, constantValue := 0 }, { name := "bitLengthPlusOne", type := .int, accessFlags := 2, slot := 3, constantValue := 0 }, { name := "lowestSetBitPlusTwo", type := .int, accessFlags := 2, slot := 4, constantValue := 0 }, { name := "firstNonzeroIntNumPlusTwo", type := .int, accessFlags := 2, slot := 5, constantValue := 0 }, { name := "LONG_MASK", type := .long, accessFlags := 24, slot := 0, constantValue := 0 }, { name := "MAX_MAG_LENGTH", type := .int, accessFlags := 26, slot := 1, constantValue := 0 }, { name := "PRIME_SEARCH_BIT_LENGTH_LIMIT", type := .int, accessFlags := 26, slot := 2, constantValue := 0 }, { name := "KARATSUBA_THRESHOLD", type := .int, accessFlags := 26, slot := 3, constantValue := 0 }, { name := "TOOM_COOK_THRESHOLD", type := .int, accessFlags := 26, slot := 4, constantValue := 0 }, { name := "KARATSUBA_SQUARE_THRESHOLD", type := .int, accessFlags := 26, slot := 5, constantValue := 0 }, { name := "TOOM_COOK_SQUARE_THRESHOLD", type := .int, accessFlags := 26, slot := 6, constantValue := 0 }, { name := "BURNIKEL_ZIEGLER_THRESHOLD", type := .int, accessFlags := 24, slot := 7, constantValue := 0 }, { name := "BURNIKEL_ZIEGLER_OFFSET", type := .int, accessFlags := 24, slot := 8, constantValue := 0 }, { name := "SCHOENHAGE_BASE_CONVERSION_THRESHOLD", type := .int, accessFlags := 26, slot := 9, constantValue := 0 }, { name := "MULTIPLY_SQUARE_THRESHOLD", type := .int, accessFlags := 26, slot := 10, constantValue := 0 }, { name := "MONTGOMERY_INTRINSIC_THRESHOLD", type := .int, accessFlags := 26, slot := 11, constantValue := 0 }, { name := "bitsPerDigit", type := (.array .long), accessFlags := 10, slot := 12, constantValue := 0 }, { name := "SMALL_PRIME_THRESHOLD", type := .int, accessFlags := 26, slot := 13, constantValue := 0 }, { name := "DEFAULT_PRIME_CERTAINTY", type := .int, accessFlags := 26, slot := 14, constantValue := 0 }, { name := "SMALL_PRIME_PRODUCT", type := (.object "java/math/BigInteger"), accessFlags := 26, slot := 15, constantValue := 0 }, { name := "MAX_CONSTANT", type := .int, accessFlags := 26, slot := 16, constantValue := 0 }, { name := "posConst", type := (.array (.object "java/math/BigInteger")), accessFlags := 26, slot := 17, constantValue := 0 }, { name := "negConst", type := (.array (.object "java/math/BigInteger")), accessFlags := 26, slot := 18, constantValue := 0 }, { name := "powerCache", type := (.array (.array (.object "java/math/BigInteger"))), accessFlags := 74, slot := 19, constantValue := 0 }, { name := "logCache", type := (.array .double), accessFlags := 26, slot := 20, constantValue := 0 }, { name := "LOG_TWO", type := .double, accessFlags := 26, slot := 21, constantValue := 0 }, { name := "ZERO", type := (.object "java/math/BigInteger"), accessFlags := 25, slot := 22, constantValue := 0 }, { name := "ONE", type := (.object "java/math/BigInteger"), accessFlags := 25, slot := 23, constantValue := 0 }, { name := "TWO", type := (.object "java/math/BigInteger"), accessFlags := 25, slot := 24, constantValue := 0 }, { name := "NEGATIVE_ONE", type := (.object "java/math/BigInteger"), accessFlags := 26, slot := 25, constantValue := 0 }, { name := "TEN", type := (.object "java/math/BigInteger"), accessFlags := 25, slot := 26, constantValue := 0 }, { name := "bnExpModThreshTable", type := (.array .int), accessFlags := 8, slot := 27, constantValue := 0 }, { name := "NUM_ZEROS", type := .int, accessFlags := 10, slot := 28, constantValue := 0 }, { name := "ZEROS", type := (.object "java/lang/String"), accessFlags := 26, slot := 29, constantValue := 0 }, { name := "digitsPerLong", type := (.array .int), accessFlags := 10, slot := 30, constantValue := 0 }, { name := "longRadix", type := (.array (.object "java/math/BigInteger")), accessFlags := 10, slot := 31, constantValue := 0 }, { name := "digitsPerInt", type := (.array .int), accessFlags := 10, slot := 32, constantValue := 0 }, { name := "intRadix", type := (.array .int), accessFlags := 10, slot := 33, constantValue := 0 }, { name := "serialVersionUID", type := .long, accessFlags := 26, slot := 34, constantValue := 0 }, { name := "serialPersistentFields", type := (.array (.object "java/io/ObjectStreamField")), accessFlags := 26, slot := 35, constantValue := 0 }, { name := "$assertionsDisabled", type := .boolean, accessFlags := 4120, slot := 36, constantValue := 0 }]
  methods := #[]
  instanceTypes := #[.int, (.array .int), .int, .int, .int, .int]
  staticTypes := #[.long, .int, .int, .int, .int, .int, .int, .int, .int, .int, .int, .int, (.array .long), .int, .int, (.object "java/math/BigInteger"), .int, (.array (.object "java/math/BigInteger")), (.array (.object "java/math/BigInteger")), (.array (.array (.object "java/math/BigInteger"))), (.array .double), .double, (.object "java/math/BigInteger"), (.object "java/math/BigInteger"), (.object "java/math/BigInteger"), (.object "java/math/BigInteger"), (.object "java/math/BigInteger"), (.array .int), .int, (.object "java/lang/String"), (.array .int), (.array (.object "java/math/BigInteger")), (.array .int), (.array .int), .long, (.array (.object "java/io/ObjectStreamField")), .boolean]
  resolved := Array.replicate 1542 none
  statics := some 1 }

def pool8 : Array CpInfo := pool [(1, u "java/lang/Cloneable"), (0, .class_ 1), (0, u "java/lang/Object"), (0, .class_ 3)] 3

/-- java/lang/Cloneable -/
def k8 : Class := { plain "java/lang/Cloneable" (some 0) with
  accessFlags := 1537
  interfaces := #[]
  cf := some (fileOf pool8 2 #[] #[] 1537 4 #[] #[])
  fields := #[]
  methods := #[]
  instanceTypes := #[]
  staticTypes := #[]
  resolved := Array.replicate 8 none
  statics := none }

/-- the primitive byte -/
def k9 : Class := { plain "byte" none with kind := .primitive 'B', accessFlags := 0x411 }
/-- [B -/
def k10 : Class := { plain "[B" (some 0) with kind := .array 9 .byte, interfaces := #[8, 3], accessFlags := 1041 }

/-- the primitive int -/
def k11 : Class := { plain "int" none with kind := .primitive 'I', accessFlags := 0x411 }
/-- [I -/
def k12 : Class := { plain "[I" (some 0) with kind := .array 11 .int, interfaces := #[8, 3], accessFlags := 1041 }

def heap : Heap := #[{ cls := 6, slots := #[.double 0, .int 0, .int 0, .int 0, .int 0, .int 0, .int 0, .long 0, .null, .int 0, .long 0, .null, .null, .long 0, .long 0, .ref 4, .null, .null, .null, .null, .null, .int 0, .int 0, .int 0, .int 0, .int 0, .int 0, .int 0, .int 0, .null, .null, .null, .null, .int 0, .int 0, .null, .long 0, .null, .int 0], vm := .statics 6 },
  { cls := 7, slots := #[.long 0, .int 0, .int 0, .int 0, .int 0, .int 0, .int 0, .int 0, .int 0, .int 0, .int 0, .int 0, .null, .int 0, .int 0, .null, .int 0, .null, .null, .null, .null, .double 0, .ref 3, .null, .null, .null, .null, .null, .int 0, .null, .null, .null, .null, .null, .long 0, .null, .int 0], vm := .statics 7 },
  { cls := 12, slots := #[], vm := .none },
  { cls := 7, slots := #[.int 0, .ref 2, .int 0, .int 0, .int 0, .int 0], vm := .none },
  { cls := 6, slots := #[.ref 3, .int 0, .int 0, .null, .long 0], vm := .none }]
def classes : Array Class := #[k0, k1, k2, k3, k4, k5, k6, k7, k8, k9, k10, k11, k12]
def interned : List (Array UInt16 × Addr) := []
def slotsUsed : Nat := 87
def theMethod : MethodId := ⟨1, 1⟩
def args0 : Array Value := #[.int 5, .int 6, .int 7, .int 8]
def aboutOver (below : List Frame) : State where
  vm := { classes := classes, interned := interned.toArray }
  heap := heap
  slotsUsed := slotsUsed
  threads := #[{ frames := .invoking theMethod args0 :: below }]
def below0 : List Frame := [.native { method := ⟨0, 0⟩, args := #[] }]
def about1 : State := aboutOver below0
def p0 : Program := .bare "" "" ""
def e0 : Env := launch0.env 0 0 0
theorem w_frames : about1.frames = Frame.invoking theMethod args0 :: below0 := rfl
set_option maxRecDepth 65536 in
theorem w_args : argsFit about1.vm theMethod args0 = true := by decide +kernel
set_option maxRecDepth 65536 in
theorem w_heap : heapFits about1 = true := by decide +kernel
set_option maxRecDepth 65536 in
theorem w_runnable : about1.curStatus? = some .runnable := by decide +kernel
set_option maxRecDepth 65536 in
theorem w_alone : about1.alone = true := by decide +kernel
set_option maxRecDepth 65536 in
theorem w_named : about1.methodNamed? x = some theMethod := by decide +kernel
set_option maxRecDepth 65536 in
theorem w_hears : about1.hears theMethod below0 = true := by decide +kernel
set_option maxRecDepth 65536 in
theorem w_ripe : about1.ripe theMethod args0 below0 = true := by decide +kernel
theorem w_running : about1.status = .running := rfl
set_option maxRecDepth 65536 in
theorem w_room : about1.hasRoom e0.platform room_1 = true :=
  launch0.hasRoom_least _ room_1 (by decide +kernel) (by decide +kernel) (by decide +kernel) (by decide +kernel) (by decide +kernel) (by decide +kernel)
theorem allAtoms_all (ts : List Jvm.Cond) (a : Array Jvm.Value) (st : Jvm.State) : (allAtoms ts).before a st = ts.all (fun c => c.before a st) := by
  induction ts with
  | nil => rfl
  | cons c t ih =>
    show (Jvm.Cond.and c (allAtoms t)).before a st = _
    rw [Jvm.Cond.before_and, ih, List.all_cons]
def words1 : List Jvm.Cond := Jvm.Cond.code x code maxLocals ret :: tables_1
/-- a 'code' word, met by the world's own term for the bytes: nothing is compared byte by byte -/
theorem code_word {y : MethodName} {bytes : ByteArray} {mx : Nat} {rt : Option FieldType} {a : Array Value} {s : State} {m : MethodId} {meth : Method} {c : Code} (h1 : s.methodNamed? y = some m) (h2 : s.vm.method? m = some meth) (h3 : meth.code = some c) (h4 : c.code = bytes)
    (h5 : (c.maxLocals == mx && c.exceptionTable.isEmpty && decide (c.maxStack ≤ mostOperands) && decide (meth.sig.returnType = rt) && !meth.locks && decide (parseMethodDescriptor y.desc = some meth.sig)) = true) : (Jvm.Cond.code y bytes mx rt).before a s = true := by
  simp only [Bool.and_eq_true, beq_iff_eq, Bool.not_eq_true', decide_eq_true_eq] at h5
  obtain ⟨⟨⟨⟨⟨g1, g2⟩, g3⟩, g4⟩, g5⟩, g6⟩ := h5
  simp [Cond.before, Cond.holds, Cond.value, h1, h2, h3, h4, g1, g2, g3, g4, g5, g6]
def isCode : Jvm.Cond → Bool
  | .code _ _ _ _ => true
  | _ => false
theorem all_split {L : List Jvm.Cond} {P : Jvm.Cond → Bool} (h1 : L.all (fun c => isCode c || P c) = true) (h2 : ∀ c ∈ L.filter isCode, P c = true) : L.all P = true := by
  refine List.all_eq_true.mpr fun c hc => ?_
  have h := List.all_eq_true.mp h1 c hc
  rcases Bool.eq_false_or_eq_true (isCode c) with hi | hi
  · exact h2 c (List.mem_filter.mpr ⟨hc, hi⟩)
  · simpa [hi] using h
set_option maxRecDepth 65536 in
theorem w_c0 : (Jvm.Cond.code x code maxLocals ret).before args0 about1 = true := code_word (m := ⟨1, 1⟩) (meth := k1m1) (c := k1c1) (by decide +kernel) rfl rfl rfl (by decide +kernel)
set_option maxRecDepth 65536 in
theorem w_c1 : (Jvm.Cond.code ({ cls := "com/example/chargeweave/chargeweave/Summary", name := "<init>", desc := "()V" } : Jvm.MethodName) prog_13_method_1_code (1 : Nat) (Option.none : Option Jvm.ClassFile.FieldType)).before args0 about1 = true := code_word (m := ⟨2, 0⟩) (meth := k2m0) (c := k2c0) (by decide +kernel) rfl rfl rfl (by decide +kernel)
set_option maxRecDepth 65536 in
theorem w_c2 : (Jvm.Cond.code ({ cls := "java/lang/Object", name := "<init>", desc := "()V" } : Jvm.MethodName) object_method_1_code (1 : Nat) (Option.none : Option Jvm.ClassFile.FieldType)).before args0 about1 = true := code_word (m := ⟨0, 0⟩) (meth := k0m0) (c := k0c0) (by decide +kernel) rfl rfl rfl (by decide +kernel)
set_option maxRecDepth 65536 in
theorem w_c3 : (Jvm.Cond.code ({ cls := "com/example/chargeweave/chargeweave/Summary", name := "hasRuleFileErrors", desc := "()Z" } : Jvm.MethodName) prog_13_method_9_code (1 : Nat) (Option.some Jvm.ClassFile.FieldType.boolean)).before args0 about1 = true := code_word (m := ⟨2, 6⟩) (meth := k2m6) (c := k2c6) (by decide +kernel) rfl rfl rfl (by decide +kernel)
set_option maxRecDepth 65536 in
theorem w_c4 : (Jvm.Cond.code ({ cls := "com/example/chargeweave/chargeweave/Summary", name := "ruleFileErrorOnClaim", desc := "()V" } : Jvm.MethodName) prog_13_method_8_code (1 : Nat) (Option.none : Option Jvm.ClassFile.FieldType)).before args0 about1 = true := code_word (m := ⟨2, 5⟩) (meth := k2m5) (c := k2c5) (by decide +kernel) rfl rfl rfl (by decide +kernel)
set_option maxRecDepth 65536 in
theorem w_c5 : (Jvm.Cond.code ({ cls := "com/example/chargeweave/chargeweave/Summary", name := "ruleFileErrorsRead", desc := "(I)V" } : Jvm.MethodName) prog_13_method_7_code (2 : Nat) (Option.none : Option Jvm.ClassFile.FieldType)).before args0 about1 = true := code_word (m := ⟨2, 4⟩) (meth := k2m4) (c := k2c4) (by decide +kernel) rfl rfl rfl (by decide +kernel)
set_option maxRecDepth 65536 in
theorem w_c6 : (Jvm.Cond.code ({ cls := "com/example/chargeweave/chargeweave/Summary", name := "claimsSplitOff", desc := "(I)V" } : Jvm.MethodName) prog_13_method_3_code (2 : Nat) (Option.none : Option Jvm.ClassFile.FieldType)).before args0 about1 = true := code_word (m := ⟨2, 1⟩) (meth := k2m1) (c := k2c1) (by decide +kernel) rfl rfl rfl (by decide +kernel)
set_option maxRecDepth 65536 in
theorem w_c7 : (Jvm.Cond.code ({ cls := "com/example/chargeweave/chargeweave/Summary", name := "claimDiscarded", desc := "()V" } : Jvm.MethodName) prog_13_method_4_code (1 : Nat) (Option.none : Option Jvm.ClassFile.FieldType)).before args0 about1 = true := code_word (m := ⟨2, 2⟩) (meth := k2m2) (c := k2c2) (by decide +kernel) rfl rfl rfl (by decide +kernel)
set_option maxRecDepth 65536 in
theorem w_c8 : (Jvm.Cond.code ({ cls := "com/example/chargeweave/chargeweave/Summary", name := "claimHeld", desc := "()V" } : Jvm.MethodName) prog_13_method_5_code (1 : Nat) (Option.none : Option Jvm.ClassFile.FieldType)).before args0 about1 = true := code_word (m := ⟨2, 3⟩) (meth := k2m3) (c := k2c3) (by decide +kernel) rfl rfl rfl (by decide +kernel)
def codes1 : List Jvm.Cond := [Jvm.Cond.code x code maxLocals ret, Jvm.Cond.code ({ cls := "com/example/chargeweave/chargeweave/Summary", name := "<init>", desc := "()V" } : Jvm.MethodName) prog_13_method_1_code (1 : Nat) (Option.none : Option Jvm.ClassFile.FieldType), Jvm.Cond.code ({ cls := "java/lang/Object", name := "<init>", desc := "()V" } : Jvm.MethodName) object_method_1_code (1 : Nat) (Option.none : Option Jvm.ClassFile.FieldType), Jvm.Cond.code ({ cls := "com/example/chargeweave/chargeweave/Summary", name := "hasRuleFileErrors", desc := "()Z" } : Jvm.MethodName) prog_13_method_9_code (1 : Nat) (Option.some Jvm.ClassFile.FieldType.boolean), Jvm.Cond.code ({ cls := "com/example/chargeweave/chargeweave/Summary", name := "ruleFileErrorOnClaim", desc := "()V" } : Jvm.MethodName) prog_13_method_8_code (1 : Nat) (Option.none : Option Jvm.ClassFile.FieldType), Jvm.Cond.code ({ cls := "com/example/chargeweave/chargeweave/Summary", name := "ruleFileErrorsRead", desc := "(I)V" } : Jvm.MethodName) prog_13_method_7_code (2 : Nat) (Option.none : Option Jvm.ClassFile.FieldType), Jvm.Cond.code ({ cls := "com/example/chargeweave/chargeweave/Summary", name := "claimsSplitOff", desc := "(I)V" } : Jvm.MethodName) prog_13_method_3_code (2 : Nat) (Option.none : Option Jvm.ClassFile.FieldType), Jvm.Cond.code ({ cls := "com/example/chargeweave/chargeweave/Summary", name := "claimDiscarded", desc := "()V" } : Jvm.MethodName) prog_13_method_4_code (1 : Nat) (Option.none : Option Jvm.ClassFile.FieldType), Jvm.Cond.code ({ cls := "com/example/chargeweave/chargeweave/Summary", name := "claimHeld", desc := "()V" } : Jvm.MethodName) prog_13_method_5_code (1 : Nat) (Option.none : Option Jvm.ClassFile.FieldType)]
set_option maxRecDepth 65536 in
theorem codes_eq : words1.filter isCode = codes1 := rfl
theorem w_codes : ∀ c ∈ words1.filter isCode, c.before args0 about1 = true := by
  rw [codes_eq]
  intro c hc
  simp only [codes1, List.mem_cons, List.not_mem_nil, or_false] at hc
  rcases hc with rfl | rfl | rfl | rfl | rfl | rfl | rfl | rfl | rfl
  · exact w_c0
  · exact w_c1
  · exact w_c2
  · exact w_c3
  · exact w_c4
  · exact w_c5
  · exact w_c6
  · exact w_c7
  · exact w_c8
set_option maxRecDepth 65536 in
theorem w_t1 : (words1.take 24).all (fun c => isCode c || c.before args0 about1) = true := by decide +kernel
set_option maxRecDepth 65536 in
theorem w_t2 : ((words1.drop 24).take 24).all (fun c => isCode c || c.before args0 about1) = true := by decide +kernel
set_option maxRecDepth 65536 in
theorem w_t3 : ((words1.drop 24).drop 24).all (fun c => isCode c || c.before args0 about1) = true := by decide +kernel
theorem w_tables : (allAtoms (Jvm.Cond.code x code maxLocals ret :: tables_1)).before args0 about1 = true := by
  rw [allAtoms_all]
  show words1.all (fun c => c.before args0 about1) = true
  refine all_split ?_ w_codes
  rw [← List.take_append_drop 24 words1, List.all_append, w_t1, ← List.take_append_drop 24 (words1.drop 24), List.all_append, w_t2, w_t3]
  rfl
set_option maxRecDepth 65536 in
theorem w_rest : rest_1_c.before args0 about1 = true := by decide +kernel
set_option maxRecDepth 65536 in
theorem w_case : (Jvm.Cond.and given_1 narrow_1).before args0 about1 = true := by decide +kernel
theorem w_applies : (headSpec (Jvm.Cond.code x code maxLocals ret :: tables_1) room_1).applies x e0.platform about1 = true :=
  (Spec.applies_iff w_frames).mpr ⟨w_running, w_runnable, w_alone, w_named, w_hears, w_ripe, w_room, w_tables⟩
theorem atStart : AtStart classFile x code maxLocals ret World_1 tables_1 room_1 Calls_1 rest_1 Pre_1 launch0 p0 e0 about1 theMethod args0 below0 :=
  ⟨lists_1, trivial, launch0.admits_env _ _ _, launch0.least_env, fairChoices_fair.cas, fairChoices_fair.clock, w_frames, w_args, w_heap, w_applies, trivial, w_rest, w_case⟩
end start1
theorem witness_1 : WitnessClaimed_1 := ⟨start1.p0, start1.e0, start1.about1, start1.theMethod, start1.args0, start1.below0, start1.atStart⟩
end Jvm.Pilot.@@N@@
