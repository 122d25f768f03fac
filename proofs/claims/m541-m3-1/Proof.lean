import JvmDerived
import JvmDerived.Pilot.@@N@@Statement
import JvmDerived.Pilot.@@N@@Code
set_option linter.unusedVariables false
set_option linter.unusedSimpArgs false
namespace Jvm.Pilot.@@N@@
open Jvm Jvm.ClassFile Sem Op Lib Jvm.Free Jvm.Stand Jvm.LawKit Jvm.RoadKit Bundle Jvm.Pilot.@@N@@.Jvm.D
abbrev jv (x : Int64) : Slot := .val (.long x)
section OwnKit
variable {p : Program} {l : Launch} {e : Env} {R : Room} {s : State} {m : MethodId} {args : Array Value} {below : List Frame} {meth : Method} {c : Code} {T T' : State} {locs : List Loc} {cells slots kc ks : Nat} {Q : Option Value → Heap → List Loc → Prop} {g g' : JFrame}
/-- from the state T, its top frame g, the invocation comes to its end with Q -/
def own_WP (p : Program) (e : Env) (below : List Frame) (s : State) (Q : Option Value → Heap → List Loc → Prop) (kc ks : Nat) (T : State) (g : JFrame) : Prop :=
  ∃ s₂ o, Steps p.tables e below (T.setTop g) s₂ ∧ s₂.status = .running ∧ Ended s₂ below o ∧ ∃ v L, o = .returned v ∧ Q v s₂.heap L ∧ FrameEnd s o s₂ L kc ks
theorem own_step (h : ∀ t, Steps p.tables e below (T'.setTop g') t → Steps p.tables e below (T.setTop g) t) (hr : own_WP p e below s Q kc ks T' g') : own_WP p e below s Q kc ks T g := by
  obtain ⟨s₂, o, h1, h2⟩ := hr
  exact ⟨s₂, o, h _ h1, h2⟩
theorem own_st (g' : JFrame) (h : ∀ t, Steps p.tables e below (T.setTop g') t → Steps p.tables e below (T.setTop g) t) (hr : own_WP p e below s Q kc ks T g') : own_WP p e below s Q kc ks T g := own_step h hr
theorem own_jump (h : Steps p.tables e below (T.setTop g) (T'.setTop g')) (hr : own_WP p e below s Q kc ks T' g') : own_WP p e below s Q kc ks T g := by
  obtain ⟨s₂, o, h1, h2⟩ := hr
  exact ⟨s₂, o, h.trans h1, h2⟩
theorem own_ret (X : Stand p l e R s m args below meth c T locs cells slots) (hlk : meth.locks = false) {v : Option Value} (hv : meth.sig.returnType = none → v = none)
    (hst : ∀ fs, (∀ (f : JFrame) (acts : List Action), f.method = m → f.locked = none → f.entered = [] → (doReturn e (T.setTop f) acts v).1 = T.setFrames fs) → Steps p.tables e below (T.setTop g) (T.setFrames fs))
    (hq : Q v T.heap locs) (h1 : cells ≤ kc) (h2 : slots ≤ ks) : own_WP p e below s Q kc ks T g := by
  obtain ⟨fs, hr, hrun, hended, hW, hsame⟩ := X.leave (v := v) hv hlk
  exact ⟨_, _, hst fs hr, hrun, hended, v, locs, rfl, hq, ⟨v, rfl⟩, hW, hsame.mono h1 h2⟩
theorem own_wide (X : Stand p l e R s m args below meth c T locs cells slots) {cells' slots' : Nat} (h1 : cells ≤ cells') (h2 : slots ≤ slots') : Stand p l e R s m args below meth c T locs cells' slots' :=
  ⟨X.admits, X.cas, X.clock, X.frames, X.room, X.hears, X.method, X.code, X.here, X.tail, X.warmed, X.limits, X.bytes, X.same.mono h1 h2⟩
end OwnKit
theorem own_body {l : Launch} {y : MethodName} {bytes : ByteArray} {maxL : Nat} {ret : Option FieldType} {ws : List Jvm.Cond} {rm : Room} {A : Array Value} {Z : State} {h0 : Heap} {Q : Option Value → Heap → List Loc → Prop} {ls : Array Slot} {kc ks : Nat}
    (hpl : plainFor y = true) (ef : ∀ m, entryFrame m A maxL = mkF m 0 ls [])
    (body : ∀ (p : Program) (e : Env) (s : State) (m : MethodId) (below : List Frame) (meth : Method) (c : Code) (T : State), Stand p l e rm s m A below meth c T [] 0 0 → p.tables.exec = Jvm.exec → c.code = bytes → c.maxLocals = maxL → Z.Warmed39 s.vm → s.vm.findClass y.cls = some m.cls → meth.name = y.name → meth.sig.returnType = ret → meth.locks = false → T.heap = h0 →
      own_WP p e below s Q kc ks T (mkF m 0 ls [])) :
    MetFree l y (head1 (Jvm.Cond.code y bytes maxL ret :: ws) rm) (fun a U => a = A ∧ Z.Warmed39 U.vm ∧ U.heap = h0) (fun _ _ _ _ _ => True) (fun _ U o U' => ∃ v L, o = .returned v ∧ Q v U'.heap L ∧ FrameEnd U o U' L kc ks) := by
  refine MetFree.of_bodySF hpl hisR ?_
  intro p e s m args below meth c s₁ Bd hml0 hP hK
  obtain ⟨rfl, hZ, hh⟩ := hP
  obtain ⟨s₂, o, h1, h2⟩ := body p e s m below meth c s₁ (Stand.of_body Bd) Bd.exec Bd.bytes hml0 hZ (findClass_of_methodNamed Bd.named) (name_of_methodNamed Bd.named Bd.method).1 Bd.returns Bd.notSynchronized (by rw [← hh, Bd.state]; rfl)
  exact ⟨s₂, o, castTop (ef m) h1, h2⟩
theorem own_llt1 {x y : Int64} (h : x < y) : ifCond.holds .lt (lcmpW x y) = true := (if0 _ _).trans (tlt ((lw_lt x y).mpr h)).1
theorem own_llt0 {x y : Int64} (h : ¬ x < y) : ifCond.holds .lt (lcmpW x y) = false := (if0 _ _).trans (flt (mt (lw_lt x y).mp h)).1
theorem own_lge1 {x y : Int64} (h : ¬ x < y) : ifCond.holds .ge (lcmpW x y) = true := (if0 _ _).trans (flt (mt (lw_lt x y).mp h)).2.1
theorem own_lge0 {x y : Int64} (h : x < y) : ifCond.holds .ge (lcmpW x y) = false := (if0 _ _).trans (tlt ((lw_lt x y).mpr h)).2.1
theorem own_lgt1 {x y : Int64} (h : y < x) : ifCond.holds .gt (lcmpW x y) = true := (if0 _ _).trans (tlt ((lw_gt x y).mpr h)).2.2.1
theorem own_lgt0 {x y : Int64} (h : ¬ y < x) : ifCond.holds .gt (lcmpW x y) = false := (if0 _ _).trans (flt (mt (lw_gt x y).mp h)).2.2.1
theorem own_lle1 {x y : Int64} (h : ¬ y < x) : ifCond.holds .le (lcmpW x y) = true := (if0 _ _).trans (flt (mt (lw_gt x y).mp h)).2.2.2
theorem own_lle0 {x y : Int64} (h : y < x) : ifCond.holds .le (lcmpW x y) = false := (if0 _ _).trans (tlt ((lw_gt x y).mpr h)).2.2.2
theorem own_leq1 {x y : Int64} (h : x = y) : ifCond.holds .eq (lcmpW x y) = true := (if0 _ _).trans (teq ((lw_eq x y).mpr h)).1
theorem own_leq0 {x y : Int64} (h : ¬ x = y) : ifCond.holds .eq (lcmpW x y) = false := (if0 _ _).trans (feq (mt (lw_eq x y).mp h)).1
theorem own_lne1 {x y : Int64} (h : ¬ x = y) : ifCond.holds .ne (lcmpW x y) = true := (if0 _ _).trans (feq (mt (lw_eq x y).mp h)).2
theorem own_lne0 {x y : Int64} (h : x = y) : ifCond.holds .ne (lcmpW x y) = false := (if0 _ _).trans (teq ((lw_eq x y).mpr h)).2
theorem own_eqint {t : Term} {n : Int32} {args : Array Value} {first s : State} {o : Option Outcome} {idx : List Nat} (h : (Jvm.Cond.eq t (.int n)).value args first o s idx = some true) : t.eval args first o idx s = some (.int n) :=
  Jvm.Cond.eq_int (beq_iff_eq.mpr h : (Jvm.Cond.eq t (.int n)).holds args first o s idx = true) rfl

theorem own_b64 {n : Int} (h1 : -2 ^ 63 ≤ n) (h2 : n < 2 ^ 63) : n.bmod (2 ^ 64) = n := by rw [Int.bmod_def]; omega
theorem own_add64 {x y : Int64} (h1 : -2 ^ 63 ≤ x.toInt + y.toInt) (h2 : x.toInt + y.toInt < 2 ^ 63) : (x + y).toInt = x.toInt + y.toInt := by rw [Int64.toInt_add, own_b64 h1 h2]
theorem own_sub64 {x y : Int64} (h1 : -2 ^ 63 ≤ x.toInt - y.toInt) (h2 : x.toInt - y.toInt < 2 ^ 63) : (x - y).toInt = x.toInt - y.toInt := by rw [Int64.toInt_sub, own_b64 h1 h2]
theorem own_mul64 {x y : Int64} (h1 : -2 ^ 63 ≤ x.toInt * y.toInt) (h2 : x.toInt * y.toInt < 2 ^ 63) : (x * y).toInt = x.toInt * y.toInt := by rw [Int64.toInt_mul, own_b64 h1 h2]
theorem own_div64 {x y : Int64} (hx : 0 ≤ x.toInt) (hy : 0 < y.toInt) : (x / y).toInt = x.toInt / y.toInt := by
  rw [Int64.toInt_div, Int.tdiv_eq_ediv_of_nonneg hx]
  have h1 : 0 ≤ x.toInt / y.toInt := Int.ediv_nonneg hx (by omega)
  have h2 : x.toInt / y.toInt ≤ x.toInt := Int.ediv_le_self _ hx
  have h3 := x.toInt_lt
  exact own_b64 (by omega) (by omega)
theorem own_mod64 {x y : Int64} (hx : 0 ≤ x.toInt) : (x % y).toInt = x.toInt % y.toInt := by
  rw [Int64.toInt_mod, Int.tmod_eq_emod_of_nonneg hx]
theorem own_lrem (x y : Int64) : x - (x / y) * y = x % y := by
  apply Int64.toInt_inj.mp
  have h1 := Int64.le_toInt (x % y)
  have h2 := Int64.toInt_lt (x % y)
  rw [Int64.toInt_sub, Int64.toInt_mul, Int64.toInt_div, Int.bmod_mul_bmod, Int.sub_bmod_bmod, Int.mul_comm (x.toInt.tdiv y.toInt), ← Int.tmod_def, ← Int64.toInt_mod]
  exact Int.bmod_eq_of_le_mul_two (by omega) (by omega)
theorem own_i64nat (v : Int64) : v.toInt = if v.toBitVec.toNat < 2 ^ 63 then (v.toBitVec.toNat : Int) else (v.toBitVec.toNat : Int) - 2 ^ 64 := by
  have := v.toBitVec.isLt
  rw [← Int64.toInt_toBitVec, BitVec.toInt_eq_toNat_cond]
  split <;> split <;> omega
theorem own_i32nat (v : Int32) : v.toInt = if v.toBitVec.toNat < 2 ^ 31 then (v.toBitVec.toNat : Int) else (v.toBitVec.toNat : Int) - 2 ^ 32 := by
  have := v.toBitVec.isLt
  rw [← Int32.toInt_toBitVec, BitVec.toInt_eq_toNat_cond]
  split <;> split <;> omega
/-- a mask of k ones, k at most 31 -/
theorem own_and32 (x m : Int32) {k : Nat} (hk : k ≤ 31) (hm : m.toBitVec.toNat = 2 ^ k - 1) : 0 ≤ (x &&& m).toInt ∧ (x &&& m).toInt < 2 ^ k ∧ (x &&& m).toBitVec.toNat = x.toBitVec.toNat % 2 ^ k := by
  have h1 := own_i32nat (x &&& m)
  have h2 : (x &&& m).toBitVec.toNat = x.toBitVec.toNat &&& m.toBitVec.toNat := rfl
  rw [hm, Nat.and_two_pow_sub_one_eq_mod] at h2
  have h3 : x.toBitVec.toNat % 2 ^ k < 2 ^ k := Nat.mod_lt _ (Nat.two_pow_pos k)
  have h4 : 2 ^ k ≤ 2 ^ 31 := Nat.pow_le_pow_right (by decide) hk
  rw [h2, if_pos (Nat.lt_of_lt_of_le h3 h4)] at h1
  refine ⟨by omega, ?_, h2⟩
  rw [h1]
  exact_mod_cast h3
theorem own_and64 (x m : Int64) {k : Nat} (hk : k ≤ 63) (hm : m.toBitVec.toNat = 2 ^ k - 1) : 0 ≤ (x &&& m).toInt ∧ (x &&& m).toInt < 2 ^ k ∧ (x &&& m).toBitVec.toNat = x.toBitVec.toNat % 2 ^ k := by
  have h1 := own_i64nat (x &&& m)
  have h2 : (x &&& m).toBitVec.toNat = x.toBitVec.toNat &&& m.toBitVec.toNat := rfl
  rw [hm, Nat.and_two_pow_sub_one_eq_mod] at h2
  have h3 : x.toBitVec.toNat % 2 ^ k < 2 ^ k := Nat.mod_lt _ (Nat.two_pow_pos k)
  have h4 : 2 ^ k ≤ 2 ^ 63 := Nat.pow_le_pow_right (by decide) hk
  rw [h2, if_pos (Nat.lt_of_lt_of_le h3 h4)] at h1
  refine ⟨by omega, ?_, h2⟩
  rw [h1]
  exact_mod_cast h3
theorem own_lremM {p : Program} {l : Launch} {e : Env} {R : Room} {s : State} {m : MethodId} {args : Array Value} {below : List Frame} {meth : Method} {c : Code} {T : State} {locs : List Loc} {cells slots : Nat} {g : JFrame} {target : State} (X : Stand p l e R s m args below meth c T locs cells slots) (hx : p.tables.exec = Jvm.exec) (hg : g.method = m) {x y : Int64} {rest : List Value} (hd : decode c.code g.pc = .ok (.lrem, 1)) (hs : g.stack = .long y :: .long x :: rest) (hy : y ≠ 0)
    (hr : Steps p.tables e below (T.setTop { g with pc := g.pc + 1, stack := .long (x % y) :: rest }) target) : Steps p.tables e below (T.setTop g) target :=
  XS.lrem X.here hx hg hd hs hy (by rw [own_lrem]; exact hr)
theorem own_pos_ne {x : Int64} (h : (0 : Int64) < x) : x ≠ 0 := fun q => by rw [q] at h; exact absurd h (by decide)

def own_los : List Int32 := [0, 4, 1, 0, 2, 1, 0, 0, 0, 0, 0, 0, 0, 0, 0, 0, 0, 0, 0, 0]
def own_his : List Int32 := [7, 11, 2, 4, 7, 7, 2, 5, 3, 3, 3, 3, 4, 3, 1, 0, 0, 1, 3, 1]
def own_sup (v lo hi : Int32) : Int32 := if v < lo then 0 else if hi < v then 0 else 1
theorem own_geti (vs : List Int32) (n : Nat) (d : Int32) : (vs.map Value.int).getD n (.int d) = .int (vs.getD n d) := by
  simp only [List.getD_eq_getElem?_getD, List.getElem?_map]
  cases vs[n]? <;> rfl
theorem own_getr (vs : List Addr) (n : Nat) (h : n < vs.length) : (vs.map Value.ref).getD n .null = .ref (vs.getD n 0) := by
  simp only [List.getD_eq_getElem?_getD, List.getElem?_map, List.getElem?_eq_getElem h]
  rfl
theorem own_all {P : Addr → Int32 → Int32 → Prop} (w10 w11 w12 w13 w14 w15 w16 w17 w18 w19 w20 w21 w22 w23 w24 w25 w26 w27 w28 w29 : Addr) (h0 : P w10 (0 : Int32) (7 : Int32)) (h1 : P w11 (4 : Int32) (11 : Int32)) (h2 : P w12 (1 : Int32) (2 : Int32)) (h3 : P w13 (0 : Int32) (4 : Int32)) (h4 : P w14 (2 : Int32) (7 : Int32)) (h5 : P w15 (1 : Int32) (7 : Int32)) (h6 : P w16 (0 : Int32) (2 : Int32)) (h7 : P w17 (0 : Int32) (5 : Int32)) (h8 : P w18 (0 : Int32) (3 : Int32)) (h9 : P w19 (0 : Int32) (3 : Int32)) (h10 : P w20 (0 : Int32) (3 : Int32)) (h11 : P w21 (0 : Int32) (3 : Int32)) (h12 : P w22 (0 : Int32) (4 : Int32)) (h13 : P w23 (0 : Int32) (3 : Int32)) (h14 : P w24 (0 : Int32) (1 : Int32)) (h15 : P w25 (0 : Int32) (0 : Int32)) (h16 : P w26 (0 : Int32) (0 : Int32)) (h17 : P w27 (0 : Int32) (1 : Int32)) (h18 : P w28 (0 : Int32) (3 : Int32)) (h19 : P w29 (0 : Int32) (1 : Int32)) : ∀ n, n < 20 → P ([w10, w11, w12, w13, w14, w15, w16, w17, w18, w19, w20, w21, w22, w23, w24, w25, w26, w27, w28, w29].getD n 0) (own_los.getD n 0) (own_his.getD n 0)
  | 0, _ => h0
  | 1, _ => h1
  | 2, _ => h2
  | 3, _ => h3
  | 4, _ => h4
  | 5, _ => h5
  | 6, _ => h6
  | 7, _ => h7
  | 8, _ => h8
  | 9, _ => h9
  | 10, _ => h10
  | 11, _ => h11
  | 12, _ => h12
  | 13, _ => h13
  | 14, _ => h14
  | 15, _ => h15
  | 16, _ => h16
  | 17, _ => h17
  | 18, _ => h18
  | 19, _ => h19
  | n + 20, h => absurd h (by omega)
theorem own_ix (a : Int32) : ¬ ((a &&& (2147483647 : Int32)) % (20 : Int32)) < 0 ∧ ((a &&& (2147483647 : Int32)) % (20 : Int32)) < (20 : Int32) := by
  have h1 := (own_and32 a (2147483647 : Int32) (k := 31) (by decide) rfl).1
  have e0 : (0 : Int32).toInt = 0 := rfl
  have e20 : (20 : Int32).toInt = 20 := rfl
  have h2 : ((a &&& (2147483647 : Int32)) % (20 : Int32)).toInt = (a &&& (2147483647 : Int32)).toInt % 20 := by rw [Int32.toInt_mod, Int.tmod_eq_emod_of_nonneg h1, e20]
  rw [Int32.lt_iff_toInt_lt, Int32.lt_iff_toInt_lt, h2, e0, e20]
  omega
theorem own_nat {k : Int32} (h : ¬ k < 0 ∧ k < (20 : Int32)) : k.toNatClampNeg < 20 := by
  have e0 : (0 : Int32).toInt = 0 := rfl
  have e20 : (20 : Int32).toInt = 20 := rfl
  simp only [Int32.lt_iff_toInt_lt, e0, e20] at h
  simp only [Int32.toNatClampNeg]; omega
theorem d1_0 : decode prog_45_method_9_code 0 = .ok (.iload_n 1, 1) := by decide +kernel
theorem d1_1 : decode prog_45_method_9_code 1 = .ok (.aload_n 0, 1) := by decide +kernel
theorem d1_2 : decode prog_45_method_9_code 2 = .ok (.getfield 93, 3) := by decide +kernel
theorem hw_51 {a0 : Array Value} {Z : State} (hw : ∀ d ∈ tables_1, d.before a0 Z = true) : (Jvm.Cond.fieldLink "com/example/fencer/fencer/protocol/ApiKey" (93 : Nat) "com/example/fencer/fencer/protocol/ApiKey" "minVersion" "S").before a0 Z = true := hw _ (List.mem_of_getElem? (i := 51) rfl)
theorem d1_5 : decode prog_45_method_9_code 5 = .ok (.if_icmp .lt 15, 3) := by decide +kernel
theorem d1_20 : decode prog_45_method_9_code 20 = .ok (.iconst 0, 1) := by decide +kernel
theorem d1_21 : decode prog_45_method_9_code 21 = .ok (.ireturn, 1) := by decide +kernel
theorem d1_8 : decode prog_45_method_9_code 8 = .ok (.iload_n 1, 1) := by decide +kernel
theorem d1_9 : decode prog_45_method_9_code 9 = .ok (.aload_n 0, 1) := by decide +kernel
theorem d1_10 : decode prog_45_method_9_code 10 = .ok (.getfield 96, 3) := by decide +kernel
theorem hw_53 {a0 : Array Value} {Z : State} (hw : ∀ d ∈ tables_1, d.before a0 Z = true) : (Jvm.Cond.fieldLink "com/example/fencer/fencer/protocol/ApiKey" (96 : Nat) "com/example/fencer/fencer/protocol/ApiKey" "maxVersion" "S").before a0 Z = true := hw _ (List.mem_of_getElem? (i := 53) rfl)
theorem d1_13 : decode prog_45_method_9_code 13 = .ok (.if_icmp .gt 7, 3) := by decide +kernel
theorem d1_16 : decode prog_45_method_9_code 16 = .ok (.iconst 1, 1) := by decide +kernel
theorem d1_17 : decode prog_45_method_9_code 17 = .ok (.goto 4, 3) := by decide +kernel
theorem pn_1 : plainName "com/example/fencer/fencer/protocol/ApiKey" = true := by first | (simp [plainName, overriddenIn]; done) | decide +kernel
theorem own_ef1 (m : MethodId) (a1 : Addr) (p2 : Int32) : entryFrame m #[(.ref a1), (.int p2)] 2 = mkF m 0 #[rv a1, iv p2] [] := by first | (simp [entryFrame, mkF, argsToLocals, Value.category]; done) | rfl
def own_Q1 (Z : State) (a1 : Addr) (p2 : Int32) (f3 : Int32) (f4 : Int32) (h0 : Heap) (n0 : Nat) (v : Option Value) (h : Heap) (L : List Loc) : Prop := v = some (.int (own_sup p2 f3 f4)) ∧ Fr n0 L ∧ h = h0
set_option maxRecDepth 65536 in
set_option maxHeartbeats 40000000 in
theorem own_rm1 (l : Launch) (Z : State) (a0 : Array Value) (hw : ∀ d ∈ tables_1, d.before a0 Z = true) (ws : List Jvm.Cond) (a1 : Addr) (p2 : Int32) (f3 : Int32) (f4 : Int32) (h0 : Heap) (n0 : Nat) (Z0 : n0 ≤ h0.size) (F3 : Fld Z h0 a1 "com/example/fencer/fencer/protocol/ApiKey" "minVersion" "S" (.int f3)) (F4 : Fld Z h0 a1 "com/example/fencer/fencer/protocol/ApiKey" "maxVersion" "S" (.int f4)) :
    MetFree l (⟨"com/example/fencer/fencer/protocol/ApiKey", "supports", "(S)Z"⟩ : MethodName) (head1 (Jvm.Cond.code (⟨"com/example/fencer/fencer/protocol/ApiKey", "supports", "(S)Z"⟩ : MethodName) prog_45_method_9_code 2 (some .boolean) :: ws) ({ frames := 0, cells := 0, slots := 0, locals := 0 } : Room)) (fun a U => a = #[(.ref a1), (.int p2)] ∧ Z.Warmed39 U.vm ∧ U.heap = h0) (fun _ _ _ _ _ => True) (fun _ U o U' => ∃ v L, o = .returned v ∧ own_Q1 Z a1 p2 f3 f4 h0 n0 v U'.heap L ∧ FrameEnd U o U' L ({ frames := 0, cells := 0, slots := 0, locals := 0 } : Room).cells ({ frames := 0, cells := 0, slots := 0, locals := 0 } : Room).slots) := by
  refine own_body (plainFor_of_name pn_1) (fun m => own_ef1 m a1 p2) ?_
  intro p e s m below meth c T0 X0 hx hby hml hZ hown hnm hret hlk e0
  have hown : s.vm.findClass "com/example/fencer/fencer/protocol/ApiKey" = some m.cls := hown
  have hnm : meth.name = "supports" := hnm
  have N0 := Fr.nil n0
  refine own_st (mkF m 1 #[rv a1, iv p2] [(.int p2)]) (fun t k => XS.iloadN X0.here hx rfl (hb hby d1_0) rfl k) ?_
  refine own_st (mkF m 2 #[rv a1, iv p2] [(.ref a1), (.int p2)]) (fun t k => XS.aloadN X0.here hx rfl (hb hby d1_1) rfl rfl k) ?_
  obtain ⟨T1, X1, e1, st1⟩ := getF X0 hx hZ hown (host := "") (Or.inl (hw_51 hw)) Via.refl e0 F3 (g := (mkF m 2 #[rv a1, iv p2] [(.ref a1), (.int p2)])) rfl rfl (hb hby d1_2)
  refine own_step (g' := (mkF m 5 #[rv a1, iv p2] [(.int f3), (.int p2)])) st1 ?_
  by_cases hc2 : p2 < f3
  · refine own_st (mkF m 20 #[rv a1, iv p2] []) (fun t k => XS.icmpYes X1.here hx rfl (pc0 := 5) (pc' := 20) rfl (hb hby d1_5) rfl (tlt hc2).1 (by decide) (by decide) k) ?_
    refine own_st (mkF m 21 #[rv a1, iv p2] [(.int (0 : Int32))]) (fun t k => XS.iconst X1.here hx rfl (hb hby d1_20) k) ?_
    refine own_ret X1 hlk (v := some (.int (0 : Int32))) (fun h => by rw [hret] at h; cases h) (fun fs hr => retN X1 hx (t := .boolean) hret (by simp) (hb hby d1_21) hr) ?_ (by decide) (by decide)
    show own_Q1 Z a1 p2 f3 f4 h0 n0 _ T1.heap _
    rw [e1]
    exact ⟨congrArg (fun z => some (Value.int z)) (by simp [own_sup, hc2] : (0 : Int32) = own_sup p2 f3 f4), N0, rfl⟩
  · refine own_st (mkF m 8 #[rv a1, iv p2] []) (fun t k => XS.icmpNo X1.here hx rfl (hb hby d1_5) rfl (flt hc2).1 k) ?_
    refine own_st (mkF m 9 #[rv a1, iv p2] [(.int p2)]) (fun t k => XS.iloadN X1.here hx rfl (hb hby d1_8) rfl k) ?_
    refine own_st (mkF m 10 #[rv a1, iv p2] [(.ref a1), (.int p2)]) (fun t k => XS.aloadN X1.here hx rfl (hb hby d1_9) rfl rfl k) ?_
    obtain ⟨T3, X3, e3, st3⟩ := getF X1 hx hZ hown (host := "") (Or.inl (hw_53 hw)) Via.refl e1 F4 (g := (mkF m 10 #[rv a1, iv p2] [(.ref a1), (.int p2)])) rfl rfl (hb hby d1_10)
    refine own_step (g' := (mkF m 13 #[rv a1, iv p2] [(.int f4), (.int p2)])) st3 ?_
    by_cases hc4 : f4 < p2
    · refine own_st (mkF m 20 #[rv a1, iv p2] []) (fun t k => XS.icmpYes X3.here hx rfl (pc0 := 13) (pc' := 20) rfl (hb hby d1_13) rfl (tlt hc4).2.2.1 (by decide) (by decide) k) ?_
      refine own_st (mkF m 21 #[rv a1, iv p2] [(.int (0 : Int32))]) (fun t k => XS.iconst X3.here hx rfl (hb hby d1_20) k) ?_
      refine own_ret X3 hlk (v := some (.int (0 : Int32))) (fun h => by rw [hret] at h; cases h) (fun fs hr => retN X3 hx (t := .boolean) hret (by simp) (hb hby d1_21) hr) ?_ (by decide) (by decide)
      show own_Q1 Z a1 p2 f3 f4 h0 n0 _ T3.heap _
      rw [e3]
      exact ⟨congrArg (fun z => some (Value.int z)) (by simp [own_sup, hc2, hc4] : (0 : Int32) = own_sup p2 f3 f4), N0, rfl⟩
    · refine own_st (mkF m 16 #[rv a1, iv p2] []) (fun t k => XS.icmpNo X3.here hx rfl (hb hby d1_13) rfl (flt hc4).2.2.1 k) ?_
      refine own_st (mkF m 17 #[rv a1, iv p2] [(.int (1 : Int32))]) (fun t k => XS.iconst X3.here hx rfl (hb hby d1_16) k) ?_
      refine own_st (mkF m 21 #[rv a1, iv p2] [(.int (1 : Int32))]) (fun t k => XS.goto X3.here hx rfl (pc0 := 17) (pc' := 21) rfl (hb hby d1_17) (by decide) (by decide) k) ?_
      refine own_ret X3 hlk (v := some (.int (1 : Int32))) (fun h => by rw [hret] at h; cases h) (fun fs hr => retN X3 hx (t := .boolean) hret (by simp) (hb hby d1_21) hr) ?_ (by decide) (by decide)
      show own_Q1 Z a1 p2 f3 f4 h0 n0 _ T3.heap _
      rw [e3]
      exact ⟨congrArg (fun z => some (Value.int z)) (by simp [own_sup, hc2, hc4] : (1 : Int32) = own_sup p2 f3 f4), N0, rfl⟩
theorem hw_0 {a0 : Array Value} {Z : State} (hw : ∀ d ∈ tables_1, d.before a0 Z = true) : (Jvm.Cond.classLink "com/example/fencer/fencer/protocol/ApiKeySupportsPinLaw" (7 : Nat) "com/example/fencer/fencer/protocol/ApiKey").before a0 Z = true := hw _ (List.mem_of_getElem? (i := 0) rfl)
theorem hw_1 {a0 : Array Value} {Z : State} (hw : ∀ d ∈ tables_1, d.before a0 Z = true) : (Jvm.Cond.arrayOver (Jvm.ClassFile.FieldType.object "com/example/fencer/fencer/protocol/ApiKey")).before a0 Z = true := hw _ (List.mem_of_getElem? (i := 1) rfl)
theorem hw_2 {a0 : Array Value} {Z : State} (hw : ∀ d ∈ tables_1, d.before a0 Z = true) : (Jvm.Cond.fieldLink "com/example/fencer/fencer/protocol/ApiKeySupportsPinLaw" (9 : Nat) "com/example/fencer/fencer/protocol/ApiKey" "PRODUCE" "Lcom/example/fencer/fencer/protocol/ApiKey;").before a0 Z = true := hw _ (List.mem_of_getElem? (i := 2) rfl)
theorem hw_6 {a0 : Array Value} {Z : State} (hw : ∀ d ∈ tables_1, d.before a0 Z = true) : (Jvm.Cond.fieldLink "com/example/fencer/fencer/protocol/ApiKeySupportsPinLaw" (13 : Nat) "com/example/fencer/fencer/protocol/ApiKey" "FETCH" "Lcom/example/fencer/fencer/protocol/ApiKey;").before a0 Z = true := hw _ (List.mem_of_getElem? (i := 6) rfl)
theorem hw_8 {a0 : Array Value} {Z : State} (hw : ∀ d ∈ tables_1, d.before a0 Z = true) : (Jvm.Cond.fieldLink "com/example/fencer/fencer/protocol/ApiKeySupportsPinLaw" (16 : Nat) "com/example/fencer/fencer/protocol/ApiKey" "LIST_OFFSETS" "Lcom/example/fencer/fencer/protocol/ApiKey;").before a0 Z = true := hw _ (List.mem_of_getElem? (i := 8) rfl)
theorem hw_10 {a0 : Array Value} {Z : State} (hw : ∀ d ∈ tables_1, d.before a0 Z = true) : (Jvm.Cond.fieldLink "com/example/fencer/fencer/protocol/ApiKeySupportsPinLaw" (19 : Nat) "com/example/fencer/fencer/protocol/ApiKey" "METADATA" "Lcom/example/fencer/fencer/protocol/ApiKey;").before a0 Z = true := hw _ (List.mem_of_getElem? (i := 10) rfl)
theorem hw_12 {a0 : Array Value} {Z : State} (hw : ∀ d ∈ tables_1, d.before a0 Z = true) : (Jvm.Cond.fieldLink "com/example/fencer/fencer/protocol/ApiKeySupportsPinLaw" (22 : Nat) "com/example/fencer/fencer/protocol/ApiKey" "OFFSET_COMMIT" "Lcom/example/fencer/fencer/protocol/ApiKey;").before a0 Z = true := hw _ (List.mem_of_getElem? (i := 12) rfl)
theorem hw_14 {a0 : Array Value} {Z : State} (hw : ∀ d ∈ tables_1, d.before a0 Z = true) : (Jvm.Cond.fieldLink "com/example/fencer/fencer/protocol/ApiKeySupportsPinLaw" (25 : Nat) "com/example/fencer/fencer/protocol/ApiKey" "OFFSET_FETCH" "Lcom/example/fencer/fencer/protocol/ApiKey;").before a0 Z = true := hw _ (List.mem_of_getElem? (i := 14) rfl)
theorem hw_16 {a0 : Array Value} {Z : State} (hw : ∀ d ∈ tables_1, d.before a0 Z = true) : (Jvm.Cond.fieldLink "com/example/fencer/fencer/protocol/ApiKeySupportsPinLaw" (28 : Nat) "com/example/fencer/fencer/protocol/ApiKey" "FIND_COORDINATOR" "Lcom/example/fencer/fencer/protocol/ApiKey;").before a0 Z = true := hw _ (List.mem_of_getElem? (i := 16) rfl)
theorem hw_18 {a0 : Array Value} {Z : State} (hw : ∀ d ∈ tables_1, d.before a0 Z = true) : (Jvm.Cond.fieldLink "com/example/fencer/fencer/protocol/ApiKeySupportsPinLaw" (31 : Nat) "com/example/fencer/fencer/protocol/ApiKey" "JOIN_GROUP" "Lcom/example/fencer/fencer/protocol/ApiKey;").before a0 Z = true := hw _ (List.mem_of_getElem? (i := 18) rfl)
theorem hw_20 {a0 : Array Value} {Z : State} (hw : ∀ d ∈ tables_1, d.before a0 Z = true) : (Jvm.Cond.fieldLink "com/example/fencer/fencer/protocol/ApiKeySupportsPinLaw" (34 : Nat) "com/example/fencer/fencer/protocol/ApiKey" "HEARTBEAT" "Lcom/example/fencer/fencer/protocol/ApiKey;").before a0 Z = true := hw _ (List.mem_of_getElem? (i := 20) rfl)
theorem hw_22 {a0 : Array Value} {Z : State} (hw : ∀ d ∈ tables_1, d.before a0 Z = true) : (Jvm.Cond.fieldLink "com/example/fencer/fencer/protocol/ApiKeySupportsPinLaw" (37 : Nat) "com/example/fencer/fencer/protocol/ApiKey" "LEAVE_GROUP" "Lcom/example/fencer/fencer/protocol/ApiKey;").before a0 Z = true := hw _ (List.mem_of_getElem? (i := 22) rfl)
theorem hw_24 {a0 : Array Value} {Z : State} (hw : ∀ d ∈ tables_1, d.before a0 Z = true) : (Jvm.Cond.fieldLink "com/example/fencer/fencer/protocol/ApiKeySupportsPinLaw" (40 : Nat) "com/example/fencer/fencer/protocol/ApiKey" "SYNC_GROUP" "Lcom/example/fencer/fencer/protocol/ApiKey;").before a0 Z = true := hw _ (List.mem_of_getElem? (i := 24) rfl)
theorem hw_26 {a0 : Array Value} {Z : State} (hw : ∀ d ∈ tables_1, d.before a0 Z = true) : (Jvm.Cond.fieldLink "com/example/fencer/fencer/protocol/ApiKeySupportsPinLaw" (43 : Nat) "com/example/fencer/fencer/protocol/ApiKey" "API_VERSIONS" "Lcom/example/fencer/fencer/protocol/ApiKey;").before a0 Z = true := hw _ (List.mem_of_getElem? (i := 26) rfl)
theorem hw_28 {a0 : Array Value} {Z : State} (hw : ∀ d ∈ tables_1, d.before a0 Z = true) : (Jvm.Cond.fieldLink "com/example/fencer/fencer/protocol/ApiKeySupportsPinLaw" (46 : Nat) "com/example/fencer/fencer/protocol/ApiKey" "CREATE_TOPICS" "Lcom/example/fencer/fencer/protocol/ApiKey;").before a0 Z = true := hw _ (List.mem_of_getElem? (i := 28) rfl)
theorem hw_30 {a0 : Array Value} {Z : State} (hw : ∀ d ∈ tables_1, d.before a0 Z = true) : (Jvm.Cond.fieldLink "com/example/fencer/fencer/protocol/ApiKeySupportsPinLaw" (49 : Nat) "com/example/fencer/fencer/protocol/ApiKey" "DELETE_TOPICS" "Lcom/example/fencer/fencer/protocol/ApiKey;").before a0 Z = true := hw _ (List.mem_of_getElem? (i := 30) rfl)
theorem hw_32 {a0 : Array Value} {Z : State} (hw : ∀ d ∈ tables_1, d.before a0 Z = true) : (Jvm.Cond.fieldLink "com/example/fencer/fencer/protocol/ApiKeySupportsPinLaw" (52 : Nat) "com/example/fencer/fencer/protocol/ApiKey" "INIT_PRODUCER_ID" "Lcom/example/fencer/fencer/protocol/ApiKey;").before a0 Z = true := hw _ (List.mem_of_getElem? (i := 32) rfl)
theorem hw_34 {a0 : Array Value} {Z : State} (hw : ∀ d ∈ tables_1, d.before a0 Z = true) : (Jvm.Cond.fieldLink "com/example/fencer/fencer/protocol/ApiKeySupportsPinLaw" (55 : Nat) "com/example/fencer/fencer/protocol/ApiKey" "ADD_PARTITIONS_TO_TXN" "Lcom/example/fencer/fencer/protocol/ApiKey;").before a0 Z = true := hw _ (List.mem_of_getElem? (i := 34) rfl)
theorem hw_36 {a0 : Array Value} {Z : State} (hw : ∀ d ∈ tables_1, d.before a0 Z = true) : (Jvm.Cond.fieldLink "com/example/fencer/fencer/protocol/ApiKeySupportsPinLaw" (58 : Nat) "com/example/fencer/fencer/protocol/ApiKey" "ADD_OFFSETS_TO_TXN" "Lcom/example/fencer/fencer/protocol/ApiKey;").before a0 Z = true := hw _ (List.mem_of_getElem? (i := 36) rfl)
theorem hw_38 {a0 : Array Value} {Z : State} (hw : ∀ d ∈ tables_1, d.before a0 Z = true) : (Jvm.Cond.fieldLink "com/example/fencer/fencer/protocol/ApiKeySupportsPinLaw" (61 : Nat) "com/example/fencer/fencer/protocol/ApiKey" "END_TXN" "Lcom/example/fencer/fencer/protocol/ApiKey;").before a0 Z = true := hw _ (List.mem_of_getElem? (i := 38) rfl)
theorem hw_40 {a0 : Array Value} {Z : State} (hw : ∀ d ∈ tables_1, d.before a0 Z = true) : (Jvm.Cond.fieldLink "com/example/fencer/fencer/protocol/ApiKeySupportsPinLaw" (64 : Nat) "com/example/fencer/fencer/protocol/ApiKey" "TXN_OFFSET_COMMIT" "Lcom/example/fencer/fencer/protocol/ApiKey;").before a0 Z = true := hw _ (List.mem_of_getElem? (i := 40) rfl)
theorem hw_42 {a0 : Array Value} {Z : State} (hw : ∀ d ∈ tables_1, d.before a0 Z = true) : (Jvm.Cond.fieldLink "com/example/fencer/fencer/protocol/ApiKeySupportsPinLaw" (67 : Nat) "com/example/fencer/fencer/protocol/ApiKey" "CREATE_PARTITIONS" "Lcom/example/fencer/fencer/protocol/ApiKey;").before a0 Z = true := hw _ (List.mem_of_getElem? (i := 42) rfl)
theorem hw_44 {a0 : Array Value} {Z : State} (hw : ∀ d ∈ tables_1, d.before a0 Z = true) : (Jvm.Cond.arrayClass Jvm.ClassFile.FieldType.int).before a0 Z = true := hw _ (List.mem_of_getElem? (i := 44) rfl)
theorem hw_45 {a0 : Array Value} {Z : State} (hw : ∀ d ∈ tables_1, d.before a0 Z = true) : (Jvm.Cond.constant "com/example/fencer/fencer/protocol/ApiKeySupportsPinLaw" (70 : Nat) (2147483647 : Int32)).before a0 Z = true := hw _ (List.mem_of_getElem? (i := 45) rfl)
theorem hw_46 {a0 : Array Value} {Z : State} (hw : ∀ d ∈ tables_1, d.before a0 Z = true) : (Jvm.Cond.methodLink "com/example/fencer/fencer/protocol/ApiKeySupportsPinLaw" (71 : Nat) ({ cls := "com/example/fencer/fencer/protocol/ApiKey", name := "supports", desc := "(S)Z" } : Jvm.MethodName)).before a0 Z = true := hw _ (List.mem_of_getElem? (i := 46) rfl)
theorem hw_50 {a0 : Array Value} {Z : State} (hw : ∀ d ∈ tables_1, d.before a0 Z = true) : (Jvm.Cond.code ({ cls := "com/example/fencer/fencer/protocol/ApiKey", name := "supports", desc := "(S)Z" } : Jvm.MethodName) prog_45_method_9_code (2 : Nat) (Option.some Jvm.ClassFile.FieldType.boolean)).before a0 Z = true := hw _ (List.mem_of_getElem? (i := 50) rfl)
theorem hw_3 {a0 : Array Value} {Z : State} (hw : ∀ d ∈ tables_1, d.before a0 Z = true) : (Jvm.Cond.initialized "com/example/fencer/fencer/protocol/ApiKey").before a0 Z = true := hw _ (List.mem_of_getElem? (i := 3) rfl)
theorem pd_0 : parseMethodDescriptor "(S)Z" = some ⟨[.short], some .boolean⟩ := by decide +kernel
theorem hw_49 {a0 : Array Value} {Z : State} (hw : ∀ d ∈ tables_1, d.before a0 Z = true) : (Jvm.Cond.selects "com/example/fencer/fencer/protocol/ApiKey" ({ cls := "com/example/fencer/fencer/protocol/ApiKey", name := "supports", desc := "(S)Z" } : Jvm.MethodName) ({ cls := "com/example/fencer/fencer/protocol/ApiKey", name := "supports", desc := "(S)Z" } : Jvm.MethodName)).before a0 Z = true := hw _ (List.mem_of_getElem? (i := 49) rfl)
theorem hw_47 {a0 : Array Value} {Z : State} (hw : ∀ d ∈ tables_1, d.before a0 Z = true) : (Jvm.Cond.declares ({ cls := "com/example/fencer/fencer/protocol/ApiKey", name := "supports", desc := "(S)Z" } : Jvm.MethodName)).before a0 Z = true := hw _ (List.mem_of_getElem? (i := 47) rfl)
theorem hw_48 {a0 : Array Value} {Z : State} (hw : ∀ d ∈ tables_1, d.before a0 Z = true) : (Jvm.Cond.instanceMethod ({ cls := "com/example/fencer/fencer/protocol/ApiKey", name := "supports", desc := "(S)Z" } : Jvm.MethodName)).before a0 Z = true := hw _ (List.mem_of_getElem? (i := 48) rfl)
theorem pn_0 : plainName "com/example/fencer/fencer/protocol/ApiKeySupportsPinLaw" = true := by first | (simp [plainName, overriddenIn]; done) | decide +kernel
theorem own_ef0 (m : MethodId) (p1 : Int32) (p2 : Int32) (p3 : Int32) : entryFrame m #[(.int p1), (.int p2), (.int p3)] maxLocals = mkF m 0 #[iv p1, iv p2, iv p3, .unset, .unset, .unset, .unset, .unset, .unset, .unset] [] := by first | (simp [entryFrame, mkF, argsToLocals, Value.category, maxLocals]; done) | rfl
def own_Q0 (Z : State) (p1 : Int32) (p2 : Int32) (p3 : Int32) (w10 : Addr) (w11 : Addr) (w12 : Addr) (w13 : Addr) (w14 : Addr) (w15 : Addr) (w16 : Addr) (w17 : Addr) (w18 : Addr) (w19 : Addr) (w20 : Addr) (w21 : Addr) (w22 : Addr) (w23 : Addr) (w24 : Addr) (w25 : Addr) (w26 : Addr) (w27 : Addr) (w28 : Addr) (w29 : Addr) (h0 : Heap) (n0 : Nat) (v : Option Value) (h : Heap) (L : List Loc) : Prop := v = some (.int 1) ∧ Fr n0 L
set_option maxRecDepth 65536 in
set_option maxHeartbeats 40000000 in
theorem own_tail (l : Launch) (Z : State) (a0 : Array Value) (hw : ∀ d ∈ tables_1, d.before a0 Z = true) (p1 p2 p3 : Int32) (w10 w11 w12 w13 w14 w15 w16 w17 w18 w19 w20 w21 w22 w23 w24 w25 w26 w27 w28 w29 : Addr) (h0 : Heap) (n0 : Nat) (p : Program) (e : Env) (s : State) (m : MethodId) (below : List Frame) (meth : Method) (c : Code) (T147 : State) (h147 : Heap) (locs : List Loc) (b5 b66 b107 : Addr) (k5 k66 k107 : ClassId) (ix lo hi : Int32) (ky : Addr) (X147 : Stand p l e room_1 s m #[(.int p1), (.int p2), (.int p3)] below meth c T147 locs 3 60) (hx : p.tables.exec = Jvm.exec) (hby : c.code = code) (hml : c.maxLocals = maxLocals) (hZ : Z.Warmed39 s.vm) (hown : s.vm.findClass "com/example/fencer/fencer/protocol/ApiKeySupportsPinLaw" = some m.cls) (hnm : meth.name = "law") (hret : meth.sig.returnType = ret) (hlk : meth.locks = false) (e147 : T147.heap = h147) (O147 : Old Z n0 h147) (Z147 : n0 ≤ h147.size) (N147 : Fr n0 locs) (hix : ¬ ix < 0 ∧ ix < (20 : Int32)) (hnx : ix.toNatClampNeg < 20) (h_lo : lo = own_los.getD ix.toNatClampNeg 0) (h_hi : hi = own_his.getD ix.toNatClampNeg 0) (h_ky : ky = [w10, w11, w12, w13, w14, w15, w16, w17, w18, w19, w20, w21, w22, w23, w24, w25, w26, w27, w28, w29].getD ix.toNatClampNeg 0) (E_ky : Exa Z h147 ky "com/example/fencer/fencer/protocol/ApiKey") (A_ky : Fld Z h147 ky "com/example/fencer/fencer/protocol/ApiKey" "minVersion" "S" (.int lo)) (B_ky : Fld Z h147 ky "com/example/fencer/fencer/protocol/ApiKey" "maxVersion" "S" (.int hi)) (VL3 : Arv Z h147 b5 k5 (.object "com/example/fencer/fencer/protocol/ApiKey") (20 : Int32) ([w10, w11, w12, w13, w14, w15, w16, w17, w18, w19, w20, w21, w22, w23, w24, w25, w26, w27, w28, w29].map Value.ref) .null) (VL4 : Arv Z h147 b66 k66 .int (20 : Int32) (own_los.map Value.int) (.int (0 : Int32))) (VL5 : Arv Z h147 b107 k107 .int (20 : Int32) (own_his.map Value.int) (.int (0 : Int32))) : own_WP p e below s (own_Q0 Z p1 p2 p3 w10 w11 w12 w13 w14 w15 w16 w17 w18 w19 w20 w21 w22 w23 w24 w25 w26 w27 w28 w29 h0 n0) 16 192 T147 (mkF m 353 #[iv p1, iv p2, iv p3, rv b5, rv b66, rv b107, iv ix, .unset, .unset, .unset] []) := by
  have J373 : ∀ (ve : Int32), own_WP p e below s (own_Q0 Z p1 p2 p3 w10 w11 w12 w13 w14 w15 w16 w17 w18 w19 w20 w21 w22 w23 w24 w25 w26 w27 w28 w29 h0 n0) 16 192 T147 (mkF m 373 #[iv p1, iv p2, iv p3, rv b5, rv b66, rv b107, iv ix, iv ve, .unset, .unset] []) := by
    intro ve
    refine own_st (mkF m 375 #[iv p1, iv p2, iv p3, rv b5, rv b66, rv b107, iv ix, iv ve, .unset, .unset] [(.int ve)]) (fun t k => XS.iload X147.here hx rfl (hb hby at_373) rfl k) ?_
    refine own_st (mkF m 377 #[iv p1, iv p2, iv p3, rv b5, rv b66, rv b107, iv ix, iv ve, iv ve, .unset] []) (fun t k => XS.istore X147.here hx rfl (hb hby at_375) rfl (l' := #[iv p1, iv p2, iv p3, rv b5, rv b66, rv b107, iv ix, iv ve, iv ve, .unset]) rfl k) ?_
    refine own_st (mkF m 379 #[iv p1, iv p2, iv p3, rv b5, rv b66, rv b107, iv ix, iv ve, iv ve, .unset] [(.ref b66)]) (fun t k => XS.aload X147.here hx rfl (hb hby at_377) rfl rfl k) ?_
    refine own_st (mkF m 381 #[iv p1, iv p2, iv p3, rv b5, rv b66, rv b107, iv ix, iv ve, iv ve, .unset] [(.int ix), (.ref b66)]) (fun t k => XS.iload X147.here hx rfl (hb hby at_379) rfl k) ?_
    obtain ⟨cl148, Ar148, q148, S148, M148, H148, G148⟩ := id VL4
    have hin148 : ¬ (ix < 0 ∨ cl148.slots.size ≤ (ix).toNatClampNeg) := inb_of S148 hix
    refine own_step (T' := T147) (g' := (mkF m 382 #[iv p1, iv p2, iv p3, rv b5, rv b66, rv b107, iv ix, iv ve, iv ve, .unset] [(.int lo)])) (X147.iaload hx (j := ix) (v := (.int lo)) (by rw [e147]; exact Ar148.1) (State.isArrayOf_alike hZ.alike Ar148.2.1) Ar148.2.2 hin148 (H148.at hin148 (by rw [h_lo]; exact own_geti own_los ix.toNatClampNeg 0)) (g := (mkF m 381 #[iv p1, iv p2, iv p3, rv b5, rv b66, rv b107, iv ix, iv ve, iv ve, .unset] [(.int ix), (.ref b66)])) rfl rfl (hb hby at_381)) ?_
    refine own_st (mkF m 384 #[iv p1, iv p2, iv p3, rv b5, rv b66, rv b107, iv ix, iv ve, iv ve, .unset] [(.int ve), (.int lo)]) (fun t k => XS.iload X147.here hx rfl (hb hby at_382) rfl k) ?_
    by_cases hc149 : ve < lo
    · refine own_st (mkF m 401 #[iv p1, iv p2, iv p3, rv b5, rv b66, rv b107, iv ix, iv ve, iv ve, .unset] []) (fun t k => XS.icmpYes X147.here hx rfl (pc0 := 384) (pc' := 401) rfl (hb hby at_384) rfl (tlt hc149).2.2.1 (by decide) (by decide) k) ?_
      refine own_st (mkF m 402 #[iv p1, iv p2, iv p3, rv b5, rv b66, rv b107, iv ix, iv ve, iv ve, .unset] [(.int (0 : Int32))]) (fun t k => XS.iconst X147.here hx rfl (hb hby at_401) k) ?_
      refine own_st (mkF m 404 #[iv p1, iv p2, iv p3, rv b5, rv b66, rv b107, iv ix, iv ve, iv ve, iv (0 : Int32)] []) (fun t k => XS.istore X147.here hx rfl (hb hby at_402) rfl (l' := #[iv p1, iv p2, iv p3, rv b5, rv b66, rv b107, iv ix, iv ve, iv ve, iv (0 : Int32)]) rfl k) ?_
      refine own_st (mkF m 405 #[iv p1, iv p2, iv p3, rv b5, rv b66, rv b107, iv ix, iv ve, iv ve, iv (0 : Int32)] [(.ref b5)]) (fun t k => XS.aloadN X147.here hx rfl (hb hby at_404) rfl rfl k) ?_
      refine own_st (mkF m 407 #[iv p1, iv p2, iv p3, rv b5, rv b66, rv b107, iv ix, iv ve, iv ve, iv (0 : Int32)] [(.int ix), (.ref b5)]) (fun t k => XS.iload X147.here hx rfl (hb hby at_405) rfl k) ?_
      obtain ⟨cl150, Ar150, q150, S150, M150, H150, G150⟩ := id VL3
      have hin150 : ¬ (ix < 0 ∨ cl150.slots.size ≤ (ix).toNatClampNeg) := inb_of S150 hix
      refine own_step (T' := T147) (g' := (mkF m 408 #[iv p1, iv p2, iv p3, rv b5, rv b66, rv b107, iv ix, iv ve, iv ve, iv (0 : Int32)] [(.ref ky)])) (X147.aaload hx (j := ix) (v := (.ref ky)) (by rw [e147]; exact Ar150.1) (State.isArrayOf_alike hZ.alike Ar150.2.1) rfl Ar150.2.2 hin150 (H150.at hin150 (by rw [h_ky]; exact own_getr [w10, w11, w12, w13, w14, w15, w16, w17, w18, w19, w20, w21, w22, w23, w24, w25, w26, w27, w28, w29] ix.toNatClampNeg hnx)) (g := (mkF m 407 #[iv p1, iv p2, iv p3, rv b5, rv b66, rv b107, iv ix, iv ve, iv ve, iv (0 : Int32)] [(.int ix), (.ref b5)])) rfl rfl (hb hby at_407)) ?_
      refine own_st (mkF m 410 #[iv p1, iv p2, iv p3, rv b5, rv b66, rv b107, iv ix, iv ve, iv ve, iv (0 : Int32)] [(.int ve), (.ref ky)]) (fun t k => XS.iload X147.here hx rfl (hb hby at_408) rfl k) ?_
      obtain ⟨cq151, kq151, q151a, q151b, q151c⟩ := isOf hZ e147 E_ky
      obtain ⟨_, _, ⟨T151, L151, k151, n151⟩, -, X151, ⟨Lc151, hQ151, l151, y151, z151⟩, st151⟩ := X147.virtualBack hx (y := (⟨"com/example/fencer/fencer/protocol/ApiKey", "supports", "(S)Z"⟩ : MethodName)) (z := (⟨"com/example/fencer/fencer/protocol/ApiKey", "supports", "(S)Z"⟩ : MethodName)) hown (mvT hZ (hw_46 hw)) (mvT hZ (hw_47 hw)) (notFace_of_selects (args := #[]) (mvT hZ (hw_49 hw))) (mvT hZ (hw_49 hw)) (mvT hZ (hw_48 hw)) (by decide) (backOf (W := 0) (own_rm1 l Z a0 hw [] ky ve lo hi h147 n0 Z147 A_ky B_ky) hZ (hw_50 hw) (hw_3 hw) (by decide) (by decide)) q151a q151c (g := (mkF m 410 #[iv p1, iv p2, iv p3, rv b5, rv b66, rv b107, iv ix, iv ve, iv ve, iv (0 : Int32)] [(.int ve), (.ref ky)])) rfl (by rw [hml]; rfl) (Steps.refl _) (argsL := [(.int ve)]) (rest := []) (lenOf pd_0 rfl) rfl (by show 2 * 0 + _ ≤ _; exact Nat.le_of_eq rfl) (hb hby at_410) (fun _ _ => ⟨rfl, e147, (by decide : 3 + 0 ≤ _), (by decide : 60 + 0 ≤ _)⟩)
      dsimp only [Pt.U, Pt.locs, Pt.cells, Pt.slots] at X151 l151 y151 z151 st151 hQ151
      subst l151 y151 z151
      obtain ⟨rfl, Nq151, e151⟩ := hQ151
      have N151 := Fr.app N147 Nq151
      refine own_jump (g' := (mkF m 413 #[iv p1, iv p2, iv p3, rv b5, rv b66, rv b107, iv ix, iv ve, iv ve, iv (0 : Int32)] [(.int (own_sup ve lo hi))])) st151 ?_
      refine own_st (mkF m 415 #[iv p1, iv p2, iv p3, rv b5, rv b66, rv b107, iv ix, iv ve, iv ve, iv (0 : Int32)] [(.int (0 : Int32)), (.int (own_sup ve lo hi))]) (fun t k => XS.iload X151.here hx rfl (hb hby at_413) rfl k) ?_
      refine own_st (mkF m 418 #[iv p1, iv p2, iv p3, rv b5, rv b66, rv b107, iv ix, iv ve, iv ve, iv (0 : Int32)] []) (fun t k => XS.icmpNo X151.here hx rfl (hb hby at_415) rfl (teq (by simp [own_sup, hc149])).2 k) ?_
      refine own_st (mkF m 419 #[iv p1, iv p2, iv p3, rv b5, rv b66, rv b107, iv ix, iv ve, iv ve, iv (0 : Int32)] [(.int (1 : Int32))]) (fun t k => XS.iconst X151.here hx rfl (hb hby at_418) k) ?_
      refine own_st (mkF m 423 #[iv p1, iv p2, iv p3, rv b5, rv b66, rv b107, iv ix, iv ve, iv ve, iv (0 : Int32)] [(.int (1 : Int32))]) (fun t k => XS.goto X151.here hx rfl (pc0 := 419) (pc' := 423) rfl (hb hby at_419) (by decide) (by decide) k) ?_
      refine own_ret X151 hlk (v := some (.int (1 : Int32))) (fun h => by rw [hret] at h; cases h) (fun fs hr => retN X151 hx (t := .boolean) hret (by simp) (hb hby at_423) hr) ?_ (by decide) (by decide)
      show own_Q0 Z p1 p2 p3 w10 w11 w12 w13 w14 w15 w16 w17 w18 w19 w20 w21 w22 w23 w24 w25 w26 w27 w28 w29 h0 n0 _ T151.heap _
      rw [e151]
      exact ⟨rfl, N151⟩
    · refine own_st (mkF m 387 #[iv p1, iv p2, iv p3, rv b5, rv b66, rv b107, iv ix, iv ve, iv ve, .unset] []) (fun t k => XS.icmpNo X147.here hx rfl (hb hby at_384) rfl (flt hc149).2.2.1 k) ?_
      refine own_st (mkF m 389 #[iv p1, iv p2, iv p3, rv b5, rv b66, rv b107, iv ix, iv ve, iv ve, .unset] [(.int ve)]) (fun t k => XS.iload X147.here hx rfl (hb hby at_387) rfl k) ?_
      refine own_st (mkF m 391 #[iv p1, iv p2, iv p3, rv b5, rv b66, rv b107, iv ix, iv ve, iv ve, .unset] [(.ref b107), (.int ve)]) (fun t k => XS.aload X147.here hx rfl (hb hby at_389) rfl rfl k) ?_
      refine own_st (mkF m 393 #[iv p1, iv p2, iv p3, rv b5, rv b66, rv b107, iv ix, iv ve, iv ve, .unset] [(.int ix), (.ref b107), (.int ve)]) (fun t k => XS.iload X147.here hx rfl (hb hby at_391) rfl k) ?_
      obtain ⟨cl152, Ar152, q152, S152, M152, H152, G152⟩ := id VL5
      have hin152 : ¬ (ix < 0 ∨ cl152.slots.size ≤ (ix).toNatClampNeg) := inb_of S152 hix
      refine own_step (T' := T147) (g' := (mkF m 394 #[iv p1, iv p2, iv p3, rv b5, rv b66, rv b107, iv ix, iv ve, iv ve, .unset] [(.int hi), (.int ve)])) (X147.iaload hx (j := ix) (v := (.int hi)) (by rw [e147]; exact Ar152.1) (State.isArrayOf_alike hZ.alike Ar152.2.1) Ar152.2.2 hin152 (H152.at hin152 (by rw [h_hi]; exact own_geti own_his ix.toNatClampNeg 0)) (g := (mkF m 393 #[iv p1, iv p2, iv p3, rv b5, rv b66, rv b107, iv ix, iv ve, iv ve, .unset] [(.int ix), (.ref b107), (.int ve)])) rfl rfl (hb hby at_393)) ?_
      by_cases hc153 : hi < ve
      · refine own_st (mkF m 401 #[iv p1, iv p2, iv p3, rv b5, rv b66, rv b107, iv ix, iv ve, iv ve, .unset] []) (fun t k => XS.icmpYes X147.here hx rfl (pc0 := 394) (pc' := 401) rfl (hb hby at_394) rfl (tlt hc153).2.2.1 (by decide) (by decide) k) ?_
        refine own_st (mkF m 402 #[iv p1, iv p2, iv p3, rv b5, rv b66, rv b107, iv ix, iv ve, iv ve, .unset] [(.int (0 : Int32))]) (fun t k => XS.iconst X147.here hx rfl (hb hby at_401) k) ?_
        refine own_st (mkF m 404 #[iv p1, iv p2, iv p3, rv b5, rv b66, rv b107, iv ix, iv ve, iv ve, iv (0 : Int32)] []) (fun t k => XS.istore X147.here hx rfl (hb hby at_402) rfl (l' := #[iv p1, iv p2, iv p3, rv b5, rv b66, rv b107, iv ix, iv ve, iv ve, iv (0 : Int32)]) rfl k) ?_
        refine own_st (mkF m 405 #[iv p1, iv p2, iv p3, rv b5, rv b66, rv b107, iv ix, iv ve, iv ve, iv (0 : Int32)] [(.ref b5)]) (fun t k => XS.aloadN X147.here hx rfl (hb hby at_404) rfl rfl k) ?_
        refine own_st (mkF m 407 #[iv p1, iv p2, iv p3, rv b5, rv b66, rv b107, iv ix, iv ve, iv ve, iv (0 : Int32)] [(.int ix), (.ref b5)]) (fun t k => XS.iload X147.here hx rfl (hb hby at_405) rfl k) ?_
        obtain ⟨cl154, Ar154, q154, S154, M154, H154, G154⟩ := id VL3
        have hin154 : ¬ (ix < 0 ∨ cl154.slots.size ≤ (ix).toNatClampNeg) := inb_of S154 hix
        refine own_step (T' := T147) (g' := (mkF m 408 #[iv p1, iv p2, iv p3, rv b5, rv b66, rv b107, iv ix, iv ve, iv ve, iv (0 : Int32)] [(.ref ky)])) (X147.aaload hx (j := ix) (v := (.ref ky)) (by rw [e147]; exact Ar154.1) (State.isArrayOf_alike hZ.alike Ar154.2.1) rfl Ar154.2.2 hin154 (H154.at hin154 (by rw [h_ky]; exact own_getr [w10, w11, w12, w13, w14, w15, w16, w17, w18, w19, w20, w21, w22, w23, w24, w25, w26, w27, w28, w29] ix.toNatClampNeg hnx)) (g := (mkF m 407 #[iv p1, iv p2, iv p3, rv b5, rv b66, rv b107, iv ix, iv ve, iv ve, iv (0 : Int32)] [(.int ix), (.ref b5)])) rfl rfl (hb hby at_407)) ?_
        refine own_st (mkF m 410 #[iv p1, iv p2, iv p3, rv b5, rv b66, rv b107, iv ix, iv ve, iv ve, iv (0 : Int32)] [(.int ve), (.ref ky)]) (fun t k => XS.iload X147.here hx rfl (hb hby at_408) rfl k) ?_
        obtain ⟨cq155, kq155, q155a, q155b, q155c⟩ := isOf hZ e147 E_ky
        obtain ⟨_, _, ⟨T155, L155, k155, n155⟩, -, X155, ⟨Lc155, hQ155, l155, y155, z155⟩, st155⟩ := X147.virtualBack hx (y := (⟨"com/example/fencer/fencer/protocol/ApiKey", "supports", "(S)Z"⟩ : MethodName)) (z := (⟨"com/example/fencer/fencer/protocol/ApiKey", "supports", "(S)Z"⟩ : MethodName)) hown (mvT hZ (hw_46 hw)) (mvT hZ (hw_47 hw)) (notFace_of_selects (args := #[]) (mvT hZ (hw_49 hw))) (mvT hZ (hw_49 hw)) (mvT hZ (hw_48 hw)) (by decide) (backOf (W := 0) (own_rm1 l Z a0 hw [] ky ve lo hi h147 n0 Z147 A_ky B_ky) hZ (hw_50 hw) (hw_3 hw) (by decide) (by decide)) q155a q155c (g := (mkF m 410 #[iv p1, iv p2, iv p3, rv b5, rv b66, rv b107, iv ix, iv ve, iv ve, iv (0 : Int32)] [(.int ve), (.ref ky)])) rfl (by rw [hml]; rfl) (Steps.refl _) (argsL := [(.int ve)]) (rest := []) (lenOf pd_0 rfl) rfl (by show 2 * 0 + _ ≤ _; exact Nat.le_of_eq rfl) (hb hby at_410) (fun _ _ => ⟨rfl, e147, (by decide : 3 + 0 ≤ _), (by decide : 60 + 0 ≤ _)⟩)
        dsimp only [Pt.U, Pt.locs, Pt.cells, Pt.slots] at X155 l155 y155 z155 st155 hQ155
        subst l155 y155 z155
        obtain ⟨rfl, Nq155, e155⟩ := hQ155
        have N155 := Fr.app N147 Nq155
        refine own_jump (g' := (mkF m 413 #[iv p1, iv p2, iv p3, rv b5, rv b66, rv b107, iv ix, iv ve, iv ve, iv (0 : Int32)] [(.int (own_sup ve lo hi))])) st155 ?_
        refine own_st (mkF m 415 #[iv p1, iv p2, iv p3, rv b5, rv b66, rv b107, iv ix, iv ve, iv ve, iv (0 : Int32)] [(.int (0 : Int32)), (.int (own_sup ve lo hi))]) (fun t k => XS.iload X155.here hx rfl (hb hby at_413) rfl k) ?_
        refine own_st (mkF m 418 #[iv p1, iv p2, iv p3, rv b5, rv b66, rv b107, iv ix, iv ve, iv ve, iv (0 : Int32)] []) (fun t k => XS.icmpNo X155.here hx rfl (hb hby at_415) rfl (teq (by simp [own_sup, hc149, hc153])).2 k) ?_
        refine own_st (mkF m 419 #[iv p1, iv p2, iv p3, rv b5, rv b66, rv b107, iv ix, iv ve, iv ve, iv (0 : Int32)] [(.int (1 : Int32))]) (fun t k => XS.iconst X155.here hx rfl (hb hby at_418) k) ?_
        refine own_st (mkF m 423 #[iv p1, iv p2, iv p3, rv b5, rv b66, rv b107, iv ix, iv ve, iv ve, iv (0 : Int32)] [(.int (1 : Int32))]) (fun t k => XS.goto X155.here hx rfl (pc0 := 419) (pc' := 423) rfl (hb hby at_419) (by decide) (by decide) k) ?_
        refine own_ret X155 hlk (v := some (.int (1 : Int32))) (fun h => by rw [hret] at h; cases h) (fun fs hr => retN X155 hx (t := .boolean) hret (by simp) (hb hby at_423) hr) ?_ (by decide) (by decide)
        show own_Q0 Z p1 p2 p3 w10 w11 w12 w13 w14 w15 w16 w17 w18 w19 w20 w21 w22 w23 w24 w25 w26 w27 w28 w29 h0 n0 _ T155.heap _
        rw [e155]
        exact ⟨rfl, N155⟩
      · refine own_st (mkF m 397 #[iv p1, iv p2, iv p3, rv b5, rv b66, rv b107, iv ix, iv ve, iv ve, .unset] []) (fun t k => XS.icmpNo X147.here hx rfl (hb hby at_394) rfl (flt hc153).2.2.1 k) ?_
        refine own_st (mkF m 398 #[iv p1, iv p2, iv p3, rv b5, rv b66, rv b107, iv ix, iv ve, iv ve, .unset] [(.int (1 : Int32))]) (fun t k => XS.iconst X147.here hx rfl (hb hby at_397) k) ?_
        refine own_st (mkF m 402 #[iv p1, iv p2, iv p3, rv b5, rv b66, rv b107, iv ix, iv ve, iv ve, .unset] [(.int (1 : Int32))]) (fun t k => XS.goto X147.here hx rfl (pc0 := 398) (pc' := 402) rfl (hb hby at_398) (by decide) (by decide) k) ?_
        refine own_st (mkF m 404 #[iv p1, iv p2, iv p3, rv b5, rv b66, rv b107, iv ix, iv ve, iv ve, iv (1 : Int32)] []) (fun t k => XS.istore X147.here hx rfl (hb hby at_402) rfl (l' := #[iv p1, iv p2, iv p3, rv b5, rv b66, rv b107, iv ix, iv ve, iv ve, iv (1 : Int32)]) rfl k) ?_
        refine own_st (mkF m 405 #[iv p1, iv p2, iv p3, rv b5, rv b66, rv b107, iv ix, iv ve, iv ve, iv (1 : Int32)] [(.ref b5)]) (fun t k => XS.aloadN X147.here hx rfl (hb hby at_404) rfl rfl k) ?_
        refine own_st (mkF m 407 #[iv p1, iv p2, iv p3, rv b5, rv b66, rv b107, iv ix, iv ve, iv ve, iv (1 : Int32)] [(.int ix), (.ref b5)]) (fun t k => XS.iload X147.here hx rfl (hb hby at_405) rfl k) ?_
        obtain ⟨cl156, Ar156, q156, S156, M156, H156, G156⟩ := id VL3
        have hin156 : ¬ (ix < 0 ∨ cl156.slots.size ≤ (ix).toNatClampNeg) := inb_of S156 hix
        refine own_step (T' := T147) (g' := (mkF m 408 #[iv p1, iv p2, iv p3, rv b5, rv b66, rv b107, iv ix, iv ve, iv ve, iv (1 : Int32)] [(.ref ky)])) (X147.aaload hx (j := ix) (v := (.ref ky)) (by rw [e147]; exact Ar156.1) (State.isArrayOf_alike hZ.alike Ar156.2.1) rfl Ar156.2.2 hin156 (H156.at hin156 (by rw [h_ky]; exact own_getr [w10, w11, w12, w13, w14, w15, w16, w17, w18, w19, w20, w21, w22, w23, w24, w25, w26, w27, w28, w29] ix.toNatClampNeg hnx)) (g := (mkF m 407 #[iv p1, iv p2, iv p3, rv b5, rv b66, rv b107, iv ix, iv ve, iv ve, iv (1 : Int32)] [(.int ix), (.ref b5)])) rfl rfl (hb hby at_407)) ?_
        refine own_st (mkF m 410 #[iv p1, iv p2, iv p3, rv b5, rv b66, rv b107, iv ix, iv ve, iv ve, iv (1 : Int32)] [(.int ve), (.ref ky)]) (fun t k => XS.iload X147.here hx rfl (hb hby at_408) rfl k) ?_
        obtain ⟨cq157, kq157, q157a, q157b, q157c⟩ := isOf hZ e147 E_ky
        obtain ⟨_, _, ⟨T157, L157, k157, n157⟩, -, X157, ⟨Lc157, hQ157, l157, y157, z157⟩, st157⟩ := X147.virtualBack hx (y := (⟨"com/example/fencer/fencer/protocol/ApiKey", "supports", "(S)Z"⟩ : MethodName)) (z := (⟨"com/example/fencer/fencer/protocol/ApiKey", "supports", "(S)Z"⟩ : MethodName)) hown (mvT hZ (hw_46 hw)) (mvT hZ (hw_47 hw)) (notFace_of_selects (args := #[]) (mvT hZ (hw_49 hw))) (mvT hZ (hw_49 hw)) (mvT hZ (hw_48 hw)) (by decide) (backOf (W := 0) (own_rm1 l Z a0 hw [] ky ve lo hi h147 n0 Z147 A_ky B_ky) hZ (hw_50 hw) (hw_3 hw) (by decide) (by decide)) q157a q157c (g := (mkF m 410 #[iv p1, iv p2, iv p3, rv b5, rv b66, rv b107, iv ix, iv ve, iv ve, iv (1 : Int32)] [(.int ve), (.ref ky)])) rfl (by rw [hml]; rfl) (Steps.refl _) (argsL := [(.int ve)]) (rest := []) (lenOf pd_0 rfl) rfl (by show 2 * 0 + _ ≤ _; exact Nat.le_of_eq rfl) (hb hby at_410) (fun _ _ => ⟨rfl, e147, (by decide : 3 + 0 ≤ _), (by decide : 60 + 0 ≤ _)⟩)
        dsimp only [Pt.U, Pt.locs, Pt.cells, Pt.slots] at X157 l157 y157 z157 st157 hQ157
        subst l157 y157 z157
        obtain ⟨rfl, Nq157, e157⟩ := hQ157
        have N157 := Fr.app N147 Nq157
        refine own_jump (g' := (mkF m 413 #[iv p1, iv p2, iv p3, rv b5, rv b66, rv b107, iv ix, iv ve, iv ve, iv (1 : Int32)] [(.int (own_sup ve lo hi))])) st157 ?_
        refine own_st (mkF m 415 #[iv p1, iv p2, iv p3, rv b5, rv b66, rv b107, iv ix, iv ve, iv ve, iv (1 : Int32)] [(.int (1 : Int32)), (.int (own_sup ve lo hi))]) (fun t k => XS.iload X157.here hx rfl (hb hby at_413) rfl k) ?_
        refine own_st (mkF m 418 #[iv p1, iv p2, iv p3, rv b5, rv b66, rv b107, iv ix, iv ve, iv ve, iv (1 : Int32)] []) (fun t k => XS.icmpNo X157.here hx rfl (hb hby at_415) rfl (teq (by simp [own_sup, hc149, hc153])).2 k) ?_
        refine own_st (mkF m 419 #[iv p1, iv p2, iv p3, rv b5, rv b66, rv b107, iv ix, iv ve, iv ve, iv (1 : Int32)] [(.int (1 : Int32))]) (fun t k => XS.iconst X157.here hx rfl (hb hby at_418) k) ?_
        refine own_st (mkF m 423 #[iv p1, iv p2, iv p3, rv b5, rv b66, rv b107, iv ix, iv ve, iv ve, iv (1 : Int32)] [(.int (1 : Int32))]) (fun t k => XS.goto X157.here hx rfl (pc0 := 419) (pc' := 423) rfl (hb hby at_419) (by decide) (by decide) k) ?_
        refine own_ret X157 hlk (v := some (.int (1 : Int32))) (fun h => by rw [hret] at h; cases h) (fun fs hr => retN X157 hx (t := .boolean) hret (by simp) (hb hby at_423) hr) ?_ (by decide) (by decide)
        show own_Q0 Z p1 p2 p3 w10 w11 w12 w13 w14 w15 w16 w17 w18 w19 w20 w21 w22 w23 w24 w25 w26 w27 w28 w29 h0 n0 _ T157.heap _
        rw [e157]
        exact ⟨rfl, N157⟩
  refine own_st (mkF m 354 #[iv p1, iv p2, iv p3, rv b5, rv b66, rv b107, iv ix, .unset, .unset, .unset] [(.int p3)]) (fun t k => XS.iloadN X147.here hx rfl (hb hby at_353) rfl k) ?_
  refine own_st (mkF m 355 #[iv p1, iv p2, iv p3, rv b5, rv b66, rv b107, iv ix, .unset, .unset, .unset] [(.int (1 : Int32)), (.int p3)]) (fun t k => XS.iconst X147.here hx rfl (hb hby at_354) k) ?_
  refine own_st (mkF m 356 #[iv p1, iv p2, iv p3, rv b5, rv b66, rv b107, iv ix, .unset, .unset, .unset] [(.int (p3 &&& (1 : Int32)))]) (fun t k => XS.iand X147.here hx rfl (hb hby at_355) rfl k) ?_
  by_cases hc158 : (p3 &&& (1 : Int32)) = (0 : Int32)
  · refine own_st (mkF m 369 #[iv p1, iv p2, iv p3, rv b5, rv b66, rv b107, iv ix, .unset, .unset, .unset] []) (fun t k => XS.ifYes X147.here hx rfl (pc0 := 356) (pc' := 369) rfl (hb hby at_356) rfl ((if0 _ _).trans (teq hc158).1) (by decide) (by decide) k) ?_
    refine own_st (mkF m 370 #[iv p1, iv p2, iv p3, rv b5, rv b66, rv b107, iv ix, .unset, .unset, .unset] [(.int p2)]) (fun t k => XS.iloadN X147.here hx rfl (hb hby at_369) rfl k) ?_
    refine own_st (mkF m 371 #[iv p1, iv p2, iv p3, rv b5, rv b66, rv b107, iv ix, .unset, .unset, .unset] [(.int (p2.toInt16.toInt32))]) (fun t k => XS.i2s X147.here hx rfl (hb hby at_370) rfl k) ?_
    refine own_st (mkF m 373 #[iv p1, iv p2, iv p3, rv b5, rv b66, rv b107, iv ix, iv (p2.toInt16.toInt32), .unset, .unset] []) (fun t k => XS.istore X147.here hx rfl (hb hby at_371) rfl (l' := #[iv p1, iv p2, iv p3, rv b5, rv b66, rv b107, iv ix, iv (p2.toInt16.toInt32), .unset, .unset]) rfl k) ?_
    exact J373 (p2.toInt16.toInt32)
  · refine own_st (mkF m 359 #[iv p1, iv p2, iv p3, rv b5, rv b66, rv b107, iv ix, .unset, .unset, .unset] []) (fun t k => XS.ifNo X147.here hx rfl (hb hby at_356) rfl ((if0 _ _).trans (feq hc158).1) k) ?_
    refine own_st (mkF m 360 #[iv p1, iv p2, iv p3, rv b5, rv b66, rv b107, iv ix, .unset, .unset, .unset] [(.int p2)]) (fun t k => XS.iloadN X147.here hx rfl (hb hby at_359) rfl k) ?_
    refine own_st (mkF m 362 #[iv p1, iv p2, iv p3, rv b5, rv b66, rv b107, iv ix, .unset, .unset, .unset] [(.int (16 : Int32)), (.int p2)]) (fun t k => XS.bipush X147.here hx rfl (hb hby at_360) k) ?_
    refine own_st (mkF m 363 #[iv p1, iv p2, iv p3, rv b5, rv b66, rv b107, iv ix, .unset, .unset, .unset] [(.int (p2 % (16 : Int32)))]) (fun t k => iremM X147 hx rfl (hb hby at_362) rfl (by decide) k) ?_
    refine own_st (mkF m 364 #[iv p1, iv p2, iv p3, rv b5, rv b66, rv b107, iv ix, .unset, .unset, .unset] [(.int ((p2 % (16 : Int32)).toInt16.toInt32))]) (fun t k => XS.i2s X147.here hx rfl (hb hby at_363) rfl k) ?_
    refine own_st (mkF m 366 #[iv p1, iv p2, iv p3, rv b5, rv b66, rv b107, iv ix, iv ((p2 % (16 : Int32)).toInt16.toInt32), .unset, .unset] []) (fun t k => XS.istore X147.here hx rfl (hb hby at_364) rfl (l' := #[iv p1, iv p2, iv p3, rv b5, rv b66, rv b107, iv ix, iv ((p2 % (16 : Int32)).toInt16.toInt32), .unset, .unset]) rfl k) ?_
    refine own_st (mkF m 373 #[iv p1, iv p2, iv p3, rv b5, rv b66, rv b107, iv ix, iv ((p2 % (16 : Int32)).toInt16.toInt32), .unset, .unset] []) (fun t k => XS.goto X147.here hx rfl (pc0 := 366) (pc' := 373) rfl (hb hby at_366) (by decide) (by decide) k) ?_
    exact J373 ((p2 % (16 : Int32)).toInt16.toInt32)
set_option maxRecDepth 65536 in
set_option maxHeartbeats 40000000 in
theorem own_rm0 (l : Launch) (Z : State) (a0 : Array Value) (hw : ∀ d ∈ tables_1, d.before a0 Z = true) (ws : List Jvm.Cond) (p1 : Int32) (p2 : Int32) (p3 : Int32) (w10 : Addr) (w11 : Addr) (w12 : Addr) (w13 : Addr) (w14 : Addr) (w15 : Addr) (w16 : Addr) (w17 : Addr) (w18 : Addr) (w19 : Addr) (w20 : Addr) (w21 : Addr) (w22 : Addr) (w23 : Addr) (w24 : Addr) (w25 : Addr) (w26 : Addr) (w27 : Addr) (w28 : Addr) (w29 : Addr) (h0 : Heap) (n0 : Nat) (Z0 : n0 ≤ h0.size) (O0 : Old Z n0 h0) (S_w10 : Sta Z Z.heap "com/example/fencer/fencer/protocol/ApiKey" "PRODUCE" "Lcom/example/fencer/fencer/protocol/ApiKey;" (.ref w10)) (S_w11 : Sta Z Z.heap "com/example/fencer/fencer/protocol/ApiKey" "FETCH" "Lcom/example/fencer/fencer/protocol/ApiKey;" (.ref w11)) (S_w12 : Sta Z Z.heap "com/example/fencer/fencer/protocol/ApiKey" "LIST_OFFSETS" "Lcom/example/fencer/fencer/protocol/ApiKey;" (.ref w12)) (S_w13 : Sta Z Z.heap "com/example/fencer/fencer/protocol/ApiKey" "METADATA" "Lcom/example/fencer/fencer/protocol/ApiKey;" (.ref w13)) (S_w14 : Sta Z Z.heap "com/example/fencer/fencer/protocol/ApiKey" "OFFSET_COMMIT" "Lcom/example/fencer/fencer/protocol/ApiKey;" (.ref w14)) (S_w15 : Sta Z Z.heap "com/example/fencer/fencer/protocol/ApiKey" "OFFSET_FETCH" "Lcom/example/fencer/fencer/protocol/ApiKey;" (.ref w15)) (S_w16 : Sta Z Z.heap "com/example/fencer/fencer/protocol/ApiKey" "FIND_COORDINATOR" "Lcom/example/fencer/fencer/protocol/ApiKey;" (.ref w16)) (S_w17 : Sta Z Z.heap "com/example/fencer/fencer/protocol/ApiKey" "JOIN_GROUP" "Lcom/example/fencer/fencer/protocol/ApiKey;" (.ref w17)) (S_w18 : Sta Z Z.heap "com/example/fencer/fencer/protocol/ApiKey" "HEARTBEAT" "Lcom/example/fencer/fencer/protocol/ApiKey;" (.ref w18)) (S_w19 : Sta Z Z.heap "com/example/fencer/fencer/protocol/ApiKey" "LEAVE_GROUP" "Lcom/example/fencer/fencer/protocol/ApiKey;" (.ref w19)) (S_w20 : Sta Z Z.heap "com/example/fencer/fencer/protocol/ApiKey" "SYNC_GROUP" "Lcom/example/fencer/fencer/protocol/ApiKey;" (.ref w20)) (S_w21 : Sta Z Z.heap "com/example/fencer/fencer/protocol/ApiKey" "API_VERSIONS" "Lcom/example/fencer/fencer/protocol/ApiKey;" (.ref w21)) (S_w22 : Sta Z Z.heap "com/example/fencer/fencer/protocol/ApiKey" "CREATE_TOPICS" "Lcom/example/fencer/fencer/protocol/ApiKey;" (.ref w22)) (S_w23 : Sta Z Z.heap "com/example/fencer/fencer/protocol/ApiKey" "DELETE_TOPICS" "Lcom/example/fencer/fencer/protocol/ApiKey;" (.ref w23)) (S_w24 : Sta Z Z.heap "com/example/fencer/fencer/protocol/ApiKey" "INIT_PRODUCER_ID" "Lcom/example/fencer/fencer/protocol/ApiKey;" (.ref w24)) (S_w25 : Sta Z Z.heap "com/example/fencer/fencer/protocol/ApiKey" "ADD_PARTITIONS_TO_TXN" "Lcom/example/fencer/fencer/protocol/ApiKey;" (.ref w25)) (S_w26 : Sta Z Z.heap "com/example/fencer/fencer/protocol/ApiKey" "ADD_OFFSETS_TO_TXN" "Lcom/example/fencer/fencer/protocol/ApiKey;" (.ref w26)) (S_w27 : Sta Z Z.heap "com/example/fencer/fencer/protocol/ApiKey" "END_TXN" "Lcom/example/fencer/fencer/protocol/ApiKey;" (.ref w27)) (S_w28 : Sta Z Z.heap "com/example/fencer/fencer/protocol/ApiKey" "TXN_OFFSET_COMMIT" "Lcom/example/fencer/fencer/protocol/ApiKey;" (.ref w28)) (S_w29 : Sta Z Z.heap "com/example/fencer/fencer/protocol/ApiKey" "CREATE_PARTITIONS" "Lcom/example/fencer/fencer/protocol/ApiKey;" (.ref w29)) (E_w10 : Exa Z Z.heap w10 "com/example/fencer/fencer/protocol/ApiKey") (E_w11 : Exa Z Z.heap w11 "com/example/fencer/fencer/protocol/ApiKey") (E_w12 : Exa Z Z.heap w12 "com/example/fencer/fencer/protocol/ApiKey") (E_w13 : Exa Z Z.heap w13 "com/example/fencer/fencer/protocol/ApiKey") (E_w14 : Exa Z Z.heap w14 "com/example/fencer/fencer/protocol/ApiKey") (E_w15 : Exa Z Z.heap w15 "com/example/fencer/fencer/protocol/ApiKey") (E_w16 : Exa Z Z.heap w16 "com/example/fencer/fencer/protocol/ApiKey") (E_w17 : Exa Z Z.heap w17 "com/example/fencer/fencer/protocol/ApiKey") (E_w18 : Exa Z Z.heap w18 "com/example/fencer/fencer/protocol/ApiKey") (E_w19 : Exa Z Z.heap w19 "com/example/fencer/fencer/protocol/ApiKey") (E_w20 : Exa Z Z.heap w20 "com/example/fencer/fencer/protocol/ApiKey") (E_w21 : Exa Z Z.heap w21 "com/example/fencer/fencer/protocol/ApiKey") (E_w22 : Exa Z Z.heap w22 "com/example/fencer/fencer/protocol/ApiKey") (E_w23 : Exa Z Z.heap w23 "com/example/fencer/fencer/protocol/ApiKey") (E_w24 : Exa Z Z.heap w24 "com/example/fencer/fencer/protocol/ApiKey") (E_w25 : Exa Z Z.heap w25 "com/example/fencer/fencer/protocol/ApiKey") (E_w26 : Exa Z Z.heap w26 "com/example/fencer/fencer/protocol/ApiKey") (E_w27 : Exa Z Z.heap w27 "com/example/fencer/fencer/protocol/ApiKey") (E_w28 : Exa Z Z.heap w28 "com/example/fencer/fencer/protocol/ApiKey") (E_w29 : Exa Z Z.heap w29 "com/example/fencer/fencer/protocol/ApiKey") (A_w10 : Fld Z Z.heap w10 "com/example/fencer/fencer/protocol/ApiKey" "minVersion" "S" (.int (0 : Int32))) (A_w11 : Fld Z Z.heap w11 "com/example/fencer/fencer/protocol/ApiKey" "minVersion" "S" (.int (4 : Int32))) (A_w12 : Fld Z Z.heap w12 "com/example/fencer/fencer/protocol/ApiKey" "minVersion" "S" (.int (1 : Int32))) (A_w13 : Fld Z Z.heap w13 "com/example/fencer/fencer/protocol/ApiKey" "minVersion" "S" (.int (0 : Int32))) (A_w14 : Fld Z Z.heap w14 "com/example/fencer/fencer/protocol/ApiKey" "minVersion" "S" (.int (2 : Int32))) (A_w15 : Fld Z Z.heap w15 "com/example/fencer/fencer/protocol/ApiKey" "minVersion" "S" (.int (1 : Int32))) (A_w16 : Fld Z Z.heap w16 "com/example/fencer/fencer/protocol/ApiKey" "minVersion" "S" (.int (0 : Int32))) (A_w17 : Fld Z Z.heap w17 "com/example/fencer/fencer/protocol/ApiKey" "minVersion" "S" (.int (0 : Int32))) (A_w18 : Fld Z Z.heap w18 "com/example/fencer/fencer/protocol/ApiKey" "minVersion" "S" (.int (0 : Int32))) (A_w19 : Fld Z Z.heap w19 "com/example/fencer/fencer/protocol/ApiKey" "minVersion" "S" (.int (0 : Int32))) (A_w20 : Fld Z Z.heap w20 "com/example/fencer/fencer/protocol/ApiKey" "minVersion" "S" (.int (0 : Int32))) (A_w21 : Fld Z Z.heap w21 "com/example/fencer/fencer/protocol/ApiKey" "minVersion" "S" (.int (0 : Int32))) (A_w22 : Fld Z Z.heap w22 "com/example/fencer/fencer/protocol/ApiKey" "minVersion" "S" (.int (0 : Int32))) (A_w23 : Fld Z Z.heap w23 "com/example/fencer/fencer/protocol/ApiKey" "minVersion" "S" (.int (0 : Int32))) (A_w24 : Fld Z Z.heap w24 "com/example/fencer/fencer/protocol/ApiKey" "minVersion" "S" (.int (0 : Int32))) (A_w25 : Fld Z Z.heap w25 "com/example/fencer/fencer/protocol/ApiKey" "minVersion" "S" (.int (0 : Int32))) (A_w26 : Fld Z Z.heap w26 "com/example/fencer/fencer/protocol/ApiKey" "minVersion" "S" (.int (0 : Int32))) (A_w27 : Fld Z Z.heap w27 "com/example/fencer/fencer/protocol/ApiKey" "minVersion" "S" (.int (0 : Int32))) (A_w28 : Fld Z Z.heap w28 "com/example/fencer/fencer/protocol/ApiKey" "minVersion" "S" (.int (0 : Int32))) (A_w29 : Fld Z Z.heap w29 "com/example/fencer/fencer/protocol/ApiKey" "minVersion" "S" (.int (0 : Int32))) (B_w10 : Fld Z Z.heap w10 "com/example/fencer/fencer/protocol/ApiKey" "maxVersion" "S" (.int (7 : Int32))) (B_w11 : Fld Z Z.heap w11 "com/example/fencer/fencer/protocol/ApiKey" "maxVersion" "S" (.int (11 : Int32))) (B_w12 : Fld Z Z.heap w12 "com/example/fencer/fencer/protocol/ApiKey" "maxVersion" "S" (.int (2 : Int32))) (B_w13 : Fld Z Z.heap w13 "com/example/fencer/fencer/protocol/ApiKey" "maxVersion" "S" (.int (4 : Int32))) (B_w14 : Fld Z Z.heap w14 "com/example/fencer/fencer/protocol/ApiKey" "maxVersion" "S" (.int (7 : Int32))) (B_w15 : Fld Z Z.heap w15 "com/example/fencer/fencer/protocol/ApiKey" "maxVersion" "S" (.int (7 : Int32))) (B_w16 : Fld Z Z.heap w16 "com/example/fencer/fencer/protocol/ApiKey" "maxVersion" "S" (.int (2 : Int32))) (B_w17 : Fld Z Z.heap w17 "com/example/fencer/fencer/protocol/ApiKey" "maxVersion" "S" (.int (5 : Int32))) (B_w18 : Fld Z Z.heap w18 "com/example/fencer/fencer/protocol/ApiKey" "maxVersion" "S" (.int (3 : Int32))) (B_w19 : Fld Z Z.heap w19 "com/example/fencer/fencer/protocol/ApiKey" "maxVersion" "S" (.int (3 : Int32))) (B_w20 : Fld Z Z.heap w20 "com/example/fencer/fencer/protocol/ApiKey" "maxVersion" "S" (.int (3 : Int32))) (B_w21 : Fld Z Z.heap w21 "com/example/fencer/fencer/protocol/ApiKey" "maxVersion" "S" (.int (3 : Int32))) (B_w22 : Fld Z Z.heap w22 "com/example/fencer/fencer/protocol/ApiKey" "maxVersion" "S" (.int (4 : Int32))) (B_w23 : Fld Z Z.heap w23 "com/example/fencer/fencer/protocol/ApiKey" "maxVersion" "S" (.int (3 : Int32))) (B_w24 : Fld Z Z.heap w24 "com/example/fencer/fencer/protocol/ApiKey" "maxVersion" "S" (.int (1 : Int32))) (B_w25 : Fld Z Z.heap w25 "com/example/fencer/fencer/protocol/ApiKey" "maxVersion" "S" (.int (0 : Int32))) (B_w26 : Fld Z Z.heap w26 "com/example/fencer/fencer/protocol/ApiKey" "maxVersion" "S" (.int (0 : Int32))) (B_w27 : Fld Z Z.heap w27 "com/example/fencer/fencer/protocol/ApiKey" "maxVersion" "S" (.int (1 : Int32))) (B_w28 : Fld Z Z.heap w28 "com/example/fencer/fencer/protocol/ApiKey" "maxVersion" "S" (.int (3 : Int32))) (B_w29 : Fld Z Z.heap w29 "com/example/fencer/fencer/protocol/ApiKey" "maxVersion" "S" (.int (1 : Int32))) :
    MetFree l x (head1 (Jvm.Cond.code x code maxLocals ret :: ws) room_1) (fun a U => a = #[(.int p1), (.int p2), (.int p3)] ∧ Z.Warmed39 U.vm ∧ U.heap = h0) (fun _ _ _ _ _ => True) (fun _ U o U' => ∃ v L, o = .returned v ∧ own_Q0 Z p1 p2 p3 w10 w11 w12 w13 w14 w15 w16 w17 w18 w19 w20 w21 w22 w23 w24 w25 w26 w27 w28 w29 h0 n0 v U'.heap L ∧ FrameEnd U o U' L 16 192) := by
  refine own_body (plainFor_of_name pn_0) (fun m => own_ef0 m p1 p2 p3) ?_
  intro p e s m below meth c T0 X0 hx hby hml hZ hown hnm hret hlk e0
  have hown : s.vm.findClass "com/example/fencer/fencer/protocol/ApiKeySupportsPinLaw" = some m.cls := hown
  have hnm : meth.name = "law" := hnm
  have N0 := Fr.nil n0
  refine own_st (mkF m 2 #[iv p1, iv p2, iv p3, .unset, .unset, .unset, .unset, .unset, .unset, .unset] [(.int (20 : Int32))]) (fun t k => XS.bipush X0.here hx rfl (hb hby at_0) k) ?_
  obtain ⟨T5, h5, k5, X5, e5, E5, A5, O5v, st5⟩ := newR X0 hx hZ hown (hw_0 hw) (hw_1 hw) e0 (g := (mkF m 2 #[iv p1, iv p2, iv p3, .unset, .unset, .unset, .unset, .unset, .unset, .unset] [(.int (20 : Int32))])) rfl (hb hby at_2) rfl (by decide) (cap := 20) (by decide) (by decide) (by decide) (by decide)
  obtain ⟨b5, g5⟩ : ∃ z, z = h0.size := ⟨_, rfl⟩
  rw [← g5] at A5 st5
  have E_5 : Ext h0 h5 := E5
  have g_b5 : n0 ≤ b5 := Nat.le_trans Z0 (Nat.le_of_eq g5.symm)
  have Z5 : n0 ≤ h5.size := Nat.le_trans Z0 E5.1
  have O5 : Old Z n0 h5 := O0.ext E5
  have V5 : Arv Z h5 b5 k5 (.object "com/example/fencer/fencer/protocol/ApiKey") (20 : Int32) [.null, .null, .null, .null, .null, .null, .null, .null, .null, .null, .null, .null, .null, .null, .null, .null, .null, .null, .null, .null] .null := (Arv.new A5 (by decide)).pad (pad_rep [] .null 20)
  refine own_step (g' := (mkF m 5 #[iv p1, iv p2, iv p3, .unset, .unset, .unset, .unset, .unset, .unset, .unset] [(.ref b5)])) st5 ?_
  refine own_st (mkF m 6 #[iv p1, iv p2, iv p3, .unset, .unset, .unset, .unset, .unset, .unset, .unset] [(.ref b5), (.ref b5)]) (fun t k => XS.dup X5.here hx rfl (hb hby at_5) rfl rfl k) ?_
  refine own_st (mkF m 7 #[iv p1, iv p2, iv p3, .unset, .unset, .unset, .unset, .unset, .unset, .unset] [(.int (0 : Int32)), (.ref b5), (.ref b5)]) (fun t k => XS.iconst X5.here hx rfl (hb hby at_6) k) ?_
  obtain ⟨T6, X6, e6, st6⟩ := getS2 X5 hx hZ hown (host := "") (Or.inl (hw_2 hw)) Via.refl e5 (S_w10.ext O5.2) (g := (mkF m 7 #[iv p1, iv p2, iv p3, .unset, .unset, .unset, .unset, .unset, .unset, .unset] [(.int (0 : Int32)), (.ref b5), (.ref b5)])) rfl (hb hby at_7)
  refine own_step (g' := (mkF m 10 #[iv p1, iv p2, iv p3, .unset, .unset, .unset, .unset, .unset, .unset, .unset] [(.ref w10), (.int (0 : Int32)), (.ref b5), (.ref b5)])) st6 ?_
  obtain ⟨cl7, Ar7, q7, S7, M7, H7, G7⟩ := id V5
  have hin7 : ¬ ((0 : Int32) < 0 ∨ cl7.slots.size ≤ ((0 : Int32)).toNatClampNeg) := inb_of S7 ⟨by decide, by decide⟩
  obtain ⟨T8, h8, X8, e8, W8, st8⟩ := stR X6 hx hZ e6 Ar7 (j := (0 : Int32)) hin7 rfl (Sto.ofV Ar7 q7 O5v (Ins.self (E_w10.ext O5.2))) (g := (mkF m 10 #[iv p1, iv p2, iv p3, .unset, .unset, .unset, .unset, .unset, .unset, .unset] [(.ref w10), (.int (0 : Int32)), (.ref b5), (.ref b5)])) rfl rfl (hb hby at_10)
  have V8 : Arv Z h8 b5 k5 (.object "com/example/fencer/fencer/protocol/ApiKey") (20 : Int32) [(.ref w10), .null, .null, .null, .null, .null, .null, .null, .null, .null, .null, .null, .null, .null, .null, .null, .null, .null, .null, .null] .null := Arv.set Ar7 q7 S7 M7 H7 G7 rfl W8 0 rfl (Nat.le_of_ble_eq_true rfl)
  have Z8 : n0 ≤ h8.size := Nat.le_trans Z5 (Keep.of_wr W8).1
  have O8 : Old Z n0 h8 := O5.wr W8 g_b5
  have N8 := Fr.snoc X8 N0 g_b5
  refine own_step (g' := (mkF m 11 #[iv p1, iv p2, iv p3, .unset, .unset, .unset, .unset, .unset, .unset, .unset] [(.ref b5)])) st8 ?_
  refine own_st (mkF m 12 #[iv p1, iv p2, iv p3, .unset, .unset, .unset, .unset, .unset, .unset, .unset] [(.ref b5), (.ref b5)]) (fun t k => XS.dup X8.here hx rfl (hb hby at_11) rfl rfl k) ?_
  refine own_st (mkF m 13 #[iv p1, iv p2, iv p3, .unset, .unset, .unset, .unset, .unset, .unset, .unset] [(.int (1 : Int32)), (.ref b5), (.ref b5)]) (fun t k => XS.iconst X8.here hx rfl (hb hby at_12) k) ?_
  obtain ⟨T9, X9, e9, st9⟩ := getS2 X8 hx hZ hown (host := "") (Or.inl (hw_6 hw)) Via.refl e8 (S_w11.ext O8.2) (g := (mkF m 13 #[iv p1, iv p2, iv p3, .unset, .unset, .unset, .unset, .unset, .unset, .unset] [(.int (1 : Int32)), (.ref b5), (.ref b5)])) rfl (hb hby at_13)
  refine own_step (g' := (mkF m 16 #[iv p1, iv p2, iv p3, .unset, .unset, .unset, .unset, .unset, .unset, .unset] [(.ref w11), (.int (1 : Int32)), (.ref b5), (.ref b5)])) st9 ?_
  obtain ⟨cl10, Ar10, q10, S10, M10, H10, G10⟩ := id V8
  have hin10 : ¬ ((1 : Int32) < 0 ∨ cl10.slots.size ≤ ((1 : Int32)).toNatClampNeg) := inb_of S10 ⟨by decide, by decide⟩
  obtain ⟨T11, h11, X11, e11, W11, st11⟩ := stR X9 hx hZ e9 Ar10 (j := (1 : Int32)) hin10 rfl (Sto.ofV Ar10 q10 O5v (Ins.self (E_w11.ext O8.2))) (g := (mkF m 16 #[iv p1, iv p2, iv p3, .unset, .unset, .unset, .unset, .unset, .unset, .unset] [(.ref w11), (.int (1 : Int32)), (.ref b5), (.ref b5)])) rfl rfl (hb hby at_16)
  have V11 : Arv Z h11 b5 k5 (.object "com/example/fencer/fencer/protocol/ApiKey") (20 : Int32) [(.ref w10), (.ref w11), .null, .null, .null, .null, .null, .null, .null, .null, .null, .null, .null, .null, .null, .null, .null, .null, .null, .null] .null := Arv.set Ar10 q10 S10 M10 H10 G10 rfl W11 1 rfl (Nat.le_of_ble_eq_true rfl)
  have Z11 : n0 ≤ h11.size := Nat.le_trans Z8 (Keep.of_wr W11).1
  have O11 : Old Z n0 h11 := O8.wr W11 g_b5
  have N11 := Fr.snoc X11 N8 g_b5
  refine own_step (g' := (mkF m 17 #[iv p1, iv p2, iv p3, .unset, .unset, .unset, .unset, .unset, .unset, .unset] [(.ref b5)])) st11 ?_
  refine own_st (mkF m 18 #[iv p1, iv p2, iv p3, .unset, .unset, .unset, .unset, .unset, .unset, .unset] [(.ref b5), (.ref b5)]) (fun t k => XS.dup X11.here hx rfl (hb hby at_17) rfl rfl k) ?_
  refine own_st (mkF m 19 #[iv p1, iv p2, iv p3, .unset, .unset, .unset, .unset, .unset, .unset, .unset] [(.int (2 : Int32)), (.ref b5), (.ref b5)]) (fun t k => XS.iconst X11.here hx rfl (hb hby at_18) k) ?_
  obtain ⟨T12, X12, e12, st12⟩ := getS2 X11 hx hZ hown (host := "") (Or.inl (hw_8 hw)) Via.refl e11 (S_w12.ext O11.2) (g := (mkF m 19 #[iv p1, iv p2, iv p3, .unset, .unset, .unset, .unset, .unset, .unset, .unset] [(.int (2 : Int32)), (.ref b5), (.ref b5)])) rfl (hb hby at_19)
  refine own_step (g' := (mkF m 22 #[iv p1, iv p2, iv p3, .unset, .unset, .unset, .unset, .unset, .unset, .unset] [(.ref w12), (.int (2 : Int32)), (.ref b5), (.ref b5)])) st12 ?_
  obtain ⟨cl13, Ar13, q13, S13, M13, H13, G13⟩ := id V11
  have hin13 : ¬ ((2 : Int32) < 0 ∨ cl13.slots.size ≤ ((2 : Int32)).toNatClampNeg) := inb_of S13 ⟨by decide, by decide⟩
  obtain ⟨T14, h14, X14, e14, W14, st14⟩ := stR X12 hx hZ e12 Ar13 (j := (2 : Int32)) hin13 rfl (Sto.ofV Ar13 q13 O5v (Ins.self (E_w12.ext O11.2))) (g := (mkF m 22 #[iv p1, iv p2, iv p3, .unset, .unset, .unset, .unset, .unset, .unset, .unset] [(.ref w12), (.int (2 : Int32)), (.ref b5), (.ref b5)])) rfl rfl (hb hby at_22)
  have V14 : Arv Z h14 b5 k5 (.object "com/example/fencer/fencer/protocol/ApiKey") (20 : Int32) [(.ref w10), (.ref w11), (.ref w12), .null, .null, .null, .null, .null, .null, .null, .null, .null, .null, .null, .null, .null, .null, .null, .null, .null] .null := Arv.set Ar13 q13 S13 M13 H13 G13 rfl W14 2 rfl (Nat.le_of_ble_eq_true rfl)
  have Z14 : n0 ≤ h14.size := Nat.le_trans Z11 (Keep.of_wr W14).1
  have O14 : Old Z n0 h14 := O11.wr W14 g_b5
  have N14 := Fr.snoc X14 N11 g_b5
  refine own_step (g' := (mkF m 23 #[iv p1, iv p2, iv p3, .unset, .unset, .unset, .unset, .unset, .unset, .unset] [(.ref b5)])) st14 ?_
  refine own_st (mkF m 24 #[iv p1, iv p2, iv p3, .unset, .unset, .unset, .unset, .unset, .unset, .unset] [(.ref b5), (.ref b5)]) (fun t k => XS.dup X14.here hx rfl (hb hby at_23) rfl rfl k) ?_
  refine own_st (mkF m 25 #[iv p1, iv p2, iv p3, .unset, .unset, .unset, .unset, .unset, .unset, .unset] [(.int (3 : Int32)), (.ref b5), (.ref b5)]) (fun t k => XS.iconst X14.here hx rfl (hb hby at_24) k) ?_
  obtain ⟨T15, X15, e15, st15⟩ := getS2 X14 hx hZ hown (host := "") (Or.inl (hw_10 hw)) Via.refl e14 (S_w13.ext O14.2) (g := (mkF m 25 #[iv p1, iv p2, iv p3, .unset, .unset, .unset, .unset, .unset, .unset, .unset] [(.int (3 : Int32)), (.ref b5), (.ref b5)])) rfl (hb hby at_25)
  refine own_step (g' := (mkF m 28 #[iv p1, iv p2, iv p3, .unset, .unset, .unset, .unset, .unset, .unset, .unset] [(.ref w13), (.int (3 : Int32)), (.ref b5), (.ref b5)])) st15 ?_
  obtain ⟨cl16, Ar16, q16, S16, M16, H16, G16⟩ := id V14
  have hin16 : ¬ ((3 : Int32) < 0 ∨ cl16.slots.size ≤ ((3 : Int32)).toNatClampNeg) := inb_of S16 ⟨by decide, by decide⟩
  obtain ⟨T17, h17, X17, e17, W17, st17⟩ := stR X15 hx hZ e15 Ar16 (j := (3 : Int32)) hin16 rfl (Sto.ofV Ar16 q16 O5v (Ins.self (E_w13.ext O14.2))) (g := (mkF m 28 #[iv p1, iv p2, iv p3, .unset, .unset, .unset, .unset, .unset, .unset, .unset] [(.ref w13), (.int (3 : Int32)), (.ref b5), (.ref b5)])) rfl rfl (hb hby at_28)
  have V17 : Arv Z h17 b5 k5 (.object "com/example/fencer/fencer/protocol/ApiKey") (20 : Int32) [(.ref w10), (.ref w11), (.ref w12), (.ref w13), .null, .null, .null, .null, .null, .null, .null, .null, .null, .null, .null, .null, .null, .null, .null, .null] .null := Arv.set Ar16 q16 S16 M16 H16 G16 rfl W17 3 rfl (Nat.le_of_ble_eq_true rfl)
  have Z17 : n0 ≤ h17.size := Nat.le_trans Z14 (Keep.of_wr W17).1
  have O17 : Old Z n0 h17 := O14.wr W17 g_b5
  have N17 := Fr.snoc X17 N14 g_b5
  refine own_step (g' := (mkF m 29 #[iv p1, iv p2, iv p3, .unset, .unset, .unset, .unset, .unset, .unset, .unset] [(.ref b5)])) st17 ?_
  refine own_st (mkF m 30 #[iv p1, iv p2, iv p3, .unset, .unset, .unset, .unset, .unset, .unset, .unset] [(.ref b5), (.ref b5)]) (fun t k => XS.dup X17.here hx rfl (hb hby at_29) rfl rfl k) ?_
  refine own_st (mkF m 31 #[iv p1, iv p2, iv p3, .unset, .unset, .unset, .unset, .unset, .unset, .unset] [(.int (4 : Int32)), (.ref b5), (.ref b5)]) (fun t k => XS.iconst X17.here hx rfl (hb hby at_30) k) ?_
  obtain ⟨T18, X18, e18, st18⟩ := getS2 X17 hx hZ hown (host := "") (Or.inl (hw_12 hw)) Via.refl e17 (S_w14.ext O17.2) (g := (mkF m 31 #[iv p1, iv p2, iv p3, .unset, .unset, .unset, .unset, .unset, .unset, .unset] [(.int (4 : Int32)), (.ref b5), (.ref b5)])) rfl (hb hby at_31)
  refine own_step (g' := (mkF m 34 #[iv p1, iv p2, iv p3, .unset, .unset, .unset, .unset, .unset, .unset, .unset] [(.ref w14), (.int (4 : Int32)), (.ref b5), (.ref b5)])) st18 ?_
  obtain ⟨cl19, Ar19, q19, S19, M19, H19, G19⟩ := id V17
  have hin19 : ¬ ((4 : Int32) < 0 ∨ cl19.slots.size ≤ ((4 : Int32)).toNatClampNeg) := inb_of S19 ⟨by decide, by decide⟩
  obtain ⟨T20, h20, X20, e20, W20, st20⟩ := stR X18 hx hZ e18 Ar19 (j := (4 : Int32)) hin19 rfl (Sto.ofV Ar19 q19 O5v (Ins.self (E_w14.ext O17.2))) (g := (mkF m 34 #[iv p1, iv p2, iv p3, .unset, .unset, .unset, .unset, .unset, .unset, .unset] [(.ref w14), (.int (4 : Int32)), (.ref b5), (.ref b5)])) rfl rfl (hb hby at_34)
  have V20 : Arv Z h20 b5 k5 (.object "com/example/fencer/fencer/protocol/ApiKey") (20 : Int32) [(.ref w10), (.ref w11), (.ref w12), (.ref w13), (.ref w14), .null, .null, .null, .null, .null, .null, .null, .null, .null, .null, .null, .null, .null, .null, .null] .null := Arv.set Ar19 q19 S19 M19 H19 G19 rfl W20 4 rfl (Nat.le_of_ble_eq_true rfl)
  have Z20 : n0 ≤ h20.size := Nat.le_trans Z17 (Keep.of_wr W20).1
  have O20 : Old Z n0 h20 := O17.wr W20 g_b5
  have N20 := Fr.snoc X20 N17 g_b5
  refine own_step (g' := (mkF m 35 #[iv p1, iv p2, iv p3, .unset, .unset, .unset, .unset, .unset, .unset, .unset] [(.ref b5)])) st20 ?_
  refine own_st (mkF m 36 #[iv p1, iv p2, iv p3, .unset, .unset, .unset, .unset, .unset, .unset, .unset] [(.ref b5), (.ref b5)]) (fun t k => XS.dup X20.here hx rfl (hb hby at_35) rfl rfl k) ?_
  refine own_st (mkF m 37 #[iv p1, iv p2, iv p3, .unset, .unset, .unset, .unset, .unset, .unset, .unset] [(.int (5 : Int32)), (.ref b5), (.ref b5)]) (fun t k => XS.iconst X20.here hx rfl (hb hby at_36) k) ?_
  obtain ⟨T21, X21, e21, st21⟩ := getS2 X20 hx hZ hown (host := "") (Or.inl (hw_14 hw)) Via.refl e20 (S_w15.ext O20.2) (g := (mkF m 37 #[iv p1, iv p2, iv p3, .unset, .unset, .unset, .unset, .unset, .unset, .unset] [(.int (5 : Int32)), (.ref b5), (.ref b5)])) rfl (hb hby at_37)
  refine own_step (g' := (mkF m 40 #[iv p1, iv p2, iv p3, .unset, .unset, .unset, .unset, .unset, .unset, .unset] [(.ref w15), (.int (5 : Int32)), (.ref b5), (.ref b5)])) st21 ?_
  obtain ⟨cl22, Ar22, q22, S22, M22, H22, G22⟩ := id V20
  have hin22 : ¬ ((5 : Int32) < 0 ∨ cl22.slots.size ≤ ((5 : Int32)).toNatClampNeg) := inb_of S22 ⟨by decide, by decide⟩
  obtain ⟨T23, h23, X23, e23, W23, st23⟩ := stR X21 hx hZ e21 Ar22 (j := (5 : Int32)) hin22 rfl (Sto.ofV Ar22 q22 O5v (Ins.self (E_w15.ext O20.2))) (g := (mkF m 40 #[iv p1, iv p2, iv p3, .unset, .unset, .unset, .unset, .unset, .unset, .unset] [(.ref w15), (.int (5 : Int32)), (.ref b5), (.ref b5)])) rfl rfl (hb hby at_40)
  have V23 : Arv Z h23 b5 k5 (.object "com/example/fencer/fencer/protocol/ApiKey") (20 : Int32) [(.ref w10), (.ref w11), (.ref w12), (.ref w13), (.ref w14), (.ref w15), .null, .null, .null, .null, .null, .null, .null, .null, .null, .null, .null, .null, .null, .null] .null := Arv.set Ar22 q22 S22 M22 H22 G22 rfl W23 5 rfl (Nat.le_of_ble_eq_true rfl)
  have Z23 : n0 ≤ h23.size := Nat.le_trans Z20 (Keep.of_wr W23).1
  have O23 : Old Z n0 h23 := O20.wr W23 g_b5
  have N23 := Fr.snoc X23 N20 g_b5
  refine own_step (g' := (mkF m 41 #[iv p1, iv p2, iv p3, .unset, .unset, .unset, .unset, .unset, .unset, .unset] [(.ref b5)])) st23 ?_
  refine own_st (mkF m 42 #[iv p1, iv p2, iv p3, .unset, .unset, .unset, .unset, .unset, .unset, .unset] [(.ref b5), (.ref b5)]) (fun t k => XS.dup X23.here hx rfl (hb hby at_41) rfl rfl k) ?_
  refine own_st (mkF m 44 #[iv p1, iv p2, iv p3, .unset, .unset, .unset, .unset, .unset, .unset, .unset] [(.int (6 : Int32)), (.ref b5), (.ref b5)]) (fun t k => XS.bipush X23.here hx rfl (hb hby at_42) k) ?_
  obtain ⟨T24, X24, e24, st24⟩ := getS2 X23 hx hZ hown (host := "") (Or.inl (hw_16 hw)) Via.refl e23 (S_w16.ext O23.2) (g := (mkF m 44 #[iv p1, iv p2, iv p3, .unset, .unset, .unset, .unset, .unset, .unset, .unset] [(.int (6 : Int32)), (.ref b5), (.ref b5)])) rfl (hb hby at_44)
  refine own_step (g' := (mkF m 47 #[iv p1, iv p2, iv p3, .unset, .unset, .unset, .unset, .unset, .unset, .unset] [(.ref w16), (.int (6 : Int32)), (.ref b5), (.ref b5)])) st24 ?_
  obtain ⟨cl25, Ar25, q25, S25, M25, H25, G25⟩ := id V23
  have hin25 : ¬ ((6 : Int32) < 0 ∨ cl25.slots.size ≤ ((6 : Int32)).toNatClampNeg) := inb_of S25 ⟨by decide, by decide⟩
  obtain ⟨T26, h26, X26, e26, W26, st26⟩ := stR X24 hx hZ e24 Ar25 (j := (6 : Int32)) hin25 rfl (Sto.ofV Ar25 q25 O5v (Ins.self (E_w16.ext O23.2))) (g := (mkF m 47 #[iv p1, iv p2, iv p3, .unset, .unset, .unset, .unset, .unset, .unset, .unset] [(.ref w16), (.int (6 : Int32)), (.ref b5), (.ref b5)])) rfl rfl (hb hby at_47)
  have V26 : Arv Z h26 b5 k5 (.object "com/example/fencer/fencer/protocol/ApiKey") (20 : Int32) [(.ref w10), (.ref w11), (.ref w12), (.ref w13), (.ref w14), (.ref w15), (.ref w16), .null, .null, .null, .null, .null, .null, .null, .null, .null, .null, .null, .null, .null] .null := Arv.set Ar25 q25 S25 M25 H25 G25 rfl W26 6 rfl (Nat.le_of_ble_eq_true rfl)
  have Z26 : n0 ≤ h26.size := Nat.le_trans Z23 (Keep.of_wr W26).1
  have O26 : Old Z n0 h26 := O23.wr W26 g_b5
  have N26 := Fr.snoc X26 N23 g_b5
  refine own_step (g' := (mkF m 48 #[iv p1, iv p2, iv p3, .unset, .unset, .unset, .unset, .unset, .unset, .unset] [(.ref b5)])) st26 ?_
  refine own_st (mkF m 49 #[iv p1, iv p2, iv p3, .unset, .unset, .unset, .unset, .unset, .unset, .unset] [(.ref b5), (.ref b5)]) (fun t k => XS.dup X26.here hx rfl (hb hby at_48) rfl rfl k) ?_
  refine own_st (mkF m 51 #[iv p1, iv p2, iv p3, .unset, .unset, .unset, .unset, .unset, .unset, .unset] [(.int (7 : Int32)), (.ref b5), (.ref b5)]) (fun t k => XS.bipush X26.here hx rfl (hb hby at_49) k) ?_
  obtain ⟨T27, X27, e27, st27⟩ := getS2 X26 hx hZ hown (host := "") (Or.inl (hw_18 hw)) Via.refl e26 (S_w17.ext O26.2) (g := (mkF m 51 #[iv p1, iv p2, iv p3, .unset, .unset, .unset, .unset, .unset, .unset, .unset] [(.int (7 : Int32)), (.ref b5), (.ref b5)])) rfl (hb hby at_51)
  refine own_step (g' := (mkF m 54 #[iv p1, iv p2, iv p3, .unset, .unset, .unset, .unset, .unset, .unset, .unset] [(.ref w17), (.int (7 : Int32)), (.ref b5), (.ref b5)])) st27 ?_
  obtain ⟨cl28, Ar28, q28, S28, M28, H28, G28⟩ := id V26
  have hin28 : ¬ ((7 : Int32) < 0 ∨ cl28.slots.size ≤ ((7 : Int32)).toNatClampNeg) := inb_of S28 ⟨by decide, by decide⟩
  obtain ⟨T29, h29, X29, e29, W29, st29⟩ := stR X27 hx hZ e27 Ar28 (j := (7 : Int32)) hin28 rfl (Sto.ofV Ar28 q28 O5v (Ins.self (E_w17.ext O26.2))) (g := (mkF m 54 #[iv p1, iv p2, iv p3, .unset, .unset, .unset, .unset, .unset, .unset, .unset] [(.ref w17), (.int (7 : Int32)), (.ref b5), (.ref b5)])) rfl rfl (hb hby at_54)
  have V29 : Arv Z h29 b5 k5 (.object "com/example/fencer/fencer/protocol/ApiKey") (20 : Int32) [(.ref w10), (.ref w11), (.ref w12), (.ref w13), (.ref w14), (.ref w15), (.ref w16), (.ref w17), .null, .null, .null, .null, .null, .null, .null, .null, .null, .null, .null, .null] .null := Arv.set Ar28 q28 S28 M28 H28 G28 rfl W29 7 rfl (Nat.le_of_ble_eq_true rfl)
  have Z29 : n0 ≤ h29.size := Nat.le_trans Z26 (Keep.of_wr W29).1
  have O29 : Old Z n0 h29 := O26.wr W29 g_b5
  have N29 := Fr.snoc X29 N26 g_b5
  refine own_step (g' := (mkF m 55 #[iv p1, iv p2, iv p3, .unset, .unset, .unset, .unset, .unset, .unset, .unset] [(.ref b5)])) st29 ?_
  refine own_st (mkF m 56 #[iv p1, iv p2, iv p3, .unset, .unset, .unset, .unset, .unset, .unset, .unset] [(.ref b5), (.ref b5)]) (fun t k => XS.dup X29.here hx rfl (hb hby at_55) rfl rfl k) ?_
  refine own_st (mkF m 58 #[iv p1, iv p2, iv p3, .unset, .unset, .unset, .unset, .unset, .unset, .unset] [(.int (8 : Int32)), (.ref b5), (.ref b5)]) (fun t k => XS.bipush X29.here hx rfl (hb hby at_56) k) ?_
  obtain ⟨T30, X30, e30, st30⟩ := getS2 X29 hx hZ hown (host := "") (Or.inl (hw_20 hw)) Via.refl e29 (S_w18.ext O29.2) (g := (mkF m 58 #[iv p1, iv p2, iv p3, .unset, .unset, .unset, .unset, .unset, .unset, .unset] [(.int (8 : Int32)), (.ref b5), (.ref b5)])) rfl (hb hby at_58)
  refine own_step (g' := (mkF m 61 #[iv p1, iv p2, iv p3, .unset, .unset, .unset, .unset, .unset, .unset, .unset] [(.ref w18), (.int (8 : Int32)), (.ref b5), (.ref b5)])) st30 ?_
  obtain ⟨cl31, Ar31, q31, S31, M31, H31, G31⟩ := id V29
  have hin31 : ¬ ((8 : Int32) < 0 ∨ cl31.slots.size ≤ ((8 : Int32)).toNatClampNeg) := inb_of S31 ⟨by decide, by decide⟩
  obtain ⟨T32, h32, X32, e32, W32, st32⟩ := stR X30 hx hZ e30 Ar31 (j := (8 : Int32)) hin31 rfl (Sto.ofV Ar31 q31 O5v (Ins.self (E_w18.ext O29.2))) (g := (mkF m 61 #[iv p1, iv p2, iv p3, .unset, .unset, .unset, .unset, .unset, .unset, .unset] [(.ref w18), (.int (8 : Int32)), (.ref b5), (.ref b5)])) rfl rfl (hb hby at_61)
  have V32 : Arv Z h32 b5 k5 (.object "com/example/fencer/fencer/protocol/ApiKey") (20 : Int32) [(.ref w10), (.ref w11), (.ref w12), (.ref w13), (.ref w14), (.ref w15), (.ref w16), (.ref w17), (.ref w18), .null, .null, .null, .null, .null, .null, .null, .null, .null, .null, .null] .null := Arv.set Ar31 q31 S31 M31 H31 G31 rfl W32 8 rfl (Nat.le_of_ble_eq_true rfl)
  have Z32 : n0 ≤ h32.size := Nat.le_trans Z29 (Keep.of_wr W32).1
  have O32 : Old Z n0 h32 := O29.wr W32 g_b5
  have N32 := Fr.snoc X32 N29 g_b5
  refine own_step (g' := (mkF m 62 #[iv p1, iv p2, iv p3, .unset, .unset, .unset, .unset, .unset, .unset, .unset] [(.ref b5)])) st32 ?_
  refine own_st (mkF m 63 #[iv p1, iv p2, iv p3, .unset, .unset, .unset, .unset, .unset, .unset, .unset] [(.ref b5), (.ref b5)]) (fun t k => XS.dup X32.here hx rfl (hb hby at_62) rfl rfl k) ?_
  refine own_st (mkF m 65 #[iv p1, iv p2, iv p3, .unset, .unset, .unset, .unset, .unset, .unset, .unset] [(.int (9 : Int32)), (.ref b5), (.ref b5)]) (fun t k => XS.bipush X32.here hx rfl (hb hby at_63) k) ?_
  obtain ⟨T33, X33, e33, st33⟩ := getS2 X32 hx hZ hown (host := "") (Or.inl (hw_22 hw)) Via.refl e32 (S_w19.ext O32.2) (g := (mkF m 65 #[iv p1, iv p2, iv p3, .unset, .unset, .unset, .unset, .unset, .unset, .unset] [(.int (9 : Int32)), (.ref b5), (.ref b5)])) rfl (hb hby at_65)
  refine own_step (g' := (mkF m 68 #[iv p1, iv p2, iv p3, .unset, .unset, .unset, .unset, .unset, .unset, .unset] [(.ref w19), (.int (9 : Int32)), (.ref b5), (.ref b5)])) st33 ?_
  obtain ⟨cl34, Ar34, q34, S34, M34, H34, G34⟩ := id V32
  have hin34 : ¬ ((9 : Int32) < 0 ∨ cl34.slots.size ≤ ((9 : Int32)).toNatClampNeg) := inb_of S34 ⟨by decide, by decide⟩
  obtain ⟨T35, h35, X35, e35, W35, st35⟩ := stR X33 hx hZ e33 Ar34 (j := (9 : Int32)) hin34 rfl (Sto.ofV Ar34 q34 O5v (Ins.self (E_w19.ext O32.2))) (g := (mkF m 68 #[iv p1, iv p2, iv p3, .unset, .unset, .unset, .unset, .unset, .unset, .unset] [(.ref w19), (.int (9 : Int32)), (.ref b5), (.ref b5)])) rfl rfl (hb hby at_68)
  have V35 : Arv Z h35 b5 k5 (.object "com/example/fencer/fencer/protocol/ApiKey") (20 : Int32) [(.ref w10), (.ref w11), (.ref w12), (.ref w13), (.ref w14), (.ref w15), (.ref w16), (.ref w17), (.ref w18), (.ref w19), .null, .null, .null, .null, .null, .null, .null, .null, .null, .null] .null := Arv.set Ar34 q34 S34 M34 H34 G34 rfl W35 9 rfl (Nat.le_of_ble_eq_true rfl)
  have Z35 : n0 ≤ h35.size := Nat.le_trans Z32 (Keep.of_wr W35).1
  have O35 : Old Z n0 h35 := O32.wr W35 g_b5
  have N35 := Fr.snoc X35 N32 g_b5
  refine own_step (g' := (mkF m 69 #[iv p1, iv p2, iv p3, .unset, .unset, .unset, .unset, .unset, .unset, .unset] [(.ref b5)])) st35 ?_
  refine own_st (mkF m 70 #[iv p1, iv p2, iv p3, .unset, .unset, .unset, .unset, .unset, .unset, .unset] [(.ref b5), (.ref b5)]) (fun t k => XS.dup X35.here hx rfl (hb hby at_69) rfl rfl k) ?_
  refine own_st (mkF m 72 #[iv p1, iv p2, iv p3, .unset, .unset, .unset, .unset, .unset, .unset, .unset] [(.int (10 : Int32)), (.ref b5), (.ref b5)]) (fun t k => XS.bipush X35.here hx rfl (hb hby at_70) k) ?_
  obtain ⟨T36, X36, e36, st36⟩ := getS2 X35 hx hZ hown (host := "") (Or.inl (hw_24 hw)) Via.refl e35 (S_w20.ext O35.2) (g := (mkF m 72 #[iv p1, iv p2, iv p3, .unset, .unset, .unset, .unset, .unset, .unset, .unset] [(.int (10 : Int32)), (.ref b5), (.ref b5)])) rfl (hb hby at_72)
  refine own_step (g' := (mkF m 75 #[iv p1, iv p2, iv p3, .unset, .unset, .unset, .unset, .unset, .unset, .unset] [(.ref w20), (.int (10 : Int32)), (.ref b5), (.ref b5)])) st36 ?_
  obtain ⟨cl37, Ar37, q37, S37, M37, H37, G37⟩ := id V35
  have hin37 : ¬ ((10 : Int32) < 0 ∨ cl37.slots.size ≤ ((10 : Int32)).toNatClampNeg) := inb_of S37 ⟨by decide, by decide⟩
  obtain ⟨T38, h38, X38, e38, W38, st38⟩ := stR X36 hx hZ e36 Ar37 (j := (10 : Int32)) hin37 rfl (Sto.ofV Ar37 q37 O5v (Ins.self (E_w20.ext O35.2))) (g := (mkF m 75 #[iv p1, iv p2, iv p3, .unset, .unset, .unset, .unset, .unset, .unset, .unset] [(.ref w20), (.int (10 : Int32)), (.ref b5), (.ref b5)])) rfl rfl (hb hby at_75)
  have V38 : Arv Z h38 b5 k5 (.object "com/example/fencer/fencer/protocol/ApiKey") (20 : Int32) [(.ref w10), (.ref w11), (.ref w12), (.ref w13), (.ref w14), (.ref w15), (.ref w16), (.ref w17), (.ref w18), (.ref w19), (.ref w20), .null, .null, .null, .null, .null, .null, .null, .null, .null] .null := Arv.set Ar37 q37 S37 M37 H37 G37 rfl W38 10 rfl (Nat.le_of_ble_eq_true rfl)
  have Z38 : n0 ≤ h38.size := Nat.le_trans Z35 (Keep.of_wr W38).1
  have O38 : Old Z n0 h38 := O35.wr W38 g_b5
  have N38 := Fr.snoc X38 N35 g_b5
  refine own_step (g' := (mkF m 76 #[iv p1, iv p2, iv p3, .unset, .unset, .unset, .unset, .unset, .unset, .unset] [(.ref b5)])) st38 ?_
  refine own_st (mkF m 77 #[iv p1, iv p2, iv p3, .unset, .unset, .unset, .unset, .unset, .unset, .unset] [(.ref b5), (.ref b5)]) (fun t k => XS.dup X38.here hx rfl (hb hby at_76) rfl rfl k) ?_
  refine own_st (mkF m 79 #[iv p1, iv p2, iv p3, .unset, .unset, .unset, .unset, .unset, .unset, .unset] [(.int (11 : Int32)), (.ref b5), (.ref b5)]) (fun t k => XS.bipush X38.here hx rfl (hb hby at_77) k) ?_
  obtain ⟨T39, X39, e39, st39⟩ := getS2 X38 hx hZ hown (host := "") (Or.inl (hw_26 hw)) Via.refl e38 (S_w21.ext O38.2) (g := (mkF m 79 #[iv p1, iv p2, iv p3, .unset, .unset, .unset, .unset, .unset, .unset, .unset] [(.int (11 : Int32)), (.ref b5), (.ref b5)])) rfl (hb hby at_79)
  refine own_step (g' := (mkF m 82 #[iv p1, iv p2, iv p3, .unset, .unset, .unset, .unset, .unset, .unset, .unset] [(.ref w21), (.int (11 : Int32)), (.ref b5), (.ref b5)])) st39 ?_
  obtain ⟨cl40, Ar40, q40, S40, M40, H40, G40⟩ := id V38
  have hin40 : ¬ ((11 : Int32) < 0 ∨ cl40.slots.size ≤ ((11 : Int32)).toNatClampNeg) := inb_of S40 ⟨by decide, by decide⟩
  obtain ⟨T41, h41, X41, e41, W41, st41⟩ := stR X39 hx hZ e39 Ar40 (j := (11 : Int32)) hin40 rfl (Sto.ofV Ar40 q40 O5v (Ins.self (E_w21.ext O38.2))) (g := (mkF m 82 #[iv p1, iv p2, iv p3, .unset, .unset, .unset, .unset, .unset, .unset, .unset] [(.ref w21), (.int (11 : Int32)), (.ref b5), (.ref b5)])) rfl rfl (hb hby at_82)
  have V41 : Arv Z h41 b5 k5 (.object "com/example/fencer/fencer/protocol/ApiKey") (20 : Int32) [(.ref w10), (.ref w11), (.ref w12), (.ref w13), (.ref w14), (.ref w15), (.ref w16), (.ref w17), (.ref w18), (.ref w19), (.ref w20), (.ref w21), .null, .null, .null, .null, .null, .null, .null, .null] .null := Arv.set Ar40 q40 S40 M40 H40 G40 rfl W41 11 rfl (Nat.le_of_ble_eq_true rfl)
  have Z41 : n0 ≤ h41.size := Nat.le_trans Z38 (Keep.of_wr W41).1
  have O41 : Old Z n0 h41 := O38.wr W41 g_b5
  have N41 := Fr.snoc X41 N38 g_b5
  refine own_step (g' := (mkF m 83 #[iv p1, iv p2, iv p3, .unset, .unset, .unset, .unset, .unset, .unset, .unset] [(.ref b5)])) st41 ?_
  refine own_st (mkF m 84 #[iv p1, iv p2, iv p3, .unset, .unset, .unset, .unset, .unset, .unset, .unset] [(.ref b5), (.ref b5)]) (fun t k => XS.dup X41.here hx rfl (hb hby at_83) rfl rfl k) ?_
  refine own_st (mkF m 86 #[iv p1, iv p2, iv p3, .unset, .unset, .unset, .unset, .unset, .unset, .unset] [(.int (12 : Int32)), (.ref b5), (.ref b5)]) (fun t k => XS.bipush X41.here hx rfl (hb hby at_84) k) ?_
  obtain ⟨T42, X42, e42, st42⟩ := getS2 X41 hx hZ hown (host := "") (Or.inl (hw_28 hw)) Via.refl e41 (S_w22.ext O41.2) (g := (mkF m 86 #[iv p1, iv p2, iv p3, .unset, .unset, .unset, .unset, .unset, .unset, .unset] [(.int (12 : Int32)), (.ref b5), (.ref b5)])) rfl (hb hby at_86)
  refine own_step (g' := (mkF m 89 #[iv p1, iv p2, iv p3, .unset, .unset, .unset, .unset, .unset, .unset, .unset] [(.ref w22), (.int (12 : Int32)), (.ref b5), (.ref b5)])) st42 ?_
  obtain ⟨cl43, Ar43, q43, S43, M43, H43, G43⟩ := id V41
  have hin43 : ¬ ((12 : Int32) < 0 ∨ cl43.slots.size ≤ ((12 : Int32)).toNatClampNeg) := inb_of S43 ⟨by decide, by decide⟩
  obtain ⟨T44, h44, X44, e44, W44, st44⟩ := stR X42 hx hZ e42 Ar43 (j := (12 : Int32)) hin43 rfl (Sto.ofV Ar43 q43 O5v (Ins.self (E_w22.ext O41.2))) (g := (mkF m 89 #[iv p1, iv p2, iv p3, .unset, .unset, .unset, .unset, .unset, .unset, .unset] [(.ref w22), (.int (12 : Int32)), (.ref b5), (.ref b5)])) rfl rfl (hb hby at_89)
  have V44 : Arv Z h44 b5 k5 (.object "com/example/fencer/fencer/protocol/ApiKey") (20 : Int32) [(.ref w10), (.ref w11), (.ref w12), (.ref w13), (.ref w14), (.ref w15), (.ref w16), (.ref w17), (.ref w18), (.ref w19), (.ref w20), (.ref w21), (.ref w22), .null, .null, .null, .null, .null, .null, .null] .null := Arv.set Ar43 q43 S43 M43 H43 G43 rfl W44 12 rfl (Nat.le_of_ble_eq_true rfl)
  have Z44 : n0 ≤ h44.size := Nat.le_trans Z41 (Keep.of_wr W44).1
  have O44 : Old Z n0 h44 := O41.wr W44 g_b5
  have N44 := Fr.snoc X44 N41 g_b5
  refine own_step (g' := (mkF m 90 #[iv p1, iv p2, iv p3, .unset, .unset, .unset, .unset, .unset, .unset, .unset] [(.ref b5)])) st44 ?_
  refine own_st (mkF m 91 #[iv p1, iv p2, iv p3, .unset, .unset, .unset, .unset, .unset, .unset, .unset] [(.ref b5), (.ref b5)]) (fun t k => XS.dup X44.here hx rfl (hb hby at_90) rfl rfl k) ?_
  refine own_st (mkF m 93 #[iv p1, iv p2, iv p3, .unset, .unset, .unset, .unset, .unset, .unset, .unset] [(.int (13 : Int32)), (.ref b5), (.ref b5)]) (fun t k => XS.bipush X44.here hx rfl (hb hby at_91) k) ?_
  obtain ⟨T45, X45, e45, st45⟩ := getS2 X44 hx hZ hown (host := "") (Or.inl (hw_30 hw)) Via.refl e44 (S_w23.ext O44.2) (g := (mkF m 93 #[iv p1, iv p2, iv p3, .unset, .unset, .unset, .unset, .unset, .unset, .unset] [(.int (13 : Int32)), (.ref b5), (.ref b5)])) rfl (hb hby at_93)
  refine own_step (g' := (mkF m 96 #[iv p1, iv p2, iv p3, .unset, .unset, .unset, .unset, .unset, .unset, .unset] [(.ref w23), (.int (13 : Int32)), (.ref b5), (.ref b5)])) st45 ?_
  obtain ⟨cl46, Ar46, q46, S46, M46, H46, G46⟩ := id V44
  have hin46 : ¬ ((13 : Int32) < 0 ∨ cl46.slots.size ≤ ((13 : Int32)).toNatClampNeg) := inb_of S46 ⟨by decide, by decide⟩
  obtain ⟨T47, h47, X47, e47, W47, st47⟩ := stR X45 hx hZ e45 Ar46 (j := (13 : Int32)) hin46 rfl (Sto.ofV Ar46 q46 O5v (Ins.self (E_w23.ext O44.2))) (g := (mkF m 96 #[iv p1, iv p2, iv p3, .unset, .unset, .unset, .unset, .unset, .unset, .unset] [(.ref w23), (.int (13 : Int32)), (.ref b5), (.ref b5)])) rfl rfl (hb hby at_96)
  have V47 : Arv Z h47 b5 k5 (.object "com/example/fencer/fencer/protocol/ApiKey") (20 : Int32) [(.ref w10), (.ref w11), (.ref w12), (.ref w13), (.ref w14), (.ref w15), (.ref w16), (.ref w17), (.ref w18), (.ref w19), (.ref w20), (.ref w21), (.ref w22), (.ref w23), .null, .null, .null, .null, .null, .null] .null := Arv.set Ar46 q46 S46 M46 H46 G46 rfl W47 13 rfl (Nat.le_of_ble_eq_true rfl)
  have Z47 : n0 ≤ h47.size := Nat.le_trans Z44 (Keep.of_wr W47).1
  have O47 : Old Z n0 h47 := O44.wr W47 g_b5
  have N47 := Fr.snoc X47 N44 g_b5
  refine own_step (g' := (mkF m 97 #[iv p1, iv p2, iv p3, .unset, .unset, .unset, .unset, .unset, .unset, .unset] [(.ref b5)])) st47 ?_
  refine own_st (mkF m 98 #[iv p1, iv p2, iv p3, .unset, .unset, .unset, .unset, .unset, .unset, .unset] [(.ref b5), (.ref b5)]) (fun t k => XS.dup X47.here hx rfl (hb hby at_97) rfl rfl k) ?_
  refine own_st (mkF m 100 #[iv p1, iv p2, iv p3, .unset, .unset, .unset, .unset, .unset, .unset, .unset] [(.int (14 : Int32)), (.ref b5), (.ref b5)]) (fun t k => XS.bipush X47.here hx rfl (hb hby at_98) k) ?_
  obtain ⟨T48, X48, e48, st48⟩ := getS2 X47 hx hZ hown (host := "") (Or.inl (hw_32 hw)) Via.refl e47 (S_w24.ext O47.2) (g := (mkF m 100 #[iv p1, iv p2, iv p3, .unset, .unset, .unset, .unset, .unset, .unset, .unset] [(.int (14 : Int32)), (.ref b5), (.ref b5)])) rfl (hb hby at_100)
  refine own_step (g' := (mkF m 103 #[iv p1, iv p2, iv p3, .unset, .unset, .unset, .unset, .unset, .unset, .unset] [(.ref w24), (.int (14 : Int32)), (.ref b5), (.ref b5)])) st48 ?_
  obtain ⟨cl49, Ar49, q49, S49, M49, H49, G49⟩ := id V47
  have hin49 : ¬ ((14 : Int32) < 0 ∨ cl49.slots.size ≤ ((14 : Int32)).toNatClampNeg) := inb_of S49 ⟨by decide, by decide⟩
  obtain ⟨T50, h50, X50, e50, W50, st50⟩ := stR X48 hx hZ e48 Ar49 (j := (14 : Int32)) hin49 rfl (Sto.ofV Ar49 q49 O5v (Ins.self (E_w24.ext O47.2))) (g := (mkF m 103 #[iv p1, iv p2, iv p3, .unset, .unset, .unset, .unset, .unset, .unset, .unset] [(.ref w24), (.int (14 : Int32)), (.ref b5), (.ref b5)])) rfl rfl (hb hby at_103)
  have V50 : Arv Z h50 b5 k5 (.object "com/example/fencer/fencer/protocol/ApiKey") (20 : Int32) [(.ref w10), (.ref w11), (.ref w12), (.ref w13), (.ref w14), (.ref w15), (.ref w16), (.ref w17), (.ref w18), (.ref w19), (.ref w20), (.ref w21), (.ref w22), (.ref w23), (.ref w24), .null, .null, .null, .null, .null] .null := Arv.set Ar49 q49 S49 M49 H49 G49 rfl W50 14 rfl (Nat.le_of_ble_eq_true rfl)
  have Z50 : n0 ≤ h50.size := Nat.le_trans Z47 (Keep.of_wr W50).1
  have O50 : Old Z n0 h50 := O47.wr W50 g_b5
  have N50 := Fr.snoc X50 N47 g_b5
  refine own_step (g' := (mkF m 104 #[iv p1, iv p2, iv p3, .unset, .unset, .unset, .unset, .unset, .unset, .unset] [(.ref b5)])) st50 ?_
  refine own_st (mkF m 105 #[iv p1, iv p2, iv p3, .unset, .unset, .unset, .unset, .unset, .unset, .unset] [(.ref b5), (.ref b5)]) (fun t k => XS.dup X50.here hx rfl (hb hby at_104) rfl rfl k) ?_
  refine own_st (mkF m 107 #[iv p1, iv p2, iv p3, .unset, .unset, .unset, .unset, .unset, .unset, .unset] [(.int (15 : Int32)), (.ref b5), (.ref b5)]) (fun t k => XS.bipush X50.here hx rfl (hb hby at_105) k) ?_
  obtain ⟨T51, X51, e51, st51⟩ := getS2 X50 hx hZ hown (host := "") (Or.inl (hw_34 hw)) Via.refl e50 (S_w25.ext O50.2) (g := (mkF m 107 #[iv p1, iv p2, iv p3, .unset, .unset, .unset, .unset, .unset, .unset, .unset] [(.int (15 : Int32)), (.ref b5), (.ref b5)])) rfl (hb hby at_107)
  refine own_step (g' := (mkF m 110 #[iv p1, iv p2, iv p3, .unset, .unset, .unset, .unset, .unset, .unset, .unset] [(.ref w25), (.int (15 : Int32)), (.ref b5), (.ref b5)])) st51 ?_
  obtain ⟨cl52, Ar52, q52, S52, M52, H52, G52⟩ := id V50
  have hin52 : ¬ ((15 : Int32) < 0 ∨ cl52.slots.size ≤ ((15 : Int32)).toNatClampNeg) := inb_of S52 ⟨by decide, by decide⟩
  obtain ⟨T53, h53, X53, e53, W53, st53⟩ := stR X51 hx hZ e51 Ar52 (j := (15 : Int32)) hin52 rfl (Sto.ofV Ar52 q52 O5v (Ins.self (E_w25.ext O50.2))) (g := (mkF m 110 #[iv p1, iv p2, iv p3, .unset, .unset, .unset, .unset, .unset, .unset, .unset] [(.ref w25), (.int (15 : Int32)), (.ref b5), (.ref b5)])) rfl rfl (hb hby at_110)
  have V53 : Arv Z h53 b5 k5 (.object "com/example/fencer/fencer/protocol/ApiKey") (20 : Int32) [(.ref w10), (.ref w11), (.ref w12), (.ref w13), (.ref w14), (.ref w15), (.ref w16), (.ref w17), (.ref w18), (.ref w19), (.ref w20), (.ref w21), (.ref w22), (.ref w23), (.ref w24), (.ref w25), .null, .null, .null, .null] .null := Arv.set Ar52 q52 S52 M52 H52 G52 rfl W53 15 rfl (Nat.le_of_ble_eq_true rfl)
  have Z53 : n0 ≤ h53.size := Nat.le_trans Z50 (Keep.of_wr W53).1
  have O53 : Old Z n0 h53 := O50.wr W53 g_b5
  have N53 := Fr.snoc X53 N50 g_b5
  refine own_step (g' := (mkF m 111 #[iv p1, iv p2, iv p3, .unset, .unset, .unset, .unset, .unset, .unset, .unset] [(.ref b5)])) st53 ?_
  refine own_st (mkF m 112 #[iv p1, iv p2, iv p3, .unset, .unset, .unset, .unset, .unset, .unset, .unset] [(.ref b5), (.ref b5)]) (fun t k => XS.dup X53.here hx rfl (hb hby at_111) rfl rfl k) ?_
  refine own_st (mkF m 114 #[iv p1, iv p2, iv p3, .unset, .unset, .unset, .unset, .unset, .unset, .unset] [(.int (16 : Int32)), (.ref b5), (.ref b5)]) (fun t k => XS.bipush X53.here hx rfl (hb hby at_112) k) ?_
  obtain ⟨T54, X54, e54, st54⟩ := getS2 X53 hx hZ hown (host := "") (Or.inl (hw_36 hw)) Via.refl e53 (S_w26.ext O53.2) (g := (mkF m 114 #[iv p1, iv p2, iv p3, .unset, .unset, .unset, .unset, .unset, .unset, .unset] [(.int (16 : Int32)), (.ref b5), (.ref b5)])) rfl (hb hby at_114)
  refine own_step (g' := (mkF m 117 #[iv p1, iv p2, iv p3, .unset, .unset, .unset, .unset, .unset, .unset, .unset] [(.ref w26), (.int (16 : Int32)), (.ref b5), (.ref b5)])) st54 ?_
  obtain ⟨cl55, Ar55, q55, S55, M55, H55, G55⟩ := id V53
  have hin55 : ¬ ((16 : Int32) < 0 ∨ cl55.slots.size ≤ ((16 : Int32)).toNatClampNeg) := inb_of S55 ⟨by decide, by decide⟩
  obtain ⟨T56, h56, X56, e56, W56, st56⟩ := stR X54 hx hZ e54 Ar55 (j := (16 : Int32)) hin55 rfl (Sto.ofV Ar55 q55 O5v (Ins.self (E_w26.ext O53.2))) (g := (mkF m 117 #[iv p1, iv p2, iv p3, .unset, .unset, .unset, .unset, .unset, .unset, .unset] [(.ref w26), (.int (16 : Int32)), (.ref b5), (.ref b5)])) rfl rfl (hb hby at_117)
  have V56 : Arv Z h56 b5 k5 (.object "com/example/fencer/fencer/protocol/ApiKey") (20 : Int32) [(.ref w10), (.ref w11), (.ref w12), (.ref w13), (.ref w14), (.ref w15), (.ref w16), (.ref w17), (.ref w18), (.ref w19), (.ref w20), (.ref w21), (.ref w22), (.ref w23), (.ref w24), (.ref w25), (.ref w26), .null, .null, .null] .null := Arv.set Ar55 q55 S55 M55 H55 G55 rfl W56 16 rfl (Nat.le_of_ble_eq_true rfl)
  have Z56 : n0 ≤ h56.size := Nat.le_trans Z53 (Keep.of_wr W56).1
  have O56 : Old Z n0 h56 := O53.wr W56 g_b5
  have N56 := Fr.snoc X56 N53 g_b5
  refine own_step (g' := (mkF m 118 #[iv p1, iv p2, iv p3, .unset, .unset, .unset, .unset, .unset, .unset, .unset] [(.ref b5)])) st56 ?_
  refine own_st (mkF m 119 #[iv p1, iv p2, iv p3, .unset, .unset, .unset, .unset, .unset, .unset, .unset] [(.ref b5), (.ref b5)]) (fun t k => XS.dup X56.here hx rfl (hb hby at_118) rfl rfl k) ?_
  refine own_st (mkF m 121 #[iv p1, iv p2, iv p3, .unset, .unset, .unset, .unset, .unset, .unset, .unset] [(.int (17 : Int32)), (.ref b5), (.ref b5)]) (fun t k => XS.bipush X56.here hx rfl (hb hby at_119) k) ?_
  obtain ⟨T57, X57, e57, st57⟩ := getS2 X56 hx hZ hown (host := "") (Or.inl (hw_38 hw)) Via.refl e56 (S_w27.ext O56.2) (g := (mkF m 121 #[iv p1, iv p2, iv p3, .unset, .unset, .unset, .unset, .unset, .unset, .unset] [(.int (17 : Int32)), (.ref b5), (.ref b5)])) rfl (hb hby at_121)
  refine own_step (g' := (mkF m 124 #[iv p1, iv p2, iv p3, .unset, .unset, .unset, .unset, .unset, .unset, .unset] [(.ref w27), (.int (17 : Int32)), (.ref b5), (.ref b5)])) st57 ?_
  obtain ⟨cl58, Ar58, q58, S58, M58, H58, G58⟩ := id V56
  have hin58 : ¬ ((17 : Int32) < 0 ∨ cl58.slots.size ≤ ((17 : Int32)).toNatClampNeg) := inb_of S58 ⟨by decide, by decide⟩
  obtain ⟨T59, h59, X59, e59, W59, st59⟩ := stR X57 hx hZ e57 Ar58 (j := (17 : Int32)) hin58 rfl (Sto.ofV Ar58 q58 O5v (Ins.self (E_w27.ext O56.2))) (g := (mkF m 124 #[iv p1, iv p2, iv p3, .unset, .unset, .unset, .unset, .unset, .unset, .unset] [(.ref w27), (.int (17 : Int32)), (.ref b5), (.ref b5)])) rfl rfl (hb hby at_124)
  have V59 : Arv Z h59 b5 k5 (.object "com/example/fencer/fencer/protocol/ApiKey") (20 : Int32) [(.ref w10), (.ref w11), (.ref w12), (.ref w13), (.ref w14), (.ref w15), (.ref w16), (.ref w17), (.ref w18), (.ref w19), (.ref w20), (.ref w21), (.ref w22), (.ref w23), (.ref w24), (.ref w25), (.ref w26), (.ref w27), .null, .null] .null := Arv.set Ar58 q58 S58 M58 H58 G58 rfl W59 17 rfl (Nat.le_of_ble_eq_true rfl)
  have Z59 : n0 ≤ h59.size := Nat.le_trans Z56 (Keep.of_wr W59).1
  have O59 : Old Z n0 h59 := O56.wr W59 g_b5
  have N59 := Fr.snoc X59 N56 g_b5
  refine own_step (g' := (mkF m 125 #[iv p1, iv p2, iv p3, .unset, .unset, .unset, .unset, .unset, .unset, .unset] [(.ref b5)])) st59 ?_
  refine own_st (mkF m 126 #[iv p1, iv p2, iv p3, .unset, .unset, .unset, .unset, .unset, .unset, .unset] [(.ref b5), (.ref b5)]) (fun t k => XS.dup X59.here hx rfl (hb hby at_125) rfl rfl k) ?_
  refine own_st (mkF m 128 #[iv p1, iv p2, iv p3, .unset, .unset, .unset, .unset, .unset, .unset, .unset] [(.int (18 : Int32)), (.ref b5), (.ref b5)]) (fun t k => XS.bipush X59.here hx rfl (hb hby at_126) k) ?_
  obtain ⟨T60, X60, e60, st60⟩ := getS2 X59 hx hZ hown (host := "") (Or.inl (hw_40 hw)) Via.refl e59 (S_w28.ext O59.2) (g := (mkF m 128 #[iv p1, iv p2, iv p3, .unset, .unset, .unset, .unset, .unset, .unset, .unset] [(.int (18 : Int32)), (.ref b5), (.ref b5)])) rfl (hb hby at_128)
  refine own_step (g' := (mkF m 131 #[iv p1, iv p2, iv p3, .unset, .unset, .unset, .unset, .unset, .unset, .unset] [(.ref w28), (.int (18 : Int32)), (.ref b5), (.ref b5)])) st60 ?_
  obtain ⟨cl61, Ar61, q61, S61, M61, H61, G61⟩ := id V59
  have hin61 : ¬ ((18 : Int32) < 0 ∨ cl61.slots.size ≤ ((18 : Int32)).toNatClampNeg) := inb_of S61 ⟨by decide, by decide⟩
  obtain ⟨T62, h62, X62, e62, W62, st62⟩ := stR X60 hx hZ e60 Ar61 (j := (18 : Int32)) hin61 rfl (Sto.ofV Ar61 q61 O5v (Ins.self (E_w28.ext O59.2))) (g := (mkF m 131 #[iv p1, iv p2, iv p3, .unset, .unset, .unset, .unset, .unset, .unset, .unset] [(.ref w28), (.int (18 : Int32)), (.ref b5), (.ref b5)])) rfl rfl (hb hby at_131)
  have V62 : Arv Z h62 b5 k5 (.object "com/example/fencer/fencer/protocol/ApiKey") (20 : Int32) [(.ref w10), (.ref w11), (.ref w12), (.ref w13), (.ref w14), (.ref w15), (.ref w16), (.ref w17), (.ref w18), (.ref w19), (.ref w20), (.ref w21), (.ref w22), (.ref w23), (.ref w24), (.ref w25), (.ref w26), (.ref w27), (.ref w28), .null] .null := Arv.set Ar61 q61 S61 M61 H61 G61 rfl W62 18 rfl (Nat.le_of_ble_eq_true rfl)
  have Z62 : n0 ≤ h62.size := Nat.le_trans Z59 (Keep.of_wr W62).1
  have O62 : Old Z n0 h62 := O59.wr W62 g_b5
  have N62 := Fr.snoc X62 N59 g_b5
  refine own_step (g' := (mkF m 132 #[iv p1, iv p2, iv p3, .unset, .unset, .unset, .unset, .unset, .unset, .unset] [(.ref b5)])) st62 ?_
  refine own_st (mkF m 133 #[iv p1, iv p2, iv p3, .unset, .unset, .unset, .unset, .unset, .unset, .unset] [(.ref b5), (.ref b5)]) (fun t k => XS.dup X62.here hx rfl (hb hby at_132) rfl rfl k) ?_
  refine own_st (mkF m 135 #[iv p1, iv p2, iv p3, .unset, .unset, .unset, .unset, .unset, .unset, .unset] [(.int (19 : Int32)), (.ref b5), (.ref b5)]) (fun t k => XS.bipush X62.here hx rfl (hb hby at_133) k) ?_
  obtain ⟨T63, X63, e63, st63⟩ := getS2 X62 hx hZ hown (host := "") (Or.inl (hw_42 hw)) Via.refl e62 (S_w29.ext O62.2) (g := (mkF m 135 #[iv p1, iv p2, iv p3, .unset, .unset, .unset, .unset, .unset, .unset, .unset] [(.int (19 : Int32)), (.ref b5), (.ref b5)])) rfl (hb hby at_135)
  refine own_step (g' := (mkF m 138 #[iv p1, iv p2, iv p3, .unset, .unset, .unset, .unset, .unset, .unset, .unset] [(.ref w29), (.int (19 : Int32)), (.ref b5), (.ref b5)])) st63 ?_
  obtain ⟨cl64, Ar64, q64, S64, M64, H64, G64⟩ := id V62
  have hin64 : ¬ ((19 : Int32) < 0 ∨ cl64.slots.size ≤ ((19 : Int32)).toNatClampNeg) := inb_of S64 ⟨by decide, by decide⟩
  obtain ⟨T65, h65, X65, e65, W65, st65⟩ := stR X63 hx hZ e63 Ar64 (j := (19 : Int32)) hin64 rfl (Sto.ofV Ar64 q64 O5v (Ins.self (E_w29.ext O62.2))) (g := (mkF m 138 #[iv p1, iv p2, iv p3, .unset, .unset, .unset, .unset, .unset, .unset, .unset] [(.ref w29), (.int (19 : Int32)), (.ref b5), (.ref b5)])) rfl rfl (hb hby at_138)
  have V65 : Arv Z h65 b5 k5 (.object "com/example/fencer/fencer/protocol/ApiKey") (20 : Int32) [(.ref w10), (.ref w11), (.ref w12), (.ref w13), (.ref w14), (.ref w15), (.ref w16), (.ref w17), (.ref w18), (.ref w19), (.ref w20), (.ref w21), (.ref w22), (.ref w23), (.ref w24), (.ref w25), (.ref w26), (.ref w27), (.ref w28), (.ref w29)] .null := Arv.set Ar64 q64 S64 M64 H64 G64 rfl W65 19 rfl (Nat.le_of_ble_eq_true rfl)
  have Z65 : n0 ≤ h65.size := Nat.le_trans Z62 (Keep.of_wr W65).1
  have O65 : Old Z n0 h65 := O62.wr W65 g_b5
  have N65 := Fr.snoc X65 N62 g_b5
  refine own_step (g' := (mkF m 139 #[iv p1, iv p2, iv p3, .unset, .unset, .unset, .unset, .unset, .unset, .unset] [(.ref b5)])) st65 ?_
  refine own_st (mkF m 140 #[iv p1, iv p2, iv p3, rv b5, .unset, .unset, .unset, .unset, .unset, .unset] []) (fun t k => XS.astoreN X65.here hx rfl (hb hby at_139) rfl rfl (l' := #[iv p1, iv p2, iv p3, rv b5, .unset, .unset, .unset, .unset, .unset, .unset]) rfl k) ?_
  refine own_st (mkF m 142 #[iv p1, iv p2, iv p3, rv b5, .unset, .unset, .unset, .unset, .unset, .unset] [(.int (20 : Int32))]) (fun t k => XS.bipush X65.here hx rfl (hb hby at_140) k) ?_
  obtain ⟨T66, h66, k66, X66, e66, E66, A66, st66⟩ := newP (aty := .int) X65 hx hZ (hw_44 hw) e65 (g := (mkF m 142 #[iv p1, iv p2, iv p3, rv b5, .unset, .unset, .unset, .unset, .unset, .unset] [(.int (20 : Int32))])) rfl (hb hby at_142) rfl (by decide) (cap := 20) (by decide) (by decide) (by decide) (by decide)
  obtain ⟨b66, g66⟩ : ∃ z, z = h65.size := ⟨_, rfl⟩
  rw [← g66] at A66 st66
  have E_66 : Ext h65 h66 := E66
  have g_b66 : n0 ≤ b66 := Nat.le_trans Z65 (Nat.le_of_eq g66.symm)
  have ne_b5_b66 : b5 ≠ b66 := Nat.ne_of_lt (Nat.lt_of_lt_of_le V65.lt (Nat.le_of_eq g66.symm))
  have Z66 : n0 ≤ h66.size := Nat.le_trans Z65 E66.1
  have O66 : Old Z n0 h66 := O65.ext E66
  have f1_Arv_b5 : Arv Z h66 b5 k5 (.object "com/example/fencer/fencer/protocol/ApiKey") (20 : Int32) [(.ref w10), (.ref w11), (.ref w12), (.ref w13), (.ref w14), (.ref w15), (.ref w16), (.ref w17), (.ref w18), (.ref w19), (.ref w20), (.ref w21), (.ref w22), (.ref w23), (.ref w24), (.ref w25), (.ref w26), (.ref w27), (.ref w28), (.ref w29)] .null := (V65.ext E66)
  have V66 : Arv Z h66 b66 k66 .int (20 : Int32) [(.int (0 : Int32)), (.int (0 : Int32)), (.int (0 : Int32)), (.int (0 : Int32)), (.int (0 : Int32)), (.int (0 : Int32)), (.int (0 : Int32)), (.int (0 : Int32)), (.int (0 : Int32)), (.int (0 : Int32)), (.int (0 : Int32)), (.int (0 : Int32)), (.int (0 : Int32)), (.int (0 : Int32)), (.int (0 : Int32)), (.int (0 : Int32)), (.int (0 : Int32)), (.int (0 : Int32)), (.int (0 : Int32)), (.int (0 : Int32))] (.int (0 : Int32)) := (Arv.new A66 (by decide)).pad (pad_rep [] (.int (0 : Int32)) 20)
  refine own_step (g' := (mkF m 144 #[iv p1, iv p2, iv p3, rv b5, .unset, .unset, .unset, .unset, .unset, .unset] [(.ref b66)])) st66 ?_
  refine own_st (mkF m 145 #[iv p1, iv p2, iv p3, rv b5, .unset, .unset, .unset, .unset, .unset, .unset] [(.ref b66), (.ref b66)]) (fun t k => XS.dup X66.here hx rfl (hb hby at_144) rfl rfl k) ?_
  refine own_st (mkF m 146 #[iv p1, iv p2, iv p3, rv b5, .unset, .unset, .unset, .unset, .unset, .unset] [(.int (0 : Int32)), (.ref b66), (.ref b66)]) (fun t k => XS.iconst X66.here hx rfl (hb hby at_145) k) ?_
  refine own_st (mkF m 147 #[iv p1, iv p2, iv p3, rv b5, .unset, .unset, .unset, .unset, .unset, .unset] [(.int (0 : Int32)), (.int (0 : Int32)), (.ref b66), (.ref b66)]) (fun t k => XS.iconst X66.here hx rfl (hb hby at_146) k) ?_
  obtain ⟨cl67, Ar67, q67, S67, M67, H67, G67⟩ := id V66
  have hin67 : ¬ ((0 : Int32) < 0 ∨ cl67.slots.size ≤ ((0 : Int32)).toNatClampNeg) := inb_of S67 ⟨by decide, by decide⟩
  obtain ⟨T68, h68, X68, e68, W68, st68⟩ := stI X66 hx hZ e66 Ar67 (j := (0 : Int32)) hin67 (g := (mkF m 147 #[iv p1, iv p2, iv p3, rv b5, .unset, .unset, .unset, .unset, .unset, .unset] [(.int (0 : Int32)), (.int (0 : Int32)), (.ref b66), (.ref b66)])) rfl rfl (hb hby at_147)
  have f2_Arv_b5 : Arv Z h68 b5 k5 (.object "com/example/fencer/fencer/protocol/ApiKey") (20 : Int32) [(.ref w10), (.ref w11), (.ref w12), (.ref w13), (.ref w14), (.ref w15), (.ref w16), (.ref w17), (.ref w18), (.ref w19), (.ref w20), (.ref w21), (.ref w22), (.ref w23), (.ref w24), (.ref w25), (.ref w26), (.ref w27), (.ref w28), (.ref w29)] .null := (f1_Arv_b5.other W68 ne_b5_b66)
  have V68 : Arv Z h68 b66 k66 .int (20 : Int32) [(.int (0 : Int32)), (.int (0 : Int32)), (.int (0 : Int32)), (.int (0 : Int32)), (.int (0 : Int32)), (.int (0 : Int32)), (.int (0 : Int32)), (.int (0 : Int32)), (.int (0 : Int32)), (.int (0 : Int32)), (.int (0 : Int32)), (.int (0 : Int32)), (.int (0 : Int32)), (.int (0 : Int32)), (.int (0 : Int32)), (.int (0 : Int32)), (.int (0 : Int32)), (.int (0 : Int32)), (.int (0 : Int32)), (.int (0 : Int32))] (.int (0 : Int32)) := Arv.set Ar67 q67 S67 M67 H67 G67 rfl W68 0 rfl (Nat.le_of_ble_eq_true rfl)
  have Z68 : n0 ≤ h68.size := Nat.le_trans Z66 (Keep.of_wr W68).1
  have O68 : Old Z n0 h68 := O66.wr W68 g_b66
  have N68 := Fr.snoc X68 N65 g_b66
  refine own_step (g' := (mkF m 148 #[iv p1, iv p2, iv p3, rv b5, .unset, .unset, .unset, .unset, .unset, .unset] [(.ref b66)])) st68 ?_
  refine own_st (mkF m 149 #[iv p1, iv p2, iv p3, rv b5, .unset, .unset, .unset, .unset, .unset, .unset] [(.ref b66), (.ref b66)]) (fun t k => XS.dup X68.here hx rfl (hb hby at_148) rfl rfl k) ?_
  refine own_st (mkF m 150 #[iv p1, iv p2, iv p3, rv b5, .unset, .unset, .unset, .unset, .unset, .unset] [(.int (1 : Int32)), (.ref b66), (.ref b66)]) (fun t k => XS.iconst X68.here hx rfl (hb hby at_149) k) ?_
  refine own_st (mkF m 151 #[iv p1, iv p2, iv p3, rv b5, .unset, .unset, .unset, .unset, .unset, .unset] [(.int (4 : Int32)), (.int (1 : Int32)), (.ref b66), (.ref b66)]) (fun t k => XS.iconst X68.here hx rfl (hb hby at_150) k) ?_
  obtain ⟨cl69, Ar69, q69, S69, M69, H69, G69⟩ := id V68
  have hin69 : ¬ ((1 : Int32) < 0 ∨ cl69.slots.size ≤ ((1 : Int32)).toNatClampNeg) := inb_of S69 ⟨by decide, by decide⟩
  obtain ⟨T70, h70, X70, e70, W70, st70⟩ := stI X68 hx hZ e68 Ar69 (j := (1 : Int32)) hin69 (g := (mkF m 151 #[iv p1, iv p2, iv p3, rv b5, .unset, .unset, .unset, .unset, .unset, .unset] [(.int (4 : Int32)), (.int (1 : Int32)), (.ref b66), (.ref b66)])) rfl rfl (hb hby at_151)
  have f3_Arv_b5 : Arv Z h70 b5 k5 (.object "com/example/fencer/fencer/protocol/ApiKey") (20 : Int32) [(.ref w10), (.ref w11), (.ref w12), (.ref w13), (.ref w14), (.ref w15), (.ref w16), (.ref w17), (.ref w18), (.ref w19), (.ref w20), (.ref w21), (.ref w22), (.ref w23), (.ref w24), (.ref w25), (.ref w26), (.ref w27), (.ref w28), (.ref w29)] .null := (f2_Arv_b5.other W70 ne_b5_b66)
  have V70 : Arv Z h70 b66 k66 .int (20 : Int32) [(.int (0 : Int32)), (.int (4 : Int32)), (.int (0 : Int32)), (.int (0 : Int32)), (.int (0 : Int32)), (.int (0 : Int32)), (.int (0 : Int32)), (.int (0 : Int32)), (.int (0 : Int32)), (.int (0 : Int32)), (.int (0 : Int32)), (.int (0 : Int32)), (.int (0 : Int32)), (.int (0 : Int32)), (.int (0 : Int32)), (.int (0 : Int32)), (.int (0 : Int32)), (.int (0 : Int32)), (.int (0 : Int32)), (.int (0 : Int32))] (.int (0 : Int32)) := Arv.set Ar69 q69 S69 M69 H69 G69 rfl W70 1 rfl (Nat.le_of_ble_eq_true rfl)
  have Z70 : n0 ≤ h70.size := Nat.le_trans Z68 (Keep.of_wr W70).1
  have O70 : Old Z n0 h70 := O68.wr W70 g_b66
  have N70 := Fr.snoc X70 N68 g_b66
  refine own_step (g' := (mkF m 152 #[iv p1, iv p2, iv p3, rv b5, .unset, .unset, .unset, .unset, .unset, .unset] [(.ref b66)])) st70 ?_
  refine own_st (mkF m 153 #[iv p1, iv p2, iv p3, rv b5, .unset, .unset, .unset, .unset, .unset, .unset] [(.ref b66), (.ref b66)]) (fun t k => XS.dup X70.here hx rfl (hb hby at_152) rfl rfl k) ?_
  refine own_st (mkF m 154 #[iv p1, iv p2, iv p3, rv b5, .unset, .unset, .unset, .unset, .unset, .unset] [(.int (2 : Int32)), (.ref b66), (.ref b66)]) (fun t k => XS.iconst X70.here hx rfl (hb hby at_153) k) ?_
  refine own_st (mkF m 155 #[iv p1, iv p2, iv p3, rv b5, .unset, .unset, .unset, .unset, .unset, .unset] [(.int (1 : Int32)), (.int (2 : Int32)), (.ref b66), (.ref b66)]) (fun t k => XS.iconst X70.here hx rfl (hb hby at_154) k) ?_
  obtain ⟨cl71, Ar71, q71, S71, M71, H71, G71⟩ := id V70
  have hin71 : ¬ ((2 : Int32) < 0 ∨ cl71.slots.size ≤ ((2 : Int32)).toNatClampNeg) := inb_of S71 ⟨by decide, by decide⟩
  obtain ⟨T72, h72, X72, e72, W72, st72⟩ := stI X70 hx hZ e70 Ar71 (j := (2 : Int32)) hin71 (g := (mkF m 155 #[iv p1, iv p2, iv p3, rv b5, .unset, .unset, .unset, .unset, .unset, .unset] [(.int (1 : Int32)), (.int (2 : Int32)), (.ref b66), (.ref b66)])) rfl rfl (hb hby at_155)
  have f4_Arv_b5 : Arv Z h72 b5 k5 (.object "com/example/fencer/fencer/protocol/ApiKey") (20 : Int32) [(.ref w10), (.ref w11), (.ref w12), (.ref w13), (.ref w14), (.ref w15), (.ref w16), (.ref w17), (.ref w18), (.ref w19), (.ref w20), (.ref w21), (.ref w22), (.ref w23), (.ref w24), (.ref w25), (.ref w26), (.ref w27), (.ref w28), (.ref w29)] .null := (f3_Arv_b5.other W72 ne_b5_b66)
  have V72 : Arv Z h72 b66 k66 .int (20 : Int32) [(.int (0 : Int32)), (.int (4 : Int32)), (.int (1 : Int32)), (.int (0 : Int32)), (.int (0 : Int32)), (.int (0 : Int32)), (.int (0 : Int32)), (.int (0 : Int32)), (.int (0 : Int32)), (.int (0 : Int32)), (.int (0 : Int32)), (.int (0 : Int32)), (.int (0 : Int32)), (.int (0 : Int32)), (.int (0 : Int32)), (.int (0 : Int32)), (.int (0 : Int32)), (.int (0 : Int32)), (.int (0 : Int32)), (.int (0 : Int32))] (.int (0 : Int32)) := Arv.set Ar71 q71 S71 M71 H71 G71 rfl W72 2 rfl (Nat.le_of_ble_eq_true rfl)
  have Z72 : n0 ≤ h72.size := Nat.le_trans Z70 (Keep.of_wr W72).1
  have O72 : Old Z n0 h72 := O70.wr W72 g_b66
  have N72 := Fr.snoc X72 N70 g_b66
  refine own_step (g' := (mkF m 156 #[iv p1, iv p2, iv p3, rv b5, .unset, .unset, .unset, .unset, .unset, .unset] [(.ref b66)])) st72 ?_
  refine own_st (mkF m 157 #[iv p1, iv p2, iv p3, rv b5, .unset, .unset, .unset, .unset, .unset, .unset] [(.ref b66), (.ref b66)]) (fun t k => XS.dup X72.here hx rfl (hb hby at_156) rfl rfl k) ?_
  refine own_st (mkF m 158 #[iv p1, iv p2, iv p3, rv b5, .unset, .unset, .unset, .unset, .unset, .unset] [(.int (3 : Int32)), (.ref b66), (.ref b66)]) (fun t k => XS.iconst X72.here hx rfl (hb hby at_157) k) ?_
  refine own_st (mkF m 159 #[iv p1, iv p2, iv p3, rv b5, .unset, .unset, .unset, .unset, .unset, .unset] [(.int (0 : Int32)), (.int (3 : Int32)), (.ref b66), (.ref b66)]) (fun t k => XS.iconst X72.here hx rfl (hb hby at_158) k) ?_
  obtain ⟨cl73, Ar73, q73, S73, M73, H73, G73⟩ := id V72
  have hin73 : ¬ ((3 : Int32) < 0 ∨ cl73.slots.size ≤ ((3 : Int32)).toNatClampNeg) := inb_of S73 ⟨by decide, by decide⟩
  obtain ⟨T74, h74, X74, e74, W74, st74⟩ := stI X72 hx hZ e72 Ar73 (j := (3 : Int32)) hin73 (g := (mkF m 159 #[iv p1, iv p2, iv p3, rv b5, .unset, .unset, .unset, .unset, .unset, .unset] [(.int (0 : Int32)), (.int (3 : Int32)), (.ref b66), (.ref b66)])) rfl rfl (hb hby at_159)
  have f5_Arv_b5 : Arv Z h74 b5 k5 (.object "com/example/fencer/fencer/protocol/ApiKey") (20 : Int32) [(.ref w10), (.ref w11), (.ref w12), (.ref w13), (.ref w14), (.ref w15), (.ref w16), (.ref w17), (.ref w18), (.ref w19), (.ref w20), (.ref w21), (.ref w22), (.ref w23), (.ref w24), (.ref w25), (.ref w26), (.ref w27), (.ref w28), (.ref w29)] .null := (f4_Arv_b5.other W74 ne_b5_b66)
  have V74 : Arv Z h74 b66 k66 .int (20 : Int32) [(.int (0 : Int32)), (.int (4 : Int32)), (.int (1 : Int32)), (.int (0 : Int32)), (.int (0 : Int32)), (.int (0 : Int32)), (.int (0 : Int32)), (.int (0 : Int32)), (.int (0 : Int32)), (.int (0 : Int32)), (.int (0 : Int32)), (.int (0 : Int32)), (.int (0 : Int32)), (.int (0 : Int32)), (.int (0 : Int32)), (.int (0 : Int32)), (.int (0 : Int32)), (.int (0 : Int32)), (.int (0 : Int32)), (.int (0 : Int32))] (.int (0 : Int32)) := Arv.set Ar73 q73 S73 M73 H73 G73 rfl W74 3 rfl (Nat.le_of_ble_eq_true rfl)
  have Z74 : n0 ≤ h74.size := Nat.le_trans Z72 (Keep.of_wr W74).1
  have O74 : Old Z n0 h74 := O72.wr W74 g_b66
  have N74 := Fr.snoc X74 N72 g_b66
  refine own_step (g' := (mkF m 160 #[iv p1, iv p2, iv p3, rv b5, .unset, .unset, .unset, .unset, .unset, .unset] [(.ref b66)])) st74 ?_
  refine own_st (mkF m 161 #[iv p1, iv p2, iv p3, rv b5, .unset, .unset, .unset, .unset, .unset, .unset] [(.ref b66), (.ref b66)]) (fun t k => XS.dup X74.here hx rfl (hb hby at_160) rfl rfl k) ?_
  refine own_st (mkF m 162 #[iv p1, iv p2, iv p3, rv b5, .unset, .unset, .unset, .unset, .unset, .unset] [(.int (4 : Int32)), (.ref b66), (.ref b66)]) (fun t k => XS.iconst X74.here hx rfl (hb hby at_161) k) ?_
  refine own_st (mkF m 163 #[iv p1, iv p2, iv p3, rv b5, .unset, .unset, .unset, .unset, .unset, .unset] [(.int (2 : Int32)), (.int (4 : Int32)), (.ref b66), (.ref b66)]) (fun t k => XS.iconst X74.here hx rfl (hb hby at_162) k) ?_
  obtain ⟨cl75, Ar75, q75, S75, M75, H75, G75⟩ := id V74
  have hin75 : ¬ ((4 : Int32) < 0 ∨ cl75.slots.size ≤ ((4 : Int32)).toNatClampNeg) := inb_of S75 ⟨by decide, by decide⟩
  obtain ⟨T76, h76, X76, e76, W76, st76⟩ := stI X74 hx hZ e74 Ar75 (j := (4 : Int32)) hin75 (g := (mkF m 163 #[iv p1, iv p2, iv p3, rv b5, .unset, .unset, .unset, .unset, .unset, .unset] [(.int (2 : Int32)), (.int (4 : Int32)), (.ref b66), (.ref b66)])) rfl rfl (hb hby at_163)
  have f6_Arv_b5 : Arv Z h76 b5 k5 (.object "com/example/fencer/fencer/protocol/ApiKey") (20 : Int32) [(.ref w10), (.ref w11), (.ref w12), (.ref w13), (.ref w14), (.ref w15), (.ref w16), (.ref w17), (.ref w18), (.ref w19), (.ref w20), (.ref w21), (.ref w22), (.ref w23), (.ref w24), (.ref w25), (.ref w26), (.ref w27), (.ref w28), (.ref w29)] .null := (f5_Arv_b5.other W76 ne_b5_b66)
  have V76 : Arv Z h76 b66 k66 .int (20 : Int32) [(.int (0 : Int32)), (.int (4 : Int32)), (.int (1 : Int32)), (.int (0 : Int32)), (.int (2 : Int32)), (.int (0 : Int32)), (.int (0 : Int32)), (.int (0 : Int32)), (.int (0 : Int32)), (.int (0 : Int32)), (.int (0 : Int32)), (.int (0 : Int32)), (.int (0 : Int32)), (.int (0 : Int32)), (.int (0 : Int32)), (.int (0 : Int32)), (.int (0 : Int32)), (.int (0 : Int32)), (.int (0 : Int32)), (.int (0 : Int32))] (.int (0 : Int32)) := Arv.set Ar75 q75 S75 M75 H75 G75 rfl W76 4 rfl (Nat.le_of_ble_eq_true rfl)
  have Z76 : n0 ≤ h76.size := Nat.le_trans Z74 (Keep.of_wr W76).1
  have O76 : Old Z n0 h76 := O74.wr W76 g_b66
  have N76 := Fr.snoc X76 N74 g_b66
  refine own_step (g' := (mkF m 164 #[iv p1, iv p2, iv p3, rv b5, .unset, .unset, .unset, .unset, .unset, .unset] [(.ref b66)])) st76 ?_
  refine own_st (mkF m 165 #[iv p1, iv p2, iv p3, rv b5, .unset, .unset, .unset, .unset, .unset, .unset] [(.ref b66), (.ref b66)]) (fun t k => XS.dup X76.here hx rfl (hb hby at_164) rfl rfl k) ?_
  refine own_st (mkF m 166 #[iv p1, iv p2, iv p3, rv b5, .unset, .unset, .unset, .unset, .unset, .unset] [(.int (5 : Int32)), (.ref b66), (.ref b66)]) (fun t k => XS.iconst X76.here hx rfl (hb hby at_165) k) ?_
  refine own_st (mkF m 167 #[iv p1, iv p2, iv p3, rv b5, .unset, .unset, .unset, .unset, .unset, .unset] [(.int (1 : Int32)), (.int (5 : Int32)), (.ref b66), (.ref b66)]) (fun t k => XS.iconst X76.here hx rfl (hb hby at_166) k) ?_
  obtain ⟨cl77, Ar77, q77, S77, M77, H77, G77⟩ := id V76
  have hin77 : ¬ ((5 : Int32) < 0 ∨ cl77.slots.size ≤ ((5 : Int32)).toNatClampNeg) := inb_of S77 ⟨by decide, by decide⟩
  obtain ⟨T78, h78, X78, e78, W78, st78⟩ := stI X76 hx hZ e76 Ar77 (j := (5 : Int32)) hin77 (g := (mkF m 167 #[iv p1, iv p2, iv p3, rv b5, .unset, .unset, .unset, .unset, .unset, .unset] [(.int (1 : Int32)), (.int (5 : Int32)), (.ref b66), (.ref b66)])) rfl rfl (hb hby at_167)
  have f7_Arv_b5 : Arv Z h78 b5 k5 (.object "com/example/fencer/fencer/protocol/ApiKey") (20 : Int32) [(.ref w10), (.ref w11), (.ref w12), (.ref w13), (.ref w14), (.ref w15), (.ref w16), (.ref w17), (.ref w18), (.ref w19), (.ref w20), (.ref w21), (.ref w22), (.ref w23), (.ref w24), (.ref w25), (.ref w26), (.ref w27), (.ref w28), (.ref w29)] .null := (f6_Arv_b5.other W78 ne_b5_b66)
  have V78 : Arv Z h78 b66 k66 .int (20 : Int32) [(.int (0 : Int32)), (.int (4 : Int32)), (.int (1 : Int32)), (.int (0 : Int32)), (.int (2 : Int32)), (.int (1 : Int32)), (.int (0 : Int32)), (.int (0 : Int32)), (.int (0 : Int32)), (.int (0 : Int32)), (.int (0 : Int32)), (.int (0 : Int32)), (.int (0 : Int32)), (.int (0 : Int32)), (.int (0 : Int32)), (.int (0 : Int32)), (.int (0 : Int32)), (.int (0 : Int32)), (.int (0 : Int32)), (.int (0 : Int32))] (.int (0 : Int32)) := Arv.set Ar77 q77 S77 M77 H77 G77 rfl W78 5 rfl (Nat.le_of_ble_eq_true rfl)
  have Z78 : n0 ≤ h78.size := Nat.le_trans Z76 (Keep.of_wr W78).1
  have O78 : Old Z n0 h78 := O76.wr W78 g_b66
  have N78 := Fr.snoc X78 N76 g_b66
  refine own_step (g' := (mkF m 168 #[iv p1, iv p2, iv p3, rv b5, .unset, .unset, .unset, .unset, .unset, .unset] [(.ref b66)])) st78 ?_
  refine own_st (mkF m 169 #[iv p1, iv p2, iv p3, rv b5, .unset, .unset, .unset, .unset, .unset, .unset] [(.ref b66), (.ref b66)]) (fun t k => XS.dup X78.here hx rfl (hb hby at_168) rfl rfl k) ?_
  refine own_st (mkF m 171 #[iv p1, iv p2, iv p3, rv b5, .unset, .unset, .unset, .unset, .unset, .unset] [(.int (6 : Int32)), (.ref b66), (.ref b66)]) (fun t k => XS.bipush X78.here hx rfl (hb hby at_169) k) ?_
  refine own_st (mkF m 172 #[iv p1, iv p2, iv p3, rv b5, .unset, .unset, .unset, .unset, .unset, .unset] [(.int (0 : Int32)), (.int (6 : Int32)), (.ref b66), (.ref b66)]) (fun t k => XS.iconst X78.here hx rfl (hb hby at_171) k) ?_
  obtain ⟨cl79, Ar79, q79, S79, M79, H79, G79⟩ := id V78
  have hin79 : ¬ ((6 : Int32) < 0 ∨ cl79.slots.size ≤ ((6 : Int32)).toNatClampNeg) := inb_of S79 ⟨by decide, by decide⟩
  obtain ⟨T80, h80, X80, e80, W80, st80⟩ := stI X78 hx hZ e78 Ar79 (j := (6 : Int32)) hin79 (g := (mkF m 172 #[iv p1, iv p2, iv p3, rv b5, .unset, .unset, .unset, .unset, .unset, .unset] [(.int (0 : Int32)), (.int (6 : Int32)), (.ref b66), (.ref b66)])) rfl rfl (hb hby at_172)
  have f8_Arv_b5 : Arv Z h80 b5 k5 (.object "com/example/fencer/fencer/protocol/ApiKey") (20 : Int32) [(.ref w10), (.ref w11), (.ref w12), (.ref w13), (.ref w14), (.ref w15), (.ref w16), (.ref w17), (.ref w18), (.ref w19), (.ref w20), (.ref w21), (.ref w22), (.ref w23), (.ref w24), (.ref w25), (.ref w26), (.ref w27), (.ref w28), (.ref w29)] .null := (f7_Arv_b5.other W80 ne_b5_b66)
  have V80 : Arv Z h80 b66 k66 .int (20 : Int32) [(.int (0 : Int32)), (.int (4 : Int32)), (.int (1 : Int32)), (.int (0 : Int32)), (.int (2 : Int32)), (.int (1 : Int32)), (.int (0 : Int32)), (.int (0 : Int32)), (.int (0 : Int32)), (.int (0 : Int32)), (.int (0 : Int32)), (.int (0 : Int32)), (.int (0 : Int32)), (.int (0 : Int32)), (.int (0 : Int32)), (.int (0 : Int32)), (.int (0 : Int32)), (.int (0 : Int32)), (.int (0 : Int32)), (.int (0 : Int32))] (.int (0 : Int32)) := Arv.set Ar79 q79 S79 M79 H79 G79 rfl W80 6 rfl (Nat.le_of_ble_eq_true rfl)
  have Z80 : n0 ≤ h80.size := Nat.le_trans Z78 (Keep.of_wr W80).1
  have O80 : Old Z n0 h80 := O78.wr W80 g_b66
  have N80 := Fr.snoc X80 N78 g_b66
  refine own_step (g' := (mkF m 173 #[iv p1, iv p2, iv p3, rv b5, .unset, .unset, .unset, .unset, .unset, .unset] [(.ref b66)])) st80 ?_
  refine own_st (mkF m 174 #[iv p1, iv p2, iv p3, rv b5, .unset, .unset, .unset, .unset, .unset, .unset] [(.ref b66), (.ref b66)]) (fun t k => XS.dup X80.here hx rfl (hb hby at_173) rfl rfl k) ?_
  refine own_st (mkF m 176 #[iv p1, iv p2, iv p3, rv b5, .unset, .unset, .unset, .unset, .unset, .unset] [(.int (7 : Int32)), (.ref b66), (.ref b66)]) (fun t k => XS.bipush X80.here hx rfl (hb hby at_174) k) ?_
  refine own_st (mkF m 177 #[iv p1, iv p2, iv p3, rv b5, .unset, .unset, .unset, .unset, .unset, .unset] [(.int (0 : Int32)), (.int (7 : Int32)), (.ref b66), (.ref b66)]) (fun t k => XS.iconst X80.here hx rfl (hb hby at_176) k) ?_
  obtain ⟨cl81, Ar81, q81, S81, M81, H81, G81⟩ := id V80
  have hin81 : ¬ ((7 : Int32) < 0 ∨ cl81.slots.size ≤ ((7 : Int32)).toNatClampNeg) := inb_of S81 ⟨by decide, by decide⟩
  obtain ⟨T82, h82, X82, e82, W82, st82⟩ := stI X80 hx hZ e80 Ar81 (j := (7 : Int32)) hin81 (g := (mkF m 177 #[iv p1, iv p2, iv p3, rv b5, .unset, .unset, .unset, .unset, .unset, .unset] [(.int (0 : Int32)), (.int (7 : Int32)), (.ref b66), (.ref b66)])) rfl rfl (hb hby at_177)
  have f9_Arv_b5 : Arv Z h82 b5 k5 (.object "com/example/fencer/fencer/protocol/ApiKey") (20 : Int32) [(.ref w10), (.ref w11), (.ref w12), (.ref w13), (.ref w14), (.ref w15), (.ref w16), (.ref w17), (.ref w18), (.ref w19), (.ref w20), (.ref w21), (.ref w22), (.ref w23), (.ref w24), (.ref w25), (.ref w26), (.ref w27), (.ref w28), (.ref w29)] .null := (f8_Arv_b5.other W82 ne_b5_b66)
  have V82 : Arv Z h82 b66 k66 .int (20 : Int32) [(.int (0 : Int32)), (.int (4 : Int32)), (.int (1 : Int32)), (.int (0 : Int32)), (.int (2 : Int32)), (.int (1 : Int32)), (.int (0 : Int32)), (.int (0 : Int32)), (.int (0 : Int32)), (.int (0 : Int32)), (.int (0 : Int32)), (.int (0 : Int32)), (.int (0 : Int32)), (.int (0 : Int32)), (.int (0 : Int32)), (.int (0 : Int32)), (.int (0 : Int32)), (.int (0 : Int32)), (.int (0 : Int32)), (.int (0 : Int32))] (.int (0 : Int32)) := Arv.set Ar81 q81 S81 M81 H81 G81 rfl W82 7 rfl (Nat.le_of_ble_eq_true rfl)
  have Z82 : n0 ≤ h82.size := Nat.le_trans Z80 (Keep.of_wr W82).1
  have O82 : Old Z n0 h82 := O80.wr W82 g_b66
  have N82 := Fr.snoc X82 N80 g_b66
  refine own_step (g' := (mkF m 178 #[iv p1, iv p2, iv p3, rv b5, .unset, .unset, .unset, .unset, .unset, .unset] [(.ref b66)])) st82 ?_
  refine own_st (mkF m 179 #[iv p1, iv p2, iv p3, rv b5, .unset, .unset, .unset, .unset, .unset, .unset] [(.ref b66), (.ref b66)]) (fun t k => XS.dup X82.here hx rfl (hb hby at_178) rfl rfl k) ?_
  refine own_st (mkF m 181 #[iv p1, iv p2, iv p3, rv b5, .unset, .unset, .unset, .unset, .unset, .unset] [(.int (8 : Int32)), (.ref b66), (.ref b66)]) (fun t k => XS.bipush X82.here hx rfl (hb hby at_179) k) ?_
  refine own_st (mkF m 182 #[iv p1, iv p2, iv p3, rv b5, .unset, .unset, .unset, .unset, .unset, .unset] [(.int (0 : Int32)), (.int (8 : Int32)), (.ref b66), (.ref b66)]) (fun t k => XS.iconst X82.here hx rfl (hb hby at_181) k) ?_
  obtain ⟨cl83, Ar83, q83, S83, M83, H83, G83⟩ := id V82
  have hin83 : ¬ ((8 : Int32) < 0 ∨ cl83.slots.size ≤ ((8 : Int32)).toNatClampNeg) := inb_of S83 ⟨by decide, by decide⟩
  obtain ⟨T84, h84, X84, e84, W84, st84⟩ := stI X82 hx hZ e82 Ar83 (j := (8 : Int32)) hin83 (g := (mkF m 182 #[iv p1, iv p2, iv p3, rv b5, .unset, .unset, .unset, .unset, .unset, .unset] [(.int (0 : Int32)), (.int (8 : Int32)), (.ref b66), (.ref b66)])) rfl rfl (hb hby at_182)
  have f10_Arv_b5 : Arv Z h84 b5 k5 (.object "com/example/fencer/fencer/protocol/ApiKey") (20 : Int32) [(.ref w10), (.ref w11), (.ref w12), (.ref w13), (.ref w14), (.ref w15), (.ref w16), (.ref w17), (.ref w18), (.ref w19), (.ref w20), (.ref w21), (.ref w22), (.ref w23), (.ref w24), (.ref w25), (.ref w26), (.ref w27), (.ref w28), (.ref w29)] .null := (f9_Arv_b5.other W84 ne_b5_b66)
  have V84 : Arv Z h84 b66 k66 .int (20 : Int32) [(.int (0 : Int32)), (.int (4 : Int32)), (.int (1 : Int32)), (.int (0 : Int32)), (.int (2 : Int32)), (.int (1 : Int32)), (.int (0 : Int32)), (.int (0 : Int32)), (.int (0 : Int32)), (.int (0 : Int32)), (.int (0 : Int32)), (.int (0 : Int32)), (.int (0 : Int32)), (.int (0 : Int32)), (.int (0 : Int32)), (.int (0 : Int32)), (.int (0 : Int32)), (.int (0 : Int32)), (.int (0 : Int32)), (.int (0 : Int32))] (.int (0 : Int32)) := Arv.set Ar83 q83 S83 M83 H83 G83 rfl W84 8 rfl (Nat.le_of_ble_eq_true rfl)
  have Z84 : n0 ≤ h84.size := Nat.le_trans Z82 (Keep.of_wr W84).1
  have O84 : Old Z n0 h84 := O82.wr W84 g_b66
  have N84 := Fr.snoc X84 N82 g_b66
  refine own_step (g' := (mkF m 183 #[iv p1, iv p2, iv p3, rv b5, .unset, .unset, .unset, .unset, .unset, .unset] [(.ref b66)])) st84 ?_
  refine own_st (mkF m 184 #[iv p1, iv p2, iv p3, rv b5, .unset, .unset, .unset, .unset, .unset, .unset] [(.ref b66), (.ref b66)]) (fun t k => XS.dup X84.here hx rfl (hb hby at_183) rfl rfl k) ?_
  refine own_st (mkF m 186 #[iv p1, iv p2, iv p3, rv b5, .unset, .unset, .unset, .unset, .unset, .unset] [(.int (9 : Int32)), (.ref b66), (.ref b66)]) (fun t k => XS.bipush X84.here hx rfl (hb hby at_184) k) ?_
  refine own_st (mkF m 187 #[iv p1, iv p2, iv p3, rv b5, .unset, .unset, .unset, .unset, .unset, .unset] [(.int (0 : Int32)), (.int (9 : Int32)), (.ref b66), (.ref b66)]) (fun t k => XS.iconst X84.here hx rfl (hb hby at_186) k) ?_
  obtain ⟨cl85, Ar85, q85, S85, M85, H85, G85⟩ := id V84
  have hin85 : ¬ ((9 : Int32) < 0 ∨ cl85.slots.size ≤ ((9 : Int32)).toNatClampNeg) := inb_of S85 ⟨by decide, by decide⟩
  obtain ⟨T86, h86, X86, e86, W86, st86⟩ := stI X84 hx hZ e84 Ar85 (j := (9 : Int32)) hin85 (g := (mkF m 187 #[iv p1, iv p2, iv p3, rv b5, .unset, .unset, .unset, .unset, .unset, .unset] [(.int (0 : Int32)), (.int (9 : Int32)), (.ref b66), (.ref b66)])) rfl rfl (hb hby at_187)
  have f11_Arv_b5 : Arv Z h86 b5 k5 (.object "com/example/fencer/fencer/protocol/ApiKey") (20 : Int32) [(.ref w10), (.ref w11), (.ref w12), (.ref w13), (.ref w14), (.ref w15), (.ref w16), (.ref w17), (.ref w18), (.ref w19), (.ref w20), (.ref w21), (.ref w22), (.ref w23), (.ref w24), (.ref w25), (.ref w26), (.ref w27), (.ref w28), (.ref w29)] .null := (f10_Arv_b5.other W86 ne_b5_b66)
  have V86 : Arv Z h86 b66 k66 .int (20 : Int32) [(.int (0 : Int32)), (.int (4 : Int32)), (.int (1 : Int32)), (.int (0 : Int32)), (.int (2 : Int32)), (.int (1 : Int32)), (.int (0 : Int32)), (.int (0 : Int32)), (.int (0 : Int32)), (.int (0 : Int32)), (.int (0 : Int32)), (.int (0 : Int32)), (.int (0 : Int32)), (.int (0 : Int32)), (.int (0 : Int32)), (.int (0 : Int32)), (.int (0 : Int32)), (.int (0 : Int32)), (.int (0 : Int32)), (.int (0 : Int32))] (.int (0 : Int32)) := Arv.set Ar85 q85 S85 M85 H85 G85 rfl W86 9 rfl (Nat.le_of_ble_eq_true rfl)
  have Z86 : n0 ≤ h86.size := Nat.le_trans Z84 (Keep.of_wr W86).1
  have O86 : Old Z n0 h86 := O84.wr W86 g_b66
  have N86 := Fr.snoc X86 N84 g_b66
  refine own_step (g' := (mkF m 188 #[iv p1, iv p2, iv p3, rv b5, .unset, .unset, .unset, .unset, .unset, .unset] [(.ref b66)])) st86 ?_
  refine own_st (mkF m 189 #[iv p1, iv p2, iv p3, rv b5, .unset, .unset, .unset, .unset, .unset, .unset] [(.ref b66), (.ref b66)]) (fun t k => XS.dup X86.here hx rfl (hb hby at_188) rfl rfl k) ?_
  refine own_st (mkF m 191 #[iv p1, iv p2, iv p3, rv b5, .unset, .unset, .unset, .unset, .unset, .unset] [(.int (10 : Int32)), (.ref b66), (.ref b66)]) (fun t k => XS.bipush X86.here hx rfl (hb hby at_189) k) ?_
  refine own_st (mkF m 192 #[iv p1, iv p2, iv p3, rv b5, .unset, .unset, .unset, .unset, .unset, .unset] [(.int (0 : Int32)), (.int (10 : Int32)), (.ref b66), (.ref b66)]) (fun t k => XS.iconst X86.here hx rfl (hb hby at_191) k) ?_
  obtain ⟨cl87, Ar87, q87, S87, M87, H87, G87⟩ := id V86
  have hin87 : ¬ ((10 : Int32) < 0 ∨ cl87.slots.size ≤ ((10 : Int32)).toNatClampNeg) := inb_of S87 ⟨by decide, by decide⟩
  obtain ⟨T88, h88, X88, e88, W88, st88⟩ := stI X86 hx hZ e86 Ar87 (j := (10 : Int32)) hin87 (g := (mkF m 192 #[iv p1, iv p2, iv p3, rv b5, .unset, .unset, .unset, .unset, .unset, .unset] [(.int (0 : Int32)), (.int (10 : Int32)), (.ref b66), (.ref b66)])) rfl rfl (hb hby at_192)
  have f12_Arv_b5 : Arv Z h88 b5 k5 (.object "com/example/fencer/fencer/protocol/ApiKey") (20 : Int32) [(.ref w10), (.ref w11), (.ref w12), (.ref w13), (.ref w14), (.ref w15), (.ref w16), (.ref w17), (.ref w18), (.ref w19), (.ref w20), (.ref w21), (.ref w22), (.ref w23), (.ref w24), (.ref w25), (.ref w26), (.ref w27), (.ref w28), (.ref w29)] .null := (f11_Arv_b5.other W88 ne_b5_b66)
  have V88 : Arv Z h88 b66 k66 .int (20 : Int32) [(.int (0 : Int32)), (.int (4 : Int32)), (.int (1 : Int32)), (.int (0 : Int32)), (.int (2 : Int32)), (.int (1 : Int32)), (.int (0 : Int32)), (.int (0 : Int32)), (.int (0 : Int32)), (.int (0 : Int32)), (.int (0 : Int32)), (.int (0 : Int32)), (.int (0 : Int32)), (.int (0 : Int32)), (.int (0 : Int32)), (.int (0 : Int32)), (.int (0 : Int32)), (.int (0 : Int32)), (.int (0 : Int32)), (.int (0 : Int32))] (.int (0 : Int32)) := Arv.set Ar87 q87 S87 M87 H87 G87 rfl W88 10 rfl (Nat.le_of_ble_eq_true rfl)
  have Z88 : n0 ≤ h88.size := Nat.le_trans Z86 (Keep.of_wr W88).1
  have O88 : Old Z n0 h88 := O86.wr W88 g_b66
  have N88 := Fr.snoc X88 N86 g_b66
  refine own_step (g' := (mkF m 193 #[iv p1, iv p2, iv p3, rv b5, .unset, .unset, .unset, .unset, .unset, .unset] [(.ref b66)])) st88 ?_
  refine own_st (mkF m 194 #[iv p1, iv p2, iv p3, rv b5, .unset, .unset, .unset, .unset, .unset, .unset] [(.ref b66), (.ref b66)]) (fun t k => XS.dup X88.here hx rfl (hb hby at_193) rfl rfl k) ?_
  refine own_st (mkF m 196 #[iv p1, iv p2, iv p3, rv b5, .unset, .unset, .unset, .unset, .unset, .unset] [(.int (11 : Int32)), (.ref b66), (.ref b66)]) (fun t k => XS.bipush X88.here hx rfl (hb hby at_194) k) ?_
  refine own_st (mkF m 197 #[iv p1, iv p2, iv p3, rv b5, .unset, .unset, .unset, .unset, .unset, .unset] [(.int (0 : Int32)), (.int (11 : Int32)), (.ref b66), (.ref b66)]) (fun t k => XS.iconst X88.here hx rfl (hb hby at_196) k) ?_
  obtain ⟨cl89, Ar89, q89, S89, M89, H89, G89⟩ := id V88
  have hin89 : ¬ ((11 : Int32) < 0 ∨ cl89.slots.size ≤ ((11 : Int32)).toNatClampNeg) := inb_of S89 ⟨by decide, by decide⟩
  obtain ⟨T90, h90, X90, e90, W90, st90⟩ := stI X88 hx hZ e88 Ar89 (j := (11 : Int32)) hin89 (g := (mkF m 197 #[iv p1, iv p2, iv p3, rv b5, .unset, .unset, .unset, .unset, .unset, .unset] [(.int (0 : Int32)), (.int (11 : Int32)), (.ref b66), (.ref b66)])) rfl rfl (hb hby at_197)
  have f13_Arv_b5 : Arv Z h90 b5 k5 (.object "com/example/fencer/fencer/protocol/ApiKey") (20 : Int32) [(.ref w10), (.ref w11), (.ref w12), (.ref w13), (.ref w14), (.ref w15), (.ref w16), (.ref w17), (.ref w18), (.ref w19), (.ref w20), (.ref w21), (.ref w22), (.ref w23), (.ref w24), (.ref w25), (.ref w26), (.ref w27), (.ref w28), (.ref w29)] .null := (f12_Arv_b5.other W90 ne_b5_b66)
  have V90 : Arv Z h90 b66 k66 .int (20 : Int32) [(.int (0 : Int32)), (.int (4 : Int32)), (.int (1 : Int32)), (.int (0 : Int32)), (.int (2 : Int32)), (.int (1 : Int32)), (.int (0 : Int32)), (.int (0 : Int32)), (.int (0 : Int32)), (.int (0 : Int32)), (.int (0 : Int32)), (.int (0 : Int32)), (.int (0 : Int32)), (.int (0 : Int32)), (.int (0 : Int32)), (.int (0 : Int32)), (.int (0 : Int32)), (.int (0 : Int32)), (.int (0 : Int32)), (.int (0 : Int32))] (.int (0 : Int32)) := Arv.set Ar89 q89 S89 M89 H89 G89 rfl W90 11 rfl (Nat.le_of_ble_eq_true rfl)
  have Z90 : n0 ≤ h90.size := Nat.le_trans Z88 (Keep.of_wr W90).1
  have O90 : Old Z n0 h90 := O88.wr W90 g_b66
  have N90 := Fr.snoc X90 N88 g_b66
  refine own_step (g' := (mkF m 198 #[iv p1, iv p2, iv p3, rv b5, .unset, .unset, .unset, .unset, .unset, .unset] [(.ref b66)])) st90 ?_
  refine own_st (mkF m 199 #[iv p1, iv p2, iv p3, rv b5, .unset, .unset, .unset, .unset, .unset, .unset] [(.ref b66), (.ref b66)]) (fun t k => XS.dup X90.here hx rfl (hb hby at_198) rfl rfl k) ?_
  refine own_st (mkF m 201 #[iv p1, iv p2, iv p3, rv b5, .unset, .unset, .unset, .unset, .unset, .unset] [(.int (12 : Int32)), (.ref b66), (.ref b66)]) (fun t k => XS.bipush X90.here hx rfl (hb hby at_199) k) ?_
  refine own_st (mkF m 202 #[iv p1, iv p2, iv p3, rv b5, .unset, .unset, .unset, .unset, .unset, .unset] [(.int (0 : Int32)), (.int (12 : Int32)), (.ref b66), (.ref b66)]) (fun t k => XS.iconst X90.here hx rfl (hb hby at_201) k) ?_
  obtain ⟨cl91, Ar91, q91, S91, M91, H91, G91⟩ := id V90
  have hin91 : ¬ ((12 : Int32) < 0 ∨ cl91.slots.size ≤ ((12 : Int32)).toNatClampNeg) := inb_of S91 ⟨by decide, by decide⟩
  obtain ⟨T92, h92, X92, e92, W92, st92⟩ := stI X90 hx hZ e90 Ar91 (j := (12 : Int32)) hin91 (g := (mkF m 202 #[iv p1, iv p2, iv p3, rv b5, .unset, .unset, .unset, .unset, .unset, .unset] [(.int (0 : Int32)), (.int (12 : Int32)), (.ref b66), (.ref b66)])) rfl rfl (hb hby at_202)
  have f14_Arv_b5 : Arv Z h92 b5 k5 (.object "com/example/fencer/fencer/protocol/ApiKey") (20 : Int32) [(.ref w10), (.ref w11), (.ref w12), (.ref w13), (.ref w14), (.ref w15), (.ref w16), (.ref w17), (.ref w18), (.ref w19), (.ref w20), (.ref w21), (.ref w22), (.ref w23), (.ref w24), (.ref w25), (.ref w26), (.ref w27), (.ref w28), (.ref w29)] .null := (f13_Arv_b5.other W92 ne_b5_b66)
  have V92 : Arv Z h92 b66 k66 .int (20 : Int32) [(.int (0 : Int32)), (.int (4 : Int32)), (.int (1 : Int32)), (.int (0 : Int32)), (.int (2 : Int32)), (.int (1 : Int32)), (.int (0 : Int32)), (.int (0 : Int32)), (.int (0 : Int32)), (.int (0 : Int32)), (.int (0 : Int32)), (.int (0 : Int32)), (.int (0 : Int32)), (.int (0 : Int32)), (.int (0 : Int32)), (.int (0 : Int32)), (.int (0 : Int32)), (.int (0 : Int32)), (.int (0 : Int32)), (.int (0 : Int32))] (.int (0 : Int32)) := Arv.set Ar91 q91 S91 M91 H91 G91 rfl W92 12 rfl (Nat.le_of_ble_eq_true rfl)
  have Z92 : n0 ≤ h92.size := Nat.le_trans Z90 (Keep.of_wr W92).1
  have O92 : Old Z n0 h92 := O90.wr W92 g_b66
  have N92 := Fr.snoc X92 N90 g_b66
  refine own_step (g' := (mkF m 203 #[iv p1, iv p2, iv p3, rv b5, .unset, .unset, .unset, .unset, .unset, .unset] [(.ref b66)])) st92 ?_
  refine own_st (mkF m 204 #[iv p1, iv p2, iv p3, rv b5, .unset, .unset, .unset, .unset, .unset, .unset] [(.ref b66), (.ref b66)]) (fun t k => XS.dup X92.here hx rfl (hb hby at_203) rfl rfl k) ?_
  refine own_st (mkF m 206 #[iv p1, iv p2, iv p3, rv b5, .unset, .unset, .unset, .unset, .unset, .unset] [(.int (13 : Int32)), (.ref b66), (.ref b66)]) (fun t k => XS.bipush X92.here hx rfl (hb hby at_204) k) ?_
  refine own_st (mkF m 207 #[iv p1, iv p2, iv p3, rv b5, .unset, .unset, .unset, .unset, .unset, .unset] [(.int (0 : Int32)), (.int (13 : Int32)), (.ref b66), (.ref b66)]) (fun t k => XS.iconst X92.here hx rfl (hb hby at_206) k) ?_
  obtain ⟨cl93, Ar93, q93, S93, M93, H93, G93⟩ := id V92
  have hin93 : ¬ ((13 : Int32) < 0 ∨ cl93.slots.size ≤ ((13 : Int32)).toNatClampNeg) := inb_of S93 ⟨by decide, by decide⟩
  obtain ⟨T94, h94, X94, e94, W94, st94⟩ := stI X92 hx hZ e92 Ar93 (j := (13 : Int32)) hin93 (g := (mkF m 207 #[iv p1, iv p2, iv p3, rv b5, .unset, .unset, .unset, .unset, .unset, .unset] [(.int (0 : Int32)), (.int (13 : Int32)), (.ref b66), (.ref b66)])) rfl rfl (hb hby at_207)
  have f15_Arv_b5 : Arv Z h94 b5 k5 (.object "com/example/fencer/fencer/protocol/ApiKey") (20 : Int32) [(.ref w10), (.ref w11), (.ref w12), (.ref w13), (.ref w14), (.ref w15), (.ref w16), (.ref w17), (.ref w18), (.ref w19), (.ref w20), (.ref w21), (.ref w22), (.ref w23), (.ref w24), (.ref w25), (.ref w26), (.ref w27), (.ref w28), (.ref w29)] .null := (f14_Arv_b5.other W94 ne_b5_b66)
  have V94 : Arv Z h94 b66 k66 .int (20 : Int32) [(.int (0 : Int32)), (.int (4 : Int32)), (.int (1 : Int32)), (.int (0 : Int32)), (.int (2 : Int32)), (.int (1 : Int32)), (.int (0 : Int32)), (.int (0 : Int32)), (.int (0 : Int32)), (.int (0 : Int32)), (.int (0 : Int32)), (.int (0 : Int32)), (.int (0 : Int32)), (.int (0 : Int32)), (.int (0 : Int32)), (.int (0 : Int32)), (.int (0 : Int32)), (.int (0 : Int32)), (.int (0 : Int32)), (.int (0 : Int32))] (.int (0 : Int32)) := Arv.set Ar93 q93 S93 M93 H93 G93 rfl W94 13 rfl (Nat.le_of_ble_eq_true rfl)
  have Z94 : n0 ≤ h94.size := Nat.le_trans Z92 (Keep.of_wr W94).1
  have O94 : Old Z n0 h94 := O92.wr W94 g_b66
  have N94 := Fr.snoc X94 N92 g_b66
  refine own_step (g' := (mkF m 208 #[iv p1, iv p2, iv p3, rv b5, .unset, .unset, .unset, .unset, .unset, .unset] [(.ref b66)])) st94 ?_
  refine own_st (mkF m 209 #[iv p1, iv p2, iv p3, rv b5, .unset, .unset, .unset, .unset, .unset, .unset] [(.ref b66), (.ref b66)]) (fun t k => XS.dup X94.here hx rfl (hb hby at_208) rfl rfl k) ?_
  refine own_st (mkF m 211 #[iv p1, iv p2, iv p3, rv b5, .unset, .unset, .unset, .unset, .unset, .unset] [(.int (14 : Int32)), (.ref b66), (.ref b66)]) (fun t k => XS.bipush X94.here hx rfl (hb hby at_209) k) ?_
  refine own_st (mkF m 212 #[iv p1, iv p2, iv p3, rv b5, .unset, .unset, .unset, .unset, .unset, .unset] [(.int (0 : Int32)), (.int (14 : Int32)), (.ref b66), (.ref b66)]) (fun t k => XS.iconst X94.here hx rfl (hb hby at_211) k) ?_
  obtain ⟨cl95, Ar95, q95, S95, M95, H95, G95⟩ := id V94
  have hin95 : ¬ ((14 : Int32) < 0 ∨ cl95.slots.size ≤ ((14 : Int32)).toNatClampNeg) := inb_of S95 ⟨by decide, by decide⟩
  obtain ⟨T96, h96, X96, e96, W96, st96⟩ := stI X94 hx hZ e94 Ar95 (j := (14 : Int32)) hin95 (g := (mkF m 212 #[iv p1, iv p2, iv p3, rv b5, .unset, .unset, .unset, .unset, .unset, .unset] [(.int (0 : Int32)), (.int (14 : Int32)), (.ref b66), (.ref b66)])) rfl rfl (hb hby at_212)
  have f16_Arv_b5 : Arv Z h96 b5 k5 (.object "com/example/fencer/fencer/protocol/ApiKey") (20 : Int32) [(.ref w10), (.ref w11), (.ref w12), (.ref w13), (.ref w14), (.ref w15), (.ref w16), (.ref w17), (.ref w18), (.ref w19), (.ref w20), (.ref w21), (.ref w22), (.ref w23), (.ref w24), (.ref w25), (.ref w26), (.ref w27), (.ref w28), (.ref w29)] .null := (f15_Arv_b5.other W96 ne_b5_b66)
  have V96 : Arv Z h96 b66 k66 .int (20 : Int32) [(.int (0 : Int32)), (.int (4 : Int32)), (.int (1 : Int32)), (.int (0 : Int32)), (.int (2 : Int32)), (.int (1 : Int32)), (.int (0 : Int32)), (.int (0 : Int32)), (.int (0 : Int32)), (.int (0 : Int32)), (.int (0 : Int32)), (.int (0 : Int32)), (.int (0 : Int32)), (.int (0 : Int32)), (.int (0 : Int32)), (.int (0 : Int32)), (.int (0 : Int32)), (.int (0 : Int32)), (.int (0 : Int32)), (.int (0 : Int32))] (.int (0 : Int32)) := Arv.set Ar95 q95 S95 M95 H95 G95 rfl W96 14 rfl (Nat.le_of_ble_eq_true rfl)
  have Z96 : n0 ≤ h96.size := Nat.le_trans Z94 (Keep.of_wr W96).1
  have O96 : Old Z n0 h96 := O94.wr W96 g_b66
  have N96 := Fr.snoc X96 N94 g_b66
  refine own_step (g' := (mkF m 213 #[iv p1, iv p2, iv p3, rv b5, .unset, .unset, .unset, .unset, .unset, .unset] [(.ref b66)])) st96 ?_
  refine own_st (mkF m 214 #[iv p1, iv p2, iv p3, rv b5, .unset, .unset, .unset, .unset, .unset, .unset] [(.ref b66), (.ref b66)]) (fun t k => XS.dup X96.here hx rfl (hb hby at_213) rfl rfl k) ?_
  refine own_st (mkF m 216 #[iv p1, iv p2, iv p3, rv b5, .unset, .unset, .unset, .unset, .unset, .unset] [(.int (15 : Int32)), (.ref b66), (.ref b66)]) (fun t k => XS.bipush X96.here hx rfl (hb hby at_214) k) ?_
  refine own_st (mkF m 217 #[iv p1, iv p2, iv p3, rv b5, .unset, .unset, .unset, .unset, .unset, .unset] [(.int (0 : Int32)), (.int (15 : Int32)), (.ref b66), (.ref b66)]) (fun t k => XS.iconst X96.here hx rfl (hb hby at_216) k) ?_
  obtain ⟨cl97, Ar97, q97, S97, M97, H97, G97⟩ := id V96
  have hin97 : ¬ ((15 : Int32) < 0 ∨ cl97.slots.size ≤ ((15 : Int32)).toNatClampNeg) := inb_of S97 ⟨by decide, by decide⟩
  obtain ⟨T98, h98, X98, e98, W98, st98⟩ := stI X96 hx hZ e96 Ar97 (j := (15 : Int32)) hin97 (g := (mkF m 217 #[iv p1, iv p2, iv p3, rv b5, .unset, .unset, .unset, .unset, .unset, .unset] [(.int (0 : Int32)), (.int (15 : Int32)), (.ref b66), (.ref b66)])) rfl rfl (hb hby at_217)
  have f17_Arv_b5 : Arv Z h98 b5 k5 (.object "com/example/fencer/fencer/protocol/ApiKey") (20 : Int32) [(.ref w10), (.ref w11), (.ref w12), (.ref w13), (.ref w14), (.ref w15), (.ref w16), (.ref w17), (.ref w18), (.ref w19), (.ref w20), (.ref w21), (.ref w22), (.ref w23), (.ref w24), (.ref w25), (.ref w26), (.ref w27), (.ref w28), (.ref w29)] .null := (f16_Arv_b5.other W98 ne_b5_b66)
  have V98 : Arv Z h98 b66 k66 .int (20 : Int32) [(.int (0 : Int32)), (.int (4 : Int32)), (.int (1 : Int32)), (.int (0 : Int32)), (.int (2 : Int32)), (.int (1 : Int32)), (.int (0 : Int32)), (.int (0 : Int32)), (.int (0 : Int32)), (.int (0 : Int32)), (.int (0 : Int32)), (.int (0 : Int32)), (.int (0 : Int32)), (.int (0 : Int32)), (.int (0 : Int32)), (.int (0 : Int32)), (.int (0 : Int32)), (.int (0 : Int32)), (.int (0 : Int32)), (.int (0 : Int32))] (.int (0 : Int32)) := Arv.set Ar97 q97 S97 M97 H97 G97 rfl W98 15 rfl (Nat.le_of_ble_eq_true rfl)
  have Z98 : n0 ≤ h98.size := Nat.le_trans Z96 (Keep.of_wr W98).1
  have O98 : Old Z n0 h98 := O96.wr W98 g_b66
  have N98 := Fr.snoc X98 N96 g_b66
  refine own_step (g' := (mkF m 218 #[iv p1, iv p2, iv p3, rv b5, .unset, .unset, .unset, .unset, .unset, .unset] [(.ref b66)])) st98 ?_
  refine own_st (mkF m 219 #[iv p1, iv p2, iv p3, rv b5, .unset, .unset, .unset, .unset, .unset, .unset] [(.ref b66), (.ref b66)]) (fun t k => XS.dup X98.here hx rfl (hb hby at_218) rfl rfl k) ?_
  refine own_st (mkF m 221 #[iv p1, iv p2, iv p3, rv b5, .unset, .unset, .unset, .unset, .unset, .unset] [(.int (16 : Int32)), (.ref b66), (.ref b66)]) (fun t k => XS.bipush X98.here hx rfl (hb hby at_219) k) ?_
  refine own_st (mkF m 222 #[iv p1, iv p2, iv p3, rv b5, .unset, .unset, .unset, .unset, .unset, .unset] [(.int (0 : Int32)), (.int (16 : Int32)), (.ref b66), (.ref b66)]) (fun t k => XS.iconst X98.here hx rfl (hb hby at_221) k) ?_
  obtain ⟨cl99, Ar99, q99, S99, M99, H99, G99⟩ := id V98
  have hin99 : ¬ ((16 : Int32) < 0 ∨ cl99.slots.size ≤ ((16 : Int32)).toNatClampNeg) := inb_of S99 ⟨by decide, by decide⟩
  obtain ⟨T100, h100, X100, e100, W100, st100⟩ := stI X98 hx hZ e98 Ar99 (j := (16 : Int32)) hin99 (g := (mkF m 222 #[iv p1, iv p2, iv p3, rv b5, .unset, .unset, .unset, .unset, .unset, .unset] [(.int (0 : Int32)), (.int (16 : Int32)), (.ref b66), (.ref b66)])) rfl rfl (hb hby at_222)
  have f18_Arv_b5 : Arv Z h100 b5 k5 (.object "com/example/fencer/fencer/protocol/ApiKey") (20 : Int32) [(.ref w10), (.ref w11), (.ref w12), (.ref w13), (.ref w14), (.ref w15), (.ref w16), (.ref w17), (.ref w18), (.ref w19), (.ref w20), (.ref w21), (.ref w22), (.ref w23), (.ref w24), (.ref w25), (.ref w26), (.ref w27), (.ref w28), (.ref w29)] .null := (f17_Arv_b5.other W100 ne_b5_b66)
  have V100 : Arv Z h100 b66 k66 .int (20 : Int32) [(.int (0 : Int32)), (.int (4 : Int32)), (.int (1 : Int32)), (.int (0 : Int32)), (.int (2 : Int32)), (.int (1 : Int32)), (.int (0 : Int32)), (.int (0 : Int32)), (.int (0 : Int32)), (.int (0 : Int32)), (.int (0 : Int32)), (.int (0 : Int32)), (.int (0 : Int32)), (.int (0 : Int32)), (.int (0 : Int32)), (.int (0 : Int32)), (.int (0 : Int32)), (.int (0 : Int32)), (.int (0 : Int32)), (.int (0 : Int32))] (.int (0 : Int32)) := Arv.set Ar99 q99 S99 M99 H99 G99 rfl W100 16 rfl (Nat.le_of_ble_eq_true rfl)
  have Z100 : n0 ≤ h100.size := Nat.le_trans Z98 (Keep.of_wr W100).1
  have O100 : Old Z n0 h100 := O98.wr W100 g_b66
  have N100 := Fr.snoc X100 N98 g_b66
  refine own_step (g' := (mkF m 223 #[iv p1, iv p2, iv p3, rv b5, .unset, .unset, .unset, .unset, .unset, .unset] [(.ref b66)])) st100 ?_
  refine own_st (mkF m 224 #[iv p1, iv p2, iv p3, rv b5, .unset, .unset, .unset, .unset, .unset, .unset] [(.ref b66), (.ref b66)]) (fun t k => XS.dup X100.here hx rfl (hb hby at_223) rfl rfl k) ?_
  refine own_st (mkF m 226 #[iv p1, iv p2, iv p3, rv b5, .unset, .unset, .unset, .unset, .unset, .unset] [(.int (17 : Int32)), (.ref b66), (.ref b66)]) (fun t k => XS.bipush X100.here hx rfl (hb hby at_224) k) ?_
  refine own_st (mkF m 227 #[iv p1, iv p2, iv p3, rv b5, .unset, .unset, .unset, .unset, .unset, .unset] [(.int (0 : Int32)), (.int (17 : Int32)), (.ref b66), (.ref b66)]) (fun t k => XS.iconst X100.here hx rfl (hb hby at_226) k) ?_
  obtain ⟨cl101, Ar101, q101, S101, M101, H101, G101⟩ := id V100
  have hin101 : ¬ ((17 : Int32) < 0 ∨ cl101.slots.size ≤ ((17 : Int32)).toNatClampNeg) := inb_of S101 ⟨by decide, by decide⟩
  obtain ⟨T102, h102, X102, e102, W102, st102⟩ := stI X100 hx hZ e100 Ar101 (j := (17 : Int32)) hin101 (g := (mkF m 227 #[iv p1, iv p2, iv p3, rv b5, .unset, .unset, .unset, .unset, .unset, .unset] [(.int (0 : Int32)), (.int (17 : Int32)), (.ref b66), (.ref b66)])) rfl rfl (hb hby at_227)
  have f19_Arv_b5 : Arv Z h102 b5 k5 (.object "com/example/fencer/fencer/protocol/ApiKey") (20 : Int32) [(.ref w10), (.ref w11), (.ref w12), (.ref w13), (.ref w14), (.ref w15), (.ref w16), (.ref w17), (.ref w18), (.ref w19), (.ref w20), (.ref w21), (.ref w22), (.ref w23), (.ref w24), (.ref w25), (.ref w26), (.ref w27), (.ref w28), (.ref w29)] .null := (f18_Arv_b5.other W102 ne_b5_b66)
  have V102 : Arv Z h102 b66 k66 .int (20 : Int32) [(.int (0 : Int32)), (.int (4 : Int32)), (.int (1 : Int32)), (.int (0 : Int32)), (.int (2 : Int32)), (.int (1 : Int32)), (.int (0 : Int32)), (.int (0 : Int32)), (.int (0 : Int32)), (.int (0 : Int32)), (.int (0 : Int32)), (.int (0 : Int32)), (.int (0 : Int32)), (.int (0 : Int32)), (.int (0 : Int32)), (.int (0 : Int32)), (.int (0 : Int32)), (.int (0 : Int32)), (.int (0 : Int32)), (.int (0 : Int32))] (.int (0 : Int32)) := Arv.set Ar101 q101 S101 M101 H101 G101 rfl W102 17 rfl (Nat.le_of_ble_eq_true rfl)
  have Z102 : n0 ≤ h102.size := Nat.le_trans Z100 (Keep.of_wr W102).1
  have O102 : Old Z n0 h102 := O100.wr W102 g_b66
  have N102 := Fr.snoc X102 N100 g_b66
  refine own_step (g' := (mkF m 228 #[iv p1, iv p2, iv p3, rv b5, .unset, .unset, .unset, .unset, .unset, .unset] [(.ref b66)])) st102 ?_
  refine own_st (mkF m 229 #[iv p1, iv p2, iv p3, rv b5, .unset, .unset, .unset, .unset, .unset, .unset] [(.ref b66), (.ref b66)]) (fun t k => XS.dup X102.here hx rfl (hb hby at_228) rfl rfl k) ?_
  refine own_st (mkF m 231 #[iv p1, iv p2, iv p3, rv b5, .unset, .unset, .unset, .unset, .unset, .unset] [(.int (18 : Int32)), (.ref b66), (.ref b66)]) (fun t k => XS.bipush X102.here hx rfl (hb hby at_229) k) ?_
  refine own_st (mkF m 232 #[iv p1, iv p2, iv p3, rv b5, .unset, .unset, .unset, .unset, .unset, .unset] [(.int (0 : Int32)), (.int (18 : Int32)), (.ref b66), (.ref b66)]) (fun t k => XS.iconst X102.here hx rfl (hb hby at_231) k) ?_
  obtain ⟨cl103, Ar103, q103, S103, M103, H103, G103⟩ := id V102
  have hin103 : ¬ ((18 : Int32) < 0 ∨ cl103.slots.size ≤ ((18 : Int32)).toNatClampNeg) := inb_of S103 ⟨by decide, by decide⟩
  obtain ⟨T104, h104, X104, e104, W104, st104⟩ := stI X102 hx hZ e102 Ar103 (j := (18 : Int32)) hin103 (g := (mkF m 232 #[iv p1, iv p2, iv p3, rv b5, .unset, .unset, .unset, .unset, .unset, .unset] [(.int (0 : Int32)), (.int (18 : Int32)), (.ref b66), (.ref b66)])) rfl rfl (hb hby at_232)
  have f20_Arv_b5 : Arv Z h104 b5 k5 (.object "com/example/fencer/fencer/protocol/ApiKey") (20 : Int32) [(.ref w10), (.ref w11), (.ref w12), (.ref w13), (.ref w14), (.ref w15), (.ref w16), (.ref w17), (.ref w18), (.ref w19), (.ref w20), (.ref w21), (.ref w22), (.ref w23), (.ref w24), (.ref w25), (.ref w26), (.ref w27), (.ref w28), (.ref w29)] .null := (f19_Arv_b5.other W104 ne_b5_b66)
  have V104 : Arv Z h104 b66 k66 .int (20 : Int32) [(.int (0 : Int32)), (.int (4 : Int32)), (.int (1 : Int32)), (.int (0 : Int32)), (.int (2 : Int32)), (.int (1 : Int32)), (.int (0 : Int32)), (.int (0 : Int32)), (.int (0 : Int32)), (.int (0 : Int32)), (.int (0 : Int32)), (.int (0 : Int32)), (.int (0 : Int32)), (.int (0 : Int32)), (.int (0 : Int32)), (.int (0 : Int32)), (.int (0 : Int32)), (.int (0 : Int32)), (.int (0 : Int32)), (.int (0 : Int32))] (.int (0 : Int32)) := Arv.set Ar103 q103 S103 M103 H103 G103 rfl W104 18 rfl (Nat.le_of_ble_eq_true rfl)
  have Z104 : n0 ≤ h104.size := Nat.le_trans Z102 (Keep.of_wr W104).1
  have O104 : Old Z n0 h104 := O102.wr W104 g_b66
  have N104 := Fr.snoc X104 N102 g_b66
  refine own_step (g' := (mkF m 233 #[iv p1, iv p2, iv p3, rv b5, .unset, .unset, .unset, .unset, .unset, .unset] [(.ref b66)])) st104 ?_
  refine own_st (mkF m 234 #[iv p1, iv p2, iv p3, rv b5, .unset, .unset, .unset, .unset, .unset, .unset] [(.ref b66), (.ref b66)]) (fun t k => XS.dup X104.here hx rfl (hb hby at_233) rfl rfl k) ?_
  refine own_st (mkF m 236 #[iv p1, iv p2, iv p3, rv b5, .unset, .unset, .unset, .unset, .unset, .unset] [(.int (19 : Int32)), (.ref b66), (.ref b66)]) (fun t k => XS.bipush X104.here hx rfl (hb hby at_234) k) ?_
  refine own_st (mkF m 237 #[iv p1, iv p2, iv p3, rv b5, .unset, .unset, .unset, .unset, .unset, .unset] [(.int (0 : Int32)), (.int (19 : Int32)), (.ref b66), (.ref b66)]) (fun t k => XS.iconst X104.here hx rfl (hb hby at_236) k) ?_
  obtain ⟨cl105, Ar105, q105, S105, M105, H105, G105⟩ := id V104
  have hin105 : ¬ ((19 : Int32) < 0 ∨ cl105.slots.size ≤ ((19 : Int32)).toNatClampNeg) := inb_of S105 ⟨by decide, by decide⟩
  obtain ⟨T106, h106, X106, e106, W106, st106⟩ := stI X104 hx hZ e104 Ar105 (j := (19 : Int32)) hin105 (g := (mkF m 237 #[iv p1, iv p2, iv p3, rv b5, .unset, .unset, .unset, .unset, .unset, .unset] [(.int (0 : Int32)), (.int (19 : Int32)), (.ref b66), (.ref b66)])) rfl rfl (hb hby at_237)
  have f21_Arv_b5 : Arv Z h106 b5 k5 (.object "com/example/fencer/fencer/protocol/ApiKey") (20 : Int32) [(.ref w10), (.ref w11), (.ref w12), (.ref w13), (.ref w14), (.ref w15), (.ref w16), (.ref w17), (.ref w18), (.ref w19), (.ref w20), (.ref w21), (.ref w22), (.ref w23), (.ref w24), (.ref w25), (.ref w26), (.ref w27), (.ref w28), (.ref w29)] .null := (f20_Arv_b5.other W106 ne_b5_b66)
  have V106 : Arv Z h106 b66 k66 .int (20 : Int32) [(.int (0 : Int32)), (.int (4 : Int32)), (.int (1 : Int32)), (.int (0 : Int32)), (.int (2 : Int32)), (.int (1 : Int32)), (.int (0 : Int32)), (.int (0 : Int32)), (.int (0 : Int32)), (.int (0 : Int32)), (.int (0 : Int32)), (.int (0 : Int32)), (.int (0 : Int32)), (.int (0 : Int32)), (.int (0 : Int32)), (.int (0 : Int32)), (.int (0 : Int32)), (.int (0 : Int32)), (.int (0 : Int32)), (.int (0 : Int32))] (.int (0 : Int32)) := Arv.set Ar105 q105 S105 M105 H105 G105 rfl W106 19 rfl (Nat.le_of_ble_eq_true rfl)
  have Z106 : n0 ≤ h106.size := Nat.le_trans Z104 (Keep.of_wr W106).1
  have O106 : Old Z n0 h106 := O104.wr W106 g_b66
  have N106 := Fr.snoc X106 N104 g_b66
  refine own_step (g' := (mkF m 238 #[iv p1, iv p2, iv p3, rv b5, .unset, .unset, .unset, .unset, .unset, .unset] [(.ref b66)])) st106 ?_
  refine own_st (mkF m 240 #[iv p1, iv p2, iv p3, rv b5, rv b66, .unset, .unset, .unset, .unset, .unset] []) (fun t k => XS.astore X106.here hx rfl (hb hby at_238) rfl rfl (l' := #[iv p1, iv p2, iv p3, rv b5, rv b66, .unset, .unset, .unset, .unset, .unset]) rfl k) ?_
  refine own_st (mkF m 242 #[iv p1, iv p2, iv p3, rv b5, rv b66, .unset, .unset, .unset, .unset, .unset] [(.int (20 : Int32))]) (fun t k => XS.bipush X106.here hx rfl (hb hby at_240) k) ?_
  obtain ⟨T107, h107, k107, X107, e107, E107, A107, st107⟩ := newP (aty := .int) X106 hx hZ (hw_44 hw) e106 (g := (mkF m 242 #[iv p1, iv p2, iv p3, rv b5, rv b66, .unset, .unset, .unset, .unset, .unset] [(.int (20 : Int32))])) rfl (hb hby at_242) rfl (by decide) (cap := 20) (by decide) (by decide) (by decide) (by decide)
  obtain ⟨b107, g107⟩ : ∃ z, z = h106.size := ⟨_, rfl⟩
  rw [← g107] at A107 st107
  have E_107 : Ext h106 h107 := E107
  have g_b107 : n0 ≤ b107 := Nat.le_trans Z106 (Nat.le_of_eq g107.symm)
  have ne_b5_b107 : b5 ≠ b107 := Nat.ne_of_lt (Nat.lt_of_lt_of_le f21_Arv_b5.lt (Nat.le_of_eq g107.symm))
  have ne_b66_b107 : b66 ≠ b107 := Nat.ne_of_lt (Nat.lt_of_lt_of_le V106.lt (Nat.le_of_eq g107.symm))
  have Z107 : n0 ≤ h107.size := Nat.le_trans Z106 E107.1
  have O107 : Old Z n0 h107 := O106.ext E107
  have f22_Arv_b5 : Arv Z h107 b5 k5 (.object "com/example/fencer/fencer/protocol/ApiKey") (20 : Int32) [(.ref w10), (.ref w11), (.ref w12), (.ref w13), (.ref w14), (.ref w15), (.ref w16), (.ref w17), (.ref w18), (.ref w19), (.ref w20), (.ref w21), (.ref w22), (.ref w23), (.ref w24), (.ref w25), (.ref w26), (.ref w27), (.ref w28), (.ref w29)] .null := (f21_Arv_b5.ext E107)
  have f23_Arv_b66 : Arv Z h107 b66 k66 .int (20 : Int32) [(.int (0 : Int32)), (.int (4 : Int32)), (.int (1 : Int32)), (.int (0 : Int32)), (.int (2 : Int32)), (.int (1 : Int32)), (.int (0 : Int32)), (.int (0 : Int32)), (.int (0 : Int32)), (.int (0 : Int32)), (.int (0 : Int32)), (.int (0 : Int32)), (.int (0 : Int32)), (.int (0 : Int32)), (.int (0 : Int32)), (.int (0 : Int32)), (.int (0 : Int32)), (.int (0 : Int32)), (.int (0 : Int32)), (.int (0 : Int32))] (.int (0 : Int32)) := (V106.ext E107)
  have V107 : Arv Z h107 b107 k107 .int (20 : Int32) [(.int (0 : Int32)), (.int (0 : Int32)), (.int (0 : Int32)), (.int (0 : Int32)), (.int (0 : Int32)), (.int (0 : Int32)), (.int (0 : Int32)), (.int (0 : Int32)), (.int (0 : Int32)), (.int (0 : Int32)), (.int (0 : Int32)), (.int (0 : Int32)), (.int (0 : Int32)), (.int (0 : Int32)), (.int (0 : Int32)), (.int (0 : Int32)), (.int (0 : Int32)), (.int (0 : Int32)), (.int (0 : Int32)), (.int (0 : Int32))] (.int (0 : Int32)) := (Arv.new A107 (by decide)).pad (pad_rep [] (.int (0 : Int32)) 20)
  refine own_step (g' := (mkF m 244 #[iv p1, iv p2, iv p3, rv b5, rv b66, .unset, .unset, .unset, .unset, .unset] [(.ref b107)])) st107 ?_
  refine own_st (mkF m 245 #[iv p1, iv p2, iv p3, rv b5, rv b66, .unset, .unset, .unset, .unset, .unset] [(.ref b107), (.ref b107)]) (fun t k => XS.dup X107.here hx rfl (hb hby at_244) rfl rfl k) ?_
  refine own_st (mkF m 246 #[iv p1, iv p2, iv p3, rv b5, rv b66, .unset, .unset, .unset, .unset, .unset] [(.int (0 : Int32)), (.ref b107), (.ref b107)]) (fun t k => XS.iconst X107.here hx rfl (hb hby at_245) k) ?_
  refine own_st (mkF m 248 #[iv p1, iv p2, iv p3, rv b5, rv b66, .unset, .unset, .unset, .unset, .unset] [(.int (7 : Int32)), (.int (0 : Int32)), (.ref b107), (.ref b107)]) (fun t k => XS.bipush X107.here hx rfl (hb hby at_246) k) ?_
  obtain ⟨cl108, Ar108, q108, S108, M108, H108, G108⟩ := id V107
  have hin108 : ¬ ((0 : Int32) < 0 ∨ cl108.slots.size ≤ ((0 : Int32)).toNatClampNeg) := inb_of S108 ⟨by decide, by decide⟩
  obtain ⟨T109, h109, X109, e109, W109, st109⟩ := stI X107 hx hZ e107 Ar108 (j := (0 : Int32)) hin108 (g := (mkF m 248 #[iv p1, iv p2, iv p3, rv b5, rv b66, .unset, .unset, .unset, .unset, .unset] [(.int (7 : Int32)), (.int (0 : Int32)), (.ref b107), (.ref b107)])) rfl rfl (hb hby at_248)
  have f24_Arv_b5 : Arv Z h109 b5 k5 (.object "com/example/fencer/fencer/protocol/ApiKey") (20 : Int32) [(.ref w10), (.ref w11), (.ref w12), (.ref w13), (.ref w14), (.ref w15), (.ref w16), (.ref w17), (.ref w18), (.ref w19), (.ref w20), (.ref w21), (.ref w22), (.ref w23), (.ref w24), (.ref w25), (.ref w26), (.ref w27), (.ref w28), (.ref w29)] .null := (f22_Arv_b5.other W109 ne_b5_b107)
  have f25_Arv_b66 : Arv Z h109 b66 k66 .int (20 : Int32) [(.int (0 : Int32)), (.int (4 : Int32)), (.int (1 : Int32)), (.int (0 : Int32)), (.int (2 : Int32)), (.int (1 : Int32)), (.int (0 : Int32)), (.int (0 : Int32)), (.int (0 : Int32)), (.int (0 : Int32)), (.int (0 : Int32)), (.int (0 : Int32)), (.int (0 : Int32)), (.int (0 : Int32)), (.int (0 : Int32)), (.int (0 : Int32)), (.int (0 : Int32)), (.int (0 : Int32)), (.int (0 : Int32)), (.int (0 : Int32))] (.int (0 : Int32)) := (f23_Arv_b66.other W109 ne_b66_b107)
  have V109 : Arv Z h109 b107 k107 .int (20 : Int32) [(.int (7 : Int32)), (.int (0 : Int32)), (.int (0 : Int32)), (.int (0 : Int32)), (.int (0 : Int32)), (.int (0 : Int32)), (.int (0 : Int32)), (.int (0 : Int32)), (.int (0 : Int32)), (.int (0 : Int32)), (.int (0 : Int32)), (.int (0 : Int32)), (.int (0 : Int32)), (.int (0 : Int32)), (.int (0 : Int32)), (.int (0 : Int32)), (.int (0 : Int32)), (.int (0 : Int32)), (.int (0 : Int32)), (.int (0 : Int32))] (.int (0 : Int32)) := Arv.set Ar108 q108 S108 M108 H108 G108 rfl W109 0 rfl (Nat.le_of_ble_eq_true rfl)
  have Z109 : n0 ≤ h109.size := Nat.le_trans Z107 (Keep.of_wr W109).1
  have O109 : Old Z n0 h109 := O107.wr W109 g_b107
  have N109 := Fr.snoc X109 N106 g_b107
  refine own_step (g' := (mkF m 249 #[iv p1, iv p2, iv p3, rv b5, rv b66, .unset, .unset, .unset, .unset, .unset] [(.ref b107)])) st109 ?_
  refine own_st (mkF m 250 #[iv p1, iv p2, iv p3, rv b5, rv b66, .unset, .unset, .unset, .unset, .unset] [(.ref b107), (.ref b107)]) (fun t k => XS.dup X109.here hx rfl (hb hby at_249) rfl rfl k) ?_
  refine own_st (mkF m 251 #[iv p1, iv p2, iv p3, rv b5, rv b66, .unset, .unset, .unset, .unset, .unset] [(.int (1 : Int32)), (.ref b107), (.ref b107)]) (fun t k => XS.iconst X109.here hx rfl (hb hby at_250) k) ?_
  refine own_st (mkF m 253 #[iv p1, iv p2, iv p3, rv b5, rv b66, .unset, .unset, .unset, .unset, .unset] [(.int (11 : Int32)), (.int (1 : Int32)), (.ref b107), (.ref b107)]) (fun t k => XS.bipush X109.here hx rfl (hb hby at_251) k) ?_
  obtain ⟨cl110, Ar110, q110, S110, M110, H110, G110⟩ := id V109
  have hin110 : ¬ ((1 : Int32) < 0 ∨ cl110.slots.size ≤ ((1 : Int32)).toNatClampNeg) := inb_of S110 ⟨by decide, by decide⟩
  obtain ⟨T111, h111, X111, e111, W111, st111⟩ := stI X109 hx hZ e109 Ar110 (j := (1 : Int32)) hin110 (g := (mkF m 253 #[iv p1, iv p2, iv p3, rv b5, rv b66, .unset, .unset, .unset, .unset, .unset] [(.int (11 : Int32)), (.int (1 : Int32)), (.ref b107), (.ref b107)])) rfl rfl (hb hby at_253)
  have f26_Arv_b5 : Arv Z h111 b5 k5 (.object "com/example/fencer/fencer/protocol/ApiKey") (20 : Int32) [(.ref w10), (.ref w11), (.ref w12), (.ref w13), (.ref w14), (.ref w15), (.ref w16), (.ref w17), (.ref w18), (.ref w19), (.ref w20), (.ref w21), (.ref w22), (.ref w23), (.ref w24), (.ref w25), (.ref w26), (.ref w27), (.ref w28), (.ref w29)] .null := (f24_Arv_b5.other W111 ne_b5_b107)
  have f27_Arv_b66 : Arv Z h111 b66 k66 .int (20 : Int32) [(.int (0 : Int32)), (.int (4 : Int32)), (.int (1 : Int32)), (.int (0 : Int32)), (.int (2 : Int32)), (.int (1 : Int32)), (.int (0 : Int32)), (.int (0 : Int32)), (.int (0 : Int32)), (.int (0 : Int32)), (.int (0 : Int32)), (.int (0 : Int32)), (.int (0 : Int32)), (.int (0 : Int32)), (.int (0 : Int32)), (.int (0 : Int32)), (.int (0 : Int32)), (.int (0 : Int32)), (.int (0 : Int32)), (.int (0 : Int32))] (.int (0 : Int32)) := (f25_Arv_b66.other W111 ne_b66_b107)
  have V111 : Arv Z h111 b107 k107 .int (20 : Int32) [(.int (7 : Int32)), (.int (11 : Int32)), (.int (0 : Int32)), (.int (0 : Int32)), (.int (0 : Int32)), (.int (0 : Int32)), (.int (0 : Int32)), (.int (0 : Int32)), (.int (0 : Int32)), (.int (0 : Int32)), (.int (0 : Int32)), (.int (0 : Int32)), (.int (0 : Int32)), (.int (0 : Int32)), (.int (0 : Int32)), (.int (0 : Int32)), (.int (0 : Int32)), (.int (0 : Int32)), (.int (0 : Int32)), (.int (0 : Int32))] (.int (0 : Int32)) := Arv.set Ar110 q110 S110 M110 H110 G110 rfl W111 1 rfl (Nat.le_of_ble_eq_true rfl)
  have Z111 : n0 ≤ h111.size := Nat.le_trans Z109 (Keep.of_wr W111).1
  have O111 : Old Z n0 h111 := O109.wr W111 g_b107
  have N111 := Fr.snoc X111 N109 g_b107
  refine own_step (g' := (mkF m 254 #[iv p1, iv p2, iv p3, rv b5, rv b66, .unset, .unset, .unset, .unset, .unset] [(.ref b107)])) st111 ?_
  refine own_st (mkF m 255 #[iv p1, iv p2, iv p3, rv b5, rv b66, .unset, .unset, .unset, .unset, .unset] [(.ref b107), (.ref b107)]) (fun t k => XS.dup X111.here hx rfl (hb hby at_254) rfl rfl k) ?_
  refine own_st (mkF m 256 #[iv p1, iv p2, iv p3, rv b5, rv b66, .unset, .unset, .unset, .unset, .unset] [(.int (2 : Int32)), (.ref b107), (.ref b107)]) (fun t k => XS.iconst X111.here hx rfl (hb hby at_255) k) ?_
  refine own_st (mkF m 257 #[iv p1, iv p2, iv p3, rv b5, rv b66, .unset, .unset, .unset, .unset, .unset] [(.int (2 : Int32)), (.int (2 : Int32)), (.ref b107), (.ref b107)]) (fun t k => XS.iconst X111.here hx rfl (hb hby at_256) k) ?_
  obtain ⟨cl112, Ar112, q112, S112, M112, H112, G112⟩ := id V111
  have hin112 : ¬ ((2 : Int32) < 0 ∨ cl112.slots.size ≤ ((2 : Int32)).toNatClampNeg) := inb_of S112 ⟨by decide, by decide⟩
  obtain ⟨T113, h113, X113, e113, W113, st113⟩ := stI X111 hx hZ e111 Ar112 (j := (2 : Int32)) hin112 (g := (mkF m 257 #[iv p1, iv p2, iv p3, rv b5, rv b66, .unset, .unset, .unset, .unset, .unset] [(.int (2 : Int32)), (.int (2 : Int32)), (.ref b107), (.ref b107)])) rfl rfl (hb hby at_257)
  have f28_Arv_b5 : Arv Z h113 b5 k5 (.object "com/example/fencer/fencer/protocol/ApiKey") (20 : Int32) [(.ref w10), (.ref w11), (.ref w12), (.ref w13), (.ref w14), (.ref w15), (.ref w16), (.ref w17), (.ref w18), (.ref w19), (.ref w20), (.ref w21), (.ref w22), (.ref w23), (.ref w24), (.ref w25), (.ref w26), (.ref w27), (.ref w28), (.ref w29)] .null := (f26_Arv_b5.other W113 ne_b5_b107)
  have f29_Arv_b66 : Arv Z h113 b66 k66 .int (20 : Int32) [(.int (0 : Int32)), (.int (4 : Int32)), (.int (1 : Int32)), (.int (0 : Int32)), (.int (2 : Int32)), (.int (1 : Int32)), (.int (0 : Int32)), (.int (0 : Int32)), (.int (0 : Int32)), (.int (0 : Int32)), (.int (0 : Int32)), (.int (0 : Int32)), (.int (0 : Int32)), (.int (0 : Int32)), (.int (0 : Int32)), (.int (0 : Int32)), (.int (0 : Int32)), (.int (0 : Int32)), (.int (0 : Int32)), (.int (0 : Int32))] (.int (0 : Int32)) := (f27_Arv_b66.other W113 ne_b66_b107)
  have V113 : Arv Z h113 b107 k107 .int (20 : Int32) [(.int (7 : Int32)), (.int (11 : Int32)), (.int (2 : Int32)), (.int (0 : Int32)), (.int (0 : Int32)), (.int (0 : Int32)), (.int (0 : Int32)), (.int (0 : Int32)), (.int (0 : Int32)), (.int (0 : Int32)), (.int (0 : Int32)), (.int (0 : Int32)), (.int (0 : Int32)), (.int (0 : Int32)), (.int (0 : Int32)), (.int (0 : Int32)), (.int (0 : Int32)), (.int (0 : Int32)), (.int (0 : Int32)), (.int (0 : Int32))] (.int (0 : Int32)) := Arv.set Ar112 q112 S112 M112 H112 G112 rfl W113 2 rfl (Nat.le_of_ble_eq_true rfl)
  have Z113 : n0 ≤ h113.size := Nat.le_trans Z111 (Keep.of_wr W113).1
  have O113 : Old Z n0 h113 := O111.wr W113 g_b107
  have N113 := Fr.snoc X113 N111 g_b107
  refine own_step (g' := (mkF m 258 #[iv p1, iv p2, iv p3, rv b5, rv b66, .unset, .unset, .unset, .unset, .unset] [(.ref b107)])) st113 ?_
  refine own_st (mkF m 259 #[iv p1, iv p2, iv p3, rv b5, rv b66, .unset, .unset, .unset, .unset, .unset] [(.ref b107), (.ref b107)]) (fun t k => XS.dup X113.here hx rfl (hb hby at_258) rfl rfl k) ?_
  refine own_st (mkF m 260 #[iv p1, iv p2, iv p3, rv b5, rv b66, .unset, .unset, .unset, .unset, .unset] [(.int (3 : Int32)), (.ref b107), (.ref b107)]) (fun t k => XS.iconst X113.here hx rfl (hb hby at_259) k) ?_
  refine own_st (mkF m 261 #[iv p1, iv p2, iv p3, rv b5, rv b66, .unset, .unset, .unset, .unset, .unset] [(.int (4 : Int32)), (.int (3 : Int32)), (.ref b107), (.ref b107)]) (fun t k => XS.iconst X113.here hx rfl (hb hby at_260) k) ?_
  obtain ⟨cl114, Ar114, q114, S114, M114, H114, G114⟩ := id V113
  have hin114 : ¬ ((3 : Int32) < 0 ∨ cl114.slots.size ≤ ((3 : Int32)).toNatClampNeg) := inb_of S114 ⟨by decide, by decide⟩
  obtain ⟨T115, h115, X115, e115, W115, st115⟩ := stI X113 hx hZ e113 Ar114 (j := (3 : Int32)) hin114 (g := (mkF m 261 #[iv p1, iv p2, iv p3, rv b5, rv b66, .unset, .unset, .unset, .unset, .unset] [(.int (4 : Int32)), (.int (3 : Int32)), (.ref b107), (.ref b107)])) rfl rfl (hb hby at_261)
  have f30_Arv_b5 : Arv Z h115 b5 k5 (.object "com/example/fencer/fencer/protocol/ApiKey") (20 : Int32) [(.ref w10), (.ref w11), (.ref w12), (.ref w13), (.ref w14), (.ref w15), (.ref w16), (.ref w17), (.ref w18), (.ref w19), (.ref w20), (.ref w21), (.ref w22), (.ref w23), (.ref w24), (.ref w25), (.ref w26), (.ref w27), (.ref w28), (.ref w29)] .null := (f28_Arv_b5.other W115 ne_b5_b107)
  have f31_Arv_b66 : Arv Z h115 b66 k66 .int (20 : Int32) [(.int (0 : Int32)), (.int (4 : Int32)), (.int (1 : Int32)), (.int (0 : Int32)), (.int (2 : Int32)), (.int (1 : Int32)), (.int (0 : Int32)), (.int (0 : Int32)), (.int (0 : Int32)), (.int (0 : Int32)), (.int (0 : Int32)), (.int (0 : Int32)), (.int (0 : Int32)), (.int (0 : Int32)), (.int (0 : Int32)), (.int (0 : Int32)), (.int (0 : Int32)), (.int (0 : Int32)), (.int (0 : Int32)), (.int (0 : Int32))] (.int (0 : Int32)) := (f29_Arv_b66.other W115 ne_b66_b107)
  have V115 : Arv Z h115 b107 k107 .int (20 : Int32) [(.int (7 : Int32)), (.int (11 : Int32)), (.int (2 : Int32)), (.int (4 : Int32)), (.int (0 : Int32)), (.int (0 : Int32)), (.int (0 : Int32)), (.int (0 : Int32)), (.int (0 : Int32)), (.int (0 : Int32)), (.int (0 : Int32)), (.int (0 : Int32)), (.int (0 : Int32)), (.int (0 : Int32)), (.int (0 : Int32)), (.int (0 : Int32)), (.int (0 : Int32)), (.int (0 : Int32)), (.int (0 : Int32)), (.int (0 : Int32))] (.int (0 : Int32)) := Arv.set Ar114 q114 S114 M114 H114 G114 rfl W115 3 rfl (Nat.le_of_ble_eq_true rfl)
  have Z115 : n0 ≤ h115.size := Nat.le_trans Z113 (Keep.of_wr W115).1
  have O115 : Old Z n0 h115 := O113.wr W115 g_b107
  have N115 := Fr.snoc X115 N113 g_b107
  refine own_step (g' := (mkF m 262 #[iv p1, iv p2, iv p3, rv b5, rv b66, .unset, .unset, .unset, .unset, .unset] [(.ref b107)])) st115 ?_
  refine own_st (mkF m 263 #[iv p1, iv p2, iv p3, rv b5, rv b66, .unset, .unset, .unset, .unset, .unset] [(.ref b107), (.ref b107)]) (fun t k => XS.dup X115.here hx rfl (hb hby at_262) rfl rfl k) ?_
  refine own_st (mkF m 264 #[iv p1, iv p2, iv p3, rv b5, rv b66, .unset, .unset, .unset, .unset, .unset] [(.int (4 : Int32)), (.ref b107), (.ref b107)]) (fun t k => XS.iconst X115.here hx rfl (hb hby at_263) k) ?_
  refine own_st (mkF m 266 #[iv p1, iv p2, iv p3, rv b5, rv b66, .unset, .unset, .unset, .unset, .unset] [(.int (7 : Int32)), (.int (4 : Int32)), (.ref b107), (.ref b107)]) (fun t k => XS.bipush X115.here hx rfl (hb hby at_264) k) ?_
  obtain ⟨cl116, Ar116, q116, S116, M116, H116, G116⟩ := id V115
  have hin116 : ¬ ((4 : Int32) < 0 ∨ cl116.slots.size ≤ ((4 : Int32)).toNatClampNeg) := inb_of S116 ⟨by decide, by decide⟩
  obtain ⟨T117, h117, X117, e117, W117, st117⟩ := stI X115 hx hZ e115 Ar116 (j := (4 : Int32)) hin116 (g := (mkF m 266 #[iv p1, iv p2, iv p3, rv b5, rv b66, .unset, .unset, .unset, .unset, .unset] [(.int (7 : Int32)), (.int (4 : Int32)), (.ref b107), (.ref b107)])) rfl rfl (hb hby at_266)
  have f32_Arv_b5 : Arv Z h117 b5 k5 (.object "com/example/fencer/fencer/protocol/ApiKey") (20 : Int32) [(.ref w10), (.ref w11), (.ref w12), (.ref w13), (.ref w14), (.ref w15), (.ref w16), (.ref w17), (.ref w18), (.ref w19), (.ref w20), (.ref w21), (.ref w22), (.ref w23), (.ref w24), (.ref w25), (.ref w26), (.ref w27), (.ref w28), (.ref w29)] .null := (f30_Arv_b5.other W117 ne_b5_b107)
  have f33_Arv_b66 : Arv Z h117 b66 k66 .int (20 : Int32) [(.int (0 : Int32)), (.int (4 : Int32)), (.int (1 : Int32)), (.int (0 : Int32)), (.int (2 : Int32)), (.int (1 : Int32)), (.int (0 : Int32)), (.int (0 : Int32)), (.int (0 : Int32)), (.int (0 : Int32)), (.int (0 : Int32)), (.int (0 : Int32)), (.int (0 : Int32)), (.int (0 : Int32)), (.int (0 : Int32)), (.int (0 : Int32)), (.int (0 : Int32)), (.int (0 : Int32)), (.int (0 : Int32)), (.int (0 : Int32))] (.int (0 : Int32)) := (f31_Arv_b66.other W117 ne_b66_b107)
  have V117 : Arv Z h117 b107 k107 .int (20 : Int32) [(.int (7 : Int32)), (.int (11 : Int32)), (.int (2 : Int32)), (.int (4 : Int32)), (.int (7 : Int32)), (.int (0 : Int32)), (.int (0 : Int32)), (.int (0 : Int32)), (.int (0 : Int32)), (.int (0 : Int32)), (.int (0 : Int32)), (.int (0 : Int32)), (.int (0 : Int32)), (.int (0 : Int32)), (.int (0 : Int32)), (.int (0 : Int32)), (.int (0 : Int32)), (.int (0 : Int32)), (.int (0 : Int32)), (.int (0 : Int32))] (.int (0 : Int32)) := Arv.set Ar116 q116 S116 M116 H116 G116 rfl W117 4 rfl (Nat.le_of_ble_eq_true rfl)
  have Z117 : n0 ≤ h117.size := Nat.le_trans Z115 (Keep.of_wr W117).1
  have O117 : Old Z n0 h117 := O115.wr W117 g_b107
  have N117 := Fr.snoc X117 N115 g_b107
  refine own_step (g' := (mkF m 267 #[iv p1, iv p2, iv p3, rv b5, rv b66, .unset, .unset, .unset, .unset, .unset] [(.ref b107)])) st117 ?_
  refine own_st (mkF m 268 #[iv p1, iv p2, iv p3, rv b5, rv b66, .unset, .unset, .unset, .unset, .unset] [(.ref b107), (.ref b107)]) (fun t k => XS.dup X117.here hx rfl (hb hby at_267) rfl rfl k) ?_
  refine own_st (mkF m 269 #[iv p1, iv p2, iv p3, rv b5, rv b66, .unset, .unset, .unset, .unset, .unset] [(.int (5 : Int32)), (.ref b107), (.ref b107)]) (fun t k => XS.iconst X117.here hx rfl (hb hby at_268) k) ?_
  refine own_st (mkF m 271 #[iv p1, iv p2, iv p3, rv b5, rv b66, .unset, .unset, .unset, .unset, .unset] [(.int (7 : Int32)), (.int (5 : Int32)), (.ref b107), (.ref b107)]) (fun t k => XS.bipush X117.here hx rfl (hb hby at_269) k) ?_
  obtain ⟨cl118, Ar118, q118, S118, M118, H118, G118⟩ := id V117
  have hin118 : ¬ ((5 : Int32) < 0 ∨ cl118.slots.size ≤ ((5 : Int32)).toNatClampNeg) := inb_of S118 ⟨by decide, by decide⟩
  obtain ⟨T119, h119, X119, e119, W119, st119⟩ := stI X117 hx hZ e117 Ar118 (j := (5 : Int32)) hin118 (g := (mkF m 271 #[iv p1, iv p2, iv p3, rv b5, rv b66, .unset, .unset, .unset, .unset, .unset] [(.int (7 : Int32)), (.int (5 : Int32)), (.ref b107), (.ref b107)])) rfl rfl (hb hby at_271)
  have f34_Arv_b5 : Arv Z h119 b5 k5 (.object "com/example/fencer/fencer/protocol/ApiKey") (20 : Int32) [(.ref w10), (.ref w11), (.ref w12), (.ref w13), (.ref w14), (.ref w15), (.ref w16), (.ref w17), (.ref w18), (.ref w19), (.ref w20), (.ref w21), (.ref w22), (.ref w23), (.ref w24), (.ref w25), (.ref w26), (.ref w27), (.ref w28), (.ref w29)] .null := (f32_Arv_b5.other W119 ne_b5_b107)
  have f35_Arv_b66 : Arv Z h119 b66 k66 .int (20 : Int32) [(.int (0 : Int32)), (.int (4 : Int32)), (.int (1 : Int32)), (.int (0 : Int32)), (.int (2 : Int32)), (.int (1 : Int32)), (.int (0 : Int32)), (.int (0 : Int32)), (.int (0 : Int32)), (.int (0 : Int32)), (.int (0 : Int32)), (.int (0 : Int32)), (.int (0 : Int32)), (.int (0 : Int32)), (.int (0 : Int32)), (.int (0 : Int32)), (.int (0 : Int32)), (.int (0 : Int32)), (.int (0 : Int32)), (.int (0 : Int32))] (.int (0 : Int32)) := (f33_Arv_b66.other W119 ne_b66_b107)
  have V119 : Arv Z h119 b107 k107 .int (20 : Int32) [(.int (7 : Int32)), (.int (11 : Int32)), (.int (2 : Int32)), (.int (4 : Int32)), (.int (7 : Int32)), (.int (7 : Int32)), (.int (0 : Int32)), (.int (0 : Int32)), (.int (0 : Int32)), (.int (0 : Int32)), (.int (0 : Int32)), (.int (0 : Int32)), (.int (0 : Int32)), (.int (0 : Int32)), (.int (0 : Int32)), (.int (0 : Int32)), (.int (0 : Int32)), (.int (0 : Int32)), (.int (0 : Int32)), (.int (0 : Int32))] (.int (0 : Int32)) := Arv.set Ar118 q118 S118 M118 H118 G118 rfl W119 5 rfl (Nat.le_of_ble_eq_true rfl)
  have Z119 : n0 ≤ h119.size := Nat.le_trans Z117 (Keep.of_wr W119).1
  have O119 : Old Z n0 h119 := O117.wr W119 g_b107
  have N119 := Fr.snoc X119 N117 g_b107
  refine own_step (g' := (mkF m 272 #[iv p1, iv p2, iv p3, rv b5, rv b66, .unset, .unset, .unset, .unset, .unset] [(.ref b107)])) st119 ?_
  refine own_st (mkF m 273 #[iv p1, iv p2, iv p3, rv b5, rv b66, .unset, .unset, .unset, .unset, .unset] [(.ref b107), (.ref b107)]) (fun t k => XS.dup X119.here hx rfl (hb hby at_272) rfl rfl k) ?_
  refine own_st (mkF m 275 #[iv p1, iv p2, iv p3, rv b5, rv b66, .unset, .unset, .unset, .unset, .unset] [(.int (6 : Int32)), (.ref b107), (.ref b107)]) (fun t k => XS.bipush X119.here hx rfl (hb hby at_273) k) ?_
  refine own_st (mkF m 276 #[iv p1, iv p2, iv p3, rv b5, rv b66, .unset, .unset, .unset, .unset, .unset] [(.int (2 : Int32)), (.int (6 : Int32)), (.ref b107), (.ref b107)]) (fun t k => XS.iconst X119.here hx rfl (hb hby at_275) k) ?_
  obtain ⟨cl120, Ar120, q120, S120, M120, H120, G120⟩ := id V119
  have hin120 : ¬ ((6 : Int32) < 0 ∨ cl120.slots.size ≤ ((6 : Int32)).toNatClampNeg) := inb_of S120 ⟨by decide, by decide⟩
  obtain ⟨T121, h121, X121, e121, W121, st121⟩ := stI X119 hx hZ e119 Ar120 (j := (6 : Int32)) hin120 (g := (mkF m 276 #[iv p1, iv p2, iv p3, rv b5, rv b66, .unset, .unset, .unset, .unset, .unset] [(.int (2 : Int32)), (.int (6 : Int32)), (.ref b107), (.ref b107)])) rfl rfl (hb hby at_276)
  have f36_Arv_b5 : Arv Z h121 b5 k5 (.object "com/example/fencer/fencer/protocol/ApiKey") (20 : Int32) [(.ref w10), (.ref w11), (.ref w12), (.ref w13), (.ref w14), (.ref w15), (.ref w16), (.ref w17), (.ref w18), (.ref w19), (.ref w20), (.ref w21), (.ref w22), (.ref w23), (.ref w24), (.ref w25), (.ref w26), (.ref w27), (.ref w28), (.ref w29)] .null := (f34_Arv_b5.other W121 ne_b5_b107)
  have f37_Arv_b66 : Arv Z h121 b66 k66 .int (20 : Int32) [(.int (0 : Int32)), (.int (4 : Int32)), (.int (1 : Int32)), (.int (0 : Int32)), (.int (2 : Int32)), (.int (1 : Int32)), (.int (0 : Int32)), (.int (0 : Int32)), (.int (0 : Int32)), (.int (0 : Int32)), (.int (0 : Int32)), (.int (0 : Int32)), (.int (0 : Int32)), (.int (0 : Int32)), (.int (0 : Int32)), (.int (0 : Int32)), (.int (0 : Int32)), (.int (0 : Int32)), (.int (0 : Int32)), (.int (0 : Int32))] (.int (0 : Int32)) := (f35_Arv_b66.other W121 ne_b66_b107)
  have V121 : Arv Z h121 b107 k107 .int (20 : Int32) [(.int (7 : Int32)), (.int (11 : Int32)), (.int (2 : Int32)), (.int (4 : Int32)), (.int (7 : Int32)), (.int (7 : Int32)), (.int (2 : Int32)), (.int (0 : Int32)), (.int (0 : Int32)), (.int (0 : Int32)), (.int (0 : Int32)), (.int (0 : Int32)), (.int (0 : Int32)), (.int (0 : Int32)), (.int (0 : Int32)), (.int (0 : Int32)), (.int (0 : Int32)), (.int (0 : Int32)), (.int (0 : Int32)), (.int (0 : Int32))] (.int (0 : Int32)) := Arv.set Ar120 q120 S120 M120 H120 G120 rfl W121 6 rfl (Nat.le_of_ble_eq_true rfl)
  have Z121 : n0 ≤ h121.size := Nat.le_trans Z119 (Keep.of_wr W121).1
  have O121 : Old Z n0 h121 := O119.wr W121 g_b107
  have N121 := Fr.snoc X121 N119 g_b107
  refine own_step (g' := (mkF m 277 #[iv p1, iv p2, iv p3, rv b5, rv b66, .unset, .unset, .unset, .unset, .unset] [(.ref b107)])) st121 ?_
  refine own_st (mkF m 278 #[iv p1, iv p2, iv p3, rv b5, rv b66, .unset, .unset, .unset, .unset, .unset] [(.ref b107), (.ref b107)]) (fun t k => XS.dup X121.here hx rfl (hb hby at_277) rfl rfl k) ?_
  refine own_st (mkF m 280 #[iv p1, iv p2, iv p3, rv b5, rv b66, .unset, .unset, .unset, .unset, .unset] [(.int (7 : Int32)), (.ref b107), (.ref b107)]) (fun t k => XS.bipush X121.here hx rfl (hb hby at_278) k) ?_
  refine own_st (mkF m 281 #[iv p1, iv p2, iv p3, rv b5, rv b66, .unset, .unset, .unset, .unset, .unset] [(.int (5 : Int32)), (.int (7 : Int32)), (.ref b107), (.ref b107)]) (fun t k => XS.iconst X121.here hx rfl (hb hby at_280) k) ?_
  obtain ⟨cl122, Ar122, q122, S122, M122, H122, G122⟩ := id V121
  have hin122 : ¬ ((7 : Int32) < 0 ∨ cl122.slots.size ≤ ((7 : Int32)).toNatClampNeg) := inb_of S122 ⟨by decide, by decide⟩
  obtain ⟨T123, h123, X123, e123, W123, st123⟩ := stI X121 hx hZ e121 Ar122 (j := (7 : Int32)) hin122 (g := (mkF m 281 #[iv p1, iv p2, iv p3, rv b5, rv b66, .unset, .unset, .unset, .unset, .unset] [(.int (5 : Int32)), (.int (7 : Int32)), (.ref b107), (.ref b107)])) rfl rfl (hb hby at_281)
  have f38_Arv_b5 : Arv Z h123 b5 k5 (.object "com/example/fencer/fencer/protocol/ApiKey") (20 : Int32) [(.ref w10), (.ref w11), (.ref w12), (.ref w13), (.ref w14), (.ref w15), (.ref w16), (.ref w17), (.ref w18), (.ref w19), (.ref w20), (.ref w21), (.ref w22), (.ref w23), (.ref w24), (.ref w25), (.ref w26), (.ref w27), (.ref w28), (.ref w29)] .null := (f36_Arv_b5.other W123 ne_b5_b107)
  have f39_Arv_b66 : Arv Z h123 b66 k66 .int (20 : Int32) [(.int (0 : Int32)), (.int (4 : Int32)), (.int (1 : Int32)), (.int (0 : Int32)), (.int (2 : Int32)), (.int (1 : Int32)), (.int (0 : Int32)), (.int (0 : Int32)), (.int (0 : Int32)), (.int (0 : Int32)), (.int (0 : Int32)), (.int (0 : Int32)), (.int (0 : Int32)), (.int (0 : Int32)), (.int (0 : Int32)), (.int (0 : Int32)), (.int (0 : Int32)), (.int (0 : Int32)), (.int (0 : Int32)), (.int (0 : Int32))] (.int (0 : Int32)) := (f37_Arv_b66.other W123 ne_b66_b107)
  have V123 : Arv Z h123 b107 k107 .int (20 : Int32) [(.int (7 : Int32)), (.int (11 : Int32)), (.int (2 : Int32)), (.int (4 : Int32)), (.int (7 : Int32)), (.int (7 : Int32)), (.int (2 : Int32)), (.int (5 : Int32)), (.int (0 : Int32)), (.int (0 : Int32)), (.int (0 : Int32)), (.int (0 : Int32)), (.int (0 : Int32)), (.int (0 : Int32)), (.int (0 : Int32)), (.int (0 : Int32)), (.int (0 : Int32)), (.int (0 : Int32)), (.int (0 : Int32)), (.int (0 : Int32))] (.int (0 : Int32)) := Arv.set Ar122 q122 S122 M122 H122 G122 rfl W123 7 rfl (Nat.le_of_ble_eq_true rfl)
  have Z123 : n0 ≤ h123.size := Nat.le_trans Z121 (Keep.of_wr W123).1
  have O123 : Old Z n0 h123 := O121.wr W123 g_b107
  have N123 := Fr.snoc X123 N121 g_b107
  refine own_step (g' := (mkF m 282 #[iv p1, iv p2, iv p3, rv b5, rv b66, .unset, .unset, .unset, .unset, .unset] [(.ref b107)])) st123 ?_
  refine own_st (mkF m 283 #[iv p1, iv p2, iv p3, rv b5, rv b66, .unset, .unset, .unset, .unset, .unset] [(.ref b107), (.ref b107)]) (fun t k => XS.dup X123.here hx rfl (hb hby at_282) rfl rfl k) ?_
  refine own_st (mkF m 285 #[iv p1, iv p2, iv p3, rv b5, rv b66, .unset, .unset, .unset, .unset, .unset] [(.int (8 : Int32)), (.ref b107), (.ref b107)]) (fun t k => XS.bipush X123.here hx rfl (hb hby at_283) k) ?_
  refine own_st (mkF m 286 #[iv p1, iv p2, iv p3, rv b5, rv b66, .unset, .unset, .unset, .unset, .unset] [(.int (3 : Int32)), (.int (8 : Int32)), (.ref b107), (.ref b107)]) (fun t k => XS.iconst X123.here hx rfl (hb hby at_285) k) ?_
  obtain ⟨cl124, Ar124, q124, S124, M124, H124, G124⟩ := id V123
  have hin124 : ¬ ((8 : Int32) < 0 ∨ cl124.slots.size ≤ ((8 : Int32)).toNatClampNeg) := inb_of S124 ⟨by decide, by decide⟩
  obtain ⟨T125, h125, X125, e125, W125, st125⟩ := stI X123 hx hZ e123 Ar124 (j := (8 : Int32)) hin124 (g := (mkF m 286 #[iv p1, iv p2, iv p3, rv b5, rv b66, .unset, .unset, .unset, .unset, .unset] [(.int (3 : Int32)), (.int (8 : Int32)), (.ref b107), (.ref b107)])) rfl rfl (hb hby at_286)
  have f40_Arv_b5 : Arv Z h125 b5 k5 (.object "com/example/fencer/fencer/protocol/ApiKey") (20 : Int32) [(.ref w10), (.ref w11), (.ref w12), (.ref w13), (.ref w14), (.ref w15), (.ref w16), (.ref w17), (.ref w18), (.ref w19), (.ref w20), (.ref w21), (.ref w22), (.ref w23), (.ref w24), (.ref w25), (.ref w26), (.ref w27), (.ref w28), (.ref w29)] .null := (f38_Arv_b5.other W125 ne_b5_b107)
  have f41_Arv_b66 : Arv Z h125 b66 k66 .int (20 : Int32) [(.int (0 : Int32)), (.int (4 : Int32)), (.int (1 : Int32)), (.int (0 : Int32)), (.int (2 : Int32)), (.int (1 : Int32)), (.int (0 : Int32)), (.int (0 : Int32)), (.int (0 : Int32)), (.int (0 : Int32)), (.int (0 : Int32)), (.int (0 : Int32)), (.int (0 : Int32)), (.int (0 : Int32)), (.int (0 : Int32)), (.int (0 : Int32)), (.int (0 : Int32)), (.int (0 : Int32)), (.int (0 : Int32)), (.int (0 : Int32))] (.int (0 : Int32)) := (f39_Arv_b66.other W125 ne_b66_b107)
  have V125 : Arv Z h125 b107 k107 .int (20 : Int32) [(.int (7 : Int32)), (.int (11 : Int32)), (.int (2 : Int32)), (.int (4 : Int32)), (.int (7 : Int32)), (.int (7 : Int32)), (.int (2 : Int32)), (.int (5 : Int32)), (.int (3 : Int32)), (.int (0 : Int32)), (.int (0 : Int32)), (.int (0 : Int32)), (.int (0 : Int32)), (.int (0 : Int32)), (.int (0 : Int32)), (.int (0 : Int32)), (.int (0 : Int32)), (.int (0 : Int32)), (.int (0 : Int32)), (.int (0 : Int32))] (.int (0 : Int32)) := Arv.set Ar124 q124 S124 M124 H124 G124 rfl W125 8 rfl (Nat.le_of_ble_eq_true rfl)
  have Z125 : n0 ≤ h125.size := Nat.le_trans Z123 (Keep.of_wr W125).1
  have O125 : Old Z n0 h125 := O123.wr W125 g_b107
  have N125 := Fr.snoc X125 N123 g_b107
  refine own_step (g' := (mkF m 287 #[iv p1, iv p2, iv p3, rv b5, rv b66, .unset, .unset, .unset, .unset, .unset] [(.ref b107)])) st125 ?_
  refine own_st (mkF m 288 #[iv p1, iv p2, iv p3, rv b5, rv b66, .unset, .unset, .unset, .unset, .unset] [(.ref b107), (.ref b107)]) (fun t k => XS.dup X125.here hx rfl (hb hby at_287) rfl rfl k) ?_
  refine own_st (mkF m 290 #[iv p1, iv p2, iv p3, rv b5, rv b66, .unset, .unset, .unset, .unset, .unset] [(.int (9 : Int32)), (.ref b107), (.ref b107)]) (fun t k => XS.bipush X125.here hx rfl (hb hby at_288) k) ?_
  refine own_st (mkF m 291 #[iv p1, iv p2, iv p3, rv b5, rv b66, .unset, .unset, .unset, .unset, .unset] [(.int (3 : Int32)), (.int (9 : Int32)), (.ref b107), (.ref b107)]) (fun t k => XS.iconst X125.here hx rfl (hb hby at_290) k) ?_
  obtain ⟨cl126, Ar126, q126, S126, M126, H126, G126⟩ := id V125
  have hin126 : ¬ ((9 : Int32) < 0 ∨ cl126.slots.size ≤ ((9 : Int32)).toNatClampNeg) := inb_of S126 ⟨by decide, by decide⟩
  obtain ⟨T127, h127, X127, e127, W127, st127⟩ := stI X125 hx hZ e125 Ar126 (j := (9 : Int32)) hin126 (g := (mkF m 291 #[iv p1, iv p2, iv p3, rv b5, rv b66, .unset, .unset, .unset, .unset, .unset] [(.int (3 : Int32)), (.int (9 : Int32)), (.ref b107), (.ref b107)])) rfl rfl (hb hby at_291)
  have f42_Arv_b5 : Arv Z h127 b5 k5 (.object "com/example/fencer/fencer/protocol/ApiKey") (20 : Int32) [(.ref w10), (.ref w11), (.ref w12), (.ref w13), (.ref w14), (.ref w15), (.ref w16), (.ref w17), (.ref w18), (.ref w19), (.ref w20), (.ref w21), (.ref w22), (.ref w23), (.ref w24), (.ref w25), (.ref w26), (.ref w27), (.ref w28), (.ref w29)] .null := (f40_Arv_b5.other W127 ne_b5_b107)
  have f43_Arv_b66 : Arv Z h127 b66 k66 .int (20 : Int32) [(.int (0 : Int32)), (.int (4 : Int32)), (.int (1 : Int32)), (.int (0 : Int32)), (.int (2 : Int32)), (.int (1 : Int32)), (.int (0 : Int32)), (.int (0 : Int32)), (.int (0 : Int32)), (.int (0 : Int32)), (.int (0 : Int32)), (.int (0 : Int32)), (.int (0 : Int32)), (.int (0 : Int32)), (.int (0 : Int32)), (.int (0 : Int32)), (.int (0 : Int32)), (.int (0 : Int32)), (.int (0 : Int32)), (.int (0 : Int32))] (.int (0 : Int32)) := (f41_Arv_b66.other W127 ne_b66_b107)
  have V127 : Arv Z h127 b107 k107 .int (20 : Int32) [(.int (7 : Int32)), (.int (11 : Int32)), (.int (2 : Int32)), (.int (4 : Int32)), (.int (7 : Int32)), (.int (7 : Int32)), (.int (2 : Int32)), (.int (5 : Int32)), (.int (3 : Int32)), (.int (3 : Int32)), (.int (0 : Int32)), (.int (0 : Int32)), (.int (0 : Int32)), (.int (0 : Int32)), (.int (0 : Int32)), (.int (0 : Int32)), (.int (0 : Int32)), (.int (0 : Int32)), (.int (0 : Int32)), (.int (0 : Int32))] (.int (0 : Int32)) := Arv.set Ar126 q126 S126 M126 H126 G126 rfl W127 9 rfl (Nat.le_of_ble_eq_true rfl)
  have Z127 : n0 ≤ h127.size := Nat.le_trans Z125 (Keep.of_wr W127).1
  have O127 : Old Z n0 h127 := O125.wr W127 g_b107
  have N127 := Fr.snoc X127 N125 g_b107
  refine own_step (g' := (mkF m 292 #[iv p1, iv p2, iv p3, rv b5, rv b66, .unset, .unset, .unset, .unset, .unset] [(.ref b107)])) st127 ?_
  refine own_st (mkF m 293 #[iv p1, iv p2, iv p3, rv b5, rv b66, .unset, .unset, .unset, .unset, .unset] [(.ref b107), (.ref b107)]) (fun t k => XS.dup X127.here hx rfl (hb hby at_292) rfl rfl k) ?_
  refine own_st (mkF m 295 #[iv p1, iv p2, iv p3, rv b5, rv b66, .unset, .unset, .unset, .unset, .unset] [(.int (10 : Int32)), (.ref b107), (.ref b107)]) (fun t k => XS.bipush X127.here hx rfl (hb hby at_293) k) ?_
  refine own_st (mkF m 296 #[iv p1, iv p2, iv p3, rv b5, rv b66, .unset, .unset, .unset, .unset, .unset] [(.int (3 : Int32)), (.int (10 : Int32)), (.ref b107), (.ref b107)]) (fun t k => XS.iconst X127.here hx rfl (hb hby at_295) k) ?_
  obtain ⟨cl128, Ar128, q128, S128, M128, H128, G128⟩ := id V127
  have hin128 : ¬ ((10 : Int32) < 0 ∨ cl128.slots.size ≤ ((10 : Int32)).toNatClampNeg) := inb_of S128 ⟨by decide, by decide⟩
  obtain ⟨T129, h129, X129, e129, W129, st129⟩ := stI X127 hx hZ e127 Ar128 (j := (10 : Int32)) hin128 (g := (mkF m 296 #[iv p1, iv p2, iv p3, rv b5, rv b66, .unset, .unset, .unset, .unset, .unset] [(.int (3 : Int32)), (.int (10 : Int32)), (.ref b107), (.ref b107)])) rfl rfl (hb hby at_296)
  have f44_Arv_b5 : Arv Z h129 b5 k5 (.object "com/example/fencer/fencer/protocol/ApiKey") (20 : Int32) [(.ref w10), (.ref w11), (.ref w12), (.ref w13), (.ref w14), (.ref w15), (.ref w16), (.ref w17), (.ref w18), (.ref w19), (.ref w20), (.ref w21), (.ref w22), (.ref w23), (.ref w24), (.ref w25), (.ref w26), (.ref w27), (.ref w28), (.ref w29)] .null := (f42_Arv_b5.other W129 ne_b5_b107)
  have f45_Arv_b66 : Arv Z h129 b66 k66 .int (20 : Int32) [(.int (0 : Int32)), (.int (4 : Int32)), (.int (1 : Int32)), (.int (0 : Int32)), (.int (2 : Int32)), (.int (1 : Int32)), (.int (0 : Int32)), (.int (0 : Int32)), (.int (0 : Int32)), (.int (0 : Int32)), (.int (0 : Int32)), (.int (0 : Int32)), (.int (0 : Int32)), (.int (0 : Int32)), (.int (0 : Int32)), (.int (0 : Int32)), (.int (0 : Int32)), (.int (0 : Int32)), (.int (0 : Int32)), (.int (0 : Int32))] (.int (0 : Int32)) := (f43_Arv_b66.other W129 ne_b66_b107)
  have V129 : Arv Z h129 b107 k107 .int (20 : Int32) [(.int (7 : Int32)), (.int (11 : Int32)), (.int (2 : Int32)), (.int (4 : Int32)), (.int (7 : Int32)), (.int (7 : Int32)), (.int (2 : Int32)), (.int (5 : Int32)), (.int (3 : Int32)), (.int (3 : Int32)), (.int (3 : Int32)), (.int (0 : Int32)), (.int (0 : Int32)), (.int (0 : Int32)), (.int (0 : Int32)), (.int (0 : Int32)), (.int (0 : Int32)), (.int (0 : Int32)), (.int (0 : Int32)), (.int (0 : Int32))] (.int (0 : Int32)) := Arv.set Ar128 q128 S128 M128 H128 G128 rfl W129 10 rfl (Nat.le_of_ble_eq_true rfl)
  have Z129 : n0 ≤ h129.size := Nat.le_trans Z127 (Keep.of_wr W129).1
  have O129 : Old Z n0 h129 := O127.wr W129 g_b107
  have N129 := Fr.snoc X129 N127 g_b107
  refine own_step (g' := (mkF m 297 #[iv p1, iv p2, iv p3, rv b5, rv b66, .unset, .unset, .unset, .unset, .unset] [(.ref b107)])) st129 ?_
  refine own_st (mkF m 298 #[iv p1, iv p2, iv p3, rv b5, rv b66, .unset, .unset, .unset, .unset, .unset] [(.ref b107), (.ref b107)]) (fun t k => XS.dup X129.here hx rfl (hb hby at_297) rfl rfl k) ?_
  refine own_st (mkF m 300 #[iv p1, iv p2, iv p3, rv b5, rv b66, .unset, .unset, .unset, .unset, .unset] [(.int (11 : Int32)), (.ref b107), (.ref b107)]) (fun t k => XS.bipush X129.here hx rfl (hb hby at_298) k) ?_
  refine own_st (mkF m 301 #[iv p1, iv p2, iv p3, rv b5, rv b66, .unset, .unset, .unset, .unset, .unset] [(.int (3 : Int32)), (.int (11 : Int32)), (.ref b107), (.ref b107)]) (fun t k => XS.iconst X129.here hx rfl (hb hby at_300) k) ?_
  obtain ⟨cl130, Ar130, q130, S130, M130, H130, G130⟩ := id V129
  have hin130 : ¬ ((11 : Int32) < 0 ∨ cl130.slots.size ≤ ((11 : Int32)).toNatClampNeg) := inb_of S130 ⟨by decide, by decide⟩
  obtain ⟨T131, h131, X131, e131, W131, st131⟩ := stI X129 hx hZ e129 Ar130 (j := (11 : Int32)) hin130 (g := (mkF m 301 #[iv p1, iv p2, iv p3, rv b5, rv b66, .unset, .unset, .unset, .unset, .unset] [(.int (3 : Int32)), (.int (11 : Int32)), (.ref b107), (.ref b107)])) rfl rfl (hb hby at_301)
  have f46_Arv_b5 : Arv Z h131 b5 k5 (.object "com/example/fencer/fencer/protocol/ApiKey") (20 : Int32) [(.ref w10), (.ref w11), (.ref w12), (.ref w13), (.ref w14), (.ref w15), (.ref w16), (.ref w17), (.ref w18), (.ref w19), (.ref w20), (.ref w21), (.ref w22), (.ref w23), (.ref w24), (.ref w25), (.ref w26), (.ref w27), (.ref w28), (.ref w29)] .null := (f44_Arv_b5.other W131 ne_b5_b107)
  have f47_Arv_b66 : Arv Z h131 b66 k66 .int (20 : Int32) [(.int (0 : Int32)), (.int (4 : Int32)), (.int (1 : Int32)), (.int (0 : Int32)), (.int (2 : Int32)), (.int (1 : Int32)), (.int (0 : Int32)), (.int (0 : Int32)), (.int (0 : Int32)), (.int (0 : Int32)), (.int (0 : Int32)), (.int (0 : Int32)), (.int (0 : Int32)), (.int (0 : Int32)), (.int (0 : Int32)), (.int (0 : Int32)), (.int (0 : Int32)), (.int (0 : Int32)), (.int (0 : Int32)), (.int (0 : Int32))] (.int (0 : Int32)) := (f45_Arv_b66.other W131 ne_b66_b107)
  have V131 : Arv Z h131 b107 k107 .int (20 : Int32) [(.int (7 : Int32)), (.int (11 : Int32)), (.int (2 : Int32)), (.int (4 : Int32)), (.int (7 : Int32)), (.int (7 : Int32)), (.int (2 : Int32)), (.int (5 : Int32)), (.int (3 : Int32)), (.int (3 : Int32)), (.int (3 : Int32)), (.int (3 : Int32)), (.int (0 : Int32)), (.int (0 : Int32)), (.int (0 : Int32)), (.int (0 : Int32)), (.int (0 : Int32)), (.int (0 : Int32)), (.int (0 : Int32)), (.int (0 : Int32))] (.int (0 : Int32)) := Arv.set Ar130 q130 S130 M130 H130 G130 rfl W131 11 rfl (Nat.le_of_ble_eq_true rfl)
  have Z131 : n0 ≤ h131.size := Nat.le_trans Z129 (Keep.of_wr W131).1
  have O131 : Old Z n0 h131 := O129.wr W131 g_b107
  have N131 := Fr.snoc X131 N129 g_b107
  refine own_step (g' := (mkF m 302 #[iv p1, iv p2, iv p3, rv b5, rv b66, .unset, .unset, .unset, .unset, .unset] [(.ref b107)])) st131 ?_
  refine own_st (mkF m 303 #[iv p1, iv p2, iv p3, rv b5, rv b66, .unset, .unset, .unset, .unset, .unset] [(.ref b107), (.ref b107)]) (fun t k => XS.dup X131.here hx rfl (hb hby at_302) rfl rfl k) ?_
  refine own_st (mkF m 305 #[iv p1, iv p2, iv p3, rv b5, rv b66, .unset, .unset, .unset, .unset, .unset] [(.int (12 : Int32)), (.ref b107), (.ref b107)]) (fun t k => XS.bipush X131.here hx rfl (hb hby at_303) k) ?_
  refine own_st (mkF m 306 #[iv p1, iv p2, iv p3, rv b5, rv b66, .unset, .unset, .unset, .unset, .unset] [(.int (4 : Int32)), (.int (12 : Int32)), (.ref b107), (.ref b107)]) (fun t k => XS.iconst X131.here hx rfl (hb hby at_305) k) ?_
  obtain ⟨cl132, Ar132, q132, S132, M132, H132, G132⟩ := id V131
  have hin132 : ¬ ((12 : Int32) < 0 ∨ cl132.slots.size ≤ ((12 : Int32)).toNatClampNeg) := inb_of S132 ⟨by decide, by decide⟩
  obtain ⟨T133, h133, X133, e133, W133, st133⟩ := stI X131 hx hZ e131 Ar132 (j := (12 : Int32)) hin132 (g := (mkF m 306 #[iv p1, iv p2, iv p3, rv b5, rv b66, .unset, .unset, .unset, .unset, .unset] [(.int (4 : Int32)), (.int (12 : Int32)), (.ref b107), (.ref b107)])) rfl rfl (hb hby at_306)
  have f48_Arv_b5 : Arv Z h133 b5 k5 (.object "com/example/fencer/fencer/protocol/ApiKey") (20 : Int32) [(.ref w10), (.ref w11), (.ref w12), (.ref w13), (.ref w14), (.ref w15), (.ref w16), (.ref w17), (.ref w18), (.ref w19), (.ref w20), (.ref w21), (.ref w22), (.ref w23), (.ref w24), (.ref w25), (.ref w26), (.ref w27), (.ref w28), (.ref w29)] .null := (f46_Arv_b5.other W133 ne_b5_b107)
  have f49_Arv_b66 : Arv Z h133 b66 k66 .int (20 : Int32) [(.int (0 : Int32)), (.int (4 : Int32)), (.int (1 : Int32)), (.int (0 : Int32)), (.int (2 : Int32)), (.int (1 : Int32)), (.int (0 : Int32)), (.int (0 : Int32)), (.int (0 : Int32)), (.int (0 : Int32)), (.int (0 : Int32)), (.int (0 : Int32)), (.int (0 : Int32)), (.int (0 : Int32)), (.int (0 : Int32)), (.int (0 : Int32)), (.int (0 : Int32)), (.int (0 : Int32)), (.int (0 : Int32)), (.int (0 : Int32))] (.int (0 : Int32)) := (f47_Arv_b66.other W133 ne_b66_b107)
  have V133 : Arv Z h133 b107 k107 .int (20 : Int32) [(.int (7 : Int32)), (.int (11 : Int32)), (.int (2 : Int32)), (.int (4 : Int32)), (.int (7 : Int32)), (.int (7 : Int32)), (.int (2 : Int32)), (.int (5 : Int32)), (.int (3 : Int32)), (.int (3 : Int32)), (.int (3 : Int32)), (.int (3 : Int32)), (.int (4 : Int32)), (.int (0 : Int32)), (.int (0 : Int32)), (.int (0 : Int32)), (.int (0 : Int32)), (.int (0 : Int32)), (.int (0 : Int32)), (.int (0 : Int32))] (.int (0 : Int32)) := Arv.set Ar132 q132 S132 M132 H132 G132 rfl W133 12 rfl (Nat.le_of_ble_eq_true rfl)
  have Z133 : n0 ≤ h133.size := Nat.le_trans Z131 (Keep.of_wr W133).1
  have O133 : Old Z n0 h133 := O131.wr W133 g_b107
  have N133 := Fr.snoc X133 N131 g_b107
  refine own_step (g' := (mkF m 307 #[iv p1, iv p2, iv p3, rv b5, rv b66, .unset, .unset, .unset, .unset, .unset] [(.ref b107)])) st133 ?_
  refine own_st (mkF m 308 #[iv p1, iv p2, iv p3, rv b5, rv b66, .unset, .unset, .unset, .unset, .unset] [(.ref b107), (.ref b107)]) (fun t k => XS.dup X133.here hx rfl (hb hby at_307) rfl rfl k) ?_
  refine own_st (mkF m 310 #[iv p1, iv p2, iv p3, rv b5, rv b66, .unset, .unset, .unset, .unset, .unset] [(.int (13 : Int32)), (.ref b107), (.ref b107)]) (fun t k => XS.bipush X133.here hx rfl (hb hby at_308) k) ?_
  refine own_st (mkF m 311 #[iv p1, iv p2, iv p3, rv b5, rv b66, .unset, .unset, .unset, .unset, .unset] [(.int (3 : Int32)), (.int (13 : Int32)), (.ref b107), (.ref b107)]) (fun t k => XS.iconst X133.here hx rfl (hb hby at_310) k) ?_
  obtain ⟨cl134, Ar134, q134, S134, M134, H134, G134⟩ := id V133
  have hin134 : ¬ ((13 : Int32) < 0 ∨ cl134.slots.size ≤ ((13 : Int32)).toNatClampNeg) := inb_of S134 ⟨by decide, by decide⟩
  obtain ⟨T135, h135, X135, e135, W135, st135⟩ := stI X133 hx hZ e133 Ar134 (j := (13 : Int32)) hin134 (g := (mkF m 311 #[iv p1, iv p2, iv p3, rv b5, rv b66, .unset, .unset, .unset, .unset, .unset] [(.int (3 : Int32)), (.int (13 : Int32)), (.ref b107), (.ref b107)])) rfl rfl (hb hby at_311)
  have f50_Arv_b5 : Arv Z h135 b5 k5 (.object "com/example/fencer/fencer/protocol/ApiKey") (20 : Int32) [(.ref w10), (.ref w11), (.ref w12), (.ref w13), (.ref w14), (.ref w15), (.ref w16), (.ref w17), (.ref w18), (.ref w19), (.ref w20), (.ref w21), (.ref w22), (.ref w23), (.ref w24), (.ref w25), (.ref w26), (.ref w27), (.ref w28), (.ref w29)] .null := (f48_Arv_b5.other W135 ne_b5_b107)
  have f51_Arv_b66 : Arv Z h135 b66 k66 .int (20 : Int32) [(.int (0 : Int32)), (.int (4 : Int32)), (.int (1 : Int32)), (.int (0 : Int32)), (.int (2 : Int32)), (.int (1 : Int32)), (.int (0 : Int32)), (.int (0 : Int32)), (.int (0 : Int32)), (.int (0 : Int32)), (.int (0 : Int32)), (.int (0 : Int32)), (.int (0 : Int32)), (.int (0 : Int32)), (.int (0 : Int32)), (.int (0 : Int32)), (.int (0 : Int32)), (.int (0 : Int32)), (.int (0 : Int32)), (.int (0 : Int32))] (.int (0 : Int32)) := (f49_Arv_b66.other W135 ne_b66_b107)
  have V135 : Arv Z h135 b107 k107 .int (20 : Int32) [(.int (7 : Int32)), (.int (11 : Int32)), (.int (2 : Int32)), (.int (4 : Int32)), (.int (7 : Int32)), (.int (7 : Int32)), (.int (2 : Int32)), (.int (5 : Int32)), (.int (3 : Int32)), (.int (3 : Int32)), (.int (3 : Int32)), (.int (3 : Int32)), (.int (4 : Int32)), (.int (3 : Int32)), (.int (0 : Int32)), (.int (0 : Int32)), (.int (0 : Int32)), (.int (0 : Int32)), (.int (0 : Int32)), (.int (0 : Int32))] (.int (0 : Int32)) := Arv.set Ar134 q134 S134 M134 H134 G134 rfl W135 13 rfl (Nat.le_of_ble_eq_true rfl)
  have Z135 : n0 ≤ h135.size := Nat.le_trans Z133 (Keep.of_wr W135).1
  have O135 : Old Z n0 h135 := O133.wr W135 g_b107
  have N135 := Fr.snoc X135 N133 g_b107
  refine own_step (g' := (mkF m 312 #[iv p1, iv p2, iv p3, rv b5, rv b66, .unset, .unset, .unset, .unset, .unset] [(.ref b107)])) st135 ?_
  refine own_st (mkF m 313 #[iv p1, iv p2, iv p3, rv b5, rv b66, .unset, .unset, .unset, .unset, .unset] [(.ref b107), (.ref b107)]) (fun t k => XS.dup X135.here hx rfl (hb hby at_312) rfl rfl k) ?_
  refine own_st (mkF m 315 #[iv p1, iv p2, iv p3, rv b5, rv b66, .unset, .unset, .unset, .unset, .unset] [(.int (14 : Int32)), (.ref b107), (.ref b107)]) (fun t k => XS.bipush X135.here hx rfl (hb hby at_313) k) ?_
  refine own_st (mkF m 316 #[iv p1, iv p2, iv p3, rv b5, rv b66, .unset, .unset, .unset, .unset, .unset] [(.int (1 : Int32)), (.int (14 : Int32)), (.ref b107), (.ref b107)]) (fun t k => XS.iconst X135.here hx rfl (hb hby at_315) k) ?_
  obtain ⟨cl136, Ar136, q136, S136, M136, H136, G136⟩ := id V135
  have hin136 : ¬ ((14 : Int32) < 0 ∨ cl136.slots.size ≤ ((14 : Int32)).toNatClampNeg) := inb_of S136 ⟨by decide, by decide⟩
  obtain ⟨T137, h137, X137, e137, W137, st137⟩ := stI X135 hx hZ e135 Ar136 (j := (14 : Int32)) hin136 (g := (mkF m 316 #[iv p1, iv p2, iv p3, rv b5, rv b66, .unset, .unset, .unset, .unset, .unset] [(.int (1 : Int32)), (.int (14 : Int32)), (.ref b107), (.ref b107)])) rfl rfl (hb hby at_316)
  have f52_Arv_b5 : Arv Z h137 b5 k5 (.object "com/example/fencer/fencer/protocol/ApiKey") (20 : Int32) [(.ref w10), (.ref w11), (.ref w12), (.ref w13), (.ref w14), (.ref w15), (.ref w16), (.ref w17), (.ref w18), (.ref w19), (.ref w20), (.ref w21), (.ref w22), (.ref w23), (.ref w24), (.ref w25), (.ref w26), (.ref w27), (.ref w28), (.ref w29)] .null := (f50_Arv_b5.other W137 ne_b5_b107)
  have f53_Arv_b66 : Arv Z h137 b66 k66 .int (20 : Int32) [(.int (0 : Int32)), (.int (4 : Int32)), (.int (1 : Int32)), (.int (0 : Int32)), (.int (2 : Int32)), (.int (1 : Int32)), (.int (0 : Int32)), (.int (0 : Int32)), (.int (0 : Int32)), (.int (0 : Int32)), (.int (0 : Int32)), (.int (0 : Int32)), (.int (0 : Int32)), (.int (0 : Int32)), (.int (0 : Int32)), (.int (0 : Int32)), (.int (0 : Int32)), (.int (0 : Int32)), (.int (0 : Int32)), (.int (0 : Int32))] (.int (0 : Int32)) := (f51_Arv_b66.other W137 ne_b66_b107)
  have V137 : Arv Z h137 b107 k107 .int (20 : Int32) [(.int (7 : Int32)), (.int (11 : Int32)), (.int (2 : Int32)), (.int (4 : Int32)), (.int (7 : Int32)), (.int (7 : Int32)), (.int (2 : Int32)), (.int (5 : Int32)), (.int (3 : Int32)), (.int (3 : Int32)), (.int (3 : Int32)), (.int (3 : Int32)), (.int (4 : Int32)), (.int (3 : Int32)), (.int (1 : Int32)), (.int (0 : Int32)), (.int (0 : Int32)), (.int (0 : Int32)), (.int (0 : Int32)), (.int (0 : Int32))] (.int (0 : Int32)) := Arv.set Ar136 q136 S136 M136 H136 G136 rfl W137 14 rfl (Nat.le_of_ble_eq_true rfl)
  have Z137 : n0 ≤ h137.size := Nat.le_trans Z135 (Keep.of_wr W137).1
  have O137 : Old Z n0 h137 := O135.wr W137 g_b107
  have N137 := Fr.snoc X137 N135 g_b107
  refine own_step (g' := (mkF m 317 #[iv p1, iv p2, iv p3, rv b5, rv b66, .unset, .unset, .unset, .unset, .unset] [(.ref b107)])) st137 ?_
  refine own_st (mkF m 318 #[iv p1, iv p2, iv p3, rv b5, rv b66, .unset, .unset, .unset, .unset, .unset] [(.ref b107), (.ref b107)]) (fun t k => XS.dup X137.here hx rfl (hb hby at_317) rfl rfl k) ?_
  refine own_st (mkF m 320 #[iv p1, iv p2, iv p3, rv b5, rv b66, .unset, .unset, .unset, .unset, .unset] [(.int (15 : Int32)), (.ref b107), (.ref b107)]) (fun t k => XS.bipush X137.here hx rfl (hb hby at_318) k) ?_
  refine own_st (mkF m 321 #[iv p1, iv p2, iv p3, rv b5, rv b66, .unset, .unset, .unset, .unset, .unset] [(.int (0 : Int32)), (.int (15 : Int32)), (.ref b107), (.ref b107)]) (fun t k => XS.iconst X137.here hx rfl (hb hby at_320) k) ?_
  obtain ⟨cl138, Ar138, q138, S138, M138, H138, G138⟩ := id V137
  have hin138 : ¬ ((15 : Int32) < 0 ∨ cl138.slots.size ≤ ((15 : Int32)).toNatClampNeg) := inb_of S138 ⟨by decide, by decide⟩
  obtain ⟨T139, h139, X139, e139, W139, st139⟩ := stI X137 hx hZ e137 Ar138 (j := (15 : Int32)) hin138 (g := (mkF m 321 #[iv p1, iv p2, iv p3, rv b5, rv b66, .unset, .unset, .unset, .unset, .unset] [(.int (0 : Int32)), (.int (15 : Int32)), (.ref b107), (.ref b107)])) rfl rfl (hb hby at_321)
  have f54_Arv_b5 : Arv Z h139 b5 k5 (.object "com/example/fencer/fencer/protocol/ApiKey") (20 : Int32) [(.ref w10), (.ref w11), (.ref w12), (.ref w13), (.ref w14), (.ref w15), (.ref w16), (.ref w17), (.ref w18), (.ref w19), (.ref w20), (.ref w21), (.ref w22), (.ref w23), (.ref w24), (.ref w25), (.ref w26), (.ref w27), (.ref w28), (.ref w29)] .null := (f52_Arv_b5.other W139 ne_b5_b107)
  have f55_Arv_b66 : Arv Z h139 b66 k66 .int (20 : Int32) [(.int (0 : Int32)), (.int (4 : Int32)), (.int (1 : Int32)), (.int (0 : Int32)), (.int (2 : Int32)), (.int (1 : Int32)), (.int (0 : Int32)), (.int (0 : Int32)), (.int (0 : Int32)), (.int (0 : Int32)), (.int (0 : Int32)), (.int (0 : Int32)), (.int (0 : Int32)), (.int (0 : Int32)), (.int (0 : Int32)), (.int (0 : Int32)), (.int (0 : Int32)), (.int (0 : Int32)), (.int (0 : Int32)), (.int (0 : Int32))] (.int (0 : Int32)) := (f53_Arv_b66.other W139 ne_b66_b107)
  have V139 : Arv Z h139 b107 k107 .int (20 : Int32) [(.int (7 : Int32)), (.int (11 : Int32)), (.int (2 : Int32)), (.int (4 : Int32)), (.int (7 : Int32)), (.int (7 : Int32)), (.int (2 : Int32)), (.int (5 : Int32)), (.int (3 : Int32)), (.int (3 : Int32)), (.int (3 : Int32)), (.int (3 : Int32)), (.int (4 : Int32)), (.int (3 : Int32)), (.int (1 : Int32)), (.int (0 : Int32)), (.int (0 : Int32)), (.int (0 : Int32)), (.int (0 : Int32)), (.int (0 : Int32))] (.int (0 : Int32)) := Arv.set Ar138 q138 S138 M138 H138 G138 rfl W139 15 rfl (Nat.le_of_ble_eq_true rfl)
  have Z139 : n0 ≤ h139.size := Nat.le_trans Z137 (Keep.of_wr W139).1
  have O139 : Old Z n0 h139 := O137.wr W139 g_b107
  have N139 := Fr.snoc X139 N137 g_b107
  refine own_step (g' := (mkF m 322 #[iv p1, iv p2, iv p3, rv b5, rv b66, .unset, .unset, .unset, .unset, .unset] [(.ref b107)])) st139 ?_
  refine own_st (mkF m 323 #[iv p1, iv p2, iv p3, rv b5, rv b66, .unset, .unset, .unset, .unset, .unset] [(.ref b107), (.ref b107)]) (fun t k => XS.dup X139.here hx rfl (hb hby at_322) rfl rfl k) ?_
  refine own_st (mkF m 325 #[iv p1, iv p2, iv p3, rv b5, rv b66, .unset, .unset, .unset, .unset, .unset] [(.int (16 : Int32)), (.ref b107), (.ref b107)]) (fun t k => XS.bipush X139.here hx rfl (hb hby at_323) k) ?_
  refine own_st (mkF m 326 #[iv p1, iv p2, iv p3, rv b5, rv b66, .unset, .unset, .unset, .unset, .unset] [(.int (0 : Int32)), (.int (16 : Int32)), (.ref b107), (.ref b107)]) (fun t k => XS.iconst X139.here hx rfl (hb hby at_325) k) ?_
  obtain ⟨cl140, Ar140, q140, S140, M140, H140, G140⟩ := id V139
  have hin140 : ¬ ((16 : Int32) < 0 ∨ cl140.slots.size ≤ ((16 : Int32)).toNatClampNeg) := inb_of S140 ⟨by decide, by decide⟩
  obtain ⟨T141, h141, X141, e141, W141, st141⟩ := stI X139 hx hZ e139 Ar140 (j := (16 : Int32)) hin140 (g := (mkF m 326 #[iv p1, iv p2, iv p3, rv b5, rv b66, .unset, .unset, .unset, .unset, .unset] [(.int (0 : Int32)), (.int (16 : Int32)), (.ref b107), (.ref b107)])) rfl rfl (hb hby at_326)
  have f56_Arv_b5 : Arv Z h141 b5 k5 (.object "com/example/fencer/fencer/protocol/ApiKey") (20 : Int32) [(.ref w10), (.ref w11), (.ref w12), (.ref w13), (.ref w14), (.ref w15), (.ref w16), (.ref w17), (.ref w18), (.ref w19), (.ref w20), (.ref w21), (.ref w22), (.ref w23), (.ref w24), (.ref w25), (.ref w26), (.ref w27), (.ref w28), (.ref w29)] .null := (f54_Arv_b5.other W141 ne_b5_b107)
  have f57_Arv_b66 : Arv Z h141 b66 k66 .int (20 : Int32) [(.int (0 : Int32)), (.int (4 : Int32)), (.int (1 : Int32)), (.int (0 : Int32)), (.int (2 : Int32)), (.int (1 : Int32)), (.int (0 : Int32)), (.int (0 : Int32)), (.int (0 : Int32)), (.int (0 : Int32)), (.int (0 : Int32)), (.int (0 : Int32)), (.int (0 : Int32)), (.int (0 : Int32)), (.int (0 : Int32)), (.int (0 : Int32)), (.int (0 : Int32)), (.int (0 : Int32)), (.int (0 : Int32)), (.int (0 : Int32))] (.int (0 : Int32)) := (f55_Arv_b66.other W141 ne_b66_b107)
  have V141 : Arv Z h141 b107 k107 .int (20 : Int32) [(.int (7 : Int32)), (.int (11 : Int32)), (.int (2 : Int32)), (.int (4 : Int32)), (.int (7 : Int32)), (.int (7 : Int32)), (.int (2 : Int32)), (.int (5 : Int32)), (.int (3 : Int32)), (.int (3 : Int32)), (.int (3 : Int32)), (.int (3 : Int32)), (.int (4 : Int32)), (.int (3 : Int32)), (.int (1 : Int32)), (.int (0 : Int32)), (.int (0 : Int32)), (.int (0 : Int32)), (.int (0 : Int32)), (.int (0 : Int32))] (.int (0 : Int32)) := Arv.set Ar140 q140 S140 M140 H140 G140 rfl W141 16 rfl (Nat.le_of_ble_eq_true rfl)
  have Z141 : n0 ≤ h141.size := Nat.le_trans Z139 (Keep.of_wr W141).1
  have O141 : Old Z n0 h141 := O139.wr W141 g_b107
  have N141 := Fr.snoc X141 N139 g_b107
  refine own_step (g' := (mkF m 327 #[iv p1, iv p2, iv p3, rv b5, rv b66, .unset, .unset, .unset, .unset, .unset] [(.ref b107)])) st141 ?_
  refine own_st (mkF m 328 #[iv p1, iv p2, iv p3, rv b5, rv b66, .unset, .unset, .unset, .unset, .unset] [(.ref b107), (.ref b107)]) (fun t k => XS.dup X141.here hx rfl (hb hby at_327) rfl rfl k) ?_
  refine own_st (mkF m 330 #[iv p1, iv p2, iv p3, rv b5, rv b66, .unset, .unset, .unset, .unset, .unset] [(.int (17 : Int32)), (.ref b107), (.ref b107)]) (fun t k => XS.bipush X141.here hx rfl (hb hby at_328) k) ?_
  refine own_st (mkF m 331 #[iv p1, iv p2, iv p3, rv b5, rv b66, .unset, .unset, .unset, .unset, .unset] [(.int (1 : Int32)), (.int (17 : Int32)), (.ref b107), (.ref b107)]) (fun t k => XS.iconst X141.here hx rfl (hb hby at_330) k) ?_
  obtain ⟨cl142, Ar142, q142, S142, M142, H142, G142⟩ := id V141
  have hin142 : ¬ ((17 : Int32) < 0 ∨ cl142.slots.size ≤ ((17 : Int32)).toNatClampNeg) := inb_of S142 ⟨by decide, by decide⟩
  obtain ⟨T143, h143, X143, e143, W143, st143⟩ := stI X141 hx hZ e141 Ar142 (j := (17 : Int32)) hin142 (g := (mkF m 331 #[iv p1, iv p2, iv p3, rv b5, rv b66, .unset, .unset, .unset, .unset, .unset] [(.int (1 : Int32)), (.int (17 : Int32)), (.ref b107), (.ref b107)])) rfl rfl (hb hby at_331)
  have f58_Arv_b5 : Arv Z h143 b5 k5 (.object "com/example/fencer/fencer/protocol/ApiKey") (20 : Int32) [(.ref w10), (.ref w11), (.ref w12), (.ref w13), (.ref w14), (.ref w15), (.ref w16), (.ref w17), (.ref w18), (.ref w19), (.ref w20), (.ref w21), (.ref w22), (.ref w23), (.ref w24), (.ref w25), (.ref w26), (.ref w27), (.ref w28), (.ref w29)] .null := (f56_Arv_b5.other W143 ne_b5_b107)
  have f59_Arv_b66 : Arv Z h143 b66 k66 .int (20 : Int32) [(.int (0 : Int32)), (.int (4 : Int32)), (.int (1 : Int32)), (.int (0 : Int32)), (.int (2 : Int32)), (.int (1 : Int32)), (.int (0 : Int32)), (.int (0 : Int32)), (.int (0 : Int32)), (.int (0 : Int32)), (.int (0 : Int32)), (.int (0 : Int32)), (.int (0 : Int32)), (.int (0 : Int32)), (.int (0 : Int32)), (.int (0 : Int32)), (.int (0 : Int32)), (.int (0 : Int32)), (.int (0 : Int32)), (.int (0 : Int32))] (.int (0 : Int32)) := (f57_Arv_b66.other W143 ne_b66_b107)
  have V143 : Arv Z h143 b107 k107 .int (20 : Int32) [(.int (7 : Int32)), (.int (11 : Int32)), (.int (2 : Int32)), (.int (4 : Int32)), (.int (7 : Int32)), (.int (7 : Int32)), (.int (2 : Int32)), (.int (5 : Int32)), (.int (3 : Int32)), (.int (3 : Int32)), (.int (3 : Int32)), (.int (3 : Int32)), (.int (4 : Int32)), (.int (3 : Int32)), (.int (1 : Int32)), (.int (0 : Int32)), (.int (0 : Int32)), (.int (1 : Int32)), (.int (0 : Int32)), (.int (0 : Int32))] (.int (0 : Int32)) := Arv.set Ar142 q142 S142 M142 H142 G142 rfl W143 17 rfl (Nat.le_of_ble_eq_true rfl)
  have Z143 : n0 ≤ h143.size := Nat.le_trans Z141 (Keep.of_wr W143).1
  have O143 : Old Z n0 h143 := O141.wr W143 g_b107
  have N143 := Fr.snoc X143 N141 g_b107
  refine own_step (g' := (mkF m 332 #[iv p1, iv p2, iv p3, rv b5, rv b66, .unset, .unset, .unset, .unset, .unset] [(.ref b107)])) st143 ?_
  refine own_st (mkF m 333 #[iv p1, iv p2, iv p3, rv b5, rv b66, .unset, .unset, .unset, .unset, .unset] [(.ref b107), (.ref b107)]) (fun t k => XS.dup X143.here hx rfl (hb hby at_332) rfl rfl k) ?_
  refine own_st (mkF m 335 #[iv p1, iv p2, iv p3, rv b5, rv b66, .unset, .unset, .unset, .unset, .unset] [(.int (18 : Int32)), (.ref b107), (.ref b107)]) (fun t k => XS.bipush X143.here hx rfl (hb hby at_333) k) ?_
  refine own_st (mkF m 336 #[iv p1, iv p2, iv p3, rv b5, rv b66, .unset, .unset, .unset, .unset, .unset] [(.int (3 : Int32)), (.int (18 : Int32)), (.ref b107), (.ref b107)]) (fun t k => XS.iconst X143.here hx rfl (hb hby at_335) k) ?_
  obtain ⟨cl144, Ar144, q144, S144, M144, H144, G144⟩ := id V143
  have hin144 : ¬ ((18 : Int32) < 0 ∨ cl144.slots.size ≤ ((18 : Int32)).toNatClampNeg) := inb_of S144 ⟨by decide, by decide⟩
  obtain ⟨T145, h145, X145, e145, W145, st145⟩ := stI X143 hx hZ e143 Ar144 (j := (18 : Int32)) hin144 (g := (mkF m 336 #[iv p1, iv p2, iv p3, rv b5, rv b66, .unset, .unset, .unset, .unset, .unset] [(.int (3 : Int32)), (.int (18 : Int32)), (.ref b107), (.ref b107)])) rfl rfl (hb hby at_336)
  have f60_Arv_b5 : Arv Z h145 b5 k5 (.object "com/example/fencer/fencer/protocol/ApiKey") (20 : Int32) [(.ref w10), (.ref w11), (.ref w12), (.ref w13), (.ref w14), (.ref w15), (.ref w16), (.ref w17), (.ref w18), (.ref w19), (.ref w20), (.ref w21), (.ref w22), (.ref w23), (.ref w24), (.ref w25), (.ref w26), (.ref w27), (.ref w28), (.ref w29)] .null := (f58_Arv_b5.other W145 ne_b5_b107)
  have f61_Arv_b66 : Arv Z h145 b66 k66 .int (20 : Int32) [(.int (0 : Int32)), (.int (4 : Int32)), (.int (1 : Int32)), (.int (0 : Int32)), (.int (2 : Int32)), (.int (1 : Int32)), (.int (0 : Int32)), (.int (0 : Int32)), (.int (0 : Int32)), (.int (0 : Int32)), (.int (0 : Int32)), (.int (0 : Int32)), (.int (0 : Int32)), (.int (0 : Int32)), (.int (0 : Int32)), (.int (0 : Int32)), (.int (0 : Int32)), (.int (0 : Int32)), (.int (0 : Int32)), (.int (0 : Int32))] (.int (0 : Int32)) := (f59_Arv_b66.other W145 ne_b66_b107)
  have V145 : Arv Z h145 b107 k107 .int (20 : Int32) [(.int (7 : Int32)), (.int (11 : Int32)), (.int (2 : Int32)), (.int (4 : Int32)), (.int (7 : Int32)), (.int (7 : Int32)), (.int (2 : Int32)), (.int (5 : Int32)), (.int (3 : Int32)), (.int (3 : Int32)), (.int (3 : Int32)), (.int (3 : Int32)), (.int (4 : Int32)), (.int (3 : Int32)), (.int (1 : Int32)), (.int (0 : Int32)), (.int (0 : Int32)), (.int (1 : Int32)), (.int (3 : Int32)), (.int (0 : Int32))] (.int (0 : Int32)) := Arv.set Ar144 q144 S144 M144 H144 G144 rfl W145 18 rfl (Nat.le_of_ble_eq_true rfl)
  have Z145 : n0 ≤ h145.size := Nat.le_trans Z143 (Keep.of_wr W145).1
  have O145 : Old Z n0 h145 := O143.wr W145 g_b107
  have N145 := Fr.snoc X145 N143 g_b107
  refine own_step (g' := (mkF m 337 #[iv p1, iv p2, iv p3, rv b5, rv b66, .unset, .unset, .unset, .unset, .unset] [(.ref b107)])) st145 ?_
  refine own_st (mkF m 338 #[iv p1, iv p2, iv p3, rv b5, rv b66, .unset, .unset, .unset, .unset, .unset] [(.ref b107), (.ref b107)]) (fun t k => XS.dup X145.here hx rfl (hb hby at_337) rfl rfl k) ?_
  refine own_st (mkF m 340 #[iv p1, iv p2, iv p3, rv b5, rv b66, .unset, .unset, .unset, .unset, .unset] [(.int (19 : Int32)), (.ref b107), (.ref b107)]) (fun t k => XS.bipush X145.here hx rfl (hb hby at_338) k) ?_
  refine own_st (mkF m 341 #[iv p1, iv p2, iv p3, rv b5, rv b66, .unset, .unset, .unset, .unset, .unset] [(.int (1 : Int32)), (.int (19 : Int32)), (.ref b107), (.ref b107)]) (fun t k => XS.iconst X145.here hx rfl (hb hby at_340) k) ?_
  obtain ⟨cl146, Ar146, q146, S146, M146, H146, G146⟩ := id V145
  have hin146 : ¬ ((19 : Int32) < 0 ∨ cl146.slots.size ≤ ((19 : Int32)).toNatClampNeg) := inb_of S146 ⟨by decide, by decide⟩
  obtain ⟨T147, h147, X147, e147, W147, st147⟩ := stI X145 hx hZ e145 Ar146 (j := (19 : Int32)) hin146 (g := (mkF m 341 #[iv p1, iv p2, iv p3, rv b5, rv b66, .unset, .unset, .unset, .unset, .unset] [(.int (1 : Int32)), (.int (19 : Int32)), (.ref b107), (.ref b107)])) rfl rfl (hb hby at_341)
  have f62_Arv_b5 : Arv Z h147 b5 k5 (.object "com/example/fencer/fencer/protocol/ApiKey") (20 : Int32) [(.ref w10), (.ref w11), (.ref w12), (.ref w13), (.ref w14), (.ref w15), (.ref w16), (.ref w17), (.ref w18), (.ref w19), (.ref w20), (.ref w21), (.ref w22), (.ref w23), (.ref w24), (.ref w25), (.ref w26), (.ref w27), (.ref w28), (.ref w29)] .null := (f60_Arv_b5.other W147 ne_b5_b107)
  have f63_Arv_b66 : Arv Z h147 b66 k66 .int (20 : Int32) [(.int (0 : Int32)), (.int (4 : Int32)), (.int (1 : Int32)), (.int (0 : Int32)), (.int (2 : Int32)), (.int (1 : Int32)), (.int (0 : Int32)), (.int (0 : Int32)), (.int (0 : Int32)), (.int (0 : Int32)), (.int (0 : Int32)), (.int (0 : Int32)), (.int (0 : Int32)), (.int (0 : Int32)), (.int (0 : Int32)), (.int (0 : Int32)), (.int (0 : Int32)), (.int (0 : Int32)), (.int (0 : Int32)), (.int (0 : Int32))] (.int (0 : Int32)) := (f61_Arv_b66.other W147 ne_b66_b107)
  have V147 : Arv Z h147 b107 k107 .int (20 : Int32) [(.int (7 : Int32)), (.int (11 : Int32)), (.int (2 : Int32)), (.int (4 : Int32)), (.int (7 : Int32)), (.int (7 : Int32)), (.int (2 : Int32)), (.int (5 : Int32)), (.int (3 : Int32)), (.int (3 : Int32)), (.int (3 : Int32)), (.int (3 : Int32)), (.int (4 : Int32)), (.int (3 : Int32)), (.int (1 : Int32)), (.int (0 : Int32)), (.int (0 : Int32)), (.int (1 : Int32)), (.int (3 : Int32)), (.int (1 : Int32))] (.int (0 : Int32)) := Arv.set Ar146 q146 S146 M146 H146 G146 rfl W147 19 rfl (Nat.le_of_ble_eq_true rfl)
  have Z147 : n0 ≤ h147.size := Nat.le_trans Z145 (Keep.of_wr W147).1
  have O147 : Old Z n0 h147 := O145.wr W147 g_b107
  have N147 := Fr.snoc X147 N145 g_b107
  refine own_step (g' := (mkF m 342 #[iv p1, iv p2, iv p3, rv b5, rv b66, .unset, .unset, .unset, .unset, .unset] [(.ref b107)])) st147 ?_
  refine own_st (mkF m 344 #[iv p1, iv p2, iv p3, rv b5, rv b66, rv b107, .unset, .unset, .unset, .unset] []) (fun t k => XS.astore X147.here hx rfl (hb hby at_342) rfl rfl (l' := #[iv p1, iv p2, iv p3, rv b5, rv b66, rv b107, .unset, .unset, .unset, .unset]) rfl k) ?_
  refine own_st (mkF m 345 #[iv p1, iv p2, iv p3, rv b5, rv b66, rv b107, .unset, .unset, .unset, .unset] [(.int p1)]) (fun t k => XS.iloadN X147.here hx rfl (hb hby at_344) rfl k) ?_
  refine own_st (mkF m 347 #[iv p1, iv p2, iv p3, rv b5, rv b66, rv b107, .unset, .unset, .unset, .unset] [(.int (2147483647 : Int32)), (.int p1)]) (fun t k => X147.ldcInt hx hown (mvT hZ (hw_45 hw)) (g := (mkF m 345 #[iv p1, iv p2, iv p3, rv b5, rv b66, rv b107, .unset, .unset, .unset, .unset] [(.int p1)])) rfl (hb hby at_345) _ k) ?_
  refine own_st (mkF m 348 #[iv p1, iv p2, iv p3, rv b5, rv b66, rv b107, .unset, .unset, .unset, .unset] [(.int (p1 &&& (2147483647 : Int32)))]) (fun t k => XS.iand X147.here hx rfl (hb hby at_347) rfl k) ?_
  refine own_st (mkF m 350 #[iv p1, iv p2, iv p3, rv b5, rv b66, rv b107, .unset, .unset, .unset, .unset] [(.int (20 : Int32)), (.int (p1 &&& (2147483647 : Int32)))]) (fun t k => XS.bipush X147.here hx rfl (hb hby at_348) k) ?_
  refine own_st (mkF m 351 #[iv p1, iv p2, iv p3, rv b5, rv b66, rv b107, .unset, .unset, .unset, .unset] [(.int ((p1 &&& (2147483647 : Int32)) % (20 : Int32)))]) (fun t k => iremM X147 hx rfl (hb hby at_350) rfl (by decide) k) ?_
  refine own_st (mkF m 353 #[iv p1, iv p2, iv p3, rv b5, rv b66, rv b107, iv ((p1 &&& (2147483647 : Int32)) % (20 : Int32)), .unset, .unset, .unset] []) (fun t k => XS.istore X147.here hx rfl (hb hby at_351) rfl (l' := #[iv p1, iv p2, iv p3, rv b5, rv b66, rv b107, iv ((p1 &&& (2147483647 : Int32)) % (20 : Int32)), .unset, .unset, .unset]) rfl k) ?_
  obtain ⟨ix, h_ix⟩ : ∃ z, z = ((p1 &&& (2147483647 : Int32)) % (20 : Int32)) := ⟨_, rfl⟩
  rw [← h_ix]
  have hix : ¬ ix < 0 ∧ ix < (20 : Int32) := h_ix ▸ own_ix _
  have hnx := own_nat hix
  obtain ⟨lo, h_lo⟩ : ∃ z, z = own_los.getD ix.toNatClampNeg 0 := ⟨_, rfl⟩
  obtain ⟨hi, h_hi⟩ : ∃ z, z = own_his.getD ix.toNatClampNeg 0 := ⟨_, rfl⟩
  obtain ⟨ky, h_ky⟩ : ∃ z, z = [w10, w11, w12, w13, w14, w15, w16, w17, w18, w19, w20, w21, w22, w23, w24, w25, w26, w27, w28, w29].getD ix.toNatClampNeg 0 := ⟨_, rfl⟩
  have h_all := own_all (P := fun k a b => Exa Z h147 k "com/example/fencer/fencer/protocol/ApiKey" ∧ Fld Z h147 k "com/example/fencer/fencer/protocol/ApiKey" "minVersion" "S" (.int a) ∧ Fld Z h147 k "com/example/fencer/fencer/protocol/ApiKey" "maxVersion" "S" (.int b)) w10 w11 w12 w13 w14 w15 w16 w17 w18 w19 w20 w21 w22 w23 w24 w25 w26 w27 w28 w29 ⟨E_w10.ext O147.2, A_w10.ext O147.2, B_w10.ext O147.2⟩ ⟨E_w11.ext O147.2, A_w11.ext O147.2, B_w11.ext O147.2⟩ ⟨E_w12.ext O147.2, A_w12.ext O147.2, B_w12.ext O147.2⟩ ⟨E_w13.ext O147.2, A_w13.ext O147.2, B_w13.ext O147.2⟩ ⟨E_w14.ext O147.2, A_w14.ext O147.2, B_w14.ext O147.2⟩ ⟨E_w15.ext O147.2, A_w15.ext O147.2, B_w15.ext O147.2⟩ ⟨E_w16.ext O147.2, A_w16.ext O147.2, B_w16.ext O147.2⟩ ⟨E_w17.ext O147.2, A_w17.ext O147.2, B_w17.ext O147.2⟩ ⟨E_w18.ext O147.2, A_w18.ext O147.2, B_w18.ext O147.2⟩ ⟨E_w19.ext O147.2, A_w19.ext O147.2, B_w19.ext O147.2⟩ ⟨E_w20.ext O147.2, A_w20.ext O147.2, B_w20.ext O147.2⟩ ⟨E_w21.ext O147.2, A_w21.ext O147.2, B_w21.ext O147.2⟩ ⟨E_w22.ext O147.2, A_w22.ext O147.2, B_w22.ext O147.2⟩ ⟨E_w23.ext O147.2, A_w23.ext O147.2, B_w23.ext O147.2⟩ ⟨E_w24.ext O147.2, A_w24.ext O147.2, B_w24.ext O147.2⟩ ⟨E_w25.ext O147.2, A_w25.ext O147.2, B_w25.ext O147.2⟩ ⟨E_w26.ext O147.2, A_w26.ext O147.2, B_w26.ext O147.2⟩ ⟨E_w27.ext O147.2, A_w27.ext O147.2, B_w27.ext O147.2⟩ ⟨E_w28.ext O147.2, A_w28.ext O147.2, B_w28.ext O147.2⟩ ⟨E_w29.ext O147.2, A_w29.ext O147.2, B_w29.ext O147.2⟩ ix.toNatClampNeg hnx
  rw [← h_lo, ← h_hi, ← h_ky] at h_all
  obtain ⟨E_ky, A_ky, B_ky⟩ := h_all
  have VL3 : Arv Z h147 b5 k5 (.object "com/example/fencer/fencer/protocol/ApiKey") (20 : Int32) ([w10, w11, w12, w13, w14, w15, w16, w17, w18, w19, w20, w21, w22, w23, w24, w25, w26, w27, w28, w29].map Value.ref) .null := f62_Arv_b5
  have VL4 : Arv Z h147 b66 k66 .int (20 : Int32) (own_los.map Value.int) (.int (0 : Int32)) := f63_Arv_b66
  have VL5 : Arv Z h147 b107 k107 .int (20 : Int32) (own_his.map Value.int) (.int (0 : Int32)) := V147
  exact own_tail l Z a0 hw p1 p2 p3 w10 w11 w12 w13 w14 w15 w16 w17 w18 w19 w20 w21 w22 w23 w24 w25 w26 w27 w28 w29 h0 n0 p e s m below meth c T147 h147 _ b5 b66 b107 k5 k66 k107 ix lo hi ky X147 hx hby hml hZ hown hnm hret hlk e147 O147 Z147 N147 hix hnx h_lo h_hi h_ky E_ky A_ky B_ky VL3 VL4 VL5
theorem hw_4 {a0 : Array Value} {Z : State} (hw : ∀ d ∈ tables_1, d.before a0 Z = true) : (Jvm.Cond.laysStatic "com/example/fencer/fencer/protocol/ApiKey" "PRODUCE" "Lcom/example/fencer/fencer/protocol/ApiKey;").before a0 Z = true := hw _ (List.mem_of_getElem? (i := 4) rfl)
theorem hw_7 {a0 : Array Value} {Z : State} (hw : ∀ d ∈ tables_1, d.before a0 Z = true) : (Jvm.Cond.laysStatic "com/example/fencer/fencer/protocol/ApiKey" "FETCH" "Lcom/example/fencer/fencer/protocol/ApiKey;").before a0 Z = true := hw _ (List.mem_of_getElem? (i := 7) rfl)
theorem hw_9 {a0 : Array Value} {Z : State} (hw : ∀ d ∈ tables_1, d.before a0 Z = true) : (Jvm.Cond.laysStatic "com/example/fencer/fencer/protocol/ApiKey" "LIST_OFFSETS" "Lcom/example/fencer/fencer/protocol/ApiKey;").before a0 Z = true := hw _ (List.mem_of_getElem? (i := 9) rfl)
theorem hw_11 {a0 : Array Value} {Z : State} (hw : ∀ d ∈ tables_1, d.before a0 Z = true) : (Jvm.Cond.laysStatic "com/example/fencer/fencer/protocol/ApiKey" "METADATA" "Lcom/example/fencer/fencer/protocol/ApiKey;").before a0 Z = true := hw _ (List.mem_of_getElem? (i := 11) rfl)
theorem hw_13 {a0 : Array Value} {Z : State} (hw : ∀ d ∈ tables_1, d.before a0 Z = true) : (Jvm.Cond.laysStatic "com/example/fencer/fencer/protocol/ApiKey" "OFFSET_COMMIT" "Lcom/example/fencer/fencer/protocol/ApiKey;").before a0 Z = true := hw _ (List.mem_of_getElem? (i := 13) rfl)
theorem hw_15 {a0 : Array Value} {Z : State} (hw : ∀ d ∈ tables_1, d.before a0 Z = true) : (Jvm.Cond.laysStatic "com/example/fencer/fencer/protocol/ApiKey" "OFFSET_FETCH" "Lcom/example/fencer/fencer/protocol/ApiKey;").before a0 Z = true := hw _ (List.mem_of_getElem? (i := 15) rfl)
theorem hw_17 {a0 : Array Value} {Z : State} (hw : ∀ d ∈ tables_1, d.before a0 Z = true) : (Jvm.Cond.laysStatic "com/example/fencer/fencer/protocol/ApiKey" "FIND_COORDINATOR" "Lcom/example/fencer/fencer/protocol/ApiKey;").before a0 Z = true := hw _ (List.mem_of_getElem? (i := 17) rfl)
theorem hw_19 {a0 : Array Value} {Z : State} (hw : ∀ d ∈ tables_1, d.before a0 Z = true) : (Jvm.Cond.laysStatic "com/example/fencer/fencer/protocol/ApiKey" "JOIN_GROUP" "Lcom/example/fencer/fencer/protocol/ApiKey;").before a0 Z = true := hw _ (List.mem_of_getElem? (i := 19) rfl)
theorem hw_21 {a0 : Array Value} {Z : State} (hw : ∀ d ∈ tables_1, d.before a0 Z = true) : (Jvm.Cond.laysStatic "com/example/fencer/fencer/protocol/ApiKey" "HEARTBEAT" "Lcom/example/fencer/fencer/protocol/ApiKey;").before a0 Z = true := hw _ (List.mem_of_getElem? (i := 21) rfl)
theorem hw_23 {a0 : Array Value} {Z : State} (hw : ∀ d ∈ tables_1, d.before a0 Z = true) : (Jvm.Cond.laysStatic "com/example/fencer/fencer/protocol/ApiKey" "LEAVE_GROUP" "Lcom/example/fencer/fencer/protocol/ApiKey;").before a0 Z = true := hw _ (List.mem_of_getElem? (i := 23) rfl)
theorem hw_25 {a0 : Array Value} {Z : State} (hw : ∀ d ∈ tables_1, d.before a0 Z = true) : (Jvm.Cond.laysStatic "com/example/fencer/fencer/protocol/ApiKey" "SYNC_GROUP" "Lcom/example/fencer/fencer/protocol/ApiKey;").before a0 Z = true := hw _ (List.mem_of_getElem? (i := 25) rfl)
theorem hw_27 {a0 : Array Value} {Z : State} (hw : ∀ d ∈ tables_1, d.before a0 Z = true) : (Jvm.Cond.laysStatic "com/example/fencer/fencer/protocol/ApiKey" "API_VERSIONS" "Lcom/example/fencer/fencer/protocol/ApiKey;").before a0 Z = true := hw _ (List.mem_of_getElem? (i := 27) rfl)
theorem hw_29 {a0 : Array Value} {Z : State} (hw : ∀ d ∈ tables_1, d.before a0 Z = true) : (Jvm.Cond.laysStatic "com/example/fencer/fencer/protocol/ApiKey" "CREATE_TOPICS" "Lcom/example/fencer/fencer/protocol/ApiKey;").before a0 Z = true := hw _ (List.mem_of_getElem? (i := 29) rfl)
theorem hw_31 {a0 : Array Value} {Z : State} (hw : ∀ d ∈ tables_1, d.before a0 Z = true) : (Jvm.Cond.laysStatic "com/example/fencer/fencer/protocol/ApiKey" "DELETE_TOPICS" "Lcom/example/fencer/fencer/protocol/ApiKey;").before a0 Z = true := hw _ (List.mem_of_getElem? (i := 31) rfl)
theorem hw_33 {a0 : Array Value} {Z : State} (hw : ∀ d ∈ tables_1, d.before a0 Z = true) : (Jvm.Cond.laysStatic "com/example/fencer/fencer/protocol/ApiKey" "INIT_PRODUCER_ID" "Lcom/example/fencer/fencer/protocol/ApiKey;").before a0 Z = true := hw _ (List.mem_of_getElem? (i := 33) rfl)
theorem hw_35 {a0 : Array Value} {Z : State} (hw : ∀ d ∈ tables_1, d.before a0 Z = true) : (Jvm.Cond.laysStatic "com/example/fencer/fencer/protocol/ApiKey" "ADD_PARTITIONS_TO_TXN" "Lcom/example/fencer/fencer/protocol/ApiKey;").before a0 Z = true := hw _ (List.mem_of_getElem? (i := 35) rfl)
theorem hw_37 {a0 : Array Value} {Z : State} (hw : ∀ d ∈ tables_1, d.before a0 Z = true) : (Jvm.Cond.laysStatic "com/example/fencer/fencer/protocol/ApiKey" "ADD_OFFSETS_TO_TXN" "Lcom/example/fencer/fencer/protocol/ApiKey;").before a0 Z = true := hw _ (List.mem_of_getElem? (i := 37) rfl)
theorem hw_39 {a0 : Array Value} {Z : State} (hw : ∀ d ∈ tables_1, d.before a0 Z = true) : (Jvm.Cond.laysStatic "com/example/fencer/fencer/protocol/ApiKey" "END_TXN" "Lcom/example/fencer/fencer/protocol/ApiKey;").before a0 Z = true := hw _ (List.mem_of_getElem? (i := 39) rfl)
theorem hw_41 {a0 : Array Value} {Z : State} (hw : ∀ d ∈ tables_1, d.before a0 Z = true) : (Jvm.Cond.laysStatic "com/example/fencer/fencer/protocol/ApiKey" "TXN_OFFSET_COMMIT" "Lcom/example/fencer/fencer/protocol/ApiKey;").before a0 Z = true := hw _ (List.mem_of_getElem? (i := 41) rfl)
theorem hw_43 {a0 : Array Value} {Z : State} (hw : ∀ d ∈ tables_1, d.before a0 Z = true) : (Jvm.Cond.laysStatic "com/example/fencer/fencer/protocol/ApiKey" "CREATE_PARTITIONS" "Lcom/example/fencer/fencer/protocol/ApiKey;").before a0 Z = true := hw _ (List.mem_of_getElem? (i := 43) rfl)
set_option maxRecDepth 65536 in
set_option maxHeartbeats 40000000 in
theorem own_comes {Post : Tables → Env → Array Value → State → Outcome → State → Prop} (hpost : ∀ tb e args s v u, (limb_1_1.after args s (.returned v) u = true ∧ limb_1_2.after args s (.returned v) u = true ∧ True) → FrameEnd s (.returned v) u (Jvm.fieldLocs frame_1_writes args s ++ Jvm.arrayLocs frame_1_arrays args s ++ Jvm.staticLocs frame_1_statics s) 16 192 → Post tb e args s (.returned v) u) :
    ArmFor flags0 classFile x code maxLocals ret World_1 tables_1 room_1 Calls_1 rest_1 Pre_1 Post := by
  intro l hfl _ _ p e ha hc hk s m args below hf hA hF happ hP
  obtain ⟨hcalls, hrest, hpre⟩ := hP
  obtain ⟨-, -, -, hnamed, -, -, -, hat⟩ := (Spec.applies_iff hf).mp happ
  obtain ⟨hg, hn⟩ := and_e (Cond.before_iff.mp (show (Jvm.Cond.and given_1 narrow_1).before args s = true from hpre))
  obtain ⟨hcnt, hg0⟩ := and_e hg
  obtain ⟨ha0, hg1⟩ := and_e hg0
  obtain ⟨ha1, hg2⟩ := and_e hg1
  obtain ⟨w0, w1, w2, rfl⟩ : ∃ w0 w1 w2 : Value, args = #[w0, w1, w2] := by
    have hs : args.size = 3 := by simpa [Cond.value, given_1] using hcnt
    obtain ⟨L⟩ := args
    match L, hs with
    | [w0, w1, w2], _ => exact ⟨w0, w1, w2, rfl⟩
  have hw := fun d (hd : d ∈ tables_1) => atoms_spec (ws := Jvm.Cond.code x code maxLocals ret :: tables_1) hat d (List.mem_cons_of_mem _ hd)
  have hfit : Fit s := fun {y c} hc i hi => by
    obtain ⟨ha, rfl⟩ := Array.getElem?_eq_some_iff.mp hc
    have q := List.all_eq_true.mp ((Array.all_eq_true_iff_forall_mem.mp hF) _ (Array.getElem_mem ha)) i (List.mem_range.mpr hi)
    simpa [Array.getElem?_eq_getElem hi] using q
  obtain ⟨i0, ei0⟩ := is_v ha0
  obtain rfl : w0 = (.int i0) := Option.some.inj ei0
  obtain ⟨i1, ei1⟩ := is_v ha1
  obtain rfl : w1 = (.int i1) := Option.some.inj ei1
  obtain ⟨i2, ei2⟩ := is_v hg2
  obtain rfl : w2 = (.int i2) := Option.some.inj ei2
  obtain ⟨n_0, r_0⟩ := and_e hn
  obtain ⟨n_1, r_1⟩ := and_e r_0
  obtain ⟨n_2, r_2⟩ := and_e r_1
  obtain ⟨n_3, r_3⟩ := and_e r_2
  obtain ⟨n_4, r_4⟩ := and_e r_3
  obtain ⟨n_5, r_5⟩ := and_e r_4
  obtain ⟨n_6, r_6⟩ := and_e r_5
  obtain ⟨n_7, r_7⟩ := and_e r_6
  obtain ⟨n_8, r_8⟩ := and_e r_7
  obtain ⟨n_9, r_9⟩ := and_e r_8
  obtain ⟨n_10, r_10⟩ := and_e r_9
  obtain ⟨n_11, r_11⟩ := and_e r_10
  obtain ⟨n_12, r_12⟩ := and_e r_11
  obtain ⟨n_13, r_13⟩ := and_e r_12
  obtain ⟨n_14, r_14⟩ := and_e r_13
  obtain ⟨n_15, r_15⟩ := and_e r_14
  obtain ⟨n_16, r_16⟩ := and_e r_15
  obtain ⟨n_17, r_17⟩ := and_e r_16
  obtain ⟨n_18, r_18⟩ := and_e r_17
  obtain ⟨n_19, r_19⟩ := and_e r_18
  obtain ⟨n_20, r_20⟩ := and_e r_19
  obtain ⟨n_21, r_21⟩ := and_e r_20
  obtain ⟨n_22, r_22⟩ := and_e r_21
  obtain ⟨n_23, r_23⟩ := and_e r_22
  obtain ⟨n_24, r_24⟩ := and_e r_23
  obtain ⟨n_25, r_25⟩ := and_e r_24
  obtain ⟨n_26, r_26⟩ := and_e r_25
  obtain ⟨n_27, r_27⟩ := and_e r_26
  obtain ⟨n_28, r_28⟩ := and_e r_27
  obtain ⟨n_29, r_29⟩ := and_e r_28
  obtain ⟨n_30, r_30⟩ := and_e r_29
  obtain ⟨n_31, r_31⟩ := and_e r_30
  obtain ⟨n_32, r_32⟩ := and_e r_31
  obtain ⟨n_33, r_33⟩ := and_e r_32
  obtain ⟨n_34, r_34⟩ := and_e r_33
  obtain ⟨n_35, r_35⟩ := and_e r_34
  obtain ⟨n_36, r_36⟩ := and_e r_35
  obtain ⟨n_37, r_37⟩ := and_e r_36
  obtain ⟨n_38, r_38⟩ := and_e r_37
  obtain ⟨n_39, r_39⟩ := and_e r_38
  obtain ⟨n_40, r_40⟩ := and_e r_39
  obtain ⟨n_41, r_41⟩ := and_e r_40
  obtain ⟨n_42, r_42⟩ := and_e r_41
  obtain ⟨n_43, r_43⟩ := and_e r_42
  obtain ⟨n_44, r_44⟩ := and_e r_43
  obtain ⟨n_45, r_45⟩ := and_e r_44
  obtain ⟨n_46, r_46⟩ := and_e r_45
  obtain ⟨n_47, r_47⟩ := and_e r_46
  obtain ⟨n_48, r_48⟩ := and_e r_47
  obtain ⟨n_49, r_49⟩ := and_e r_48
  obtain ⟨n_50, r_50⟩ := and_e r_49
  obtain ⟨n_51, r_51⟩ := and_e r_50
  obtain ⟨n_52, r_52⟩ := and_e r_51
  obtain ⟨n_53, r_53⟩ := and_e r_52
  obtain ⟨n_54, r_54⟩ := and_e r_53
  obtain ⟨n_55, r_55⟩ := and_e r_54
  obtain ⟨n_56, r_56⟩ := and_e r_55
  obtain ⟨n_57, r_57⟩ := and_e r_56
  obtain ⟨n_58, r_58⟩ := and_e r_57
  have n_59 := r_58
  obtain ⟨w10, v_w10⟩ := exa_v n_0
  have S_w10 := Sta.start v_w10 (Or.inr ⟨(hw_3 hw), (hw_4 hw)⟩)
  have E_w10 := Exa.start v_w10 n_0
  obtain ⟨w11, v_w11⟩ := exa_v n_1
  have S_w11 := Sta.start v_w11 (Or.inr ⟨(hw_3 hw), (hw_7 hw)⟩)
  have E_w11 := Exa.start v_w11 n_1
  obtain ⟨w12, v_w12⟩ := exa_v n_2
  have S_w12 := Sta.start v_w12 (Or.inr ⟨(hw_3 hw), (hw_9 hw)⟩)
  have E_w12 := Exa.start v_w12 n_2
  obtain ⟨w13, v_w13⟩ := exa_v n_3
  have S_w13 := Sta.start v_w13 (Or.inr ⟨(hw_3 hw), (hw_11 hw)⟩)
  have E_w13 := Exa.start v_w13 n_3
  obtain ⟨w14, v_w14⟩ := exa_v n_4
  have S_w14 := Sta.start v_w14 (Or.inr ⟨(hw_3 hw), (hw_13 hw)⟩)
  have E_w14 := Exa.start v_w14 n_4
  obtain ⟨w15, v_w15⟩ := exa_v n_5
  have S_w15 := Sta.start v_w15 (Or.inr ⟨(hw_3 hw), (hw_15 hw)⟩)
  have E_w15 := Exa.start v_w15 n_5
  obtain ⟨w16, v_w16⟩ := exa_v n_6
  have S_w16 := Sta.start v_w16 (Or.inr ⟨(hw_3 hw), (hw_17 hw)⟩)
  have E_w16 := Exa.start v_w16 n_6
  obtain ⟨w17, v_w17⟩ := exa_v n_7
  have S_w17 := Sta.start v_w17 (Or.inr ⟨(hw_3 hw), (hw_19 hw)⟩)
  have E_w17 := Exa.start v_w17 n_7
  obtain ⟨w18, v_w18⟩ := exa_v n_8
  have S_w18 := Sta.start v_w18 (Or.inr ⟨(hw_3 hw), (hw_21 hw)⟩)
  have E_w18 := Exa.start v_w18 n_8
  obtain ⟨w19, v_w19⟩ := exa_v n_9
  have S_w19 := Sta.start v_w19 (Or.inr ⟨(hw_3 hw), (hw_23 hw)⟩)
  have E_w19 := Exa.start v_w19 n_9
  obtain ⟨w20, v_w20⟩ := exa_v n_10
  have S_w20 := Sta.start v_w20 (Or.inr ⟨(hw_3 hw), (hw_25 hw)⟩)
  have E_w20 := Exa.start v_w20 n_10
  obtain ⟨w21, v_w21⟩ := exa_v n_11
  have S_w21 := Sta.start v_w21 (Or.inr ⟨(hw_3 hw), (hw_27 hw)⟩)
  have E_w21 := Exa.start v_w21 n_11
  obtain ⟨w22, v_w22⟩ := exa_v n_12
  have S_w22 := Sta.start v_w22 (Or.inr ⟨(hw_3 hw), (hw_29 hw)⟩)
  have E_w22 := Exa.start v_w22 n_12
  obtain ⟨w23, v_w23⟩ := exa_v n_13
  have S_w23 := Sta.start v_w23 (Or.inr ⟨(hw_3 hw), (hw_31 hw)⟩)
  have E_w23 := Exa.start v_w23 n_13
  obtain ⟨w24, v_w24⟩ := exa_v n_14
  have S_w24 := Sta.start v_w24 (Or.inr ⟨(hw_3 hw), (hw_33 hw)⟩)
  have E_w24 := Exa.start v_w24 n_14
  obtain ⟨w25, v_w25⟩ := exa_v n_15
  have S_w25 := Sta.start v_w25 (Or.inr ⟨(hw_3 hw), (hw_35 hw)⟩)
  have E_w25 := Exa.start v_w25 n_15
  obtain ⟨w26, v_w26⟩ := exa_v n_16
  have S_w26 := Sta.start v_w26 (Or.inr ⟨(hw_3 hw), (hw_37 hw)⟩)
  have E_w26 := Exa.start v_w26 n_16
  obtain ⟨w27, v_w27⟩ := exa_v n_17
  have S_w27 := Sta.start v_w27 (Or.inr ⟨(hw_3 hw), (hw_39 hw)⟩)
  have E_w27 := Exa.start v_w27 n_17
  obtain ⟨w28, v_w28⟩ := exa_v n_18
  have S_w28 := Sta.start v_w28 (Or.inr ⟨(hw_3 hw), (hw_41 hw)⟩)
  have E_w28 := Exa.start v_w28 n_18
  obtain ⟨w29, v_w29⟩ := exa_v n_19
  have S_w29 := Sta.start v_w29 (Or.inr ⟨(hw_3 hw), (hw_43 hw)⟩)
  have E_w29 := Exa.start v_w29 n_19
  have A_w10 := Fld.start ((fld_at v_w10).symm.trans (own_eqint n_20))
  have B_w10 := Fld.start ((fld_at v_w10).symm.trans (own_eqint n_21))
  have A_w11 := Fld.start ((fld_at v_w11).symm.trans (own_eqint n_22))
  have B_w11 := Fld.start ((fld_at v_w11).symm.trans (own_eqint n_23))
  have A_w14 := Fld.start ((fld_at v_w14).symm.trans (own_eqint n_24))
  have B_w14 := Fld.start ((fld_at v_w14).symm.trans (own_eqint n_25))
  have A_w25 := Fld.start ((fld_at v_w25).symm.trans (own_eqint n_26))
  have B_w25 := Fld.start ((fld_at v_w25).symm.trans (own_eqint n_27))
  have A_w18 := Fld.start ((fld_at v_w18).symm.trans (own_eqint n_28))
  have B_w18 := Fld.start ((fld_at v_w18).symm.trans (own_eqint n_29))
  have A_w24 := Fld.start ((fld_at v_w24).symm.trans (own_eqint n_30))
  have A_w13 := Fld.start ((fld_at v_w13).symm.trans (own_eqint n_31))
  have B_w13 := Fld.start ((fld_at v_w13).symm.trans (own_eqint n_32))
  have A_w20 := Fld.start ((fld_at v_w20).symm.trans (own_eqint n_33))
  have B_w20 := Fld.start ((fld_at v_w20).symm.trans (own_eqint n_34))
  have A_w26 := Fld.start ((fld_at v_w26).symm.trans (own_eqint n_35))
  have A_w27 := Fld.start ((fld_at v_w27).symm.trans (own_eqint n_36))
  have B_w27 := Fld.start ((fld_at v_w27).symm.trans (own_eqint n_37))
  have A_w19 := Fld.start ((fld_at v_w19).symm.trans (own_eqint n_38))
  have A_w12 := Fld.start ((fld_at v_w12).symm.trans (own_eqint n_39))
  have A_w21 := Fld.start ((fld_at v_w21).symm.trans (own_eqint n_40))
  have B_w12 := Fld.start ((fld_at v_w12).symm.trans (own_eqint n_41))
  have A_w16 := Fld.start ((fld_at v_w16).symm.trans (own_eqint n_42))
  have B_w16 := Fld.start ((fld_at v_w16).symm.trans (own_eqint n_43))
  have A_w23 := Fld.start ((fld_at v_w23).symm.trans (own_eqint n_44))
  have B_w23 := Fld.start ((fld_at v_w23).symm.trans (own_eqint n_45))
  have A_w15 := Fld.start ((fld_at v_w15).symm.trans (own_eqint n_46))
  have B_w15 := Fld.start ((fld_at v_w15).symm.trans (own_eqint n_47))
  have B_w24 := Fld.start ((fld_at v_w24).symm.trans (own_eqint n_48))
  have B_w26 := Fld.start ((fld_at v_w26).symm.trans (own_eqint n_49))
  have B_w21 := Fld.start ((fld_at v_w21).symm.trans (own_eqint n_50))
  have B_w19 := Fld.start ((fld_at v_w19).symm.trans (own_eqint n_51))
  have A_w28 := Fld.start ((fld_at v_w28).symm.trans (own_eqint n_52))
  have B_w28 := Fld.start ((fld_at v_w28).symm.trans (own_eqint n_53))
  have A_w17 := Fld.start ((fld_at v_w17).symm.trans (own_eqint n_54))
  have B_w17 := Fld.start ((fld_at v_w17).symm.trans (own_eqint n_55))
  have A_w29 := Fld.start ((fld_at v_w29).symm.trans (own_eqint n_56))
  have B_w29 := Fld.start ((fld_at v_w29).symm.trans (own_eqint n_57))
  have A_w22 := Fld.start ((fld_at v_w22).symm.trans (own_eqint n_58))
  have B_w22 := Fld.start ((fld_at v_w22).symm.trans (own_eqint n_59))
  obtain ⟨n, o, h1, h2, h3, _, L, rfl, ⟨rfl, N⟩, hq⟩ := own_rm0 l s _ hw tables_1 i0 i1 i2 w10 w11 w12 w13 w14 w15 w16 w17 w18 w19 w20 w21 w22 w23 w24 w25 w26 w27 w28 w29 s.heap s.heap.size (Nat.le_refl _) (Old.start s) S_w10 S_w11 S_w12 S_w13 S_w14 S_w15 S_w16 S_w17 S_w18 S_w19 S_w20 S_w21 S_w22 S_w23 S_w24 S_w25 S_w26 S_w27 S_w28 S_w29 E_w10 E_w11 E_w12 E_w13 E_w14 E_w15 E_w16 E_w17 E_w18 E_w19 E_w20 E_w21 E_w22 E_w23 E_w24 E_w25 E_w26 E_w27 E_w28 E_w29 A_w10 A_w11 A_w12 A_w13 A_w14 A_w15 A_w16 A_w17 A_w18 A_w19 A_w20 A_w21 A_w22 A_w23 A_w24 A_w25 A_w26 A_w27 A_w28 A_w29 B_w10 B_w11 B_w12 B_w13 B_w14 B_w15 B_w16 B_w17 B_w18 B_w19 B_w20 B_w21 B_w22 B_w23 B_w24 B_w25 B_w26 B_w27 B_w28 B_w29 p e ha hc hk s m _ below hf ((Spec.applies_iff_loose hf).mp happ).1 ⟨rfl, State.Warmed39.refl s, rfl⟩ trivial
  refine ⟨n, _, h1, h2, h3, hpost _ _ _ _ _ _ ⟨Cond.after_iff.mpr rfl, Cond.after_iff.mpr (eq_i res_at (Term.int_eval (1)) rfl), trivial⟩ ⟨hq.1, hq.2.1, (hq.2.2.sift fun y hy => Or.inr (N y hy)).mono (by decide) (by decide)⟩⟩
theorem main_1_1 : Claimed_1_1 := own_comes fun _ _ _ _ _ _ h hF => ⟨h.1, hF⟩
theorem main_1_2 : Claimed_1_2 := own_comes fun _ _ _ _ _ _ h hF => ⟨h.2.1, hF⟩
end Jvm.Pilot.@@N@@
namespace Jvm.Pilot.@@N@@
open Jvm Jvm.ClassFile Sem Op Lib Jvm.Free Jvm.Stand Jvm.Pilot.@@N@@.Jvm.D
/-! MADE BY PROGRAM (witnessworld.py) out of the Statement's table words and the real class files: 13 classes; the members and pool entries that the words name. The judged class is class 1, her method 1. -/
namespace start1
open Jvm.ClassFile
def u (s : String) : CpInfo := .utf8 (stringToUtf16 s)
/-- a pool by its gaps: so many unusable entries, then the entry; so many at the end -/
def gap : Nat → List CpInfo → List CpInfo
  | 0, r => r
  | n + 1, r => .unusable :: gap n r
def poolList (es : List (Nat × CpInfo)) (last : Nat) : List CpInfo := es.foldr (fun e r => gap e.1 (e.2 :: r)) (gap last [])
def pool (es : List (Nat × CpInfo)) (last : Nat) : Array CpInfo := ⟨poolList es last⟩
def fileOf (pool : Array CpInfo) (this : Nat) (attrs : Array Attribute := #[]) (ms : Array MethodInfo := #[]) (fl : Nat := 33) (sup : Nat := 0) (ifs : Array Nat := #[]) (fds : Array FieldInfo := #[]) : ClassFile where
  minorVersion := 0
  majorVersion := 65
  constantPool := pool
  accessFlags := fl
  thisClass := this
  superClass := sup
  interfaces := ifs
  fields := fds
  methods := ms
  attributes := attrs
def plain (name : String) (sup : Option ClassId) : Class where
  name := name
  kind := .ordinary
  loader := none
  accessFlags := 33
  super := sup
  interfaces := #[]
  cf := none
  fields := #[]
  methods := #[]
  instanceTypes := #[]
  staticTypes := #[]
  resolved := #[]
  callSites := []
  init := .initialized
  statics := none
  mirror := none

def pool0 : Array CpInfo := pool [(5, u "<init>"), (0, u "()V"), (1, .class_ 10), (1, u "java/lang/Object")] 113

def k0m0 : Method := { name := "<init>", desc := "()V", sig := { parameters := [], returnType := none }, accessFlags := 1, code := none }
/-- java/lang/Object -/
def k0 : Class := { plain "java/lang/Object" none with
  accessFlags := 33
  interfaces := #[]
  cf := some (fileOf pool0 8 #[] #[{ accessFlags := 1, nameIndex := 5, descriptorIndex := 6, attributes := #[] }] 33 0 #[] #[])
  fields := #[]
  methods := #[k0m0]
  instanceTypes := #[]
  staticTypes := #[]
  resolved := Array.replicate 124 none
  statics := none }

def pool1 : Array CpInfo := pool [(2, .class_ 4), (1, u "java/lang/Object"), (0, u "<init>"), (0, u "()V"), (0, .class_ 8), (0, u "com/example/fencer/fencer/protocol/ApiKey"), (0, .fieldref 7 10), (0, .nameAndType 11 12), (0, u "PRODUCE"), (0, u "Lcom/example/fencer/fencer/protocol/ApiKey;"), (0, .fieldref 7 14), (0, .nameAndType 15 12), (0, u "FETCH"), (0, .fieldref 7 17), (0, .nameAndType 18 12), (0, u "LIST_OFFSETS"), (0, .fieldref 7 20), (0, .nameAndType 21 12), (0, u "METADATA"), (0, .fieldref 7 23), (0, .nameAndType 24 12), (0, u "OFFSET_COMMIT"), (0, .fieldref 7 26), (0, .nameAndType 27 12), (0, u "OFFSET_FETCH"), (0, .fieldref 7 29), (0, .nameAndType 30 12), (0, u "FIND_COORDINATOR"), (0, .fieldref 7 32), (0, .nameAndType 33 12), (0, u "JOIN_GROUP"), (0, .fieldref 7 35), (0, .nameAndType 36 12), (0, u "HEARTBEAT"), (0, .fieldref 7 38), (0, .nameAndType 39 12), (0, u "LEAVE_GROUP"), (0, .fieldref 7 41), (0, .nameAndType 42 12), (0, u "SYNC_GROUP"), (0, .fieldref 7 44), (0, .nameAndType 45 12), (0, u "API_VERSIONS"), (0, .fieldref 7 47), (0, .nameAndType 48 12), (0, u "CREATE_TOPICS"), (0, .fieldref 7 50), (0, .nameAndType 51 12), (0, u "DELETE_TOPICS"), (0, .fieldref 7 53), (0, .nameAndType 54 12), (0, u "INIT_PRODUCER_ID"), (0, .fieldref 7 56), (0, .nameAndType 57 12), (0, u "ADD_PARTITIONS_TO_TXN"), (0, .fieldref 7 59), (0, .nameAndType 60 12), (0, u "ADD_OFFSETS_TO_TXN"), (0, .fieldref 7 62), (0, .nameAndType 63 12), (0, u "END_TXN"), (0, .fieldref 7 65), (0, .nameAndType 66 12), (0, u "TXN_OFFSET_COMMIT"), (0, .fieldref 7 68), (0, .nameAndType 69 12), (0, u "CREATE_PARTITIONS"), (0, .integer 2147483647), (0, .methodref 7 72), (0, .nameAndType 73 74), (0, u "supports"), (0, u "(S)Z"), (0, .class_ 76), (0, u "com/example/fencer/fencer/protocol/ApiKeySupportsPinLaw"), (2, u "law"), (0, u "(III)Z")] 7

def k1m0 : Method := { name := "<init>", desc := "()V", sig := { parameters := [], returnType := none }, accessFlags := 1, code := none }
def k1c1 : Code := { maxStack := 4, maxLocals := 10, code := code, exceptionTable := #[], attributes := #[] }
def k1m1 : Method := { name := "law", desc := "(III)Z", sig := { parameters := [.int, .int, .int], returnType := some .boolean }, accessFlags := 9, code := some k1c1 }
/-- com/example/fencer/fencer/protocol/ApiKeySupportsPinLaw -/
def k1 : Class := { plain "com/example/fencer/fencer/protocol/ApiKeySupportsPinLaw" (some 0) with
  accessFlags := 49
  interfaces := #[]
  cf := some (fileOf pool1 75 #[] #[{ accessFlags := 1, nameIndex := 5, descriptorIndex := 6, attributes := #[] }, { accessFlags := 9, nameIndex := 79, descriptorIndex := 80, attributes := #[] }] 49 2 #[] #[])
  fields := #[]
  methods := #[k1m0, k1m1]
  instanceTypes := #[]
  staticTypes := #[]
  resolved := Array.replicate 88 none
  statics := none }

def pool2 : Array CpInfo := pool [(1, .class_ 2), (0, u "java/lang/constant/Constable"), (0, .class_ 4), (0, u "java/lang/Object")] 6

/-- java/lang/constant/Constable -/
def k2 : Class := { plain "java/lang/constant/Constable" (some 0) with
  accessFlags := 1537
  interfaces := #[]
  cf := some (fileOf pool2 1 #[] #[] 1537 3 #[] #[])
  fields := #[]
  methods := #[]
  instanceTypes := #[]
  staticTypes := #[]
  resolved := Array.replicate 11 none
  statics := none }

def pool3 : Array CpInfo := pool [(1, .class_ 2), (0, u "java/lang/Comparable"), (0, .class_ 4), (0, u "java/lang/Object")] 7

/-- java/lang/Comparable -/
def k3 : Class := { plain "java/lang/Comparable" (some 0) with
  accessFlags := 1537
  interfaces := #[]
  cf := some (fileOf pool3 1 #[] #[] 1537 3 #[] #[])
  fields := #[]
  methods := #[]
  instanceTypes := #[]
  staticTypes := #[]
  resolved := Array.replicate 12 none
  statics := none }

def pool4 : Array CpInfo := pool [(1, .class_ 2), (0, u "java/io/Serializable"), (0, .class_ 4), (0, u "java/lang/Object")] 2

/-- java/io/Serializable -/
def k4 : Class := { plain "java/io/Serializable" (some 0) with
  accessFlags := 1537
  interfaces := #[]
  cf := some (fileOf pool4 1 #[] #[] 1537 3 #[] #[])
  fields := #[]
  methods := #[]
  instanceTypes := #[]
  staticTypes := #[]
  resolved := Array.replicate 7 none
  statics := none }

def pool5 : Array CpInfo := pool [(2, .class_ 4), (1, u "java/lang/Enum"), (0, u "name"), (0, u "Ljava/lang/String;"), (2, u "ordinal"), (0, u "I"), (1, .class_ 14), (1, u "java/lang/Object"), (4, u "hash"), (86, .class_ 108), (1, u "java/lang/Enum$EnumDesc"), (2, .class_ 112), (0, u "java/lang/constant/Constable"), (0, .class_ 114), (0, u "java/lang/Comparable"), (0, .class_ 116), (0, u "java/io/Serializable")] 87

/-- java/lang/Enum -/
def k5 : Class := { plain "java/lang/Enum" (some 0) with
  accessFlags := 1057
  interfaces := #[2, 3, 4]
  cf := some (fileOf pool5 2 #[.nestMembers #[106]] #[] 1057 12 #[111, 113, 115] #[{ accessFlags := 18, nameIndex := 5, descriptorIndex := 6, attributes := #[] }, { accessFlags := 18, nameIndex := 9, descriptorIndex := 10, attributes := #[] }, { accessFlags := 2, nameIndex := 19, descriptorIndex := 10, attributes := #[] }])
  fields := #[{ name := "name", type := (.object "java/lang/String"), accessFlags := 18, slot := 0, constantValue := 0 }, { name := "ordinal", type := .int, accessFlags := 18, slot := 1, constantValue := 0 }, { name := "hash", type := .int, accessFlags := 2, slot := 2, constantValue := 0 }]
  methods := #[]
  instanceTypes := #[(.object "java/lang/String"), .int, .int]
  staticTypes := #[]
  resolved := Array.replicate 204 none
  statics := none }

def pool6 : Array CpInfo := pool [(3, .class_ 4), (0, u "com/example/fencer/fencer/protocol/ApiKey"), (2, u "PRODUCE"), (0, u "Lcom/example/fencer/fencer/protocol/ApiKey;"), (2, u "FETCH"), (2, u "LIST_OFFSETS"), (2, u "METADATA"), (2, u "OFFSET_COMMIT"), (2, u "OFFSET_FETCH"), (2, u "FIND_COORDINATOR"), (2, u "JOIN_GROUP"), (2, u "HEARTBEAT"), (2, u "LEAVE_GROUP"), (2, u "SYNC_GROUP"), (2, u "API_VERSIONS"), (2, u "CREATE_TOPICS"), (2, u "DELETE_TOPICS"), (2, u "INIT_PRODUCER_ID"), (2, u "ADD_PARTITIONS_TO_TXN"), (2, u "ADD_OFFSETS_TO_TXN"), (2, u "END_TXN"), (2, u "TXN_OFFSET_COMMIT"), (2, u "CREATE_PARTITIONS"), (2, u "$VALUES"), (0, u "[Lcom/example/fencer/fencer/protocol/ApiKey;"), (6, .class_ 78), (1, u "java/lang/Enum"), (12, u "id"), (0, u "S"), (0, .fieldref 3 94), (0, .nameAndType 95 92), (0, u "minVersion"), (0, .fieldref 3 97), (0, .nameAndType 98 92), (0, u "maxVersion"), (2, u "firstFlexibleVersion"), (0, u "I"), (7, u "(S)Z"), (26, u "NOT_FLEXIBLE"), (12, u "supports")] 6

def k6c0 : Code := { maxStack := 2, maxLocals := 2, code := prog_45_method_9_code, exceptionTable := #[], attributes := #[] }
def k6m0 : Method := { name := "supports", desc := "(S)Z", sig := { parameters := [.short], returnType := some .boolean }, accessFlags := 1, code := some k6c0 }
/-- com/example/fencer/fencer/protocol/ApiKey -/
def k6 : Class := { plain "com/example/fencer/fencer/protocol/ApiKey" (some 5) with
  accessFlags := 16433
  interfaces := #[]
  cf := some (fileOf pool6 3 #[] #[{ accessFlags := 1, nameIndex := 150, descriptorIndex := 110, attributes := #[] }] 16433 76 #[] #[{ accessFlags := 16409, nameIndex := 7, descriptorIndex := 8, attributes := #[] }, { accessFlags := 16409, nameIndex := 11, descriptorIndex := 8, attributes := #[] }, { accessFlags := 16409, nameIndex := 14, descriptorIndex := 8, attributes := #[] }, { accessFlags := 16409, nameIndex := 17, descriptorIndex := 8, attributes := #[] }, { accessFlags := 16409, nameIndex := 20, descriptorIndex := 8, attributes := #[] }, { accessFlags := 16409, nameIndex := 23, descriptorIndex := 8, attributes := #[] }, { accessFlags := 16409, nameIndex := 26, descriptorIndex := 8, attributes := #[] }, { accessFlags := 16409, nameIndex := 29, descriptorIndex := 8, attributes := #[] }, { accessFlags := 16409, nameIndex := 32, descriptorIndex := 8, attributes := #[] }, { accessFlags := 16409, nameIndex := 35, descriptorIndex := 8, attributes := #[] }, { accessFlags := 16409, nameIndex := 38, descriptorIndex := 8, attributes := #[] }, { accessFlags := 16409, nameIndex := 41, descriptorIndex := 8, attributes := #[] }, { accessFlags := 16409, nameIndex := 44, descriptorIndex := 8, attributes := #[] }, { accessFlags := 16409, nameIndex := 47, descriptorIndex := 8, attributes := #[] }, { accessFlags := 16409, nameIndex := 50, descriptorIndex := 8, attributes := #[] }, { accessFlags := 16409, nameIndex := 53, descriptorIndex := 8, attributes := #[] }, { accessFlags := 16409, nameIndex := 56, descriptorIndex := 8, attributes := #[] }, { accessFlags := 16409, nameIndex := 59, descriptorIndex := 8, attributes := #[] }, { accessFlags := 16409, nameIndex := 62, descriptorIndex := 8, attributes := #[] }, { accessFlags := 16409, nameIndex := 65, descriptorIndex := 8, attributes := #[] }, { accessFlags := 26, nameIndex := 137, descriptorIndex := 102, attributes := #[] }, { accessFlags := 18, nameIndex := 91, descriptorIndex := 92, attributes := #[] }, { accessFlags := 18, nameIndex := 95, descriptorIndex := 92, attributes := #[] }, { accessFlags := 18, nameIndex := 98, descriptorIndex := 92, attributes := #[] }, { accessFlags := 18, nameIndex := 101, descriptorIndex := 102, attributes := #[] }, { accessFlags := 4122, nameIndex := 68, descriptorIndex := 69, attributes := #[] }])
  fields := #[{ name := "PRODUCE", type := (.object "com/example/fencer/fencer/protocol/ApiKey"), accessFlags := 16409, slot := 0, constantValue := 0 }, { name := "FETCH", type := (.object "com/example/fencer/fencer/protocol/ApiKey"), accessFlags := 16409, slot := 1, constantValue := 0 }, { name := "LIST_OFFSETS", type := (.object "com/example/fencer/fencer/protocol/ApiKey"), accessFlags := 16409, slot := 2, constantValue := 0 }, { name := "METADATA", type := (.object "com/example/fencer/fencer/protocol/ApiKey"), accessFlags := 16409, slot := 3, constantValue := 0 }, { name := "OFFSET_COMMIT", type := (.object "com/example/fencer/fencer/protocol/ApiKey"), accessFlags := 16409, slot := 4, constantValue := 0 }, { name := "OFFSET_FETCH", type := (.object "com/example/fencer/fencer/protocol/ApiKey"), accessFlags := 16409, slot := 5, constantValue := 0 }, { name := "FIND_COORDINATOR", type := (.object "com/example/fencer/fencer/protocol/ApiKey"), accessFlags := 16409, slot := 6, constantValue := 0 }, { name := "JOIN_GROUP", type := (.object "com/example/fencer/fencer/protocol/ApiKey"), accessFlags := 16409, slot := 7, constantValue := 0 }, { name := "HEARTBEAT", type := (.object "com/example/fencer/fencer/protocol/ApiKey"), accessFlags := 16409, slot := 8, constantValue := 0 }, { name := "LEAVE_GROUP", type := (.object "com/example/fencer/fencer/protocol/ApiKey"), accessFlags := 16409, slot := 9, constantValue := 0 }, { name := "SYNC_GROUP", type := (.object "com/example/fencer/fencer/protocol/ApiKey"), accessFlags := 16409, slot := 10, constantValue := 0 }, { name := "API_VERSIONS", type := (.object "com/example/fencer/fencer/protocol/ApiKey"), accessFlags := 16409, slot := 11, constantValue := 0 }, { name := "CREATE_TOPICS", type := (.object "com/example/fencer/fencer/protocol/ApiKey"), accessFlags := 16409, slot := 12, constantValue := 0 }, { name := "DELETE_TOPICS", type := (.object "com/example/fencer/fencer/protocol/ApiKey"), accessFlags := 16409, slot := 13, constantValue := 0 }, { name := "INIT_PRODUCER_ID", type := (.object "com/example/fencer/fencer/protocol/ApiKey"), accessFlags := 16409, slot := 14, constantValue := 0 }, { name := "ADD_PARTITIONS_TO_TXN", type := (.object "com/example/fencer/fencer/protocol/ApiKey"), accessFlags := 16409, slot := 15, constantValue := 0 }, { name := "ADD_OFFSETS_TO_TXN", type := (.object "com/example/fencer/fencer/protocol/ApiKey"), accessFlags := 16409, slot := 16, constantValue := 0 }, { name := "END_TXN", type := (.object "com/example/fencer/fencer/protocol/ApiKey"), accessFlags := 16409, slot := 17, constantValue := 0 }, { name := "TXN_OFFSET_COMMIT", type := (.object "com/example/fencer/fencer/protocol/ApiKey"), accessFlags := 16409, slot := 18, constantValue := 0 }, { name := "CREATE_PARTITIONS", type := (.object "com/example/fencer/fencer/protocol/ApiKey"), accessFlags := 16409, slot := 19, constantValue := 0 }, { name := "NOT_FLEXIBLE", type := .int, accessFlags := 26, slot := 20, constantValue := 0 }, { name := "id", type := .short, accessFlags := 18, slot := 3, constantValue := 0 }, { name := "minVersion", type := .short, accessFlags := 18, slot := 4, constantValue := 0 }, { name := "maxVersion", type := .short, accessFlags := 18, slot := 5, constantValue := 0 }, { name := "firstFlexibleVersion", type := .int, accessFlags := 18, slot := 6, constantValue := 0 }, { name := "$VALUES", type := (.array (.object "com/example/fencer/fencer/protocol/ApiKey")), accessFlags := 4122, slot := 21, constantValue := 0 }]
  methods := #[k6m0]
  instanceTypes := #[(.object "java/lang/String"), .int, .int, .short, .short, .short, .int]
  staticTypes := #[(.object "com/example/fencer/fencer/protocol/ApiKey"), (.object "com/example/fencer/fencer/protocol/ApiKey"), (.object "com/example/fencer/fencer/protocol/ApiKey"), (.object "com/example/fencer/fencer/protocol/ApiKey"), (.object "com/example/fencer/fencer/protocol/ApiKey"), (.object "com/example/fencer/fencer/protocol/ApiKey"), (.object "com/example/fencer/fencer/protocol/ApiKey"), (.object "com/example/fencer/fencer/protocol/ApiKey"), (.object "com/example/fencer/fencer/protocol/ApiKey"), (.object "com/example/fencer/fencer/protocol/ApiKey"), (.object "com/example/fencer/fencer/protocol/ApiKey"), (.object "com/example/fencer/fencer/protocol/ApiKey"), (.object "com/example/fencer/fencer/protocol/ApiKey"), (.object "com/example/fencer/fencer/protocol/ApiKey"), (.object "com/example/fencer/fencer/protocol/ApiKey"), (.object "com/example/fencer/fencer/protocol/ApiKey"), (.object "com/example/fencer/fencer/protocol/ApiKey"), (.object "com/example/fencer/fencer/protocol/ApiKey"), (.object "com/example/fencer/fencer/protocol/ApiKey"), (.object "com/example/fencer/fencer/protocol/ApiKey"), .int, (.array (.object "com/example/fencer/fencer/protocol/ApiKey"))]
  resolved := Array.replicate 157 none
  statics := some 0 }

def pool7 : Array CpInfo := pool [(1, u "java/lang/Cloneable"), (0, .class_ 1), (0, u "java/lang/Object"), (0, .class_ 3)] 3

/-- java/lang/Cloneable -/
def k7 : Class := { plain "java/lang/Cloneable" (some 0) with
  accessFlags := 1537
  interfaces := #[]
  cf := some (fileOf pool7 2 #[] #[] 1537 4 #[] #[])
  fields := #[]
  methods := #[]
  instanceTypes := #[]
  staticTypes := #[]
  resolved := Array.replicate 8 none
  statics := none }

/-- the primitive byte -/
def k8 : Class := { plain "byte" none with kind := .primitive 'B', accessFlags := 0x411 }
/-- [B -/
def k9 : Class := { plain "[B" (some 0) with kind := .array 8 .byte, interfaces := #[7, 4], accessFlags := 1041 }

/-- the primitive int -/
def k10 : Class := { plain "int" none with kind := .primitive 'I', accessFlags := 0x411 }
/-- [I -/
def k11 : Class := { plain "[I" (some 0) with kind := .array 10 .int, interfaces := #[7, 4], accessFlags := 1041 }

/-- [Lcom/example/fencer/fencer/protocol/ApiKey; -/
def k12 : Class := { plain "[Lcom/example/fencer/fencer/protocol/ApiKey;" (some 0) with kind := .array 6 (.object "com/example/fencer/fencer/protocol/ApiKey"), interfaces := #[7, 4], accessFlags := 1041 }

def heap : Heap := #[{ cls := 6, slots := #[.ref 1, .ref 2, .ref 3, .ref 4, .ref 5, .ref 6, .ref 7, .ref 8, .ref 9, .ref 10, .ref 11, .ref 12, .ref 13, .ref 14, .ref 15, .ref 16, .ref 17, .ref 18, .ref 19, .ref 20, .int 0, .null], vm := .statics 6 },
  { cls := 6, slots := #[.null, .int 0, .int 0, .int 0, .int 0, .int 7, .int 0], vm := .none },
  { cls := 6, slots := #[.null, .int 0, .int 0, .int 0, .int 4, .int 11, .int 0], vm := .none },
  { cls := 6, slots := #[.null, .int 0, .int 0, .int 0, .int 1, .int 2, .int 0], vm := .none },
  { cls := 6, slots := #[.null, .int 0, .int 0, .int 0, .int 0, .int 4, .int 0], vm := .none },
  { cls := 6, slots := #[.null, .int 0, .int 0, .int 0, .int 2, .int 7, .int 0], vm := .none },
  { cls := 6, slots := #[.null, .int 0, .int 0, .int 0, .int 1, .int 7, .int 0], vm := .none },
  { cls := 6, slots := #[.null, .int 0, .int 0, .int 0, .int 0, .int 2, .int 0], vm := .none },
  { cls := 6, slots := #[.null, .int 0, .int 0, .int 0, .int 0, .int 5, .int 0], vm := .none },
  { cls := 6, slots := #[.null, .int 0, .int 0, .int 0, .int 0, .int 3, .int 0], vm := .none },
  { cls := 6, slots := #[.null, .int 0, .int 0, .int 0, .int 0, .int 3, .int 0], vm := .none },
  { cls := 6, slots := #[.null, .int 0, .int 0, .int 0, .int 0, .int 3, .int 0], vm := .none },
  { cls := 6, slots := #[.null, .int 0, .int 0, .int 0, .int 0, .int 3, .int 0], vm := .none },
  { cls := 6, slots := #[.null, .int 0, .int 0, .int 0, .int 0, .int 4, .int 0], vm := .none },
  { cls := 6, slots := #[.null, .int 0, .int 0, .int 0, .int 0, .int 3, .int 0], vm := .none },
  { cls := 6, slots := #[.null, .int 0, .int 0, .int 0, .int 0, .int 1, .int 0], vm := .none },
  { cls := 6, slots := #[.null, .int 0, .int 0, .int 0, .int 0, .int 0, .int 0], vm := .none },
  { cls := 6, slots := #[.null, .int 0, .int 0, .int 0, .int 0, .int 0, .int 0], vm := .none },
  { cls := 6, slots := #[.null, .int 0, .int 0, .int 0, .int 0, .int 1, .int 0], vm := .none },
  { cls := 6, slots := #[.null, .int 0, .int 0, .int 0, .int 0, .int 3, .int 0], vm := .none },
  { cls := 6, slots := #[.null, .int 0, .int 0, .int 0, .int 0, .int 1, .int 0], vm := .none }]
def classes : Array Class := #[k0, k1, k2, k3, k4, k5, k6, k7, k8, k9, k10, k11, k12]
def interned : List (Array UInt16 × Addr) := []
def slotsUsed : Nat := 162
def theMethod : MethodId := ⟨1, 1⟩
def args0 : Array Value := #[.int 5, .int 6, .int 7]
def aboutOver (below : List Frame) : State where
  vm := { classes := classes, interned := interned.toArray }
  heap := heap
  slotsUsed := slotsUsed
  threads := #[{ frames := .invoking theMethod args0 :: below }]
def below0 : List Frame := [.native { method := ⟨0, 0⟩, args := #[] }]
def about1 : State := aboutOver below0
def p0 : Program := .bare "" "" ""
def e0 : Env := launch0.env 0 0 0
theorem w_frames : about1.frames = Frame.invoking theMethod args0 :: below0 := rfl
set_option maxRecDepth 65536 in
theorem w_args : argsFit about1.vm theMethod args0 = true := by decide +kernel
set_option maxRecDepth 65536 in
theorem w_heap : heapFits about1 = true := by decide +kernel
set_option maxRecDepth 65536 in
theorem w_runnable : about1.curStatus? = some .runnable := by decide +kernel
set_option maxRecDepth 65536 in
theorem w_alone : about1.alone = true := by decide +kernel
set_option maxRecDepth 65536 in
theorem w_named : about1.methodNamed? x = some theMethod := by decide +kernel
set_option maxRecDepth 65536 in
theorem w_hears : about1.hears theMethod below0 = true := by decide +kernel
set_option maxRecDepth 65536 in
theorem w_ripe : about1.ripe theMethod args0 below0 = true := by decide +kernel
theorem w_running : about1.status = .running := rfl
set_option maxRecDepth 65536 in
theorem w_room : about1.hasRoom e0.platform room_1 = true :=
  launch0.hasRoom_least _ room_1 (by decide +kernel) (by decide +kernel) (by decide +kernel) (by decide +kernel) (by decide +kernel) (by decide +kernel)
theorem allAtoms_all (ts : List Jvm.Cond) (a : Array Jvm.Value) (st : Jvm.State) : (allAtoms ts).before a st = ts.all (fun c => c.before a st) := by
  induction ts with
  | nil => rfl
  | cons c t ih =>
    show (Jvm.Cond.and c (allAtoms t)).before a st = _
    rw [Jvm.Cond.before_and, ih, List.all_cons]
def words1 : List Jvm.Cond := Jvm.Cond.code x code maxLocals ret :: tables_1
/-- a 'code' word, met by the world's own term for the bytes: nothing is compared byte by byte -/
theorem code_word {y : MethodName} {bytes : ByteArray} {mx : Nat} {rt : Option FieldType} {a : Array Value} {s : State} {m : MethodId} {meth : Method} {c : Code} (h1 : s.methodNamed? y = some m) (h2 : s.vm.method? m = some meth) (h3 : meth.code = some c) (h4 : c.code = bytes)
    (h5 : (c.maxLocals == mx && c.exceptionTable.isEmpty && decide (c.maxStack ≤ mostOperands) && decide (meth.sig.returnType = rt) && !meth.locks && decide (parseMethodDescriptor y.desc = some meth.sig)) = true) : (Jvm.Cond.code y bytes mx rt).before a s = true := by
  simp only [Bool.and_eq_true, beq_iff_eq, Bool.not_eq_true', decide_eq_true_eq] at h5
  obtain ⟨⟨⟨⟨⟨g1, g2⟩, g3⟩, g4⟩, g5⟩, g6⟩ := h5
  simp [Cond.before, Cond.holds, Cond.value, h1, h2, h3, h4, g1, g2, g3, g4, g5, g6]
def isCode : Jvm.Cond → Bool
  | .code _ _ _ _ => true
  | _ => false
theorem all_split {L : List Jvm.Cond} {P : Jvm.Cond → Bool} (h1 : L.all (fun c => isCode c || P c) = true) (h2 : ∀ c ∈ L.filter isCode, P c = true) : L.all P = true := by
  refine List.all_eq_true.mpr fun c hc => ?_
  have h := List.all_eq_true.mp h1 c hc
  rcases Bool.eq_false_or_eq_true (isCode c) with hi | hi
  · exact h2 c (List.mem_filter.mpr ⟨hc, hi⟩)
  · simpa [hi] using h
set_option maxRecDepth 65536 in
theorem w_c0 : (Jvm.Cond.code x code maxLocals ret).before args0 about1 = true := code_word (m := ⟨1, 1⟩) (meth := k1m1) (c := k1c1) (by decide +kernel) rfl rfl rfl (by decide +kernel)
set_option maxRecDepth 65536 in
theorem w_c1 : (Jvm.Cond.code ({ cls := "com/example/fencer/fencer/protocol/ApiKey", name := "supports", desc := "(S)Z" } : Jvm.MethodName) prog_45_method_9_code (2 : Nat) (Option.some Jvm.ClassFile.FieldType.boolean)).before args0 about1 = true := code_word (m := ⟨6, 0⟩) (meth := k6m0) (c := k6c0) (by decide +kernel) rfl rfl rfl (by decide +kernel)
def codes1 : List Jvm.Cond := [Jvm.Cond.code x code maxLocals ret, Jvm.Cond.code ({ cls := "com/example/fencer/fencer/protocol/ApiKey", name := "supports", desc := "(S)Z" } : Jvm.MethodName) prog_45_method_9_code (2 : Nat) (Option.some Jvm.ClassFile.FieldType.boolean)]
set_option maxRecDepth 65536 in
theorem codes_eq : words1.filter isCode = codes1 := rfl
theorem w_codes : ∀ c ∈ words1.filter isCode, c.before args0 about1 = true := by
  rw [codes_eq]
  intro c hc
  simp only [codes1, List.mem_cons, List.not_mem_nil, or_false] at hc
  rcases hc with rfl | rfl
  · exact w_c0
  · exact w_c1
set_option maxRecDepth 65536 in
theorem w_t1 : (words1.take 24).all (fun c => isCode c || c.before args0 about1) = true := by decide +kernel
set_option maxRecDepth 65536 in
theorem w_t2 : ((words1.drop 24).take 24).all (fun c => isCode c || c.before args0 about1) = true := by decide +kernel
set_option maxRecDepth 65536 in
theorem w_t3 : ((words1.drop 24).drop 24).all (fun c => isCode c || c.before args0 about1) = true := by decide +kernel
theorem w_tables : (allAtoms (Jvm.Cond.code x code maxLocals ret :: tables_1)).before args0 about1 = true := by
  rw [allAtoms_all]
  show words1.all (fun c => c.before args0 about1) = true
  refine all_split ?_ w_codes
  rw [← List.take_append_drop 24 words1, List.all_append, w_t1, ← List.take_append_drop 24 (words1.drop 24), List.all_append, w_t2, w_t3]
  rfl
set_option maxRecDepth 65536 in
theorem w_case : (Jvm.Cond.and given_1 narrow_1).before args0 about1 = true := by decide +kernel
theorem w_applies : (headSpec (Jvm.Cond.code x code maxLocals ret :: tables_1) room_1).applies x e0.platform about1 = true :=
  (Spec.applies_iff w_frames).mpr ⟨w_running, w_runnable, w_alone, w_named, w_hears, w_ripe, w_room, w_tables⟩
theorem atStart : AtStart classFile x code maxLocals ret World_1 tables_1 room_1 Calls_1 rest_1 Pre_1 launch0 p0 e0 about1 theMethod args0 below0 :=
  ⟨lists_1, trivial, launch0.admits_env _ _ _, launch0.least_env, fairChoices_fair.cas, fairChoices_fair.clock, w_frames, w_args, w_heap, w_applies, trivial, trivial, w_case⟩
end start1
theorem witness_1 : WitnessClaimed_1 := ⟨start1.p0, start1.e0, start1.about1, start1.theMethod, start1.args0, start1.below0, start1.atStart⟩
end Jvm.Pilot.@@N@@
