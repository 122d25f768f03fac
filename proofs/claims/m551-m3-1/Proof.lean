import JvmDerived
import JvmDerived.Pilot.@@N@@Statement
import JvmDerived.Pilot.@@N@@Code
set_option linter.unusedVariables false
set_option linter.unusedSimpArgs false
namespace Jvm.Pilot.@@N@@
open Jvm Jvm.ClassFile Sem Op Lib Jvm.Free Jvm.Stand Jvm.LawKit Jvm.RoadKit Bundle Jvm.Pilot.@@N@@.Jvm.D
abbrev jv (x : Int64) : Slot := .val (.long x)
section OwnKit
variable {p : Program} {l : Launch} {e : Env} {R : Room} {s : State} {m : MethodId} {args : Array Value} {below : List Frame} {meth : Method} {c : Code} {T T' : State} {locs : List Loc} {cells slots kc ks : Nat} {Q : Option Value → Heap → List Loc → Prop} {g g' : JFrame}
/-- from the state T, its top frame g, the invocation comes to its end with Q -/
def own_WP (p : Program) (e : Env) (below : List Frame) (s : State) (Q : Option Value → Heap → List Loc → Prop) (kc ks : Nat) (T : State) (g : JFrame) : Prop :=
  ∃ s₂ o, Steps p.tables e below (T.setTop g) s₂ ∧ s₂.status = .running ∧ Ended s₂ below o ∧ ∃ v L, o = .returned v ∧ Q v s₂.heap L ∧ FrameEnd s o s₂ L kc ks
theorem own_step (h : ∀ t, Steps p.tables e below (T'.setTop g') t → Steps p.tables e below (T.setTop g) t) (hr : own_WP p e below s Q kc ks T' g') : own_WP p e below s Q kc ks T g := by
  obtain ⟨s₂, o, h1, h2⟩ := hr
  exact ⟨s₂, o, h _ h1, h2⟩
theorem own_st (g' : JFrame) (h : ∀ t, Steps p.tables e below (T.setTop g') t → Steps p.tables e below (T.setTop g) t) (hr : own_WP p e below s Q kc ks T g') : own_WP p e below s Q kc ks T g := own_step h hr
theorem own_jump (h : Steps p.tables e below (T.setTop g) (T'.setTop g')) (hr : own_WP p e below s Q kc ks T' g') : own_WP p e below s Q kc ks T g := by
  obtain ⟨s₂, o, h1, h2⟩ := hr
  exact ⟨s₂, o, h.trans h1, h2⟩
theorem own_ret (X : Stand p l e R s m args below meth c T locs cells slots) (hlk : meth.locks = false) {v : Option Value} (hv : meth.sig.returnType = none → v = none)
    (hst : ∀ fs, (∀ (f : JFrame) (acts : List Action), f.method = m → f.locked = none → f.entered = [] → (doReturn e (T.setTop f) acts v).1 = T.setFrames fs) → Steps p.tables e below (T.setTop g) (T.setFrames fs))
    (hq : Q v T.heap locs) (h1 : cells ≤ kc) (h2 : slots ≤ ks) : own_WP p e below s Q kc ks T g := by
  obtain ⟨fs, hr, hrun, hended, hW, hsame⟩ := X.leave (v := v) hv hlk
  exact ⟨_, _, hst fs hr, hrun, hended, v, locs, rfl, hq, ⟨v, rfl⟩, hW, hsame.mono h1 h2⟩
theorem own_wide (X : Stand p l e R s m args below meth c T locs cells slots) {cells' slots' : Nat} (h1 : cells ≤ cells') (h2 : slots ≤ slots') : Stand p l e R s m args below meth c T locs cells' slots' :=
  ⟨X.admits, X.cas, X.clock, X.frames, X.room, X.hears, X.method, X.code, X.here, X.tail, X.warmed, X.limits, X.bytes, X.same.mono h1 h2⟩
end OwnKit
theorem own_body {l : Launch} {y : MethodName} {bytes : ByteArray} {maxL : Nat} {ret : Option FieldType} {ws : List Jvm.Cond} {rm : Room} {A : Array Value} {Z : State} {h0 : Heap} {Q : Option Value → Heap → List Loc → Prop} {ls : Array Slot} {kc ks : Nat}
    (hpl : plainFor y = true) (ef : ∀ m, entryFrame m A maxL = mkF m 0 ls [])
    (body : ∀ (p : Program) (e : Env) (s : State) (m : MethodId) (below : List Frame) (meth : Method) (c : Code) (T : State), Stand p l e rm s m A below meth c T [] 0 0 → p.tables.exec = Jvm.exec → c.code = bytes → c.maxLocals = maxL → Z.Warmed39 s.vm → s.vm.findClass y.cls = some m.cls → meth.name = y.name → meth.sig.returnType = ret → meth.locks = false → T.heap = h0 →
      own_WP p e below s Q kc ks T (mkF m 0 ls [])) :
    MetFree l y (head1 (Jvm.Cond.code y bytes maxL ret :: ws) rm) (fun a U => a = A ∧ Z.Warmed39 U.vm ∧ U.heap = h0) (fun _ _ _ _ _ => True) (fun _ U o U' => ∃ v L, o = .returned v ∧ Q v U'.heap L ∧ FrameEnd U o U' L kc ks) := by
  refine MetFree.of_bodySF hpl hisR ?_
  intro p e s m args below meth c s₁ Bd hml0 hP hK
  obtain ⟨rfl, hZ, hh⟩ := hP
  obtain ⟨s₂, o, h1, h2⟩ := body p e s m below meth c s₁ (Stand.of_body Bd) Bd.exec Bd.bytes hml0 hZ (findClass_of_methodNamed Bd.named) (name_of_methodNamed Bd.named Bd.method).1 Bd.returns Bd.notSynchronized (by rw [← hh, Bd.state]; rfl)
  exact ⟨s₂, o, castTop (ef m) h1, h2⟩
theorem own_llt1 {x y : Int64} (h : x < y) : ifCond.holds .lt (lcmpW x y) = true := (if0 _ _).trans (tlt ((lw_lt x y).mpr h)).1
theorem own_llt0 {x y : Int64} (h : ¬ x < y) : ifCond.holds .lt (lcmpW x y) = false := (if0 _ _).trans (flt (mt (lw_lt x y).mp h)).1
theorem own_lge1 {x y : Int64} (h : ¬ x < y) : ifCond.holds .ge (lcmpW x y) = true := (if0 _ _).trans (flt (mt (lw_lt x y).mp h)).2.1
theorem own_lge0 {x y : Int64} (h : x < y) : ifCond.holds .ge (lcmpW x y) = false := (if0 _ _).trans (tlt ((lw_lt x y).mpr h)).2.1
theorem own_lgt1 {x y : Int64} (h : y < x) : ifCond.holds .gt (lcmpW x y) = true := (if0 _ _).trans (tlt ((lw_gt x y).mpr h)).2.2.1
theorem own_lgt0 {x y : Int64} (h : ¬ y < x) : ifCond.holds .gt (lcmpW x y) = false := (if0 _ _).trans (flt (mt (lw_gt x y).mp h)).2.2.1
theorem own_lle1 {x y : Int64} (h : ¬ y < x) : ifCond.holds .le (lcmpW x y) = true := (if0 _ _).trans (flt (mt (lw_gt x y).mp h)).2.2.2
theorem own_lle0 {x y : Int64} (h : y < x) : ifCond.holds .le (lcmpW x y) = false := (if0 _ _).trans (tlt ((lw_gt x y).mpr h)).2.2.2
theorem own_leq1 {x y : Int64} (h : x = y) : ifCond.holds .eq (lcmpW x y) = true := (if0 _ _).trans (teq ((lw_eq x y).mpr h)).1
theorem own_leq0 {x y : Int64} (h : ¬ x = y) : ifCond.holds .eq (lcmpW x y) = false := (if0 _ _).trans (feq (mt (lw_eq x y).mp h)).1
theorem own_lne1 {x y : Int64} (h : ¬ x = y) : ifCond.holds .ne (lcmpW x y) = true := (if0 _ _).trans (feq (mt (lw_eq x y).mp h)).2
theorem own_lne0 {x y : Int64} (h : x = y) : ifCond.holds .ne (lcmpW x y) = false := (if0 _ _).trans (teq ((lw_eq x y).mpr h)).2
theorem own_eqint {t : Term} {n : Int32} {args : Array Value} {first s : State} {o : Option Outcome} {idx : List Nat} (h : (Jvm.Cond.eq t (.int n)).value args first o s idx = some true) : t.eval args first o idx s = some (.int n) :=
  Jvm.Cond.eq_int (beq_iff_eq.mpr h : (Jvm.Cond.eq t (.int n)).holds args first o s idx = true) rfl

theorem own_b64 {n : Int} (h1 : -2 ^ 63 ≤ n) (h2 : n < 2 ^ 63) : n.bmod (2 ^ 64) = n := by rw [Int.bmod_def]; omega
theorem own_add64 {x y : Int64} (h1 : -2 ^ 63 ≤ x.toInt + y.toInt) (h2 : x.toInt + y.toInt < 2 ^ 63) : (x + y).toInt = x.toInt + y.toInt := by rw [Int64.toInt_add, own_b64 h1 h2]
theorem own_sub64 {x y : Int64} (h1 : -2 ^ 63 ≤ x.toInt - y.toInt) (h2 : x.toInt - y.toInt < 2 ^ 63) : (x - y).toInt = x.toInt - y.toInt := by rw [Int64.toInt_sub, own_b64 h1 h2]
theorem own_mul64 {x y : Int64} (h1 : -2 ^ 63 ≤ x.toInt * y.toInt) (h2 : x.toInt * y.toInt < 2 ^ 63) : (x * y).toInt = x.toInt * y.toInt := by rw [Int64.toInt_mul, own_b64 h1 h2]
theorem own_div64 {x y : Int64} (hx : 0 ≤ x.toInt) (hy : 0 < y.toInt) : (x / y).toInt = x.toInt / y.toInt := by
  rw [Int64.toInt_div, Int.tdiv_eq_ediv_of_nonneg hx]
  have h1 : 0 ≤ x.toInt / y.toInt := Int.ediv_nonneg hx (by omega)
  have h2 : x.toInt / y.toInt ≤ x.toInt := Int.ediv_le_self _ hx
  have h3 := x.toInt_lt
  exact own_b64 (by omega) (by omega)
theorem own_mod64 {x y : Int64} (hx : 0 ≤ x.toInt) : (x % y).toInt = x.toInt % y.toInt := by
  rw [Int64.toInt_mod, Int.tmod_eq_emod_of_nonneg hx]
theorem own_lrem (x y : Int64) : x - (x / y) * y = x % y := by
  apply Int64.toInt_inj.mp
  have h1 := Int64.le_toInt (x % y)
  have h2 := Int64.toInt_lt (x % y)
  rw [Int64.toInt_sub, Int64.toInt_mul, Int64.toInt_div, Int.bmod_mul_bmod, Int.sub_bmod_bmod, Int.mul_comm (x.toInt.tdiv y.toInt), ← Int.tmod_def, ← Int64.toInt_mod]
  exact Int.bmod_eq_of_le_mul_two (by omega) (by omega)
theorem own_i64nat (v : Int64) : v.toInt = if v.toBitVec.toNat < 2 ^ 63 then (v.toBitVec.toNat : Int) else (v.toBitVec.toNat : Int) - 2 ^ 64 := by
  have := v.toBitVec.isLt
  rw [← Int64.toInt_toBitVec, BitVec.toInt_eq_toNat_cond]
  split <;> split <;> omega
theorem own_i32nat (v : Int32) : v.toInt = if v.toBitVec.toNat < 2 ^ 31 then (v.toBitVec.toNat : Int) else (v.toBitVec.toNat : Int) - 2 ^ 32 := by
  have := v.toBitVec.isLt
  rw [← Int32.toInt_toBitVec, BitVec.toInt_eq_toNat_cond]
  split <;> split <;> omega
/-- a mask of k ones, k at most 31 -/
theorem own_and32 (x m : Int32) {k : Nat} (hk : k ≤ 31) (hm : m.toBitVec.toNat = 2 ^ k - 1) : 0 ≤ (x &&& m).toInt ∧ (x &&& m).toInt < 2 ^ k ∧ (x &&& m).toBitVec.toNat = x.toBitVec.toNat % 2 ^ k := by
  have h1 := own_i32nat (x &&& m)
  have h2 : (x &&& m).toBitVec.toNat = x.toBitVec.toNat &&& m.toBitVec.toNat := rfl
  rw [hm, Nat.and_two_pow_sub_one_eq_mod] at h2
  have h3 : x.toBitVec.toNat % 2 ^ k < 2 ^ k := Nat.mod_lt _ (Nat.two_pow_pos k)
  have h4 : 2 ^ k ≤ 2 ^ 31 := Nat.pow_le_pow_right (by decide) hk
  rw [h2, if_pos (Nat.lt_of_lt_of_le h3 h4)] at h1
  refine ⟨by omega, ?_, h2⟩
  rw [h1]
  exact_mod_cast h3
theorem own_and64 (x m : Int64) {k : Nat} (hk : k ≤ 63) (hm : m.toBitVec.toNat = 2 ^ k - 1) : 0 ≤ (x &&& m).toInt ∧ (x &&& m).toInt < 2 ^ k ∧ (x &&& m).toBitVec.toNat = x.toBitVec.toNat % 2 ^ k := by
  have h1 := own_i64nat (x &&& m)
  have h2 : (x &&& m).toBitVec.toNat = x.toBitVec.toNat &&& m.toBitVec.toNat := rfl
  rw [hm, Nat.and_two_pow_sub_one_eq_mod] at h2
  have h3 : x.toBitVec.toNat % 2 ^ k < 2 ^ k := Nat.mod_lt _ (Nat.two_pow_pos k)
  have h4 : 2 ^ k ≤ 2 ^ 63 := Nat.pow_le_pow_right (by decide) hk
  rw [h2, if_pos (Nat.lt_of_lt_of_le h3 h4)] at h1
  refine ⟨by omega, ?_, h2⟩
  rw [h1]
  exact_mod_cast h3
theorem own_lremM {p : Program} {l : Launch} {e : Env} {R : Room} {s : State} {m : MethodId} {args : Array Value} {below : List Frame} {meth : Method} {c : Code} {T : State} {locs : List Loc} {cells slots : Nat} {g : JFrame} {target : State} (X : Stand p l e R s m args below meth c T locs cells slots) (hx : p.tables.exec = Jvm.exec) (hg : g.method = m) {x y : Int64} {rest : List Value} (hd : decode c.code g.pc = .ok (.lrem, 1)) (hs : g.stack = .long y :: .long x :: rest) (hy : y ≠ 0)
    (hr : Steps p.tables e below (T.setTop { g with pc := g.pc + 1, stack := .long (x % y) :: rest }) target) : Steps p.tables e below (T.setTop g) target :=
  XS.lrem X.here hx hg hd hs hy (by rw [own_lrem]; exact hr)
theorem own_pos_ne {x : Int64} (h : (0 : Int64) < x) : x ≠ 0 := fun q => by rw [q] at h; exact absurd h (by decide)

def own_by (a b : Int32) (f s d : Addr) : Addr := if b < a then f else if a < b then s else d
theorem own_d (a b : Int32) : (a.toInt64 - b.toInt64).toInt = a.toInt - b.toInt := by
  have h1 := a.toInt_lt
  have h2 := b.toInt_lt
  have h3 := a.le_toInt
  have h4 := b.le_toInt
  have ea : a.toInt64.toInt = a.toInt := Int32.toInt_toInt64 a
  have eb : b.toInt64.toInt = b.toInt := Int32.toInt_toInt64 b
  rw [own_sub64 (by omega) (by omega), ea, eb]
theorem own_gt {a b : Int32} {f s d : Addr} (h : (0 : Int64) < a.toInt64 - b.toInt64) : own_by a b f s d = f ∧ own_by b a f s d = s := by
  have e0 : (0 : Int64).toInt = 0 := rfl
  rw [Int64.lt_iff_toInt_lt, own_d, e0] at h
  unfold own_by
  simp only [Int32.lt_iff_toInt_lt]
  rw [if_pos (by omega), if_neg (by omega), if_pos (by omega)]
  exact ⟨rfl, rfl⟩
theorem own_lt {a b : Int32} {f s d : Addr} (h : a.toInt64 - b.toInt64 < (0 : Int64)) : own_by a b f s d = s ∧ own_by b a f s d = f := by
  have e0 : (0 : Int64).toInt = 0 := rfl
  rw [Int64.lt_iff_toInt_lt, own_d, e0] at h
  unfold own_by
  simp only [Int32.lt_iff_toInt_lt]
  rw [if_neg (by omega), if_pos (by omega), if_pos (by omega)]
  exact ⟨rfl, rfl⟩
theorem own_eq {a b : Int32} {f s d : Addr} (h : ¬ (0 : Int64) < a.toInt64 - b.toInt64) (h' : ¬ a.toInt64 - b.toInt64 < (0 : Int64)) : own_by a b f s d = d ∧ own_by b a f s d = d := by
  have e0 : (0 : Int64).toInt = 0 := rfl
  rw [Int64.lt_iff_toInt_lt, own_d, e0] at h h'
  unfold own_by
  simp only [Int32.lt_iff_toInt_lt]
  rw [if_neg (by omega), if_neg (by omega), if_neg (by omega), if_neg (by omega)]
  exact ⟨rfl, rfl⟩
theorem d1_0 : decode prog_69_method_5_code 0 = .ok (.iload_n 0, 1) := by decide +kernel
theorem d1_1 : decode prog_69_method_5_code 1 = .ok (.iload_n 1, 1) := by decide +kernel
theorem d1_2 : decode prog_69_method_5_code 2 = .ok (.if_icmp .le 10, 3) := by decide +kernel
theorem d1_5 : decode prog_69_method_5_code 5 = .ok (.getstatic 3, 3) := by decide +kernel
theorem hw_9 {a0 : Array Value} {Z : State} (hw : ∀ d ∈ tables_1, d.before a0 Z = true) : (Jvm.Cond.fieldLink "com/example/croupier/croupier/rating/Result$Outcome" (3 : Nat) "com/example/croupier/croupier/rating/Result$Outcome" "FIRST_WINS" "Lcom/example/croupier/croupier/rating/Result$Outcome;").before a0 Z = true := hw _ (List.mem_of_getElem? (i := 9) rfl)
theorem d1_8 : decode prog_69_method_5_code 8 = .ok (.astore_n 2, 1) := by decide +kernel
theorem d1_9 : decode prog_69_method_5_code 9 = .ok (.goto 19, 3) := by decide +kernel
theorem d1_28 : decode prog_69_method_5_code 28 = .ok (.aload_n 2, 1) := by decide +kernel
theorem d1_29 : decode prog_69_method_5_code 29 = .ok (.areturn, 1) := by decide +kernel
theorem d1_12 : decode prog_69_method_5_code 12 = .ok (.iload_n 0, 1) := by decide +kernel
theorem d1_13 : decode prog_69_method_5_code 13 = .ok (.iload_n 1, 1) := by decide +kernel
theorem d1_14 : decode prog_69_method_5_code 14 = .ok (.if_icmp .ge 10, 3) := by decide +kernel
theorem d1_17 : decode prog_69_method_5_code 17 = .ok (.getstatic 7, 3) := by decide +kernel
theorem hw_8 {a0 : Array Value} {Z : State} (hw : ∀ d ∈ tables_1, d.before a0 Z = true) : (Jvm.Cond.fieldLink "com/example/croupier/croupier/rating/Result$Outcome" (7 : Nat) "com/example/croupier/croupier/rating/Result$Outcome" "SECOND_WINS" "Lcom/example/croupier/croupier/rating/Result$Outcome;").before a0 Z = true := hw _ (List.mem_of_getElem? (i := 8) rfl)
theorem d1_20 : decode prog_69_method_5_code 20 = .ok (.astore_n 2, 1) := by decide +kernel
theorem d1_21 : decode prog_69_method_5_code 21 = .ok (.goto 7, 3) := by decide +kernel
theorem d1_24 : decode prog_69_method_5_code 24 = .ok (.getstatic 10, 3) := by decide +kernel
theorem hw_12 {a0 : Array Value} {Z : State} (hw : ∀ d ∈ tables_1, d.before a0 Z = true) : (Jvm.Cond.fieldLink "com/example/croupier/croupier/rating/Result$Outcome" (10 : Nat) "com/example/croupier/croupier/rating/Result$Outcome" "DRAW" "Lcom/example/croupier/croupier/rating/Result$Outcome;").before a0 Z = true := hw _ (List.mem_of_getElem? (i := 12) rfl)
theorem d1_27 : decode prog_69_method_5_code 27 = .ok (.astore_n 2, 1) := by decide +kernel
theorem pn_1 : plainName "com/example/croupier/croupier/rating/Result$Outcome" = true := by first | (simp [plainName, overriddenIn]; done) | decide +kernel
theorem own_ef1 (m : MethodId) (p1 : Int32) (p2 : Int32) : entryFrame m #[(.int p1), (.int p2)] 3 = mkF m 0 #[iv p1, iv p2, .unset] [] := by first | (simp [entryFrame, mkF, argsToLocals, Value.category]; done) | rfl
def own_Q1 (Z : State) (p1 : Int32) (p2 : Int32) (wf : Addr) (wk : Addr) (wd : Addr) (h0 : Heap) (n0 : Nat) (v : Option Value) (h : Heap) (L : List Loc) : Prop := v = some (.ref (own_by p1 p2 wf wk wd)) ∧ Fr n0 L ∧ h = h0
set_option maxRecDepth 65536 in
set_option maxHeartbeats 40000000 in
theorem own_rm1 (l : Launch) (Z : State) (a0 : Array Value) (hw : ∀ d ∈ tables_1, d.before a0 Z = true) (ws : List Jvm.Cond) (p1 : Int32) (p2 : Int32) (wf : Addr) (wk : Addr) (wd : Addr) (h0 : Heap) (n0 : Nat) (Z0 : n0 ≤ h0.size) (O0 : Old Z n0 h0) (S_wf : Sta Z Z.heap "com/example/croupier/croupier/rating/Result$Outcome" "FIRST_WINS" "Lcom/example/croupier/croupier/rating/Result$Outcome;" (.ref wf)) (S_wk : Sta Z Z.heap "com/example/croupier/croupier/rating/Result$Outcome" "SECOND_WINS" "Lcom/example/croupier/croupier/rating/Result$Outcome;" (.ref wk)) (S_wd : Sta Z Z.heap "com/example/croupier/croupier/rating/Result$Outcome" "DRAW" "Lcom/example/croupier/croupier/rating/Result$Outcome;" (.ref wd)) :
    MetFree l (⟨"com/example/croupier/croupier/rating/Result$Outcome", "byPoints", "(II)Lcom/example/croupier/croupier/rating/Result$Outcome;"⟩ : MethodName) (head1 (Jvm.Cond.code (⟨"com/example/croupier/croupier/rating/Result$Outcome", "byPoints", "(II)Lcom/example/croupier/croupier/rating/Result$Outcome;"⟩ : MethodName) prog_69_method_5_code 3 (some (.object "com/example/croupier/croupier/rating/Result$Outcome")) :: ws) ({ frames := 0, cells := 0, slots := 0, locals := 0 } : Room)) (fun a U => a = #[(.int p1), (.int p2)] ∧ Z.Warmed39 U.vm ∧ U.heap = h0) (fun _ _ _ _ _ => True) (fun _ U o U' => ∃ v L, o = .returned v ∧ own_Q1 Z p1 p2 wf wk wd h0 n0 v U'.heap L ∧ FrameEnd U o U' L ({ frames := 0, cells := 0, slots := 0, locals := 0 } : Room).cells ({ frames := 0, cells := 0, slots := 0, locals := 0 } : Room).slots) := by
  refine own_body (plainFor_of_name pn_1) (fun m => own_ef1 m p1 p2) ?_
  intro p e s m below meth c T0 X0 hx hby hml hZ hown hnm hret hlk e0
  have hown : s.vm.findClass "com/example/croupier/croupier/rating/Result$Outcome" = some m.cls := hown
  have hnm : meth.name = "byPoints" := hnm
  have N0 := Fr.nil n0
  refine own_st (mkF m 1 #[iv p1, iv p2, .unset] [(.int p1)]) (fun t k => XS.iloadN X0.here hx rfl (hb hby d1_0) rfl k) ?_
  refine own_st (mkF m 2 #[iv p1, iv p2, .unset] [(.int p2), (.int p1)]) (fun t k => XS.iloadN X0.here hx rfl (hb hby d1_1) rfl k) ?_
  by_cases hc1 : p2 < p1
  · refine own_st (mkF m 5 #[iv p1, iv p2, .unset] []) (fun t k => XS.icmpNo X0.here hx rfl (hb hby d1_2) rfl (tlt hc1).2.2.2 k) ?_
    obtain ⟨T2, X2, e2, st2⟩ := getS2 X0 hx hZ hown (host := "") (Or.inl (hw_9 hw)) Via.refl e0 (S_wf.ext O0.2) (g := (mkF m 5 #[iv p1, iv p2, .unset] [])) rfl (hb hby d1_5)
    refine own_step (g' := (mkF m 8 #[iv p1, iv p2, .unset] [(.ref wf)])) st2 ?_
    refine own_st (mkF m 9 #[iv p1, iv p2, rv wf] []) (fun t k => XS.astoreN X2.here hx rfl (hb hby d1_8) rfl rfl (l' := #[iv p1, iv p2, rv wf]) rfl k) ?_
    refine own_st (mkF m 28 #[iv p1, iv p2, rv wf] []) (fun t k => XS.goto X2.here hx rfl (pc0 := 9) (pc' := 28) rfl (hb hby d1_9) (by decide) (by decide) k) ?_
    refine own_st (mkF m 29 #[iv p1, iv p2, rv wf] [(.ref wf)]) (fun t k => XS.aloadN X2.here hx rfl (hb hby d1_28) rfl rfl k) ?_
    refine own_ret X2 hlk (v := some (.ref wf)) (fun h => by rw [hret] at h; cases h) (fun fs hr => X2.areturnOut hx (w := (.ref wf)) rfl hret rfl (hb hby d1_29) hr) ?_ (by decide) (by decide)
    show own_Q1 Z p1 p2 wf wk wd h0 n0 _ T2.heap _
    rw [e2]
    exact ⟨congrArg (fun z => some (Value.ref z)) (by simp [own_by, hc1] : wf = own_by p1 p2 wf wk wd), N0, rfl⟩
  · refine own_st (mkF m 12 #[iv p1, iv p2, .unset] []) (fun t k => XS.icmpYes X0.here hx rfl (pc0 := 2) (pc' := 12) rfl (hb hby d1_2) rfl (flt hc1).2.2.2 (by decide) (by decide) k) ?_
    refine own_st (mkF m 13 #[iv p1, iv p2, .unset] [(.int p1)]) (fun t k => XS.iloadN X0.here hx rfl (hb hby d1_12) rfl k) ?_
    refine own_st (mkF m 14 #[iv p1, iv p2, .unset] [(.int p2), (.int p1)]) (fun t k => XS.iloadN X0.here hx rfl (hb hby d1_13) rfl k) ?_
    by_cases hc3 : p1 < p2
    · refine own_st (mkF m 17 #[iv p1, iv p2, .unset] []) (fun t k => XS.icmpNo X0.here hx rfl (hb hby d1_14) rfl (tlt hc3).2.1 k) ?_
      obtain ⟨T4, X4, e4, st4⟩ := getS2 X0 hx hZ hown (host := "") (Or.inl (hw_8 hw)) Via.refl e0 (S_wk.ext O0.2) (g := (mkF m 17 #[iv p1, iv p2, .unset] [])) rfl (hb hby d1_17)
      refine own_step (g' := (mkF m 20 #[iv p1, iv p2, .unset] [(.ref wk)])) st4 ?_
      refine own_st (mkF m 21 #[iv p1, iv p2, rv wk] []) (fun t k => XS.astoreN X4.here hx rfl (hb hby d1_20) rfl rfl (l' := #[iv p1, iv p2, rv wk]) rfl k) ?_
      refine own_st (mkF m 28 #[iv p1, iv p2, rv wk] []) (fun t k => XS.goto X4.here hx rfl (pc0 := 21) (pc' := 28) rfl (hb hby d1_21) (by decide) (by decide) k) ?_
      refine own_st (mkF m 29 #[iv p1, iv p2, rv wk] [(.ref wk)]) (fun t k => XS.aloadN X4.here hx rfl (hb hby d1_28) rfl rfl k) ?_
      refine own_ret X4 hlk (v := some (.ref wk)) (fun h => by rw [hret] at h; cases h) (fun fs hr => X4.areturnOut hx (w := (.ref wk)) rfl hret rfl (hb hby d1_29) hr) ?_ (by decide) (by decide)
      show own_Q1 Z p1 p2 wf wk wd h0 n0 _ T4.heap _
      rw [e4]
      exact ⟨congrArg (fun z => some (Value.ref z)) (by simp [own_by, hc1, hc3] : wk = own_by p1 p2 wf wk wd), N0, rfl⟩
    · refine own_st (mkF m 24 #[iv p1, iv p2, .unset] []) (fun t k => XS.icmpYes X0.here hx rfl (pc0 := 14) (pc' := 24) rfl (hb hby d1_14) rfl (flt hc3).2.1 (by decide) (by decide) k) ?_
      obtain ⟨T5, X5, e5, st5⟩ := getS2 X0 hx hZ hown (host := "") (Or.inl (hw_12 hw)) Via.refl e0 (S_wd.ext O0.2) (g := (mkF m 24 #[iv p1, iv p2, .unset] [])) rfl (hb hby d1_24)
      refine own_step (g' := (mkF m 27 #[iv p1, iv p2, .unset] [(.ref wd)])) st5 ?_
      refine own_st (mkF m 28 #[iv p1, iv p2, rv wd] []) (fun t k => XS.astoreN X5.here hx rfl (hb hby d1_27) rfl rfl (l' := #[iv p1, iv p2, rv wd]) rfl k) ?_
      refine own_st (mkF m 29 #[iv p1, iv p2, rv wd] [(.ref wd)]) (fun t k => XS.aloadN X5.here hx rfl (hb hby d1_28) rfl rfl k) ?_
      refine own_ret X5 hlk (v := some (.ref wd)) (fun h => by rw [hret] at h; cases h) (fun fs hr => X5.areturnOut hx (w := (.ref wd)) rfl hret rfl (hb hby d1_29) hr) ?_ (by decide) (by decide)
      show own_Q1 Z p1 p2 wf wk wd h0 n0 _ T5.heap _
      rw [e5]
      exact ⟨congrArg (fun z => some (Value.ref z)) (by simp [own_by, hc1, hc3] : wd = own_by p1 p2 wf wk wd), N0, rfl⟩
theorem hw_3 {a0 : Array Value} {Z : State} (hw : ∀ d ∈ tables_1, d.before a0 Z = true) : (Jvm.Cond.fieldLink "com/example/croupier/croupier/rating/OutcomeByPointsPinLaw" (7 : Nat) "com/example/croupier/croupier/rating/Result$Outcome" "FIRST_WINS" "Lcom/example/croupier/croupier/rating/Result$Outcome;").before a0 Z = true := hw _ (List.mem_of_getElem? (i := 3) rfl)
theorem hw_0 {a0 : Array Value} {Z : State} (hw : ∀ d ∈ tables_1, d.before a0 Z = true) : (Jvm.Cond.fieldLink "com/example/croupier/croupier/rating/OutcomeByPointsPinLaw" (13 : Nat) "com/example/croupier/croupier/rating/Result$Outcome" "SECOND_WINS" "Lcom/example/croupier/croupier/rating/Result$Outcome;").before a0 Z = true := hw _ (List.mem_of_getElem? (i := 0) rfl)
theorem hw_5 {a0 : Array Value} {Z : State} (hw : ∀ d ∈ tables_1, d.before a0 Z = true) : (Jvm.Cond.methodLink "com/example/croupier/croupier/rating/OutcomeByPointsPinLaw" (19 : Nat) ({ cls := "com/example/croupier/croupier/rating/Result$Outcome", name := "byPoints", desc := "(II)Lcom/example/croupier/croupier/rating/Result$Outcome;" } : Jvm.MethodName)).before a0 Z = true := hw _ (List.mem_of_getElem? (i := 5) rfl)
theorem hw_7 {a0 : Array Value} {Z : State} (hw : ∀ d ∈ tables_1, d.before a0 Z = true) : (Jvm.Cond.code ({ cls := "com/example/croupier/croupier/rating/Result$Outcome", name := "byPoints", desc := "(II)Lcom/example/croupier/croupier/rating/Result$Outcome;" } : Jvm.MethodName) prog_69_method_5_code (3 : Nat) (Option.some (Jvm.ClassFile.FieldType.object "com/example/croupier/croupier/rating/Result$Outcome"))).before a0 Z = true := hw _ (List.mem_of_getElem? (i := 7) rfl)
theorem hw_1 {a0 : Array Value} {Z : State} (hw : ∀ d ∈ tables_1, d.before a0 Z = true) : (Jvm.Cond.initialized "com/example/croupier/croupier/rating/Result$Outcome").before a0 Z = true := hw _ (List.mem_of_getElem? (i := 1) rfl)
theorem pd_0 : parseMethodDescriptor "(II)Lcom/example/croupier/croupier/rating/Result$Outcome;" = some ⟨[.int, .int], some (.object "com/example/croupier/croupier/rating/Result$Outcome")⟩ := by decide +kernel
theorem hw_6 {a0 : Array Value} {Z : State} (hw : ∀ d ∈ tables_1, d.before a0 Z = true) : (Jvm.Cond.static ({ cls := "com/example/croupier/croupier/rating/Result$Outcome", name := "byPoints", desc := "(II)Lcom/example/croupier/croupier/rating/Result$Outcome;" } : Jvm.MethodName)).before a0 Z = true := hw _ (List.mem_of_getElem? (i := 6) rfl)
theorem hw_10 {a0 : Array Value} {Z : State} (hw : ∀ d ∈ tables_1, d.before a0 Z = true) : (Jvm.Cond.fieldLink "com/example/croupier/croupier/rating/OutcomeByPointsPinLaw" (16 : Nat) "com/example/croupier/croupier/rating/Result$Outcome" "DRAW" "Lcom/example/croupier/croupier/rating/Result$Outcome;").before a0 Z = true := hw _ (List.mem_of_getElem? (i := 10) rfl)
theorem pn_0 : plainName "com/example/croupier/croupier/rating/OutcomeByPointsPinLaw" = true := by first | (simp [plainName, overriddenIn]; done) | decide +kernel
theorem own_ef0 (m : MethodId) (p1 : Int32) (p2 : Int32) (p3 : Int32) : entryFrame m #[(.int p1), (.int p2), (.int p3)] maxLocals = mkF m 0 #[iv p1, iv p2, iv p3, .unset, .unset, .unset, .unset, .unset, .unset, .unset, .unset, .unset] [] := by first | (simp [entryFrame, mkF, argsToLocals, Value.category, maxLocals]; done) | rfl
def own_Q0 (Z : State) (p1 : Int32) (p2 : Int32) (p3 : Int32) (wf : Addr) (wk : Addr) (wd : Addr) (h0 : Heap) (n0 : Nat) (v : Option Value) (h : Heap) (L : List Loc) : Prop := v = some (.int 1) ∧ Fr n0 L
set_option maxRecDepth 65536 in
set_option maxHeartbeats 40000000 in
theorem own_rm0 (l : Launch) (Z : State) (a0 : Array Value) (hw : ∀ d ∈ tables_1, d.before a0 Z = true) (ws : List Jvm.Cond) (p1 : Int32) (p2 : Int32) (p3 : Int32) (wf : Addr) (wk : Addr) (wd : Addr) (h0 : Heap) (n0 : Nat) (Z0 : n0 ≤ h0.size) (O0 : Old Z n0 h0) (S_wf : Sta Z Z.heap "com/example/croupier/croupier/rating/Result$Outcome" "FIRST_WINS" "Lcom/example/croupier/croupier/rating/Result$Outcome;" (.ref wf)) (S_wk : Sta Z Z.heap "com/example/croupier/croupier/rating/Result$Outcome" "SECOND_WINS" "Lcom/example/croupier/croupier/rating/Result$Outcome;" (.ref wk)) (S_wd : Sta Z Z.heap "com/example/croupier/croupier/rating/Result$Outcome" "DRAW" "Lcom/example/croupier/croupier/rating/Result$Outcome;" (.ref wd)) :
    MetFree l x (head1 (Jvm.Cond.code x code maxLocals ret :: ws) room_1) (fun a U => a = #[(.int p1), (.int p2), (.int p3)] ∧ Z.Warmed39 U.vm ∧ U.heap = h0) (fun _ _ _ _ _ => True) (fun _ U o U' => ∃ v L, o = .returned v ∧ own_Q0 Z p1 p2 p3 wf wk wd h0 n0 v U'.heap L ∧ FrameEnd U o U' L 0 0) := by
  refine own_body (plainFor_of_name pn_0) (fun m => own_ef0 m p1 p2 p3) ?_
  intro p e s m below meth c T0 X0 hx hby hml hZ hown hnm hret hlk e0
  have hown : s.vm.findClass "com/example/croupier/croupier/rating/OutcomeByPointsPinLaw" = some m.cls := hown
  have hnm : meth.name = "law" := hnm
  have N0 := Fr.nil n0
  refine own_st (mkF m 1 #[iv p1, iv p2, iv p3, .unset, .unset, .unset, .unset, .unset, .unset, .unset, .unset, .unset] [(.int p1)]) (fun t k => XS.iloadN X0.here hx rfl (hb hby at_0) rfl k) ?_
  refine own_st (mkF m 2 #[iv p1, iv p2, iv p3, iv p1, .unset, .unset, .unset, .unset, .unset, .unset, .unset, .unset] []) (fun t k => XS.istoreN X0.here hx rfl (hb hby at_1) rfl (l' := #[iv p1, iv p2, iv p3, iv p1, .unset, .unset, .unset, .unset, .unset, .unset, .unset, .unset]) rfl k) ?_
  refine own_st (mkF m 3 #[iv p1, iv p2, iv p3, iv p1, .unset, .unset, .unset, .unset, .unset, .unset, .unset, .unset] [(.int p3)]) (fun t k => XS.iloadN X0.here hx rfl (hb hby at_2) rfl k) ?_
  refine own_st (mkF m 4 #[iv p1, iv p2, iv p3, iv p1, .unset, .unset, .unset, .unset, .unset, .unset, .unset, .unset] [(.int (3 : Int32)), (.int p3)]) (fun t k => XS.iconst X0.here hx rfl (hb hby at_3) k) ?_
  refine own_st (mkF m 5 #[iv p1, iv p2, iv p3, iv p1, .unset, .unset, .unset, .unset, .unset, .unset, .unset, .unset] [(.int (p3 &&& (3 : Int32)))]) (fun t k => XS.iand X0.here hx rfl (hb hby at_4) rfl k) ?_
  refine own_st (mkF m 7 #[iv p1, iv p2, iv p3, iv p1, .unset, iv (p3 &&& (3 : Int32)), .unset, .unset, .unset, .unset, .unset, .unset] []) (fun t k => XS.istore X0.here hx rfl (hb hby at_5) rfl (l' := #[iv p1, iv p2, iv p3, iv p1, .unset, iv (p3 &&& (3 : Int32)), .unset, .unset, .unset, .unset, .unset, .unset]) rfl k) ?_
  have J49 : ∀ (se : Int32), own_WP p e below s (own_Q0 Z p1 p2 p3 wf wk wd h0 n0) 0 0 T0 (mkF m 49 #[iv p1, iv p2, iv p3, iv p1, iv se, iv (p3 &&& (3 : Int32)), .unset, .unset, .unset, .unset, .unset, .unset] []) := by
    intro se
    refine own_st (mkF m 50 #[iv p1, iv p2, iv p3, iv p1, iv se, iv (p3 &&& (3 : Int32)), .unset, .unset, .unset, .unset, .unset, .unset] [(.int p1)]) (fun t k => XS.iloadN X0.here hx rfl (hb hby at_49) rfl k) ?_
    refine own_st (mkF m 51 #[iv p1, iv p2, iv p3, iv p1, iv se, iv (p3 &&& (3 : Int32)), .unset, .unset, .unset, .unset, .unset, .unset] [(.long (p1.toInt64))]) (fun t k => XS.i2l X0.here hx rfl (hb hby at_50) rfl k) ?_
    refine own_st (mkF m 53 #[iv p1, iv p2, iv p3, iv p1, iv se, iv (p3 &&& (3 : Int32)), .unset, .unset, .unset, .unset, .unset, .unset] [(.int se), (.long (p1.toInt64))]) (fun t k => XS.iload X0.here hx rfl (hb hby at_51) rfl k) ?_
    refine own_st (mkF m 54 #[iv p1, iv p2, iv p3, iv p1, iv se, iv (p3 &&& (3 : Int32)), .unset, .unset, .unset, .unset, .unset, .unset] [(.long (se.toInt64)), (.long (p1.toInt64))]) (fun t k => XS.i2l X0.here hx rfl (hb hby at_53) rfl k) ?_
    refine own_st (mkF m 55 #[iv p1, iv p2, iv p3, iv p1, iv se, iv (p3 &&& (3 : Int32)), .unset, .unset, .unset, .unset, .unset, .unset] [(.long ((p1.toInt64) - (se.toInt64)))]) (fun t k => XS.lsub X0.here hx rfl (hb hby at_54) rfl k) ?_
    refine own_st (mkF m 57 #[iv p1, iv p2, iv p3, iv p1, iv se, iv (p3 &&& (3 : Int32)), jv ((p1.toInt64) - (se.toInt64)), .second, .unset, .unset, .unset, .unset] []) (fun t k => XS.lstore X0.here hx rfl (hb hby at_55) rfl (l' := #[iv p1, iv p2, iv p3, iv p1, iv se, iv (p3 &&& (3 : Int32)), jv ((p1.toInt64) - (se.toInt64)), .second, .unset, .unset, .unset, .unset]) rfl k) ?_
    refine own_st (mkF m 59 #[iv p1, iv p2, iv p3, iv p1, iv se, iv (p3 &&& (3 : Int32)), jv ((p1.toInt64) - (se.toInt64)), .second, .unset, .unset, .unset, .unset] [(.long ((p1.toInt64) - (se.toInt64)))]) (fun t k => XS.lload X0.here hx rfl (hb hby at_57) rfl k) ?_
    refine own_st (mkF m 60 #[iv p1, iv p2, iv p3, iv p1, iv se, iv (p3 &&& (3 : Int32)), jv ((p1.toInt64) - (se.toInt64)), .second, .unset, .unset, .unset, .unset] [(.long (0 : Int64)), (.long ((p1.toInt64) - (se.toInt64)))]) (fun t k => XS.lconst X0.here hx rfl (hb hby at_59) k) ?_
    refine own_st (mkF m 61 #[iv p1, iv p2, iv p3, iv p1, iv se, iv (p3 &&& (3 : Int32)), jv ((p1.toInt64) - (se.toInt64)), .second, .unset, .unset, .unset, .unset] [(.int (lcmpW ((p1.toInt64) - (se.toInt64)) (0 : Int64)))]) (fun t k => XS.lcmp X0.here hx rfl (hb hby at_60) rfl k) ?_
    by_cases hc6 : (0 : Int64) < ((p1.toInt64) - (se.toInt64))
    · refine own_st (mkF m 64 #[iv p1, iv p2, iv p3, iv p1, iv se, iv (p3 &&& (3 : Int32)), jv ((p1.toInt64) - (se.toInt64)), .second, .unset, .unset, .unset, .unset] []) (fun t k => XS.ifNo X0.here hx rfl (hb hby at_61) rfl (own_lle0 hc6) k) ?_
      obtain ⟨T7, X7, e7, st7⟩ := getS2 X0 hx hZ hown (host := "") (Or.inl (hw_3 hw)) Via.refl e0 (S_wf.ext O0.2) (g := (mkF m 64 #[iv p1, iv p2, iv p3, iv p1, iv se, iv (p3 &&& (3 : Int32)), jv ((p1.toInt64) - (se.toInt64)), .second, .unset, .unset, .unset, .unset] [])) rfl (hb hby at_64)
      refine own_step (g' := (mkF m 67 #[iv p1, iv p2, iv p3, iv p1, iv se, iv (p3 &&& (3 : Int32)), jv ((p1.toInt64) - (se.toInt64)), .second, .unset, .unset, .unset, .unset] [(.ref wf)])) st7 ?_
      refine own_st (mkF m 69 #[iv p1, iv p2, iv p3, iv p1, iv se, iv (p3 &&& (3 : Int32)), jv ((p1.toInt64) - (se.toInt64)), .second, rv wf, .unset, .unset, .unset] []) (fun t k => XS.astore X7.here hx rfl (hb hby at_67) rfl rfl (l' := #[iv p1, iv p2, iv p3, iv p1, iv se, iv (p3 &&& (3 : Int32)), jv ((p1.toInt64) - (se.toInt64)), .second, rv wf, .unset, .unset, .unset]) rfl k) ?_
      obtain ⟨T8, X8, e8, st8⟩ := getS2 X7 hx hZ hown (host := "") (Or.inl (hw_0 hw)) Via.refl e7 (S_wk.ext O0.2) (g := (mkF m 69 #[iv p1, iv p2, iv p3, iv p1, iv se, iv (p3 &&& (3 : Int32)), jv ((p1.toInt64) - (se.toInt64)), .second, rv wf, .unset, .unset, .unset] [])) rfl (hb hby at_69)
      refine own_step (g' := (mkF m 72 #[iv p1, iv p2, iv p3, iv p1, iv se, iv (p3 &&& (3 : Int32)), jv ((p1.toInt64) - (se.toInt64)), .second, rv wf, .unset, .unset, .unset] [(.ref wk)])) st8 ?_
      refine own_st (mkF m 74 #[iv p1, iv p2, iv p3, iv p1, iv se, iv (p3 &&& (3 : Int32)), jv ((p1.toInt64) - (se.toInt64)), .second, rv wf, rv wk, .unset, .unset] []) (fun t k => XS.astore X8.here hx rfl (hb hby at_72) rfl rfl (l' := #[iv p1, iv p2, iv p3, iv p1, iv se, iv (p3 &&& (3 : Int32)), jv ((p1.toInt64) - (se.toInt64)), .second, rv wf, rv wk, .unset, .unset]) rfl k) ?_
      refine own_st (mkF m 107 #[iv p1, iv p2, iv p3, iv p1, iv se, iv (p3 &&& (3 : Int32)), jv ((p1.toInt64) - (se.toInt64)), .second, rv wf, rv wk, .unset, .unset] []) (fun t k => XS.goto X8.here hx rfl (pc0 := 74) (pc' := 107) rfl (hb hby at_74) (by decide) (by decide) k) ?_
      refine own_st (mkF m 108 #[iv p1, iv p2, iv p3, iv p1, iv se, iv (p3 &&& (3 : Int32)), jv ((p1.toInt64) - (se.toInt64)), .second, rv wf, rv wk, .unset, .unset] [(.int p1)]) (fun t k => XS.iloadN X8.here hx rfl (hb hby at_107) rfl k) ?_
      refine own_st (mkF m 110 #[iv p1, iv p2, iv p3, iv p1, iv se, iv (p3 &&& (3 : Int32)), jv ((p1.toInt64) - (se.toInt64)), .second, rv wf, rv wk, .unset, .unset] [(.int se), (.int p1)]) (fun t k => XS.iload X8.here hx rfl (hb hby at_108) rfl k) ?_
      obtain ⟨_, _, ⟨T9, L9, k9, n9⟩, -, X9, ⟨Lc9, hQ9, l9, y9, z9⟩, st9⟩ := Jvm.LawKit.callS X8 hx (y := (⟨"com/example/croupier/croupier/rating/Result$Outcome", "byPoints", "(II)Lcom/example/croupier/croupier/rating/Result$Outcome;"⟩ : MethodName)) hown (mvT hZ (hw_5 hw)) (mvT hZ (hw_6 hw)) (mvT hZ (hw_1 hw)) (mvT hZ (hw_7 hw)) (by decide) (backOf (W := 0) (own_rm1 l Z a0 hw [] p1 se wf wk wd h0 n0 Z0 O0 S_wf S_wk S_wd) hZ (hw_7 hw) (hw_1 hw) (by decide) (by decide)) (g := (mkF m 110 #[iv p1, iv p2, iv p3, iv p1, iv se, iv (p3 &&& (3 : Int32)), jv ((p1.toInt64) - (se.toInt64)), .second, rv wf, rv wk, .unset, .unset] [(.int se), (.int p1)])) rfl (by rw [hml]; rfl) (argsL := [(.int p1), (.int se)]) (rest := []) (lenOf pd_0 rfl) rfl (by show 2 * 0 + _ ≤ _; exact Nat.le_of_eq rfl) (hb hby at_110) (fun _ _ => ⟨rfl, e8, (by decide : 0 + 0 ≤ _), (by decide : 0 + 0 ≤ _)⟩)
      dsimp only [Pt.U, Pt.locs, Pt.cells, Pt.slots] at X9 l9 y9 z9 st9 hQ9
      subst l9 y9 z9
      obtain ⟨rfl, Nq9, e9⟩ := hQ9
      have N9 := Fr.app N0 Nq9
      refine own_step (g' := (mkF m 113 #[iv p1, iv p2, iv p3, iv p1, iv se, iv (p3 &&& (3 : Int32)), jv ((p1.toInt64) - (se.toInt64)), .second, rv wf, rv wk, .unset, .unset] [(.ref (own_by p1 se wf wk wd))])) st9 ?_
      refine own_st (mkF m 115 #[iv p1, iv p2, iv p3, iv p1, iv se, iv (p3 &&& (3 : Int32)), jv ((p1.toInt64) - (se.toInt64)), .second, rv wf, rv wk, rv (own_by p1 se wf wk wd), .unset] []) (fun t k => XS.astore X9.here hx rfl (hb hby at_113) rfl rfl (l' := #[iv p1, iv p2, iv p3, iv p1, iv se, iv (p3 &&& (3 : Int32)), jv ((p1.toInt64) - (se.toInt64)), .second, rv wf, rv wk, rv (own_by p1 se wf wk wd), .unset]) rfl k) ?_
      refine own_st (mkF m 117 #[iv p1, iv p2, iv p3, iv p1, iv se, iv (p3 &&& (3 : Int32)), jv ((p1.toInt64) - (se.toInt64)), .second, rv wf, rv wk, rv (own_by p1 se wf wk wd), .unset] [(.int se)]) (fun t k => XS.iload X9.here hx rfl (hb hby at_115) rfl k) ?_
      refine own_st (mkF m 118 #[iv p1, iv p2, iv p3, iv p1, iv se, iv (p3 &&& (3 : Int32)), jv ((p1.toInt64) - (se.toInt64)), .second, rv wf, rv wk, rv (own_by p1 se wf wk wd), .unset] [(.int p1), (.int se)]) (fun t k => XS.iloadN X9.here hx rfl (hb hby at_117) rfl k) ?_
      obtain ⟨_, _, ⟨T10, L10, k10, n10⟩, -, X10, ⟨Lc10, hQ10, l10, y10, z10⟩, st10⟩ := Jvm.LawKit.callS X9 hx (y := (⟨"com/example/croupier/croupier/rating/Result$Outcome", "byPoints", "(II)Lcom/example/croupier/croupier/rating/Result$Outcome;"⟩ : MethodName)) hown (mvT hZ (hw_5 hw)) (mvT hZ (hw_6 hw)) (mvT hZ (hw_1 hw)) (mvT hZ (hw_7 hw)) (by decide) (backOf (W := 0) (own_rm1 l Z a0 hw [] se p1 wf wk wd h0 n0 Z0 O0 S_wf S_wk S_wd) hZ (hw_7 hw) (hw_1 hw) (by decide) (by decide)) (g := (mkF m 118 #[iv p1, iv p2, iv p3, iv p1, iv se, iv (p3 &&& (3 : Int32)), jv ((p1.toInt64) - (se.toInt64)), .second, rv wf, rv wk, rv (own_by p1 se wf wk wd), .unset] [(.int p1), (.int se)])) rfl (by rw [hml]; rfl) (argsL := [(.int se), (.int p1)]) (rest := []) (lenOf pd_0 rfl) rfl (by show 2 * 0 + _ ≤ _; exact Nat.le_of_eq rfl) (hb hby at_118) (fun _ _ => ⟨rfl, e9, (by decide : 0 + 0 ≤ _), (by decide : 0 + 0 ≤ _)⟩)
      dsimp only [Pt.U, Pt.locs, Pt.cells, Pt.slots] at X10 l10 y10 z10 st10 hQ10
      subst l10 y10 z10
      obtain ⟨rfl, Nq10, e10⟩ := hQ10
      have N10 := Fr.app N9 Nq10
      refine own_step (g' := (mkF m 121 #[iv p1, iv p2, iv p3, iv p1, iv se, iv (p3 &&& (3 : Int32)), jv ((p1.toInt64) - (se.toInt64)), .second, rv wf, rv wk, rv (own_by p1 se wf wk wd), .unset] [(.ref (own_by se p1 wf wk wd))])) st10 ?_
      refine own_st (mkF m 123 #[iv p1, iv p2, iv p3, iv p1, iv se, iv (p3 &&& (3 : Int32)), jv ((p1.toInt64) - (se.toInt64)), .second, rv wf, rv wk, rv (own_by p1 se wf wk wd), rv (own_by se p1 wf wk wd)] []) (fun t k => XS.astore X10.here hx rfl (hb hby at_121) rfl rfl (l' := #[iv p1, iv p2, iv p3, iv p1, iv se, iv (p3 &&& (3 : Int32)), jv ((p1.toInt64) - (se.toInt64)), .second, rv wf, rv wk, rv (own_by p1 se wf wk wd), rv (own_by se p1 wf wk wd)]) rfl k) ?_
      refine own_st (mkF m 125 #[iv p1, iv p2, iv p3, iv p1, iv se, iv (p3 &&& (3 : Int32)), jv ((p1.toInt64) - (se.toInt64)), .second, rv wf, rv wk, rv (own_by p1 se wf wk wd), rv (own_by se p1 wf wk wd)] [(.ref (own_by p1 se wf wk wd))]) (fun t k => XS.aload X10.here hx rfl (hb hby at_123) rfl rfl k) ?_
      refine own_st (mkF m 127 #[iv p1, iv p2, iv p3, iv p1, iv se, iv (p3 &&& (3 : Int32)), jv ((p1.toInt64) - (se.toInt64)), .second, rv wf, rv wk, rv (own_by p1 se wf wk wd), rv (own_by se p1 wf wk wd)] [(.ref wf), (.ref (own_by p1 se wf wk wd))]) (fun t k => XS.aload X10.here hx rfl (hb hby at_125) rfl rfl k) ?_
      refine own_st (mkF m 130 #[iv p1, iv p2, iv p3, iv p1, iv se, iv (p3 &&& (3 : Int32)), jv ((p1.toInt64) - (se.toInt64)), .second, rv wf, rv wk, rv (own_by p1 se wf wk wd), rv (own_by se p1 wf wk wd)] []) (fun t k => Jvm.RoadKit.acmp (g := (mkF m 127 #[iv p1, iv p2, iv p3, iv p1, iv se, iv (p3 &&& (3 : Int32)), jv ((p1.toInt64) - (se.toInt64)), .second, rv wf, rv wk, rv (own_by p1 se wf wk wd), rv (own_by se p1 wf wk wd)] [(.ref wf), (.ref (own_by p1 se wf wk wd))])) X10 hx rfl rfl rfl (pc0 := 127) (pc' := 130) (same := true) rfl (hb hby at_127) rfl (decide_eq_true (congrArg Value.ref (own_gt hc6).1)) (by decide) (by decide) k) ?_
      refine own_st (mkF m 132 #[iv p1, iv p2, iv p3, iv p1, iv se, iv (p3 &&& (3 : Int32)), jv ((p1.toInt64) - (se.toInt64)), .second, rv wf, rv wk, rv (own_by p1 se wf wk wd), rv (own_by se p1 wf wk wd)] [(.ref (own_by se p1 wf wk wd))]) (fun t k => XS.aload X10.here hx rfl (hb hby at_130) rfl rfl k) ?_
      refine own_st (mkF m 134 #[iv p1, iv p2, iv p3, iv p1, iv se, iv (p3 &&& (3 : Int32)), jv ((p1.toInt64) - (se.toInt64)), .second, rv wf, rv wk, rv (own_by p1 se wf wk wd), rv (own_by se p1 wf wk wd)] [(.ref wk), (.ref (own_by se p1 wf wk wd))]) (fun t k => XS.aload X10.here hx rfl (hb hby at_132) rfl rfl k) ?_
      refine own_st (mkF m 137 #[iv p1, iv p2, iv p3, iv p1, iv se, iv (p3 &&& (3 : Int32)), jv ((p1.toInt64) - (se.toInt64)), .second, rv wf, rv wk, rv (own_by p1 se wf wk wd), rv (own_by se p1 wf wk wd)] []) (fun t k => Jvm.RoadKit.acmp (g := (mkF m 134 #[iv p1, iv p2, iv p3, iv p1, iv se, iv (p3 &&& (3 : Int32)), jv ((p1.toInt64) - (se.toInt64)), .second, rv wf, rv wk, rv (own_by p1 se wf wk wd), rv (own_by se p1 wf wk wd)] [(.ref wk), (.ref (own_by se p1 wf wk wd))])) X10 hx rfl rfl rfl (pc0 := 134) (pc' := 137) (same := true) rfl (hb hby at_134) rfl (decide_eq_true (congrArg Value.ref (own_gt hc6).2)) (by decide) (by decide) k) ?_
      refine own_st (mkF m 138 #[iv p1, iv p2, iv p3, iv p1, iv se, iv (p3 &&& (3 : Int32)), jv ((p1.toInt64) - (se.toInt64)), .second, rv wf, rv wk, rv (own_by p1 se wf wk wd), rv (own_by se p1 wf wk wd)] [(.int (1 : Int32))]) (fun t k => XS.iconst X10.here hx rfl (hb hby at_137) k) ?_
      refine own_st (mkF m 142 #[iv p1, iv p2, iv p3, iv p1, iv se, iv (p3 &&& (3 : Int32)), jv ((p1.toInt64) - (se.toInt64)), .second, rv wf, rv wk, rv (own_by p1 se wf wk wd), rv (own_by se p1 wf wk wd)] [(.int (1 : Int32))]) (fun t k => XS.goto X10.here hx rfl (pc0 := 138) (pc' := 142) rfl (hb hby at_138) (by decide) (by decide) k) ?_
      refine own_ret X10 hlk (v := some (.int (1 : Int32))) (fun h => by rw [hret] at h; cases h) (fun fs hr => retN X10 hx (t := .boolean) hret (by simp) (hb hby at_142) hr) ?_ (by decide) (by decide)
      show own_Q0 Z p1 p2 p3 wf wk wd h0 n0 _ T10.heap _
      rw [e10]
      exact ⟨rfl, N10⟩
    · refine own_st (mkF m 77 #[iv p1, iv p2, iv p3, iv p1, iv se, iv (p3 &&& (3 : Int32)), jv ((p1.toInt64) - (se.toInt64)), .second, .unset, .unset, .unset, .unset] []) (fun t k => XS.ifYes X0.here hx rfl (pc0 := 61) (pc' := 77) rfl (hb hby at_61) rfl (own_lle1 hc6) (by decide) (by decide) k) ?_
      refine own_st (mkF m 79 #[iv p1, iv p2, iv p3, iv p1, iv se, iv (p3 &&& (3 : Int32)), jv ((p1.toInt64) - (se.toInt64)), .second, .unset, .unset, .unset, .unset] [(.long ((p1.toInt64) - (se.toInt64)))]) (fun t k => XS.lload X0.here hx rfl (hb hby at_77) rfl k) ?_
      refine own_st (mkF m 80 #[iv p1, iv p2, iv p3, iv p1, iv se, iv (p3 &&& (3 : Int32)), jv ((p1.toInt64) - (se.toInt64)), .second, .unset, .unset, .unset, .unset] [(.long (0 : Int64)), (.long ((p1.toInt64) - (se.toInt64)))]) (fun t k => XS.lconst X0.here hx rfl (hb hby at_79) k) ?_
      refine own_st (mkF m 81 #[iv p1, iv p2, iv p3, iv p1, iv se, iv (p3 &&& (3 : Int32)), jv ((p1.toInt64) - (se.toInt64)), .second, .unset, .unset, .unset, .unset] [(.int (lcmpW ((p1.toInt64) - (se.toInt64)) (0 : Int64)))]) (fun t k => XS.lcmp X0.here hx rfl (hb hby at_80) rfl k) ?_
      by_cases hc11 : ((p1.toInt64) - (se.toInt64)) < (0 : Int64)
      · refine own_st (mkF m 84 #[iv p1, iv p2, iv p3, iv p1, iv se, iv (p3 &&& (3 : Int32)), jv ((p1.toInt64) - (se.toInt64)), .second, .unset, .unset, .unset, .unset] []) (fun t k => XS.ifNo X0.here hx rfl (hb hby at_81) rfl (own_lge0 hc11) k) ?_
        obtain ⟨T12, X12, e12, st12⟩ := getS2 X0 hx hZ hown (host := "") (Or.inl (hw_0 hw)) Via.refl e0 (S_wk.ext O0.2) (g := (mkF m 84 #[iv p1, iv p2, iv p3, iv p1, iv se, iv (p3 &&& (3 : Int32)), jv ((p1.toInt64) - (se.toInt64)), .second, .unset, .unset, .unset, .unset] [])) rfl (hb hby at_84)
        refine own_step (g' := (mkF m 87 #[iv p1, iv p2, iv p3, iv p1, iv se, iv (p3 &&& (3 : Int32)), jv ((p1.toInt64) - (se.toInt64)), .second, .unset, .unset, .unset, .unset] [(.ref wk)])) st12 ?_
        refine own_st (mkF m 89 #[iv p1, iv p2, iv p3, iv p1, iv se, iv (p3 &&& (3 : Int32)), jv ((p1.toInt64) - (se.toInt64)), .second, rv wk, .unset, .unset, .unset] []) (fun t k => XS.astore X12.here hx rfl (hb hby at_87) rfl rfl (l' := #[iv p1, iv p2, iv p3, iv p1, iv se, iv (p3 &&& (3 : Int32)), jv ((p1.toInt64) - (se.toInt64)), .second, rv wk, .unset, .unset, .unset]) rfl k) ?_
        obtain ⟨T13, X13, e13, st13⟩ := getS2 X12 hx hZ hown (host := "") (Or.inl (hw_3 hw)) Via.refl e12 (S_wf.ext O0.2) (g := (mkF m 89 #[iv p1, iv p2, iv p3, iv p1, iv se, iv (p3 &&& (3 : Int32)), jv ((p1.toInt64) - (se.toInt64)), .second, rv wk, .unset, .unset, .unset] [])) rfl (hb hby at_89)
        refine own_step (g' := (mkF m 92 #[iv p1, iv p2, iv p3, iv p1, iv se, iv (p3 &&& (3 : Int32)), jv ((p1.toInt64) - (se.toInt64)), .second, rv wk, .unset, .unset, .unset] [(.ref wf)])) st13 ?_
        refine own_st (mkF m 94 #[iv p1, iv p2, iv p3, iv p1, iv se, iv (p3 &&& (3 : Int32)), jv ((p1.toInt64) - (se.toInt64)), .second, rv wk, rv wf, .unset, .unset] []) (fun t k => XS.astore X13.here hx rfl (hb hby at_92) rfl rfl (l' := #[iv p1, iv p2, iv p3, iv p1, iv se, iv (p3 &&& (3 : Int32)), jv ((p1.toInt64) - (se.toInt64)), .second, rv wk, rv wf, .unset, .unset]) rfl k) ?_
        refine own_st (mkF m 107 #[iv p1, iv p2, iv p3, iv p1, iv se, iv (p3 &&& (3 : Int32)), jv ((p1.toInt64) - (se.toInt64)), .second, rv wk, rv wf, .unset, .unset] []) (fun t k => XS.goto X13.here hx rfl (pc0 := 94) (pc' := 107) rfl (hb hby at_94) (by decide) (by decide) k) ?_
        refine own_st (mkF m 108 #[iv p1, iv p2, iv p3, iv p1, iv se, iv (p3 &&& (3 : Int32)), jv ((p1.toInt64) - (se.toInt64)), .second, rv wk, rv wf, .unset, .unset] [(.int p1)]) (fun t k => XS.iloadN X13.here hx rfl (hb hby at_107) rfl k) ?_
        refine own_st (mkF m 110 #[iv p1, iv p2, iv p3, iv p1, iv se, iv (p3 &&& (3 : Int32)), jv ((p1.toInt64) - (se.toInt64)), .second, rv wk, rv wf, .unset, .unset] [(.int se), (.int p1)]) (fun t k => XS.iload X13.here hx rfl (hb hby at_108) rfl k) ?_
        obtain ⟨_, _, ⟨T14, L14, k14, n14⟩, -, X14, ⟨Lc14, hQ14, l14, y14, z14⟩, st14⟩ := Jvm.LawKit.callS X13 hx (y := (⟨"com/example/croupier/croupier/rating/Result$Outcome", "byPoints", "(II)Lcom/example/croupier/croupier/rating/Result$Outcome;"⟩ : MethodName)) hown (mvT hZ (hw_5 hw)) (mvT hZ (hw_6 hw)) (mvT hZ (hw_1 hw)) (mvT hZ (hw_7 hw)) (by decide) (backOf (W := 0) (own_rm1 l Z a0 hw [] p1 se wf wk wd h0 n0 Z0 O0 S_wf S_wk S_wd) hZ (hw_7 hw) (hw_1 hw) (by decide) (by decide)) (g := (mkF m 110 #[iv p1, iv p2, iv p3, iv p1, iv se, iv (p3 &&& (3 : Int32)), jv ((p1.toInt64) - (se.toInt64)), .second, rv wk, rv wf, .unset, .unset] [(.int se), (.int p1)])) rfl (by rw [hml]; rfl) (argsL := [(.int p1), (.int se)]) (rest := []) (lenOf pd_0 rfl) rfl (by show 2 * 0 + _ ≤ _; exact Nat.le_of_eq rfl) (hb hby at_110) (fun _ _ => ⟨rfl, e13, (by decide : 0 + 0 ≤ _), (by decide : 0 + 0 ≤ _)⟩)
        dsimp only [Pt.U, Pt.locs, Pt.cells, Pt.slots] at X14 l14 y14 z14 st14 hQ14
        subst l14 y14 z14
        obtain ⟨rfl, Nq14, e14⟩ := hQ14
        have N14 := Fr.app N0 Nq14
        refine own_step (g' := (mkF m 113 #[iv p1, iv p2, iv p3, iv p1, iv se, iv (p3 &&& (3 : Int32)), jv ((p1.toInt64) - (se.toInt64)), .second, rv wk, rv wf, .unset, .unset] [(.ref (own_by p1 se wf wk wd))])) st14 ?_
        refine own_st (mkF m 115 #[iv p1, iv p2, iv p3, iv p1, iv se, iv (p3 &&& (3 : Int32)), jv ((p1.toInt64) - (se.toInt64)), .second, rv wk, rv wf, rv (own_by p1 se wf wk wd), .unset] []) (fun t k => XS.astore X14.here hx rfl (hb hby at_113) rfl rfl (l' := #[iv p1, iv p2, iv p3, iv p1, iv se, iv (p3 &&& (3 : Int32)), jv ((p1.toInt64) - (se.toInt64)), .second, rv wk, rv wf, rv (own_by p1 se wf wk wd), .unset]) rfl k) ?_
        refine own_st (mkF m 117 #[iv p1, iv p2, iv p3, iv p1, iv se, iv (p3 &&& (3 : Int32)), jv ((p1.toInt64) - (se.toInt64)), .second, rv wk, rv wf, rv (own_by p1 se wf wk wd), .unset] [(.int se)]) (fun t k => XS.iload X14.here hx rfl (hb hby at_115) rfl k) ?_
        refine own_st (mkF m 118 #[iv p1, iv p2, iv p3, iv p1, iv se, iv (p3 &&& (3 : Int32)), jv ((p1.toInt64) - (se.toInt64)), .second, rv wk, rv wf, rv (own_by p1 se wf wk wd), .unset] [(.int p1), (.int se)]) (fun t k => XS.iloadN X14.here hx rfl (hb hby at_117) rfl k) ?_
        obtain ⟨_, _, ⟨T15, L15, k15, n15⟩, -, X15, ⟨Lc15, hQ15, l15, y15, z15⟩, st15⟩ := Jvm.LawKit.callS X14 hx (y := (⟨"com/example/croupier/croupier/rating/Result$Outcome", "byPoints", "(II)Lcom/example/croupier/croupier/rating/Result$Outcome;"⟩ : MethodName)) hown (mvT hZ (hw_5 hw)) (mvT hZ (hw_6 hw)) (mvT hZ (hw_1 hw)) (mvT hZ (hw_7 hw)) (by decide) (backOf (W := 0) (own_rm1 l Z a0 hw [] se p1 wf wk wd h0 n0 Z0 O0 S_wf S_wk S_wd) hZ (hw_7 hw) (hw_1 hw) (by decide) (by decide)) (g := (mkF m 118 #[iv p1, iv p2, iv p3, iv p1, iv se, iv (p3 &&& (3 : Int32)), jv ((p1.toInt64) - (se.toInt64)), .second, rv wk, rv wf, rv (own_by p1 se wf wk wd), .unset] [(.int p1), (.int se)])) rfl (by rw [hml]; rfl) (argsL := [(.int se), (.int p1)]) (rest := []) (lenOf pd_0 rfl) rfl (by show 2 * 0 + _ ≤ _; exact Nat.le_of_eq rfl) (hb hby at_118) (fun _ _ => ⟨rfl, e14, (by decide : 0 + 0 ≤ _), (by decide : 0 + 0 ≤ _)⟩)
        dsimp only [Pt.U, Pt.locs, Pt.cells, Pt.slots] at X15 l15 y15 z15 st15 hQ15
        subst l15 y15 z15
        obtain ⟨rfl, Nq15, e15⟩ := hQ15
        have N15 := Fr.app N14 Nq15
        refine own_step (g' := (mkF m 121 #[iv p1, iv p2, iv p3, iv p1, iv se, iv (p3 &&& (3 : Int32)), jv ((p1.toInt64) - (se.toInt64)), .second, rv wk, rv wf, rv (own_by p1 se wf wk wd), .unset] [(.ref (own_by se p1 wf wk wd))])) st15 ?_
        refine own_st (mkF m 123 #[iv p1, iv p2, iv p3, iv p1, iv se, iv (p3 &&& (3 : Int32)), jv ((p1.toInt64) - (se.toInt64)), .second, rv wk, rv wf, rv (own_by p1 se wf wk wd), rv (own_by se p1 wf wk wd)] []) (fun t k => XS.astore X15.here hx rfl (hb hby at_121) rfl rfl (l' := #[iv p1, iv p2, iv p3, iv p1, iv se, iv (p3 &&& (3 : Int32)), jv ((p1.toInt64) - (se.toInt64)), .second, rv wk, rv wf, rv (own_by p1 se wf wk wd), rv (own_by se p1 wf wk wd)]) rfl k) ?_
        refine own_st (mkF m 125 #[iv p1, iv p2, iv p3, iv p1, iv se, iv (p3 &&& (3 : Int32)), jv ((p1.toInt64) - (se.toInt64)), .second, rv wk, rv wf, rv (own_by p1 se wf wk wd), rv (own_by se p1 wf wk wd)] [(.ref (own_by p1 se wf wk wd))]) (fun t k => XS.aload X15.here hx rfl (hb hby at_123) rfl rfl k) ?_
        refine own_st (mkF m 127 #[iv p1, iv p2, iv p3, iv p1, iv se, iv (p3 &&& (3 : Int32)), jv ((p1.toInt64) - (se.toInt64)), .second, rv wk, rv wf, rv (own_by p1 se wf wk wd), rv (own_by se p1 wf wk wd)] [(.ref wk), (.ref (own_by p1 se wf wk wd))]) (fun t k => XS.aload X15.here hx rfl (hb hby at_125) rfl rfl k) ?_
        refine own_st (mkF m 130 #[iv p1, iv p2, iv p3, iv p1, iv se, iv (p3 &&& (3 : Int32)), jv ((p1.toInt64) - (se.toInt64)), .second, rv wk, rv wf, rv (own_by p1 se wf wk wd), rv (own_by se p1 wf wk wd)] []) (fun t k => Jvm.RoadKit.acmp (g := (mkF m 127 #[iv p1, iv p2, iv p3, iv p1, iv se, iv (p3 &&& (3 : Int32)), jv ((p1.toInt64) - (se.toInt64)), .second, rv wk, rv wf, rv (own_by p1 se wf wk wd), rv (own_by se p1 wf wk wd)] [(.ref wk), (.ref (own_by p1 se wf wk wd))])) X15 hx rfl rfl rfl (pc0 := 127) (pc' := 130) (same := true) rfl (hb hby at_127) rfl (decide_eq_true (congrArg Value.ref (own_lt hc11).1)) (by decide) (by decide) k) ?_
        refine own_st (mkF m 132 #[iv p1, iv p2, iv p3, iv p1, iv se, iv (p3 &&& (3 : Int32)), jv ((p1.toInt64) - (se.toInt64)), .second, rv wk, rv wf, rv (own_by p1 se wf wk wd), rv (own_by se p1 wf wk wd)] [(.ref (own_by se p1 wf wk wd))]) (fun t k => XS.aload X15.here hx rfl (hb hby at_130) rfl rfl k) ?_
        refine own_st (mkF m 134 #[iv p1, iv p2, iv p3, iv p1, iv se, iv (p3 &&& (3 : Int32)), jv ((p1.toInt64) - (se.toInt64)), .second, rv wk, rv wf, rv (own_by p1 se wf wk wd), rv (own_by se p1 wf wk wd)] [(.ref wf), (.ref (own_by se p1 wf wk wd))]) (fun t k => XS.aload X15.here hx rfl (hb hby at_132) rfl rfl k) ?_
        refine own_st (mkF m 137 #[iv p1, iv p2, iv p3, iv p1, iv se, iv (p3 &&& (3 : Int32)), jv ((p1.toInt64) - (se.toInt64)), .second, rv wk, rv wf, rv (own_by p1 se wf wk wd), rv (own_by se p1 wf wk wd)] []) (fun t k => Jvm.RoadKit.acmp (g := (mkF m 134 #[iv p1, iv p2, iv p3, iv p1, iv se, iv (p3 &&& (3 : Int32)), jv ((p1.toInt64) - (se.toInt64)), .second, rv wk, rv wf, rv (own_by p1 se wf wk wd), rv (own_by se p1 wf wk wd)] [(.ref wf), (.ref (own_by se p1 wf wk wd))])) X15 hx rfl rfl rfl (pc0 := 134) (pc' := 137) (same := true) rfl (hb hby at_134) rfl (decide_eq_true (congrArg Value.ref (own_lt hc11).2)) (by decide) (by decide) k) ?_
        refine own_st (mkF m 138 #[iv p1, iv p2, iv p3, iv p1, iv se, iv (p3 &&& (3 : Int32)), jv ((p1.toInt64) - (se.toInt64)), .second, rv wk, rv wf, rv (own_by p1 se wf wk wd), rv (own_by se p1 wf wk wd)] [(.int (1 : Int32))]) (fun t k => XS.iconst X15.here hx rfl (hb hby at_137) k) ?_
        refine own_st (mkF m 142 #[iv p1, iv p2, iv p3, iv p1, iv se, iv (p3 &&& (3 : Int32)), jv ((p1.toInt64) - (se.toInt64)), .second, rv wk, rv wf, rv (own_by p1 se wf wk wd), rv (own_by se p1 wf wk wd)] [(.int (1 : Int32))]) (fun t k => XS.goto X15.here hx rfl (pc0 := 138) (pc' := 142) rfl (hb hby at_138) (by decide) (by decide) k) ?_
        refine own_ret X15 hlk (v := some (.int (1 : Int32))) (fun h => by rw [hret] at h; cases h) (fun fs hr => retN X15 hx (t := .boolean) hret (by simp) (hb hby at_142) hr) ?_ (by decide) (by decide)
        show own_Q0 Z p1 p2 p3 wf wk wd h0 n0 _ T15.heap _
        rw [e15]
        exact ⟨rfl, N15⟩
      · refine own_st (mkF m 97 #[iv p1, iv p2, iv p3, iv p1, iv se, iv (p3 &&& (3 : Int32)), jv ((p1.toInt64) - (se.toInt64)), .second, .unset, .unset, .unset, .unset] []) (fun t k => XS.ifYes X0.here hx rfl (pc0 := 81) (pc' := 97) rfl (hb hby at_81) rfl (own_lge1 hc11) (by decide) (by decide) k) ?_
        obtain ⟨T16, X16, e16, st16⟩ := getS2 X0 hx hZ hown (host := "") (Or.inl (hw_10 hw)) Via.refl e0 (S_wd.ext O0.2) (g := (mkF m 97 #[iv p1, iv p2, iv p3, iv p1, iv se, iv (p3 &&& (3 : Int32)), jv ((p1.toInt64) - (se.toInt64)), .second, .unset, .unset, .unset, .unset] [])) rfl (hb hby at_97)
        refine own_step (g' := (mkF m 100 #[iv p1, iv p2, iv p3, iv p1, iv se, iv (p3 &&& (3 : Int32)), jv ((p1.toInt64) - (se.toInt64)), .second, .unset, .unset, .unset, .unset] [(.ref wd)])) st16 ?_
        refine own_st (mkF m 102 #[iv p1, iv p2, iv p3, iv p1, iv se, iv (p3 &&& (3 : Int32)), jv ((p1.toInt64) - (se.toInt64)), .second, rv wd, .unset, .unset, .unset] []) (fun t k => XS.astore X16.here hx rfl (hb hby at_100) rfl rfl (l' := #[iv p1, iv p2, iv p3, iv p1, iv se, iv (p3 &&& (3 : Int32)), jv ((p1.toInt64) - (se.toInt64)), .second, rv wd, .unset, .unset, .unset]) rfl k) ?_
        obtain ⟨T17, X17, e17, st17⟩ := getS2 X16 hx hZ hown (host := "") (Or.inl (hw_10 hw)) Via.refl e16 (S_wd.ext O0.2) (g := (mkF m 102 #[iv p1, iv p2, iv p3, iv p1, iv se, iv (p3 &&& (3 : Int32)), jv ((p1.toInt64) - (se.toInt64)), .second, rv wd, .unset, .unset, .unset] [])) rfl (hb hby at_102)
        refine own_step (g' := (mkF m 105 #[iv p1, iv p2, iv p3, iv p1, iv se, iv (p3 &&& (3 : Int32)), jv ((p1.toInt64) - (se.toInt64)), .second, rv wd, .unset, .unset, .unset] [(.ref wd)])) st17 ?_
        refine own_st (mkF m 107 #[iv p1, iv p2, iv p3, iv p1, iv se, iv (p3 &&& (3 : Int32)), jv ((p1.toInt64) - (se.toInt64)), .second, rv wd, rv wd, .unset, .unset] []) (fun t k => XS.astore X17.here hx rfl (hb hby at_105) rfl rfl (l' := #[iv p1, iv p2, iv p3, iv p1, iv se, iv (p3 &&& (3 : Int32)), jv ((p1.toInt64) - (se.toInt64)), .second, rv wd, rv wd, .unset, .unset]) rfl k) ?_
        refine own_st (mkF m 108 #[iv p1, iv p2, iv p3, iv p1, iv se, iv (p3 &&& (3 : Int32)), jv ((p1.toInt64) - (se.toInt64)), .second, rv wd, rv wd, .unset, .unset] [(.int p1)]) (fun t k => XS.iloadN X17.here hx rfl (hb hby at_107) rfl k) ?_
        refine own_st (mkF m 110 #[iv p1, iv p2, iv p3, iv p1, iv se, iv (p3 &&& (3 : Int32)), jv ((p1.toInt64) - (se.toInt64)), .second, rv wd, rv wd, .unset, .unset] [(.int se), (.int p1)]) (fun t k => XS.iload X17.here hx rfl (hb hby at_108) rfl k) ?_
        obtain ⟨_, _, ⟨T18, L18, k18, n18⟩, -, X18, ⟨Lc18, hQ18, l18, y18, z18⟩, st18⟩ := Jvm.LawKit.callS X17 hx (y := (⟨"com/example/croupier/croupier/rating/Result$Outcome", "byPoints", "(II)Lcom/example/croupier/croupier/rating/Result$Outcome;"⟩ : MethodName)) hown (mvT hZ (hw_5 hw)) (mvT hZ (hw_6 hw)) (mvT hZ (hw_1 hw)) (mvT hZ (hw_7 hw)) (by decide) (backOf (W := 0) (own_rm1 l Z a0 hw [] p1 se wf wk wd h0 n0 Z0 O0 S_wf S_wk S_wd) hZ (hw_7 hw) (hw_1 hw) (by decide) (by decide)) (g := (mkF m 110 #[iv p1, iv p2, iv p3, iv p1, iv se, iv (p3 &&& (3 : Int32)), jv ((p1.toInt64) - (se.toInt64)), .second, rv wd, rv wd, .unset, .unset] [(.int se), (.int p1)])) rfl (by rw [hml]; rfl) (argsL := [(.int p1), (.int se)]) (rest := []) (lenOf pd_0 rfl) rfl (by show 2 * 0 + _ ≤ _; exact Nat.le_of_eq rfl) (hb hby at_110) (fun _ _ => ⟨rfl, e17, (by decide : 0 + 0 ≤ _), (by decide : 0 + 0 ≤ _)⟩)
        dsimp only [Pt.U, Pt.locs, Pt.cells, Pt.slots] at X18 l18 y18 z18 st18 hQ18
        subst l18 y18 z18
        obtain ⟨rfl, Nq18, e18⟩ := hQ18
        have N18 := Fr.app N0 Nq18
        refine own_step (g' := (mkF m 113 #[iv p1, iv p2, iv p3, iv p1, iv se, iv (p3 &&& (3 : Int32)), jv ((p1.toInt64) - (se.toInt64)), .second, rv wd, rv wd, .unset, .unset] [(.ref (own_by p1 se wf wk wd))])) st18 ?_
        refine own_st (mkF m 115 #[iv p1, iv p2, iv p3, iv p1, iv se, iv (p3 &&& (3 : Int32)), jv ((p1.toInt64) - (se.toInt64)), .second, rv wd, rv wd, rv (own_by p1 se wf wk wd), .unset] []) (fun t k => XS.astore X18.here hx rfl (hb hby at_113) rfl rfl (l' := #[iv p1, iv p2, iv p3, iv p1, iv se, iv (p3 &&& (3 : Int32)), jv ((p1.toInt64) - (se.toInt64)), .second, rv wd, rv wd, rv (own_by p1 se wf wk wd), .unset]) rfl k) ?_
        refine own_st (mkF m 117 #[iv p1, iv p2, iv p3, iv p1, iv se, iv (p3 &&& (3 : Int32)), jv ((p1.toInt64) - (se.toInt64)), .second, rv wd, rv wd, rv (own_by p1 se wf wk wd), .unset] [(.int se)]) (fun t k => XS.iload X18.here hx rfl (hb hby at_115) rfl k) ?_
        refine own_st (mkF m 118 #[iv p1, iv p2, iv p3, iv p1, iv se, iv (p3 &&& (3 : Int32)), jv ((p1.toInt64) - (se.toInt64)), .second, rv wd, rv wd, rv (own_by p1 se wf wk wd), .unset] [(.int p1), (.int se)]) (fun t k => XS.iloadN X18.here hx rfl (hb hby at_117) rfl k) ?_
        obtain ⟨_, _, ⟨T19, L19, k19, n19⟩, -, X19, ⟨Lc19, hQ19, l19, y19, z19⟩, st19⟩ := Jvm.LawKit.callS X18 hx (y := (⟨"com/example/croupier/croupier/rating/Result$Outcome", "byPoints", "(II)Lcom/example/croupier/croupier/rating/Result$Outcome;"⟩ : MethodName)) hown (mvT hZ (hw_5 hw)) (mvT hZ (hw_6 hw)) (mvT hZ (hw_1 hw)) (mvT hZ (hw_7 hw)) (by decide) (backOf (W := 0) (own_rm1 l Z a0 hw [] se p1 wf wk wd h0 n0 Z0 O0 S_wf S_wk S_wd) hZ (hw_7 hw) (hw_1 hw) (by decide) (by decide)) (g := (mkF m 118 #[iv p1, iv p2, iv p3, iv p1, iv se, iv (p3 &&& (3 : Int32)), jv ((p1.toInt64) - (se.toInt64)), .second, rv wd, rv wd, rv (own_by p1 se wf wk wd), .unset] [(.int p1), (.int se)])) rfl (by rw [hml]; rfl) (argsL := [(.int se), (.int p1)]) (rest := []) (lenOf pd_0 rfl) rfl (by show 2 * 0 + _ ≤ _; exact Nat.le_of_eq rfl) (hb hby at_118) (fun _ _ => ⟨rfl, e18, (by decide : 0 + 0 ≤ _), (by decide : 0 + 0 ≤ _)⟩)
        dsimp only [Pt.U, Pt.locs, Pt.cells, Pt.slots] at X19 l19 y19 z19 st19 hQ19
        subst l19 y19 z19
        obtain ⟨rfl, Nq19, e19⟩ := hQ19
        have N19 := Fr.app N18 Nq19
        refine own_step (g' := (mkF m 121 #[iv p1, iv p2, iv p3, iv p1, iv se, iv (p3 &&& (3 : Int32)), jv ((p1.toInt64) - (se.toInt64)), .second, rv wd, rv wd, rv (own_by p1 se wf wk wd), .unset] [(.ref (own_by se p1 wf wk wd))])) st19 ?_
        refine own_st (mkF m 123 #[iv p1, iv p2, iv p3, iv p1, iv se, iv (p3 &&& (3 : Int32)), jv ((p1.toInt64) - (se.toInt64)), .second, rv wd, rv wd, rv (own_by p1 se wf wk wd), rv (own_by se p1 wf wk wd)] []) (fun t k => XS.astore X19.here hx rfl (hb hby at_121) rfl rfl (l' := #[iv p1, iv p2, iv p3, iv p1, iv se, iv (p3 &&& (3 : Int32)), jv ((p1.toInt64) - (se.toInt64)), .second, rv wd, rv wd, rv (own_by p1 se wf wk wd), rv (own_by se p1 wf wk wd)]) rfl k) ?_
        refine own_st (mkF m 125 #[iv p1, iv p2, iv p3, iv p1, iv se, iv (p3 &&& (3 : Int32)), jv ((p1.toInt64) - (se.toInt64)), .second, rv wd, rv wd, rv (own_by p1 se wf wk wd), rv (own_by se p1 wf wk wd)] [(.ref (own_by p1 se wf wk wd))]) (fun t k => XS.aload X19.here hx rfl (hb hby at_123) rfl rfl k) ?_
        refine own_st (mkF m 127 #[iv p1, iv p2, iv p3, iv p1, iv se, iv (p3 &&& (3 : Int32)), jv ((p1.toInt64) - (se.toInt64)), .second, rv wd, rv wd, rv (own_by p1 se wf wk wd), rv (own_by se p1 wf wk wd)] [(.ref wd), (.ref (own_by p1 se wf wk wd))]) (fun t k => XS.aload X19.here hx rfl (hb hby at_125) rfl rfl k) ?_
        refine own_st (mkF m 130 #[iv p1, iv p2, iv p3, iv p1, iv se, iv (p3 &&& (3 : Int32)), jv ((p1.toInt64) - (se.toInt64)), .second, rv wd, rv wd, rv (own_by p1 se wf wk wd), rv (own_by se p1 wf wk wd)] []) (fun t k => Jvm.RoadKit.acmp (g := (mkF m 127 #[iv p1, iv p2, iv p3, iv p1, iv se, iv (p3 &&& (3 : Int32)), jv ((p1.toInt64) - (se.toInt64)), .second, rv wd, rv wd, rv (own_by p1 se wf wk wd), rv (own_by se p1 wf wk wd)] [(.ref wd), (.ref (own_by p1 se wf wk wd))])) X19 hx rfl rfl rfl (pc0 := 127) (pc' := 130) (same := true) rfl (hb hby at_127) rfl (decide_eq_true (congrArg Value.ref (own_eq hc6 hc11).1)) (by decide) (by decide) k) ?_
        refine own_st (mkF m 132 #[iv p1, iv p2, iv p3, iv p1, iv se, iv (p3 &&& (3 : Int32)), jv ((p1.toInt64) - (se.toInt64)), .second, rv wd, rv wd, rv (own_by p1 se wf wk wd), rv (own_by se p1 wf wk wd)] [(.ref (own_by se p1 wf wk wd))]) (fun t k => XS.aload X19.here hx rfl (hb hby at_130) rfl rfl k) ?_
        refine own_st (mkF m 134 #[iv p1, iv p2, iv p3, iv p1, iv se, iv (p3 &&& (3 : Int32)), jv ((p1.toInt64) - (se.toInt64)), .second, rv wd, rv wd, rv (own_by p1 se wf wk wd), rv (own_by se p1 wf wk wd)] [(.ref wd), (.ref (own_by se p1 wf wk wd))]) (fun t k => XS.aload X19.here hx rfl (hb hby at_132) rfl rfl k) ?_
        refine own_st (mkF m 137 #[iv p1, iv p2, iv p3, iv p1, iv se, iv (p3 &&& (3 : Int32)), jv ((p1.toInt64) - (se.toInt64)), .second, rv wd, rv wd, rv (own_by p1 se wf wk wd), rv (own_by se p1 wf wk wd)] []) (fun t k => Jvm.RoadKit.acmp (g := (mkF m 134 #[iv p1, iv p2, iv p3, iv p1, iv se, iv (p3 &&& (3 : Int32)), jv ((p1.toInt64) - (se.toInt64)), .second, rv wd, rv wd, rv (own_by p1 se wf wk wd), rv (own_by se p1 wf wk wd)] [(.ref wd), (.ref (own_by se p1 wf wk wd))])) X19 hx rfl rfl rfl (pc0 := 134) (pc' := 137) (same := true) rfl (hb hby at_134) rfl (decide_eq_true (congrArg Value.ref (own_eq hc6 hc11).2)) (by decide) (by decide) k) ?_
        refine own_st (mkF m 138 #[iv p1, iv p2, iv p3, iv p1, iv se, iv (p3 &&& (3 : Int32)), jv ((p1.toInt64) - (se.toInt64)), .second, rv wd, rv wd, rv (own_by p1 se wf wk wd), rv (own_by se p1 wf wk wd)] [(.int (1 : Int32))]) (fun t k => XS.iconst X19.here hx rfl (hb hby at_137) k) ?_
        refine own_st (mkF m 142 #[iv p1, iv p2, iv p3, iv p1, iv se, iv (p3 &&& (3 : Int32)), jv ((p1.toInt64) - (se.toInt64)), .second, rv wd, rv wd, rv (own_by p1 se wf wk wd), rv (own_by se p1 wf wk wd)] [(.int (1 : Int32))]) (fun t k => XS.goto X19.here hx rfl (pc0 := 138) (pc' := 142) rfl (hb hby at_138) (by decide) (by decide) k) ?_
        refine own_ret X19 hlk (v := some (.int (1 : Int32))) (fun h => by rw [hret] at h; cases h) (fun fs hr => retN X19 hx (t := .boolean) hret (by simp) (hb hby at_142) hr) ?_ (by decide) (by decide)
        show own_Q0 Z p1 p2 p3 wf wk wd h0 n0 _ T19.heap _
        rw [e19]
        exact ⟨rfl, N19⟩
  refine own_st (mkF m 9 #[iv p1, iv p2, iv p3, iv p1, .unset, iv (p3 &&& (3 : Int32)), .unset, .unset, .unset, .unset, .unset, .unset] [(.int (p3 &&& (3 : Int32)))]) (fun t k => XS.iload X0.here hx rfl (hb hby at_7) rfl k) ?_
  by_cases hc20 : (p3 &&& (3 : Int32)) = (0 : Int32)
  · refine own_st (mkF m 12 #[iv p1, iv p2, iv p3, iv p1, .unset, iv (p3 &&& (3 : Int32)), .unset, .unset, .unset, .unset, .unset, .unset] []) (fun t k => XS.ifNo X0.here hx rfl (hb hby at_9) rfl ((if0 _ _).trans (teq hc20).2) k) ?_
    refine own_st (mkF m 13 #[iv p1, iv p2, iv p3, iv p1, .unset, iv (p3 &&& (3 : Int32)), .unset, .unset, .unset, .unset, .unset, .unset] [(.int p2)]) (fun t k => XS.iloadN X0.here hx rfl (hb hby at_12) rfl k) ?_
    refine own_st (mkF m 15 #[iv p1, iv p2, iv p3, iv p1, iv p2, iv (p3 &&& (3 : Int32)), .unset, .unset, .unset, .unset, .unset, .unset] []) (fun t k => XS.istore X0.here hx rfl (hb hby at_13) rfl (l' := #[iv p1, iv p2, iv p3, iv p1, iv p2, iv (p3 &&& (3 : Int32)), .unset, .unset, .unset, .unset, .unset, .unset]) rfl k) ?_
    refine own_st (mkF m 49 #[iv p1, iv p2, iv p3, iv p1, iv p2, iv (p3 &&& (3 : Int32)), .unset, .unset, .unset, .unset, .unset, .unset] []) (fun t k => XS.goto X0.here hx rfl (pc0 := 15) (pc' := 49) rfl (hb hby at_15) (by decide) (by decide) k) ?_
    exact J49 p2
  · refine own_st (mkF m 18 #[iv p1, iv p2, iv p3, iv p1, .unset, iv (p3 &&& (3 : Int32)), .unset, .unset, .unset, .unset, .unset, .unset] []) (fun t k => XS.ifYes X0.here hx rfl (pc0 := 9) (pc' := 18) rfl (hb hby at_9) rfl ((if0 _ _).trans (feq hc20).2) (by decide) (by decide) k) ?_
    refine own_st (mkF m 20 #[iv p1, iv p2, iv p3, iv p1, .unset, iv (p3 &&& (3 : Int32)), .unset, .unset, .unset, .unset, .unset, .unset] [(.int (p3 &&& (3 : Int32)))]) (fun t k => XS.iload X0.here hx rfl (hb hby at_18) rfl k) ?_
    refine own_st (mkF m 21 #[iv p1, iv p2, iv p3, iv p1, .unset, iv (p3 &&& (3 : Int32)), .unset, .unset, .unset, .unset, .unset, .unset] [(.int (1 : Int32)), (.int (p3 &&& (3 : Int32)))]) (fun t k => XS.iconst X0.here hx rfl (hb hby at_20) k) ?_
    by_cases hc21 : (p3 &&& (3 : Int32)) = (1 : Int32)
    · refine own_st (mkF m 24 #[iv p1, iv p2, iv p3, iv p1, .unset, iv (p3 &&& (3 : Int32)), .unset, .unset, .unset, .unset, .unset, .unset] []) (fun t k => XS.icmpNo X0.here hx rfl (hb hby at_21) rfl (teq hc21).2 k) ?_
      refine own_st (mkF m 25 #[iv p1, iv p2, iv p3, iv p1, .unset, iv (p3 &&& (3 : Int32)), .unset, .unset, .unset, .unset, .unset, .unset] [(.int p1)]) (fun t k => XS.iloadN X0.here hx rfl (hb hby at_24) rfl k) ?_
      refine own_st (mkF m 27 #[iv p1, iv p2, iv p3, iv p1, iv p1, iv (p3 &&& (3 : Int32)), .unset, .unset, .unset, .unset, .unset, .unset] []) (fun t k => XS.istore X0.here hx rfl (hb hby at_25) rfl (l' := #[iv p1, iv p2, iv p3, iv p1, iv p1, iv (p3 &&& (3 : Int32)), .unset, .unset, .unset, .unset, .unset, .unset]) rfl k) ?_
      refine own_st (mkF m 49 #[iv p1, iv p2, iv p3, iv p1, iv p1, iv (p3 &&& (3 : Int32)), .unset, .unset, .unset, .unset, .unset, .unset] []) (fun t k => XS.goto X0.here hx rfl (pc0 := 27) (pc' := 49) rfl (hb hby at_27) (by decide) (by decide) k) ?_
      exact J49 p1
    · refine own_st (mkF m 30 #[iv p1, iv p2, iv p3, iv p1, .unset, iv (p3 &&& (3 : Int32)), .unset, .unset, .unset, .unset, .unset, .unset] []) (fun t k => XS.icmpYes X0.here hx rfl (pc0 := 21) (pc' := 30) rfl (hb hby at_21) rfl (feq hc21).2 (by decide) (by decide) k) ?_
      refine own_st (mkF m 32 #[iv p1, iv p2, iv p3, iv p1, .unset, iv (p3 &&& (3 : Int32)), .unset, .unset, .unset, .unset, .unset, .unset] [(.int (p3 &&& (3 : Int32)))]) (fun t k => XS.iload X0.here hx rfl (hb hby at_30) rfl k) ?_
      refine own_st (mkF m 33 #[iv p1, iv p2, iv p3, iv p1, .unset, iv (p3 &&& (3 : Int32)), .unset, .unset, .unset, .unset, .unset, .unset] [(.int (2 : Int32)), (.int (p3 &&& (3 : Int32)))]) (fun t k => XS.iconst X0.here hx rfl (hb hby at_32) k) ?_
      by_cases hc22 : (p3 &&& (3 : Int32)) = (2 : Int32)
      · refine own_st (mkF m 36 #[iv p1, iv p2, iv p3, iv p1, .unset, iv (p3 &&& (3 : Int32)), .unset, .unset, .unset, .unset, .unset, .unset] []) (fun t k => XS.icmpNo X0.here hx rfl (hb hby at_33) rfl (teq hc22).2 k) ?_
        refine own_st (mkF m 37 #[iv p1, iv p2, iv p3, iv p1, .unset, iv (p3 &&& (3 : Int32)), .unset, .unset, .unset, .unset, .unset, .unset] [(.int p1)]) (fun t k => XS.iloadN X0.here hx rfl (hb hby at_36) rfl k) ?_
        refine own_st (mkF m 38 #[iv p1, iv p2, iv p3, iv p1, .unset, iv (p3 &&& (3 : Int32)), .unset, .unset, .unset, .unset, .unset, .unset] [(.int (1 : Int32)), (.int p1)]) (fun t k => XS.iconst X0.here hx rfl (hb hby at_37) k) ?_
        refine own_st (mkF m 39 #[iv p1, iv p2, iv p3, iv p1, .unset, iv (p3 &&& (3 : Int32)), .unset, .unset, .unset, .unset, .unset, .unset] [(.int (p1 + (1 : Int32)))]) (fun t k => XS.iadd X0.here hx rfl (hb hby at_38) rfl k) ?_
        refine own_st (mkF m 41 #[iv p1, iv p2, iv p3, iv p1, iv (p1 + (1 : Int32)), iv (p3 &&& (3 : Int32)), .unset, .unset, .unset, .unset, .unset, .unset] []) (fun t k => XS.istore X0.here hx rfl (hb hby at_39) rfl (l' := #[iv p1, iv p2, iv p3, iv p1, iv (p1 + (1 : Int32)), iv (p3 &&& (3 : Int32)), .unset, .unset, .unset, .unset, .unset, .unset]) rfl k) ?_
        refine own_st (mkF m 49 #[iv p1, iv p2, iv p3, iv p1, iv (p1 + (1 : Int32)), iv (p3 &&& (3 : Int32)), .unset, .unset, .unset, .unset, .unset, .unset] []) (fun t k => XS.goto X0.here hx rfl (pc0 := 41) (pc' := 49) rfl (hb hby at_41) (by decide) (by decide) k) ?_
        exact J49 (p1 + (1 : Int32))
      · refine own_st (mkF m 44 #[iv p1, iv p2, iv p3, iv p1, .unset, iv (p3 &&& (3 : Int32)), .unset, .unset, .unset, .unset, .unset, .unset] []) (fun t k => XS.icmpYes X0.here hx rfl (pc0 := 33) (pc' := 44) rfl (hb hby at_33) rfl (feq hc22).2 (by decide) (by decide) k) ?_
        refine own_st (mkF m 45 #[iv p1, iv p2, iv p3, iv p1, .unset, iv (p3 &&& (3 : Int32)), .unset, .unset, .unset, .unset, .unset, .unset] [(.int p1)]) (fun t k => XS.iloadN X0.here hx rfl (hb hby at_44) rfl k) ?_
        refine own_st (mkF m 46 #[iv p1, iv p2, iv p3, iv p1, .unset, iv (p3 &&& (3 : Int32)), .unset, .unset, .unset, .unset, .unset, .unset] [(.int (1 : Int32)), (.int p1)]) (fun t k => XS.iconst X0.here hx rfl (hb hby at_45) k) ?_
        refine own_st (mkF m 47 #[iv p1, iv p2, iv p3, iv p1, .unset, iv (p3 &&& (3 : Int32)), .unset, .unset, .unset, .unset, .unset, .unset] [(.int (p1 - (1 : Int32)))]) (fun t k => XS.isub X0.here hx rfl (hb hby at_46) rfl k) ?_
        refine own_st (mkF m 49 #[iv p1, iv p2, iv p3, iv p1, iv (p1 - (1 : Int32)), iv (p3 &&& (3 : Int32)), .unset, .unset, .unset, .unset, .unset, .unset] []) (fun t k => XS.istore X0.here hx rfl (hb hby at_47) rfl (l' := #[iv p1, iv p2, iv p3, iv p1, iv (p1 - (1 : Int32)), iv (p3 &&& (3 : Int32)), .unset, .unset, .unset, .unset, .unset, .unset]) rfl k) ?_
        exact J49 (p1 - (1 : Int32))
theorem hw_2 {a0 : Array Value} {Z : State} (hw : ∀ d ∈ tables_1, d.before a0 Z = true) : (Jvm.Cond.laysStatic "com/example/croupier/croupier/rating/Result$Outcome" "SECOND_WINS" "Lcom/example/croupier/croupier/rating/Result$Outcome;").before a0 Z = true := hw _ (List.mem_of_getElem? (i := 2) rfl)
theorem hw_4 {a0 : Array Value} {Z : State} (hw : ∀ d ∈ tables_1, d.before a0 Z = true) : (Jvm.Cond.laysStatic "com/example/croupier/croupier/rating/Result$Outcome" "FIRST_WINS" "Lcom/example/croupier/croupier/rating/Result$Outcome;").before a0 Z = true := hw _ (List.mem_of_getElem? (i := 4) rfl)
theorem hw_11 {a0 : Array Value} {Z : State} (hw : ∀ d ∈ tables_1, d.before a0 Z = true) : (Jvm.Cond.laysStatic "com/example/croupier/croupier/rating/Result$Outcome" "DRAW" "Lcom/example/croupier/croupier/rating/Result$Outcome;").before a0 Z = true := hw _ (List.mem_of_getElem? (i := 11) rfl)
set_option maxRecDepth 65536 in
set_option maxHeartbeats 40000000 in
theorem own_comes {Post : Tables → Env → Array Value → State → Outcome → State → Prop} (hpost : ∀ tb e args s v u, (limb_1_1.after args s (.returned v) u = true ∧ limb_1_2.after args s (.returned v) u = true ∧ True) → FrameEnd s (.returned v) u (Jvm.fieldLocs frame_1_writes args s ++ Jvm.arrayLocs frame_1_arrays args s ++ Jvm.staticLocs frame_1_statics s) 0 0 → Post tb e args s (.returned v) u) :
    ArmFor flags0 classFile x code maxLocals ret World_1 tables_1 room_1 Calls_1 rest_1 Pre_1 Post := by
  intro l hfl _ _ p e ha hc hk s m args below hf hA hF happ hP
  obtain ⟨hcalls, hrest, hpre⟩ := hP
  obtain ⟨-, -, -, hnamed, -, -, -, hat⟩ := (Spec.applies_iff hf).mp happ
  obtain ⟨hg, hn⟩ := and_e (Cond.before_iff.mp (show (Jvm.Cond.and given_1 narrow_1).before args s = true from hpre))
  obtain ⟨hcnt, hg0⟩ := and_e hg
  obtain ⟨ha0, hg1⟩ := and_e hg0
  obtain ⟨ha1, hg2⟩ := and_e hg1
  obtain ⟨w0, w1, w2, rfl⟩ : ∃ w0 w1 w2 : Value, args = #[w0, w1, w2] := by
    have hs : args.size = 3 := by simpa [Cond.value, given_1] using hcnt
    obtain ⟨L⟩ := args
    match L, hs with
    | [w0, w1, w2], _ => exact ⟨w0, w1, w2, rfl⟩
  have hw := fun d (hd : d ∈ tables_1) => atoms_spec (ws := Jvm.Cond.code x code maxLocals ret :: tables_1) hat d (List.mem_cons_of_mem _ hd)
  have hfit : Fit s := fun {y c} hc i hi => by
    obtain ⟨ha, rfl⟩ := Array.getElem?_eq_some_iff.mp hc
    have q := List.all_eq_true.mp ((Array.all_eq_true_iff_forall_mem.mp hF) _ (Array.getElem_mem ha)) i (List.mem_range.mpr hi)
    simpa [Array.getElem?_eq_getElem hi] using q
  obtain ⟨i0, ei0⟩ := is_v ha0
  obtain rfl : w0 = (.int i0) := Option.some.inj ei0
  obtain ⟨i1, ei1⟩ := is_v ha1
  obtain rfl : w1 = (.int i1) := Option.some.inj ei1
  obtain ⟨i2, ei2⟩ := is_v hg2
  obtain rfl : w2 = (.int i2) := Option.some.inj ei2
  obtain ⟨n_0, r_0⟩ := and_e hn
  obtain ⟨n_1, r_1⟩ := and_e r_0
  have n_2 := r_1
  obtain ⟨wk, v_wk⟩ := exa_v n_0
  have S_wk := Sta.start v_wk (Or.inr ⟨(hw_1 hw), (hw_2 hw)⟩)
  obtain ⟨wf, v_wf⟩ := exa_v n_1
  have S_wf := Sta.start v_wf (Or.inr ⟨(hw_1 hw), (hw_4 hw)⟩)
  obtain ⟨wd, v_wd⟩ := exa_v n_2
  have S_wd := Sta.start v_wd (Or.inr ⟨(hw_1 hw), (hw_11 hw)⟩)
  obtain ⟨n, o, h1, h2, h3, _, L, rfl, ⟨rfl, N⟩, hq⟩ := own_rm0 l s _ hw tables_1 i0 i1 i2 wf wk wd s.heap s.heap.size (Nat.le_refl _) (Old.start s) S_wf S_wk S_wd p e ha hc hk s m _ below hf ((Spec.applies_iff_loose hf).mp happ).1 ⟨rfl, State.Warmed39.refl s, rfl⟩ trivial
  refine ⟨n, _, h1, h2, h3, hpost _ _ _ _ _ _ ⟨Cond.after_iff.mpr rfl, Cond.after_iff.mpr (eq_i res_at (Term.int_eval (1)) rfl), trivial⟩ ⟨hq.1, hq.2.1, (hq.2.2.sift fun y hy => Or.inr (N y hy)).mono (by decide) (by decide)⟩⟩
theorem main_1_1 : Claimed_1_1 := own_comes fun _ _ _ _ _ _ h hF => ⟨h.1, hF⟩
theorem main_1_2 : Claimed_1_2 := own_comes fun _ _ _ _ _ _ h hF => ⟨h.2.1, hF⟩
end Jvm.Pilot.@@N@@
namespace Jvm.Pilot.@@N@@
open Jvm Jvm.ClassFile Sem Op Lib Jvm.Free Jvm.Stand Jvm.Pilot.@@N@@.Jvm.D
/-! MADE BY PROGRAM (witnessworld.py) out of the Statement's table words and the real class files: 10 classes; the members and pool entries that the words name. The judged class is class 1, her method 1. -/
namespace start1
open Jvm.ClassFile
def u (s : String) : CpInfo := .utf8 (stringToUtf16 s)
/-- a pool by its gaps: so many unusable entries, then the entry; so many at the end -/
def gap : Nat → List CpInfo → List CpInfo
  | 0, r => r
  | n + 1, r => .unusable :: gap n r
def poolList (es : List (Nat × CpInfo)) (last : Nat) : List CpInfo := es.foldr (fun e r => gap e.1 (e.2 :: r)) (gap last [])
def pool (es : List (Nat × CpInfo)) (last : Nat) : Array CpInfo := ⟨poolList es last⟩
def fileOf (pool : Array CpInfo) (this : Nat) (attrs : Array Attribute := #[]) (ms : Array MethodInfo := #[]) (fl : Nat := 33) (sup : Nat := 0) (ifs : Array Nat := #[]) (fds : Array FieldInfo := #[]) : ClassFile where
  minorVersion := 0
  majorVersion := 65
  constantPool := pool
  accessFlags := fl
  thisClass := this
  superClass := sup
  interfaces := ifs
  fields := fds
  methods := ms
  attributes := attrs
def plain (name : String) (sup : Option ClassId) : Class where
  name := name
  kind := .ordinary
  loader := none
  accessFlags := 33
  super := sup
  interfaces := #[]
  cf := none
  fields := #[]
  methods := #[]
  instanceTypes := #[]
  staticTypes := #[]
  resolved := #[]
  callSites := []
  init := .initialized
  statics := none
  mirror := none

def pool0 : Array CpInfo := pool [(5, u "<init>"), (0, u "()V"), (1, .class_ 10), (1, u "java/lang/Object")] 113

def k0m0 : Method := { name := "<init>", desc := "()V", sig := { parameters := [], returnType := none }, accessFlags := 1, code := none }
/-- java/lang/Object -/
def k0 : Class := { plain "java/lang/Object" none with
  accessFlags := 33
  interfaces := #[]
  cf := some (fileOf pool0 8 #[] #[{ accessFlags := 1, nameIndex := 5, descriptorIndex := 6, attributes := #[] }] 33 0 #[] #[])
  fields := #[]
  methods := #[k0m0]
  instanceTypes := #[]
  staticTypes := #[]
  resolved := Array.replicate 124 none
  statics := none }

def pool1 : Array CpInfo := pool [(2, .class_ 4), (1, u "java/lang/Object"), (0, u "<init>"), (0, u "()V"), (0, .fieldref 8 9), (0, .class_ 10), (0, .nameAndType 11 12), (0, u "com/example/croupier/croupier/rating/Result$Outcome"), (0, u "FIRST_WINS"), (0, u "Lcom/example/croupier/croupier/rating/Result$Outcome;"), (0, .fieldref 8 14), (0, .nameAndType 15 12), (0, u "SECOND_WINS"), (0, .fieldref 8 17), (0, .nameAndType 18 12), (0, u "DRAW"), (0, .methodref 8 20), (0, .nameAndType 21 22), (0, u "byPoints"), (0, u "(II)Lcom/example/croupier/croupier/rating/Result$Outcome;"), (0, .class_ 24), (0, u "com/example/croupier/croupier/rating/OutcomeByPointsPinLaw"), (2, u "law"), (0, u "(III)Z")] 7

def k1m0 : Method := { name := "<init>", desc := "()V", sig := { parameters := [], returnType := none }, accessFlags := 1, code := none }
def k1c1 : Code := { maxStack := 4, maxLocals := 12, code := code, exceptionTable := #[], attributes := #[] }
def k1m1 : Method := { name := "law", desc := "(III)Z", sig := { parameters := [.int, .int, .int], returnType := some .boolean }, accessFlags := 9, code := some k1c1 }
/-- com/example/croupier/croupier/rating/OutcomeByPointsPinLaw -/
def k1 : Class := { plain "com/example/croupier/croupier/rating/OutcomeByPointsPinLaw" (some 0) with
  accessFlags := 49
  interfaces := #[]
  cf := some (fileOf pool1 23 #[] #[{ accessFlags := 1, nameIndex := 5, descriptorIndex := 6, attributes := #[] }, { accessFlags := 9, nameIndex := 27, descriptorIndex := 28, attributes := #[] }] 49 2 #[] #[])
  fields := #[]
  methods := #[k1m0, k1m1]
  instanceTypes := #[]
  staticTypes := #[]
  resolved := Array.replicate 36 none
  statics := none }

def pool2 : Array CpInfo := pool [(1, .class_ 2), (0, u "java/lang/constant/Constable"), (0, .class_ 4), (0, u "java/lang/Object")] 6

/-- java/lang/constant/Constable -/
def k2 : Class := { plain "java/lang/constant/Constable" (some 0) with
  accessFlags := 1537
  interfaces := #[]
  cf := some (fileOf pool2 1 #[] #[] 1537 3 #[] #[])
  fields := #[]
  methods := #[]
  instanceTypes := #[]
  staticTypes := #[]
  resolved := Array.replicate 11 none
  statics := none }

def pool3 : Array CpInfo := pool [(1, .class_ 2), (0, u "java/lang/Comparable"), (0, .class_ 4), (0, u "java/lang/Object")] 7

/-- java/lang/Comparable -/
def k3 : Class := { plain "java/lang/Comparable" (some 0) with
  accessFlags := 1537
  interfaces := #[]
  cf := some (fileOf pool3 1 #[] #[] 1537 3 #[] #[])
  fields := #[]
  methods := #[]
  instanceTypes := #[]
  staticTypes := #[]
  resolved := Array.replicate 12 none
  statics := none }

def pool4 : Array CpInfo := pool [(1, .class_ 2), (0, u "java/io/Serializable"), (0, .class_ 4), (0, u "java/lang/Object")] 2

/-- java/io/Serializable -/
def k4 : Class := { plain "java/io/Serializable" (some 0) with
  accessFlags := 1537
  interfaces := #[]
  cf := some (fileOf pool4 1 #[] #[] 1537 3 #[] #[])
  fields := #[]
  methods := #[]
  instanceTypes := #[]
  staticTypes := #[]
  resolved := Array.replicate 7 none
  statics := none }

def pool5 : Array CpInfo := pool [(2, .class_ 4), (1, u "java/lang/Enum"), (0, u "name"), (0, u "Ljava/lang/String;"), (2, u "ordinal"), (0, u "I"), (1, .class_ 14), (1, u "java/lang/Object"), (4, u "hash"), (86, .class_ 108), (1, u "java/lang/Enum$EnumDesc"), (2, .class_ 112), (0, u "java/lang/constant/Constable"), (0, .class_ 114), (0, u "java/lang/Comparable"), (0, .class_ 116), (0, u "java/io/Serializable")] 87

/-- java/lang/Enum -/
def k5 : Class := { plain "java/lang/Enum" (some 0) with
  accessFlags := 1057
  interfaces := #[2, 3, 4]
  cf := some (fileOf pool5 2 #[.nestMembers #[106]] #[] 1057 12 #[111, 113, 115] #[{ accessFlags := 18, nameIndex := 5, descriptorIndex := 6, attributes := #[] }, { accessFlags := 18, nameIndex := 9, descriptorIndex := 10, attributes := #[] }, { accessFlags := 2, nameIndex := 19, descriptorIndex := 10, attributes := #[] }])
  fields := #[{ name := "name", type := (.object "java/lang/String"), accessFlags := 18, slot := 0, constantValue := 0 }, { name := "ordinal", type := .int, accessFlags := 18, slot := 1, constantValue := 0 }, { name := "hash", type := .int, accessFlags := 2, slot := 2, constantValue := 0 }]
  methods := #[]
  instanceTypes := #[(.object "java/lang/String"), .int, .int]
  staticTypes := #[]
  resolved := Array.replicate 204 none
  statics := none }

def pool6 : Array CpInfo := pool [(1, .class_ 2), (0, u "com/example/croupier/croupier/rating/Result$Outcome"), (0, .fieldref 1 4), (0, .nameAndType 5 6), (0, u "FIRST_WINS"), (0, u "Lcom/example/croupier/croupier/rating/Result$Outcome;"), (0, .fieldref 1 8), (0, .nameAndType 9 6), (0, u "SECOND_WINS"), (0, .fieldref 1 11), (0, .nameAndType 12 6), (0, u "DRAW"), (2, u "$VALUES"), (0, u "[Lcom/example/croupier/croupier/rating/Result$Outcome;"), (6, .class_ 25), (1, u "java/lang/Enum"), (8, u "text"), (0, u "Ljava/lang/String;"), (52, u "byPoints"), (0, u "(II)Lcom/example/croupier/croupier/rating/Result$Outcome;"), (12, .class_ 103), (0, u "com/example/croupier/croupier/rating/Result")] 21

def k6c0 : Code := { maxStack := 2, maxLocals := 3, code := prog_69_method_5_code, exceptionTable := #[], attributes := #[] }
def k6m0 : Method := { name := "byPoints", desc := "(II)Lcom/example/croupier/croupier/rating/Result$Outcome;", sig := { parameters := [.int, .int], returnType := some (.object "com/example/croupier/croupier/rating/Result$Outcome") }, accessFlags := 9, code := some k6c0 }
/-- com/example/croupier/croupier/rating/Result$Outcome -/
def k6 : Class := { plain "com/example/croupier/croupier/rating/Result$Outcome" (some 5) with
  accessFlags := 16433
  interfaces := #[]
  cf := some (fileOf pool6 1 #[.nestHost 102] #[{ accessFlags := 9, nameIndex := 88, descriptorIndex := 89, attributes := #[] }] 16433 23 #[] #[{ accessFlags := 16409, nameIndex := 5, descriptorIndex := 6, attributes := #[] }, { accessFlags := 16409, nameIndex := 9, descriptorIndex := 6, attributes := #[] }, { accessFlags := 16409, nameIndex := 12, descriptorIndex := 6, attributes := #[] }, { accessFlags := 18, nameIndex := 34, descriptorIndex := 35, attributes := #[] }, { accessFlags := 4122, nameIndex := 15, descriptorIndex := 16, attributes := #[] }])
  fields := #[{ name := "FIRST_WINS", type := (.object "com/example/croupier/croupier/rating/Result$Outcome"), accessFlags := 16409, slot := 0, constantValue := 0 }, { name := "SECOND_WINS", type := (.object "com/example/croupier/croupier/rating/Result$Outcome"), accessFlags := 16409, slot := 1, constantValue := 0 }, { name := "DRAW", type := (.object "com/example/croupier/croupier/rating/Result$Outcome"), accessFlags := 16409, slot := 2, constantValue := 0 }, { name := "text", type := (.object "java/lang/String"), accessFlags := 18, slot := 3, constantValue := 0 }, { name := "$VALUES", type := (.array (.object "com/example/croupier/croupier/rating/Result$Outcome")), accessFlags := 4122, slot := 3, constantValue := 0 }]
  methods := #[k6m0]
  instanceTypes := #[(.object "java/lang/String"), .int, .int, (.object "java/lang/String")]
  staticTypes := #[(.object "com/example/croupier/croupier/rating/Result$Outcome"), (.object "com/example/croupier/croupier/rating/Result$Outcome"), (.object "com/example/croupier/croupier/rating/Result$Outcome"), (.array (.object "com/example/croupier/croupier/rating/Result$Outcome"))]
  resolved := Array.replicate 125 none
  statics := some 0 }

def pool7 : Array CpInfo := pool [(1, u "java/lang/Cloneable"), (0, .class_ 1), (0, u "java/lang/Object"), (0, .class_ 3)] 3

/-- java/lang/Cloneable -/
def k7 : Class := { plain "java/lang/Cloneable" (some 0) with
  accessFlags := 1537
  interfaces := #[]
  cf := some (fileOf pool7 2 #[] #[] 1537 4 #[] #[])
  fields := #[]
  methods := #[]
  instanceTypes := #[]
  staticTypes := #[]
  resolved := Array.replicate 8 none
  statics := none }

/-- the primitive byte -/
def k8 : Class := { plain "byte" none with kind := .primitive 'B', accessFlags := 0x411 }
/-- [B -/
def k9 : Class := { plain "[B" (some 0) with kind := .array 8 .byte, interfaces := #[7, 4], accessFlags := 1041 }

def heap : Heap := #[{ cls := 6, slots := #[.ref 2, .ref 1, .ref 3, .null], vm := .statics 6 },
  { cls := 6, slots := #[.null, .int 0, .int 0, .null], vm := .none },
  { cls := 6, slots := #[.null, .int 0, .int 0, .null], vm := .none },
  { cls := 6, slots := #[.null, .int 0, .int 0, .null], vm := .none }]
def classes : Array Class := #[k0, k1, k2, k3, k4, k5, k6, k7, k8, k9]
def interned : List (Array UInt16 × Addr) := []
def slotsUsed : Nat := 16
def theMethod : MethodId := ⟨1, 1⟩
def args0 : Array Value := #[.int 5, .int 6, .int 7]
def aboutOver (below : List Frame) : State where
  vm := { classes := classes, interned := interned.toArray }
  heap := heap
  slotsUsed := slotsUsed
  threads := #[{ frames := .invoking theMethod args0 :: below }]
def below0 : List Frame := [.native { method := ⟨0, 0⟩, args := #[] }]
def about1 : State := aboutOver below0
def p0 : Program := .bare "" "" ""
def e0 : Env := launch0.env 0 0 0
theorem w_frames : about1.frames = Frame.invoking theMethod args0 :: below0 := rfl
set_option maxRecDepth 65536 in
theorem w_args : argsFit about1.vm theMethod args0 = true := by decide +kernel
set_option maxRecDepth 65536 in
theorem w_heap : heapFits about1 = true := by decide +kernel
set_option maxRecDepth 65536 in
theorem w_runnable : about1.curStatus? = some .runnable := by decide +kernel
set_option maxRecDepth 65536 in
theorem w_alone : about1.alone = true := by decide +kernel
set_option maxRecDepth 65536 in
theorem w_named : about1.methodNamed? x = some theMethod := by decide +kernel
set_option maxRecDepth 65536 in
theorem w_hears : about1.hears theMethod below0 = true := by decide +kernel
set_option maxRecDepth 65536 in
theorem w_ripe : about1.ripe theMethod args0 below0 = true := by decide +kernel
theorem w_running : about1.status = .running := rfl
set_option maxRecDepth 65536 in
theorem w_room : about1.hasRoom e0.platform room_1 = true :=
  launch0.hasRoom_least _ room_1 (by decide +kernel) (by decide +kernel) (by decide +kernel) (by decide +kernel) (by decide +kernel) (by decide +kernel)
theorem allAtoms_all (ts : List Jvm.Cond) (a : Array Jvm.Value) (st : Jvm.State) : (allAtoms ts).before a st = ts.all (fun c => c.before a st) := by
  induction ts with
  | nil => rfl
  | cons c t ih =>
    show (Jvm.Cond.and c (allAtoms t)).before a st = _
    rw [Jvm.Cond.before_and, ih, List.all_cons]
def words1 : List Jvm.Cond := Jvm.Cond.code x code maxLocals ret :: tables_1
/-- a 'code' word, met by the world's own term for the bytes: nothing is compared byte by byte -/
theorem code_word {y : MethodName} {bytes : ByteArray} {mx : Nat} {rt : Option FieldType} {a : Array Value} {s : State} {m : MethodId} {meth : Method} {c : Code} (h1 : s.methodNamed? y = some m) (h2 : s.vm.method? m = some meth) (h3 : meth.code = some c) (h4 : c.code = bytes)
    (h5 : (c.maxLocals == mx && c.exceptionTable.isEmpty && decide (c.maxStack ≤ mostOperands) && decide (meth.sig.returnType = rt) && !meth.locks && decide (parseMethodDescriptor y.desc = some meth.sig)) = true) : (Jvm.Cond.code y bytes mx rt).before a s = true := by
  simp only [Bool.and_eq_true, beq_iff_eq, Bool.not_eq_true', decide_eq_true_eq] at h5
  obtain ⟨⟨⟨⟨⟨g1, g2⟩, g3⟩, g4⟩, g5⟩, g6⟩ := h5
  simp [Cond.before, Cond.holds, Cond.value, h1, h2, h3, h4, g1, g2, g3, g4, g5, g6]
def isCode : Jvm.Cond → Bool
  | .code _ _ _ _ => true
  | _ => false
theorem all_split {L : List Jvm.Cond} {P : Jvm.Cond → Bool} (h1 : L.all (fun c => isCode c || P c) = true) (h2 : ∀ c ∈ L.filter isCode, P c = true) : L.all P = true := by
  refine List.all_eq_true.mpr fun c hc => ?_
  have h := List.all_eq_true.mp h1 c hc
  rcases Bool.eq_false_or_eq_true (isCode c) with hi | hi
  · exact h2 c (List.mem_filter.mpr ⟨hc, hi⟩)
  · simpa [hi] using h
set_option maxRecDepth 65536 in
theorem w_c0 : (Jvm.Cond.code x code maxLocals ret).before args0 about1 = true := code_word (m := ⟨1, 1⟩) (meth := k1m1) (c := k1c1) (by decide +kernel) rfl rfl rfl (by decide +kernel)
set_option maxRecDepth 65536 in
theorem w_c1 : (Jvm.Cond.code ({ cls := "com/example/croupier/croupier/rating/Result$Outcome", name := "byPoints", desc := "(II)Lcom/example/croupier/croupier/rating/Result$Outcome;" } : Jvm.MethodName) prog_69_method_5_code (3 : Nat) (Option.some (Jvm.ClassFile.FieldType.object "com/example/croupier/croupier/rating/Result$Outcome"))).before args0 about1 = true := code_word (m := ⟨6, 0⟩) (meth := k6m0) (c := k6c0) (by decide +kernel) rfl rfl rfl (by decide +kernel)
def codes1 : List Jvm.Cond := [Jvm.Cond.code x code maxLocals ret, Jvm.Cond.code ({ cls := "com/example/croupier/croupier/rating/Result$Outcome", name := "byPoints", desc := "(II)Lcom/example/croupier/croupier/rating/Result$Outcome;" } : Jvm.MethodName) prog_69_method_5_code (3 : Nat) (Option.some (Jvm.ClassFile.FieldType.object "com/example/croupier/croupier/rating/Result$Outcome"))]
set_option maxRecDepth 65536 in
theorem codes_eq : words1.filter isCode = codes1 := rfl
theorem w_codes : ∀ c ∈ words1.filter isCode, c.before args0 about1 = true := by
  rw [codes_eq]
  intro c hc
  simp only [codes1, List.mem_cons, List.not_mem_nil, or_false] at hc
  rcases hc with rfl | rfl
  · exact w_c0
  · exact w_c1
set_option maxRecDepth 65536 in
theorem w_t1 : words1.all (fun c => isCode c || c.before args0 about1) = true := by decide +kernel
theorem w_tables : (allAtoms (Jvm.Cond.code x code maxLocals ret :: tables_1)).before args0 about1 = true := by
  rw [allAtoms_all]
  show words1.all (fun c => c.before args0 about1) = true
  refine all_split ?_ w_codes
  rw [w_t1]
set_option maxRecDepth 65536 in
theorem w_case : (Jvm.Cond.and given_1 narrow_1).before args0 about1 = true := by decide +kernel
theorem w_applies : (headSpec (Jvm.Cond.code x code maxLocals ret :: tables_1) room_1).applies x e0.platform about1 = true :=
  (Spec.applies_iff w_frames).mpr ⟨w_running, w_runnable, w_alone, w_named, w_hears, w_ripe, w_room, w_tables⟩
theorem atStart : AtStart classFile x code maxLocals ret World_1 tables_1 room_1 Calls_1 rest_1 Pre_1 launch0 p0 e0 about1 theMethod args0 below0 :=
  ⟨lists_1, trivial, launch0.admits_env _ _ _, launch0.least_env, fairChoices_fair.cas, fairChoices_fair.clock, w_frames, w_args, w_heap, w_applies, trivial, trivial, w_case⟩
end start1
theorem witness_1 : WitnessClaimed_1 := ⟨start1.p0, start1.e0, start1.about1, start1.theMethod, start1.args0, start1.below0, start1.atStart⟩
end Jvm.Pilot.@@N@@
