import JvmDerived
import JvmDerived.Pilot.@@N@@Statement
import JvmDerived.Pilot.@@N@@Code
set_option linter.unusedVariables false
set_option linter.unusedSimpArgs false
namespace Jvm.Pilot.@@N@@
open Jvm Jvm.ClassFile Sem Op Lib Jvm.Free Jvm.Stand Jvm.LawKit Jvm.RoadKit Bundle Jvm.Pilot.@@N@@.Jvm.D
abbrev jv (x : Int64) : Slot := .val (.long x)
section OwnKit
variable {p : Program} {l : Launch} {e : Env} {R : Room} {s : State} {m : MethodId} {args : Array Value} {below : List Frame} {meth : Method} {c : Code} {T T' : State} {locs : List Loc} {cells slots kc ks : Nat} {Q : Option Value → Heap → List Loc → Prop} {g g' : JFrame}
/-- from the state T, its top frame g, the invocation comes to its end with Q -/
def own_WP (p : Program) (e : Env) (below : List Frame) (s : State) (Q : Option Value → Heap → List Loc → Prop) (kc ks : Nat) (T : State) (g : JFrame) : Prop :=
  ∃ s₂ o, Steps p.tables e below (T.setTop g) s₂ ∧ s₂.status = .running ∧ Ended s₂ below o ∧ ∃ v L, o = .returned v ∧ Q v s₂.heap L ∧ FrameEnd s o s₂ L kc ks
theorem own_step (h : ∀ t, Steps p.tables e below (T'.setTop g') t → Steps p.tables e below (T.setTop g) t) (hr : own_WP p e below s Q kc ks T' g') : own_WP p e below s Q kc ks T g := by
  obtain ⟨s₂, o, h1, h2⟩ := hr
  exact ⟨s₂, o, h _ h1, h2⟩
theorem own_st (g' : JFrame) (h : ∀ t, Steps p.tables e below (T.setTop g') t → Steps p.tables e below (T.setTop g) t) (hr : own_WP p e below s Q kc ks T g') : own_WP p e below s Q kc ks T g := own_step h hr
theorem own_jump (h : Steps p.tables e below (T.setTop g) (T'.setTop g')) (hr : own_WP p e below s Q kc ks T' g') : own_WP p e below s Q kc ks T g := by
  obtain ⟨s₂, o, h1, h2⟩ := hr
  exact ⟨s₂, o, h.trans h1, h2⟩
theorem own_ret (X : Stand p l e R s m args below meth c T locs cells slots) (hlk : meth.locks = false) {v : Option Value} (hv : meth.sig.returnType = none → v = none)
    (hst : ∀ fs, (∀ (f : JFrame) (acts : List Action), f.method = m → f.locked = none → f.entered = [] → (doReturn e (T.setTop f) acts v).1 = T.setFrames fs) → Steps p.tables e below (T.setTop g) (T.setFrames fs))
    (hq : Q v T.heap locs) (h1 : cells ≤ kc) (h2 : slots ≤ ks) : own_WP p e below s Q kc ks T g := by
  obtain ⟨fs, hr, hrun, hended, hW, hsame⟩ := X.leave (v := v) hv hlk
  exact ⟨_, _, hst fs hr, hrun, hended, v, locs, rfl, hq, ⟨v, rfl⟩, hW, hsame.mono h1 h2⟩
theorem own_wide (X : Stand p l e R s m args below meth c T locs cells slots) {cells' slots' : Nat} (h1 : cells ≤ cells') (h2 : slots ≤ slots') : Stand p l e R s m args below meth c T locs cells' slots' :=
  ⟨X.admits, X.cas, X.clock, X.frames, X.room, X.hears, X.method, X.code, X.here, X.tail, X.warmed, X.limits, X.bytes, X.same.mono h1 h2⟩
end OwnKit
theorem own_body {l : Launch} {y : MethodName} {bytes : ByteArray} {maxL : Nat} {ret : Option FieldType} {ws : List Jvm.Cond} {rm : Room} {A : Array Value} {Z : State} {h0 : Heap} {Q : Option Value → Heap → List Loc → Prop} {ls : Array Slot} {kc ks : Nat}
    (hpl : plainFor y = true) (ef : ∀ m, entryFrame m A maxL = mkF m 0 ls [])
    (body : ∀ (p : Program) (e : Env) (s : State) (m : MethodId) (below : List Frame) (meth : Method) (c : Code) (T : State), Stand p l e rm s m A below meth c T [] 0 0 → p.tables.exec = Jvm.exec → c.code = bytes → c.maxLocals = maxL → Z.Warmed39 s.vm → s.vm.findClass y.cls = some m.cls → meth.name = y.name → meth.sig.returnType = ret → meth.locks = false → T.heap = h0 →
      own_WP p e below s Q kc ks T (mkF m 0 ls [])) :
    MetFree l y (head1 (Jvm.Cond.code y bytes maxL ret :: ws) rm) (fun a U => a = A ∧ Z.Warmed39 U.vm ∧ U.heap = h0) (fun _ _ _ _ _ => True) (fun _ U o U' => ∃ v L, o = .returned v ∧ Q v U'.heap L ∧ FrameEnd U o U' L kc ks) := by
  refine MetFree.of_bodySF hpl hisR ?_
  intro p e s m args below meth c s₁ Bd hml0 hP hK
  obtain ⟨rfl, hZ, hh⟩ := hP
  obtain ⟨s₂, o, h1, h2⟩ := body p e s m below meth c s₁ (Stand.of_body Bd) Bd.exec Bd.bytes hml0 hZ (findClass_of_methodNamed Bd.named) (name_of_methodNamed Bd.named Bd.method).1 Bd.returns Bd.notSynchronized (by rw [← hh, Bd.state]; rfl)
  exact ⟨s₂, o, castTop (ef m) h1, h2⟩
theorem own_llt1 {x y : Int64} (h : x < y) : ifCond.holds .lt (lcmpW x y) = true := (if0 _ _).trans (tlt ((lw_lt x y).mpr h)).1
theorem own_llt0 {x y : Int64} (h : ¬ x < y) : ifCond.holds .lt (lcmpW x y) = false := (if0 _ _).trans (flt (mt (lw_lt x y).mp h)).1
theorem own_lge1 {x y : Int64} (h : ¬ x < y) : ifCond.holds .ge (lcmpW x y) = true := (if0 _ _).trans (flt (mt (lw_lt x y).mp h)).2.1
theorem own_lge0 {x y : Int64} (h : x < y) : ifCond.holds .ge (lcmpW x y) = false := (if0 _ _).trans (tlt ((lw_lt x y).mpr h)).2.1
theorem own_lgt1 {x y : Int64} (h : y < x) : ifCond.holds .gt (lcmpW x y) = true := (if0 _ _).trans (tlt ((lw_gt x y).mpr h)).2.2.1
theorem own_lgt0 {x y : Int64} (h : ¬ y < x) : ifCond.holds .gt (lcmpW x y) = false := (if0 _ _).trans (flt (mt (lw_gt x y).mp h)).2.2.1
theorem own_lle1 {x y : Int64} (h : ¬ y < x) : ifCond.holds .le (lcmpW x y) = true := (if0 _ _).trans (flt (mt (lw_gt x y).mp h)).2.2.2
theorem own_lle0 {x y : Int64} (h : y < x) : ifCond.holds .le (lcmpW x y) = false := (if0 _ _).trans (tlt ((lw_gt x y).mpr h)).2.2.2
theorem own_leq1 {x y : Int64} (h : x = y) : ifCond.holds .eq (lcmpW x y) = true := (if0 _ _).trans (teq ((lw_eq x y).mpr h)).1
theorem own_leq0 {x y : Int64} (h : ¬ x = y) : ifCond.holds .eq (lcmpW x y) = false := (if0 _ _).trans (feq (mt (lw_eq x y).mp h)).1
theorem own_lne1 {x y : Int64} (h : ¬ x = y) : ifCond.holds .ne (lcmpW x y) = true := (if0 _ _).trans (feq (mt (lw_eq x y).mp h)).2
theorem own_lne0 {x y : Int64} (h : x = y) : ifCond.holds .ne (lcmpW x y) = false := (if0 _ _).trans (teq ((lw_eq x y).mpr h)).2
theorem own_b64 {n : Int} (h1 : -2 ^ 63 ≤ n) (h2 : n < 2 ^ 63) : n.bmod (2 ^ 64) = n := by rw [Int.bmod_def]; omega
theorem own_add64 {x y : Int64} (h1 : -2 ^ 63 ≤ x.toInt + y.toInt) (h2 : x.toInt + y.toInt < 2 ^ 63) : (x + y).toInt = x.toInt + y.toInt := by rw [Int64.toInt_add, own_b64 h1 h2]
theorem own_sub64 {x y : Int64} (h1 : -2 ^ 63 ≤ x.toInt - y.toInt) (h2 : x.toInt - y.toInt < 2 ^ 63) : (x - y).toInt = x.toInt - y.toInt := by rw [Int64.toInt_sub, own_b64 h1 h2]
theorem own_mul64 {x y : Int64} (h1 : -2 ^ 63 ≤ x.toInt * y.toInt) (h2 : x.toInt * y.toInt < 2 ^ 63) : (x * y).toInt = x.toInt * y.toInt := by rw [Int64.toInt_mul, own_b64 h1 h2]
theorem own_div64 {x y : Int64} (hx : 0 ≤ x.toInt) (hy : 0 < y.toInt) : (x / y).toInt = x.toInt / y.toInt := by
  rw [Int64.toInt_div, Int.tdiv_eq_ediv_of_nonneg hx]
  have h1 : 0 ≤ x.toInt / y.toInt := Int.ediv_nonneg hx (by omega)
  have h2 : x.toInt / y.toInt ≤ x.toInt := Int.ediv_le_self _ hx
  have h3 := x.toInt_lt
  exact own_b64 (by omega) (by omega)
theorem own_mod64 {x y : Int64} (hx : 0 ≤ x.toInt) : (x % y).toInt = x.toInt % y.toInt := by
  rw [Int64.toInt_mod, Int.tmod_eq_emod_of_nonneg hx]
theorem own_lrem (x y : Int64) : x - (x / y) * y = x % y := by
  apply Int64.toInt_inj.mp
  have h1 := Int64.le_toInt (x % y)
  have h2 := Int64.toInt_lt (x % y)
  rw [Int64.toInt_sub, Int64.toInt_mul, Int64.toInt_div, Int.bmod_mul_bmod, Int.sub_bmod_bmod, Int.mul_comm (x.toInt.tdiv y.toInt), ← Int.tmod_def, ← Int64.toInt_mod]
  exact Int.bmod_eq_of_le_mul_two (by omega) (by omega)
theorem own_i64nat (v : Int64) : v.toInt = if v.toBitVec.toNat < 2 ^ 63 then (v.toBitVec.toNat : Int) else (v.toBitVec.toNat : Int) - 2 ^ 64 := by
  have := v.toBitVec.isLt
  rw [← Int64.toInt_toBitVec, BitVec.toInt_eq_toNat_cond]
  split <;> split <;> omega
theorem own_i32nat (v : Int32) : v.toInt = if v.toBitVec.toNat < 2 ^ 31 then (v.toBitVec.toNat : Int) else (v.toBitVec.toNat : Int) - 2 ^ 32 := by
  have := v.toBitVec.isLt
  rw [← Int32.toInt_toBitVec, BitVec.toInt_eq_toNat_cond]
  split <;> split <;> omega
/-- a mask of k ones, k at most 31 -/
theorem own_and32 (x m : Int32) {k : Nat} (hk : k ≤ 31) (hm : m.toBitVec.toNat = 2 ^ k - 1) : 0 ≤ (x &&& m).toInt ∧ (x &&& m).toInt < 2 ^ k ∧ (x &&& m).toBitVec.toNat = x.toBitVec.toNat % 2 ^ k := by
  have h1 := own_i32nat (x &&& m)
  have h2 : (x &&& m).toBitVec.toNat = x.toBitVec.toNat &&& m.toBitVec.toNat := rfl
  rw [hm, Nat.and_two_pow_sub_one_eq_mod] at h2
  have h3 : x.toBitVec.toNat % 2 ^ k < 2 ^ k := Nat.mod_lt _ (Nat.two_pow_pos k)
  have h4 : 2 ^ k ≤ 2 ^ 31 := Nat.pow_le_pow_right (by decide) hk
  rw [h2, if_pos (Nat.lt_of_lt_of_le h3 h4)] at h1
  refine ⟨by omega, ?_, h2⟩
  rw [h1]
  exact_mod_cast h3
theorem own_and64 (x m : Int64) {k : Nat} (hk : k ≤ 63) (hm : m.toBitVec.toNat = 2 ^ k - 1) : 0 ≤ (x &&& m).toInt ∧ (x &&& m).toInt < 2 ^ k ∧ (x &&& m).toBitVec.toNat = x.toBitVec.toNat % 2 ^ k := by
  have h1 := own_i64nat (x &&& m)
  have h2 : (x &&& m).toBitVec.toNat = x.toBitVec.toNat &&& m.toBitVec.toNat := rfl
  rw [hm, Nat.and_two_pow_sub_one_eq_mod] at h2
  have h3 : x.toBitVec.toNat % 2 ^ k < 2 ^ k := Nat.mod_lt _ (Nat.two_pow_pos k)
  have h4 : 2 ^ k ≤ 2 ^ 63 := Nat.pow_le_pow_right (by decide) hk
  rw [h2, if_pos (Nat.lt_of_lt_of_le h3 h4)] at h1
  refine ⟨by omega, ?_, h2⟩
  rw [h1]
  exact_mod_cast h3
theorem own_lremM {p : Program} {l : Launch} {e : Env} {R : Room} {s : State} {m : MethodId} {args : Array Value} {below : List Frame} {meth : Method} {c : Code} {T : State} {locs : List Loc} {cells slots : Nat} {g : JFrame} {target : State} (X : Stand p l e R s m args below meth c T locs cells slots) (hx : p.tables.exec = Jvm.exec) (hg : g.method = m) {x y : Int64} {rest : List Value} (hd : decode c.code g.pc = .ok (.lrem, 1)) (hs : g.stack = .long y :: .long x :: rest) (hy : y ≠ 0)
    (hr : Steps p.tables e below (T.setTop { g with pc := g.pc + 1, stack := .long (x % y) :: rest }) target) : Steps p.tables e below (T.setTop g) target :=
  XS.lrem X.here hx hg hd hs hy (by rw [own_lrem]; exact hr)
theorem own_pos_ne {x : Int64} (h : (0 : Int64) < x) : x ≠ 0 := fun q => by rw [q] at h; exact absurd h (by decide)

def own_min (x y : Int64) : Int64 := if y < x then y else x
theorem own_min_int (x y : Int64) : (own_min x y).toInt = min x.toInt y.toInt := by
  unfold own_min
  simp only [Int64.lt_iff_toInt_lt]
  split <;> omega
theorem own_mx (x : Int64) : 0 ≤ (x &&& (9223372036854775807 : Int64)).toInt := (own_and64 x _ (k := 63) (by decide) rfl).1
/-- limit, three shares, each cut to what is left: what take() asks each time -/
theorem own_takes (l x y z a b d : Int64) (hl : 0 ≤ l.toInt) (hx : 0 ≤ x.toInt) (hy : 0 ≤ y.toInt) (hz : 0 ≤ z.toInt) (ha : a = own_min x l) (hb : b = own_min y (l - a)) (hd : d = own_min z ((l - a) - b)) :
    ¬ l < (0 : Int64) + a ∧ ¬ l < ((0 : Int64) + a) + b ∧ ¬ l < (((0 : Int64) + a) + b) + d := by
  have e0 : (0 : Int64).toInt = 0 := rfl
  have hl2 := l.toInt_lt
  have a1 : a.toInt = min x.toInt l.toInt := by rw [ha, own_min_int]
  have a2 : (l - a).toInt = l.toInt - a.toInt := own_sub64 (by omega) (by omega)
  have b1 : b.toInt = min y.toInt (l.toInt - a.toInt) := by rw [hb, own_min_int, a2]
  have b2 : ((l - a) - b).toInt = l.toInt - a.toInt - b.toInt := by rw [own_sub64 (by omega) (by omega), a2]
  have d1 : d.toInt = min z.toInt (l.toInt - a.toInt - b.toInt) := by rw [hd, own_min_int, b2]
  have s1 : ((0 : Int64) + a).toInt = a.toInt := by rw [own_add64 (by omega) (by omega)]; omega
  have s2 : (((0 : Int64) + a) + b).toInt = a.toInt + b.toInt := by rw [own_add64 (by omega) (by omega), s1]
  have s3 : ((((0 : Int64) + a) + b) + d).toInt = a.toInt + b.toInt + d.toInt := by rw [own_add64 (by omega) (by omega), s2]
  simp only [Int64.lt_iff_toInt_lt, s1, s2, s3]
  omega
theorem d1_0 : decode jdk_29_method_70_code 0 = .ok (.lload_n 0, 1) := by decide +kernel
theorem d1_1 : decode jdk_29_method_70_code 1 = .ok (.lload_n 2, 1) := by decide +kernel
theorem d1_2 : decode jdk_29_method_70_code 2 = .ok (.lcmp, 1) := by decide +kernel
theorem d1_3 : decode jdk_29_method_70_code 3 = .ok (.ifCond .gt 7, 3) := by decide +kernel
theorem d1_10 : decode jdk_29_method_70_code 10 = .ok (.lload_n 2, 1) := by decide +kernel
theorem d1_11 : decode jdk_29_method_70_code 11 = .ok (.lreturn, 1) := by decide +kernel
theorem d1_6 : decode jdk_29_method_70_code 6 = .ok (.lload_n 0, 1) := by decide +kernel
theorem d1_7 : decode jdk_29_method_70_code 7 = .ok (.goto 4, 3) := by decide +kernel
theorem own_ef1 (m : MethodId) (q1 : Int64) (q2 : Int64) : entryFrame m #[(.long q1), (.long q2)] 4 = mkF m 0 #[jv q1, .second, jv q2, .second] [] := by first | (simp [entryFrame, mkF, argsToLocals, Value.category]; done) | rfl
def own_Q1 (Z : State) (q1 : Int64) (q2 : Int64) (h0 : Heap) (n0 : Nat) (v : Option Value) (h : Heap) (L : List Loc) : Prop := v = some (.long (own_min q1 q2)) ∧ Fr n0 L ∧ h = h0
set_option maxRecDepth 65536 in
set_option maxHeartbeats 40000000 in
theorem own_rm1 (l : Launch) (Z : State) (a0 : Array Value) (hw : ∀ d ∈ tables_1, d.before a0 Z = true) (ws : List Jvm.Cond) (q1 : Int64) (q2 : Int64) (h0 : Heap) (n0 : Nat) (Z0 : n0 ≤ h0.size) :
    MetFree l (⟨"java/lang/Math", "min", "(JJ)J"⟩ : MethodName) (head1 (Jvm.Cond.code (⟨"java/lang/Math", "min", "(JJ)J"⟩ : MethodName) jdk_29_method_70_code 4 (some .long) :: ws) ({ frames := 0, cells := 0, slots := 0, locals := 0 } : Room)) (fun a U => a = #[(.long q1), (.long q2)] ∧ Z.Warmed39 U.vm ∧ U.heap = h0) (fun _ _ _ _ _ => True) (fun _ U o U' => ∃ v L, o = .returned v ∧ own_Q1 Z q1 q2 h0 n0 v U'.heap L ∧ FrameEnd U o U' L ({ frames := 0, cells := 0, slots := 0, locals := 0 } : Room).cells ({ frames := 0, cells := 0, slots := 0, locals := 0 } : Room).slots) := by
  refine own_body (Jvm.Free.JP.mathPlain rfl (by decide +kernel)) (fun m => own_ef1 m q1 q2) ?_
  intro p e s m below meth c T0 X0 hx hby hml hZ hown hnm hret hlk e0
  have hown : s.vm.findClass "java/lang/Math" = some m.cls := hown
  have hnm : meth.name = "min" := hnm
  have N0 := Fr.nil n0
  refine own_st (mkF m 1 #[jv q1, .second, jv q2, .second] [(.long q1)]) (fun t k => XS.lloadN X0.here hx rfl (hb hby d1_0) rfl k) ?_
  refine own_st (mkF m 2 #[jv q1, .second, jv q2, .second] [(.long q2), (.long q1)]) (fun t k => XS.lloadN X0.here hx rfl (hb hby d1_1) rfl k) ?_
  refine own_st (mkF m 3 #[jv q1, .second, jv q2, .second] [(.int (lcmpW q1 q2))]) (fun t k => XS.lcmp X0.here hx rfl (hb hby d1_2) rfl k) ?_
  by_cases hc1 : q2 < q1
  · refine own_st (mkF m 10 #[jv q1, .second, jv q2, .second] []) (fun t k => XS.ifYes X0.here hx rfl (pc0 := 3) (pc' := 10) rfl (hb hby d1_3) rfl (own_lgt1 hc1) (by decide) (by decide) k) ?_
    refine own_st (mkF m 11 #[jv q1, .second, jv q2, .second] [(.long q2)]) (fun t k => XS.lloadN X0.here hx rfl (hb hby d1_10) rfl k) ?_
    refine own_ret X0 hlk (v := some (.long q2)) (fun h => by rw [hret] at h; cases h) (fun fs hr => X0.lreturnOut hx hret (hb hby d1_11) hr) ?_ (by decide) (by decide)
    show own_Q1 Z q1 q2 h0 n0 _ T0.heap _
    rw [e0]
    exact ⟨congrArg (fun z => some (Value.long z)) (by simp [own_min, hc1] : q2 = own_min q1 q2), N0, rfl⟩
  · refine own_st (mkF m 6 #[jv q1, .second, jv q2, .second] []) (fun t k => XS.ifNo X0.here hx rfl (hb hby d1_3) rfl (own_lgt0 hc1) k) ?_
    refine own_st (mkF m 7 #[jv q1, .second, jv q2, .second] [(.long q1)]) (fun t k => XS.lloadN X0.here hx rfl (hb hby d1_6) rfl k) ?_
    refine own_st (mkF m 11 #[jv q1, .second, jv q2, .second] [(.long q1)]) (fun t k => XS.goto X0.here hx rfl (pc0 := 7) (pc' := 11) rfl (hb hby d1_7) (by decide) (by decide) k) ?_
    refine own_ret X0 hlk (v := some (.long q1)) (fun h => by rw [hret] at h; cases h) (fun fs hr => X0.lreturnOut hx hret (hb hby d1_11) hr) ?_ (by decide) (by decide)
    show own_Q1 Z q1 q2 h0 n0 _ T0.heap _
    rw [e0]
    exact ⟨congrArg (fun z => some (Value.long z)) (by simp [own_min, hc1] : q1 = own_min q1 q2), N0, rfl⟩
theorem d2_0 : decode prog_42_method_1_code 0 = .ok (.aload_n 0, 1) := by decide +kernel
theorem d2_1 : decode prog_42_method_1_code 1 = .ok (.invokespecial 1, 3) := by decide +kernel
theorem hw_11 {a0 : Array Value} {Z : State} (hw : ∀ d ∈ tables_1, d.before a0 Z = true) : (Jvm.Cond.methodLink "com/example/earmark_ledger/earmarkledger/protocol/HeapAllowance" (1 : Nat) ({ cls := "java/lang/Object", name := "<init>", desc := "()V" } : Jvm.MethodName)).before a0 Z = true := hw _ (List.mem_of_getElem? (i := 11) rfl)
theorem hw_12 {a0 : Array Value} {Z : State} (hw : ∀ d ∈ tables_1, d.before a0 Z = true) : (Jvm.Cond.instanceMethod ({ cls := "java/lang/Object", name := "<init>", desc := "()V" } : Jvm.MethodName)).before a0 Z = true := hw _ (List.mem_of_getElem? (i := 12) rfl)
theorem hw_13 {a0 : Array Value} {Z : State} (hw : ∀ d ∈ tables_1, d.before a0 Z = true) : (Jvm.Cond.code ({ cls := "java/lang/Object", name := "<init>", desc := "()V" } : Jvm.MethodName) object_method_1_code (1 : Nat) (Option.none : Option Jvm.ClassFile.FieldType)).before a0 Z = true := hw _ (List.mem_of_getElem? (i := 13) rfl)
theorem d2_4 : decode prog_42_method_1_code 4 = .ok (.aload_n 0, 1) := by decide +kernel
theorem d2_5 : decode prog_42_method_1_code 5 = .ok (.lload_n 1, 1) := by decide +kernel
theorem d2_6 : decode prog_42_method_1_code 6 = .ok (.putfield 7, 3) := by decide +kernel
theorem hw_14 {a0 : Array Value} {Z : State} (hw : ∀ d ∈ tables_1, d.before a0 Z = true) : (Jvm.Cond.fieldLink "com/example/earmark_ledger/earmarkledger/protocol/HeapAllowance" (7 : Nat) "com/example/earmark_ledger/earmarkledger/protocol/HeapAllowance" "limit" "J").before a0 Z = true := hw _ (List.mem_of_getElem? (i := 14) rfl)
theorem hw_15 {a0 : Array Value} {Z : State} (hw : ∀ d ∈ tables_1, d.before a0 Z = true) : (Jvm.Cond.laysFinal "com/example/earmark_ledger/earmarkledger/protocol/HeapAllowance" "com/example/earmark_ledger/earmarkledger/protocol/HeapAllowance" "limit" "J").before a0 Z = true := hw _ (List.mem_of_getElem? (i := 15) rfl)
theorem hw_6 {a0 : Array Value} {Z : State} (hw : ∀ d ∈ tables_1, d.before a0 Z = true) : (Jvm.Cond.instantiable "com/example/earmark_ledger/earmarkledger/protocol/HeapAllowance" (2 : Nat)).before a0 Z = true := hw _ (List.mem_of_getElem? (i := 6) rfl)
theorem hw_22 {a0 : Array Value} {Z : State} (hw : ∀ d ∈ tables_1, d.before a0 Z = true) : (Jvm.Cond.lays "com/example/earmark_ledger/earmarkledger/protocol/HeapAllowance" "com/example/earmark_ledger/earmarkledger/protocol/HeapAllowance" "taken" "J").before a0 Z = true := hw _ (List.mem_of_getElem? (i := 22) rfl)
theorem d2_9 : decode prog_42_method_1_code 9 = .ok (.return_, 1) := by decide +kernel
theorem pn_2 : plainName "com/example/earmark_ledger/earmarkledger/protocol/HeapAllowance" = true := by first | (simp [plainName, overriddenIn]; done) | decide +kernel
theorem own_ef2 (m : MethodId) (a1 : Addr) (q2 : Int64) : entryFrame m #[(.ref a1), (.long q2)] 3 = mkF m 0 #[rv a1, jv q2, .second] [] := by first | (simp [entryFrame, mkF, argsToLocals, Value.category]; done) | rfl
def own_Q2 (Z : State) (a1 : Addr) (q2 : Int64) (h0 : Heap) (n0 : Nat) (v : Option Value) (h : Heap) (L : List Loc) : Prop := v = none ∧ Fr n0 L ∧ Keep h0 h [a1] ∧ Exa Z h a1 "com/example/earmark_ledger/earmarkledger/protocol/HeapAllowance" ∧ Fld Z h a1 "com/example/earmark_ledger/earmarkledger/protocol/HeapAllowance" "limit" "J" (.long q2) ∧ Fld Z h a1 "com/example/earmark_ledger/earmarkledger/protocol/HeapAllowance" "taken" "J" (.long (0 : Int64))
set_option maxRecDepth 65536 in
set_option maxHeartbeats 40000000 in
theorem own_rm2 (l : Launch) (Z : State) (a0 : Array Value) (hw : ∀ d ∈ tables_1, d.before a0 Z = true) (ws : List Jvm.Cond) (a1 : Addr) (q2 : Int64) (h0 : Heap) (n0 : Nat) (Z0 : n0 ≤ h0.size) (E_a1 : Exa Z h0 a1 "com/example/earmark_ledger/earmarkledger/protocol/HeapAllowance") (g_a1 : n0 ≤ a1) (F_limit : Fld Z h0 a1 "com/example/earmark_ledger/earmarkledger/protocol/HeapAllowance" "limit" "J" (.long (0 : Int64))) (F_taken : Fld Z h0 a1 "com/example/earmark_ledger/earmarkledger/protocol/HeapAllowance" "taken" "J" (.long (0 : Int64))) :
    MetFree l (⟨"com/example/earmark_ledger/earmarkledger/protocol/HeapAllowance", "<init>", "(J)V"⟩ : MethodName) (head1 (Jvm.Cond.code (⟨"com/example/earmark_ledger/earmarkledger/protocol/HeapAllowance", "<init>", "(J)V"⟩ : MethodName) prog_42_method_1_code 3 none :: ws) ({ frames := 1, cells := 0, slots := 0, locals := 12 } : Room)) (fun a U => a = #[(.ref a1), (.long q2)] ∧ Z.Warmed39 U.vm ∧ U.heap = h0) (fun _ _ _ _ _ => True) (fun _ U o U' => ∃ v L, o = .returned v ∧ own_Q2 Z a1 q2 h0 n0 v U'.heap L ∧ FrameEnd U o U' L ({ frames := 1, cells := 0, slots := 0, locals := 12 } : Room).cells ({ frames := 1, cells := 0, slots := 0, locals := 12 } : Room).slots) := by
  refine own_body (plainFor_of_name pn_2) (fun m => own_ef2 m a1 q2) ?_
  intro p e s m below meth c T0 X0 hx hby hml hZ hown hnm hret hlk e0
  have hown : s.vm.findClass "com/example/earmark_ledger/earmarkledger/protocol/HeapAllowance" = some m.cls := hown
  have hnm : meth.name = "<init>" := hnm
  have N0 := Fr.nil n0
  have K0 : Keep h0 h0 [a1] := Keep.refl _ _
  refine own_st (mkF m 1 #[rv a1, jv q2, .second] [(.ref a1)]) (fun t k => XS.aloadN X0.here hx rfl (hb hby d2_0) rfl rfl k) ?_
  obtain ⟨T2, X2, e2, st2⟩ := initO X0 hx hZ hown (hw_11 hw) (hw_12 hw) (hw_13 hw) e0 (g := (mkF m 1 #[rv a1, jv q2, .second] [(.ref a1)])) rfl (by rw [hml]; rfl) rfl (hb hby d2_1) (by decide) (W := 0) (by show 2 * 0 + _ ≤ _; exact Nat.le_of_eq rfl) (by decide)
  refine own_step (g' := (mkF m 4 #[rv a1, jv q2, .second] [])) st2 ?_
  refine own_st (mkF m 5 #[rv a1, jv q2, .second] [(.ref a1)]) (fun t k => XS.aloadN X2.here hx rfl (hb hby d2_4) rfl rfl k) ?_
  refine own_st (mkF m 6 #[rv a1, jv q2, .second] [(.long q2), (.ref a1)]) (fun t k => XS.lloadN X2.here hx rfl (hb hby d2_5) rfl k) ?_
  obtain ⟨T3, h3, X3, e3, W3, st3⟩ := putF X2 hx hZ hown (host := "") (Or.inl (hw_14 hw)) Via.refl e2 F_limit E_a1 (Or.inr ⟨(hw_15 hw), rfl, hnm⟩) (hw_6 hw) (ty := .long) (by decide) rfl rfl (g := (mkF m 6 #[rv a1, jv q2, .second] [(.long q2), (.ref a1)])) rfl rfl (hb hby d2_6)
  have f1_Exa_a1 : Exa Z h3 a1 "com/example/earmark_ledger/earmarkledger/protocol/HeapAllowance" := (E_a1.wr W3)
  have f2_Fld_a1 : Fld Z h3 a1 "com/example/earmark_ledger/earmarkledger/protocol/HeapAllowance" "taken" "J" (.long (0 : Int64)) := (F_taken.other W3 (Or.inr (slot_ne (a0 := a0) (C := "com/example/earmark_ledger/earmarkledger/protocol/HeapAllowance") (Or.inl (hw_22 hw)) (Or.inr (hw_15 hw)) (by decide) (t := .long) (t' := .long) (by decide) (by decide))))
  have fw3 : Fld Z h3 a1 "com/example/earmark_ledger/earmarkledger/protocol/HeapAllowance" "limit" "J" (.long q2) := F_limit.same W3
  have Z3 : n0 ≤ h3.size := Nat.le_trans Z0 (Keep.of_wr W3).1
  have Kp3 : Keep h0 h3 [a1] := K0.wr W3 (Or.inl (List.mem_of_getElem? (i := 0) rfl))
  have N3 := Fr.snoc X3 N0 g_a1
  refine own_step (g' := (mkF m 9 #[rv a1, jv q2, .second] [])) st3 ?_
  refine own_ret X3 hlk (v := none) (fun _ => rfl) (fun fs hr => X3.returnOut hx hret (hb hby d2_9) hr) ?_ (by decide) (by decide)
  show own_Q2 Z a1 q2 h0 n0 _ T3.heap _
  rw [e3]
  exact ⟨rfl, N3, Kp3, f1_Exa_a1, fw3, f2_Fld_a1⟩
theorem d4_0 : decode prog_42_method_4_code 0 = .ok (.aload_n 0, 1) := by decide +kernel
theorem d4_1 : decode prog_42_method_4_code 1 = .ok (.dup, 1) := by decide +kernel
theorem d4_2 : decode prog_42_method_4_code 2 = .ok (.getfield 25, 3) := by decide +kernel
theorem hw_21 {a0 : Array Value} {Z : State} (hw : ∀ d ∈ tables_1, d.before a0 Z = true) : (Jvm.Cond.fieldLink "com/example/earmark_ledger/earmarkledger/protocol/HeapAllowance" (25 : Nat) "com/example/earmark_ledger/earmarkledger/protocol/HeapAllowance" "taken" "J").before a0 Z = true := hw _ (List.mem_of_getElem? (i := 21) rfl)
theorem d4_5 : decode prog_42_method_4_code 5 = .ok (.lload_n 1, 1) := by decide +kernel
theorem d4_6 : decode prog_42_method_4_code 6 = .ok (.ladd, 1) := by decide +kernel
theorem d4_7 : decode prog_42_method_4_code 7 = .ok (.putfield 25, 3) := by decide +kernel
theorem d4_10 : decode prog_42_method_4_code 10 = .ok (.aload_n 0, 1) := by decide +kernel
theorem d4_11 : decode prog_42_method_4_code 11 = .ok (.getfield 25, 3) := by decide +kernel
theorem d4_14 : decode prog_42_method_4_code 14 = .ok (.aload_n 0, 1) := by decide +kernel
theorem d4_15 : decode prog_42_method_4_code 15 = .ok (.getfield 7, 3) := by decide +kernel
theorem d4_18 : decode prog_42_method_4_code 18 = .ok (.lcmp, 1) := by decide +kernel
theorem d4_19 : decode prog_42_method_4_code 19 = .ok (.ifCond .le 15, 3) := by decide +kernel
theorem d4_34 : decode prog_42_method_4_code 34 = .ok (.return_, 1) := by decide +kernel
theorem own_ef4 (m : MethodId) (a1 : Addr) (q2 : Int64) : entryFrame m #[(.ref a1), (.long q2)] 3 = mkF m 0 #[rv a1, jv q2, .second] [] := by first | (simp [entryFrame, mkF, argsToLocals, Value.category]; done) | rfl
def own_Q4 (Z : State) (a1 : Addr) (q2 : Int64) (t3 : Int64) (l4 : Int64) (h0 : Heap) (n0 : Nat) (v : Option Value) (h : Heap) (L : List Loc) : Prop := v = none ∧ Fr n0 L ∧ Keep h0 h [a1] ∧ Exa Z h a1 "com/example/earmark_ledger/earmarkledger/protocol/HeapAllowance" ∧ Fld Z h a1 "com/example/earmark_ledger/earmarkledger/protocol/HeapAllowance" "limit" "J" (.long l4) ∧ Fld Z h a1 "com/example/earmark_ledger/earmarkledger/protocol/HeapAllowance" "taken" "J" (.long (t3 + q2))
set_option maxRecDepth 65536 in
set_option maxHeartbeats 40000000 in
theorem own_rm4 (l : Launch) (Z : State) (a0 : Array Value) (hw : ∀ d ∈ tables_1, d.before a0 Z = true) (ws : List Jvm.Cond) (a1 : Addr) (q2 : Int64) (t3 : Int64) (l4 : Int64) (h0 : Heap) (n0 : Nat) (Z0 : n0 ≤ h0.size) (E_a1 : Exa Z h0 a1 "com/example/earmark_ledger/earmarkledger/protocol/HeapAllowance") (F_t : Fld Z h0 a1 "com/example/earmark_ledger/earmarkledger/protocol/HeapAllowance" "taken" "J" (.long t3)) (F_l : Fld Z h0 a1 "com/example/earmark_ledger/earmarkledger/protocol/HeapAllowance" "limit" "J" (.long l4)) (g_a1 : n0 ≤ a1) (hle : ¬ l4 < (t3 + q2)) :
    MetFree l (⟨"com/example/earmark_ledger/earmarkledger/protocol/HeapAllowance", "take", "(J)V"⟩ : MethodName) (head1 (Jvm.Cond.code (⟨"com/example/earmark_ledger/earmarkledger/protocol/HeapAllowance", "take", "(J)V"⟩ : MethodName) prog_42_method_4_code 3 none :: ws) ({ frames := 0, cells := 0, slots := 0, locals := 0 } : Room)) (fun a U => a = #[(.ref a1), (.long q2)] ∧ Z.Warmed39 U.vm ∧ U.heap = h0) (fun _ _ _ _ _ => True) (fun _ U o U' => ∃ v L, o = .returned v ∧ own_Q4 Z a1 q2 t3 l4 h0 n0 v U'.heap L ∧ FrameEnd U o U' L ({ frames := 0, cells := 0, slots := 0, locals := 0 } : Room).cells ({ frames := 0, cells := 0, slots := 0, locals := 0 } : Room).slots) := by
  refine own_body (plainFor_of_name pn_2) (fun m => own_ef4 m a1 q2) ?_
  intro p e s m below meth c T0 X0 hx hby hml hZ hown hnm hret hlk e0
  have hown : s.vm.findClass "com/example/earmark_ledger/earmarkledger/protocol/HeapAllowance" = some m.cls := hown
  have hnm : meth.name = "take" := hnm
  have N0 := Fr.nil n0
  have K0 : Keep h0 h0 [a1] := Keep.refl _ _
  refine own_st (mkF m 1 #[rv a1, jv q2, .second] [(.ref a1)]) (fun t k => XS.aloadN X0.here hx rfl (hb hby d4_0) rfl rfl k) ?_
  refine own_st (mkF m 2 #[rv a1, jv q2, .second] [(.ref a1), (.ref a1)]) (fun t k => XS.dup X0.here hx rfl (hb hby d4_1) rfl rfl k) ?_
  obtain ⟨T4, X4, e4, st4⟩ := getF X0 hx hZ hown (host := "") (Or.inl (hw_21 hw)) Via.refl e0 F_t (g := (mkF m 2 #[rv a1, jv q2, .second] [(.ref a1), (.ref a1)])) rfl rfl (hb hby d4_2)
  refine own_step (g' := (mkF m 5 #[rv a1, jv q2, .second] [(.long t3), (.ref a1)])) st4 ?_
  refine own_st (mkF m 6 #[rv a1, jv q2, .second] [(.long q2), (.long t3), (.ref a1)]) (fun t k => XS.lloadN X4.here hx rfl (hb hby d4_5) rfl k) ?_
  refine own_st (mkF m 7 #[rv a1, jv q2, .second] [(.long (t3 + q2)), (.ref a1)]) (fun t k => XS.ladd X4.here hx rfl (hb hby d4_6) rfl k) ?_
  obtain ⟨T5, h5, X5, e5, W5, st5⟩ := putF X4 hx hZ hown (host := "") (Or.inl (hw_21 hw)) Via.refl e4 F_t E_a1 (Or.inl (hw_22 hw)) (hw_6 hw) (ty := .long) (by decide) rfl rfl (g := (mkF m 7 #[rv a1, jv q2, .second] [(.long (t3 + q2)), (.ref a1)])) rfl rfl (hb hby d4_7)
  have f1_Exa_a1 : Exa Z h5 a1 "com/example/earmark_ledger/earmarkledger/protocol/HeapAllowance" := (E_a1.wr W5)
  have f2_Fld_a1 : Fld Z h5 a1 "com/example/earmark_ledger/earmarkledger/protocol/HeapAllowance" "limit" "J" (.long l4) := (F_l.other W5 (Or.inr (slot_ne (a0 := a0) (C := "com/example/earmark_ledger/earmarkledger/protocol/HeapAllowance") (Or.inr (hw_15 hw)) (Or.inl (hw_22 hw)) (by decide) (t := .long) (t' := .long) (by decide) (by decide))))
  have fw5 : Fld Z h5 a1 "com/example/earmark_ledger/earmarkledger/protocol/HeapAllowance" "taken" "J" (.long (t3 + q2)) := F_t.same W5
  have Z5 : n0 ≤ h5.size := Nat.le_trans Z0 (Keep.of_wr W5).1
  have Kp5 : Keep h0 h5 [a1] := K0.wr W5 (Or.inl (List.mem_of_getElem? (i := 0) rfl))
  have N5 := Fr.snoc X5 N0 g_a1
  refine own_step (g' := (mkF m 10 #[rv a1, jv q2, .second] [])) st5 ?_
  refine own_st (mkF m 11 #[rv a1, jv q2, .second] [(.ref a1)]) (fun t k => XS.aloadN X5.here hx rfl (hb hby d4_10) rfl rfl k) ?_
  obtain ⟨T6, X6, e6, st6⟩ := getF X5 hx hZ hown (host := "") (Or.inl (hw_21 hw)) Via.refl e5 fw5 (g := (mkF m 11 #[rv a1, jv q2, .second] [(.ref a1)])) rfl rfl (hb hby d4_11)
  refine own_step (g' := (mkF m 14 #[rv a1, jv q2, .second] [(.long (t3 + q2))])) st6 ?_
  refine own_st (mkF m 15 #[rv a1, jv q2, .second] [(.ref a1), (.long (t3 + q2))]) (fun t k => XS.aloadN X6.here hx rfl (hb hby d4_14) rfl rfl k) ?_
  obtain ⟨T7, X7, e7, st7⟩ := getF X6 hx hZ hown (host := "") (Or.inl (hw_14 hw)) Via.refl e6 f2_Fld_a1 (g := (mkF m 15 #[rv a1, jv q2, .second] [(.ref a1), (.long (t3 + q2))])) rfl rfl (hb hby d4_15)
  refine own_step (g' := (mkF m 18 #[rv a1, jv q2, .second] [(.long l4), (.long (t3 + q2))])) st7 ?_
  refine own_st (mkF m 19 #[rv a1, jv q2, .second] [(.int (lcmpW (t3 + q2) l4))]) (fun t k => XS.lcmp X7.here hx rfl (hb hby d4_18) rfl k) ?_
  refine own_st (mkF m 34 #[rv a1, jv q2, .second] []) (fun t k => XS.ifYes X7.here hx rfl (pc0 := 19) (pc' := 34) rfl (hb hby d4_19) rfl (own_lle1 hle) (by decide) (by decide) k) ?_
  refine own_ret X7 hlk (v := none) (fun _ => rfl) (fun fs hr => X7.returnOut hx hret (hb hby d4_34) hr) ?_ (by decide) (by decide)
  show own_Q4 Z a1 q2 t3 l4 h0 n0 _ T7.heap _
  rw [e7]
  exact ⟨rfl, N5, Kp5, f1_Exa_a1, f2_Fld_a1, fw5⟩
theorem hw_0 {a0 : Array Value} {Z : State} (hw : ∀ d ∈ tables_1, d.before a0 Z = true) : (Jvm.Cond.constantLong "com/example/earmark_ledger/earmarkledger/protocol/HeapAllowanceTakePinLaw" (9 : Nat) (9223372036854775807 : Int64)).before a0 Z = true := hw _ (List.mem_of_getElem? (i := 0) rfl)
theorem hw_1 {a0 : Array Value} {Z : State} (hw : ∀ d ∈ tables_1, d.before a0 Z = true) : (Jvm.Cond.methodLink "com/example/earmark_ledger/earmarkledger/protocol/HeapAllowanceTakePinLaw" (11 : Nat) ({ cls := "java/lang/Math", name := "min", desc := "(JJ)J" } : Jvm.MethodName)).before a0 Z = true := hw _ (List.mem_of_getElem? (i := 1) rfl)
theorem hw_4 {a0 : Array Value} {Z : State} (hw : ∀ d ∈ tables_1, d.before a0 Z = true) : (Jvm.Cond.code ({ cls := "java/lang/Math", name := "min", desc := "(JJ)J" } : Jvm.MethodName) jdk_29_method_70_code (4 : Nat) (Option.some Jvm.ClassFile.FieldType.long)).before a0 Z = true := hw _ (List.mem_of_getElem? (i := 4) rfl)
theorem hw_3 {a0 : Array Value} {Z : State} (hw : ∀ d ∈ tables_1, d.before a0 Z = true) : (Jvm.Cond.initialized "java/lang/Math").before a0 Z = true := hw _ (List.mem_of_getElem? (i := 3) rfl)
theorem pd_0 : parseMethodDescriptor "(JJ)J" = some ⟨[.long, .long], some .long⟩ := by decide +kernel
theorem hw_2 {a0 : Array Value} {Z : State} (hw : ∀ d ∈ tables_1, d.before a0 Z = true) : (Jvm.Cond.static ({ cls := "java/lang/Math", name := "min", desc := "(JJ)J" } : Jvm.MethodName)).before a0 Z = true := hw _ (List.mem_of_getElem? (i := 2) rfl)
theorem hw_5 {a0 : Array Value} {Z : State} (hw : ∀ d ∈ tables_1, d.before a0 Z = true) : (Jvm.Cond.classLink "com/example/earmark_ledger/earmarkledger/protocol/HeapAllowanceTakePinLaw" (17 : Nat) "com/example/earmark_ledger/earmarkledger/protocol/HeapAllowance").before a0 Z = true := hw _ (List.mem_of_getElem? (i := 5) rfl)
theorem hw_7 {a0 : Array Value} {Z : State} (hw : ∀ d ∈ tables_1, d.before a0 Z = true) : (Jvm.Cond.initialized "com/example/earmark_ledger/earmarkledger/protocol/HeapAllowance").before a0 Z = true := hw _ (List.mem_of_getElem? (i := 7) rfl)
theorem hw_8 {a0 : Array Value} {Z : State} (hw : ∀ d ∈ tables_1, d.before a0 Z = true) : (Jvm.Cond.methodLink "com/example/earmark_ledger/earmarkledger/protocol/HeapAllowanceTakePinLaw" (19 : Nat) ({ cls := "com/example/earmark_ledger/earmarkledger/protocol/HeapAllowance", name := "<init>", desc := "(J)V" } : Jvm.MethodName)).before a0 Z = true := hw _ (List.mem_of_getElem? (i := 8) rfl)
theorem hw_10 {a0 : Array Value} {Z : State} (hw : ∀ d ∈ tables_1, d.before a0 Z = true) : (Jvm.Cond.code ({ cls := "com/example/earmark_ledger/earmarkledger/protocol/HeapAllowance", name := "<init>", desc := "(J)V" } : Jvm.MethodName) prog_42_method_1_code (3 : Nat) (Option.none : Option Jvm.ClassFile.FieldType)).before a0 Z = true := hw _ (List.mem_of_getElem? (i := 10) rfl)
theorem pd_1 : parseMethodDescriptor "(J)V" = some ⟨[.long], none⟩ := by decide +kernel
theorem hw_9 {a0 : Array Value} {Z : State} (hw : ∀ d ∈ tables_1, d.before a0 Z = true) : (Jvm.Cond.instanceMethod ({ cls := "com/example/earmark_ledger/earmarkledger/protocol/HeapAllowance", name := "<init>", desc := "(J)V" } : Jvm.MethodName)).before a0 Z = true := hw _ (List.mem_of_getElem? (i := 9) rfl)
theorem hw_16 {a0 : Array Value} {Z : State} (hw : ∀ d ∈ tables_1, d.before a0 Z = true) : (Jvm.Cond.methodLink "com/example/earmark_ledger/earmarkledger/protocol/HeapAllowanceTakePinLaw" (22 : Nat) ({ cls := "com/example/earmark_ledger/earmarkledger/protocol/HeapAllowance", name := "take", desc := "(J)V" } : Jvm.MethodName)).before a0 Z = true := hw _ (List.mem_of_getElem? (i := 16) rfl)
theorem hw_20 {a0 : Array Value} {Z : State} (hw : ∀ d ∈ tables_1, d.before a0 Z = true) : (Jvm.Cond.code ({ cls := "com/example/earmark_ledger/earmarkledger/protocol/HeapAllowance", name := "take", desc := "(J)V" } : Jvm.MethodName) prog_42_method_4_code (3 : Nat) (Option.none : Option Jvm.ClassFile.FieldType)).before a0 Z = true := hw _ (List.mem_of_getElem? (i := 20) rfl)
theorem hw_19 {a0 : Array Value} {Z : State} (hw : ∀ d ∈ tables_1, d.before a0 Z = true) : (Jvm.Cond.selects "com/example/earmark_ledger/earmarkledger/protocol/HeapAllowance" ({ cls := "com/example/earmark_ledger/earmarkledger/protocol/HeapAllowance", name := "take", desc := "(J)V" } : Jvm.MethodName) ({ cls := "com/example/earmark_ledger/earmarkledger/protocol/HeapAllowance", name := "take", desc := "(J)V" } : Jvm.MethodName)).before a0 Z = true := hw _ (List.mem_of_getElem? (i := 19) rfl)
theorem hw_17 {a0 : Array Value} {Z : State} (hw : ∀ d ∈ tables_1, d.before a0 Z = true) : (Jvm.Cond.declares ({ cls := "com/example/earmark_ledger/earmarkledger/protocol/HeapAllowance", name := "take", desc := "(J)V" } : Jvm.MethodName)).before a0 Z = true := hw _ (List.mem_of_getElem? (i := 17) rfl)
theorem hw_18 {a0 : Array Value} {Z : State} (hw : ∀ d ∈ tables_1, d.before a0 Z = true) : (Jvm.Cond.instanceMethod ({ cls := "com/example/earmark_ledger/earmarkledger/protocol/HeapAllowance", name := "take", desc := "(J)V" } : Jvm.MethodName)).before a0 Z = true := hw _ (List.mem_of_getElem? (i := 18) rfl)
theorem pn_0 : plainName "com/example/earmark_ledger/earmarkledger/protocol/HeapAllowanceTakePinLaw" = true := by first | (simp [plainName, overriddenIn]; done) | decide +kernel
theorem own_ef0 (m : MethodId) (q1 : Int64) (q2 : Int64) (q3 : Int64) (q4 : Int64) : entryFrame m #[(.long q1), (.long q2), (.long q3), (.long q4)] maxLocals = mkF m 0 #[jv q1, .second, jv q2, .second, jv q3, .second, jv q4, .second, .unset, .unset, .unset, .unset, .unset, .unset, .unset, .unset, .unset] [] := by first | (simp [entryFrame, mkF, argsToLocals, Value.category, maxLocals]; done) | rfl
def own_Q0 (Z : State) (q1 : Int64) (q2 : Int64) (q3 : Int64) (q4 : Int64) (h0 : Heap) (n0 : Nat) (v : Option Value) (h : Heap) (L : List Loc) : Prop := v = some (.int 1) ∧ Fr n0 L
set_option maxRecDepth 65536 in
set_option maxHeartbeats 40000000 in
theorem own_rm0 (l : Launch) (Z : State) (a0 : Array Value) (hw : ∀ d ∈ tables_1, d.before a0 Z = true) (ws : List Jvm.Cond) (q1 : Int64) (q2 : Int64) (q3 : Int64) (q4 : Int64) (h0 : Heap) (n0 : Nat) (Z0 : n0 ≤ h0.size) :
    MetFree l x (head1 (Jvm.Cond.code x code maxLocals ret :: ws) room_1) (fun a U => a = #[(.long q1), (.long q2), (.long q3), (.long q4)] ∧ Z.Warmed39 U.vm ∧ U.heap = h0) (fun _ _ _ _ _ => True) (fun _ U o U' => ∃ v L, o = .returned v ∧ own_Q0 Z q1 q2 q3 q4 h0 n0 v U'.heap L ∧ FrameEnd U o U' L 16 128) := by
  refine own_body (plainFor_of_name pn_0) (fun m => own_ef0 m q1 q2 q3 q4) ?_
  intro p e s m below meth c T0 X0 hx hby hml hZ hown hnm hret hlk e0
  have hown : s.vm.findClass "com/example/earmark_ledger/earmarkledger/protocol/HeapAllowanceTakePinLaw" = some m.cls := hown
  have hnm : meth.name = "law" := hnm
  have N0 := Fr.nil n0
  refine own_st (mkF m 1 #[jv q1, .second, jv q2, .second, jv q3, .second, jv q4, .second, .unset, .unset, .unset, .unset, .unset, .unset, .unset, .unset, .unset] [(.long q1)]) (fun t k => XS.lloadN X0.here hx rfl (hb hby at_0) rfl k) ?_
  refine own_st (mkF m 4 #[jv q1, .second, jv q2, .second, jv q3, .second, jv q4, .second, .unset, .unset, .unset, .unset, .unset, .unset, .unset, .unset, .unset] [(.long (9223372036854775807 : Int64)), (.long q1)]) (fun t k => X0.ldc2Long hx hown (mvT hZ (hw_0 hw)) (g := (mkF m 1 #[jv q1, .second, jv q2, .second, jv q3, .second, jv q4, .second, .unset, .unset, .unset, .unset, .unset, .unset, .unset, .unset, .unset] [(.long q1)])) rfl (hb hby at_1) _ k) ?_
  refine own_st (mkF m 5 #[jv q1, .second, jv q2, .second, jv q3, .second, jv q4, .second, .unset, .unset, .unset, .unset, .unset, .unset, .unset, .unset, .unset] [(.long (q1 &&& (9223372036854775807 : Int64)))]) (fun t k => XS.land X0.here hx rfl (hb hby at_4) rfl k) ?_
  obtain ⟨lim, h_lim⟩ : ∃ z, z = (q1 &&& (9223372036854775807 : Int64)) := ⟨_, rfl⟩
  rw [← h_lim]
  refine own_st (mkF m 7 #[jv q1, .second, jv q2, .second, jv q3, .second, jv q4, .second, jv lim, .second, .unset, .unset, .unset, .unset, .unset, .unset, .unset] []) (fun t k => XS.lstore X0.here hx rfl (hb hby at_5) rfl (l' := #[jv q1, .second, jv q2, .second, jv q3, .second, jv q4, .second, jv lim, .second, .unset, .unset, .unset, .unset, .unset, .unset, .unset]) rfl k) ?_
  refine own_st (mkF m 8 #[jv q1, .second, jv q2, .second, jv q3, .second, jv q4, .second, jv lim, .second, .unset, .unset, .unset, .unset, .unset, .unset, .unset] [(.long q2)]) (fun t k => XS.lloadN X0.here hx rfl (hb hby at_7) rfl k) ?_
  refine own_st (mkF m 11 #[jv q1, .second, jv q2, .second, jv q3, .second, jv q4, .second, jv lim, .second, .unset, .unset, .unset, .unset, .unset, .unset, .unset] [(.long (9223372036854775807 : Int64)), (.long q2)]) (fun t k => X0.ldc2Long hx hown (mvT hZ (hw_0 hw)) (g := (mkF m 8 #[jv q1, .second, jv q2, .second, jv q3, .second, jv q4, .second, jv lim, .second, .unset, .unset, .unset, .unset, .unset, .unset, .unset] [(.long q2)])) rfl (hb hby at_8) _ k) ?_
  refine own_st (mkF m 12 #[jv q1, .second, jv q2, .second, jv q3, .second, jv q4, .second, jv lim, .second, .unset, .unset, .unset, .unset, .unset, .unset, .unset] [(.long (q2 &&& (9223372036854775807 : Int64)))]) (fun t k => XS.land X0.here hx rfl (hb hby at_11) rfl k) ?_
  refine own_st (mkF m 14 #[jv q1, .second, jv q2, .second, jv q3, .second, jv q4, .second, jv lim, .second, .unset, .unset, .unset, .unset, .unset, .unset, .unset] [(.long lim), (.long (q2 &&& (9223372036854775807 : Int64)))]) (fun t k => XS.lload X0.here hx rfl (hb hby at_12) rfl k) ?_
  obtain ⟨_, _, ⟨T8, L8, k8, n8⟩, -, X8, ⟨Lc8, hQ8, l8, y8, z8⟩, st8⟩ := Jvm.LawKit.callS X0 hx (y := (⟨"java/lang/Math", "min", "(JJ)J"⟩ : MethodName)) hown (mvT hZ (hw_1 hw)) (mvT hZ (hw_2 hw)) (mvT hZ (hw_3 hw)) (mvT hZ (hw_4 hw)) (by decide) (backOf (W := 0) (own_rm1 l Z a0 hw [] (q2 &&& (9223372036854775807 : Int64)) lim h0 n0 Z0) hZ (hw_4 hw) (hw_3 hw) (by decide) (by decide)) (g := (mkF m 14 #[jv q1, .second, jv q2, .second, jv q3, .second, jv q4, .second, jv lim, .second, .unset, .unset, .unset, .unset, .unset, .unset, .unset] [(.long lim), (.long (q2 &&& (9223372036854775807 : Int64)))])) rfl (by rw [hml]; rfl) (argsL := [(.long (q2 &&& (9223372036854775807 : Int64))), (.long lim)]) (rest := []) (lenOf pd_0 rfl) rfl (by show 2 * 0 + _ ≤ _; exact Nat.le_of_eq rfl) (hb hby at_14) (fun _ _ => ⟨rfl, e0, (by decide : 0 + 0 ≤ _), (by decide : 0 + 0 ≤ _)⟩)
  dsimp only [Pt.U, Pt.locs, Pt.cells, Pt.slots] at X8 l8 y8 z8 st8 hQ8
  subst l8 y8 z8
  obtain ⟨rfl, Nq8, e8⟩ := hQ8
  have N8 := Fr.app N0 Nq8
  refine own_step (g' := (mkF m 17 #[jv q1, .second, jv q2, .second, jv q3, .second, jv q4, .second, jv lim, .second, .unset, .unset, .unset, .unset, .unset, .unset, .unset] [(.long (own_min (q2 &&& (9223372036854775807 : Int64)) lim))])) st8 ?_
  obtain ⟨sa, h_sa⟩ : ∃ z, z = (own_min (q2 &&& (9223372036854775807 : Int64)) lim) := ⟨_, rfl⟩
  rw [← h_sa]
  refine own_st (mkF m 19 #[jv q1, .second, jv q2, .second, jv q3, .second, jv q4, .second, jv lim, .second, jv sa, .second, .unset, .unset, .unset, .unset, .unset] []) (fun t k => XS.lstore X8.here hx rfl (hb hby at_17) rfl (l' := #[jv q1, .second, jv q2, .second, jv q3, .second, jv q4, .second, jv lim, .second, jv sa, .second, .unset, .unset, .unset, .unset, .unset]) rfl k) ?_
  refine own_st (mkF m 21 #[jv q1, .second, jv q2, .second, jv q3, .second, jv q4, .second, jv lim, .second, jv sa, .second, .unset, .unset, .unset, .unset, .unset] [(.long q3)]) (fun t k => XS.lload X8.here hx rfl (hb hby at_19) rfl k) ?_
  refine own_st (mkF m 24 #[jv q1, .second, jv q2, .second, jv q3, .second, jv q4, .second, jv lim, .second, jv sa, .second, .unset, .unset, .unset, .unset, .unset] [(.long (9223372036854775807 : Int64)), (.long q3)]) (fun t k => X8.ldc2Long hx hown (mvT hZ (hw_0 hw)) (g := (mkF m 21 #[jv q1, .second, jv q2, .second, jv q3, .second, jv q4, .second, jv lim, .second, jv sa, .second, .unset, .unset, .unset, .unset, .unset] [(.long q3)])) rfl (hb hby at_21) _ k) ?_
  refine own_st (mkF m 25 #[jv q1, .second, jv q2, .second, jv q3, .second, jv q4, .second, jv lim, .second, jv sa, .second, .unset, .unset, .unset, .unset, .unset] [(.long (q3 &&& (9223372036854775807 : Int64)))]) (fun t k => XS.land X8.here hx rfl (hb hby at_24) rfl k) ?_
  refine own_st (mkF m 27 #[jv q1, .second, jv q2, .second, jv q3, .second, jv q4, .second, jv lim, .second, jv sa, .second, .unset, .unset, .unset, .unset, .unset] [(.long lim), (.long (q3 &&& (9223372036854775807 : Int64)))]) (fun t k => XS.lload X8.here hx rfl (hb hby at_25) rfl k) ?_
  refine own_st (mkF m 29 #[jv q1, .second, jv q2, .second, jv q3, .second, jv q4, .second, jv lim, .second, jv sa, .second, .unset, .unset, .unset, .unset, .unset] [(.long sa), (.long lim), (.long (q3 &&& (9223372036854775807 : Int64)))]) (fun t k => XS.lload X8.here hx rfl (hb hby at_27) rfl k) ?_
  refine own_st (mkF m 30 #[jv q1, .second, jv q2, .second, jv q3, .second, jv q4, .second, jv lim, .second, jv sa, .second, .unset, .unset, .unset, .unset, .unset] [(.long (lim - sa)), (.long (q3 &&& (9223372036854775807 : Int64)))]) (fun t k => XS.lsub X8.here hx rfl (hb hby at_29) rfl k) ?_
  obtain ⟨_, _, ⟨T9, L9, k9, n9⟩, -, X9, ⟨Lc9, hQ9, l9, y9, z9⟩, st9⟩ := Jvm.LawKit.callS X8 hx (y := (⟨"java/lang/Math", "min", "(JJ)J"⟩ : MethodName)) hown (mvT hZ (hw_1 hw)) (mvT hZ (hw_2 hw)) (mvT hZ (hw_3 hw)) (mvT hZ (hw_4 hw)) (by decide) (backOf (W := 0) (own_rm1 l Z a0 hw [] (q3 &&& (9223372036854775807 : Int64)) (lim - sa) h0 n0 Z0) hZ (hw_4 hw) (hw_3 hw) (by decide) (by decide)) (g := (mkF m 30 #[jv q1, .second, jv q2, .second, jv q3, .second, jv q4, .second, jv lim, .second, jv sa, .second, .unset, .unset, .unset, .unset, .unset] [(.long (lim - sa)), (.long (q3 &&& (9223372036854775807 : Int64)))])) rfl (by rw [hml]; rfl) (argsL := [(.long (q3 &&& (9223372036854775807 : Int64))), (.long (lim - sa))]) (rest := []) (lenOf pd_0 rfl) rfl (by show 2 * 0 + _ ≤ _; exact Nat.le_of_eq rfl) (hb hby at_30) (fun _ _ => ⟨rfl, e8, (by decide : 0 + 0 ≤ _), (by decide : 0 + 0 ≤ _)⟩)
  dsimp only [Pt.U, Pt.locs, Pt.cells, Pt.slots] at X9 l9 y9 z9 st9 hQ9
  subst l9 y9 z9
  obtain ⟨rfl, Nq9, e9⟩ := hQ9
  have N9 := Fr.app N8 Nq9
  refine own_step (g' := (mkF m 33 #[jv q1, .second, jv q2, .second, jv q3, .second, jv q4, .second, jv lim, .second, jv sa, .second, .unset, .unset, .unset, .unset, .unset] [(.long (own_min (q3 &&& (9223372036854775807 : Int64)) (lim - sa)))])) st9 ?_
  obtain ⟨sb, h_sb⟩ : ∃ z, z = (own_min (q3 &&& (9223372036854775807 : Int64)) (lim - sa)) := ⟨_, rfl⟩
  rw [← h_sb]
  refine own_st (mkF m 35 #[jv q1, .second, jv q2, .second, jv q3, .second, jv q4, .second, jv lim, .second, jv sa, .second, jv sb, .second, .unset, .unset, .unset] []) (fun t k => XS.lstore X9.here hx rfl (hb hby at_33) rfl (l' := #[jv q1, .second, jv q2, .second, jv q3, .second, jv q4, .second, jv lim, .second, jv sa, .second, jv sb, .second, .unset, .unset, .unset]) rfl k) ?_
  refine own_st (mkF m 37 #[jv q1, .second, jv q2, .second, jv q3, .second, jv q4, .second, jv lim, .second, jv sa, .second, jv sb, .second, .unset, .unset, .unset] [(.long q4)]) (fun t k => XS.lload X9.here hx rfl (hb hby at_35) rfl k) ?_
  refine own_st (mkF m 40 #[jv q1, .second, jv q2, .second, jv q3, .second, jv q4, .second, jv lim, .second, jv sa, .second, jv sb, .second, .unset, .unset, .unset] [(.long (9223372036854775807 : Int64)), (.long q4)]) (fun t k => X9.ldc2Long hx hown (mvT hZ (hw_0 hw)) (g := (mkF m 37 #[jv q1, .second, jv q2, .second, jv q3, .second, jv q4, .second, jv lim, .second, jv sa, .second, jv sb, .second, .unset, .unset, .unset] [(.long q4)])) rfl (hb hby at_37) _ k) ?_
  refine own_st (mkF m 41 #[jv q1, .second, jv q2, .second, jv q3, .second, jv q4, .second, jv lim, .second, jv sa, .second, jv sb, .second, .unset, .unset, .unset] [(.long (q4 &&& (9223372036854775807 : Int64)))]) (fun t k => XS.land X9.here hx rfl (hb hby at_40) rfl k) ?_
  refine own_st (mkF m 43 #[jv q1, .second, jv q2, .second, jv q3, .second, jv q4, .second, jv lim, .second, jv sa, .second, jv sb, .second, .unset, .unset, .unset] [(.long lim), (.long (q4 &&& (9223372036854775807 : Int64)))]) (fun t k => XS.lload X9.here hx rfl (hb hby at_41) rfl k) ?_
  refine own_st (mkF m 45 #[jv q1, .second, jv q2, .second, jv q3, .second, jv q4, .second, jv lim, .second, jv sa, .second, jv sb, .second, .unset, .unset, .unset] [(.long sa), (.long lim), (.long (q4 &&& (9223372036854775807 : Int64)))]) (fun t k => XS.lload X9.here hx rfl (hb hby at_43) rfl k) ?_
  refine own_st (mkF m 46 #[jv q1, .second, jv q2, .second, jv q3, .second, jv q4, .second, jv lim, .second, jv sa, .second, jv sb, .second, .unset, .unset, .unset] [(.long (lim - sa)), (.long (q4 &&& (9223372036854775807 : Int64)))]) (fun t k => XS.lsub X9.here hx rfl (hb hby at_45) rfl k) ?_
  refine own_st (mkF m 48 #[jv q1, .second, jv q2, .second, jv q3, .second, jv q4, .second, jv lim, .second, jv sa, .second, jv sb, .second, .unset, .unset, .unset] [(.long sb), (.long (lim - sa)), (.long (q4 &&& (9223372036854775807 : Int64)))]) (fun t k => XS.lload X9.here hx rfl (hb hby at_46) rfl k) ?_
  refine own_st (mkF m 49 #[jv q1, .second, jv q2, .second, jv q3, .second, jv q4, .second, jv lim, .second, jv sa, .second, jv sb, .second, .unset, .unset, .unset] [(.long ((lim - sa) - sb)), (.long (q4 &&& (9223372036854775807 : Int64)))]) (fun t k => XS.lsub X9.here hx rfl (hb hby at_48) rfl k) ?_
  obtain ⟨_, _, ⟨T10, L10, k10, n10⟩, -, X10, ⟨Lc10, hQ10, l10, y10, z10⟩, st10⟩ := Jvm.LawKit.callS X9 hx (y := (⟨"java/lang/Math", "min", "(JJ)J"⟩ : MethodName)) hown (mvT hZ (hw_1 hw)) (mvT hZ (hw_2 hw)) (mvT hZ (hw_3 hw)) (mvT hZ (hw_4 hw)) (by decide) (backOf (W := 0) (own_rm1 l Z a0 hw [] (q4 &&& (9223372036854775807 : Int64)) ((lim - sa) - sb) h0 n0 Z0) hZ (hw_4 hw) (hw_3 hw) (by decide) (by decide)) (g := (mkF m 49 #[jv q1, .second, jv q2, .second, jv q3, .second, jv q4, .second, jv lim, .second, jv sa, .second, jv sb, .second, .unset, .unset, .unset] [(.long ((lim - sa) - sb)), (.long (q4 &&& (9223372036854775807 : Int64)))])) rfl (by rw [hml]; rfl) (argsL := [(.long (q4 &&& (9223372036854775807 : Int64))), (.long ((lim - sa) - sb))]) (rest := []) (lenOf pd_0 rfl) rfl (by show 2 * 0 + _ ≤ _; exact Nat.le_of_eq rfl) (hb hby at_49) (fun _ _ => ⟨rfl, e9, (by decide : 0 + 0 ≤ _), (by decide : 0 + 0 ≤ _)⟩)
  dsimp only [Pt.U, Pt.locs, Pt.cells, Pt.slots] at X10 l10 y10 z10 st10 hQ10
  subst l10 y10 z10
  obtain ⟨rfl, Nq10, e10⟩ := hQ10
  have N10 := Fr.app N9 Nq10
  refine own_step (g' := (mkF m 52 #[jv q1, .second, jv q2, .second, jv q3, .second, jv q4, .second, jv lim, .second, jv sa, .second, jv sb, .second, .unset, .unset, .unset] [(.long (own_min (q4 &&& (9223372036854775807 : Int64)) ((lim - sa) - sb)))])) st10 ?_
  obtain ⟨sd, h_sd⟩ : ∃ z, z = (own_min (q4 &&& (9223372036854775807 : Int64)) ((lim - sa) - sb)) := ⟨_, rfl⟩
  rw [← h_sd]
  have hT := own_takes lim _ _ _ sa sb sd (h_lim ▸ own_mx _) (own_mx _) (own_mx _) (own_mx _) h_sa h_sb h_sd
  refine own_st (mkF m 54 #[jv q1, .second, jv q2, .second, jv q3, .second, jv q4, .second, jv lim, .second, jv sa, .second, jv sb, .second, jv sd, .second, .unset] []) (fun t k => XS.lstore X10.here hx rfl (hb hby at_52) rfl (l' := #[jv q1, .second, jv q2, .second, jv q3, .second, jv q4, .second, jv lim, .second, jv sa, .second, jv sb, .second, jv sd, .second, .unset]) rfl k) ?_
  obtain ⟨T11, h11, X11, e11, E11, A11, D11, -, st11⟩ := newO X10 hx hZ hown (hw_5 hw) (hw_6 hw) (hw_7 hw) e10 (g := (mkF m 54 #[jv q1, .second, jv q2, .second, jv q3, .second, jv q4, .second, jv lim, .second, jv sa, .second, jv sb, .second, jv sd, .second, .unset] [])) rfl (hb hby at_54) (by decide) (by decide)
  obtain ⟨b11, g11⟩ : ∃ z, z = h0.size := ⟨_, rfl⟩
  rw [← g11] at A11 D11 st11
  have E_11 : Ext h0 h11 := E11
  have g_b11 : n0 ≤ b11 := Nat.le_trans Z0 (Nat.le_of_eq g11.symm)
  have Z11 : n0 ≤ h11.size := Nat.le_trans Z0 E11.1
  have F_limit_b11 : Fld Z h11 b11 "com/example/earmark_ledger/earmarkledger/protocol/HeapAllowance" "limit" "J" (.long (0 : Int64)) := D11 (Or.inr (hw_15 hw)) (ty := .long) (by decide)
  have F_taken_b11 : Fld Z h11 b11 "com/example/earmark_ledger/earmarkledger/protocol/HeapAllowance" "taken" "J" (.long (0 : Int64)) := D11 (Or.inl (hw_22 hw)) (ty := .long) (by decide)
  refine own_step (g' := (mkF m 57 #[jv q1, .second, jv q2, .second, jv q3, .second, jv q4, .second, jv lim, .second, jv sa, .second, jv sb, .second, jv sd, .second, .unset] [(.ref b11)])) st11 ?_
  refine own_st (mkF m 58 #[jv q1, .second, jv q2, .second, jv q3, .second, jv q4, .second, jv lim, .second, jv sa, .second, jv sb, .second, jv sd, .second, .unset] [(.ref b11), (.ref b11)]) (fun t k => XS.dup X11.here hx rfl (hb hby at_57) rfl rfl k) ?_
  refine own_st (mkF m 60 #[jv q1, .second, jv q2, .second, jv q3, .second, jv q4, .second, jv lim, .second, jv sa, .second, jv sb, .second, jv sd, .second, .unset] [(.long lim), (.ref b11), (.ref b11)]) (fun t k => XS.lload X11.here hx rfl (hb hby at_58) rfl k) ?_
  obtain ⟨_, _, ⟨T12, L12, k12, n12⟩, -, X12, ⟨Lc12, hQ12, l12, y12, z12⟩, st12⟩ := X11.specialBack hx (y := (⟨"com/example/earmark_ledger/earmarkledger/protocol/HeapAllowance", "<init>", "(J)V"⟩ : MethodName)) rfl hown (mvT hZ (hw_8 hw)) (mvT hZ (hw_9 hw)) (mvT hZ (hw_10 hw)) (by decide) (backOf (W := 1) (own_rm2 l Z a0 hw [] b11 lim h11 n0 Z11 A11 g_b11 F_limit_b11 F_taken_b11) hZ (hw_10 hw) (hw_7 hw) (by decide) (by decide)) (g := (mkF m 60 #[jv q1, .second, jv q2, .second, jv q3, .second, jv q4, .second, jv lim, .second, jv sa, .second, jv sb, .second, jv sd, .second, .unset] [(.long lim), (.ref b11), (.ref b11)])) rfl (by rw [hml]; rfl) (Steps.refl _) (a := b11) (argsL := [(.long lim)]) (rest := [(.ref b11)]) (lenOf pd_1 rfl) rfl (by show 2 * 0 + _ ≤ _; exact Nat.le_of_eq rfl) (hb hby at_60) (fun _ _ => ⟨rfl, e11, (by decide : 1 + 0 ≤ _), (by decide : 2 + 0 ≤ _)⟩)
  dsimp only [Pt.U, Pt.locs, Pt.cells, Pt.slots] at X12 l12 y12 z12 st12 hQ12
  subst l12 y12 z12
  obtain ⟨rfl, Nq12, K12, Ex12, Fl12_limit, Fl12_taken⟩ := hQ12
  have N12 := Fr.app N10 Nq12
  have Z12 : n0 ≤ T12.heap.size := Nat.le_trans Z11 K12.1
  have f1_Exa_b11 : Exa Z T12.heap b11 "com/example/earmark_ledger/earmarkledger/protocol/HeapAllowance" := (A11.keep K12)
  refine own_jump (g' := (mkF m 63 #[jv q1, .second, jv q2, .second, jv q3, .second, jv q4, .second, jv lim, .second, jv sa, .second, jv sb, .second, jv sd, .second, .unset] [(.ref b11)])) st12 ?_
  refine own_st (mkF m 65 #[jv q1, .second, jv q2, .second, jv q3, .second, jv q4, .second, jv lim, .second, jv sa, .second, jv sb, .second, jv sd, .second, rv b11] []) (fun t k => XS.astore X12.here hx rfl (hb hby at_63) rfl rfl (l' := #[jv q1, .second, jv q2, .second, jv q3, .second, jv q4, .second, jv lim, .second, jv sa, .second, jv sb, .second, jv sd, .second, rv b11]) rfl k) ?_
  refine own_st (mkF m 67 #[jv q1, .second, jv q2, .second, jv q3, .second, jv q4, .second, jv lim, .second, jv sa, .second, jv sb, .second, jv sd, .second, rv b11] [(.ref b11)]) (fun t k => XS.aload X12.here hx rfl (hb hby at_65) rfl rfl k) ?_
  refine own_st (mkF m 69 #[jv q1, .second, jv q2, .second, jv q3, .second, jv q4, .second, jv lim, .second, jv sa, .second, jv sb, .second, jv sd, .second, rv b11] [(.long sa), (.ref b11)]) (fun t k => XS.lload X12.here hx rfl (hb hby at_67) rfl k) ?_
  obtain ⟨cq13, kq13, q13a, q13b, q13c⟩ := isOf hZ rfl Ex12
  obtain ⟨_, _, ⟨T13, L13, k13, n13⟩, -, X13, ⟨Lc13, hQ13, l13, y13, z13⟩, st13⟩ := X12.virtualBack hx (y := (⟨"com/example/earmark_ledger/earmarkledger/protocol/HeapAllowance", "take", "(J)V"⟩ : MethodName)) (z := (⟨"com/example/earmark_ledger/earmarkledger/protocol/HeapAllowance", "take", "(J)V"⟩ : MethodName)) hown (mvT hZ (hw_16 hw)) (mvT hZ (hw_17 hw)) (notFace_of_selects (args := #[]) (mvT hZ (hw_19 hw))) (mvT hZ (hw_19 hw)) (mvT hZ (hw_18 hw)) (by decide) (backOf (W := 0) (own_rm4 l Z a0 hw [] b11 sa (0 : Int64) lim T12.heap n0 Z12 Ex12 Fl12_taken Fl12_limit g_b11 hT.1) hZ (hw_20 hw) (hw_7 hw) (by decide) (by decide)) q13a q13c (g := (mkF m 69 #[jv q1, .second, jv q2, .second, jv q3, .second, jv q4, .second, jv lim, .second, jv sa, .second, jv sb, .second, jv sd, .second, rv b11] [(.long sa), (.ref b11)])) rfl (by rw [hml]; rfl) (Steps.refl _) (argsL := [(.long sa)]) (rest := []) (lenOf pd_1 rfl) rfl (by show 2 * 0 + _ ≤ _; exact Nat.le_of_eq rfl) (hb hby at_69) (fun _ _ => ⟨rfl, rfl, (by decide : 1 + 0 ≤ _), (by decide : 2 + 0 ≤ _)⟩)
  dsimp only [Pt.U, Pt.locs, Pt.cells, Pt.slots] at X13 l13 y13 z13 st13 hQ13
  subst l13 y13 z13
  obtain ⟨rfl, Nq13, K13, Ex13, Fm13, Ft13⟩ := hQ13
  have N13 := Fr.app N12 Nq13
  have Z13 : n0 ≤ T13.heap.size := Nat.le_trans Z12 K13.1
  have f2_Exa_b11 : Exa Z T13.heap b11 "com/example/earmark_ledger/earmarkledger/protocol/HeapAllowance" := (Ex12.keep K13)
  refine own_jump (g' := (mkF m 72 #[jv q1, .second, jv q2, .second, jv q3, .second, jv q4, .second, jv lim, .second, jv sa, .second, jv sb, .second, jv sd, .second, rv b11] [])) st13 ?_
  refine own_st (mkF m 74 #[jv q1, .second, jv q2, .second, jv q3, .second, jv q4, .second, jv lim, .second, jv sa, .second, jv sb, .second, jv sd, .second, rv b11] [(.ref b11)]) (fun t k => XS.aload X13.here hx rfl (hb hby at_72) rfl rfl k) ?_
  refine own_st (mkF m 76 #[jv q1, .second, jv q2, .second, jv q3, .second, jv q4, .second, jv lim, .second, jv sa, .second, jv sb, .second, jv sd, .second, rv b11] [(.long sb), (.ref b11)]) (fun t k => XS.lload X13.here hx rfl (hb hby at_74) rfl k) ?_
  obtain ⟨cq14, kq14, q14a, q14b, q14c⟩ := isOf hZ rfl Ex13
  obtain ⟨_, _, ⟨T14, L14, k14, n14⟩, -, X14, ⟨Lc14, hQ14, l14, y14, z14⟩, st14⟩ := X13.virtualBack hx (y := (⟨"com/example/earmark_ledger/earmarkledger/protocol/HeapAllowance", "take", "(J)V"⟩ : MethodName)) (z := (⟨"com/example/earmark_ledger/earmarkledger/protocol/HeapAllowance", "take", "(J)V"⟩ : MethodName)) hown (mvT hZ (hw_16 hw)) (mvT hZ (hw_17 hw)) (notFace_of_selects (args := #[]) (mvT hZ (hw_19 hw))) (mvT hZ (hw_19 hw)) (mvT hZ (hw_18 hw)) (by decide) (backOf (W := 0) (own_rm4 l Z a0 hw [] b11 sb ((0 : Int64) + sa) lim T13.heap n0 Z13 Ex13 Ft13 Fm13 g_b11 hT.2.1) hZ (hw_20 hw) (hw_7 hw) (by decide) (by decide)) q14a q14c (g := (mkF m 76 #[jv q1, .second, jv q2, .second, jv q3, .second, jv q4, .second, jv lim, .second, jv sa, .second, jv sb, .second, jv sd, .second, rv b11] [(.long sb), (.ref b11)])) rfl (by rw [hml]; rfl) (Steps.refl _) (argsL := [(.long sb)]) (rest := []) (lenOf pd_1 rfl) rfl (by show 2 * 0 + _ ≤ _; exact Nat.le_of_eq rfl) (hb hby at_76) (fun _ _ => ⟨rfl, rfl, (by decide : 1 + 0 ≤ _), (by decide : 2 + 0 ≤ _)⟩)
  dsimp only [Pt.U, Pt.locs, Pt.cells, Pt.slots] at X14 l14 y14 z14 st14 hQ14
  subst l14 y14 z14
  obtain ⟨rfl, Nq14, K14, Ex14, Fm14, Ft14⟩ := hQ14
  have N14 := Fr.app N13 Nq14
  have Z14 : n0 ≤ T14.heap.size := Nat.le_trans Z13 K14.1
  have f3_Exa_b11 : Exa Z T14.heap b11 "com/example/earmark_ledger/earmarkledger/protocol/HeapAllowance" := (Ex13.keep K14)
  refine own_jump (g' := (mkF m 79 #[jv q1, .second, jv q2, .second, jv q3, .second, jv q4, .second, jv lim, .second, jv sa, .second, jv sb, .second, jv sd, .second, rv b11] [])) st14 ?_
  refine own_st (mkF m 81 #[jv q1, .second, jv q2, .second, jv q3, .second, jv q4, .second, jv lim, .second, jv sa, .second, jv sb, .second, jv sd, .second, rv b11] [(.ref b11)]) (fun t k => XS.aload X14.here hx rfl (hb hby at_79) rfl rfl k) ?_
  refine own_st (mkF m 83 #[jv q1, .second, jv q2, .second, jv q3, .second, jv q4, .second, jv lim, .second, jv sa, .second, jv sb, .second, jv sd, .second, rv b11] [(.long sd), (.ref b11)]) (fun t k => XS.lload X14.here hx rfl (hb hby at_81) rfl k) ?_
  obtain ⟨cq15, kq15, q15a, q15b, q15c⟩ := isOf hZ rfl Ex14
  obtain ⟨_, _, ⟨T15, L15, k15, n15⟩, -, X15, ⟨Lc15, hQ15, l15, y15, z15⟩, st15⟩ := X14.virtualBack hx (y := (⟨"com/example/earmark_ledger/earmarkledger/protocol/HeapAllowance", "take", "(J)V"⟩ : MethodName)) (z := (⟨"com/example/earmark_ledger/earmarkledger/protocol/HeapAllowance", "take", "(J)V"⟩ : MethodName)) hown (mvT hZ (hw_16 hw)) (mvT hZ (hw_17 hw)) (notFace_of_selects (args := #[]) (mvT hZ (hw_19 hw))) (mvT hZ (hw_19 hw)) (mvT hZ (hw_18 hw)) (by decide) (backOf (W := 0) (own_rm4 l Z a0 hw [] b11 sd (((0 : Int64) + sa) + sb) lim T14.heap n0 Z14 Ex14 Ft14 Fm14 g_b11 hT.2.2) hZ (hw_20 hw) (hw_7 hw) (by decide) (by decide)) q15a q15c (g := (mkF m 83 #[jv q1, .second, jv q2, .second, jv q3, .second, jv q4, .second, jv lim, .second, jv sa, .second, jv sb, .second, jv sd, .second, rv b11] [(.long sd), (.ref b11)])) rfl (by rw [hml]; rfl) (Steps.refl _) (argsL := [(.long sd)]) (rest := []) (lenOf pd_1 rfl) rfl (by show 2 * 0 + _ ≤ _; exact Nat.le_of_eq rfl) (hb hby at_83) (fun _ _ => ⟨rfl, rfl, (by decide : 1 + 0 ≤ _), (by decide : 2 + 0 ≤ _)⟩)
  dsimp only [Pt.U, Pt.locs, Pt.cells, Pt.slots] at X15 l15 y15 z15 st15 hQ15
  subst l15 y15 z15
  obtain ⟨rfl, Nq15, K15, Ex15, Fm15, Ft15⟩ := hQ15
  have N15 := Fr.app N14 Nq15
  have Z15 : n0 ≤ T15.heap.size := Nat.le_trans Z14 K15.1
  have f4_Exa_b11 : Exa Z T15.heap b11 "com/example/earmark_ledger/earmarkledger/protocol/HeapAllowance" := (Ex14.keep K15)
  refine own_jump (g' := (mkF m 86 #[jv q1, .second, jv q2, .second, jv q3, .second, jv q4, .second, jv lim, .second, jv sa, .second, jv sb, .second, jv sd, .second, rv b11] [])) st15 ?_
  refine own_st (mkF m 87 #[jv q1, .second, jv q2, .second, jv q3, .second, jv q4, .second, jv lim, .second, jv sa, .second, jv sb, .second, jv sd, .second, rv b11] [(.int (1 : Int32))]) (fun t k => XS.iconst X15.here hx rfl (hb hby at_86) k) ?_
  refine own_ret X15 hlk (v := some (.int (1 : Int32))) (fun h => by rw [hret] at h; cases h) (fun fs hr => retN X15 hx (t := .boolean) hret (by simp) (hb hby at_87) hr) ?_ (by decide) (by decide)
  show own_Q0 Z q1 q2 q3 q4 h0 n0 _ T15.heap _
  exact ⟨rfl, N15⟩
set_option maxRecDepth 65536 in
set_option maxHeartbeats 40000000 in
theorem own_comes {Post : Tables → Env → Array Value → State → Outcome → State → Prop} (hpost : ∀ tb e args s v u, (limb_1_1.after args s (.returned v) u = true ∧ limb_1_2.after args s (.returned v) u = true ∧ True) → FrameEnd s (.returned v) u (Jvm.fieldLocs frame_1_writes args s ++ Jvm.arrayLocs frame_1_arrays args s ++ Jvm.staticLocs frame_1_statics s) 16 128 → Post tb e args s (.returned v) u) :
    ArmFor flags0 classFile x code maxLocals ret World_1 tables_1 room_1 Calls_1 rest_1 Pre_1 Post := by
  intro l hfl _ _ p e ha hc hk s m args below hf hA hF happ hP
  obtain ⟨hcalls, hrest, hpre⟩ := hP
  obtain ⟨-, -, -, hnamed, -, -, -, hat⟩ := (Spec.applies_iff hf).mp happ
  obtain ⟨hg, hn⟩ := and_e (Cond.before_iff.mp (show (Jvm.Cond.and given_1 narrow_1).before args s = true from hpre))
  obtain ⟨hcnt, hg0⟩ := and_e hg
  obtain ⟨ha0, hg1⟩ := and_e hg0
  obtain ⟨ha1, hg2⟩ := and_e hg1
  obtain ⟨ha2, hg3⟩ := and_e hg2
  obtain ⟨w0, w1, w2, w3, rfl⟩ : ∃ w0 w1 w2 w3 : Value, args = #[w0, w1, w2, w3] := by
    have hs : args.size = 4 := by simpa [Cond.value, given_1] using hcnt
    obtain ⟨L⟩ := args
    match L, hs with
    | [w0, w1, w2, w3], _ => exact ⟨w0, w1, w2, w3, rfl⟩
  have hw := fun d (hd : d ∈ tables_1) => atoms_spec (ws := Jvm.Cond.code x code maxLocals ret :: tables_1) hat d (List.mem_cons_of_mem _ hd)
  have hfit : Fit s := fun {y c} hc i hi => by
    obtain ⟨ha, rfl⟩ := Array.getElem?_eq_some_iff.mp hc
    have q := List.all_eq_true.mp ((Array.all_eq_true_iff_forall_mem.mp hF) _ (Array.getElem_mem ha)) i (List.mem_range.mpr hi)
    simpa [Array.getElem?_eq_getElem hi] using q
  obtain ⟨i0, ei0⟩ := isL_v ha0
  obtain rfl : w0 = (.long i0) := Option.some.inj ei0
  obtain ⟨i1, ei1⟩ := isL_v ha1
  obtain rfl : w1 = (.long i1) := Option.some.inj ei1
  obtain ⟨i2, ei2⟩ := isL_v ha2
  obtain rfl : w2 = (.long i2) := Option.some.inj ei2
  obtain ⟨i3, ei3⟩ := isL_v hg3
  obtain rfl : w3 = (.long i3) := Option.some.inj ei3
  obtain ⟨n, o, h1, h2, h3, _, L, rfl, ⟨rfl, N⟩, hq⟩ := own_rm0 l s _ hw tables_1 i0 i1 i2 i3  s.heap s.heap.size (Nat.le_refl _)  p e ha hc hk s m _ below hf ((Spec.applies_iff_loose hf).mp happ).1 ⟨rfl, State.Warmed39.refl s, rfl⟩ trivial
  refine ⟨n, _, h1, h2, h3, hpost _ _ _ _ _ _ ⟨Cond.after_iff.mpr rfl, Cond.after_iff.mpr (eq_i res_at (Term.int_eval (1)) rfl), trivial⟩ ⟨hq.1, hq.2.1, (hq.2.2.sift fun y hy => Or.inr (N y hy)).mono (by decide) (by decide)⟩⟩
theorem main_1_1 : Claimed_1_1 := own_comes fun _ _ _ _ _ _ h hF => ⟨h.1, hF⟩
theorem main_1_2 : Claimed_1_2 := own_comes fun _ _ _ _ _ _ h hF => ⟨h.2.1, hF⟩
end Jvm.Pilot.@@N@@
namespace Jvm.Pilot.@@N@@
open Jvm Jvm.ClassFile Sem Op Lib Jvm.Free Jvm.Stand Jvm.Pilot.@@N@@.Jvm.D
/-! MADE BY PROGRAM (witnessworld.py) out of the Statement's table words and the real class files: 10 classes; the members and pool entries that the words name. The judged class is class 1, her method 1. -/
namespace start1
open Jvm.ClassFile
def u (s : String) : CpInfo := .utf8 (stringToUtf16 s)
/-- a pool by its gaps: so many unusable entries, then the entry; so many at the end -/
def gap : Nat → List CpInfo → List CpInfo
  | 0, r => r
  | n + 1, r => .unusable :: gap n r
def poolList (es : List (Nat × CpInfo)) (last : Nat) : List CpInfo := es.foldr (fun e r => gap e.1 (e.2 :: r)) (gap last [])
def pool (es : List (Nat × CpInfo)) (last : Nat) : Array CpInfo := ⟨poolList es last⟩
def fileOf (pool : Array CpInfo) (this : Nat) (attrs : Array Attribute := #[]) (ms : Array MethodInfo := #[]) (fl : Nat := 33) (sup : Nat := 0) (ifs : Array Nat := #[]) (fds : Array FieldInfo := #[]) : ClassFile where
  minorVersion := 0
  majorVersion := 65
  constantPool := pool
  accessFlags := fl
  thisClass := this
  superClass := sup
  interfaces := ifs
  fields := fds
  methods := ms
  attributes := attrs
def plain (name : String) (sup : Option ClassId) : Class where
  name := name
  kind := .ordinary
  loader := none
  accessFlags := 33
  super := sup
  interfaces := #[]
  cf := none
  fields := #[]
  methods := #[]
  instanceTypes := #[]
  staticTypes := #[]
  resolved := #[]
  callSites := []
  init := .initialized
  statics := none
  mirror := none

def pool0 : Array CpInfo := pool [(5, u "<init>"), (0, u "()V"), (1, .class_ 10), (1, u "java/lang/Object")] 113

def k0c0 : Code := { maxStack := 0, maxLocals := 1, code := object_method_1_code, exceptionTable := #[], attributes := #[] }
def k0m0 : Method := { name := "<init>", desc := "()V", sig := { parameters := [], returnType := none }, accessFlags := 1, code := some k0c0 }
/-- java/lang/Object -/
def k0 : Class := { plain "java/lang/Object" none with
  accessFlags := 33
  interfaces := #[]
  cf := some (fileOf pool0 8 #[] #[{ accessFlags := 1, nameIndex := 5, descriptorIndex := 6, attributes := #[] }] 33 0 #[] #[])
  fields := #[]
  methods := #[k0m0]
  instanceTypes := #[]
  staticTypes := #[]
  resolved := Array.replicate 124 none
  statics := none }

def pool1 : Array CpInfo := pool [(2, .class_ 4), (1, u "java/lang/Object"), (0, u "<init>"), (0, u "()V"), (2, .long 9223372036854775807), (1, .methodref 12 13), (0, .class_ 14), (0, .nameAndType 15 16), (0, u "java/lang/Math"), (0, u "min"), (0, u "(JJ)J"), (0, .class_ 18), (0, u "com/example/earmark_ledger/earmarkledger/protocol/HeapAllowance"), (0, .methodref 17 20), (0, .nameAndType 5 21), (0, u "(J)V"), (0, .methodref 17 23), (0, .nameAndType 24 21), (0, u "take"), (0, .class_ 26), (0, u "com/example/earmark_ledger/earmarkledger/protocol/HeapAllowanceTakePinLaw"), (2, u "law"), (0, u "(JJJJ)Z")] 2

def k1m0 : Method := { name := "<init>", desc := "()V", sig := { parameters := [], returnType := none }, accessFlags := 1, code := none }
def k1c1 : Code := { maxStack := 6, maxLocals := 17, code := code, exceptionTable := #[], attributes := #[] }
def k1m1 : Method := { name := "law", desc := "(JJJJ)Z", sig := { parameters := [.long, .long, .long, .long], returnType := some .boolean }, accessFlags := 9, code := some k1c1 }
/-- com/example/earmark_ledger/earmarkledger/protocol/HeapAllowanceTakePinLaw -/
def k1 : Class := { plain "com/example/earmark_ledger/earmarkledger/protocol/HeapAllowanceTakePinLaw" (some 0) with
  accessFlags := 49
  interfaces := #[]
  cf := some (fileOf pool1 25 #[] #[{ accessFlags := 1, nameIndex := 5, descriptorIndex := 6, attributes := #[] }, { accessFlags := 9, nameIndex := 29, descriptorIndex := 30, attributes := #[] }] 49 2 #[] #[])
  fields := #[]
  methods := #[k1m0, k1m1]
  instanceTypes := #[]
  staticTypes := #[]
  resolved := Array.replicate 33 none
  statics := none }

def pool2 : Array CpInfo := pool [(1, .class_ 2), (0, u "java/lang/Math"), (1, .class_ 6), (1, u "java/lang/Object"), (0, u "<init>"), (0, u "()V"), (89, .class_ 100), (1, u "java/lang/Math$RandomNumberGeneratorHolder"), (20, u "(JJ)J"), (50, u "negativeZeroFloatBits"), (0, u "J"), (2, u "negativeZeroDoubleBits"), (24, u "min"), (43, u "$assertionsDisabled"), (0, u "Z"), (91, u "twoToTheDoubleScaleDown"), (0, u "D"), (4, u "twoToTheDoubleScaleUp"), (9, u "E"), (3, u "PI"), (2, u "TAU"), (2, u "DEGREES_TO_RADIANS"), (0, u "RADIANS_TO_DEGREES")] 94

def k2m0 : Method := { name := "<init>", desc := "()V", sig := { parameters := [], returnType := none }, accessFlags := 2, code := none }
def k2c1 : Code := { maxStack := 4, maxLocals := 4, code := jdk_29_method_70_code, exceptionTable := #[], attributes := #[] }
def k2m1 : Method := { name := "min", desc := "(JJ)J", sig := { parameters := [.long, .long], returnType := some .long }, accessFlags := 9, code := some k2c1 }
/-- java/lang/Math -/
def k2 : Class := { plain "java/lang/Math" (some 0) with
  accessFlags := 49
  interfaces := #[]
  cf := some (fileOf pool2 1 #[.nestMembers #[98]] #[{ accessFlags := 2, nameIndex := 7, descriptorIndex := 8, attributes := #[] }, { accessFlags := 9, nameIndex := 201, descriptorIndex := 121, attributes := #[] }] 49 4 #[] #[{ accessFlags := 25, nameIndex := 354, descriptorIndex := 339, attributes := #[] }, { accessFlags := 25, nameIndex := 358, descriptorIndex := 339, attributes := #[] }, { accessFlags := 25, nameIndex := 361, descriptorIndex := 339, attributes := #[] }, { accessFlags := 26, nameIndex := 364, descriptorIndex := 339, attributes := #[] }, { accessFlags := 26, nameIndex := 365, descriptorIndex := 339, attributes := #[] }, { accessFlags := 26, nameIndex := 172, descriptorIndex := 173, attributes := #[] }, { accessFlags := 26, nameIndex := 176, descriptorIndex := 173, attributes := #[] }, { accessFlags := 8, nameIndex := 344, descriptorIndex := 339, attributes := #[] }, { accessFlags := 8, nameIndex := 338, descriptorIndex := 339, attributes := #[] }, { accessFlags := 4120, nameIndex := 245, descriptorIndex := 246, attributes := #[] }])
  fields := #[{ name := "E", type := .double, accessFlags := 25, slot := 0, constantValue := 0 }, { name := "PI", type := .double, accessFlags := 25, slot := 1, constantValue := 0 }, { name := "TAU", type := .double, accessFlags := 25, slot := 2, constantValue := 0 }, { name := "DEGREES_TO_RADIANS", type := .double, accessFlags := 26, slot := 3, constantValue := 0 }, { name := "RADIANS_TO_DEGREES", type := .double, accessFlags := 26, slot := 4, constantValue := 0 }, { name := "negativeZeroFloatBits", type := .long, accessFlags := 26, slot := 5, constantValue := 0 }, { name := "negativeZeroDoubleBits", type := .long, accessFlags := 26, slot := 6, constantValue := 0 }, { name := "twoToTheDoubleScaleUp", type := .double, accessFlags := 8, slot := 7, constantValue := 0 }, { name := "twoToTheDoubleScaleDown", type := .double, accessFlags := 8, slot := 8, constantValue := 0 }, { name := "$assertionsDisabled", type := .boolean, accessFlags := 4120, slot := 9, constantValue := 0 }]
  methods := #[k2m0, k2m1]
  instanceTypes := #[]
  staticTypes := #[.double, .double, .double, .double, .double, .long, .long, .double, .double, .boolean]
  resolved := Array.replicate 460 none
  statics := none }

def pool3 : Array CpInfo := pool [(1, .methodref 2 3), (0, .class_ 4), (0, .nameAndType 5 6), (0, u "java/lang/Object"), (0, u "<init>"), (0, u "()V"), (0, .fieldref 8 9), (0, .class_ 10), (0, .nameAndType 11 12), (0, u "com/example/earmark_ledger/earmarkledger/protocol/HeapAllowance"), (0, u "limit"), (0, u "J"), (6, u "(J)V"), (4, u "take"), (0, .fieldref 8 26), (0, .nameAndType 27 12), (0, u "taken"), (3, u "OBJECT_BYTES"), (0, u "I")] 10

def k3c0 : Code := { maxStack := 3, maxLocals := 3, code := prog_42_method_1_code, exceptionTable := #[], attributes := #[] }
def k3m0 : Method := { name := "<init>", desc := "(J)V", sig := { parameters := [.long], returnType := none }, accessFlags := 1, code := some k3c0 }
def k3c1 : Code := { maxStack := 5, maxLocals := 3, code := prog_42_method_4_code, exceptionTable := #[], attributes := #[] }
def k3m1 : Method := { name := "take", desc := "(J)V", sig := { parameters := [.long], returnType := none }, accessFlags := 1, code := some k3c1 }
/-- com/example/earmark_ledger/earmarkledger/protocol/HeapAllowance -/
def k3 : Class := { plain "com/example/earmark_ledger/earmarkledger/protocol/HeapAllowance" (some 0) with
  accessFlags := 49
  interfaces := #[]
  cf := some (fileOf pool3 8 #[] #[{ accessFlags := 1, nameIndex := 5, descriptorIndex := 19, attributes := #[] }, { accessFlags := 1, nameIndex := 24, descriptorIndex := 19, attributes := #[] }] 49 2 #[] #[{ accessFlags := 25, nameIndex := 31, descriptorIndex := 32, attributes := #[] }, { accessFlags := 18, nameIndex := 11, descriptorIndex := 12, attributes := #[] }, { accessFlags := 2, nameIndex := 27, descriptorIndex := 12, attributes := #[] }])
  fields := #[{ name := "OBJECT_BYTES", type := .int, accessFlags := 25, slot := 0, constantValue := 0 }, { name := "limit", type := .long, accessFlags := 18, slot := 0, constantValue := 0 }, { name := "taken", type := .long, accessFlags := 2, slot := 1, constantValue := 0 }]
  methods := #[k3m0, k3m1]
  instanceTypes := #[.long, .long]
  staticTypes := #[.int]
  resolved := Array.replicate 43 none
  statics := none }

def pool4 : Array CpInfo := pool [(1, u "java/lang/Cloneable"), (0, .class_ 1), (0, u "java/lang/Object"), (0, .class_ 3)] 3

/-- java/lang/Cloneable -/
def k4 : Class := { plain "java/lang/Cloneable" (some 0) with
  accessFlags := 1537
  interfaces := #[]
  cf := some (fileOf pool4 2 #[] #[] 1537 4 #[] #[])
  fields := #[]
  methods := #[]
  instanceTypes := #[]
  staticTypes := #[]
  resolved := Array.replicate 8 none
  statics := none }

def pool5 : Array CpInfo := pool [(1, u "java/io/Serializable"), (0, .class_ 1), (0, u "java/lang/Object"), (0, .class_ 3)] 3

/-- java/io/Serializable -/
def k5 : Class := { plain "java/io/Serializable" (some 0) with
  accessFlags := 1537
  interfaces := #[]
  cf := some (fileOf pool5 2 #[] #[] 1537 4 #[] #[])
  fields := #[]
  methods := #[]
  instanceTypes := #[]
  staticTypes := #[]
  resolved := Array.replicate 8 none
  statics := none }

/-- the primitive byte -/
def k6 : Class := { plain "byte" none with kind := .primitive 'B', accessFlags := 0x411 }
/-- [B -/
def k7 : Class := { plain "[B" (some 0) with kind := .array 6 .byte, interfaces := #[4, 5], accessFlags := 1041 }

/-- the primitive int -/
def k8 : Class := { plain "int" none with kind := .primitive 'I', accessFlags := 0x411 }
/-- [I -/
def k9 : Class := { plain "[I" (some 0) with kind := .array 8 .int, interfaces := #[4, 5], accessFlags := 1041 }

def heap : Heap := #[]
def classes : Array Class := #[k0, k1, k2, k3, k4, k5, k6, k7, k8, k9]
def interned : List (Array UInt16 × Addr) := []
def slotsUsed : Nat := 0
def theMethod : MethodId := ⟨1, 1⟩
def args0 : Array Value := #[.long 100, .long 5, .long 6, .long 7]
def aboutOver (below : List Frame) : State where
  vm := { classes := classes, interned := interned.toArray }
  heap := heap
  slotsUsed := slotsUsed
  threads := #[{ frames := .invoking theMethod args0 :: below }]
def below0 : List Frame := [.native { method := ⟨0, 0⟩, args := #[] }]
def about1 : State := aboutOver below0
def p0 : Program := .bare "" "" ""
def e0 : Env := launch0.env 0 0 0
theorem w_frames : about1.frames = Frame.invoking theMethod args0 :: below0 := rfl
set_option maxRecDepth 65536 in
theorem w_args : argsFit about1.vm theMethod args0 = true := by decide +kernel
set_option maxRecDepth 65536 in
theorem w_heap : heapFits about1 = true := by decide +kernel
set_option maxRecDepth 65536 in
theorem w_runnable : about1.curStatus? = some .runnable := by decide +kernel
set_option maxRecDepth 65536 in
theorem w_alone : about1.alone = true := by decide +kernel
set_option maxRecDepth 65536 in
theorem w_named : about1.methodNamed? x = some theMethod := by decide +kernel
set_option maxRecDepth 65536 in
theorem w_hears : about1.hears theMethod below0 = true := by decide +kernel
set_option maxRecDepth 65536 in
theorem w_ripe : about1.ripe theMethod args0 below0 = true := by decide +kernel
theorem w_running : about1.status = .running := rfl
set_option maxRecDepth 65536 in
theorem w_room : about1.hasRoom e0.platform room_1 = true :=
  launch0.hasRoom_least _ room_1 (by decide +kernel) (by decide +kernel) (by decide +kernel) (by decide +kernel) (by decide +kernel) (by decide +kernel)
theorem allAtoms_all (ts : List Jvm.Cond) (a : Array Jvm.Value) (st : Jvm.State) : (allAtoms ts).before a st = ts.all (fun c => c.before a st) := by
  induction ts with
  | nil => rfl
  | cons c t ih =>
    show (Jvm.Cond.and c (allAtoms t)).before a st = _
    rw [Jvm.Cond.before_and, ih, List.all_cons]
def words1 : List Jvm.Cond := Jvm.Cond.code x code maxLocals ret :: tables_1
/-- a 'code' word, met by the world's own term for the bytes: nothing is compared byte by byte -/
theorem code_word {y : MethodName} {bytes : ByteArray} {mx : Nat} {rt : Option FieldType} {a : Array Value} {s : State} {m : MethodId} {meth : Method} {c : Code} (h1 : s.methodNamed? y = some m) (h2 : s.vm.method? m = some meth) (h3 : meth.code = some c) (h4 : c.code = bytes)
    (h5 : (c.maxLocals == mx && c.exceptionTable.isEmpty && decide (c.maxStack ≤ mostOperands) && decide (meth.sig.returnType = rt) && !meth.locks && decide (parseMethodDescriptor y.desc = some meth.sig)) = true) : (Jvm.Cond.code y bytes mx rt).before a s = true := by
  simp only [Bool.and_eq_true, beq_iff_eq, Bool.not_eq_true', decide_eq_true_eq] at h5
  obtain ⟨⟨⟨⟨⟨g1, g2⟩, g3⟩, g4⟩, g5⟩, g6⟩ := h5
  simp [Cond.before, Cond.holds, Cond.value, h1, h2, h3, h4, g1, g2, g3, g4, g5, g6]
def isCode : Jvm.Cond → Bool
  | .code _ _ _ _ => true
  | _ => false
theorem all_split {L : List Jvm.Cond} {P : Jvm.Cond → Bool} (h1 : L.all (fun c => isCode c || P c) = true) (h2 : ∀ c ∈ L.filter isCode, P c = true) : L.all P = true := by
  refine List.all_eq_true.mpr fun c hc => ?_
  have h := List.all_eq_true.mp h1 c hc
  rcases Bool.eq_false_or_eq_true (isCode c) with hi | hi
  · exact h2 c (List.mem_filter.mpr ⟨hc, hi⟩)
  · simpa [hi] using h
set_option maxRecDepth 65536 in
theorem w_c0 : (Jvm.Cond.code x code maxLocals ret).before args0 about1 = true := code_word (m := ⟨1, 1⟩) (meth := k1m1) (c := k1c1) (by decide +kernel) rfl rfl rfl (by decide +kernel)
set_option maxRecDepth 65536 in
theorem w_c1 : (Jvm.Cond.code ({ cls := "java/lang/Math", name := "min", desc := "(JJ)J" } : Jvm.MethodName) jdk_29_method_70_code (4 : Nat) (Option.some Jvm.ClassFile.FieldType.long)).before args0 about1 = true := code_word (m := ⟨2, 1⟩) (meth := k2m1) (c := k2c1) (by decide +kernel) rfl rfl rfl (by decide +kernel)
set_option maxRecDepth 65536 in
theorem w_c2 : (Jvm.Cond.code ({ cls := "com/example/earmark_ledger/earmarkledger/protocol/HeapAllowance", name := "<init>", desc := "(J)V" } : Jvm.MethodName) prog_42_method_1_code (3 : Nat) (Option.none : Option Jvm.ClassFile.FieldType)).before args0 about1 = true := code_word (m := ⟨3, 0⟩) (meth := k3m0) (c := k3c0) (by decide +kernel) rfl rfl rfl (by decide +kernel)
set_option maxRecDepth 65536 in
theorem w_c3 : (Jvm.Cond.code ({ cls := "java/lang/Object", name := "<init>", desc := "()V" } : Jvm.MethodName) object_method_1_code (1 : Nat) (Option.none : Option Jvm.ClassFile.FieldType)).before args0 about1 = true := code_word (m := ⟨0, 0⟩) (meth := k0m0) (c := k0c0) (by decide +kernel) rfl rfl rfl (by decide +kernel)
set_option maxRecDepth 65536 in
theorem w_c4 : (Jvm.Cond.code ({ cls := "com/example/earmark_ledger/earmarkledger/protocol/HeapAllowance", name := "take", desc := "(J)V" } : Jvm.MethodName) prog_42_method_4_code (3 : Nat) (Option.none : Option Jvm.ClassFile.FieldType)).before args0 about1 = true := code_word (m := ⟨3, 1⟩) (meth := k3m1) (c := k3c1) (by decide +kernel) rfl rfl rfl (by decide +kernel)
def codes1 : List Jvm.Cond := [Jvm.Cond.code x code maxLocals ret, Jvm.Cond.code ({ cls := "java/lang/Math", name := "min", desc := "(JJ)J" } : Jvm.MethodName) jdk_29_method_70_code (4 : Nat) (Option.some Jvm.ClassFile.FieldType.long), Jvm.Cond.code ({ cls := "com/example/earmark_ledger/earmarkledger/protocol/HeapAllowance", name := "<init>", desc := "(J)V" } : Jvm.MethodName) prog_42_method_1_code (3 : Nat) (Option.none : Option Jvm.ClassFile.FieldType), Jvm.Cond.code ({ cls := "java/lang/Object", name := "<init>", desc := "()V" } : Jvm.MethodName) object_method_1_code (1 : Nat) (Option.none : Option Jvm.ClassFile.FieldType), Jvm.Cond.code ({ cls := "com/example/earmark_ledger/earmarkledger/protocol/HeapAllowance", name := "take", desc := "(J)V" } : Jvm.MethodName) prog_42_method_4_code (3 : Nat) (Option.none : Option Jvm.ClassFile.FieldType)]
set_option maxRecDepth 65536 in
theorem codes_eq : words1.filter isCode = codes1 := rfl
theorem w_codes : ∀ c ∈ words1.filter isCode, c.before args0 about1 = true := by
  rw [codes_eq]
  intro c hc
  simp only [codes1, List.mem_cons, List.not_mem_nil, or_false] at hc
  rcases hc with rfl | rfl | rfl | rfl | rfl
  · exact w_c0
  · exact w_c1
  · exact w_c2
  · exact w_c3
  · exact w_c4
set_option maxRecDepth 65536 in
theorem w_t1 : words1.all (fun c => isCode c || c.before args0 about1) = true := by decide +kernel
theorem w_tables : (allAtoms (Jvm.Cond.code x code maxLocals ret :: tables_1)).before args0 about1 = true := by
  rw [allAtoms_all]
  show words1.all (fun c => c.before args0 about1) = true
  refine all_split ?_ w_codes
  rw [w_t1]
set_option maxRecDepth 65536 in
theorem w_case : (Jvm.Cond.and given_1 narrow_1).before args0 about1 = true := by decide +kernel
theorem w_applies : (headSpec (Jvm.Cond.code x code maxLocals ret :: tables_1) room_1).applies x e0.platform about1 = true :=
  (Spec.applies_iff w_frames).mpr ⟨w_running, w_runnable, w_alone, w_named, w_hears, w_ripe, w_room, w_tables⟩
theorem atStart : AtStart classFile x code maxLocals ret World_1 tables_1 room_1 Calls_1 rest_1 Pre_1 launch0 p0 e0 about1 theMethod args0 below0 :=
  ⟨lists_1, trivial, launch0.admits_env _ _ _, launch0.least_env, fairChoices_fair.cas, fairChoices_fair.clock, w_frames, w_args, w_heap, w_applies, trivial, trivial, w_case⟩
end start1
theorem witness_1 : WitnessClaimed_1 := ⟨start1.p0, start1.e0, start1.about1, start1.theMethod, start1.args0, start1.below0, start1.atStart⟩
end Jvm.Pilot.@@N@@
