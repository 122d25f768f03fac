import JvmDerived
import JvmDerived.Pilot.@@N@@Statement
import JvmDerived.Pilot.@@N@@Code
set_option linter.unusedVariables false
set_option linter.unusedSimpArgs false
namespace Jvm.Pilot.@@N@@
open Jvm Jvm.ClassFile Sem Op Lib Jvm.Free Jvm.Stand Jvm.LawKit Jvm.RoadKit Bundle Jvm.Pilot.@@N@@.Jvm.D
abbrev jv (x : Int64) : Slot := .val (.long x)
section OwnKit
variable {p : Program} {l : Launch} {e : Env} {R : Room} {s : State} {m : MethodId} {args : Array Value} {below : List Frame} {meth : Method} {c : Code} {T T' : State} {locs : List Loc} {cells slots kc ks : Nat} {Q : Option Value → Heap → List Loc → Prop} {g g' : JFrame}
/-- from the state T, its top frame g, the invocation comes to its end with Q -/
def own_WP (p : Program) (e : Env) (below : List Frame) (s : State) (Q : Option Value → Heap → List Loc → Prop) (kc ks : Nat) (T : State) (g : JFrame) : Prop :=
  ∃ s₂ o, Steps p.tables e below (T.setTop g) s₂ ∧ s₂.status = .running ∧ Ended s₂ below o ∧ ∃ v L, o = .returned v ∧ Q v s₂.heap L ∧ FrameEnd s o s₂ L kc ks
theorem own_step (h : ∀ t, Steps p.tables e below (T'.setTop g') t → Steps p.tables e below (T.setTop g) t) (hr : own_WP p e below s Q kc ks T' g') : own_WP p e below s Q kc ks T g := by
  obtain ⟨s₂, o, h1, h2⟩ := hr
  exact ⟨s₂, o, h _ h1, h2⟩
theorem own_st (g' : JFrame) (h : ∀ t, Steps p.tables e below (T.setTop g') t → Steps p.tables e below (T.setTop g) t) (hr : own_WP p e below s Q kc ks T g') : own_WP p e below s Q kc ks T g := own_step h hr
theorem own_jump (h : Steps p.tables e below (T.setTop g) (T'.setTop g')) (hr : own_WP p e below s Q kc ks T' g') : own_WP p e below s Q kc ks T g := by
  obtain ⟨s₂, o, h1, h2⟩ := hr
  exact ⟨s₂, o, h.trans h1, h2⟩
theorem own_ret (X : Stand p l e R s m args below meth c T locs cells slots) (hlk : meth.locks = false) {v : Option Value} (hv : meth.sig.returnType = none → v = none)
    (hst : ∀ fs, (∀ (f : JFrame) (acts : List Action), f.method = m → f.locked = none → f.entered = [] → (doReturn e (T.setTop f) acts v).1 = T.setFrames fs) → Steps p.tables e below (T.setTop g) (T.setFrames fs))
    (hq : Q v T.heap locs) (h1 : cells ≤ kc) (h2 : slots ≤ ks) : own_WP p e below s Q kc ks T g := by
  obtain ⟨fs, hr, hrun, hended, hW, hsame⟩ := X.leave (v := v) hv hlk
  exact ⟨_, _, hst fs hr, hrun, hended, v, locs, rfl, hq, ⟨v, rfl⟩, hW, hsame.mono h1 h2⟩
theorem own_wide (X : Stand p l e R s m args below meth c T locs cells slots) {cells' slots' : Nat} (h1 : cells ≤ cells') (h2 : slots ≤ slots') : Stand p l e R s m args below meth c T locs cells' slots' :=
  ⟨X.admits, X.cas, X.clock, X.frames, X.room, X.hears, X.method, X.code, X.here, X.tail, X.warmed, X.limits, X.bytes, X.same.mono h1 h2⟩
end OwnKit
theorem own_body {l : Launch} {y : MethodName} {bytes : ByteArray} {maxL : Nat} {ret : Option FieldType} {ws : List Jvm.Cond} {rm : Room} {A : Array Value} {Z : State} {h0 : Heap} {Q : Option Value → Heap → List Loc → Prop} {ls : Array Slot} {kc ks : Nat}
    (hpl : plainFor y = true) (ef : ∀ m, entryFrame m A maxL = mkF m 0 ls [])
    (body : ∀ (p : Program) (e : Env) (s : State) (m : MethodId) (below : List Frame) (meth : Method) (c : Code) (T : State), Stand p l e rm s m A below meth c T [] 0 0 → p.tables.exec = Jvm.exec → c.code = bytes → c.maxLocals = maxL → Z.Warmed39 s.vm → s.vm.findClass y.cls = some m.cls → meth.name = y.name → meth.sig.returnType = ret → meth.locks = false → T.heap = h0 →
      own_WP p e below s Q kc ks T (mkF m 0 ls [])) :
    MetFree l y (head1 (Jvm.Cond.code y bytes maxL ret :: ws) rm) (fun a U => a = A ∧ Z.Warmed39 U.vm ∧ U.heap = h0) (fun _ _ _ _ _ => True) (fun _ U o U' => ∃ v L, o = .returned v ∧ Q v U'.heap L ∧ FrameEnd U o U' L kc ks) := by
  refine MetFree.of_bodySF hpl hisR ?_
  intro p e s m args below meth c s₁ Bd hml0 hP hK
  obtain ⟨rfl, hZ, hh⟩ := hP
  obtain ⟨s₂, o, h1, h2⟩ := body p e s m below meth c s₁ (Stand.of_body Bd) Bd.exec Bd.bytes hml0 hZ (findClass_of_methodNamed Bd.named) (name_of_methodNamed Bd.named Bd.method).1 Bd.returns Bd.notSynchronized (by rw [← hh, Bd.state]; rfl)
  exact ⟨s₂, o, castTop (ef m) h1, h2⟩
theorem own_llt1 {x y : Int64} (h : x < y) : ifCond.holds .lt (lcmpW x y) = true := (if0 _ _).trans (tlt ((lw_lt x y).mpr h)).1
theorem own_llt0 {x y : Int64} (h : ¬ x < y) : ifCond.holds .lt (lcmpW x y) = false := (if0 _ _).trans (flt (mt (lw_lt x y).mp h)).1
theorem own_lge1 {x y : Int64} (h : ¬ x < y) : ifCond.holds .ge (lcmpW x y) = true := (if0 _ _).trans (flt (mt (lw_lt x y).mp h)).2.1
theorem own_lge0 {x y : Int64} (h : x < y) : ifCond.holds .ge (lcmpW x y) = false := (if0 _ _).trans (tlt ((lw_lt x y).mpr h)).2.1
theorem own_lgt1 {x y : Int64} (h : y < x) : ifCond.holds .gt (lcmpW x y) = true := (if0 _ _).trans (tlt ((lw_gt x y).mpr h)).2.2.1
theorem own_lgt0 {x y : Int64} (h : ¬ y < x) : ifCond.holds .gt (lcmpW x y) = false := (if0 _ _).trans (flt (mt (lw_gt x y).mp h)).2.2.1
theorem own_lle1 {x y : Int64} (h : ¬ y < x) : ifCond.holds .le (lcmpW x y) = true := (if0 _ _).trans (flt (mt (lw_gt x y).mp h)).2.2.2
theorem own_lle0 {x y : Int64} (h : y < x) : ifCond.holds .le (lcmpW x y) = false := (if0 _ _).trans (tlt ((lw_gt x y).mpr h)).2.2.2
theorem own_leq1 {x y : Int64} (h : x = y) : ifCond.holds .eq (lcmpW x y) = true := (if0 _ _).trans (teq ((lw_eq x y).mpr h)).1
theorem own_leq0 {x y : Int64} (h : ¬ x = y) : ifCond.holds .eq (lcmpW x y) = false := (if0 _ _).trans (feq (mt (lw_eq x y).mp h)).1
theorem own_lne1 {x y : Int64} (h : ¬ x = y) : ifCond.holds .ne (lcmpW x y) = true := (if0 _ _).trans (feq (mt (lw_eq x y).mp h)).2
theorem own_lne0 {x y : Int64} (h : x = y) : ifCond.holds .ne (lcmpW x y) = false := (if0 _ _).trans (teq ((lw_eq x y).mpr h)).2
theorem own_eqint {t : Term} {n : Int32} {args : Array Value} {first s : State} {o : Option Outcome} {idx : List Nat} (h : (Jvm.Cond.eq t (.int n)).value args first o s idx = some true) : t.eval args first o idx s = some (.int n) :=
  Jvm.Cond.eq_int (beq_iff_eq.mpr h : (Jvm.Cond.eq t (.int n)).holds args first o s idx = true) rfl

def own_key (i : Int32) (w10 w11 w12 w13 w14 w15 w16 w17 w18 w19 w20 w21 w22 : Addr) : Addr := if i = (0 : Int32) then w10 else if i = (1 : Int32) then w11 else if i = (2 : Int32) then w12 else if i = (3 : Int32) then w13 else if i = (4 : Int32) then w14 else if i = (5 : Int32) then w15 else if i = (6 : Int32) then w16 else if i = (7 : Int32) then w17 else if i = (8 : Int32) then w18 else if i = (9 : Int32) then w19 else if i = (10 : Int32) then w20 else if i = (11 : Int32) then w21 else w22
def own_mx (i : Int32) : Int32 := if i = (0 : Int32) then (2 : Int32) else if i = (1 : Int32) then (3 : Int32) else if i = (2 : Int32) then (1 : Int32) else if i = (3 : Int32) then (2 : Int32) else if i = (4 : Int32) then (2 : Int32) else if i = (5 : Int32) then (1 : Int32) else if i = (6 : Int32) then (0 : Int32) else if i = (7 : Int32) then (1 : Int32) else if i = (8 : Int32) then (0 : Int32) else if i = (9 : Int32) then (0 : Int32) else if i = (10 : Int32) then (0 : Int32) else if i = (11 : Int32) then (3 : Int32) else (0 : Int32)
def own_sup (v lo hi : Int32) : Int32 := if v < lo then 0 else if hi < v then 0 else 1
theorem own_keys {P : Addr → Int32 → Prop} (i : Int32) (w10 w11 w12 w13 w14 w15 w16 w17 w18 w19 w20 w21 w22 : Addr) (h0 : P w10 (2 : Int32)) (h1 : P w11 (3 : Int32)) (h2 : P w12 (1 : Int32)) (h3 : P w13 (2 : Int32)) (h4 : P w14 (2 : Int32)) (h5 : P w15 (1 : Int32)) (h6 : P w16 (0 : Int32)) (h7 : P w17 (1 : Int32)) (h8 : P w18 (0 : Int32)) (h9 : P w19 (0 : Int32)) (h10 : P w20 (0 : Int32)) (h11 : P w21 (3 : Int32)) (h12 : P w22 (0 : Int32)) : P (own_key i w10 w11 w12 w13 w14 w15 w16 w17 w18 w19 w20 w21 w22) (own_mx i) := by
  unfold own_key own_mx
  by_cases c0 : i = (0 : Int32)
  · rw [if_pos c0, if_pos c0]; exact h0
  rw [if_neg c0, if_neg c0]
  by_cases c1 : i = (1 : Int32)
  · rw [if_pos c1, if_pos c1]; exact h1
  rw [if_neg c1, if_neg c1]
  by_cases c2 : i = (2 : Int32)
  · rw [if_pos c2, if_pos c2]; exact h2
  rw [if_neg c2, if_neg c2]
  by_cases c3 : i = (3 : Int32)
  · rw [if_pos c3, if_pos c3]; exact h3
  rw [if_neg c3, if_neg c3]
  by_cases c4 : i = (4 : Int32)
  · rw [if_pos c4, if_pos c4]; exact h4
  rw [if_neg c4, if_neg c4]
  by_cases c5 : i = (5 : Int32)
  · rw [if_pos c5, if_pos c5]; exact h5
  rw [if_neg c5, if_neg c5]
  by_cases c6 : i = (6 : Int32)
  · rw [if_pos c6, if_pos c6]; exact h6
  rw [if_neg c6, if_neg c6]
  by_cases c7 : i = (7 : Int32)
  · rw [if_pos c7, if_pos c7]; exact h7
  rw [if_neg c7, if_neg c7]
  by_cases c8 : i = (8 : Int32)
  · rw [if_pos c8, if_pos c8]; exact h8
  rw [if_neg c8, if_neg c8]
  by_cases c9 : i = (9 : Int32)
  · rw [if_pos c9, if_pos c9]; exact h9
  rw [if_neg c9, if_neg c9]
  by_cases c10 : i = (10 : Int32)
  · rw [if_pos c10, if_pos c10]; exact h10
  rw [if_neg c10, if_neg c10]
  by_cases c11 : i = (11 : Int32)
  · rw [if_pos c11, if_pos c11]; exact h11
  rw [if_neg c11, if_neg c11]
  exact h12
theorem d1_0 : decode method_2_code 0 = .ok (.iload_n 0, 1) := by decide +kernel
theorem d1_1 : decode method_2_code 1 = .ok (.ifCond .ne 7, 3) := by decide +kernel
theorem d1_4 : decode method_2_code 4 = .ok (.getstatic 7, 3) := by decide +kernel
theorem hw_5 {a0 : Array Value} {Z : State} (hw : ∀ d ∈ tables_1, d.before a0 Z = true) : (Jvm.Cond.fieldLink "com/example/earmark_ledger/earmarkledger/protocol/ApiKeySupportsPinLaw" (7 : Nat) "com/example/earmark_ledger/earmarkledger/protocol/ApiKey" "PRODUCE" "Lcom/example/earmark_ledger/earmarkledger/protocol/ApiKey;").before a0 Z = true := hw _ (List.mem_of_getElem? (i := 5) rfl)
theorem d1_7 : decode method_2_code 7 = .ok (.areturn, 1) := by decide +kernel
theorem d1_8 : decode method_2_code 8 = .ok (.iload_n 0, 1) := by decide +kernel
theorem d1_9 : decode method_2_code 9 = .ok (.iconst 1, 1) := by decide +kernel
theorem d1_10 : decode method_2_code 10 = .ok (.if_icmp .ne 7, 3) := by decide +kernel
theorem d1_13 : decode method_2_code 13 = .ok (.getstatic 13, 3) := by decide +kernel
theorem hw_20 {a0 : Array Value} {Z : State} (hw : ∀ d ∈ tables_1, d.before a0 Z = true) : (Jvm.Cond.fieldLink "com/example/earmark_ledger/earmarkledger/protocol/ApiKeySupportsPinLaw" (13 : Nat) "com/example/earmark_ledger/earmarkledger/protocol/ApiKey" "FETCH" "Lcom/example/earmark_ledger/earmarkledger/protocol/ApiKey;").before a0 Z = true := hw _ (List.mem_of_getElem? (i := 20) rfl)
theorem d1_16 : decode method_2_code 16 = .ok (.areturn, 1) := by decide +kernel
theorem d1_17 : decode method_2_code 17 = .ok (.iload_n 0, 1) := by decide +kernel
theorem d1_18 : decode method_2_code 18 = .ok (.iconst 2, 1) := by decide +kernel
theorem d1_19 : decode method_2_code 19 = .ok (.if_icmp .ne 7, 3) := by decide +kernel
theorem d1_22 : decode method_2_code 22 = .ok (.getstatic 16, 3) := by decide +kernel
theorem hw_38 {a0 : Array Value} {Z : State} (hw : ∀ d ∈ tables_1, d.before a0 Z = true) : (Jvm.Cond.fieldLink "com/example/earmark_ledger/earmarkledger/protocol/ApiKeySupportsPinLaw" (16 : Nat) "com/example/earmark_ledger/earmarkledger/protocol/ApiKey" "LIST_OFFSETS" "Lcom/example/earmark_ledger/earmarkledger/protocol/ApiKey;").before a0 Z = true := hw _ (List.mem_of_getElem? (i := 38) rfl)
theorem d1_25 : decode method_2_code 25 = .ok (.areturn, 1) := by decide +kernel
theorem d1_26 : decode method_2_code 26 = .ok (.iload_n 0, 1) := by decide +kernel
theorem d1_27 : decode method_2_code 27 = .ok (.iconst 3, 1) := by decide +kernel
theorem d1_28 : decode method_2_code 28 = .ok (.if_icmp .ne 7, 3) := by decide +kernel
theorem d1_31 : decode method_2_code 31 = .ok (.getstatic 19, 3) := by decide +kernel
theorem hw_30 {a0 : Array Value} {Z : State} (hw : ∀ d ∈ tables_1, d.before a0 Z = true) : (Jvm.Cond.fieldLink "com/example/earmark_ledger/earmarkledger/protocol/ApiKeySupportsPinLaw" (19 : Nat) "com/example/earmark_ledger/earmarkledger/protocol/ApiKey" "METADATA" "Lcom/example/earmark_ledger/earmarkledger/protocol/ApiKey;").before a0 Z = true := hw _ (List.mem_of_getElem? (i := 30) rfl)
theorem d1_34 : decode method_2_code 34 = .ok (.areturn, 1) := by decide +kernel
theorem d1_35 : decode method_2_code 35 = .ok (.iload_n 0, 1) := by decide +kernel
theorem d1_36 : decode method_2_code 36 = .ok (.iconst 4, 1) := by decide +kernel
theorem d1_37 : decode method_2_code 37 = .ok (.if_icmp .ne 7, 3) := by decide +kernel
theorem d1_40 : decode method_2_code 40 = .ok (.getstatic 22, 3) := by decide +kernel
theorem hw_34 {a0 : Array Value} {Z : State} (hw : ∀ d ∈ tables_1, d.before a0 Z = true) : (Jvm.Cond.fieldLink "com/example/earmark_ledger/earmarkledger/protocol/ApiKeySupportsPinLaw" (22 : Nat) "com/example/earmark_ledger/earmarkledger/protocol/ApiKey" "OFFSET_COMMIT" "Lcom/example/earmark_ledger/earmarkledger/protocol/ApiKey;").before a0 Z = true := hw _ (List.mem_of_getElem? (i := 34) rfl)
theorem d1_43 : decode method_2_code 43 = .ok (.areturn, 1) := by decide +kernel
theorem d1_44 : decode method_2_code 44 = .ok (.iload_n 0, 1) := by decide +kernel
theorem d1_45 : decode method_2_code 45 = .ok (.iconst 5, 1) := by decide +kernel
theorem d1_46 : decode method_2_code 46 = .ok (.if_icmp .ne 7, 3) := by decide +kernel
theorem d1_49 : decode method_2_code 49 = .ok (.getstatic 25, 3) := by decide +kernel
theorem hw_36 {a0 : Array Value} {Z : State} (hw : ∀ d ∈ tables_1, d.before a0 Z = true) : (Jvm.Cond.fieldLink "com/example/earmark_ledger/earmarkledger/protocol/ApiKeySupportsPinLaw" (25 : Nat) "com/example/earmark_ledger/earmarkledger/protocol/ApiKey" "OFFSET_FETCH" "Lcom/example/earmark_ledger/earmarkledger/protocol/ApiKey;").before a0 Z = true := hw _ (List.mem_of_getElem? (i := 36) rfl)
theorem d1_52 : decode method_2_code 52 = .ok (.areturn, 1) := by decide +kernel
theorem d1_53 : decode method_2_code 53 = .ok (.iload_n 0, 1) := by decide +kernel
theorem d1_54 : decode method_2_code 54 = .ok (.bipush 6, 2) := by decide +kernel
theorem d1_56 : decode method_2_code 56 = .ok (.if_icmp .ne 7, 3) := by decide +kernel
theorem d1_59 : decode method_2_code 59 = .ok (.getstatic 28, 3) := by decide +kernel
theorem hw_40 {a0 : Array Value} {Z : State} (hw : ∀ d ∈ tables_1, d.before a0 Z = true) : (Jvm.Cond.fieldLink "com/example/earmark_ledger/earmarkledger/protocol/ApiKeySupportsPinLaw" (28 : Nat) "com/example/earmark_ledger/earmarkledger/protocol/ApiKey" "FIND_COORDINATOR" "Lcom/example/earmark_ledger/earmarkledger/protocol/ApiKey;").before a0 Z = true := hw _ (List.mem_of_getElem? (i := 40) rfl)
theorem d1_62 : decode method_2_code 62 = .ok (.areturn, 1) := by decide +kernel
theorem d1_63 : decode method_2_code 63 = .ok (.iload_n 0, 1) := by decide +kernel
theorem d1_64 : decode method_2_code 64 = .ok (.bipush 7, 2) := by decide +kernel
theorem d1_66 : decode method_2_code 66 = .ok (.if_icmp .ne 7, 3) := by decide +kernel
theorem d1_69 : decode method_2_code 69 = .ok (.getstatic 31, 3) := by decide +kernel
theorem hw_24 {a0 : Array Value} {Z : State} (hw : ∀ d ∈ tables_1, d.before a0 Z = true) : (Jvm.Cond.fieldLink "com/example/earmark_ledger/earmarkledger/protocol/ApiKeySupportsPinLaw" (31 : Nat) "com/example/earmark_ledger/earmarkledger/protocol/ApiKey" "JOIN_GROUP" "Lcom/example/earmark_ledger/earmarkledger/protocol/ApiKey;").before a0 Z = true := hw _ (List.mem_of_getElem? (i := 24) rfl)
theorem d1_72 : decode method_2_code 72 = .ok (.areturn, 1) := by decide +kernel
theorem d1_73 : decode method_2_code 73 = .ok (.iload_n 0, 1) := by decide +kernel
theorem d1_74 : decode method_2_code 74 = .ok (.bipush 8, 2) := by decide +kernel
theorem d1_76 : decode method_2_code 76 = .ok (.if_icmp .ne 7, 3) := by decide +kernel
theorem d1_79 : decode method_2_code 79 = .ok (.getstatic 34, 3) := by decide +kernel
theorem hw_22 {a0 : Array Value} {Z : State} (hw : ∀ d ∈ tables_1, d.before a0 Z = true) : (Jvm.Cond.fieldLink "com/example/earmark_ledger/earmarkledger/protocol/ApiKeySupportsPinLaw" (34 : Nat) "com/example/earmark_ledger/earmarkledger/protocol/ApiKey" "HEARTBEAT" "Lcom/example/earmark_ledger/earmarkledger/protocol/ApiKey;").before a0 Z = true := hw _ (List.mem_of_getElem? (i := 22) rfl)
theorem d1_82 : decode method_2_code 82 = .ok (.areturn, 1) := by decide +kernel
theorem d1_83 : decode method_2_code 83 = .ok (.iload_n 0, 1) := by decide +kernel
theorem d1_84 : decode method_2_code 84 = .ok (.bipush 9, 2) := by decide +kernel
theorem d1_86 : decode method_2_code 86 = .ok (.if_icmp .ne 7, 3) := by decide +kernel
theorem d1_89 : decode method_2_code 89 = .ok (.getstatic 37, 3) := by decide +kernel
theorem hw_42 {a0 : Array Value} {Z : State} (hw : ∀ d ∈ tables_1, d.before a0 Z = true) : (Jvm.Cond.fieldLink "com/example/earmark_ledger/earmarkledger/protocol/ApiKeySupportsPinLaw" (37 : Nat) "com/example/earmark_ledger/earmarkledger/protocol/ApiKey" "LEAVE_GROUP" "Lcom/example/earmark_ledger/earmarkledger/protocol/ApiKey;").before a0 Z = true := hw _ (List.mem_of_getElem? (i := 42) rfl)
theorem d1_92 : decode method_2_code 92 = .ok (.areturn, 1) := by decide +kernel
theorem d1_93 : decode method_2_code 93 = .ok (.iload_n 0, 1) := by decide +kernel
theorem d1_94 : decode method_2_code 94 = .ok (.bipush 10, 2) := by decide +kernel
theorem d1_96 : decode method_2_code 96 = .ok (.if_icmp .ne 7, 3) := by decide +kernel
theorem d1_99 : decode method_2_code 99 = .ok (.getstatic 40, 3) := by decide +kernel
theorem hw_26 {a0 : Array Value} {Z : State} (hw : ∀ d ∈ tables_1, d.before a0 Z = true) : (Jvm.Cond.fieldLink "com/example/earmark_ledger/earmarkledger/protocol/ApiKeySupportsPinLaw" (40 : Nat) "com/example/earmark_ledger/earmarkledger/protocol/ApiKey" "SYNC_GROUP" "Lcom/example/earmark_ledger/earmarkledger/protocol/ApiKey;").before a0 Z = true := hw _ (List.mem_of_getElem? (i := 26) rfl)
theorem d1_102 : decode method_2_code 102 = .ok (.areturn, 1) := by decide +kernel
theorem d1_103 : decode method_2_code 103 = .ok (.iload_n 0, 1) := by decide +kernel
theorem d1_104 : decode method_2_code 104 = .ok (.bipush 11, 2) := by decide +kernel
theorem d1_106 : decode method_2_code 106 = .ok (.if_icmp .ne 7, 3) := by decide +kernel
theorem d1_109 : decode method_2_code 109 = .ok (.getstatic 43, 3) := by decide +kernel
theorem hw_28 {a0 : Array Value} {Z : State} (hw : ∀ d ∈ tables_1, d.before a0 Z = true) : (Jvm.Cond.fieldLink "com/example/earmark_ledger/earmarkledger/protocol/ApiKeySupportsPinLaw" (43 : Nat) "com/example/earmark_ledger/earmarkledger/protocol/ApiKey" "API_VERSIONS" "Lcom/example/earmark_ledger/earmarkledger/protocol/ApiKey;").before a0 Z = true := hw _ (List.mem_of_getElem? (i := 28) rfl)
theorem d1_112 : decode method_2_code 112 = .ok (.areturn, 1) := by decide +kernel
theorem d1_113 : decode method_2_code 113 = .ok (.getstatic 46, 3) := by decide +kernel
theorem hw_32 {a0 : Array Value} {Z : State} (hw : ∀ d ∈ tables_1, d.before a0 Z = true) : (Jvm.Cond.fieldLink "com/example/earmark_ledger/earmarkledger/protocol/ApiKeySupportsPinLaw" (46 : Nat) "com/example/earmark_ledger/earmarkledger/protocol/ApiKey" "CREATE_TOPICS" "Lcom/example/earmark_ledger/earmarkledger/protocol/ApiKey;").before a0 Z = true := hw _ (List.mem_of_getElem? (i := 32) rfl)
theorem d1_116 : decode method_2_code 116 = .ok (.areturn, 1) := by decide +kernel
theorem pn_1 : plainName "com/example/earmark_ledger/earmarkledger/protocol/ApiKeySupportsPinLaw" = true := by first | (simp [plainName, overriddenIn]; done) | decide +kernel
theorem own_ef1 (m : MethodId) (p1 : Int32) : entryFrame m #[(.int p1)] 1 = mkF m 0 #[iv p1] [] := by first | (simp [entryFrame, mkF, argsToLocals, Value.category]; done) | rfl
def own_Q1 (Z : State) (p1 : Int32) (w10 : Addr) (w11 : Addr) (w12 : Addr) (w13 : Addr) (w14 : Addr) (w15 : Addr) (w16 : Addr) (w17 : Addr) (w18 : Addr) (w19 : Addr) (w20 : Addr) (w21 : Addr) (w22 : Addr) (h0 : Heap) (n0 : Nat) (v : Option Value) (h : Heap) (L : List Loc) : Prop := v = some (.ref (own_key p1 w10 w11 w12 w13 w14 w15 w16 w17 w18 w19 w20 w21 w22)) ∧ Fr n0 L ∧ h = h0
set_option maxRecDepth 65536 in
set_option maxHeartbeats 40000000 in
theorem own_rm1 (l : Launch) (Z : State) (a0 : Array Value) (hw : ∀ d ∈ tables_1, d.before a0 Z = true) (ws : List Jvm.Cond) (p1 : Int32) (w10 : Addr) (w11 : Addr) (w12 : Addr) (w13 : Addr) (w14 : Addr) (w15 : Addr) (w16 : Addr) (w17 : Addr) (w18 : Addr) (w19 : Addr) (w20 : Addr) (w21 : Addr) (w22 : Addr) (h0 : Heap) (n0 : Nat) (Z0 : n0 ≤ h0.size) (O0 : Old Z n0 h0) (S_w10 : Sta Z Z.heap "com/example/earmark_ledger/earmarkledger/protocol/ApiKey" "PRODUCE" "Lcom/example/earmark_ledger/earmarkledger/protocol/ApiKey;" (.ref w10)) (S_w11 : Sta Z Z.heap "com/example/earmark_ledger/earmarkledger/protocol/ApiKey" "FETCH" "Lcom/example/earmark_ledger/earmarkledger/protocol/ApiKey;" (.ref w11)) (S_w12 : Sta Z Z.heap "com/example/earmark_ledger/earmarkledger/protocol/ApiKey" "LIST_OFFSETS" "Lcom/example/earmark_ledger/earmarkledger/protocol/ApiKey;" (.ref w12)) (S_w13 : Sta Z Z.heap "com/example/earmark_ledger/earmarkledger/protocol/ApiKey" "METADATA" "Lcom/example/earmark_ledger/earmarkledger/protocol/ApiKey;" (.ref w13)) (S_w14 : Sta Z Z.heap "com/example/earmark_ledger/earmarkledger/protocol/ApiKey" "OFFSET_COMMIT" "Lcom/example/earmark_ledger/earmarkledger/protocol/ApiKey;" (.ref w14)) (S_w15 : Sta Z Z.heap "com/example/earmark_ledger/earmarkledger/protocol/ApiKey" "OFFSET_FETCH" "Lcom/example/earmark_ledger/earmarkledger/protocol/ApiKey;" (.ref w15)) (S_w16 : Sta Z Z.heap "com/example/earmark_ledger/earmarkledger/protocol/ApiKey" "FIND_COORDINATOR" "Lcom/example/earmark_ledger/earmarkledger/protocol/ApiKey;" (.ref w16)) (S_w17 : Sta Z Z.heap "com/example/earmark_ledger/earmarkledger/protocol/ApiKey" "JOIN_GROUP" "Lcom/example/earmark_ledger/earmarkledger/protocol/ApiKey;" (.ref w17)) (S_w18 : Sta Z Z.heap "com/example/earmark_ledger/earmarkledger/protocol/ApiKey" "HEARTBEAT" "Lcom/example/earmark_ledger/earmarkledger/protocol/ApiKey;" (.ref w18)) (S_w19 : Sta Z Z.heap "com/example/earmark_ledger/earmarkledger/protocol/ApiKey" "LEAVE_GROUP" "Lcom/example/earmark_ledger/earmarkledger/protocol/ApiKey;" (.ref w19)) (S_w20 : Sta Z Z.heap "com/example/earmark_ledger/earmarkledger/protocol/ApiKey" "SYNC_GROUP" "Lcom/example/earmark_ledger/earmarkledger/protocol/ApiKey;" (.ref w20)) (S_w21 : Sta Z Z.heap "com/example/earmark_ledger/earmarkledger/protocol/ApiKey" "API_VERSIONS" "Lcom/example/earmark_ledger/earmarkledger/protocol/ApiKey;" (.ref w21)) (S_w22 : Sta Z Z.heap "com/example/earmark_ledger/earmarkledger/protocol/ApiKey" "CREATE_TOPICS" "Lcom/example/earmark_ledger/earmarkledger/protocol/ApiKey;" (.ref w22)) :
    MetFree l (⟨"com/example/earmark_ledger/earmarkledger/protocol/ApiKeySupportsPinLaw", "pick", "(I)Lcom/example/earmark_ledger/earmarkledger/protocol/ApiKey;"⟩ : MethodName) (head1 (Jvm.Cond.code (⟨"com/example/earmark_ledger/earmarkledger/protocol/ApiKeySupportsPinLaw", "pick", "(I)Lcom/example/earmark_ledger/earmarkledger/protocol/ApiKey;"⟩ : MethodName) method_2_code 1 (some (.object "com/example/earmark_ledger/earmarkledger/protocol/ApiKey")) :: ws) ({ frames := 0, cells := 0, slots := 0, locals := 0 } : Room)) (fun a U => a = #[(.int p1)] ∧ Z.Warmed39 U.vm ∧ U.heap = h0) (fun _ _ _ _ _ => True) (fun _ U o U' => ∃ v L, o = .returned v ∧ own_Q1 Z p1 w10 w11 w12 w13 w14 w15 w16 w17 w18 w19 w20 w21 w22 h0 n0 v U'.heap L ∧ FrameEnd U o U' L ({ frames := 0, cells := 0, slots := 0, locals := 0 } : Room).cells ({ frames := 0, cells := 0, slots := 0, locals := 0 } : Room).slots) := by
  refine own_body (plainFor_of_name pn_1) (fun m => own_ef1 m p1) ?_
  intro p e s m below meth c T0 X0 hx hby hml hZ hown hnm hret hlk e0
  have hown : s.vm.findClass "com/example/earmark_ledger/earmarkledger/protocol/ApiKeySupportsPinLaw" = some m.cls := hown
  have hnm : meth.name = "pick" := hnm
  have N0 := Fr.nil n0
  refine own_st (mkF m 1 #[iv p1] [(.int p1)]) (fun t k => XS.iloadN X0.here hx rfl (hb hby d1_0) rfl k) ?_
  by_cases hc1 : p1 = (0 : Int32)
  · refine own_st (mkF m 4 #[iv p1] []) (fun t k => XS.ifNo X0.here hx rfl (hb hby d1_1) rfl ((if0 _ _).trans (teq hc1).2) k) ?_
    obtain ⟨T2, X2, e2, st2⟩ := getS2 X0 hx hZ hown (host := "") (Or.inl (hw_5 hw)) Via.refl e0 (S_w10.ext O0.2) (g := (mkF m 4 #[iv p1] [])) rfl (hb hby d1_4)
    refine own_step (g' := (mkF m 7 #[iv p1] [(.ref w10)])) st2 ?_
    refine own_ret X2 hlk (v := some (.ref w10)) (fun h => by rw [hret] at h; cases h) (fun fs hr => X2.areturnOut hx (w := (.ref w10)) rfl hret rfl (hb hby d1_7) hr) ?_ (by decide) (by decide)
    show own_Q1 Z p1 w10 w11 w12 w13 w14 w15 w16 w17 w18 w19 w20 w21 w22 h0 n0 _ T2.heap _
    rw [e2]
    exact ⟨congrArg (fun z => some (Value.ref z)) (by simp [own_key, hc1] : w10 = own_key p1 w10 w11 w12 w13 w14 w15 w16 w17 w18 w19 w20 w21 w22), N0, rfl⟩
  · refine own_st (mkF m 8 #[iv p1] []) (fun t k => XS.ifYes X0.here hx rfl (pc0 := 1) (pc' := 8) rfl (hb hby d1_1) rfl ((if0 _ _).trans (feq hc1).2) (by decide) (by decide) k) ?_
    refine own_st (mkF m 9 #[iv p1] [(.int p1)]) (fun t k => XS.iloadN X0.here hx rfl (hb hby d1_8) rfl k) ?_
    refine own_st (mkF m 10 #[iv p1] [(.int (1 : Int32)), (.int p1)]) (fun t k => XS.iconst X0.here hx rfl (hb hby d1_9) k) ?_
    by_cases hc3 : p1 = (1 : Int32)
    · refine own_st (mkF m 13 #[iv p1] []) (fun t k => XS.icmpNo X0.here hx rfl (hb hby d1_10) rfl (teq hc3).2 k) ?_
      obtain ⟨T4, X4, e4, st4⟩ := getS2 X0 hx hZ hown (host := "") (Or.inl (hw_20 hw)) Via.refl e0 (S_w11.ext O0.2) (g := (mkF m 13 #[iv p1] [])) rfl (hb hby d1_13)
      refine own_step (g' := (mkF m 16 #[iv p1] [(.ref w11)])) st4 ?_
      refine own_ret X4 hlk (v := some (.ref w11)) (fun h => by rw [hret] at h; cases h) (fun fs hr => X4.areturnOut hx (w := (.ref w11)) rfl hret rfl (hb hby d1_16) hr) ?_ (by decide) (by decide)
      show own_Q1 Z p1 w10 w11 w12 w13 w14 w15 w16 w17 w18 w19 w20 w21 w22 h0 n0 _ T4.heap _
      rw [e4]
      exact ⟨congrArg (fun z => some (Value.ref z)) (by simp [own_key, hc1, hc3] : w11 = own_key p1 w10 w11 w12 w13 w14 w15 w16 w17 w18 w19 w20 w21 w22), N0, rfl⟩
    · refine own_st (mkF m 17 #[iv p1] []) (fun t k => XS.icmpYes X0.here hx rfl (pc0 := 10) (pc' := 17) rfl (hb hby d1_10) rfl (feq hc3).2 (by decide) (by decide) k) ?_
      refine own_st (mkF m 18 #[iv p1] [(.int p1)]) (fun t k => XS.iloadN X0.here hx rfl (hb hby d1_17) rfl k) ?_
      refine own_st (mkF m 19 #[iv p1] [(.int (2 : Int32)), (.int p1)]) (fun t k => XS.iconst X0.here hx rfl (hb hby d1_18) k) ?_
      by_cases hc5 : p1 = (2 : Int32)
      · refine own_st (mkF m 22 #[iv p1] []) (fun t k => XS.icmpNo X0.here hx rfl (hb hby d1_19) rfl (teq hc5).2 k) ?_
        obtain ⟨T6, X6, e6, st6⟩ := getS2 X0 hx hZ hown (host := "") (Or.inl (hw_38 hw)) Via.refl e0 (S_w12.ext O0.2) (g := (mkF m 22 #[iv p1] [])) rfl (hb hby d1_22)
        refine own_step (g' := (mkF m 25 #[iv p1] [(.ref w12)])) st6 ?_
        refine own_ret X6 hlk (v := some (.ref w12)) (fun h => by rw [hret] at h; cases h) (fun fs hr => X6.areturnOut hx (w := (.ref w12)) rfl hret rfl (hb hby d1_25) hr) ?_ (by decide) (by decide)
        show own_Q1 Z p1 w10 w11 w12 w13 w14 w15 w16 w17 w18 w19 w20 w21 w22 h0 n0 _ T6.heap _
        rw [e6]
        exact ⟨congrArg (fun z => some (Value.ref z)) (by simp [own_key, hc1, hc3, hc5] : w12 = own_key p1 w10 w11 w12 w13 w14 w15 w16 w17 w18 w19 w20 w21 w22), N0, rfl⟩
      · refine own_st (mkF m 26 #[iv p1] []) (fun t k => XS.icmpYes X0.here hx rfl (pc0 := 19) (pc' := 26) rfl (hb hby d1_19) rfl (feq hc5).2 (by decide) (by decide) k) ?_
        refine own_st (mkF m 27 #[iv p1] [(.int p1)]) (fun t k => XS.iloadN X0.here hx rfl (hb hby d1_26) rfl k) ?_
        refine own_st (mkF m 28 #[iv p1] [(.int (3 : Int32)), (.int p1)]) (fun t k => XS.iconst X0.here hx rfl (hb hby d1_27) k) ?_
        by_cases hc7 : p1 = (3 : Int32)
        · refine own_st (mkF m 31 #[iv p1] []) (fun t k => XS.icmpNo X0.here hx rfl (hb hby d1_28) rfl (teq hc7).2 k) ?_
          obtain ⟨T8, X8, e8, st8⟩ := getS2 X0 hx hZ hown (host := "") (Or.inl (hw_30 hw)) Via.refl e0 (S_w13.ext O0.2) (g := (mkF m 31 #[iv p1] [])) rfl (hb hby d1_31)
          refine own_step (g' := (mkF m 34 #[iv p1] [(.ref w13)])) st8 ?_
          refine own_ret X8 hlk (v := some (.ref w13)) (fun h => by rw [hret] at h; cases h) (fun fs hr => X8.areturnOut hx (w := (.ref w13)) rfl hret rfl (hb hby d1_34) hr) ?_ (by decide) (by decide)
          show own_Q1 Z p1 w10 w11 w12 w13 w14 w15 w16 w17 w18 w19 w20 w21 w22 h0 n0 _ T8.heap _
          rw [e8]
          exact ⟨congrArg (fun z => some (Value.ref z)) (by simp [own_key, hc1, hc3, hc5, hc7] : w13 = own_key p1 w10 w11 w12 w13 w14 w15 w16 w17 w18 w19 w20 w21 w22), N0, rfl⟩
        · refine own_st (mkF m 35 #[iv p1] []) (fun t k => XS.icmpYes X0.here hx rfl (pc0 := 28) (pc' := 35) rfl (hb hby d1_28) rfl (feq hc7).2 (by decide) (by decide) k) ?_
          refine own_st (mkF m 36 #[iv p1] [(.int p1)]) (fun t k => XS.iloadN X0.here hx rfl (hb hby d1_35) rfl k) ?_
          refine own_st (mkF m 37 #[iv p1] [(.int (4 : Int32)), (.int p1)]) (fun t k => XS.iconst X0.here hx rfl (hb hby d1_36) k) ?_
          by_cases hc9 : p1 = (4 : Int32)
          · refine own_st (mkF m 40 #[iv p1] []) (fun t k => XS.icmpNo X0.here hx rfl (hb hby d1_37) rfl (teq hc9).2 k) ?_
            obtain ⟨T10, X10, e10, st10⟩ := getS2 X0 hx hZ hown (host := "") (Or.inl (hw_34 hw)) Via.refl e0 (S_w14.ext O0.2) (g := (mkF m 40 #[iv p1] [])) rfl (hb hby d1_40)
            refine own_step (g' := (mkF m 43 #[iv p1] [(.ref w14)])) st10 ?_
            refine own_ret X10 hlk (v := some (.ref w14)) (fun h => by rw [hret] at h; cases h) (fun fs hr => X10.areturnOut hx (w := (.ref w14)) rfl hret rfl (hb hby d1_43) hr) ?_ (by decide) (by decide)
            show own_Q1 Z p1 w10 w11 w12 w13 w14 w15 w16 w17 w18 w19 w20 w21 w22 h0 n0 _ T10.heap _
            rw [e10]
            exact ⟨congrArg (fun z => some (Value.ref z)) (by simp [own_key, hc1, hc3, hc5, hc7, hc9] : w14 = own_key p1 w10 w11 w12 w13 w14 w15 w16 w17 w18 w19 w20 w21 w22), N0, rfl⟩
          · refine own_st (mkF m 44 #[iv p1] []) (fun t k => XS.icmpYes X0.here hx rfl (pc0 := 37) (pc' := 44) rfl (hb hby d1_37) rfl (feq hc9).2 (by decide) (by decide) k) ?_
            refine own_st (mkF m 45 #[iv p1] [(.int p1)]) (fun t k => XS.iloadN X0.here hx rfl (hb hby d1_44) rfl k) ?_
            refine own_st (mkF m 46 #[iv p1] [(.int (5 : Int32)), (.int p1)]) (fun t k => XS.iconst X0.here hx rfl (hb hby d1_45) k) ?_
            by_cases hc11 : p1 = (5 : Int32)
            · refine own_st (mkF m 49 #[iv p1] []) (fun t k => XS.icmpNo X0.here hx rfl (hb hby d1_46) rfl (teq hc11).2 k) ?_
              obtain ⟨T12, X12, e12, st12⟩ := getS2 X0 hx hZ hown (host := "") (Or.inl (hw_36 hw)) Via.refl e0 (S_w15.ext O0.2) (g := (mkF m 49 #[iv p1] [])) rfl (hb hby d1_49)
              refine own_step (g' := (mkF m 52 #[iv p1] [(.ref w15)])) st12 ?_
              refine own_ret X12 hlk (v := some (.ref w15)) (fun h => by rw [hret] at h; cases h) (fun fs hr => X12.areturnOut hx (w := (.ref w15)) rfl hret rfl (hb hby d1_52) hr) ?_ (by decide) (by decide)
              show own_Q1 Z p1 w10 w11 w12 w13 w14 w15 w16 w17 w18 w19 w20 w21 w22 h0 n0 _ T12.heap _
              rw [e12]
              exact ⟨congrArg (fun z => some (Value.ref z)) (by simp [own_key, hc1, hc3, hc5, hc7, hc9, hc11] : w15 = own_key p1 w10 w11 w12 w13 w14 w15 w16 w17 w18 w19 w20 w21 w22), N0, rfl⟩
            · refine own_st (mkF m 53 #[iv p1] []) (fun t k => XS.icmpYes X0.here hx rfl (pc0 := 46) (pc' := 53) rfl (hb hby d1_46) rfl (feq hc11).2 (by decide) (by decide) k) ?_
              refine own_st (mkF m 54 #[iv p1] [(.int p1)]) (fun t k => XS.iloadN X0.here hx rfl (hb hby d1_53) rfl k) ?_
              refine own_st (mkF m 56 #[iv p1] [(.int (6 : Int32)), (.int p1)]) (fun t k => XS.bipush X0.here hx rfl (hb hby d1_54) k) ?_
              by_cases hc13 : p1 = (6 : Int32)
              · refine own_st (mkF m 59 #[iv p1] []) (fun t k => XS.icmpNo X0.here hx rfl (hb hby d1_56) rfl (teq hc13).2 k) ?_
                obtain ⟨T14, X14, e14, st14⟩ := getS2 X0 hx hZ hown (host := "") (Or.inl (hw_40 hw)) Via.refl e0 (S_w16.ext O0.2) (g := (mkF m 59 #[iv p1] [])) rfl (hb hby d1_59)
                refine own_step (g' := (mkF m 62 #[iv p1] [(.ref w16)])) st14 ?_
                refine own_ret X14 hlk (v := some (.ref w16)) (fun h => by rw [hret] at h; cases h) (fun fs hr => X14.areturnOut hx (w := (.ref w16)) rfl hret rfl (hb hby d1_62) hr) ?_ (by decide) (by decide)
                show own_Q1 Z p1 w10 w11 w12 w13 w14 w15 w16 w17 w18 w19 w20 w21 w22 h0 n0 _ T14.heap _
                rw [e14]
                exact ⟨congrArg (fun z => some (Value.ref z)) (by simp [own_key, hc1, hc3, hc5, hc7, hc9, hc11, hc13] : w16 = own_key p1 w10 w11 w12 w13 w14 w15 w16 w17 w18 w19 w20 w21 w22), N0, rfl⟩
              · refine own_st (mkF m 63 #[iv p1] []) (fun t k => XS.icmpYes X0.here hx rfl (pc0 := 56) (pc' := 63) rfl (hb hby d1_56) rfl (feq hc13).2 (by decide) (by decide) k) ?_
                refine own_st (mkF m 64 #[iv p1] [(.int p1)]) (fun t k => XS.iloadN X0.here hx rfl (hb hby d1_63) rfl k) ?_
                refine own_st (mkF m 66 #[iv p1] [(.int (7 : Int32)), (.int p1)]) (fun t k => XS.bipush X0.here hx rfl (hb hby d1_64) k) ?_
                by_cases hc15 : p1 = (7 : Int32)
                · refine own_st (mkF m 69 #[iv p1] []) (fun t k => XS.icmpNo X0.here hx rfl (hb hby d1_66) rfl (teq hc15).2 k) ?_
                  obtain ⟨T16, X16, e16, st16⟩ := getS2 X0 hx hZ hown (host := "") (Or.inl (hw_24 hw)) Via.refl e0 (S_w17.ext O0.2) (g := (mkF m 69 #[iv p1] [])) rfl (hb hby d1_69)
                  refine own_step (g' := (mkF m 72 #[iv p1] [(.ref w17)])) st16 ?_
                  refine own_ret X16 hlk (v := some (.ref w17)) (fun h => by rw [hret] at h; cases h) (fun fs hr => X16.areturnOut hx (w := (.ref w17)) rfl hret rfl (hb hby d1_72) hr) ?_ (by decide) (by decide)
                  show own_Q1 Z p1 w10 w11 w12 w13 w14 w15 w16 w17 w18 w19 w20 w21 w22 h0 n0 _ T16.heap _
                  rw [e16]
                  exact ⟨congrArg (fun z => some (Value.ref z)) (by simp [own_key, hc1, hc3, hc5, hc7, hc9, hc11, hc13, hc15] : w17 = own_key p1 w10 w11 w12 w13 w14 w15 w16 w17 w18 w19 w20 w21 w22), N0, rfl⟩
                · refine own_st (mkF m 73 #[iv p1] []) (fun t k => XS.icmpYes X0.here hx rfl (pc0 := 66) (pc' := 73) rfl (hb hby d1_66) rfl (feq hc15).2 (by decide) (by decide) k) ?_
                  refine own_st (mkF m 74 #[iv p1] [(.int p1)]) (fun t k => XS.iloadN X0.here hx rfl (hb hby d1_73) rfl k) ?_
                  refine own_st (mkF m 76 #[iv p1] [(.int (8 : Int32)), (.int p1)]) (fun t k => XS.bipush X0.here hx rfl (hb hby d1_74) k) ?_
                  by_cases hc17 : p1 = (8 : Int32)
                  · refine own_st (mkF m 79 #[iv p1] []) (fun t k => XS.icmpNo X0.here hx rfl (hb hby d1_76) rfl (teq hc17).2 k) ?_
                    obtain ⟨T18, X18, e18, st18⟩ := getS2 X0 hx hZ hown (host := "") (Or.inl (hw_22 hw)) Via.refl e0 (S_w18.ext O0.2) (g := (mkF m 79 #[iv p1] [])) rfl (hb hby d1_79)
                    refine own_step (g' := (mkF m 82 #[iv p1] [(.ref w18)])) st18 ?_
                    refine own_ret X18 hlk (v := some (.ref w18)) (fun h => by rw [hret] at h; cases h) (fun fs hr => X18.areturnOut hx (w := (.ref w18)) rfl hret rfl (hb hby d1_82) hr) ?_ (by decide) (by decide)
                    show own_Q1 Z p1 w10 w11 w12 w13 w14 w15 w16 w17 w18 w19 w20 w21 w22 h0 n0 _ T18.heap _
                    rw [e18]
                    exact ⟨congrArg (fun z => some (Value.ref z)) (by simp [own_key, hc1, hc3, hc5, hc7, hc9, hc11, hc13, hc15, hc17] : w18 = own_key p1 w10 w11 w12 w13 w14 w15 w16 w17 w18 w19 w20 w21 w22), N0, rfl⟩
                  · refine own_st (mkF m 83 #[iv p1] []) (fun t k => XS.icmpYes X0.here hx rfl (pc0 := 76) (pc' := 83) rfl (hb hby d1_76) rfl (feq hc17).2 (by decide) (by decide) k) ?_
                    refine own_st (mkF m 84 #[iv p1] [(.int p1)]) (fun t k => XS.iloadN X0.here hx rfl (hb hby d1_83) rfl k) ?_
                    refine own_st (mkF m 86 #[iv p1] [(.int (9 : Int32)), (.int p1)]) (fun t k => XS.bipush X0.here hx rfl (hb hby d1_84) k) ?_
                    by_cases hc19 : p1 = (9 : Int32)
                    · refine own_st (mkF m 89 #[iv p1] []) (fun t k => XS.icmpNo X0.here hx rfl (hb hby d1_86) rfl (teq hc19).2 k) ?_
                      obtain ⟨T20, X20, e20, st20⟩ := getS2 X0 hx hZ hown (host := "") (Or.inl (hw_42 hw)) Via.refl e0 (S_w19.ext O0.2) (g := (mkF m 89 #[iv p1] [])) rfl (hb hby d1_89)
                      refine own_step (g' := (mkF m 92 #[iv p1] [(.ref w19)])) st20 ?_
                      refine own_ret X20 hlk (v := some (.ref w19)) (fun h => by rw [hret] at h; cases h) (fun fs hr => X20.areturnOut hx (w := (.ref w19)) rfl hret rfl (hb hby d1_92) hr) ?_ (by decide) (by decide)
                      show own_Q1 Z p1 w10 w11 w12 w13 w14 w15 w16 w17 w18 w19 w20 w21 w22 h0 n0 _ T20.heap _
                      rw [e20]
                      exact ⟨congrArg (fun z => some (Value.ref z)) (by simp [own_key, hc1, hc3, hc5, hc7, hc9, hc11, hc13, hc15, hc17, hc19] : w19 = own_key p1 w10 w11 w12 w13 w14 w15 w16 w17 w18 w19 w20 w21 w22), N0, rfl⟩
                    · refine own_st (mkF m 93 #[iv p1] []) (fun t k => XS.icmpYes X0.here hx rfl (pc0 := 86) (pc' := 93) rfl (hb hby d1_86) rfl (feq hc19).2 (by decide) (by decide) k) ?_
                      refine own_st (mkF m 94 #[iv p1] [(.int p1)]) (fun t k => XS.iloadN X0.here hx rfl (hb hby d1_93) rfl k) ?_
                      refine own_st (mkF m 96 #[iv p1] [(.int (10 : Int32)), (.int p1)]) (fun t k => XS.bipush X0.here hx rfl (hb hby d1_94) k) ?_
                      by_cases hc21 : p1 = (10 : Int32)
                      · refine own_st (mkF m 99 #[iv p1] []) (fun t k => XS.icmpNo X0.here hx rfl (hb hby d1_96) rfl (teq hc21).2 k) ?_
                        obtain ⟨T22, X22, e22, st22⟩ := getS2 X0 hx hZ hown (host := "") (Or.inl (hw_26 hw)) Via.refl e0 (S_w20.ext O0.2) (g := (mkF m 99 #[iv p1] [])) rfl (hb hby d1_99)
                        refine own_step (g' := (mkF m 102 #[iv p1] [(.ref w20)])) st22 ?_
                        refine own_ret X22 hlk (v := some (.ref w20)) (fun h => by rw [hret] at h; cases h) (fun fs hr => X22.areturnOut hx (w := (.ref w20)) rfl hret rfl (hb hby d1_102) hr) ?_ (by decide) (by decide)
                        show own_Q1 Z p1 w10 w11 w12 w13 w14 w15 w16 w17 w18 w19 w20 w21 w22 h0 n0 _ T22.heap _
                        rw [e22]
                        exact ⟨congrArg (fun z => some (Value.ref z)) (by simp [own_key, hc1, hc3, hc5, hc7, hc9, hc11, hc13, hc15, hc17, hc19, hc21] : w20 = own_key p1 w10 w11 w12 w13 w14 w15 w16 w17 w18 w19 w20 w21 w22), N0, rfl⟩
                      · refine own_st (mkF m 103 #[iv p1] []) (fun t k => XS.icmpYes X0.here hx rfl (pc0 := 96) (pc' := 103) rfl (hb hby d1_96) rfl (feq hc21).2 (by decide) (by decide) k) ?_
                        refine own_st (mkF m 104 #[iv p1] [(.int p1)]) (fun t k => XS.iloadN X0.here hx rfl (hb hby d1_103) rfl k) ?_
                        refine own_st (mkF m 106 #[iv p1] [(.int (11 : Int32)), (.int p1)]) (fun t k => XS.bipush X0.here hx rfl (hb hby d1_104) k) ?_
                        by_cases hc23 : p1 = (11 : Int32)
                        · refine own_st (mkF m 109 #[iv p1] []) (fun t k => XS.icmpNo X0.here hx rfl (hb hby d1_106) rfl (teq hc23).2 k) ?_
                          obtain ⟨T24, X24, e24, st24⟩ := getS2 X0 hx hZ hown (host := "") (Or.inl (hw_28 hw)) Via.refl e0 (S_w21.ext O0.2) (g := (mkF m 109 #[iv p1] [])) rfl (hb hby d1_109)
                          refine own_step (g' := (mkF m 112 #[iv p1] [(.ref w21)])) st24 ?_
                          refine own_ret X24 hlk (v := some (.ref w21)) (fun h => by rw [hret] at h; cases h) (fun fs hr => X24.areturnOut hx (w := (.ref w21)) rfl hret rfl (hb hby d1_112) hr) ?_ (by decide) (by decide)
                          show own_Q1 Z p1 w10 w11 w12 w13 w14 w15 w16 w17 w18 w19 w20 w21 w22 h0 n0 _ T24.heap _
                          rw [e24]
                          exact ⟨congrArg (fun z => some (Value.ref z)) (by simp [own_key, hc1, hc3, hc5, hc7, hc9, hc11, hc13, hc15, hc17, hc19, hc21, hc23] : w21 = own_key p1 w10 w11 w12 w13 w14 w15 w16 w17 w18 w19 w20 w21 w22), N0, rfl⟩
                        · refine own_st (mkF m 113 #[iv p1] []) (fun t k => XS.icmpYes X0.here hx rfl (pc0 := 106) (pc' := 113) rfl (hb hby d1_106) rfl (feq hc23).2 (by decide) (by decide) k) ?_
                          obtain ⟨T25, X25, e25, st25⟩ := getS2 X0 hx hZ hown (host := "") (Or.inl (hw_32 hw)) Via.refl e0 (S_w22.ext O0.2) (g := (mkF m 113 #[iv p1] [])) rfl (hb hby d1_113)
                          refine own_step (g' := (mkF m 116 #[iv p1] [(.ref w22)])) st25 ?_
                          refine own_ret X25 hlk (v := some (.ref w22)) (fun h => by rw [hret] at h; cases h) (fun fs hr => X25.areturnOut hx (w := (.ref w22)) rfl hret rfl (hb hby d1_116) hr) ?_ (by decide) (by decide)
                          show own_Q1 Z p1 w10 w11 w12 w13 w14 w15 w16 w17 w18 w19 w20 w21 w22 h0 n0 _ T25.heap _
                          rw [e25]
                          exact ⟨congrArg (fun z => some (Value.ref z)) (by simp [own_key, hc1, hc3, hc5, hc7, hc9, hc11, hc13, hc15, hc17, hc19, hc21, hc23] : w22 = own_key p1 w10 w11 w12 w13 w14 w15 w16 w17 w18 w19 w20 w21 w22), N0, rfl⟩
theorem d2_0 : decode method_3_code 0 = .ok (.iload_n 0, 1) := by decide +kernel
theorem d2_1 : decode method_3_code 1 = .ok (.ifCond .ne 5, 3) := by decide +kernel
theorem d2_4 : decode method_3_code 4 = .ok (.iconst 2, 1) := by decide +kernel
theorem d2_5 : decode method_3_code 5 = .ok (.ireturn, 1) := by decide +kernel
theorem d2_6 : decode method_3_code 6 = .ok (.iload_n 0, 1) := by decide +kernel
theorem d2_7 : decode method_3_code 7 = .ok (.iconst 1, 1) := by decide +kernel
theorem d2_8 : decode method_3_code 8 = .ok (.if_icmp .ne 5, 3) := by decide +kernel
theorem d2_11 : decode method_3_code 11 = .ok (.iconst 3, 1) := by decide +kernel
theorem d2_12 : decode method_3_code 12 = .ok (.ireturn, 1) := by decide +kernel
theorem d2_13 : decode method_3_code 13 = .ok (.iload_n 0, 1) := by decide +kernel
theorem d2_14 : decode method_3_code 14 = .ok (.iconst 2, 1) := by decide +kernel
theorem d2_15 : decode method_3_code 15 = .ok (.if_icmp .ne 5, 3) := by decide +kernel
theorem d2_18 : decode method_3_code 18 = .ok (.iconst 1, 1) := by decide +kernel
theorem d2_19 : decode method_3_code 19 = .ok (.ireturn, 1) := by decide +kernel
theorem d2_20 : decode method_3_code 20 = .ok (.iload_n 0, 1) := by decide +kernel
theorem d2_21 : decode method_3_code 21 = .ok (.iconst 3, 1) := by decide +kernel
theorem d2_22 : decode method_3_code 22 = .ok (.if_icmp .ne 5, 3) := by decide +kernel
theorem d2_25 : decode method_3_code 25 = .ok (.iconst 2, 1) := by decide +kernel
theorem d2_26 : decode method_3_code 26 = .ok (.ireturn, 1) := by decide +kernel
theorem d2_27 : decode method_3_code 27 = .ok (.iload_n 0, 1) := by decide +kernel
theorem d2_28 : decode method_3_code 28 = .ok (.iconst 4, 1) := by decide +kernel
theorem d2_29 : decode method_3_code 29 = .ok (.if_icmp .ne 5, 3) := by decide +kernel
theorem d2_32 : decode method_3_code 32 = .ok (.iconst 2, 1) := by decide +kernel
theorem d2_33 : decode method_3_code 33 = .ok (.ireturn, 1) := by decide +kernel
theorem d2_34 : decode method_3_code 34 = .ok (.iload_n 0, 1) := by decide +kernel
theorem d2_35 : decode method_3_code 35 = .ok (.iconst 5, 1) := by decide +kernel
theorem d2_36 : decode method_3_code 36 = .ok (.if_icmp .ne 5, 3) := by decide +kernel
theorem d2_39 : decode method_3_code 39 = .ok (.iconst 1, 1) := by decide +kernel
theorem d2_40 : decode method_3_code 40 = .ok (.ireturn, 1) := by decide +kernel
theorem d2_41 : decode method_3_code 41 = .ok (.iload_n 0, 1) := by decide +kernel
theorem d2_42 : decode method_3_code 42 = .ok (.bipush 6, 2) := by decide +kernel
theorem d2_44 : decode method_3_code 44 = .ok (.if_icmp .ne 5, 3) := by decide +kernel
theorem d2_47 : decode method_3_code 47 = .ok (.iconst 0, 1) := by decide +kernel
theorem d2_48 : decode method_3_code 48 = .ok (.ireturn, 1) := by decide +kernel
theorem d2_49 : decode method_3_code 49 = .ok (.iload_n 0, 1) := by decide +kernel
theorem d2_50 : decode method_3_code 50 = .ok (.bipush 7, 2) := by decide +kernel
theorem d2_52 : decode method_3_code 52 = .ok (.if_icmp .ne 5, 3) := by decide +kernel
theorem d2_55 : decode method_3_code 55 = .ok (.iconst 1, 1) := by decide +kernel
theorem d2_56 : decode method_3_code 56 = .ok (.ireturn, 1) := by decide +kernel
theorem d2_57 : decode method_3_code 57 = .ok (.iload_n 0, 1) := by decide +kernel
theorem d2_58 : decode method_3_code 58 = .ok (.bipush 8, 2) := by decide +kernel
theorem d2_60 : decode method_3_code 60 = .ok (.if_icmp .ne 5, 3) := by decide +kernel
theorem d2_63 : decode method_3_code 63 = .ok (.iconst 0, 1) := by decide +kernel
theorem d2_64 : decode method_3_code 64 = .ok (.ireturn, 1) := by decide +kernel
theorem d2_65 : decode method_3_code 65 = .ok (.iload_n 0, 1) := by decide +kernel
theorem d2_66 : decode method_3_code 66 = .ok (.bipush 9, 2) := by decide +kernel
theorem d2_68 : decode method_3_code 68 = .ok (.if_icmp .ne 5, 3) := by decide +kernel
theorem d2_71 : decode method_3_code 71 = .ok (.iconst 0, 1) := by decide +kernel
theorem d2_72 : decode method_3_code 72 = .ok (.ireturn, 1) := by decide +kernel
theorem d2_73 : decode method_3_code 73 = .ok (.iload_n 0, 1) := by decide +kernel
theorem d2_74 : decode method_3_code 74 = .ok (.bipush 10, 2) := by decide +kernel
theorem d2_76 : decode method_3_code 76 = .ok (.if_icmp .ne 5, 3) := by decide +kernel
theorem d2_79 : decode method_3_code 79 = .ok (.iconst 0, 1) := by decide +kernel
theorem d2_80 : decode method_3_code 80 = .ok (.ireturn, 1) := by decide +kernel
theorem d2_81 : decode method_3_code 81 = .ok (.iload_n 0, 1) := by decide +kernel
theorem d2_82 : decode method_3_code 82 = .ok (.bipush 11, 2) := by decide +kernel
theorem d2_84 : decode method_3_code 84 = .ok (.if_icmp .ne 5, 3) := by decide +kernel
theorem d2_87 : decode method_3_code 87 = .ok (.iconst 3, 1) := by decide +kernel
theorem d2_88 : decode method_3_code 88 = .ok (.ireturn, 1) := by decide +kernel
theorem d2_89 : decode method_3_code 89 = .ok (.iconst 0, 1) := by decide +kernel
theorem d2_90 : decode method_3_code 90 = .ok (.ireturn, 1) := by decide +kernel
theorem own_ef2 (m : MethodId) (p1 : Int32) : entryFrame m #[(.int p1)] 1 = mkF m 0 #[iv p1] [] := by first | (simp [entryFrame, mkF, argsToLocals, Value.category]; done) | rfl
def own_Q2 (Z : State) (p1 : Int32) (h0 : Heap) (n0 : Nat) (v : Option Value) (h : Heap) (L : List Loc) : Prop := v = some (.int (own_mx p1)) ∧ Fr n0 L ∧ h = h0
set_option maxRecDepth 65536 in
set_option maxHeartbeats 40000000 in
theorem own_rm2 (l : Launch) (Z : State) (a0 : Array Value) (hw : ∀ d ∈ tables_1, d.before a0 Z = true) (ws : List Jvm.Cond) (p1 : Int32) (h0 : Heap) (n0 : Nat) (Z0 : n0 ≤ h0.size) :
    MetFree l (⟨"com/example/earmark_ledger/earmarkledger/protocol/ApiKeySupportsPinLaw", "maxOf", "(I)I"⟩ : MethodName) (head1 (Jvm.Cond.code (⟨"com/example/earmark_ledger/earmarkledger/protocol/ApiKeySupportsPinLaw", "maxOf", "(I)I"⟩ : MethodName) method_3_code 1 (some .int) :: ws) ({ frames := 0, cells := 0, slots := 0, locals := 0 } : Room)) (fun a U => a = #[(.int p1)] ∧ Z.Warmed39 U.vm ∧ U.heap = h0) (fun _ _ _ _ _ => True) (fun _ U o U' => ∃ v L, o = .returned v ∧ own_Q2 Z p1 h0 n0 v U'.heap L ∧ FrameEnd U o U' L ({ frames := 0, cells := 0, slots := 0, locals := 0 } : Room).cells ({ frames := 0, cells := 0, slots := 0, locals := 0 } : Room).slots) := by
  refine own_body (plainFor_of_name pn_1) (fun m => own_ef2 m p1) ?_
  intro p e s m below meth c T0 X0 hx hby hml hZ hown hnm hret hlk e0
  have hown : s.vm.findClass "com/example/earmark_ledger/earmarkledger/protocol/ApiKeySupportsPinLaw" = some m.cls := hown
  have hnm : meth.name = "maxOf" := hnm
  have N0 := Fr.nil n0
  refine own_st (mkF m 1 #[iv p1] [(.int p1)]) (fun t k => XS.iloadN X0.here hx rfl (hb hby d2_0) rfl k) ?_
  by_cases hc26 : p1 = (0 : Int32)
  · refine own_st (mkF m 4 #[iv p1] []) (fun t k => XS.ifNo X0.here hx rfl (hb hby d2_1) rfl ((if0 _ _).trans (teq hc26).2) k) ?_
    refine own_st (mkF m 5 #[iv p1] [(.int (2 : Int32))]) (fun t k => XS.iconst X0.here hx rfl (hb hby d2_4) k) ?_
    refine own_ret X0 hlk (v := some (.int (2 : Int32))) (fun h => by rw [hret] at h; cases h) (fun fs hr => X0.ireturnOut hx hret rfl (Or.inl rfl) (hb hby d2_5) hr) ?_ (by decide) (by decide)
    show own_Q2 Z p1 h0 n0 _ T0.heap _
    rw [e0]
    exact ⟨congrArg (fun z => some (Value.int z)) (by simp [own_mx, hc26] : (2 : Int32) = own_mx p1), N0, rfl⟩
  · refine own_st (mkF m 6 #[iv p1] []) (fun t k => XS.ifYes X0.here hx rfl (pc0 := 1) (pc' := 6) rfl (hb hby d2_1) rfl ((if0 _ _).trans (feq hc26).2) (by decide) (by decide) k) ?_
    refine own_st (mkF m 7 #[iv p1] [(.int p1)]) (fun t k => XS.iloadN X0.here hx rfl (hb hby d2_6) rfl k) ?_
    refine own_st (mkF m 8 #[iv p1] [(.int (1 : Int32)), (.int p1)]) (fun t k => XS.iconst X0.here hx rfl (hb hby d2_7) k) ?_
    by_cases hc27 : p1 = (1 : Int32)
    · refine own_st (mkF m 11 #[iv p1] []) (fun t k => XS.icmpNo X0.here hx rfl (hb hby d2_8) rfl (teq hc27).2 k) ?_
      refine own_st (mkF m 12 #[iv p1] [(.int (3 : Int32))]) (fun t k => XS.iconst X0.here hx rfl (hb hby d2_11) k) ?_
      refine own_ret X0 hlk (v := some (.int (3 : Int32))) (fun h => by rw [hret] at h; cases h) (fun fs hr => X0.ireturnOut hx hret rfl (Or.inl rfl) (hb hby d2_12) hr) ?_ (by decide) (by decide)
      show own_Q2 Z p1 h0 n0 _ T0.heap _
      rw [e0]
      exact ⟨congrArg (fun z => some (Value.int z)) (by simp [own_mx, hc26, hc27] : (3 : Int32) = own_mx p1), N0, rfl⟩
    · refine own_st (mkF m 13 #[iv p1] []) (fun t k => XS.icmpYes X0.here hx rfl (pc0 := 8) (pc' := 13) rfl (hb hby d2_8) rfl (feq hc27).2 (by decide) (by decide) k) ?_
      refine own_st (mkF m 14 #[iv p1] [(.int p1)]) (fun t k => XS.iloadN X0.here hx rfl (hb hby d2_13) rfl k) ?_
      refine own_st (mkF m 15 #[iv p1] [(.int (2 : Int32)), (.int p1)]) (fun t k => XS.iconst X0.here hx rfl (hb hby d2_14) k) ?_
      by_cases hc28 : p1 = (2 : Int32)
      · refine own_st (mkF m 18 #[iv p1] []) (fun t k => XS.icmpNo X0.here hx rfl (hb hby d2_15) rfl (teq hc28).2 k) ?_
        refine own_st (mkF m 19 #[iv p1] [(.int (1 : Int32))]) (fun t k => XS.iconst X0.here hx rfl (hb hby d2_18) k) ?_
        refine own_ret X0 hlk (v := some (.int (1 : Int32))) (fun h => by rw [hret] at h; cases h) (fun fs hr => X0.ireturnOut hx hret rfl (Or.inl rfl) (hb hby d2_19) hr) ?_ (by decide) (by decide)
        show own_Q2 Z p1 h0 n0 _ T0.heap _
        rw [e0]
        exact ⟨congrArg (fun z => some (Value.int z)) (by simp [own_mx, hc26, hc27, hc28] : (1 : Int32) = own_mx p1), N0, rfl⟩
      · refine own_st (mkF m 20 #[iv p1] []) (fun t k => XS.icmpYes X0.here hx rfl (pc0 := 15) (pc' := 20) rfl (hb hby d2_15) rfl (feq hc28).2 (by decide) (by decide) k) ?_
        refine own_st (mkF m 21 #[iv p1] [(.int p1)]) (fun t k => XS.iloadN X0.here hx rfl (hb hby d2_20) rfl k) ?_
        refine own_st (mkF m 22 #[iv p1] [(.int (3 : Int32)), (.int p1)]) (fun t k => XS.iconst X0.here hx rfl (hb hby d2_21) k) ?_
        by_cases hc29 : p1 = (3 : Int32)
        · refine own_st (mkF m 25 #[iv p1] []) (fun t k => XS.icmpNo X0.here hx rfl (hb hby d2_22) rfl (teq hc29).2 k) ?_
          refine own_st (mkF m 26 #[iv p1] [(.int (2 : Int32))]) (fun t k => XS.iconst X0.here hx rfl (hb hby d2_25) k) ?_
          refine own_ret X0 hlk (v := some (.int (2 : Int32))) (fun h => by rw [hret] at h; cases h) (fun fs hr => X0.ireturnOut hx hret rfl (Or.inl rfl) (hb hby d2_26) hr) ?_ (by decide) (by decide)
          show own_Q2 Z p1 h0 n0 _ T0.heap _
          rw [e0]
          exact ⟨congrArg (fun z => some (Value.int z)) (by simp [own_mx, hc26, hc27, hc28, hc29] : (2 : Int32) = own_mx p1), N0, rfl⟩
        · refine own_st (mkF m 27 #[iv p1] []) (fun t k => XS.icmpYes X0.here hx rfl (pc0 := 22) (pc' := 27) rfl (hb hby d2_22) rfl (feq hc29).2 (by decide) (by decide) k) ?_
          refine own_st (mkF m 28 #[iv p1] [(.int p1)]) (fun t k => XS.iloadN X0.here hx rfl (hb hby d2_27) rfl k) ?_
          refine own_st (mkF m 29 #[iv p1] [(.int (4 : Int32)), (.int p1)]) (fun t k => XS.iconst X0.here hx rfl (hb hby d2_28) k) ?_
          by_cases hc30 : p1 = (4 : Int32)
          · refine own_st (mkF m 32 #[iv p1] []) (fun t k => XS.icmpNo X0.here hx rfl (hb hby d2_29) rfl (teq hc30).2 k) ?_
            refine own_st (mkF m 33 #[iv p1] [(.int (2 : Int32))]) (fun t k => XS.iconst X0.here hx rfl (hb hby d2_32) k) ?_
            refine own_ret X0 hlk (v := some (.int (2 : Int32))) (fun h => by rw [hret] at h; cases h) (fun fs hr => X0.ireturnOut hx hret rfl (Or.inl rfl) (hb hby d2_33) hr) ?_ (by decide) (by decide)
            show own_Q2 Z p1 h0 n0 _ T0.heap _
            rw [e0]
            exact ⟨congrArg (fun z => some (Value.int z)) (by simp [own_mx, hc26, hc27, hc28, hc29, hc30] : (2 : Int32) = own_mx p1), N0, rfl⟩
          · refine own_st (mkF m 34 #[iv p1] []) (fun t k => XS.icmpYes X0.here hx rfl (pc0 := 29) (pc' := 34) rfl (hb hby d2_29) rfl (feq hc30).2 (by decide) (by decide) k) ?_
            refine own_st (mkF m 35 #[iv p1] [(.int p1)]) (fun t k => XS.iloadN X0.here hx rfl (hb hby d2_34) rfl k) ?_
            refine own_st (mkF m 36 #[iv p1] [(.int (5 : Int32)), (.int p1)]) (fun t k => XS.iconst X0.here hx rfl (hb hby d2_35) k) ?_
            by_cases hc31 : p1 = (5 : Int32)
            · refine own_st (mkF m 39 #[iv p1] []) (fun t k => XS.icmpNo X0.here hx rfl (hb hby d2_36) rfl (teq hc31).2 k) ?_
              refine own_st (mkF m 40 #[iv p1] [(.int (1 : Int32))]) (fun t k => XS.iconst X0.here hx rfl (hb hby d2_39) k) ?_
              refine own_ret X0 hlk (v := some (.int (1 : Int32))) (fun h => by rw [hret] at h; cases h) (fun fs hr => X0.ireturnOut hx hret rfl (Or.inl rfl) (hb hby d2_40) hr) ?_ (by decide) (by decide)
              show own_Q2 Z p1 h0 n0 _ T0.heap _
              rw [e0]
              exact ⟨congrArg (fun z => some (Value.int z)) (by simp [own_mx, hc26, hc27, hc28, hc29, hc30, hc31] : (1 : Int32) = own_mx p1), N0, rfl⟩
            · refine own_st (mkF m 41 #[iv p1] []) (fun t k => XS.icmpYes X0.here hx rfl (pc0 := 36) (pc' := 41) rfl (hb hby d2_36) rfl (feq hc31).2 (by decide) (by decide) k) ?_
              refine own_st (mkF m 42 #[iv p1] [(.int p1)]) (fun t k => XS.iloadN X0.here hx rfl (hb hby d2_41) rfl k) ?_
              refine own_st (mkF m 44 #[iv p1] [(.int (6 : Int32)), (.int p1)]) (fun t k => XS.bipush X0.here hx rfl (hb hby d2_42) k) ?_
              by_cases hc32 : p1 = (6 : Int32)
              · refine own_st (mkF m 47 #[iv p1] []) (fun t k => XS.icmpNo X0.here hx rfl (hb hby d2_44) rfl (teq hc32).2 k) ?_
                refine own_st (mkF m 48 #[iv p1] [(.int (0 : Int32))]) (fun t k => XS.iconst X0.here hx rfl (hb hby d2_47) k) ?_
                refine own_ret X0 hlk (v := some (.int (0 : Int32))) (fun h => by rw [hret] at h; cases h) (fun fs hr => X0.ireturnOut hx hret rfl (Or.inl rfl) (hb hby d2_48) hr) ?_ (by decide) (by decide)
                show own_Q2 Z p1 h0 n0 _ T0.heap _
                rw [e0]
                exact ⟨congrArg (fun z => some (Value.int z)) (by simp [own_mx, hc26, hc27, hc28, hc29, hc30, hc31, hc32] : (0 : Int32) = own_mx p1), N0, rfl⟩
              · refine own_st (mkF m 49 #[iv p1] []) (fun t k => XS.icmpYes X0.here hx rfl (pc0 := 44) (pc' := 49) rfl (hb hby d2_44) rfl (feq hc32).2 (by decide) (by decide) k) ?_
                refine own_st (mkF m 50 #[iv p1] [(.int p1)]) (fun t k => XS.iloadN X0.here hx rfl (hb hby d2_49) rfl k) ?_
                refine own_st (mkF m 52 #[iv p1] [(.int (7 : Int32)), (.int p1)]) (fun t k => XS.bipush X0.here hx rfl (hb hby d2_50) k) ?_
                by_cases hc33 : p1 = (7 : Int32)
                · refine own_st (mkF m 55 #[iv p1] []) (fun t k => XS.icmpNo X0.here hx rfl (hb hby d2_52) rfl (teq hc33).2 k) ?_
                  refine own_st (mkF m 56 #[iv p1] [(.int (1 : Int32))]) (fun t k => XS.iconst X0.here hx rfl (hb hby d2_55) k) ?_
                  refine own_ret X0 hlk (v := some (.int (1 : Int32))) (fun h => by rw [hret] at h; cases h) (fun fs hr => X0.ireturnOut hx hret rfl (Or.inl rfl) (hb hby d2_56) hr) ?_ (by decide) (by decide)
                  show own_Q2 Z p1 h0 n0 _ T0.heap _
                  rw [e0]
                  exact ⟨congrArg (fun z => some (Value.int z)) (by simp [own_mx, hc26, hc27, hc28, hc29, hc30, hc31, hc32, hc33] : (1 : Int32) = own_mx p1), N0, rfl⟩
                · refine own_st (mkF m 57 #[iv p1] []) (fun t k => XS.icmpYes X0.here hx rfl (pc0 := 52) (pc' := 57) rfl (hb hby d2_52) rfl (feq hc33).2 (by decide) (by decide) k) ?_
                  refine own_st (mkF m 58 #[iv p1] [(.int p1)]) (fun t k => XS.iloadN X0.here hx rfl (hb hby d2_57) rfl k) ?_
                  refine own_st (mkF m 60 #[iv p1] [(.int (8 : Int32)), (.int p1)]) (fun t k => XS.bipush X0.here hx rfl (hb hby d2_58) k) ?_
                  by_cases hc34 : p1 = (8 : Int32)
                  · refine own_st (mkF m 63 #[iv p1] []) (fun t k => XS.icmpNo X0.here hx rfl (hb hby d2_60) rfl (teq hc34).2 k) ?_
                    refine own_st (mkF m 64 #[iv p1] [(.int (0 : Int32))]) (fun t k => XS.iconst X0.here hx rfl (hb hby d2_63) k) ?_
                    refine own_ret X0 hlk (v := some (.int (0 : Int32))) (fun h => by rw [hret] at h; cases h) (fun fs hr => X0.ireturnOut hx hret rfl (Or.inl rfl) (hb hby d2_64) hr) ?_ (by decide) (by decide)
                    show own_Q2 Z p1 h0 n0 _ T0.heap _
                    rw [e0]
                    exact ⟨congrArg (fun z => some (Value.int z)) (by simp [own_mx, hc26, hc27, hc28, hc29, hc30, hc31, hc32, hc33, hc34] : (0 : Int32) = own_mx p1), N0, rfl⟩
                  · refine own_st (mkF m 65 #[iv p1] []) (fun t k => XS.icmpYes X0.here hx rfl (pc0 := 60) (pc' := 65) rfl (hb hby d2_60) rfl (feq hc34).2 (by decide) (by decide) k) ?_
                    refine own_st (mkF m 66 #[iv p1] [(.int p1)]) (fun t k => XS.iloadN X0.here hx rfl (hb hby d2_65) rfl k) ?_
                    refine own_st (mkF m 68 #[iv p1] [(.int (9 : Int32)), (.int p1)]) (fun t k => XS.bipush X0.here hx rfl (hb hby d2_66) k) ?_
                    by_cases hc35 : p1 = (9 : Int32)
                    · refine own_st (mkF m 71 #[iv p1] []) (fun t k => XS.icmpNo X0.here hx rfl (hb hby d2_68) rfl (teq hc35).2 k) ?_
                      refine own_st (mkF m 72 #[iv p1] [(.int (0 : Int32))]) (fun t k => XS.iconst X0.here hx rfl (hb hby d2_71) k) ?_
                      refine own_ret X0 hlk (v := some (.int (0 : Int32))) (fun h => by rw [hret] at h; cases h) (fun fs hr => X0.ireturnOut hx hret rfl (Or.inl rfl) (hb hby d2_72) hr) ?_ (by decide) (by decide)
                      show own_Q2 Z p1 h0 n0 _ T0.heap _
                      rw [e0]
                      exact ⟨congrArg (fun z => some (Value.int z)) (by simp [own_mx, hc26, hc27, hc28, hc29, hc30, hc31, hc32, hc33, hc34, hc35] : (0 : Int32) = own_mx p1), N0, rfl⟩
                    · refine own_st (mkF m 73 #[iv p1] []) (fun t k => XS.icmpYes X0.here hx rfl (pc0 := 68) (pc' := 73) rfl (hb hby d2_68) rfl (feq hc35).2 (by decide) (by decide) k) ?_
                      refine own_st (mkF m 74 #[iv p1] [(.int p1)]) (fun t k => XS.iloadN X0.here hx rfl (hb hby d2_73) rfl k) ?_
                      refine own_st (mkF m 76 #[iv p1] [(.int (10 : Int32)), (.int p1)]) (fun t k => XS.bipush X0.here hx rfl (hb hby d2_74) k) ?_
                      by_cases hc36 : p1 = (10 : Int32)
                      · refine own_st (mkF m 79 #[iv p1] []) (fun t k => XS.icmpNo X0.here hx rfl (hb hby d2_76) rfl (teq hc36).2 k) ?_
                        refine own_st (mkF m 80 #[iv p1] [(.int (0 : Int32))]) (fun t k => XS.iconst X0.here hx rfl (hb hby d2_79) k) ?_
                        refine own_ret X0 hlk (v := some (.int (0 : Int32))) (fun h => by rw [hret] at h; cases h) (fun fs hr => X0.ireturnOut hx hret rfl (Or.inl rfl) (hb hby d2_80) hr) ?_ (by decide) (by decide)
                        show own_Q2 Z p1 h0 n0 _ T0.heap _
                        rw [e0]
                        exact ⟨congrArg (fun z => some (Value.int z)) (by simp [own_mx, hc26, hc27, hc28, hc29, hc30, hc31, hc32, hc33, hc34, hc35, hc36] : (0 : Int32) = own_mx p1), N0, rfl⟩
                      · refine own_st (mkF m 81 #[iv p1] []) (fun t k => XS.icmpYes X0.here hx rfl (pc0 := 76) (pc' := 81) rfl (hb hby d2_76) rfl (feq hc36).2 (by decide) (by decide) k) ?_
                        refine own_st (mkF m 82 #[iv p1] [(.int p1)]) (fun t k => XS.iloadN X0.here hx rfl (hb hby d2_81) rfl k) ?_
                        refine own_st (mkF m 84 #[iv p1] [(.int (11 : Int32)), (.int p1)]) (fun t k => XS.bipush X0.here hx rfl (hb hby d2_82) k) ?_
                        by_cases hc37 : p1 = (11 : Int32)
                        · refine own_st (mkF m 87 #[iv p1] []) (fun t k => XS.icmpNo X0.here hx rfl (hb hby d2_84) rfl (teq hc37).2 k) ?_
                          refine own_st (mkF m 88 #[iv p1] [(.int (3 : Int32))]) (fun t k => XS.iconst X0.here hx rfl (hb hby d2_87) k) ?_
                          refine own_ret X0 hlk (v := some (.int (3 : Int32))) (fun h => by rw [hret] at h; cases h) (fun fs hr => X0.ireturnOut hx hret rfl (Or.inl rfl) (hb hby d2_88) hr) ?_ (by decide) (by decide)
                          show own_Q2 Z p1 h0 n0 _ T0.heap _
                          rw [e0]
                          exact ⟨congrArg (fun z => some (Value.int z)) (by simp [own_mx, hc26, hc27, hc28, hc29, hc30, hc31, hc32, hc33, hc34, hc35, hc36, hc37] : (3 : Int32) = own_mx p1), N0, rfl⟩
                        · refine own_st (mkF m 89 #[iv p1] []) (fun t k => XS.icmpYes X0.here hx rfl (pc0 := 84) (pc' := 89) rfl (hb hby d2_84) rfl (feq hc37).2 (by decide) (by decide) k) ?_
                          refine own_st (mkF m 90 #[iv p1] [(.int (0 : Int32))]) (fun t k => XS.iconst X0.here hx rfl (hb hby d2_89) k) ?_
                          refine own_ret X0 hlk (v := some (.int (0 : Int32))) (fun h => by rw [hret] at h; cases h) (fun fs hr => X0.ireturnOut hx hret rfl (Or.inl rfl) (hb hby d2_90) hr) ?_ (by decide) (by decide)
                          show own_Q2 Z p1 h0 n0 _ T0.heap _
                          rw [e0]
                          exact ⟨congrArg (fun z => some (Value.int z)) (by simp [own_mx, hc26, hc27, hc28, hc29, hc30, hc31, hc32, hc33, hc34, hc35, hc36, hc37] : (0 : Int32) = own_mx p1), N0, rfl⟩
theorem d3_0 : decode prog_25_method_7_code 0 = .ok (.iload_n 1, 1) := by decide +kernel
theorem d3_1 : decode prog_25_method_7_code 1 = .ok (.aload_n 0, 1) := by decide +kernel
theorem d3_2 : decode prog_25_method_7_code 2 = .ok (.getfield 66, 3) := by decide +kernel
theorem hw_16 {a0 : Array Value} {Z : State} (hw : ∀ d ∈ tables_1, d.before a0 Z = true) : (Jvm.Cond.fieldLink "com/example/earmark_ledger/earmarkledger/protocol/ApiKey" (66 : Nat) "com/example/earmark_ledger/earmarkledger/protocol/ApiKey" "minVersion" "S").before a0 Z = true := hw _ (List.mem_of_getElem? (i := 16) rfl)
theorem d3_5 : decode prog_25_method_7_code 5 = .ok (.if_icmp .lt 15, 3) := by decide +kernel
theorem d3_20 : decode prog_25_method_7_code 20 = .ok (.iconst 0, 1) := by decide +kernel
theorem d3_21 : decode prog_25_method_7_code 21 = .ok (.ireturn, 1) := by decide +kernel
theorem d3_8 : decode prog_25_method_7_code 8 = .ok (.iload_n 1, 1) := by decide +kernel
theorem d3_9 : decode prog_25_method_7_code 9 = .ok (.aload_n 0, 1) := by decide +kernel
theorem d3_10 : decode prog_25_method_7_code 10 = .ok (.getfield 69, 3) := by decide +kernel
theorem hw_18 {a0 : Array Value} {Z : State} (hw : ∀ d ∈ tables_1, d.before a0 Z = true) : (Jvm.Cond.fieldLink "com/example/earmark_ledger/earmarkledger/protocol/ApiKey" (69 : Nat) "com/example/earmark_ledger/earmarkledger/protocol/ApiKey" "maxVersion" "S").before a0 Z = true := hw _ (List.mem_of_getElem? (i := 18) rfl)
theorem d3_13 : decode prog_25_method_7_code 13 = .ok (.if_icmp .gt 7, 3) := by decide +kernel
theorem d3_16 : decode prog_25_method_7_code 16 = .ok (.iconst 1, 1) := by decide +kernel
theorem d3_17 : decode prog_25_method_7_code 17 = .ok (.goto 4, 3) := by decide +kernel
theorem pn_3 : plainName "com/example/earmark_ledger/earmarkledger/protocol/ApiKey" = true := by first | (simp [plainName, overriddenIn]; done) | decide +kernel
theorem own_ef3 (m : MethodId) (a1 : Addr) (p2 : Int32) : entryFrame m #[(.ref a1), (.int p2)] 2 = mkF m 0 #[rv a1, iv p2] [] := by first | (simp [entryFrame, mkF, argsToLocals, Value.category]; done) | rfl
def own_Q3 (Z : State) (a1 : Addr) (p2 : Int32) (f3 : Int32) (f4 : Int32) (h0 : Heap) (n0 : Nat) (v : Option Value) (h : Heap) (L : List Loc) : Prop := v = some (.int (own_sup p2 f3 f4)) ∧ Fr n0 L ∧ h = h0
set_option maxRecDepth 65536 in
set_option maxHeartbeats 40000000 in
theorem own_rm3 (l : Launch) (Z : State) (a0 : Array Value) (hw : ∀ d ∈ tables_1, d.before a0 Z = true) (ws : List Jvm.Cond) (a1 : Addr) (p2 : Int32) (f3 : Int32) (f4 : Int32) (h0 : Heap) (n0 : Nat) (Z0 : n0 ≤ h0.size) (F3 : Fld Z h0 a1 "com/example/earmark_ledger/earmarkledger/protocol/ApiKey" "minVersion" "S" (.int f3)) (F4 : Fld Z h0 a1 "com/example/earmark_ledger/earmarkledger/protocol/ApiKey" "maxVersion" "S" (.int f4)) :
    MetFree l (⟨"com/example/earmark_ledger/earmarkledger/protocol/ApiKey", "supports", "(S)Z"⟩ : MethodName) (head1 (Jvm.Cond.code (⟨"com/example/earmark_ledger/earmarkledger/protocol/ApiKey", "supports", "(S)Z"⟩ : MethodName) prog_25_method_7_code 2 (some .boolean) :: ws) ({ frames := 0, cells := 0, slots := 0, locals := 0 } : Room)) (fun a U => a = #[(.ref a1), (.int p2)] ∧ Z.Warmed39 U.vm ∧ U.heap = h0) (fun _ _ _ _ _ => True) (fun _ U o U' => ∃ v L, o = .returned v ∧ own_Q3 Z a1 p2 f3 f4 h0 n0 v U'.heap L ∧ FrameEnd U o U' L ({ frames := 0, cells := 0, slots := 0, locals := 0 } : Room).cells ({ frames := 0, cells := 0, slots := 0, locals := 0 } : Room).slots) := by
  refine own_body (plainFor_of_name pn_3) (fun m => own_ef3 m a1 p2) ?_
  intro p e s m below meth c T0 X0 hx hby hml hZ hown hnm hret hlk e0
  have hown : s.vm.findClass "com/example/earmark_ledger/earmarkledger/protocol/ApiKey" = some m.cls := hown
  have hnm : meth.name = "supports" := hnm
  have N0 := Fr.nil n0
  refine own_st (mkF m 1 #[rv a1, iv p2] [(.int p2)]) (fun t k => XS.iloadN X0.here hx rfl (hb hby d3_0) rfl k) ?_
  refine own_st (mkF m 2 #[rv a1, iv p2] [(.ref a1), (.int p2)]) (fun t k => XS.aloadN X0.here hx rfl (hb hby d3_1) rfl rfl k) ?_
  obtain ⟨T38, X38, e38, st38⟩ := getF X0 hx hZ hown (host := "") (Or.inl (hw_16 hw)) Via.refl e0 F3 (g := (mkF m 2 #[rv a1, iv p2] [(.ref a1), (.int p2)])) rfl rfl (hb hby d3_2)
  refine own_step (g' := (mkF m 5 #[rv a1, iv p2] [(.int f3), (.int p2)])) st38 ?_
  by_cases hc39 : p2 < f3
  · refine own_st (mkF m 20 #[rv a1, iv p2] []) (fun t k => XS.icmpYes X38.here hx rfl (pc0 := 5) (pc' := 20) rfl (hb hby d3_5) rfl (tlt hc39).1 (by decide) (by decide) k) ?_
    refine own_st (mkF m 21 #[rv a1, iv p2] [(.int (0 : Int32))]) (fun t k => XS.iconst X38.here hx rfl (hb hby d3_20) k) ?_
    refine own_ret X38 hlk (v := some (.int (0 : Int32))) (fun h => by rw [hret] at h; cases h) (fun fs hr => retN X38 hx (t := .boolean) hret (by simp) (hb hby d3_21) hr) ?_ (by decide) (by decide)
    show own_Q3 Z a1 p2 f3 f4 h0 n0 _ T38.heap _
    rw [e38]
    exact ⟨congrArg (fun z => some (Value.int z)) (by simp [own_sup, hc39] : (0 : Int32) = own_sup p2 f3 f4), N0, rfl⟩
  · refine own_st (mkF m 8 #[rv a1, iv p2] []) (fun t k => XS.icmpNo X38.here hx rfl (hb hby d3_5) rfl (flt hc39).1 k) ?_
    refine own_st (mkF m 9 #[rv a1, iv p2] [(.int p2)]) (fun t k => XS.iloadN X38.here hx rfl (hb hby d3_8) rfl k) ?_
    refine own_st (mkF m 10 #[rv a1, iv p2] [(.ref a1), (.int p2)]) (fun t k => XS.aloadN X38.here hx rfl (hb hby d3_9) rfl rfl k) ?_
    obtain ⟨T40, X40, e40, st40⟩ := getF X38 hx hZ hown (host := "") (Or.inl (hw_18 hw)) Via.refl e38 F4 (g := (mkF m 10 #[rv a1, iv p2] [(.ref a1), (.int p2)])) rfl rfl (hb hby d3_10)
    refine own_step (g' := (mkF m 13 #[rv a1, iv p2] [(.int f4), (.int p2)])) st40 ?_
    by_cases hc41 : f4 < p2
    · refine own_st (mkF m 20 #[rv a1, iv p2] []) (fun t k => XS.icmpYes X40.here hx rfl (pc0 := 13) (pc' := 20) rfl (hb hby d3_13) rfl (tlt hc41).2.2.1 (by decide) (by decide) k) ?_
      refine own_st (mkF m 21 #[rv a1, iv p2] [(.int (0 : Int32))]) (fun t k => XS.iconst X40.here hx rfl (hb hby d3_20) k) ?_
      refine own_ret X40 hlk (v := some (.int (0 : Int32))) (fun h => by rw [hret] at h; cases h) (fun fs hr => retN X40 hx (t := .boolean) hret (by simp) (hb hby d3_21) hr) ?_ (by decide) (by decide)
      show own_Q3 Z a1 p2 f3 f4 h0 n0 _ T40.heap _
      rw [e40]
      exact ⟨congrArg (fun z => some (Value.int z)) (by simp [own_sup, hc39, hc41] : (0 : Int32) = own_sup p2 f3 f4), N0, rfl⟩
    · refine own_st (mkF m 16 #[rv a1, iv p2] []) (fun t k => XS.icmpNo X40.here hx rfl (hb hby d3_13) rfl (flt hc41).2.2.1 k) ?_
      refine own_st (mkF m 17 #[rv a1, iv p2] [(.int (1 : Int32))]) (fun t k => XS.iconst X40.here hx rfl (hb hby d3_16) k) ?_
      refine own_st (mkF m 21 #[rv a1, iv p2] [(.int (1 : Int32))]) (fun t k => XS.goto X40.here hx rfl (pc0 := 17) (pc' := 21) rfl (hb hby d3_17) (by decide) (by decide) k) ?_
      refine own_ret X40 hlk (v := some (.int (1 : Int32))) (fun h => by rw [hret] at h; cases h) (fun fs hr => retN X40 hx (t := .boolean) hret (by simp) (hb hby d3_21) hr) ?_ (by decide) (by decide)
      show own_Q3 Z a1 p2 f3 f4 h0 n0 _ T40.heap _
      rw [e40]
      exact ⟨congrArg (fun z => some (Value.int z)) (by simp [own_sup, hc39, hc41] : (1 : Int32) = own_sup p2 f3 f4), N0, rfl⟩
theorem hw_0 {a0 : Array Value} {Z : State} (hw : ∀ d ∈ tables_1, d.before a0 Z = true) : (Jvm.Cond.constant "com/example/earmark_ledger/earmarkledger/protocol/ApiKeySupportsPinLaw" (49 : Nat) (2147483647 : Int32)).before a0 Z = true := hw _ (List.mem_of_getElem? (i := 0) rfl)
theorem hw_1 {a0 : Array Value} {Z : State} (hw : ∀ d ∈ tables_1, d.before a0 Z = true) : (Jvm.Cond.methodLink "com/example/earmark_ledger/earmarkledger/protocol/ApiKeySupportsPinLaw" (50 : Nat) ({ cls := "com/example/earmark_ledger/earmarkledger/protocol/ApiKeySupportsPinLaw", name := "pick", desc := "(I)Lcom/example/earmark_ledger/earmarkledger/protocol/ApiKey;" } : Jvm.MethodName)).before a0 Z = true := hw _ (List.mem_of_getElem? (i := 1) rfl)
theorem hw_4 {a0 : Array Value} {Z : State} (hw : ∀ d ∈ tables_1, d.before a0 Z = true) : (Jvm.Cond.code ({ cls := "com/example/earmark_ledger/earmarkledger/protocol/ApiKeySupportsPinLaw", name := "pick", desc := "(I)Lcom/example/earmark_ledger/earmarkledger/protocol/ApiKey;" } : Jvm.MethodName) method_2_code (1 : Nat) (Option.some (Jvm.ClassFile.FieldType.object "com/example/earmark_ledger/earmarkledger/protocol/ApiKey"))).before a0 Z = true := hw _ (List.mem_of_getElem? (i := 4) rfl)
theorem hw_3 {a0 : Array Value} {Z : State} (hw : ∀ d ∈ tables_1, d.before a0 Z = true) : (Jvm.Cond.initialized "com/example/earmark_ledger/earmarkledger/protocol/ApiKeySupportsPinLaw").before a0 Z = true := hw _ (List.mem_of_getElem? (i := 3) rfl)
theorem pd_0 : parseMethodDescriptor "(I)Lcom/example/earmark_ledger/earmarkledger/protocol/ApiKey;" = some ⟨[.int], some (.object "com/example/earmark_ledger/earmarkledger/protocol/ApiKey")⟩ := by decide +kernel
theorem hw_2 {a0 : Array Value} {Z : State} (hw : ∀ d ∈ tables_1, d.before a0 Z = true) : (Jvm.Cond.static ({ cls := "com/example/earmark_ledger/earmarkledger/protocol/ApiKeySupportsPinLaw", name := "pick", desc := "(I)Lcom/example/earmark_ledger/earmarkledger/protocol/ApiKey;" } : Jvm.MethodName)).before a0 Z = true := hw _ (List.mem_of_getElem? (i := 2) rfl)
theorem hw_11 {a0 : Array Value} {Z : State} (hw : ∀ d ∈ tables_1, d.before a0 Z = true) : (Jvm.Cond.methodLink "com/example/earmark_ledger/earmarkledger/protocol/ApiKeySupportsPinLaw" (60 : Nat) ({ cls := "com/example/earmark_ledger/earmarkledger/protocol/ApiKey", name := "supports", desc := "(S)Z" } : Jvm.MethodName)).before a0 Z = true := hw _ (List.mem_of_getElem? (i := 11) rfl)
theorem hw_15 {a0 : Array Value} {Z : State} (hw : ∀ d ∈ tables_1, d.before a0 Z = true) : (Jvm.Cond.code ({ cls := "com/example/earmark_ledger/earmarkledger/protocol/ApiKey", name := "supports", desc := "(S)Z" } : Jvm.MethodName) prog_25_method_7_code (2 : Nat) (Option.some Jvm.ClassFile.FieldType.boolean)).before a0 Z = true := hw _ (List.mem_of_getElem? (i := 15) rfl)
theorem hw_6 {a0 : Array Value} {Z : State} (hw : ∀ d ∈ tables_1, d.before a0 Z = true) : (Jvm.Cond.initialized "com/example/earmark_ledger/earmarkledger/protocol/ApiKey").before a0 Z = true := hw _ (List.mem_of_getElem? (i := 6) rfl)
theorem pd_1 : parseMethodDescriptor "(S)Z" = some ⟨[.short], some .boolean⟩ := by decide +kernel
theorem hw_14 {a0 : Array Value} {Z : State} (hw : ∀ d ∈ tables_1, d.before a0 Z = true) : (Jvm.Cond.selects "com/example/earmark_ledger/earmarkledger/protocol/ApiKey" ({ cls := "com/example/earmark_ledger/earmarkledger/protocol/ApiKey", name := "supports", desc := "(S)Z" } : Jvm.MethodName) ({ cls := "com/example/earmark_ledger/earmarkledger/protocol/ApiKey", name := "supports", desc := "(S)Z" } : Jvm.MethodName)).before a0 Z = true := hw _ (List.mem_of_getElem? (i := 14) rfl)
theorem hw_12 {a0 : Array Value} {Z : State} (hw : ∀ d ∈ tables_1, d.before a0 Z = true) : (Jvm.Cond.declares ({ cls := "com/example/earmark_ledger/earmarkledger/protocol/ApiKey", name := "supports", desc := "(S)Z" } : Jvm.MethodName)).before a0 Z = true := hw _ (List.mem_of_getElem? (i := 12) rfl)
theorem hw_13 {a0 : Array Value} {Z : State} (hw : ∀ d ∈ tables_1, d.before a0 Z = true) : (Jvm.Cond.instanceMethod ({ cls := "com/example/earmark_ledger/earmarkledger/protocol/ApiKey", name := "supports", desc := "(S)Z" } : Jvm.MethodName)).before a0 Z = true := hw _ (List.mem_of_getElem? (i := 13) rfl)
theorem hw_8 {a0 : Array Value} {Z : State} (hw : ∀ d ∈ tables_1, d.before a0 Z = true) : (Jvm.Cond.methodLink "com/example/earmark_ledger/earmarkledger/protocol/ApiKeySupportsPinLaw" (56 : Nat) ({ cls := "com/example/earmark_ledger/earmarkledger/protocol/ApiKeySupportsPinLaw", name := "maxOf", desc := "(I)I" } : Jvm.MethodName)).before a0 Z = true := hw _ (List.mem_of_getElem? (i := 8) rfl)
theorem hw_10 {a0 : Array Value} {Z : State} (hw : ∀ d ∈ tables_1, d.before a0 Z = true) : (Jvm.Cond.code ({ cls := "com/example/earmark_ledger/earmarkledger/protocol/ApiKeySupportsPinLaw", name := "maxOf", desc := "(I)I" } : Jvm.MethodName) method_3_code (1 : Nat) (Option.some Jvm.ClassFile.FieldType.int)).before a0 Z = true := hw _ (List.mem_of_getElem? (i := 10) rfl)
theorem pd_2 : parseMethodDescriptor "(I)I" = some ⟨[.int], some .int⟩ := by decide +kernel
theorem hw_9 {a0 : Array Value} {Z : State} (hw : ∀ d ∈ tables_1, d.before a0 Z = true) : (Jvm.Cond.static ({ cls := "com/example/earmark_ledger/earmarkledger/protocol/ApiKeySupportsPinLaw", name := "maxOf", desc := "(I)I" } : Jvm.MethodName)).before a0 Z = true := hw _ (List.mem_of_getElem? (i := 9) rfl)
theorem own_ef0 (m : MethodId) (p1 : Int32) (p2 : Int32) (p3 : Int32) : entryFrame m #[(.int p1), (.int p2), (.int p3)] maxLocals = mkF m 0 #[iv p1, iv p2, iv p3, .unset, .unset, .unset, .unset] [] := by first | (simp [entryFrame, mkF, argsToLocals, Value.category, maxLocals]; done) | rfl
def own_Q0 (Z : State) (p1 : Int32) (p2 : Int32) (p3 : Int32) (w10 : Addr) (w11 : Addr) (w12 : Addr) (w13 : Addr) (w14 : Addr) (w15 : Addr) (w16 : Addr) (w17 : Addr) (w18 : Addr) (w19 : Addr) (w20 : Addr) (w21 : Addr) (w22 : Addr) (h0 : Heap) (n0 : Nat) (v : Option Value) (h : Heap) (L : List Loc) : Prop := v = some (.int 1) ∧ Fr n0 L
set_option maxRecDepth 65536 in
set_option maxHeartbeats 40000000 in
theorem own_rm0 (l : Launch) (Z : State) (a0 : Array Value) (hw : ∀ d ∈ tables_1, d.before a0 Z = true) (ws : List Jvm.Cond) (p1 : Int32) (p2 : Int32) (p3 : Int32) (w10 : Addr) (w11 : Addr) (w12 : Addr) (w13 : Addr) (w14 : Addr) (w15 : Addr) (w16 : Addr) (w17 : Addr) (w18 : Addr) (w19 : Addr) (w20 : Addr) (w21 : Addr) (w22 : Addr) (h0 : Heap) (n0 : Nat) (Z0 : n0 ≤ h0.size) (O0 : Old Z n0 h0) (S_w10 : Sta Z Z.heap "com/example/earmark_ledger/earmarkledger/protocol/ApiKey" "PRODUCE" "Lcom/example/earmark_ledger/earmarkledger/protocol/ApiKey;" (.ref w10)) (S_w11 : Sta Z Z.heap "com/example/earmark_ledger/earmarkledger/protocol/ApiKey" "FETCH" "Lcom/example/earmark_ledger/earmarkledger/protocol/ApiKey;" (.ref w11)) (S_w12 : Sta Z Z.heap "com/example/earmark_ledger/earmarkledger/protocol/ApiKey" "LIST_OFFSETS" "Lcom/example/earmark_ledger/earmarkledger/protocol/ApiKey;" (.ref w12)) (S_w13 : Sta Z Z.heap "com/example/earmark_ledger/earmarkledger/protocol/ApiKey" "METADATA" "Lcom/example/earmark_ledger/earmarkledger/protocol/ApiKey;" (.ref w13)) (S_w14 : Sta Z Z.heap "com/example/earmark_ledger/earmarkledger/protocol/ApiKey" "OFFSET_COMMIT" "Lcom/example/earmark_ledger/earmarkledger/protocol/ApiKey;" (.ref w14)) (S_w15 : Sta Z Z.heap "com/example/earmark_ledger/earmarkledger/protocol/ApiKey" "OFFSET_FETCH" "Lcom/example/earmark_ledger/earmarkledger/protocol/ApiKey;" (.ref w15)) (S_w16 : Sta Z Z.heap "com/example/earmark_ledger/earmarkledger/protocol/ApiKey" "FIND_COORDINATOR" "Lcom/example/earmark_ledger/earmarkledger/protocol/ApiKey;" (.ref w16)) (S_w17 : Sta Z Z.heap "com/example/earmark_ledger/earmarkledger/protocol/ApiKey" "JOIN_GROUP" "Lcom/example/earmark_ledger/earmarkledger/protocol/ApiKey;" (.ref w17)) (S_w18 : Sta Z Z.heap "com/example/earmark_ledger/earmarkledger/protocol/ApiKey" "HEARTBEAT" "Lcom/example/earmark_ledger/earmarkledger/protocol/ApiKey;" (.ref w18)) (S_w19 : Sta Z Z.heap "com/example/earmark_ledger/earmarkledger/protocol/ApiKey" "LEAVE_GROUP" "Lcom/example/earmark_ledger/earmarkledger/protocol/ApiKey;" (.ref w19)) (S_w20 : Sta Z Z.heap "com/example/earmark_ledger/earmarkledger/protocol/ApiKey" "SYNC_GROUP" "Lcom/example/earmark_ledger/earmarkledger/protocol/ApiKey;" (.ref w20)) (S_w21 : Sta Z Z.heap "com/example/earmark_ledger/earmarkledger/protocol/ApiKey" "API_VERSIONS" "Lcom/example/earmark_ledger/earmarkledger/protocol/ApiKey;" (.ref w21)) (S_w22 : Sta Z Z.heap "com/example/earmark_ledger/earmarkledger/protocol/ApiKey" "CREATE_TOPICS" "Lcom/example/earmark_ledger/earmarkledger/protocol/ApiKey;" (.ref w22)) (E_w10 : Exa Z Z.heap w10 "com/example/earmark_ledger/earmarkledger/protocol/ApiKey") (E_w11 : Exa Z Z.heap w11 "com/example/earmark_ledger/earmarkledger/protocol/ApiKey") (E_w12 : Exa Z Z.heap w12 "com/example/earmark_ledger/earmarkledger/protocol/ApiKey") (E_w13 : Exa Z Z.heap w13 "com/example/earmark_ledger/earmarkledger/protocol/ApiKey") (E_w14 : Exa Z Z.heap w14 "com/example/earmark_ledger/earmarkledger/protocol/ApiKey") (E_w15 : Exa Z Z.heap w15 "com/example/earmark_ledger/earmarkledger/protocol/ApiKey") (E_w16 : Exa Z Z.heap w16 "com/example/earmark_ledger/earmarkledger/protocol/ApiKey") (E_w17 : Exa Z Z.heap w17 "com/example/earmark_ledger/earmarkledger/protocol/ApiKey") (E_w18 : Exa Z Z.heap w18 "com/example/earmark_ledger/earmarkledger/protocol/ApiKey") (E_w19 : Exa Z Z.heap w19 "com/example/earmark_ledger/earmarkledger/protocol/ApiKey") (E_w20 : Exa Z Z.heap w20 "com/example/earmark_ledger/earmarkledger/protocol/ApiKey") (E_w21 : Exa Z Z.heap w21 "com/example/earmark_ledger/earmarkledger/protocol/ApiKey") (E_w22 : Exa Z Z.heap w22 "com/example/earmark_ledger/earmarkledger/protocol/ApiKey") (A_w10 : Fld Z Z.heap w10 "com/example/earmark_ledger/earmarkledger/protocol/ApiKey" "minVersion" "S" (.int (0 : Int32))) (A_w11 : Fld Z Z.heap w11 "com/example/earmark_ledger/earmarkledger/protocol/ApiKey" "minVersion" "S" (.int (0 : Int32))) (A_w12 : Fld Z Z.heap w12 "com/example/earmark_ledger/earmarkledger/protocol/ApiKey" "minVersion" "S" (.int (0 : Int32))) (A_w13 : Fld Z Z.heap w13 "com/example/earmark_ledger/earmarkledger/protocol/ApiKey" "minVersion" "S" (.int (0 : Int32))) (A_w14 : Fld Z Z.heap w14 "com/example/earmark_ledger/earmarkledger/protocol/ApiKey" "minVersion" "S" (.int (0 : Int32))) (A_w15 : Fld Z Z.heap w15 "com/example/earmark_ledger/earmarkledger/protocol/ApiKey" "minVersion" "S" (.int (0 : Int32))) (A_w16 : Fld Z Z.heap w16 "com/example/earmark_ledger/earmarkledger/protocol/ApiKey" "minVersion" "S" (.int (0 : Int32))) (A_w17 : Fld Z Z.heap w17 "com/example/earmark_ledger/earmarkledger/protocol/ApiKey" "minVersion" "S" (.int (0 : Int32))) (A_w18 : Fld Z Z.heap w18 "com/example/earmark_ledger/earmarkledger/protocol/ApiKey" "minVersion" "S" (.int (0 : Int32))) (A_w19 : Fld Z Z.heap w19 "com/example/earmark_ledger/earmarkledger/protocol/ApiKey" "minVersion" "S" (.int (0 : Int32))) (A_w20 : Fld Z Z.heap w20 "com/example/earmark_ledger/earmarkledger/protocol/ApiKey" "minVersion" "S" (.int (0 : Int32))) (A_w21 : Fld Z Z.heap w21 "com/example/earmark_ledger/earmarkledger/protocol/ApiKey" "minVersion" "S" (.int (0 : Int32))) (A_w22 : Fld Z Z.heap w22 "com/example/earmark_ledger/earmarkledger/protocol/ApiKey" "minVersion" "S" (.int (0 : Int32))) (B_w10 : Fld Z Z.heap w10 "com/example/earmark_ledger/earmarkledger/protocol/ApiKey" "maxVersion" "S" (.int (2 : Int32))) (B_w11 : Fld Z Z.heap w11 "com/example/earmark_ledger/earmarkledger/protocol/ApiKey" "maxVersion" "S" (.int (3 : Int32))) (B_w12 : Fld Z Z.heap w12 "com/example/earmark_ledger/earmarkledger/protocol/ApiKey" "maxVersion" "S" (.int (1 : Int32))) (B_w13 : Fld Z Z.heap w13 "com/example/earmark_ledger/earmarkledger/protocol/ApiKey" "maxVersion" "S" (.int (2 : Int32))) (B_w14 : Fld Z Z.heap w14 "com/example/earmark_ledger/earmarkledger/protocol/ApiKey" "maxVersion" "S" (.int (2 : Int32))) (B_w15 : Fld Z Z.heap w15 "com/example/earmark_ledger/earmarkledger/protocol/ApiKey" "maxVersion" "S" (.int (1 : Int32))) (B_w16 : Fld Z Z.heap w16 "com/example/earmark_ledger/earmarkledger/protocol/ApiKey" "maxVersion" "S" (.int (0 : Int32))) (B_w17 : Fld Z Z.heap w17 "com/example/earmark_ledger/earmarkledger/protocol/ApiKey" "maxVersion" "S" (.int (1 : Int32))) (B_w18 : Fld Z Z.heap w18 "com/example/earmark_ledger/earmarkledger/protocol/ApiKey" "maxVersion" "S" (.int (0 : Int32))) (B_w19 : Fld Z Z.heap w19 "com/example/earmark_ledger/earmarkledger/protocol/ApiKey" "maxVersion" "S" (.int (0 : Int32))) (B_w20 : Fld Z Z.heap w20 "com/example/earmark_ledger/earmarkledger/protocol/ApiKey" "maxVersion" "S" (.int (0 : Int32))) (B_w21 : Fld Z Z.heap w21 "com/example/earmark_ledger/earmarkledger/protocol/ApiKey" "maxVersion" "S" (.int (3 : Int32))) (B_w22 : Fld Z Z.heap w22 "com/example/earmark_ledger/earmarkledger/protocol/ApiKey" "maxVersion" "S" (.int (0 : Int32))) :
    MetFree l x (head1 (Jvm.Cond.code x code maxLocals ret :: ws) room_1) (fun a U => a = #[(.int p1), (.int p2), (.int p3)] ∧ Z.Warmed39 U.vm ∧ U.heap = h0) (fun _ _ _ _ _ => True) (fun _ U o U' => ∃ v L, o = .returned v ∧ own_Q0 Z p1 p2 p3 w10 w11 w12 w13 w14 w15 w16 w17 w18 w19 w20 w21 w22 h0 n0 v U'.heap L ∧ FrameEnd U o U' L 0 0) := by
  refine own_body (plainFor_of_name pn_1) (fun m => own_ef0 m p1 p2 p3) ?_
  intro p e s m below meth c T0 X0 hx hby hml hZ hown hnm hret hlk e0
  have hown : s.vm.findClass "com/example/earmark_ledger/earmarkledger/protocol/ApiKeySupportsPinLaw" = some m.cls := hown
  have hnm : meth.name = "law" := hnm
  have N0 := Fr.nil n0
  refine own_st (mkF m 1 #[iv p1, iv p2, iv p3, .unset, .unset, .unset, .unset] [(.int p1)]) (fun t k => XS.iloadN X0.here hx rfl (hb hby at_0) rfl k) ?_
  refine own_st (mkF m 3 #[iv p1, iv p2, iv p3, .unset, .unset, .unset, .unset] [(.int (2147483647 : Int32)), (.int p1)]) (fun t k => X0.ldcInt hx hown (mvT hZ (hw_0 hw)) (g := (mkF m 1 #[iv p1, iv p2, iv p3, .unset, .unset, .unset, .unset] [(.int p1)])) rfl (hb hby at_1) _ k) ?_
  refine own_st (mkF m 4 #[iv p1, iv p2, iv p3, .unset, .unset, .unset, .unset] [(.int (p1 &&& (2147483647 : Int32)))]) (fun t k => XS.iand X0.here hx rfl (hb hby at_3) rfl k) ?_
  refine own_st (mkF m 6 #[iv p1, iv p2, iv p3, .unset, .unset, .unset, .unset] [(.int (13 : Int32)), (.int (p1 &&& (2147483647 : Int32)))]) (fun t k => XS.bipush X0.here hx rfl (hb hby at_4) k) ?_
  refine own_st (mkF m 7 #[iv p1, iv p2, iv p3, .unset, .unset, .unset, .unset] [(.int ((p1 &&& (2147483647 : Int32)) % (13 : Int32)))]) (fun t k => iremM X0 hx rfl (hb hby at_6) rfl (by decide) k) ?_
  refine own_st (mkF m 8 #[iv p1, iv p2, iv p3, iv ((p1 &&& (2147483647 : Int32)) % (13 : Int32)), .unset, .unset, .unset] []) (fun t k => XS.istoreN X0.here hx rfl (hb hby at_7) rfl (l' := #[iv p1, iv p2, iv p3, iv ((p1 &&& (2147483647 : Int32)) % (13 : Int32)), .unset, .unset, .unset]) rfl k) ?_
  obtain ⟨ix, h_ix⟩ : ∃ z, z = ((p1 &&& (2147483647 : Int32)) % (13 : Int32)) := ⟨_, rfl⟩
  rw [← h_ix]
  have J30 : ∀ (ve : Int32), own_WP p e below s (own_Q0 Z p1 p2 p3 w10 w11 w12 w13 w14 w15 w16 w17 w18 w19 w20 w21 w22 h0 n0) 0 0 T0 (mkF m 30 #[iv p1, iv p2, iv p3, iv ix, iv ve, .unset, .unset] []) := by
    intro ve
    refine own_st (mkF m 31 #[iv p1, iv p2, iv p3, iv ix, iv ve, .unset, .unset] [(.int ix)]) (fun t k => XS.iloadN X0.here hx rfl (hb hby at_30) rfl k) ?_
    obtain ⟨_, _, ⟨T42, L42, k42, n42⟩, -, X42, ⟨Lc42, hQ42, l42, y42, z42⟩, st42⟩ := Jvm.LawKit.callS X0 hx (y := (⟨"com/example/earmark_ledger/earmarkledger/protocol/ApiKeySupportsPinLaw", "pick", "(I)Lcom/example/earmark_ledger/earmarkledger/protocol/ApiKey;"⟩ : MethodName)) hown (mvT hZ (hw_1 hw)) (mvT hZ (hw_2 hw)) (mvT hZ (hw_3 hw)) (mvT hZ (hw_4 hw)) (by decide) (backOf (W := 0) (own_rm1 l Z a0 hw [] ix w10 w11 w12 w13 w14 w15 w16 w17 w18 w19 w20 w21 w22 h0 n0 Z0 O0 S_w10 S_w11 S_w12 S_w13 S_w14 S_w15 S_w16 S_w17 S_w18 S_w19 S_w20 S_w21 S_w22) hZ (hw_4 hw) (hw_3 hw) (by decide) (by decide)) (g := (mkF m 31 #[iv p1, iv p2, iv p3, iv ix, iv ve, .unset, .unset] [(.int ix)])) rfl (by rw [hml]; rfl) (argsL := [(.int ix)]) (rest := []) (lenOf pd_0 rfl) rfl (by show 2 * 0 + _ ≤ _; exact Nat.le_of_eq rfl) (hb hby at_31) (fun _ _ => ⟨rfl, e0, (by decide : 0 + 0 ≤ _), (by decide : 0 + 0 ≤ _)⟩)
    dsimp only [Pt.U, Pt.locs, Pt.cells, Pt.slots] at X42 l42 y42 z42 st42 hQ42
    subst l42 y42 z42
    obtain ⟨rfl, Nq42, e42⟩ := hQ42
    have N42 := Fr.app N0 Nq42
    refine own_step (g' := (mkF m 34 #[iv p1, iv p2, iv p3, iv ix, iv ve, .unset, .unset] [(.ref (own_key ix w10 w11 w12 w13 w14 w15 w16 w17 w18 w19 w20 w21 w22))])) st42 ?_
    obtain ⟨ky, h_ky⟩ : ∃ z, z = (own_key ix w10 w11 w12 w13 w14 w15 w16 w17 w18 w19 w20 w21 w22) := ⟨_, rfl⟩
    rw [← h_ky]
    have E_ky : Exa Z h0 ky "com/example/earmark_ledger/earmarkledger/protocol/ApiKey" := by rw [h_ky]; exact own_keys (P := fun k _ => Exa Z h0 k "com/example/earmark_ledger/earmarkledger/protocol/ApiKey") ix w10 w11 w12 w13 w14 w15 w16 w17 w18 w19 w20 w21 w22 (E_w10.ext O0.2) (E_w11.ext O0.2) (E_w12.ext O0.2) (E_w13.ext O0.2) (E_w14.ext O0.2) (E_w15.ext O0.2) (E_w16.ext O0.2) (E_w17.ext O0.2) (E_w18.ext O0.2) (E_w19.ext O0.2) (E_w20.ext O0.2) (E_w21.ext O0.2) (E_w22.ext O0.2)
    have A_ky : Fld Z h0 ky "com/example/earmark_ledger/earmarkledger/protocol/ApiKey" "minVersion" "S" (.int (0 : Int32)) := by rw [h_ky]; exact own_keys (P := fun k x => Fld Z h0 k "com/example/earmark_ledger/earmarkledger/protocol/ApiKey" "minVersion" "S" (.int (0 : Int32))) ix w10 w11 w12 w13 w14 w15 w16 w17 w18 w19 w20 w21 w22 (A_w10.ext O0.2) (A_w11.ext O0.2) (A_w12.ext O0.2) (A_w13.ext O0.2) (A_w14.ext O0.2) (A_w15.ext O0.2) (A_w16.ext O0.2) (A_w17.ext O0.2) (A_w18.ext O0.2) (A_w19.ext O0.2) (A_w20.ext O0.2) (A_w21.ext O0.2) (A_w22.ext O0.2)
    have B_ky : Fld Z h0 ky "com/example/earmark_ledger/earmarkledger/protocol/ApiKey" "maxVersion" "S" (.int (own_mx ix)) := by rw [h_ky]; exact own_keys (P := fun k x => Fld Z h0 k "com/example/earmark_ledger/earmarkledger/protocol/ApiKey" "maxVersion" "S" (.int x)) ix w10 w11 w12 w13 w14 w15 w16 w17 w18 w19 w20 w21 w22 (B_w10.ext O0.2) (B_w11.ext O0.2) (B_w12.ext O0.2) (B_w13.ext O0.2) (B_w14.ext O0.2) (B_w15.ext O0.2) (B_w16.ext O0.2) (B_w17.ext O0.2) (B_w18.ext O0.2) (B_w19.ext O0.2) (B_w20.ext O0.2) (B_w21.ext O0.2) (B_w22.ext O0.2)
    refine own_st (mkF m 36 #[iv p1, iv p2, iv p3, iv ix, iv ve, rv ky, .unset] []) (fun t k => XS.astore X42.here hx rfl (hb hby at_34) rfl rfl (l' := #[iv p1, iv p2, iv p3, iv ix, iv ve, rv ky, .unset]) rfl k) ?_
    refine own_st (mkF m 38 #[iv p1, iv p2, iv p3, iv ix, iv ve, rv ky, .unset] [(.int ve)]) (fun t k => XS.iload X42.here hx rfl (hb hby at_36) rfl k) ?_
    by_cases hc43 : ve < (0 : Int32)
    · refine own_st (mkF m 54 #[iv p1, iv p2, iv p3, iv ix, iv ve, rv ky, .unset] []) (fun t k => XS.ifYes X42.here hx rfl (pc0 := 38) (pc' := 54) rfl (hb hby at_38) rfl ((if0 _ _).trans (tlt hc43).1) (by decide) (by decide) k) ?_
      refine own_st (mkF m 55 #[iv p1, iv p2, iv p3, iv ix, iv ve, rv ky, .unset] [(.int (0 : Int32))]) (fun t k => XS.iconst X42.here hx rfl (hb hby at_54) k) ?_
      refine own_st (mkF m 57 #[iv p1, iv p2, iv p3, iv ix, iv ve, rv ky, iv (0 : Int32)] []) (fun t k => XS.istore X42.here hx rfl (hb hby at_55) rfl (l' := #[iv p1, iv p2, iv p3, iv ix, iv ve, rv ky, iv (0 : Int32)]) rfl k) ?_
      refine own_st (mkF m 59 #[iv p1, iv p2, iv p3, iv ix, iv ve, rv ky, iv (0 : Int32)] [(.ref ky)]) (fun t k => XS.aload X42.here hx rfl (hb hby at_57) rfl rfl k) ?_
      refine own_st (mkF m 61 #[iv p1, iv p2, iv p3, iv ix, iv ve, rv ky, iv (0 : Int32)] [(.int ve), (.ref ky)]) (fun t k => XS.iload X42.here hx rfl (hb hby at_59) rfl k) ?_
      obtain ⟨cq44, kq44, q44a, q44b, q44c⟩ := isOf hZ e42 E_ky
      obtain ⟨_, _, ⟨T44, L44, k44, n44⟩, -, X44, ⟨Lc44, hQ44, l44, y44, z44⟩, st44⟩ := X42.virtualBack hx (y := (⟨"com/example/earmark_ledger/earmarkledger/protocol/ApiKey", "supports", "(S)Z"⟩ : MethodName)) (z := (⟨"com/example/earmark_ledger/earmarkledger/protocol/ApiKey", "supports", "(S)Z"⟩ : MethodName)) hown (mvT hZ (hw_11 hw)) (mvT hZ (hw_12 hw)) (notFace_of_selects (args := #[]) (mvT hZ (hw_14 hw))) (mvT hZ (hw_14 hw)) (mvT hZ (hw_13 hw)) (by decide) (backOf (W := 0) (own_rm3 l Z a0 hw [] ky ve (0 : Int32) (own_mx ix) h0 n0 Z0 A_ky B_ky) hZ (hw_15 hw) (hw_6 hw) (by decide) (by decide)) q44a q44c (g := (mkF m 61 #[iv p1, iv p2, iv p3, iv ix, iv ve, rv ky, iv (0 : Int32)] [(.int ve), (.ref ky)])) rfl (by rw [hml]; rfl) (Steps.refl _) (argsL := [(.int ve)]) (rest := []) (lenOf pd_1 rfl) rfl (by show 2 * 0 + _ ≤ _; exact Nat.le_of_eq rfl) (hb hby at_61) (fun _ _ => ⟨rfl, e42, (by decide : 0 + 0 ≤ _), (by decide : 0 + 0 ≤ _)⟩)
      dsimp only [Pt.U, Pt.locs, Pt.cells, Pt.slots] at X44 l44 y44 z44 st44 hQ44
      subst l44 y44 z44
      obtain ⟨rfl, Nq44, e44⟩ := hQ44
      have N44 := Fr.app N42 Nq44
      refine own_jump (g' := (mkF m 64 #[iv p1, iv p2, iv p3, iv ix, iv ve, rv ky, iv (0 : Int32)] [(.int (own_sup ve (0 : Int32) (own_mx ix)))])) st44 ?_
      refine own_st (mkF m 66 #[iv p1, iv p2, iv p3, iv ix, iv ve, rv ky, iv (0 : Int32)] [(.int (0 : Int32)), (.int (own_sup ve (0 : Int32) (own_mx ix)))]) (fun t k => XS.iload X44.here hx rfl (hb hby at_64) rfl k) ?_
      refine own_st (mkF m 69 #[iv p1, iv p2, iv p3, iv ix, iv ve, rv ky, iv (0 : Int32)] []) (fun t k => XS.icmpNo X44.here hx rfl (hb hby at_66) rfl (teq (by simp [own_sup, hc43])).2 k) ?_
      refine own_st (mkF m 70 #[iv p1, iv p2, iv p3, iv ix, iv ve, rv ky, iv (0 : Int32)] [(.int (1 : Int32))]) (fun t k => XS.iconst X44.here hx rfl (hb hby at_69) k) ?_
      refine own_st (mkF m 74 #[iv p1, iv p2, iv p3, iv ix, iv ve, rv ky, iv (0 : Int32)] [(.int (1 : Int32))]) (fun t k => XS.goto X44.here hx rfl (pc0 := 70) (pc' := 74) rfl (hb hby at_70) (by decide) (by decide) k) ?_
      refine own_ret X44 hlk (v := some (.int (1 : Int32))) (fun h => by rw [hret] at h; cases h) (fun fs hr => retN X44 hx (t := .boolean) hret (by simp) (hb hby at_74) hr) ?_ (by decide) (by decide)
      show own_Q0 Z p1 p2 p3 w10 w11 w12 w13 w14 w15 w16 w17 w18 w19 w20 w21 w22 h0 n0 _ T44.heap _
      rw [e44]
      exact ⟨rfl, N44⟩
    · refine own_st (mkF m 41 #[iv p1, iv p2, iv p3, iv ix, iv ve, rv ky, .unset] []) (fun t k => XS.ifNo X42.here hx rfl (hb hby at_38) rfl ((if0 _ _).trans (flt hc43).1) k) ?_
      refine own_st (mkF m 43 #[iv p1, iv p2, iv p3, iv ix, iv ve, rv ky, .unset] [(.int ve)]) (fun t k => XS.iload X42.here hx rfl (hb hby at_41) rfl k) ?_
      refine own_st (mkF m 44 #[iv p1, iv p2, iv p3, iv ix, iv ve, rv ky, .unset] [(.int ix), (.int ve)]) (fun t k => XS.iloadN X42.here hx rfl (hb hby at_43) rfl k) ?_
      obtain ⟨_, _, ⟨T45, L45, k45, n45⟩, -, X45, ⟨Lc45, hQ45, l45, y45, z45⟩, st45⟩ := Jvm.LawKit.callS X42 hx (y := (⟨"com/example/earmark_ledger/earmarkledger/protocol/ApiKeySupportsPinLaw", "maxOf", "(I)I"⟩ : MethodName)) hown (mvT hZ (hw_8 hw)) (mvT hZ (hw_9 hw)) (mvT hZ (hw_3 hw)) (mvT hZ (hw_10 hw)) (by decide) (backOf (W := 1) (own_rm2 l Z a0 hw [] ix h0 n0 Z0) hZ (hw_10 hw) (hw_3 hw) (by decide) (by decide)) (g := (mkF m 44 #[iv p1, iv p2, iv p3, iv ix, iv ve, rv ky, .unset] [(.int ix), (.int ve)])) rfl (by rw [hml]; rfl) (argsL := [(.int ix)]) (rest := [(.int ve)]) (lenOf pd_2 rfl) rfl (by show 2 * 0 + _ ≤ _; exact Nat.le_of_eq rfl) (hb hby at_44) (fun _ _ => ⟨rfl, e42, (by decide : 0 + 0 ≤ _), (by decide : 0 + 0 ≤ _)⟩)
      dsimp only [Pt.U, Pt.locs, Pt.cells, Pt.slots] at X45 l45 y45 z45 st45 hQ45
      subst l45 y45 z45
      obtain ⟨rfl, Nq45, e45⟩ := hQ45
      have N45 := Fr.app N42 Nq45
      refine own_step (g' := (mkF m 47 #[iv p1, iv p2, iv p3, iv ix, iv ve, rv ky, .unset] [(.int (own_mx ix)), (.int ve)])) st45 ?_
      by_cases hc46 : (own_mx ix) < ve
      · refine own_st (mkF m 54 #[iv p1, iv p2, iv p3, iv ix, iv ve, rv ky, .unset] []) (fun t k => XS.icmpYes X45.here hx rfl (pc0 := 47) (pc' := 54) rfl (hb hby at_47) rfl (tlt hc46).2.2.1 (by decide) (by decide) k) ?_
        refine own_st (mkF m 55 #[iv p1, iv p2, iv p3, iv ix, iv ve, rv ky, .unset] [(.int (0 : Int32))]) (fun t k => XS.iconst X45.here hx rfl (hb hby at_54) k) ?_
        refine own_st (mkF m 57 #[iv p1, iv p2, iv p3, iv ix, iv ve, rv ky, iv (0 : Int32)] []) (fun t k => XS.istore X45.here hx rfl (hb hby at_55) rfl (l' := #[iv p1, iv p2, iv p3, iv ix, iv ve, rv ky, iv (0 : Int32)]) rfl k) ?_
        refine own_st (mkF m 59 #[iv p1, iv p2, iv p3, iv ix, iv ve, rv ky, iv (0 : Int32)] [(.ref ky)]) (fun t k => XS.aload X45.here hx rfl (hb hby at_57) rfl rfl k) ?_
        refine own_st (mkF m 61 #[iv p1, iv p2, iv p3, iv ix, iv ve, rv ky, iv (0 : Int32)] [(.int ve), (.ref ky)]) (fun t k => XS.iload X45.here hx rfl (hb hby at_59) rfl k) ?_
        obtain ⟨cq47, kq47, q47a, q47b, q47c⟩ := isOf hZ e45 E_ky
        obtain ⟨_, _, ⟨T47, L47, k47, n47⟩, -, X47, ⟨Lc47, hQ47, l47, y47, z47⟩, st47⟩ := X45.virtualBack hx (y := (⟨"com/example/earmark_ledger/earmarkledger/protocol/ApiKey", "supports", "(S)Z"⟩ : MethodName)) (z := (⟨"com/example/earmark_ledger/earmarkledger/protocol/ApiKey", "supports", "(S)Z"⟩ : MethodName)) hown (mvT hZ (hw_11 hw)) (mvT hZ (hw_12 hw)) (notFace_of_selects (args := #[]) (mvT hZ (hw_14 hw))) (mvT hZ (hw_14 hw)) (mvT hZ (hw_13 hw)) (by decide) (backOf (W := 0) (own_rm3 l Z a0 hw [] ky ve (0 : Int32) (own_mx ix) h0 n0 Z0 A_ky B_ky) hZ (hw_15 hw) (hw_6 hw) (by decide) (by decide)) q47a q47c (g := (mkF m 61 #[iv p1, iv p2, iv p3, iv ix, iv ve, rv ky, iv (0 : Int32)] [(.int ve), (.ref ky)])) rfl (by rw [hml]; rfl) (Steps.refl _) (argsL := [(.int ve)]) (rest := []) (lenOf pd_1 rfl) rfl (by show 2 * 0 + _ ≤ _; exact Nat.le_of_eq rfl) (hb hby at_61) (fun _ _ => ⟨rfl, e45, (by decide : 0 + 0 ≤ _), (by decide : 0 + 0 ≤ _)⟩)
        dsimp only [Pt.U, Pt.locs, Pt.cells, Pt.slots] at X47 l47 y47 z47 st47 hQ47
        subst l47 y47 z47
        obtain ⟨rfl, Nq47, e47⟩ := hQ47
        have N47 := Fr.app N45 Nq47
        refine own_jump (g' := (mkF m 64 #[iv p1, iv p2, iv p3, iv ix, iv ve, rv ky, iv (0 : Int32)] [(.int (own_sup ve (0 : Int32) (own_mx ix)))])) st47 ?_
        refine own_st (mkF m 66 #[iv p1, iv p2, iv p3, iv ix, iv ve, rv ky, iv (0 : Int32)] [(.int (0 : Int32)), (.int (own_sup ve (0 : Int32) (own_mx ix)))]) (fun t k => XS.iload X47.here hx rfl (hb hby at_64) rfl k) ?_
        refine own_st (mkF m 69 #[iv p1, iv p2, iv p3, iv ix, iv ve, rv ky, iv (0 : Int32)] []) (fun t k => XS.icmpNo X47.here hx rfl (hb hby at_66) rfl (teq (by simp [own_sup, hc43, hc46])).2 k) ?_
        refine own_st (mkF m 70 #[iv p1, iv p2, iv p3, iv ix, iv ve, rv ky, iv (0 : Int32)] [(.int (1 : Int32))]) (fun t k => XS.iconst X47.here hx rfl (hb hby at_69) k) ?_
        refine own_st (mkF m 74 #[iv p1, iv p2, iv p3, iv ix, iv ve, rv ky, iv (0 : Int32)] [(.int (1 : Int32))]) (fun t k => XS.goto X47.here hx rfl (pc0 := 70) (pc' := 74) rfl (hb hby at_70) (by decide) (by decide) k) ?_
        refine own_ret X47 hlk (v := some (.int (1 : Int32))) (fun h => by rw [hret] at h; cases h) (fun fs hr => retN X47 hx (t := .boolean) hret (by simp) (hb hby at_74) hr) ?_ (by decide) (by decide)
        show own_Q0 Z p1 p2 p3 w10 w11 w12 w13 w14 w15 w16 w17 w18 w19 w20 w21 w22 h0 n0 _ T47.heap _
        rw [e47]
        exact ⟨rfl, N47⟩
      · refine own_st (mkF m 50 #[iv p1, iv p2, iv p3, iv ix, iv ve, rv ky, .unset] []) (fun t k => XS.icmpNo X45.here hx rfl (hb hby at_47) rfl (flt hc46).2.2.1 k) ?_
        refine own_st (mkF m 51 #[iv p1, iv p2, iv p3, iv ix, iv ve, rv ky, .unset] [(.int (1 : Int32))]) (fun t k => XS.iconst X45.here hx rfl (hb hby at_50) k) ?_
        refine own_st (mkF m 55 #[iv p1, iv p2, iv p3, iv ix, iv ve, rv ky, .unset] [(.int (1 : Int32))]) (fun t k => XS.goto X45.here hx rfl (pc0 := 51) (pc' := 55) rfl (hb hby at_51) (by decide) (by decide) k) ?_
        refine own_st (mkF m 57 #[iv p1, iv p2, iv p3, iv ix, iv ve, rv ky, iv (1 : Int32)] []) (fun t k => XS.istore X45.here hx rfl (hb hby at_55) rfl (l' := #[iv p1, iv p2, iv p3, iv ix, iv ve, rv ky, iv (1 : Int32)]) rfl k) ?_
        refine own_st (mkF m 59 #[iv p1, iv p2, iv p3, iv ix, iv ve, rv ky, iv (1 : Int32)] [(.ref ky)]) (fun t k => XS.aload X45.here hx rfl (hb hby at_57) rfl rfl k) ?_
        refine own_st (mkF m 61 #[iv p1, iv p2, iv p3, iv ix, iv ve, rv ky, iv (1 : Int32)] [(.int ve), (.ref ky)]) (fun t k => XS.iload X45.here hx rfl (hb hby at_59) rfl k) ?_
        obtain ⟨cq48, kq48, q48a, q48b, q48c⟩ := isOf hZ e45 E_ky
        obtain ⟨_, _, ⟨T48, L48, k48, n48⟩, -, X48, ⟨Lc48, hQ48, l48, y48, z48⟩, st48⟩ := X45.virtualBack hx (y := (⟨"com/example/earmark_ledger/earmarkledger/protocol/ApiKey", "supports", "(S)Z"⟩ : MethodName)) (z := (⟨"com/example/earmark_ledger/earmarkledger/protocol/ApiKey", "supports", "(S)Z"⟩ : MethodName)) hown (mvT hZ (hw_11 hw)) (mvT hZ (hw_12 hw)) (notFace_of_selects (args := #[]) (mvT hZ (hw_14 hw))) (mvT hZ (hw_14 hw)) (mvT hZ (hw_13 hw)) (by decide) (backOf (W := 0) (own_rm3 l Z a0 hw [] ky ve (0 : Int32) (own_mx ix) h0 n0 Z0 A_ky B_ky) hZ (hw_15 hw) (hw_6 hw) (by decide) (by decide)) q48a q48c (g := (mkF m 61 #[iv p1, iv p2, iv p3, iv ix, iv ve, rv ky, iv (1 : Int32)] [(.int ve), (.ref ky)])) rfl (by rw [hml]; rfl) (Steps.refl _) (argsL := [(.int ve)]) (rest := []) (lenOf pd_1 rfl) rfl (by show 2 * 0 + _ ≤ _; exact Nat.le_of_eq rfl) (hb hby at_61) (fun _ _ => ⟨rfl, e45, (by decide : 0 + 0 ≤ _), (by decide : 0 + 0 ≤ _)⟩)
        dsimp only [Pt.U, Pt.locs, Pt.cells, Pt.slots] at X48 l48 y48 z48 st48 hQ48
        subst l48 y48 z48
        obtain ⟨rfl, Nq48, e48⟩ := hQ48
        have N48 := Fr.app N45 Nq48
        refine own_jump (g' := (mkF m 64 #[iv p1, iv p2, iv p3, iv ix, iv ve, rv ky, iv (1 : Int32)] [(.int (own_sup ve (0 : Int32) (own_mx ix)))])) st48 ?_
        refine own_st (mkF m 66 #[iv p1, iv p2, iv p3, iv ix, iv ve, rv ky, iv (1 : Int32)] [(.int (1 : Int32)), (.int (own_sup ve (0 : Int32) (own_mx ix)))]) (fun t k => XS.iload X48.here hx rfl (hb hby at_64) rfl k) ?_
        refine own_st (mkF m 69 #[iv p1, iv p2, iv p3, iv ix, iv ve, rv ky, iv (1 : Int32)] []) (fun t k => XS.icmpNo X48.here hx rfl (hb hby at_66) rfl (teq (by simp [own_sup, hc43, hc46])).2 k) ?_
        refine own_st (mkF m 70 #[iv p1, iv p2, iv p3, iv ix, iv ve, rv ky, iv (1 : Int32)] [(.int (1 : Int32))]) (fun t k => XS.iconst X48.here hx rfl (hb hby at_69) k) ?_
        refine own_st (mkF m 74 #[iv p1, iv p2, iv p3, iv ix, iv ve, rv ky, iv (1 : Int32)] [(.int (1 : Int32))]) (fun t k => XS.goto X48.here hx rfl (pc0 := 70) (pc' := 74) rfl (hb hby at_70) (by decide) (by decide) k) ?_
        refine own_ret X48 hlk (v := some (.int (1 : Int32))) (fun h => by rw [hret] at h; cases h) (fun fs hr => retN X48 hx (t := .boolean) hret (by simp) (hb hby at_74) hr) ?_ (by decide) (by decide)
        show own_Q0 Z p1 p2 p3 w10 w11 w12 w13 w14 w15 w16 w17 w18 w19 w20 w21 w22 h0 n0 _ T48.heap _
        rw [e48]
        exact ⟨rfl, N48⟩
  refine own_st (mkF m 9 #[iv p1, iv p2, iv p3, iv ix, .unset, .unset, .unset] [(.int p3)]) (fun t k => XS.iloadN X0.here hx rfl (hb hby at_8) rfl k) ?_
  refine own_st (mkF m 10 #[iv p1, iv p2, iv p3, iv ix, .unset, .unset, .unset] [(.int (1 : Int32)), (.int p3)]) (fun t k => XS.iconst X0.here hx rfl (hb hby at_9) k) ?_
  refine own_st (mkF m 11 #[iv p1, iv p2, iv p3, iv ix, .unset, .unset, .unset] [(.int (p3 &&& (1 : Int32)))]) (fun t k => XS.iand X0.here hx rfl (hb hby at_10) rfl k) ?_
  by_cases hc49 : (p3 &&& (1 : Int32)) = (0 : Int32)
  · refine own_st (mkF m 21 #[iv p1, iv p2, iv p3, iv ix, .unset, .unset, .unset] []) (fun t k => XS.ifYes X0.here hx rfl (pc0 := 11) (pc' := 21) rfl (hb hby at_11) rfl ((if0 _ _).trans (teq hc49).1) (by decide) (by decide) k) ?_
    refine own_st (mkF m 22 #[iv p1, iv p2, iv p3, iv ix, .unset, .unset, .unset] [(.int p2)]) (fun t k => XS.iloadN X0.here hx rfl (hb hby at_21) rfl k) ?_
    refine own_st (mkF m 24 #[iv p1, iv p2, iv p3, iv ix, .unset, .unset, .unset] [(.int (7 : Int32)), (.int p2)]) (fun t k => XS.bipush X0.here hx rfl (hb hby at_22) k) ?_
    refine own_st (mkF m 25 #[iv p1, iv p2, iv p3, iv ix, .unset, .unset, .unset] [(.int (p2 &&& (7 : Int32)))]) (fun t k => XS.iand X0.here hx rfl (hb hby at_24) rfl k) ?_
    refine own_st (mkF m 26 #[iv p1, iv p2, iv p3, iv ix, .unset, .unset, .unset] [(.int (2 : Int32)), (.int (p2 &&& (7 : Int32)))]) (fun t k => XS.iconst X0.here hx rfl (hb hby at_25) k) ?_
    refine own_st (mkF m 27 #[iv p1, iv p2, iv p3, iv ix, .unset, .unset, .unset] [(.int ((p2 &&& (7 : Int32)) - (2 : Int32)))]) (fun t k => XS.isub X0.here hx rfl (hb hby at_26) rfl k) ?_
    refine own_st (mkF m 28 #[iv p1, iv p2, iv p3, iv ix, .unset, .unset, .unset] [(.int (((p2 &&& (7 : Int32)) - (2 : Int32)).toInt16.toInt32))]) (fun t k => XS.i2s X0.here hx rfl (hb hby at_27) rfl k) ?_
    refine own_st (mkF m 30 #[iv p1, iv p2, iv p3, iv ix, iv (((p2 &&& (7 : Int32)) - (2 : Int32)).toInt16.toInt32), .unset, .unset] []) (fun t k => XS.istore X0.here hx rfl (hb hby at_28) rfl (l' := #[iv p1, iv p2, iv p3, iv ix, iv (((p2 &&& (7 : Int32)) - (2 : Int32)).toInt16.toInt32), .unset, .unset]) rfl k) ?_
    exact J30 (((p2 &&& (7 : Int32)) - (2 : Int32)).toInt16.toInt32)
  · refine own_st (mkF m 14 #[iv p1, iv p2, iv p3, iv ix, .unset, .unset, .unset] []) (fun t k => XS.ifNo X0.here hx rfl (hb hby at_11) rfl ((if0 _ _).trans (feq hc49).1) k) ?_
    refine own_st (mkF m 15 #[iv p1, iv p2, iv p3, iv ix, .unset, .unset, .unset] [(.int p2)]) (fun t k => XS.iloadN X0.here hx rfl (hb hby at_14) rfl k) ?_
    refine own_st (mkF m 16 #[iv p1, iv p2, iv p3, iv ix, .unset, .unset, .unset] [(.int (p2.toInt16.toInt32))]) (fun t k => XS.i2s X0.here hx rfl (hb hby at_15) rfl k) ?_
    refine own_st (mkF m 18 #[iv p1, iv p2, iv p3, iv ix, iv (p2.toInt16.toInt32), .unset, .unset] []) (fun t k => XS.istore X0.here hx rfl (hb hby at_16) rfl (l' := #[iv p1, iv p2, iv p3, iv ix, iv (p2.toInt16.toInt32), .unset, .unset]) rfl k) ?_
    refine own_st (mkF m 30 #[iv p1, iv p2, iv p3, iv ix, iv (p2.toInt16.toInt32), .unset, .unset] []) (fun t k => XS.goto X0.here hx rfl (pc0 := 18) (pc' := 30) rfl (hb hby at_18) (by decide) (by decide) k) ?_
    exact J30 (p2.toInt16.toInt32)
theorem hw_7 {a0 : Array Value} {Z : State} (hw : ∀ d ∈ tables_1, d.before a0 Z = true) : (Jvm.Cond.laysStatic "com/example/earmark_ledger/earmarkledger/protocol/ApiKey" "PRODUCE" "Lcom/example/earmark_ledger/earmarkledger/protocol/ApiKey;").before a0 Z = true := hw _ (List.mem_of_getElem? (i := 7) rfl)
theorem hw_21 {a0 : Array Value} {Z : State} (hw : ∀ d ∈ tables_1, d.before a0 Z = true) : (Jvm.Cond.laysStatic "com/example/earmark_ledger/earmarkledger/protocol/ApiKey" "FETCH" "Lcom/example/earmark_ledger/earmarkledger/protocol/ApiKey;").before a0 Z = true := hw _ (List.mem_of_getElem? (i := 21) rfl)
theorem hw_23 {a0 : Array Value} {Z : State} (hw : ∀ d ∈ tables_1, d.before a0 Z = true) : (Jvm.Cond.laysStatic "com/example/earmark_ledger/earmarkledger/protocol/ApiKey" "HEARTBEAT" "Lcom/example/earmark_ledger/earmarkledger/protocol/ApiKey;").before a0 Z = true := hw _ (List.mem_of_getElem? (i := 23) rfl)
theorem hw_25 {a0 : Array Value} {Z : State} (hw : ∀ d ∈ tables_1, d.before a0 Z = true) : (Jvm.Cond.laysStatic "com/example/earmark_ledger/earmarkledger/protocol/ApiKey" "JOIN_GROUP" "Lcom/example/earmark_ledger/earmarkledger/protocol/ApiKey;").before a0 Z = true := hw _ (List.mem_of_getElem? (i := 25) rfl)
theorem hw_27 {a0 : Array Value} {Z : State} (hw : ∀ d ∈ tables_1, d.before a0 Z = true) : (Jvm.Cond.laysStatic "com/example/earmark_ledger/earmarkledger/protocol/ApiKey" "SYNC_GROUP" "Lcom/example/earmark_ledger/earmarkledger/protocol/ApiKey;").before a0 Z = true := hw _ (List.mem_of_getElem? (i := 27) rfl)
theorem hw_29 {a0 : Array Value} {Z : State} (hw : ∀ d ∈ tables_1, d.before a0 Z = true) : (Jvm.Cond.laysStatic "com/example/earmark_ledger/earmarkledger/protocol/ApiKey" "API_VERSIONS" "Lcom/example/earmark_ledger/earmarkledger/protocol/ApiKey;").before a0 Z = true := hw _ (List.mem_of_getElem? (i := 29) rfl)
theorem hw_31 {a0 : Array Value} {Z : State} (hw : ∀ d ∈ tables_1, d.before a0 Z = true) : (Jvm.Cond.laysStatic "com/example/earmark_ledger/earmarkledger/protocol/ApiKey" "METADATA" "Lcom/example/earmark_ledger/earmarkledger/protocol/ApiKey;").before a0 Z = true := hw _ (List.mem_of_getElem? (i := 31) rfl)
theorem hw_33 {a0 : Array Value} {Z : State} (hw : ∀ d ∈ tables_1, d.before a0 Z = true) : (Jvm.Cond.laysStatic "com/example/earmark_ledger/earmarkledger/protocol/ApiKey" "CREATE_TOPICS" "Lcom/example/earmark_ledger/earmarkledger/protocol/ApiKey;").before a0 Z = true := hw _ (List.mem_of_getElem? (i := 33) rfl)
theorem hw_35 {a0 : Array Value} {Z : State} (hw : ∀ d ∈ tables_1, d.before a0 Z = true) : (Jvm.Cond.laysStatic "com/example/earmark_ledger/earmarkledger/protocol/ApiKey" "OFFSET_COMMIT" "Lcom/example/earmark_ledger/earmarkledger/protocol/ApiKey;").before a0 Z = true := hw _ (List.mem_of_getElem? (i := 35) rfl)
theorem hw_37 {a0 : Array Value} {Z : State} (hw : ∀ d ∈ tables_1, d.before a0 Z = true) : (Jvm.Cond.laysStatic "com/example/earmark_ledger/earmarkledger/protocol/ApiKey" "OFFSET_FETCH" "Lcom/example/earmark_ledger/earmarkledger/protocol/ApiKey;").before a0 Z = true := hw _ (List.mem_of_getElem? (i := 37) rfl)
theorem hw_39 {a0 : Array Value} {Z : State} (hw : ∀ d ∈ tables_1, d.before a0 Z = true) : (Jvm.Cond.laysStatic "com/example/earmark_ledger/earmarkledger/protocol/ApiKey" "LIST_OFFSETS" "Lcom/example/earmark_ledger/earmarkledger/protocol/ApiKey;").before a0 Z = true := hw _ (List.mem_of_getElem? (i := 39) rfl)
theorem hw_41 {a0 : Array Value} {Z : State} (hw : ∀ d ∈ tables_1, d.before a0 Z = true) : (Jvm.Cond.laysStatic "com/example/earmark_ledger/earmarkledger/protocol/ApiKey" "FIND_COORDINATOR" "Lcom/example/earmark_ledger/earmarkledger/protocol/ApiKey;").before a0 Z = true := hw _ (List.mem_of_getElem? (i := 41) rfl)
theorem hw_43 {a0 : Array Value} {Z : State} (hw : ∀ d ∈ tables_1, d.before a0 Z = true) : (Jvm.Cond.laysStatic "com/example/earmark_ledger/earmarkledger/protocol/ApiKey" "LEAVE_GROUP" "Lcom/example/earmark_ledger/earmarkledger/protocol/ApiKey;").before a0 Z = true := hw _ (List.mem_of_getElem? (i := 43) rfl)
set_option maxRecDepth 65536 in
set_option maxHeartbeats 40000000 in
theorem own_comes {Post : Tables → Env → Array Value → State → Outcome → State → Prop} (hpost : ∀ tb e args s v u, (limb_1_1.after args s (.returned v) u = true ∧ limb_1_2.after args s (.returned v) u = true ∧ True) → FrameEnd s (.returned v) u (Jvm.fieldLocs frame_1_writes args s ++ Jvm.arrayLocs frame_1_arrays args s ++ Jvm.staticLocs frame_1_statics s) 0 0 → Post tb e args s (.returned v) u) :
    ArmFor flags0 classFile x code maxLocals ret World_1 tables_1 room_1 Calls_1 rest_1 Pre_1 Post := by
  intro l hfl _ _ p e ha hc hk s m args below hf hA hF happ hP
  obtain ⟨hcalls, hrest, hpre⟩ := hP
  obtain ⟨-, -, -, hnamed, -, -, -, hat⟩ := (Spec.applies_iff hf).mp happ
  obtain ⟨hg, hn⟩ := and_e (Cond.before_iff.mp (show (Jvm.Cond.and given_1 narrow_1).before args s = true from hpre))
  obtain ⟨hcnt, hg0⟩ := and_e hg
  obtain ⟨ha0, hg1⟩ := and_e hg0
  obtain ⟨ha1, hg2⟩ := and_e hg1
  obtain ⟨w0, w1, w2, rfl⟩ : ∃ w0 w1 w2 : Value, args = #[w0, w1, w2] := by
    have hs : args.size = 3 := by simpa [Cond.value, given_1] using hcnt
    obtain ⟨L⟩ := args
    match L, hs with
    | [w0, w1, w2], _ => exact ⟨w0, w1, w2, rfl⟩
  have hw := fun d (hd : d ∈ tables_1) => atoms_spec (ws := Jvm.Cond.code x code maxLocals ret :: tables_1) hat d (List.mem_cons_of_mem _ hd)
  have hfit : Fit s := fun {y c} hc i hi => by
    obtain ⟨ha, rfl⟩ := Array.getElem?_eq_some_iff.mp hc
    have q := List.all_eq_true.mp ((Array.all_eq_true_iff_forall_mem.mp hF) _ (Array.getElem_mem ha)) i (List.mem_range.mpr hi)
    simpa [Array.getElem?_eq_getElem hi] using q
  obtain ⟨i0, ei0⟩ := is_v ha0
  obtain rfl : w0 = (.int i0) := Option.some.inj ei0
  obtain ⟨i1, ei1⟩ := is_v ha1
  obtain rfl : w1 = (.int i1) := Option.some.inj ei1
  obtain ⟨i2, ei2⟩ := is_v hg2
  obtain rfl : w2 = (.int i2) := Option.some.inj ei2
  obtain ⟨n_0, r_0⟩ := and_e hn
  obtain ⟨n_1, r_1⟩ := and_e r_0
  obtain ⟨n_2, r_2⟩ := and_e r_1
  obtain ⟨n_3, r_3⟩ := and_e r_2
  obtain ⟨n_4, r_4⟩ := and_e r_3
  obtain ⟨n_5, r_5⟩ := and_e r_4
  obtain ⟨n_6, r_6⟩ := and_e r_5
  obtain ⟨n_7, r_7⟩ := and_e r_6
  obtain ⟨n_8, r_8⟩ := and_e r_7
  obtain ⟨n_9, r_9⟩ := and_e r_8
  obtain ⟨n_10, r_10⟩ := and_e r_9
  obtain ⟨n_11, r_11⟩ := and_e r_10
  obtain ⟨n_12, r_12⟩ := and_e r_11
  obtain ⟨n_13, r_13⟩ := and_e r_12
  obtain ⟨n_14, r_14⟩ := and_e r_13
  obtain ⟨n_15, r_15⟩ := and_e r_14
  obtain ⟨n_16, r_16⟩ := and_e r_15
  obtain ⟨n_17, r_17⟩ := and_e r_16
  obtain ⟨n_18, r_18⟩ := and_e r_17
  obtain ⟨n_19, r_19⟩ := and_e r_18
  obtain ⟨n_20, r_20⟩ := and_e r_19
  obtain ⟨n_21, r_21⟩ := and_e r_20
  obtain ⟨n_22, r_22⟩ := and_e r_21
  obtain ⟨n_23, r_23⟩ := and_e r_22
  obtain ⟨n_24, r_24⟩ := and_e r_23
  obtain ⟨n_25, r_25⟩ := and_e r_24
  obtain ⟨n_26, r_26⟩ := and_e r_25
  obtain ⟨n_27, r_27⟩ := and_e r_26
  obtain ⟨n_28, r_28⟩ := and_e r_27
  obtain ⟨n_29, r_29⟩ := and_e r_28
  obtain ⟨n_30, r_30⟩ := and_e r_29
  obtain ⟨n_31, r_31⟩ := and_e r_30
  obtain ⟨n_32, r_32⟩ := and_e r_31
  obtain ⟨n_33, r_33⟩ := and_e r_32
  obtain ⟨n_34, r_34⟩ := and_e r_33
  obtain ⟨n_35, r_35⟩ := and_e r_34
  obtain ⟨n_36, r_36⟩ := and_e r_35
  obtain ⟨n_37, r_37⟩ := and_e r_36
  have n_38 := r_37
  obtain ⟨w10, v_w10⟩ := exa_v n_0
  have S_w10 := Sta.start v_w10 (Or.inr ⟨(hw_6 hw), (hw_7 hw)⟩)
  have E_w10 := Exa.start v_w10 n_0
  obtain ⟨w11, v_w11⟩ := exa_v n_3
  have S_w11 := Sta.start v_w11 (Or.inr ⟨(hw_6 hw), (hw_21 hw)⟩)
  have E_w11 := Exa.start v_w11 n_3
  obtain ⟨w18, v_w18⟩ := exa_v n_6
  have S_w18 := Sta.start v_w18 (Or.inr ⟨(hw_6 hw), (hw_23 hw)⟩)
  have E_w18 := Exa.start v_w18 n_6
  obtain ⟨w17, v_w17⟩ := exa_v n_9
  have S_w17 := Sta.start v_w17 (Or.inr ⟨(hw_6 hw), (hw_25 hw)⟩)
  have E_w17 := Exa.start v_w17 n_9
  obtain ⟨w20, v_w20⟩ := exa_v n_12
  have S_w20 := Sta.start v_w20 (Or.inr ⟨(hw_6 hw), (hw_27 hw)⟩)
  have E_w20 := Exa.start v_w20 n_12
  obtain ⟨w21, v_w21⟩ := exa_v n_14
  have S_w21 := Sta.start v_w21 (Or.inr ⟨(hw_6 hw), (hw_29 hw)⟩)
  have E_w21 := Exa.start v_w21 n_14
  obtain ⟨w13, v_w13⟩ := exa_v n_17
  have S_w13 := Sta.start v_w13 (Or.inr ⟨(hw_6 hw), (hw_31 hw)⟩)
  have E_w13 := Exa.start v_w13 n_17
  obtain ⟨w22, v_w22⟩ := exa_v n_21
  have S_w22 := Sta.start v_w22 (Or.inr ⟨(hw_6 hw), (hw_33 hw)⟩)
  have E_w22 := Exa.start v_w22 n_21
  obtain ⟨w14, v_w14⟩ := exa_v n_24
  have S_w14 := Sta.start v_w14 (Or.inr ⟨(hw_6 hw), (hw_35 hw)⟩)
  have E_w14 := Exa.start v_w14 n_24
  obtain ⟨w15, v_w15⟩ := exa_v n_27
  have S_w15 := Sta.start v_w15 (Or.inr ⟨(hw_6 hw), (hw_37 hw)⟩)
  have E_w15 := Exa.start v_w15 n_27
  obtain ⟨w12, v_w12⟩ := exa_v n_29
  have S_w12 := Sta.start v_w12 (Or.inr ⟨(hw_6 hw), (hw_39 hw)⟩)
  have E_w12 := Exa.start v_w12 n_29
  obtain ⟨w16, v_w16⟩ := exa_v n_32
  have S_w16 := Sta.start v_w16 (Or.inr ⟨(hw_6 hw), (hw_41 hw)⟩)
  have E_w16 := Exa.start v_w16 n_32
  obtain ⟨w19, v_w19⟩ := exa_v n_35
  have S_w19 := Sta.start v_w19 (Or.inr ⟨(hw_6 hw), (hw_43 hw)⟩)
  have E_w19 := Exa.start v_w19 n_35
  have A_w10 := Fld.start ((fld_at v_w10).symm.trans (own_eqint n_1))
  have B_w10 := Fld.start ((fld_at v_w10).symm.trans (own_eqint n_2))
  have A_w11 := Fld.start ((fld_at v_w11).symm.trans (own_eqint n_4))
  have B_w11 := Fld.start ((fld_at v_w11).symm.trans (own_eqint n_5))
  have A_w18 := Fld.start ((fld_at v_w18).symm.trans (own_eqint n_7))
  have B_w18 := Fld.start ((fld_at v_w18).symm.trans (own_eqint n_8))
  have A_w17 := Fld.start ((fld_at v_w17).symm.trans (own_eqint n_10))
  have B_w17 := Fld.start ((fld_at v_w17).symm.trans (own_eqint n_11))
  have A_w20 := Fld.start ((fld_at v_w20).symm.trans (own_eqint n_13))
  have A_w21 := Fld.start ((fld_at v_w21).symm.trans (own_eqint n_15))
  have B_w21 := Fld.start ((fld_at v_w21).symm.trans (own_eqint n_16))
  have A_w13 := Fld.start ((fld_at v_w13).symm.trans (own_eqint n_18))
  have B_w13 := Fld.start ((fld_at v_w13).symm.trans (own_eqint n_19))
  have B_w20 := Fld.start ((fld_at v_w20).symm.trans (own_eqint n_20))
  have A_w22 := Fld.start ((fld_at v_w22).symm.trans (own_eqint n_22))
  have B_w22 := Fld.start ((fld_at v_w22).symm.trans (own_eqint n_23))
  have A_w14 := Fld.start ((fld_at v_w14).symm.trans (own_eqint n_25))
  have B_w14 := Fld.start ((fld_at v_w14).symm.trans (own_eqint n_26))
  have A_w15 := Fld.start ((fld_at v_w15).symm.trans (own_eqint n_28))
  have A_w12 := Fld.start ((fld_at v_w12).symm.trans (own_eqint n_30))
  have B_w12 := Fld.start ((fld_at v_w12).symm.trans (own_eqint n_31))
  have A_w16 := Fld.start ((fld_at v_w16).symm.trans (own_eqint n_33))
  have B_w15 := Fld.start ((fld_at v_w15).symm.trans (own_eqint n_34))
  have A_w19 := Fld.start ((fld_at v_w19).symm.trans (own_eqint n_36))
  have B_w19 := Fld.start ((fld_at v_w19).symm.trans (own_eqint n_37))
  have B_w16 := Fld.start ((fld_at v_w16).symm.trans (own_eqint n_38))
  obtain ⟨n, o, h1, h2, h3, _, L, rfl, ⟨rfl, N⟩, hq⟩ := own_rm0 l s _ hw tables_1 i0 i1 i2 w10 w11 w12 w13 w14 w15 w16 w17 w18 w19 w20 w21 w22 s.heap s.heap.size (Nat.le_refl _) (Old.start s) S_w10 S_w11 S_w12 S_w13 S_w14 S_w15 S_w16 S_w17 S_w18 S_w19 S_w20 S_w21 S_w22 E_w10 E_w11 E_w12 E_w13 E_w14 E_w15 E_w16 E_w17 E_w18 E_w19 E_w20 E_w21 E_w22 A_w10 A_w11 A_w12 A_w13 A_w14 A_w15 A_w16 A_w17 A_w18 A_w19 A_w20 A_w21 A_w22 B_w10 B_w11 B_w12 B_w13 B_w14 B_w15 B_w16 B_w17 B_w18 B_w19 B_w20 B_w21 B_w22 p e ha hc hk s m _ below hf ((Spec.applies_iff_loose hf).mp happ).1 ⟨rfl, State.Warmed39.refl s, rfl⟩ trivial
  refine ⟨n, _, h1, h2, h3, hpost _ _ _ _ _ _ ⟨Cond.after_iff.mpr rfl, Cond.after_iff.mpr (eq_i res_at (Term.int_eval (1)) rfl), trivial⟩ ⟨hq.1, hq.2.1, (hq.2.2.sift fun y hy => Or.inr (N y hy)).mono (by decide) (by decide)⟩⟩
theorem main_1_1 : Claimed_1_1 := own_comes fun _ _ _ _ _ _ h hF => ⟨h.1, hF⟩
theorem main_1_2 : Claimed_1_2 := own_comes fun _ _ _ _ _ _ h hF => ⟨h.2.1, hF⟩
end Jvm.Pilot.@@N@@
namespace Jvm.Pilot.@@N@@
open Jvm Jvm.ClassFile Sem Op Lib Jvm.Free Jvm.Stand Jvm.Pilot.@@N@@.Jvm.D
/-! MADE BY PROGRAM (witnessworld.py) out of the Statement's table words and the real class files: 10 classes; the members and pool entries that the words name. The judged class is class 1, her method 3. -/
namespace start1
open Jvm.ClassFile
def u (s : String) : CpInfo := .utf8 (stringToUtf16 s)
/-- a pool by its gaps: so many unusable entries, then the entry; so many at the end -/
def gap : Nat → List CpInfo → List CpInfo
  | 0, r => r
  | n + 1, r => .unusable :: gap n r
def poolList (es : List (Nat × CpInfo)) (last : Nat) : List CpInfo := es.foldr (fun e r => gap e.1 (e.2 :: r)) (gap last [])
def pool (es : List (Nat × CpInfo)) (last : Nat) : Array CpInfo := ⟨poolList es last⟩
def fileOf (pool : Array CpInfo) (this : Nat) (attrs : Array Attribute := #[]) (ms : Array MethodInfo := #[]) (fl : Nat := 33) (sup : Nat := 0) (ifs : Array Nat := #[]) (fds : Array FieldInfo := #[]) : ClassFile where
  minorVersion := 0
  majorVersion := 65
  constantPool := pool
  accessFlags := fl
  thisClass := this
  superClass := sup
  interfaces := ifs
  fields := fds
  methods := ms
  attributes := attrs
def plain (name : String) (sup : Option ClassId) : Class where
  name := name
  kind := .ordinary
  loader := none
  accessFlags := 33
  super := sup
  interfaces := #[]
  cf := none
  fields := #[]
  methods := #[]
  instanceTypes := #[]
  staticTypes := #[]
  resolved := #[]
  callSites := []
  init := .initialized
  statics := none
  mirror := none

def pool0 : Array CpInfo := pool [(5, u "<init>"), (0, u "()V"), (1, .class_ 10), (1, u "java/lang/Object")] 113

def k0m0 : Method := { name := "<init>", desc := "()V", sig := { parameters := [], returnType := none }, accessFlags := 1, code := none }
/-- java/lang/Object -/
def k0 : Class := { plain "java/lang/Object" none with
  accessFlags := 33
  interfaces := #[]
  cf := some (fileOf pool0 8 #[] #[{ accessFlags := 1, nameIndex := 5, descriptorIndex := 6, attributes := #[] }] 33 0 #[] #[])
  fields := #[]
  methods := #[k0m0]
  instanceTypes := #[]
  staticTypes := #[]
  resolved := Array.replicate 124 none
  statics := none }

def pool1 : Array CpInfo := pool [(2, .class_ 4), (1, u "java/lang/Object"), (0, u "<init>"), (0, u "()V"), (0, .fieldref 8 9), (0, .class_ 10), (0, .nameAndType 11 12), (0, u "com/example/earmark_ledger/earmarkledger/protocol/ApiKey"), (0, u "PRODUCE"), (0, u "Lcom/example/earmark_ledger/earmarkledger/protocol/ApiKey;"), (0, .fieldref 8 14), (0, .nameAndType 15 12), (0, u "FETCH"), (0, .fieldref 8 17), (0, .nameAndType 18 12), (0, u "LIST_OFFSETS"), (0, .fieldref 8 20), (0, .nameAndType 21 12), (0, u "METADATA"), (0, .fieldref 8 23), (0, .nameAndType 24 12), (0, u "OFFSET_COMMIT"), (0, .fieldref 8 26), (0, .nameAndType 27 12), (0, u "OFFSET_FETCH"), (0, .fieldref 8 29), (0, .nameAndType 30 12), (0, u "FIND_COORDINATOR"), (0, .fieldref 8 32), (0, .nameAndType 33 12), (0, u "JOIN_GROUP"), (0, .fieldref 8 35), (0, .nameAndType 36 12), (0, u "HEARTBEAT"), (0, .fieldref 8 38), (0, .nameAndType 39 12), (0, u "LEAVE_GROUP"), (0, .fieldref 8 41), (0, .nameAndType 42 12), (0, u "SYNC_GROUP"), (0, .fieldref 8 44), (0, .nameAndType 45 12), (0, u "API_VERSIONS"), (0, .fieldref 8 47), (0, .nameAndType 48 12), (0, u "CREATE_TOPICS"), (0, .integer 2147483647), (0, .methodref 51 52), (0, .class_ 53), (0, .nameAndType 54 55), (0, u "com/example/earmark_ledger/earmarkledger/protocol/ApiKeySupportsPinLaw"), (0, u "pick"), (0, u "(I)Lcom/example/earmark_ledger/earmarkledger/protocol/ApiKey;"), (0, .methodref 51 57), (0, .nameAndType 58 59), (0, u "maxOf"), (0, u "(I)I"), (0, .methodref 8 61), (0, .nameAndType 62 63), (0, u "supports"), (0, u "(S)Z"), (3, u "law"), (0, u "(III)Z")] 2

def k1m0 : Method := { name := "<init>", desc := "()V", sig := { parameters := [], returnType := none }, accessFlags := 1, code := none }
def k1c1 : Code := { maxStack := 2, maxLocals := 1, code := method_2_code, exceptionTable := #[], attributes := #[] }
def k1m1 : Method := { name := "pick", desc := "(I)Lcom/example/earmark_ledger/earmarkledger/protocol/ApiKey;", sig := { parameters := [.int], returnType := some (.object "com/example/earmark_ledger/earmarkledger/protocol/ApiKey") }, accessFlags := 10, code := some k1c1 }
def k1c2 : Code := { maxStack := 2, maxLocals := 1, code := method_3_code, exceptionTable := #[], attributes := #[] }
def k1m2 : Method := { name := "maxOf", desc := "(I)I", sig := { parameters := [.int], returnType := some .int }, accessFlags := 10, code := some k1c2 }
def k1c3 : Code := { maxStack := 2, maxLocals := 7, code := code, exceptionTable := #[], attributes := #[] }
def k1m3 : Method := { name := "law", desc := "(III)Z", sig := { parameters := [.int, .int, .int], returnType := some .boolean }, accessFlags := 9, code := some k1c3 }
/-- com/example/earmark_ledger/earmarkledger/protocol/ApiKeySupportsPinLaw -/
def k1 : Class := { plain "com/example/earmark_ledger/earmarkledger/protocol/ApiKeySupportsPinLaw" (some 0) with
  accessFlags := 49
  interfaces := #[]
  cf := some (fileOf pool1 51 #[] #[{ accessFlags := 1, nameIndex := 5, descriptorIndex := 6, attributes := #[] }, { accessFlags := 10, nameIndex := 54, descriptorIndex := 55, attributes := #[] }, { accessFlags := 10, nameIndex := 58, descriptorIndex := 59, attributes := #[] }, { accessFlags := 9, nameIndex := 67, descriptorIndex := 68, attributes := #[] }] 49 2 #[] #[])
  fields := #[]
  methods := #[k1m0, k1m1, k1m2, k1m3]
  instanceTypes := #[]
  staticTypes := #[]
  resolved := Array.replicate 71 none
  statics := none }

def pool2 : Array CpInfo := pool [(1, .class_ 2), (0, u "java/lang/constant/Constable"), (0, .class_ 4), (0, u "java/lang/Object")] 6

/-- java/lang/constant/Constable -/
def k2 : Class := { plain "java/lang/constant/Constable" (some 0) with
  accessFlags := 1537
  interfaces := #[]
  cf := some (fileOf pool2 1 #[] #[] 1537 3 #[] #[])
  fields := #[]
  methods := #[]
  instanceTypes := #[]
  staticTypes := #[]
  resolved := Array.replicate 11 none
  statics := none }

def pool3 : Array CpInfo := pool [(1, .class_ 2), (0, u "java/lang/Comparable"), (0, .class_ 4), (0, u "java/lang/Object")] 7

/-- java/lang/Comparable -/
def k3 : Class := { plain "java/lang/Comparable" (some 0) with
  accessFlags := 1537
  interfaces := #[]
  cf := some (fileOf pool3 1 #[] #[] 1537 3 #[] #[])
  fields := #[]
  methods := #[]
  instanceTypes := #[]
  staticTypes := #[]
  resolved := Array.replicate 12 none
  statics := none }

def pool4 : Array CpInfo := pool [(1, .class_ 2), (0, u "java/io/Serializable"), (0, .class_ 4), (0, u "java/lang/Object")] 2

/-- java/io/Serializable -/
def k4 : Class := { plain "java/io/Serializable" (some 0) with
  accessFlags := 1537
  interfaces := #[]
  cf := some (fileOf pool4 1 #[] #[] 1537 3 #[] #[])
  fields := #[]
  methods := #[]
  instanceTypes := #[]
  staticTypes := #[]
  resolved := Array.replicate 7 none
  statics := none }

def pool5 : Array CpInfo := pool [(2, .class_ 4), (1, u "java/lang/Enum"), (0, u "name"), (0, u "Ljava/lang/String;"), (2, u "ordinal"), (0, u "I"), (1, .class_ 14), (1, u "java/lang/Object"), (4, u "hash"), (86, .class_ 108), (1, u "java/lang/Enum$EnumDesc"), (2, .class_ 112), (0, u "java/lang/constant/Constable"), (0, .class_ 114), (0, u "java/lang/Comparable"), (0, .class_ 116), (0, u "java/io/Serializable")] 87

/-- java/lang/Enum -/
def k5 : Class := { plain "java/lang/Enum" (some 0) with
  accessFlags := 1057
  interfaces := #[2, 3, 4]
  cf := some (fileOf pool5 2 #[.nestMembers #[106]] #[] 1057 12 #[111, 113, 115] #[{ accessFlags := 18, nameIndex := 5, descriptorIndex := 6, attributes := #[] }, { accessFlags := 18, nameIndex := 9, descriptorIndex := 10, attributes := #[] }, { accessFlags := 2, nameIndex := 19, descriptorIndex := 10, attributes := #[] }])
  fields := #[{ name := "name", type := (.object "java/lang/String"), accessFlags := 18, slot := 0, constantValue := 0 }, { name := "ordinal", type := .int, accessFlags := 18, slot := 1, constantValue := 0 }, { name := "hash", type := .int, accessFlags := 2, slot := 2, constantValue := 0 }]
  methods := #[]
  instanceTypes := #[(.object "java/lang/String"), .int, .int]
  staticTypes := #[]
  resolved := Array.replicate 204 none
  statics := none }

def pool6 : Array CpInfo := pool [(1, .class_ 2), (0, u "com/example/earmark_ledger/earmarkledger/protocol/ApiKey"), (2, u "PRODUCE"), (0, u "Lcom/example/earmark_ledger/earmarkledger/protocol/ApiKey;"), (2, u "FETCH"), (2, u "LIST_OFFSETS"), (2, u "METADATA"), (2, u "OFFSET_COMMIT"), (2, u "OFFSET_FETCH"), (2, u "FIND_COORDINATOR"), (2, u "JOIN_GROUP"), (2, u "HEARTBEAT"), (2, u "LEAVE_GROUP"), (2, u "SYNC_GROUP"), (2, u "API_VERSIONS"), (2, u "CREATE_TOPICS"), (2, u "$VALUES"), (0, u "[Lcom/example/earmark_ledger/earmarkledger/protocol/ApiKey;"), (6, .class_ 55), (1, u "java/lang/Enum"), (8, u "key"), (0, u "S"), (0, .fieldref 1 67), (0, .nameAndType 68 65), (0, u "minVersion"), (0, .fieldref 1 70), (0, .nameAndType 71 65), (0, u "maxVersion"), (40, u "supports"), (0, u "(S)Z")] 9

def k6c0 : Code := { maxStack := 2, maxLocals := 2, code := prog_25_method_7_code, exceptionTable := #[], attributes := #[] }
def k6m0 : Method := { name := "supports", desc := "(S)Z", sig := { parameters := [.short], returnType := some .boolean }, accessFlags := 1, code := some k6c0 }
/-- com/example/earmark_ledger/earmarkledger/protocol/ApiKey -/
def k6 : Class := { plain "com/example/earmark_ledger/earmarkledger/protocol/ApiKey" (some 5) with
  accessFlags := 16433
  interfaces := #[]
  cf := some (fileOf pool6 1 #[] #[{ accessFlags := 1, nameIndex := 112, descriptorIndex := 113, attributes := #[] }] 16433 53 #[] #[{ accessFlags := 16409, nameIndex := 5, descriptorIndex := 6, attributes := #[] }, { accessFlags := 16409, nameIndex := 9, descriptorIndex := 6, attributes := #[] }, { accessFlags := 16409, nameIndex := 12, descriptorIndex := 6, attributes := #[] }, { accessFlags := 16409, nameIndex := 15, descriptorIndex := 6, attributes := #[] }, { accessFlags := 16409, nameIndex := 18, descriptorIndex := 6, attributes := #[] }, { accessFlags := 16409, nameIndex := 21, descriptorIndex := 6, attributes := #[] }, { accessFlags := 16409, nameIndex := 24, descriptorIndex := 6, attributes := #[] }, { accessFlags := 16409, nameIndex := 27, descriptorIndex := 6, attributes := #[] }, { accessFlags := 16409, nameIndex := 30, descriptorIndex := 6, attributes := #[] }, { accessFlags := 16409, nameIndex := 33, descriptorIndex := 6, attributes := #[] }, { accessFlags := 16409, nameIndex := 36, descriptorIndex := 6, attributes := #[] }, { accessFlags := 16409, nameIndex := 39, descriptorIndex := 6, attributes := #[] }, { accessFlags := 16409, nameIndex := 42, descriptorIndex := 6, attributes := #[] }, { accessFlags := 18, nameIndex := 64, descriptorIndex := 65, attributes := #[] }, { accessFlags := 18, nameIndex := 68, descriptorIndex := 65, attributes := #[] }, { accessFlags := 18, nameIndex := 71, descriptorIndex := 65, attributes := #[] }, { accessFlags := 4122, nameIndex := 45, descriptorIndex := 46, attributes := #[] }])
  fields := #[{ name := "PRODUCE", type := (.object "com/example/earmark_ledger/earmarkledger/protocol/ApiKey"), accessFlags := 16409, slot := 0, constantValue := 0 }, { name := "FETCH", type := (.object "com/example/earmark_ledger/earmarkledger/protocol/ApiKey"), accessFlags := 16409, slot := 1, constantValue := 0 }, { name := "LIST_OFFSETS", type := (.object "com/example/earmark_ledger/earmarkledger/protocol/ApiKey"), accessFlags := 16409, slot := 2, constantValue := 0 }, { name := "METADATA", type := (.object "com/example/earmark_ledger/earmarkledger/protocol/ApiKey"), accessFlags := 16409, slot := 3, constantValue := 0 }, { name := "OFFSET_COMMIT", type := (.object "com/example/earmark_ledger/earmarkledger/protocol/ApiKey"), accessFlags := 16409, slot := 4, constantValue := 0 }, { name := "OFFSET_FETCH", type := (.object "com/example/earmark_ledger/earmarkledger/protocol/ApiKey"), accessFlags := 16409, slot := 5, constantValue := 0 }, { name := "FIND_COORDINATOR", type := (.object "com/example/earmark_ledger/earmarkledger/protocol/ApiKey"), accessFlags := 16409, slot := 6, constantValue := 0 }, { name := "JOIN_GROUP", type := (.object "com/example/earmark_ledger/earmarkledger/protocol/ApiKey"), accessFlags := 16409, slot := 7, constantValue := 0 }, { name := "HEARTBEAT", type := (.object "com/example/earmark_ledger/earmarkledger/protocol/ApiKey"), accessFlags := 16409, slot := 8, constantValue := 0 }, { name := "LEAVE_GROUP", type := (.object "com/example/earmark_ledger/earmarkledger/protocol/ApiKey"), accessFlags := 16409, slot := 9, constantValue := 0 }, { name := "SYNC_GROUP", type := (.object "com/example/earmark_ledger/earmarkledger/protocol/ApiKey"), accessFlags := 16409, slot := 10, constantValue := 0 }, { name := "API_VERSIONS", type := (.object "com/example/earmark_ledger/earmarkledger/protocol/ApiKey"), accessFlags := 16409, slot := 11, constantValue := 0 }, { name := "CREATE_TOPICS", type := (.object "com/example/earmark_ledger/earmarkledger/protocol/ApiKey"), accessFlags := 16409, slot := 12, constantValue := 0 }, { name := "key", type := .short, accessFlags := 18, slot := 3, constantValue := 0 }, { name := "minVersion", type := .short, accessFlags := 18, slot := 4, constantValue := 0 }, { name := "maxVersion", type := .short, accessFlags := 18, slot := 5, constantValue := 0 }, { name := "$VALUES", type := (.array (.object "com/example/earmark_ledger/earmarkledger/protocol/ApiKey")), accessFlags := 4122, slot := 13, constantValue := 0 }]
  methods := #[k6m0]
  instanceTypes := #[(.object "java/lang/String"), .int, .int, .short, .short, .short]
  staticTypes := #[(.object "com/example/earmark_ledger/earmarkledger/protocol/ApiKey"), (.object "com/example/earmark_ledger/earmarkledger/protocol/ApiKey"), (.object "com/example/earmark_ledger/earmarkledger/protocol/ApiKey"), (.object "com/example/earmark_ledger/earmarkledger/protocol/ApiKey"), (.object "com/example/earmark_ledger/earmarkledger/protocol/ApiKey"), (.object "com/example/earmark_ledger/earmarkledger/protocol/ApiKey"), (.object "com/example/earmark_ledger/earmarkledger/protocol/ApiKey"), (.object "com/example/earmark_ledger/earmarkledger/protocol/ApiKey"), (.object "com/example/earmark_ledger/earmarkledger/protocol/ApiKey"), (.object "com/example/earmark_ledger/earmarkledger/protocol/ApiKey"), (.object "com/example/earmark_ledger/earmarkledger/protocol/ApiKey"), (.object "com/example/earmark_ledger/earmarkledger/protocol/ApiKey"), (.object "com/example/earmark_ledger/earmarkledger/protocol/ApiKey"), (.array (.object "com/example/earmark_ledger/earmarkledger/protocol/ApiKey"))]
  resolved := Array.replicate 123 none
  statics := some 0 }

def pool7 : Array CpInfo := pool [(1, u "java/lang/Cloneable"), (0, .class_ 1), (0, u "java/lang/Object"), (0, .class_ 3)] 3

/-- java/lang/Cloneable -/
def k7 : Class := { plain "java/lang/Cloneable" (some 0) with
  accessFlags := 1537
  interfaces := #[]
  cf := some (fileOf pool7 2 #[] #[] 1537 4 #[] #[])
  fields := #[]
  methods := #[]
  instanceTypes := #[]
  staticTypes := #[]
  resolved := Array.replicate 8 none
  statics := none }

/-- the primitive byte -/
def k8 : Class := { plain "byte" none with kind := .primitive 'B', accessFlags := 0x411 }
/-- [B -/
def k9 : Class := { plain "[B" (some 0) with kind := .array 8 .byte, interfaces := #[7, 4], accessFlags := 1041 }

def heap : Heap := #[{ cls := 6, slots := #[.ref 1, .ref 2, .ref 11, .ref 7, .ref 9, .ref 10, .ref 12, .ref 4, .ref 3, .ref 13, .ref 5, .ref 6, .ref 8, .null], vm := .statics 6 },
  { cls := 6, slots := #[.null, .int 0, .int 0, .int 0, .int 0, .int 2], vm := .none },
  { cls := 6, slots := #[.null, .int 0, .int 0, .int 0, .int 0, .int 3], vm := .none },
  { cls := 6, slots := #[.null, .int 0, .int 0, .int 0, .int 0, .int 0], vm := .none },
  { cls := 6, slots := #[.null, .int 0, .int 0, .int 0, .int 0, .int 1], vm := .none },
  { cls := 6, slots := #[.null, .int 0, .int 0, .int 0, .int 0, .int 0], vm := .none },
  { cls := 6, slots := #[.null, .int 0, .int 0, .int 0, .int 0, .int 3], vm := .none },
  { cls := 6, slots := #[.null, .int 0, .int 0, .int 0, .int 0, .int 2], vm := .none },
  { cls := 6, slots := #[.null, .int 0, .int 0, .int 0, .int 0, .int 0], vm := .none },
  { cls := 6, slots := #[.null, .int 0, .int 0, .int 0, .int 0, .int 2], vm := .none },
  { cls := 6, slots := #[.null, .int 0, .int 0, .int 0, .int 0, .int 1], vm := .none },
  { cls := 6, slots := #[.null, .int 0, .int 0, .int 0, .int 0, .int 1], vm := .none },
  { cls := 6, slots := #[.null, .int 0, .int 0, .int 0, .int 0, .int 0], vm := .none },
  { cls := 6, slots := #[.null, .int 0, .int 0, .int 0, .int 0, .int 0], vm := .none }]
def classes : Array Class := #[k0, k1, k2, k3, k4, k5, k6, k7, k8, k9]
def interned : List (Array UInt16 × Addr) := []
def slotsUsed : Nat := 92
def theMethod : MethodId := ⟨1, 3⟩
def args0 : Array Value := #[.int 5, .int 6, .int 7]
def aboutOver (below : List Frame) : State where
  vm := { classes := classes, interned := interned.toArray }
  heap := heap
  slotsUsed := slotsUsed
  threads := #[{ frames := .invoking theMethod args0 :: below }]
def below0 : List Frame := [.native { method := ⟨0, 0⟩, args := #[] }]
def about1 : State := aboutOver below0
def p0 : Program := .bare "" "" ""
def e0 : Env := launch0.env 0 0 0
theorem w_frames : about1.frames = Frame.invoking theMethod args0 :: below0 := rfl
set_option maxRecDepth 65536 in
theorem w_args : argsFit about1.vm theMethod args0 = true := by decide +kernel
set_option maxRecDepth 65536 in
theorem w_heap : heapFits about1 = true := by decide +kernel
set_option maxRecDepth 65536 in
theorem w_runnable : about1.curStatus? = some .runnable := by decide +kernel
set_option maxRecDepth 65536 in
theorem w_alone : about1.alone = true := by decide +kernel
set_option maxRecDepth 65536 in
theorem w_named : about1.methodNamed? x = some theMethod := by decide +kernel
set_option maxRecDepth 65536 in
theorem w_hears : about1.hears theMethod below0 = true := by decide +kernel
set_option maxRecDepth 65536 in
theorem w_ripe : about1.ripe theMethod args0 below0 = true := by decide +kernel
theorem w_running : about1.status = .running := rfl
set_option maxRecDepth 65536 in
theorem w_room : about1.hasRoom e0.platform room_1 = true :=
  launch0.hasRoom_least _ room_1 (by decide +kernel) (by decide +kernel) (by decide +kernel) (by decide +kernel) (by decide +kernel) (by decide +kernel)
theorem allAtoms_all (ts : List Jvm.Cond) (a : Array Jvm.Value) (st : Jvm.State) : (allAtoms ts).before a st = ts.all (fun c => c.before a st) := by
  induction ts with
  | nil => rfl
  | cons c t ih =>
    show (Jvm.Cond.and c (allAtoms t)).before a st = _
    rw [Jvm.Cond.before_and, ih, List.all_cons]
def words1 : List Jvm.Cond := Jvm.Cond.code x code maxLocals ret :: tables_1
/-- a 'code' word, met by the world's own term for the bytes: nothing is compared byte by byte -/
theorem code_word {y : MethodName} {bytes : ByteArray} {mx : Nat} {rt : Option FieldType} {a : Array Value} {s : State} {m : MethodId} {meth : Method} {c : Code} (h1 : s.methodNamed? y = some m) (h2 : s.vm.method? m = some meth) (h3 : meth.code = some c) (h4 : c.code = bytes)
    (h5 : (c.maxLocals == mx && c.exceptionTable.isEmpty && decide (c.maxStack ≤ mostOperands) && decide (meth.sig.returnType = rt) && !meth.locks && decide (parseMethodDescriptor y.desc = some meth.sig)) = true) : (Jvm.Cond.code y bytes mx rt).before a s = true := by
  simp only [Bool.and_eq_true, beq_iff_eq, Bool.not_eq_true', decide_eq_true_eq] at h5
  obtain ⟨⟨⟨⟨⟨g1, g2⟩, g3⟩, g4⟩, g5⟩, g6⟩ := h5
  simp [Cond.before, Cond.holds, Cond.value, h1, h2, h3, h4, g1, g2, g3, g4, g5, g6]
def isCode : Jvm.Cond → Bool
  | .code _ _ _ _ => true
  | _ => false
theorem all_split {L : List Jvm.Cond} {P : Jvm.Cond → Bool} (h1 : L.all (fun c => isCode c || P c) = true) (h2 : ∀ c ∈ L.filter isCode, P c = true) : L.all P = true := by
  refine List.all_eq_true.mpr fun c hc => ?_
  have h := List.all_eq_true.mp h1 c hc
  rcases Bool.eq_false_or_eq_true (isCode c) with hi | hi
  · exact h2 c (List.mem_filter.mpr ⟨hc, hi⟩)
  · simpa [hi] using h
set_option maxRecDepth 65536 in
theorem w_c0 : (Jvm.Cond.code x code maxLocals ret).before args0 about1 = true := code_word (m := ⟨1, 3⟩) (meth := k1m3) (c := k1c3) (by decide +kernel) rfl rfl rfl (by decide +kernel)
set_option maxRecDepth 65536 in
theorem w_c1 : (Jvm.Cond.code ({ cls := "com/example/earmark_ledger/earmarkledger/protocol/ApiKeySupportsPinLaw", name := "pick", desc := "(I)Lcom/example/earmark_ledger/earmarkledger/protocol/ApiKey;" } : Jvm.MethodName) method_2_code (1 : Nat) (Option.some (Jvm.ClassFile.FieldType.object "com/example/earmark_ledger/earmarkledger/protocol/ApiKey"))).before args0 about1 = true := code_word (m := ⟨1, 1⟩) (meth := k1m1) (c := k1c1) (by decide +kernel) rfl rfl rfl (by decide +kernel)
set_option maxRecDepth 65536 in
theorem w_c2 : (Jvm.Cond.code ({ cls := "com/example/earmark_ledger/earmarkledger/protocol/ApiKeySupportsPinLaw", name := "maxOf", desc := "(I)I" } : Jvm.MethodName) method_3_code (1 : Nat) (Option.some Jvm.ClassFile.FieldType.int)).before args0 about1 = true := code_word (m := ⟨1, 2⟩) (meth := k1m2) (c := k1c2) (by decide +kernel) rfl rfl rfl (by decide +kernel)
set_option maxRecDepth 65536 in
theorem w_c3 : (Jvm.Cond.code ({ cls := "com/example/earmark_ledger/earmarkledger/protocol/ApiKey", name := "supports", desc := "(S)Z" } : Jvm.MethodName) prog_25_method_7_code (2 : Nat) (Option.some Jvm.ClassFile.FieldType.boolean)).before args0 about1 = true := code_word (m := ⟨6, 0⟩) (meth := k6m0) (c := k6c0) (by decide +kernel) rfl rfl rfl (by decide +kernel)
def codes1 : List Jvm.Cond := [Jvm.Cond.code x code maxLocals ret, Jvm.Cond.code ({ cls := "com/example/earmark_ledger/earmarkledger/protocol/ApiKeySupportsPinLaw", name := "pick", desc := "(I)Lcom/example/earmark_ledger/earmarkledger/protocol/ApiKey;" } : Jvm.MethodName) method_2_code (1 : Nat) (Option.some (Jvm.ClassFile.FieldType.object "com/example/earmark_ledger/earmarkledger/protocol/ApiKey")), Jvm.Cond.code ({ cls := "com/example/earmark_ledger/earmarkledger/protocol/ApiKeySupportsPinLaw", name := "maxOf", desc := "(I)I" } : Jvm.MethodName) method_3_code (1 : Nat) (Option.some Jvm.ClassFile.FieldType.int), Jvm.Cond.code ({ cls := "com/example/earmark_ledger/earmarkledger/protocol/ApiKey", name := "supports", desc := "(S)Z" } : Jvm.MethodName) prog_25_method_7_code (2 : Nat) (Option.some Jvm.ClassFile.FieldType.boolean)]
set_option maxRecDepth 65536 in
theorem codes_eq : words1.filter isCode = codes1 := rfl
theorem w_codes : ∀ c ∈ words1.filter isCode, c.before args0 about1 = true := by
  rw [codes_eq]
  intro c hc
  simp only [codes1, List.mem_cons, List.not_mem_nil, or_false] at hc
  rcases hc with rfl | rfl | rfl | rfl
  · exact w_c0
  · exact w_c1
  · exact w_c2
  · exact w_c3
set_option maxRecDepth 65536 in
theorem w_t1 : (words1.take 24).all (fun c => isCode c || c.before args0 about1) = true := by decide +kernel
set_option maxRecDepth 65536 in
theorem w_t2 : (words1.drop 24).all (fun c => isCode c || c.before args0 about1) = true := by decide +kernel
theorem w_tables : (allAtoms (Jvm.Cond.code x code maxLocals ret :: tables_1)).before args0 about1 = true := by
  rw [allAtoms_all]
  show words1.all (fun c => c.before args0 about1) = true
  refine all_split ?_ w_codes
  rw [← List.take_append_drop 24 words1, List.all_append, w_t1, w_t2]
  rfl
set_option maxRecDepth 65536 in
theorem w_case : (Jvm.Cond.and given_1 narrow_1).before args0 about1 = true := by decide +kernel
theorem w_applies : (headSpec (Jvm.Cond.code x code maxLocals ret :: tables_1) room_1).applies x e0.platform about1 = true :=
  (Spec.applies_iff w_frames).mpr ⟨w_running, w_runnable, w_alone, w_named, w_hears, w_ripe, w_room, w_tables⟩
theorem atStart : AtStart classFile x code maxLocals ret World_1 tables_1 room_1 Calls_1 rest_1 Pre_1 launch0 p0 e0 about1 theMethod args0 below0 :=
  ⟨lists_1, trivial, launch0.admits_env _ _ _, launch0.least_env, fairChoices_fair.cas, fairChoices_fair.clock, w_frames, w_args, w_heap, w_applies, trivial, trivial, w_case⟩
end start1
theorem witness_1 : WitnessClaimed_1 := ⟨start1.p0, start1.e0, start1.about1, start1.theMethod, start1.args0, start1.below0, start1.atStart⟩
end Jvm.Pilot.@@N@@
