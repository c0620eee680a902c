import JvmDerived
import JvmDerived.Pilot.@@N@@Statement
import JvmDerived.Pilot.@@N@@Code
set_option linter.unusedVariables false
set_option linter.unusedSimpArgs false
namespace Jvm.RoadKit
open Sem ClassFile Op Lib Jvm.Stand Jvm.Free Jvm.LawKit
section New
variable {p : Program} {l : Launch} {e : Env} {R : Room} {s : State} {m : MethodId} {args : Array Value} {below : List Frame} {meth : Method} {c : Code} {T : State} {locs : List Loc} {cells slots : Nat}
theorem retI (X : Stand p l e R s m args below meth c T locs cells slots) (hx : p.tables.exec = Jvm.exec) {pc : Nat} {Ls : Array Slot} {z : Int32} {rest : List Value} (hret : meth.sig.returnType = some .int) (hd : decode c.code pc = .ok (.ireturn, 1)) {fs : List Frame}
    (hl : ∀ (f : JFrame) (acts : List Action), f.method = m → f.locked = none → f.entered = [] → (doReturn e (T.setTop f) acts (some (.int z))).1 = T.setFrames fs) : Steps p.tables e below (T.setTop (mkF m pc Ls (.int z :: rest))) (T.setFrames fs) := by
  have hm' : T.vm.method? m = some meth := X.method'
  have hn : narrow .int (.int z) = .int z := rfl
  show Steps p.tables e below (T.setTop { method := m, pc := pc, locals := Ls, stack := _ :: rest, locked := none }) _
  jvm_step X.here [X.here.top, hx, hd, hm', hret, hn]
  first | (intro acts; rw [hl _ acts rfl rfl rfl]) | rw [hl _ _ rfl rfl rfl]
  exact Steps.refl _
end New
end Jvm.RoadKit
namespace Jvm.Pilot.@@N@@
open Jvm Jvm.ClassFile Sem Op Lib Jvm.Free Jvm.Stand Jvm.LawKit Jvm.RoadKit Bundle Jvm.Pilot.@@N@@.Jvm.D
section OwnGo
variable {p : Program} {l : Launch} {e : Env} {R : Room} {s : State} {m : MethodId} {args : Array Value} {below : List Frame} {meth : Method} {c : Code} {T T' : State} {locs : List Loc} {cells slots : Nat} {C S : Nat} {Q : Option Value → Heap → List Loc → Prop} {h : Heap}
/-- from here the run comes to a return of which Q holds -/
def Go (p : Program) (e : Env) (below : List Frame) (s : State) (Q : Option Value → Heap → List Loc → Prop) (C S : Nat) (S0 : State) : Prop :=
  ∃ s₂ o, Steps p.tables e below S0 s₂ ∧ s₂.status = .running ∧ Ended s₂ below o ∧ ∃ v L, o = .returned v ∧ Q v s₂.heap L ∧ FrameEnd s o s₂ L C S
theorem own_go {S0 : State} (k : Go p e below s Q C S S0) : ∃ s₂ o, Steps p.tables e below S0 s₂ ∧ s₂.status = .running ∧ Ended s₂ below o ∧ ∃ v L, o = .returned v ∧ Q v s₂.heap L ∧ FrameEnd s o s₂ L C S := k
theorem Go.to {g g' : JFrame} (st : ∀ t, Steps p.tables e below (T'.setTop g') t → Steps p.tables e below (T.setTop g) t) (k : Go p e below s Q C S (T'.setTop g')) : Go p e below s Q C S (T.setTop g) := by
  obtain ⟨s₂, o, h1, r⟩ := k
  exact ⟨s₂, o, st _ h1, r⟩
theorem Go.retI (X : Stand p l e R s m args below meth c T locs cells slots) (hx : p.tables.exec = Jvm.exec) {pc : Nat} {Ls : Array Slot} {z : Int32} {rest : List Value} (hret : meth.sig.returnType = some .int) (hlk : meth.locks = false) (hd : decode c.code pc = .ok (.ireturn, 1)) (hC : cells ≤ C) (hS : slots ≤ S) (eT : T.heap = h) (hQ : Q (some (.int z)) h locs) :
    Go p e below s Q C S (T.setTop (mkF m pc Ls (.int z :: rest))) := by
  obtain ⟨fs, hr, hrun, hended, hW, hsame⟩ := X.leave (v := some (.int z)) (fun h => by rw [hret] at h; cases h) hlk
  exact ⟨_, _, Jvm.RoadKit.retI X hx hret hd hr, hrun, hended, _, _, rfl, (show Q (some (.int z)) T.heap locs from eT ▸ hQ), ⟨_, rfl⟩, hW, hsame.mono hC hS⟩
theorem Go.retN (X : Stand p l e R s m args below meth c T locs cells slots) (hx : p.tables.exec = Jvm.exec) {pc : Nat} {Ls : Array Slot} {z : Int32} {t : FieldType} {rest : List Value} (hret : meth.sig.returnType = some t) (hlk : meth.locks = false) (ht : t = .boolean ∨ t = .byte ∨ t = .char ∨ t = .short) (hd : decode c.code pc = .ok (.ireturn, 1)) (hC : cells ≤ C) (hS : slots ≤ S) (eT : T.heap = h) (hQ : Q (some (.int (nar t z))) h locs) :
    Go p e below s Q C S (T.setTop (mkF m pc Ls (.int z :: rest))) := by
  obtain ⟨fs, hr, hrun, hended, hW, hsame⟩ := X.leave (v := some (.int (nar t z))) (fun h => by rw [hret] at h; cases h) hlk
  exact ⟨_, _, Jvm.RoadKit.retN X hx hret ht hd hr, hrun, hended, _, _, rfl, (show Q (some (.int (nar t z))) T.heap locs from eT ▸ hQ), ⟨_, rfl⟩, hW, hsame.mono hC hS⟩
theorem Go.ret (X : Stand p l e R s m args below meth c T locs cells slots) (hx : p.tables.exec = Jvm.exec) {pc : Nat} {Ls : Array Slot} (hret : meth.sig.returnType = none) (hlk : meth.locks = false) (hd : decode c.code pc = .ok (.return_, 1)) (hC : cells ≤ C) (hS : slots ≤ S) (eT : T.heap = h) (hQ : Q none h locs) :
    Go p e below s Q C S (T.setTop (mkF m pc Ls [])) := by
  obtain ⟨fs, hr, hrun, hended, hW, hsame⟩ := X.leave (v := none) (fun _ => rfl) hlk
  exact ⟨_, _, X.returnOut hx hret hd hr, hrun, hended, _, _, rfl, (show Q none T.heap locs from eT ▸ hQ), ⟨_, rfl⟩, hW, hsame.mono hC hS⟩
theorem Go.retJ (X : Stand p l e R s m args below meth c T locs cells slots) (hx : p.tables.exec = Jvm.exec) {pc : Nat} {Ls : Array Slot} {z : Int64} {rest : List Value} (hret : meth.sig.returnType = some .long) (hlk : meth.locks = false) (hd : decode c.code pc = .ok (.lreturn, 1)) (hC : cells ≤ C) (hS : slots ≤ S) (eT : T.heap = h) (hQ : Q (some (.long z)) h locs) :
    Go p e below s Q C S (T.setTop (mkF m pc Ls (.long z :: rest))) := by
  obtain ⟨fs, hr, hrun, hended, hW, hsame⟩ := X.leave (v := some (.long z)) (fun h => by rw [hret] at h; cases h) hlk
  exact ⟨_, _, retOut X hx hret rfl (Or.inr (Or.inl ⟨rfl, rfl, _, rfl⟩)) hd hr, hrun, hended, _, _, rfl, (show Q (some (.long z)) T.heap locs from eT ▸ hQ), ⟨_, rfl⟩, hW, hsame.mono hC hS⟩
theorem Go.retA (X : Stand p l e R s m args below meth c T locs cells slots) (hx : p.tables.exec = Jvm.exec) {pc : Nat} {Ls : Array Slot} {z : Addr} {t : FieldType} {rest : List Value} (hret : meth.sig.returnType = some t) (hlk : meth.locks = false) (ht : t.isReference = true) (hd : decode c.code pc = .ok (.areturn, 1)) (hC : cells ≤ C) (hS : slots ≤ S) (eT : T.heap = h) (hQ : Q (some (.ref z)) h locs) :
    Go p e below s Q C S (T.setTop (mkF m pc Ls (.ref z :: rest))) := by
  obtain ⟨fs, hr, hrun, hended, hW, hsame⟩ := X.leave (v := some (.ref z)) (fun h => by rw [hret] at h; cases h) hlk
  exact ⟨_, _, retOut X hx hret (by cases t <;> first | rfl | cases ht) (Or.inr (Or.inr (Or.inr (Or.inr ⟨rfl, ht, rfl⟩)))) hd hr, hrun, hended, _, _, rfl, (show Q (some (.ref z)) T.heap locs from eT ▸ hQ), ⟨_, rfl⟩, hW, hsame.mono hC hS⟩
end OwnGo
theorem own_irr (x : Int32) : ¬ x < x := by rw [Int32.lt_iff_toInt_lt]; omega
theorem own_irrL (x : Int64) : ¬ x < x := by rw [Int64.lt_iff_toInt_lt]; omega
theorem own_lrem {p : Program} {l : Launch} {e : Env} {R : Room} {s : State} {m : MethodId} {args : Array Value} {below : List Frame} {meth : Method} {c : Code} {T target : State} {locs : List Loc} {cells slots : Nat} {g : JFrame} (X : Stand p l e R s m args below meth c T locs cells slots) (hx : p.tables.exec = Jvm.exec) (hg : g.method = m) {x y : Int64} {rest : List Value} (hd : decode c.code g.pc = .ok (.lrem, 1)) (hs : g.stack = .long y :: .long x :: rest) (hy : y ≠ 0)
    (hr : Steps p.tables e below (T.setTop { g with pc := g.pc + 1, stack := .long (x % y) :: rest }) target) : Steps p.tables e below (T.setTop g) target :=
  XS.lrem X.here hx hg hd hs hy (by rw [lrem_mod]; exact hr)
theorem own_int {c : Cell} {vs : List Value} {d : Value} {j z : Int32} (H : Has c vs d) (G : ∀ i, i < c.slots.size → fits .int (vs.getD i d) = true) (hin : ¬ (j < 0 ∨ c.slots.size ≤ j.toNatClampNeg)) : ∃ x : Int32, c.slots[j.toNatClampNeg]? = some (.int x) := by
  have hk : j.toNatClampNeg < c.slots.size := Nat.lt_of_not_le fun q => hin (Or.inr q)
  have h1 := H _ hk
  have h2 := G _ hk
  cases hv : vs.getD j.toNatClampNeg d with
  | int x => exact ⟨x, by rw [h1, hv]⟩
  | _ => rw [hv] at h2; simp [fits] at h2
theorem d2_0 : decode jdk_30_method_1_code 0 = .ok (.aload_n 0, 1) := by decide +kernel
theorem d2_1 : decode jdk_30_method_1_code 1 = .ok (.invokespecial 1, 3) := by decide +kernel
theorem d2_4 : decode jdk_30_method_1_code 4 = .ok (.return_, 1) := by decide +kernel
theorem pn_java_lang_Record : plainName "java/lang/Record" = true := by first | (simp [plainName, overriddenIn]; done) | decide +kernel
theorem d1_0 : decode prog_30_method_1_code 0 = .ok (.aload_n 0, 1) := by decide +kernel
theorem d1_1 : decode prog_30_method_1_code 1 = .ok (.invokespecial 3, 3) := by decide +kernel
theorem pd_2829V : parseMethodDescriptor "()V" = some ⟨[], none⟩ := by decide +kernel
theorem d1_4 : decode prog_30_method_1_code 4 = .ok (.lload_n 1, 1) := by decide +kernel
theorem d1_5 : decode prog_30_method_1_code 5 = .ok (.lconst 0, 1) := by decide +kernel
theorem d1_6 : decode prog_30_method_1_code 6 = .ok (.lcmp, 1) := by decide +kernel
theorem d1_7 : decode prog_30_method_1_code 7 = .ok (.ifCond .lt 34, 3) := by decide +kernel
theorem d1_10 : decode prog_30_method_1_code 10 = .ok (.lload_n 3, 1) := by decide +kernel
theorem d1_11 : decode prog_30_method_1_code 11 = .ok (.lconst 0, 1) := by decide +kernel
theorem d1_12 : decode prog_30_method_1_code 12 = .ok (.lcmp, 1) := by decide +kernel
theorem d1_13 : decode prog_30_method_1_code 13 = .ok (.ifCond .lt 28, 3) := by decide +kernel
theorem d1_16 : decode prog_30_method_1_code 16 = .ok (.lload_n 1, 1) := by decide +kernel
theorem d1_17 : decode prog_30_method_1_code 17 = .ok (.lconst 0, 1) := by decide +kernel
theorem d1_18 : decode prog_30_method_1_code 18 = .ok (.lcmp, 1) := by decide +kernel
theorem d1_19 : decode prog_30_method_1_code 19 = .ok (.ifCond .ne 7, 3) := by decide +kernel
theorem d1_22 : decode prog_30_method_1_code 22 = .ok (.iconst 1, 1) := by decide +kernel
theorem d1_23 : decode prog_30_method_1_code 23 = .ok (.goto 4, 3) := by decide +kernel
theorem d1_27 : decode prog_30_method_1_code 27 = .ok (.lload_n 3, 1) := by decide +kernel
theorem d1_28 : decode prog_30_method_1_code 28 = .ok (.lconst 0, 1) := by decide +kernel
theorem d1_29 : decode prog_30_method_1_code 29 = .ok (.lcmp, 1) := by decide +kernel
theorem d1_30 : decode prog_30_method_1_code 30 = .ok (.ifCond .ne 7, 3) := by decide +kernel
theorem d1_37 : decode prog_30_method_1_code 37 = .ok (.iconst 0, 1) := by decide +kernel
theorem d1_38 : decode prog_30_method_1_code 38 = .ok (.if_icmp .ne 18, 3) := by decide +kernel
theorem d1_56 : decode prog_30_method_1_code 56 = .ok (.lload_n 3, 1) := by decide +kernel
theorem d1_57 : decode prog_30_method_1_code 57 = .ok (.lconst 0, 1) := by decide +kernel
theorem d1_58 : decode prog_30_method_1_code 58 = .ok (.lcmp, 1) := by decide +kernel
theorem d1_59 : decode prog_30_method_1_code 59 = .ok (.ifCond .le 25, 3) := by decide +kernel
theorem d1_62 : decode prog_30_method_1_code 62 = .ok (.lload_n 3, 1) := by decide +kernel
theorem d1_63 : decode prog_30_method_1_code 63 = .ok (.ldc2_w 18, 3) := by decide +kernel
theorem d1_66 : decode prog_30_method_1_code 66 = .ok (.lcmp, 1) := by decide +kernel
theorem d1_67 : decode prog_30_method_1_code 67 = .ok (.ifCond .gt 17, 3) := by decide +kernel
theorem d1_84 : decode prog_30_method_1_code 84 = .ok (.aload_n 0, 1) := by decide +kernel
theorem d1_85 : decode prog_30_method_1_code 85 = .ok (.lload_n 1, 1) := by decide +kernel
theorem d1_86 : decode prog_30_method_1_code 86 = .ok (.putfield 23, 3) := by decide +kernel
theorem d1_89 : decode prog_30_method_1_code 89 = .ok (.aload_n 0, 1) := by decide +kernel
theorem d1_90 : decode prog_30_method_1_code 90 = .ok (.lload_n 3, 1) := by decide +kernel
theorem d1_91 : decode prog_30_method_1_code 91 = .ok (.putfield 27, 3) := by decide +kernel
theorem d1_94 : decode prog_30_method_1_code 94 = .ok (.return_, 1) := by decide +kernel
theorem d1_26 : decode prog_30_method_1_code 26 = .ok (.iconst 0, 1) := by decide +kernel
theorem d1_33 : decode prog_30_method_1_code 33 = .ok (.iconst 1, 1) := by decide +kernel
theorem d1_34 : decode prog_30_method_1_code 34 = .ok (.goto 4, 3) := by decide +kernel
theorem pn_com_example_dispatch_to_workers_dispatchtoworkers_core_TimeLimit : plainName "com/example/dispatch_to_workers/dispatchtoworkers/core/TimeLimit" = true := by first | (simp [plainName, overriddenIn]; done) | decide +kernel
theorem d4_0 : decode prog_30_method_4_code 0 = .ok (.aload_n 0, 1) := by decide +kernel
theorem d4_1 : decode prog_30_method_4_code 1 = .ok (.getfield 27, 3) := by decide +kernel
theorem d4_4 : decode prog_30_method_4_code 4 = .ok (.lconst 0, 1) := by decide +kernel
theorem d4_5 : decode prog_30_method_4_code 5 = .ok (.lcmp, 1) := by decide +kernel
theorem d4_6 : decode prog_30_method_4_code 6 = .ok (.ifCond .le 7, 3) := by decide +kernel
theorem d4_9 : decode prog_30_method_4_code 9 = .ok (.iconst 1, 1) := by decide +kernel
theorem d4_10 : decode prog_30_method_4_code 10 = .ok (.goto 4, 3) := by decide +kernel
theorem d4_14 : decode prog_30_method_4_code 14 = .ok (.ireturn, 1) := by decide +kernel
theorem d4_13 : decode prog_30_method_4_code 13 = .ok (.iconst 0, 1) := by decide +kernel
theorem pd_28JJ29V : parseMethodDescriptor "(JJ)V" = some ⟨[.long, .long], none⟩ := by decide +kernel
theorem pd_2829Z : parseMethodDescriptor "()Z" = some ⟨[], some .boolean⟩ := by decide +kernel
theorem pn_com_example_dispatch_to_workers_dispatchtoworkers_core_TimeLimitOfMedianPinLaw : plainName "com/example/dispatch_to_workers/dispatchtoworkers/core/TimeLimitOfMedianPinLaw" = true := by first | (simp [plainName, overriddenIn]; done) | decide +kernel
theorem own_pc2 {q : Int64} (h : (100 : Int64) < q) : ¬ q < (0 : Int64) ∧ ¬ q = (0 : Int64) ∧ (0 : Int64) < q := by
  rw [Int64.lt_iff_toInt_lt] at h
  have e1 : (100 : Int64).toInt = 100 := rfl
  have e0 : (0 : Int64).toInt = 0 := rfl
  refine ⟨?_, ?_, ?_⟩
  · rw [Int64.lt_iff_toInt_lt]; omega
  · rw [← Int64.toInt_inj]; omega
  · rw [Int64.lt_iff_toInt_lt]; omega
theorem own_sec2 {q : Int64} (h : (0 : Int64) < q) : ¬ q < (0 : Int64) ∧ ¬ q = (0 : Int64) := by
  rw [Int64.lt_iff_toInt_lt] at h
  have e0 : (0 : Int64).toInt = 0 := rfl
  refine ⟨?_, ?_⟩
  · rw [Int64.lt_iff_toInt_lt]; omega
  · rw [← Int64.toInt_inj]; omega
theorem own_pc (b : Int64) : (100 : Int64) < ((101 : Int64) + ((b &&& (9223372036854775807 : Int64)) % (9223372036854775707 : Int64))) := by
  have h1 := c_maskL b (9223372036854775807 : Int64) 63 (by decide) (by decide)
  have h2 := (c_lrem (b &&& (9223372036854775807 : Int64)) (9223372036854775707 : Int64) 9223372036854775707 (by decide)).1
  rw [lrem_mod] at h2
  have h3 := c_ladd (101 : Int64) ((b &&& (9223372036854775807 : Int64)) % (9223372036854775707 : Int64))
  have h4 := rng64 ((101 : Int64) + ((b &&& (9223372036854775807 : Int64)) % (9223372036854775707 : Int64)))
  have e1 : (100 : Int64).toInt = 100 := rfl
  have e2 : (101 : Int64).toInt = 101 := rfl
  rw [Int64.lt_iff_toInt_lt]
  omega
theorem own_sec (a : Int64) : (0 : Int64) < ((1 : Int64) + ((a &&& (9223372036854775807 : Int64)) % (9223372036854775807 : Int64))) := by
  have h1 := c_maskL a (9223372036854775807 : Int64) 63 (by decide) (by decide)
  have h2 := (c_lrem (a &&& (9223372036854775807 : Int64)) (9223372036854775807 : Int64) 9223372036854775807 (by decide)).1
  rw [lrem_mod] at h2
  have h3 := c_ladd (1 : Int64) ((a &&& (9223372036854775807 : Int64)) % (9223372036854775807 : Int64))
  have h4 := rng64 ((1 : Int64) + ((a &&& (9223372036854775807 : Int64)) % (9223372036854775807 : Int64)))
  have e1 : (0 : Int64).toInt = 0 := rfl
  have e2 : (1 : Int64).toInt = 1 := rfl
  rw [Int64.lt_iff_toInt_lt]
  omega

theorem ef_rm2 (m : MethodId) (x0 : Addr) : entryFrame m #[(.ref x0)] 1 = mkF m 0 #[.val (.ref x0)] [] := by first | (simp [entryFrame, mkF, argsToLocals, Value.category]; done) | rfl
def Q2 (Z : State) (a0 : Addr) (h0 : Heap) (n0 : Nat) (v : Option Value) (h : Heap) (L : List Loc) : Prop := v = none ∧ Fr n0 L ∧ h = h0
set_option maxRecDepth 65536 in
set_option maxHeartbeats 40000000 in
theorem rm2 (l : Launch) (Z : State) (aw : Array Value) (hw : ∀ d ∈ tables_1, d.before aw Z = true) (ws : List Jvm.Cond) (a0 : Addr) (h0 : Heap) (n0 : Nat) (Z0 : n0 ≤ h0.size) :
    MetFree l (⟨"java/lang/Record", "<init>", "()V"⟩ : MethodName) (head1 (Jvm.Cond.code (⟨"java/lang/Record", "<init>", "()V"⟩ : MethodName) jdk_30_method_1_code 1 none :: ws) ({ frames := 1, cells := 0, slots := 0, locals := 12 } : Room)) (fun a U => a = #[(.ref a0)] ∧ Z.Warmed39 U.vm ∧ U.heap = h0) (fun _ _ _ _ _ => True) (fun _ U o U' => ∃ v L, o = .returned v ∧ Q2 Z a0 h0 n0 v U'.heap L ∧ FrameEnd U o U' L ({ frames := 1, cells := 0, slots := 0, locals := 12 } : Room).cells ({ frames := 1, cells := 0, slots := 0, locals := 12 } : Room).slots) := by
  refine MetFree.of_bodySF (plainFor_of_name pn_java_lang_Record) hisR ?_
  intro p e s m args below meth c s₁ Bd hml0 hP hK
  obtain ⟨rfl, hZ, hh⟩ := hP
  have hx := Bd.exec
  have hby := Bd.bytes
  have hml : c.maxLocals = 1 := hml0
  have hown : s.vm.findClass "java/lang/Record" = some m.cls := findClass_of_methodNamed Bd.named
  have hnm := (name_of_methodNamed Bd.named Bd.method).1
  have X0 : Stand p l e ({ frames := 1, cells := 0, slots := 0, locals := 12 } : Room) s m #[(.ref a0)] below meth c s₁ [] 0 0 := Stand.of_body Bd
  have e0 : s₁.heap = h0 := by rw [← hh, Bd.state]; rfl
  have N0 := Fr.nil n0
  refine own_go (Q := Q2 Z a0 h0 n0) ?_
  refine Go.to (g' := (mkF m 0 #[.val (.ref a0)] [])) (fun t k => castTop (ef_rm2 m a0) k) ?_
  refine Go.to (g' := (mkF m 1 #[.val (.ref a0)] [(.ref a0)])) (fun t k => XS.aloadN X0.here hx rfl (hb hby d2_0) rfl rfl k) ?_
  obtain ⟨T1, X1, e1, st1⟩ := initO X0 hx hZ hown (hw _ (List.mem_of_getElem? (i := 14) rfl)) (hw _ (List.mem_of_getElem? (i := 15) rfl)) (hw _ (List.mem_of_getElem? (i := 16) rfl)) e0 (g := (mkF m 1 #[.val (.ref a0)] [(.ref a0)])) rfl (by rw [hml]; rfl) rfl (hb hby d2_1) (by decide) (W := 0) (by show 2 * 0 + _ ≤ _; exact Nat.le_of_eq rfl) (by decide)
  refine Go.to (g' := (mkF m 4 #[.val (.ref a0)] [])) st1 ?_
  exact Go.ret X1 hx Bd.returns Bd.notSynchronized (hb hby d2_4) (by decide) (by decide) e1 ⟨rfl, N0, rfl⟩

theorem ef_rm1 (m : MethodId) (x0 : Addr) (x1 : Int64) (x2 : Int64) : entryFrame m #[(.ref x0), (.long x1), (.long x2)] 5 = mkF m 0 #[.val (.ref x0), .val (.long x1), .second, .val (.long x2), .second] [] := by first | (simp [entryFrame, mkF, argsToLocals, Value.category]; done) | rfl
def Q1 (Z : State) (a0 : Addr) (q1 : Int64) (q2 : Int64) (h0 : Heap) (n0 : Nat) (v : Option Value) (h : Heap) (L : List Loc) : Prop := v = none ∧ Fr n0 L ∧ Keep h0 h [a0] ∧ Fld Z h a0 "com/example/dispatch_to_workers/dispatchtoworkers/core/TimeLimit" "percent" "J" (.long q2)
set_option maxRecDepth 65536 in
set_option maxHeartbeats 40000000 in
theorem rm1 (l : Launch) (Z : State) (aw : Array Value) (hw : ∀ d ∈ tables_1, d.before aw Z = true) (ws : List Jvm.Cond) (a0 : Addr) (q1 : Int64) (q2 : Int64) (h0 : Heap) (n0 : Nat) (Z0 : n0 ≤ h0.size) (E_a0 : Exa Z h0 a0 "com/example/dispatch_to_workers/dispatchtoworkers/core/TimeLimit") (F1 : Fld Z h0 a0 "com/example/dispatch_to_workers/dispatchtoworkers/core/TimeLimit" "seconds" "J" (.long (0 : Int64))) (F2 : Fld Z h0 a0 "com/example/dispatch_to_workers/dispatchtoworkers/core/TimeLimit" "percent" "J" (.long (0 : Int64))) (g_a0 : n0 ≤ a0) (hp : (q1 = (0 : Int64) ∧ (100 : Int64) < q2) ∨ ((0 : Int64) < q1 ∧ q2 = (0 : Int64))) :
    MetFree l (⟨"com/example/dispatch_to_workers/dispatchtoworkers/core/TimeLimit", "<init>", "(JJ)V"⟩ : MethodName) (head1 (Jvm.Cond.code (⟨"com/example/dispatch_to_workers/dispatchtoworkers/core/TimeLimit", "<init>", "(JJ)V"⟩ : MethodName) prog_30_method_1_code 5 none :: ws) ({ frames := 2, cells := 0, slots := 0, locals := 24 } : Room)) (fun a U => a = #[(.ref a0), (.long q1), (.long q2)] ∧ Z.Warmed39 U.vm ∧ U.heap = h0) (fun _ _ _ _ _ => True) (fun _ U o U' => ∃ v L, o = .returned v ∧ Q1 Z a0 q1 q2 h0 n0 v U'.heap L ∧ FrameEnd U o U' L ({ frames := 2, cells := 0, slots := 0, locals := 24 } : Room).cells ({ frames := 2, cells := 0, slots := 0, locals := 24 } : Room).slots) := by
  refine MetFree.of_bodySF (plainFor_of_name pn_com_example_dispatch_to_workers_dispatchtoworkers_core_TimeLimit) hisR ?_
  intro p e s m args below meth c s₁ Bd hml0 hP hK
  obtain ⟨rfl, hZ, hh⟩ := hP
  have hx := Bd.exec
  have hby := Bd.bytes
  have hml : c.maxLocals = 5 := hml0
  have hown : s.vm.findClass "com/example/dispatch_to_workers/dispatchtoworkers/core/TimeLimit" = some m.cls := findClass_of_methodNamed Bd.named
  have hnm := (name_of_methodNamed Bd.named Bd.method).1
  have X0 : Stand p l e ({ frames := 2, cells := 0, slots := 0, locals := 24 } : Room) s m #[(.ref a0), (.long q1), (.long q2)] below meth c s₁ [] 0 0 := Stand.of_body Bd
  have e0 : s₁.heap = h0 := by rw [← hh, Bd.state]; rfl
  have N0 := Fr.nil n0
  refine own_go (Q := Q1 Z a0 q1 q2 h0 n0) ?_
  refine Go.to (g' := (mkF m 0 #[.val (.ref a0), .val (.long q1), .second, .val (.long q2), .second] [])) (fun t k => castTop (ef_rm1 m a0 q1 q2) k) ?_
  rcases hp with ⟨hp1, hp2⟩ | ⟨hp1, hp2⟩
  · obtain ⟨c13, c30, c59⟩ := own_pc2 hp2
    have c7 : ¬ q1 < (0 : Int64) := by rw [hp1]; exact own_irrL _
    refine Go.to (g' := (mkF m 1 #[.val (.ref a0), .val (.long q1), .second, .val (.long q2), .second] [(.ref a0)])) (fun t k => XS.aloadN X0.here hx rfl (hb hby d1_0) rfl rfl k) ?_
    obtain ⟨v1, _, ⟨T1, L1, k1, n1⟩, -, X1, ⟨Lc1, hQ1, l1, y1, z1⟩, st1⟩ := X0.specialBack hx (y := (⟨"java/lang/Record", "<init>", "()V"⟩ : MethodName)) rfl hown (mvT hZ (hw _ (List.mem_of_getElem? (i := 9) rfl))) (mvT hZ (hw _ (List.mem_of_getElem? (i := 10) rfl))) (mvT hZ (hw _ (List.mem_of_getElem? (i := 13) rfl))) (by decide) (backOf (W := 0) (rm2 l Z aw hw [] a0  h0 n0 Z0 ) hZ (hw _ (List.mem_of_getElem? (i := 13) rfl)) (hw _ (List.mem_of_getElem? (i := 12) rfl)) (by decide) (by decide)) (g := (mkF m 1 #[.val (.ref a0), .val (.long q1), .second, .val (.long q2), .second] [(.ref a0)])) rfl (by rw [hml]; rfl) (Steps.refl _) (a := a0) (argsL := []) (rest := []) (lenOf pd_2829V rfl) rfl (by show 2 * 0 + _ ≤ _; exact Nat.le_of_eq rfl) (hb hby d1_1) (fun _ _ => ⟨rfl, e0, (by decide : 0 + 0 ≤ _), (by decide : 0 + 0 ≤ _)⟩)
    dsimp only [Pt.U, Pt.locs, Pt.cells, Pt.slots] at X1 l1 y1 z1 st1 hQ1
    subst l1 y1 z1
    obtain ⟨rfl, N1q, e1⟩ := hQ1
    have N1 := Fr.app N0 N1q
    refine Go.to (g' := (mkF m 4 #[.val (.ref a0), .val (.long q1), .second, .val (.long q2), .second] [])) (fun t k => st1.trans k) ?_
    refine Go.to (g' := (mkF m 5 #[.val (.ref a0), .val (.long q1), .second, .val (.long q2), .second] [(.long q1)])) (fun t k => XS.lloadN X1.here hx rfl (hb hby d1_4) rfl k) ?_
    refine Go.to (g' := (mkF m 6 #[.val (.ref a0), .val (.long q1), .second, .val (.long q2), .second] [(.long (0 : Int64)), (.long q1)])) (fun t k => XS.lconst X1.here hx rfl (hb hby d1_5) k) ?_
    refine Go.to (g' := (mkF m 7 #[.val (.ref a0), .val (.long q1), .second, .val (.long q2), .second] [(.int (lcmpW q1 (0 : Int64)))])) (fun t k => XS.lcmp X1.here hx rfl (hb hby d1_6) rfl k) ?_
    refine Go.to (g' := (mkF m 10 #[.val (.ref a0), .val (.long q1), .second, .val (.long q2), .second] [])) (fun t k => XS.ifNo X1.here hx rfl (hb hby d1_7) rfl ((if0 _ _).trans (flt (fun q => c7 ((lw_lt q1 (0 : Int64)).mp q))).1) k) ?_
    refine Go.to (g' := (mkF m 11 #[.val (.ref a0), .val (.long q1), .second, .val (.long q2), .second] [(.long q2)])) (fun t k => XS.lloadN X1.here hx rfl (hb hby d1_10) rfl k) ?_
    refine Go.to (g' := (mkF m 12 #[.val (.ref a0), .val (.long q1), .second, .val (.long q2), .second] [(.long (0 : Int64)), (.long q2)])) (fun t k => XS.lconst X1.here hx rfl (hb hby d1_11) k) ?_
    refine Go.to (g' := (mkF m 13 #[.val (.ref a0), .val (.long q1), .second, .val (.long q2), .second] [(.int (lcmpW q2 (0 : Int64)))])) (fun t k => XS.lcmp X1.here hx rfl (hb hby d1_12) rfl k) ?_
    refine Go.to (g' := (mkF m 16 #[.val (.ref a0), .val (.long q1), .second, .val (.long q2), .second] [])) (fun t k => XS.ifNo X1.here hx rfl (hb hby d1_13) rfl ((if0 _ _).trans (flt (fun q => c13 ((lw_lt q2 (0 : Int64)).mp q))).1) k) ?_
    refine Go.to (g' := (mkF m 17 #[.val (.ref a0), .val (.long q1), .second, .val (.long q2), .second] [(.long q1)])) (fun t k => XS.lloadN X1.here hx rfl (hb hby d1_16) rfl k) ?_
    refine Go.to (g' := (mkF m 18 #[.val (.ref a0), .val (.long q1), .second, .val (.long q2), .second] [(.long (0 : Int64)), (.long q1)])) (fun t k => XS.lconst X1.here hx rfl (hb hby d1_17) k) ?_
    refine Go.to (g' := (mkF m 19 #[.val (.ref a0), .val (.long q1), .second, .val (.long q2), .second] [(.int (lcmpW q1 (0 : Int64)))])) (fun t k => XS.lcmp X1.here hx rfl (hb hby d1_18) rfl k) ?_
    refine Go.to (g' := (mkF m 22 #[.val (.ref a0), .val (.long q1), .second, .val (.long q2), .second] [])) (fun t k => XS.ifNo X1.here hx rfl (hb hby d1_19) rfl ((if0 _ _).trans (teq ((lw_eq q1 (0 : Int64)).mpr hp1)).2) k) ?_
    refine Go.to (g' := (mkF m 23 #[.val (.ref a0), .val (.long q1), .second, .val (.long q2), .second] [(.int (1 : Int32))])) (fun t k => XS.iconst X1.here hx rfl (hb hby d1_22) k) ?_
    refine Go.to (g' := (mkF m 27 #[.val (.ref a0), .val (.long q1), .second, .val (.long q2), .second] [(.int (1 : Int32))])) (fun t k => XS.goto X1.here hx rfl (pc0 := 23) (pc' := 27) rfl (hb hby d1_23) (by decide) (by decide) k) ?_
    refine Go.to (g' := (mkF m 28 #[.val (.ref a0), .val (.long q1), .second, .val (.long q2), .second] [(.long q2), (.int (1 : Int32))])) (fun t k => XS.lloadN X1.here hx rfl (hb hby d1_27) rfl k) ?_
    refine Go.to (g' := (mkF m 29 #[.val (.ref a0), .val (.long q1), .second, .val (.long q2), .second] [(.long (0 : Int64)), (.long q2), (.int (1 : Int32))])) (fun t k => XS.lconst X1.here hx rfl (hb hby d1_28) k) ?_
    refine Go.to (g' := (mkF m 30 #[.val (.ref a0), .val (.long q1), .second, .val (.long q2), .second] [(.int (lcmpW q2 (0 : Int64))), (.int (1 : Int32))])) (fun t k => XS.lcmp X1.here hx rfl (hb hby d1_29) rfl k) ?_
    refine Go.to (g' := (mkF m 37 #[.val (.ref a0), .val (.long q1), .second, .val (.long q2), .second] [(.int (1 : Int32))])) (fun t k => XS.ifYes X1.here hx rfl (pc0 := 30) (pc' := 37) rfl (hb hby d1_30) rfl ((if0 _ _).trans (feq (fun q => c30 ((lw_eq q2 (0 : Int64)).mp q))).2) (by decide) (by decide) k) ?_
    refine Go.to (g' := (mkF m 38 #[.val (.ref a0), .val (.long q1), .second, .val (.long q2), .second] [(.int (0 : Int32)), (.int (1 : Int32))])) (fun t k => XS.iconst X1.here hx rfl (hb hby d1_37) k) ?_
    refine Go.to (g' := (mkF m 56 #[.val (.ref a0), .val (.long q1), .second, .val (.long q2), .second] [])) (fun t k => XS.icmpYes X1.here hx rfl (pc0 := 38) (pc' := 56) rfl (hb hby d1_38) rfl (feq (by decide)).2 (by decide) (by decide) k) ?_
    refine Go.to (g' := (mkF m 57 #[.val (.ref a0), .val (.long q1), .second, .val (.long q2), .second] [(.long q2)])) (fun t k => XS.lloadN X1.here hx rfl (hb hby d1_56) rfl k) ?_
    refine Go.to (g' := (mkF m 58 #[.val (.ref a0), .val (.long q1), .second, .val (.long q2), .second] [(.long (0 : Int64)), (.long q2)])) (fun t k => XS.lconst X1.here hx rfl (hb hby d1_57) k) ?_
    refine Go.to (g' := (mkF m 59 #[.val (.ref a0), .val (.long q1), .second, .val (.long q2), .second] [(.int (lcmpW q2 (0 : Int64)))])) (fun t k => XS.lcmp X1.here hx rfl (hb hby d1_58) rfl k) ?_
    refine Go.to (g' := (mkF m 62 #[.val (.ref a0), .val (.long q1), .second, .val (.long q2), .second] [])) (fun t k => XS.ifNo X1.here hx rfl (hb hby d1_59) rfl ((if0 _ _).trans (tlt ((lw_gt q2 (0 : Int64)).mpr c59)).2.2.2) k) ?_
    refine Go.to (g' := (mkF m 63 #[.val (.ref a0), .val (.long q1), .second, .val (.long q2), .second] [(.long q2)])) (fun t k => XS.lloadN X1.here hx rfl (hb hby d1_62) rfl k) ?_
    refine Go.to (g' := (mkF m 66 #[.val (.ref a0), .val (.long q1), .second, .val (.long q2), .second] [(.long (100 : Int64)), (.long q2)])) (fun t k => X1.ldc2Long hx hown (mvT hZ (hw _ (List.mem_of_getElem? (i := 26) rfl))) (g := (mkF m 63 #[.val (.ref a0), .val (.long q1), .second, .val (.long q2), .second] [(.long q2)])) rfl (hb hby d1_63) _ k) ?_
    refine Go.to (g' := (mkF m 67 #[.val (.ref a0), .val (.long q1), .second, .val (.long q2), .second] [(.int (lcmpW q2 (100 : Int64)))])) (fun t k => XS.lcmp X1.here hx rfl (hb hby d1_66) rfl k) ?_
    refine Go.to (g' := (mkF m 84 #[.val (.ref a0), .val (.long q1), .second, .val (.long q2), .second] [])) (fun t k => XS.ifYes X1.here hx rfl (pc0 := 67) (pc' := 84) rfl (hb hby d1_67) rfl ((if0 _ _).trans (tlt ((lw_gt q2 (100 : Int64)).mpr hp2)).2.2.1) (by decide) (by decide) k) ?_
    refine Go.to (g' := (mkF m 85 #[.val (.ref a0), .val (.long q1), .second, .val (.long q2), .second] [(.ref a0)])) (fun t k => XS.aloadN X1.here hx rfl (hb hby d1_84) rfl rfl k) ?_
    refine Go.to (g' := (mkF m 86 #[.val (.ref a0), .val (.long q1), .second, .val (.long q2), .second] [(.long q1), (.ref a0)])) (fun t k => XS.lloadN X1.here hx rfl (hb hby d1_85) rfl k) ?_
    obtain ⟨T2, h2, X2, e2, W2, st2⟩ := putF X1 hx hZ hown (host := "") (Or.inl (hw _ (List.mem_of_getElem? (i := 17) rfl))) Via.refl e1 F1 E_a0 (Or.inr ⟨(hw _ (List.mem_of_getElem? (i := 18) rfl)), rfl, hnm⟩) (hw _ (List.mem_of_getElem? (i := 4) rfl)) (ty := .long) (by decide) rfl rfl (g := (mkF m 86 #[.val (.ref a0), .val (.long q1), .second, .val (.long q2), .second] [(.long q1), (.ref a0)])) rfl rfl (hb hby d1_86)
    have Z2 : n0 ≤ h2.size := Nat.le_trans Z0 (Keep.of_wr W2).1
    have K2 : Keep h0 h2 [a0] := (Keep.refl h0 [a0]).wr W2 (Or.inl (List.mem_of_getElem? (i := 0) rfl))
    have N2 := Fr.snoc X2 N1 g_a0
    have Fw2 : Fld Z h2 a0 "com/example/dispatch_to_workers/dispatchtoworkers/core/TimeLimit" "seconds" "J" (.long q1) := F1.same W2
    refine Go.to (g' := (mkF m 89 #[.val (.ref a0), .val (.long q1), .second, .val (.long q2), .second] [])) st2 ?_
    refine Go.to (g' := (mkF m 90 #[.val (.ref a0), .val (.long q1), .second, .val (.long q2), .second] [(.ref a0)])) (fun t k => XS.aloadN X2.here hx rfl (hb hby d1_89) rfl rfl k) ?_
    refine Go.to (g' := (mkF m 91 #[.val (.ref a0), .val (.long q1), .second, .val (.long q2), .second] [(.long q2), (.ref a0)])) (fun t k => XS.lloadN X2.here hx rfl (hb hby d1_90) rfl k) ?_
    have f3 : Fld Z h2 a0 "com/example/dispatch_to_workers/dispatchtoworkers/core/TimeLimit" "percent" "J" (.long (0 : Int64)) := (F2.other W2 (Or.inr (slot_ne (Or.inr (hw _ (List.mem_of_getElem? (i := 20) rfl))) (Or.inr (hw _ (List.mem_of_getElem? (i := 18) rfl))) (by decide) (t := .long) (t' := .long) (by decide) (by decide))))
    have f4 : Exa Z h2 a0 "com/example/dispatch_to_workers/dispatchtoworkers/core/TimeLimit" := (E_a0.wr W2)
    obtain ⟨T5, h5, X5, e5, W5, st5⟩ := putF X2 hx hZ hown (host := "") (Or.inl (hw _ (List.mem_of_getElem? (i := 19) rfl))) Via.refl e2 f3 f4 (Or.inr ⟨(hw _ (List.mem_of_getElem? (i := 20) rfl)), rfl, hnm⟩) (hw _ (List.mem_of_getElem? (i := 4) rfl)) (ty := .long) (by decide) rfl rfl (g := (mkF m 91 #[.val (.ref a0), .val (.long q1), .second, .val (.long q2), .second] [(.long q2), (.ref a0)])) rfl rfl (hb hby d1_91)
    have Z5 : n0 ≤ h5.size := Nat.le_trans Z2 (Keep.of_wr W5).1
    have K5 : Keep h0 h5 [a0] := K2.wr W5 (Or.inl (List.mem_of_getElem? (i := 0) rfl))
    have N5 := Fr.snoc X5 N2 g_a0
    have Fw5 : Fld Z h5 a0 "com/example/dispatch_to_workers/dispatchtoworkers/core/TimeLimit" "percent" "J" (.long q2) := f3.same W5
    refine Go.to (g' := (mkF m 94 #[.val (.ref a0), .val (.long q1), .second, .val (.long q2), .second] [])) st5 ?_
    exact Go.ret X5 hx Bd.returns Bd.notSynchronized (hb hby d1_94) (by decide) (by decide) e5 ⟨rfl, N5, K5, Fw5⟩
  · obtain ⟨c7, c19⟩ := own_sec2 hp1
    have c13 : ¬ q2 < (0 : Int64) := by rw [hp2]; exact own_irrL _
    have c59 : ¬ (0 : Int64) < q2 := by rw [hp2]; exact own_irrL _
    refine Go.to (g' := (mkF m 1 #[.val (.ref a0), .val (.long q1), .second, .val (.long q2), .second] [(.ref a0)])) (fun t k => XS.aloadN X0.here hx rfl (hb hby d1_0) rfl rfl k) ?_
    obtain ⟨v6, _, ⟨T6, L6, k6, n6⟩, -, X6, ⟨Lc6, hQ6, l6, y6, z6⟩, st6⟩ := X0.specialBack hx (y := (⟨"java/lang/Record", "<init>", "()V"⟩ : MethodName)) rfl hown (mvT hZ (hw _ (List.mem_of_getElem? (i := 9) rfl))) (mvT hZ (hw _ (List.mem_of_getElem? (i := 10) rfl))) (mvT hZ (hw _ (List.mem_of_getElem? (i := 13) rfl))) (by decide) (backOf (W := 0) (rm2 l Z aw hw [] a0  h0 n0 Z0 ) hZ (hw _ (List.mem_of_getElem? (i := 13) rfl)) (hw _ (List.mem_of_getElem? (i := 12) rfl)) (by decide) (by decide)) (g := (mkF m 1 #[.val (.ref a0), .val (.long q1), .second, .val (.long q2), .second] [(.ref a0)])) rfl (by rw [hml]; rfl) (Steps.refl _) (a := a0) (argsL := []) (rest := []) (lenOf pd_2829V rfl) rfl (by show 2 * 0 + _ ≤ _; exact Nat.le_of_eq rfl) (hb hby d1_1) (fun _ _ => ⟨rfl, e0, (by decide : 0 + 0 ≤ _), (by decide : 0 + 0 ≤ _)⟩)
    dsimp only [Pt.U, Pt.locs, Pt.cells, Pt.slots] at X6 l6 y6 z6 st6 hQ6
    subst l6 y6 z6
    obtain ⟨rfl, N6q, e6⟩ := hQ6
    have N6 := Fr.app N0 N6q
    refine Go.to (g' := (mkF m 4 #[.val (.ref a0), .val (.long q1), .second, .val (.long q2), .second] [])) (fun t k => st6.trans k) ?_
    refine Go.to (g' := (mkF m 5 #[.val (.ref a0), .val (.long q1), .second, .val (.long q2), .second] [(.long q1)])) (fun t k => XS.lloadN X6.here hx rfl (hb hby d1_4) rfl k) ?_
    refine Go.to (g' := (mkF m 6 #[.val (.ref a0), .val (.long q1), .second, .val (.long q2), .second] [(.long (0 : Int64)), (.long q1)])) (fun t k => XS.lconst X6.here hx rfl (hb hby d1_5) k) ?_
    refine Go.to (g' := (mkF m 7 #[.val (.ref a0), .val (.long q1), .second, .val (.long q2), .second] [(.int (lcmpW q1 (0 : Int64)))])) (fun t k => XS.lcmp X6.here hx rfl (hb hby d1_6) rfl k) ?_
    refine Go.to (g' := (mkF m 10 #[.val (.ref a0), .val (.long q1), .second, .val (.long q2), .second] [])) (fun t k => XS.ifNo X6.here hx rfl (hb hby d1_7) rfl ((if0 _ _).trans (flt (fun q => c7 ((lw_lt q1 (0 : Int64)).mp q))).1) k) ?_
    refine Go.to (g' := (mkF m 11 #[.val (.ref a0), .val (.long q1), .second, .val (.long q2), .second] [(.long q2)])) (fun t k => XS.lloadN X6.here hx rfl (hb hby d1_10) rfl k) ?_
    refine Go.to (g' := (mkF m 12 #[.val (.ref a0), .val (.long q1), .second, .val (.long q2), .second] [(.long (0 : Int64)), (.long q2)])) (fun t k => XS.lconst X6.here hx rfl (hb hby d1_11) k) ?_
    refine Go.to (g' := (mkF m 13 #[.val (.ref a0), .val (.long q1), .second, .val (.long q2), .second] [(.int (lcmpW q2 (0 : Int64)))])) (fun t k => XS.lcmp X6.here hx rfl (hb hby d1_12) rfl k) ?_
    refine Go.to (g' := (mkF m 16 #[.val (.ref a0), .val (.long q1), .second, .val (.long q2), .second] [])) (fun t k => XS.ifNo X6.here hx rfl (hb hby d1_13) rfl ((if0 _ _).trans (flt (fun q => c13 ((lw_lt q2 (0 : Int64)).mp q))).1) k) ?_
    refine Go.to (g' := (mkF m 17 #[.val (.ref a0), .val (.long q1), .second, .val (.long q2), .second] [(.long q1)])) (fun t k => XS.lloadN X6.here hx rfl (hb hby d1_16) rfl k) ?_
    refine Go.to (g' := (mkF m 18 #[.val (.ref a0), .val (.long q1), .second, .val (.long q2), .second] [(.long (0 : Int64)), (.long q1)])) (fun t k => XS.lconst X6.here hx rfl (hb hby d1_17) k) ?_
    refine Go.to (g' := (mkF m 19 #[.val (.ref a0), .val (.long q1), .second, .val (.long q2), .second] [(.int (lcmpW q1 (0 : Int64)))])) (fun t k => XS.lcmp X6.here hx rfl (hb hby d1_18) rfl k) ?_
    refine Go.to (g' := (mkF m 26 #[.val (.ref a0), .val (.long q1), .second, .val (.long q2), .second] [])) (fun t k => XS.ifYes X6.here hx rfl (pc0 := 19) (pc' := 26) rfl (hb hby d1_19) rfl ((if0 _ _).trans (feq (fun q => c19 ((lw_eq q1 (0 : Int64)).mp q))).2) (by decide) (by decide) k) ?_
    refine Go.to (g' := (mkF m 27 #[.val (.ref a0), .val (.long q1), .second, .val (.long q2), .second] [(.int (0 : Int32))])) (fun t k => XS.iconst X6.here hx rfl (hb hby d1_26) k) ?_
    refine Go.to (g' := (mkF m 28 #[.val (.ref a0), .val (.long q1), .second, .val (.long q2), .second] [(.long q2), (.int (0 : Int32))])) (fun t k => XS.lloadN X6.here hx rfl (hb hby d1_27) rfl k) ?_
    refine Go.to (g' := (mkF m 29 #[.val (.ref a0), .val (.long q1), .second, .val (.long q2), .second] [(.long (0 : Int64)), (.long q2), (.int (0 : Int32))])) (fun t k => XS.lconst X6.here hx rfl (hb hby d1_28) k) ?_
    refine Go.to (g' := (mkF m 30 #[.val (.ref a0), .val (.long q1), .second, .val (.long q2), .second] [(.int (lcmpW q2 (0 : Int64))), (.int (0 : Int32))])) (fun t k => XS.lcmp X6.here hx rfl (hb hby d1_29) rfl k) ?_
    refine Go.to (g' := (mkF m 33 #[.val (.ref a0), .val (.long q1), .second, .val (.long q2), .second] [(.int (0 : Int32))])) (fun t k => XS.ifNo X6.here hx rfl (hb hby d1_30) rfl ((if0 _ _).trans (teq ((lw_eq q2 (0 : Int64)).mpr hp2)).2) k) ?_
    refine Go.to (g' := (mkF m 34 #[.val (.ref a0), .val (.long q1), .second, .val (.long q2), .second] [(.int (1 : Int32)), (.int (0 : Int32))])) (fun t k => XS.iconst X6.here hx rfl (hb hby d1_33) k) ?_
    refine Go.to (g' := (mkF m 38 #[.val (.ref a0), .val (.long q1), .second, .val (.long q2), .second] [(.int (1 : Int32)), (.int (0 : Int32))])) (fun t k => XS.goto X6.here hx rfl (pc0 := 34) (pc' := 38) rfl (hb hby d1_34) (by decide) (by decide) k) ?_
    refine Go.to (g' := (mkF m 56 #[.val (.ref a0), .val (.long q1), .second, .val (.long q2), .second] [])) (fun t k => XS.icmpYes X6.here hx rfl (pc0 := 38) (pc' := 56) rfl (hb hby d1_38) rfl (feq (by decide)).2 (by decide) (by decide) k) ?_
    refine Go.to (g' := (mkF m 57 #[.val (.ref a0), .val (.long q1), .second, .val (.long q2), .second] [(.long q2)])) (fun t k => XS.lloadN X6.here hx rfl (hb hby d1_56) rfl k) ?_
    refine Go.to (g' := (mkF m 58 #[.val (.ref a0), .val (.long q1), .second, .val (.long q2), .second] [(.long (0 : Int64)), (.long q2)])) (fun t k => XS.lconst X6.here hx rfl (hb hby d1_57) k) ?_
    refine Go.to (g' := (mkF m 59 #[.val (.ref a0), .val (.long q1), .second, .val (.long q2), .second] [(.int (lcmpW q2 (0 : Int64)))])) (fun t k => XS.lcmp X6.here hx rfl (hb hby d1_58) rfl k) ?_
    refine Go.to (g' := (mkF m 84 #[.val (.ref a0), .val (.long q1), .second, .val (.long q2), .second] [])) (fun t k => XS.ifYes X6.here hx rfl (pc0 := 59) (pc' := 84) rfl (hb hby d1_59) rfl ((if0 _ _).trans (flt (fun q => c59 ((lw_gt q2 (0 : Int64)).mp q))).2.2.2) (by decide) (by decide) k) ?_
    refine Go.to (g' := (mkF m 85 #[.val (.ref a0), .val (.long q1), .second, .val (.long q2), .second] [(.ref a0)])) (fun t k => XS.aloadN X6.here hx rfl (hb hby d1_84) rfl rfl k) ?_
    refine Go.to (g' := (mkF m 86 #[.val (.ref a0), .val (.long q1), .second, .val (.long q2), .second] [(.long q1), (.ref a0)])) (fun t k => XS.lloadN X6.here hx rfl (hb hby d1_85) rfl k) ?_
    obtain ⟨T7, h7, X7, e7, W7, st7⟩ := putF X6 hx hZ hown (host := "") (Or.inl (hw _ (List.mem_of_getElem? (i := 17) rfl))) Via.refl e6 F1 E_a0 (Or.inr ⟨(hw _ (List.mem_of_getElem? (i := 18) rfl)), rfl, hnm⟩) (hw _ (List.mem_of_getElem? (i := 4) rfl)) (ty := .long) (by decide) rfl rfl (g := (mkF m 86 #[.val (.ref a0), .val (.long q1), .second, .val (.long q2), .second] [(.long q1), (.ref a0)])) rfl rfl (hb hby d1_86)
    have Z7 : n0 ≤ h7.size := Nat.le_trans Z0 (Keep.of_wr W7).1
    have K7 : Keep h0 h7 [a0] := (Keep.refl h0 [a0]).wr W7 (Or.inl (List.mem_of_getElem? (i := 0) rfl))
    have N7 := Fr.snoc X7 N6 g_a0
    have Fw7 : Fld Z h7 a0 "com/example/dispatch_to_workers/dispatchtoworkers/core/TimeLimit" "seconds" "J" (.long q1) := F1.same W7
    refine Go.to (g' := (mkF m 89 #[.val (.ref a0), .val (.long q1), .second, .val (.long q2), .second] [])) st7 ?_
    refine Go.to (g' := (mkF m 90 #[.val (.ref a0), .val (.long q1), .second, .val (.long q2), .second] [(.ref a0)])) (fun t k => XS.aloadN X7.here hx rfl (hb hby d1_89) rfl rfl k) ?_
    refine Go.to (g' := (mkF m 91 #[.val (.ref a0), .val (.long q1), .second, .val (.long q2), .second] [(.long q2), (.ref a0)])) (fun t k => XS.lloadN X7.here hx rfl (hb hby d1_90) rfl k) ?_
    have f8 : Fld Z h7 a0 "com/example/dispatch_to_workers/dispatchtoworkers/core/TimeLimit" "percent" "J" (.long (0 : Int64)) := (F2.other W7 (Or.inr (slot_ne (Or.inr (hw _ (List.mem_of_getElem? (i := 20) rfl))) (Or.inr (hw _ (List.mem_of_getElem? (i := 18) rfl))) (by decide) (t := .long) (t' := .long) (by decide) (by decide))))
    have f9 : Exa Z h7 a0 "com/example/dispatch_to_workers/dispatchtoworkers/core/TimeLimit" := (E_a0.wr W7)
    obtain ⟨T10, h10, X10, e10, W10, st10⟩ := putF X7 hx hZ hown (host := "") (Or.inl (hw _ (List.mem_of_getElem? (i := 19) rfl))) Via.refl e7 f8 f9 (Or.inr ⟨(hw _ (List.mem_of_getElem? (i := 20) rfl)), rfl, hnm⟩) (hw _ (List.mem_of_getElem? (i := 4) rfl)) (ty := .long) (by decide) rfl rfl (g := (mkF m 91 #[.val (.ref a0), .val (.long q1), .second, .val (.long q2), .second] [(.long q2), (.ref a0)])) rfl rfl (hb hby d1_91)
    have Z10 : n0 ≤ h10.size := Nat.le_trans Z7 (Keep.of_wr W10).1
    have K10 : Keep h0 h10 [a0] := K7.wr W10 (Or.inl (List.mem_of_getElem? (i := 0) rfl))
    have N10 := Fr.snoc X10 N7 g_a0
    have Fw10 : Fld Z h10 a0 "com/example/dispatch_to_workers/dispatchtoworkers/core/TimeLimit" "percent" "J" (.long q2) := f8.same W10
    refine Go.to (g' := (mkF m 94 #[.val (.ref a0), .val (.long q1), .second, .val (.long q2), .second] [])) st10 ?_
    exact Go.ret X10 hx Bd.returns Bd.notSynchronized (hb hby d1_94) (by decide) (by decide) e10 ⟨rfl, N10, K10, Fw10⟩

theorem ef_rm4 (m : MethodId) (x0 : Addr) : entryFrame m #[(.ref x0)] 1 = mkF m 0 #[.val (.ref x0)] [] := by first | (simp [entryFrame, mkF, argsToLocals, Value.category]; done) | rfl
def Q4 (Z : State) (a0 : Addr) (w0 : Int64) (h0 : Heap) (n0 : Nat) (v : Option Value) (h : Heap) (L : List Loc) : Prop := v = some (.int (if (0 : Int64) < w0 then (1 : Int32) else (0 : Int32))) ∧ Fr n0 L ∧ h = h0
set_option maxRecDepth 65536 in
set_option maxHeartbeats 40000000 in
theorem rm4 (l : Launch) (Z : State) (aw : Array Value) (hw : ∀ d ∈ tables_1, d.before aw Z = true) (ws : List Jvm.Cond) (a0 : Addr) (w0 : Int64) (h0 : Heap) (n0 : Nat) (Z0 : n0 ≤ h0.size) (F1 : Fld Z h0 a0 "com/example/dispatch_to_workers/dispatchtoworkers/core/TimeLimit" "percent" "J" (.long w0)) :
    MetFree l (⟨"com/example/dispatch_to_workers/dispatchtoworkers/core/TimeLimit", "ofMedian", "()Z"⟩ : MethodName) (head1 (Jvm.Cond.code (⟨"com/example/dispatch_to_workers/dispatchtoworkers/core/TimeLimit", "ofMedian", "()Z"⟩ : MethodName) prog_30_method_4_code 1 (some .boolean) :: ws) ({ frames := 0, cells := 0, slots := 0, locals := 0 } : Room)) (fun a U => a = #[(.ref a0)] ∧ Z.Warmed39 U.vm ∧ U.heap = h0) (fun _ _ _ _ _ => True) (fun _ U o U' => ∃ v L, o = .returned v ∧ Q4 Z a0 w0 h0 n0 v U'.heap L ∧ FrameEnd U o U' L ({ frames := 0, cells := 0, slots := 0, locals := 0 } : Room).cells ({ frames := 0, cells := 0, slots := 0, locals := 0 } : Room).slots) := by
  refine MetFree.of_bodySF (plainFor_of_name pn_com_example_dispatch_to_workers_dispatchtoworkers_core_TimeLimit) hisR ?_
  intro p e s m args below meth c s₁ Bd hml0 hP hK
  obtain ⟨rfl, hZ, hh⟩ := hP
  have hx := Bd.exec
  have hby := Bd.bytes
  have hml : c.maxLocals = 1 := hml0
  have hown : s.vm.findClass "com/example/dispatch_to_workers/dispatchtoworkers/core/TimeLimit" = some m.cls := findClass_of_methodNamed Bd.named
  have hnm := (name_of_methodNamed Bd.named Bd.method).1
  have X0 : Stand p l e ({ frames := 0, cells := 0, slots := 0, locals := 0 } : Room) s m #[(.ref a0)] below meth c s₁ [] 0 0 := Stand.of_body Bd
  have e0 : s₁.heap = h0 := by rw [← hh, Bd.state]; rfl
  have N0 := Fr.nil n0
  refine own_go (Q := Q4 Z a0 w0 h0 n0) ?_
  refine Go.to (g' := (mkF m 0 #[.val (.ref a0)] [])) (fun t k => castTop (ef_rm4 m a0) k) ?_
  refine Go.to (g' := (mkF m 1 #[.val (.ref a0)] [(.ref a0)])) (fun t k => XS.aloadN X0.here hx rfl (hb hby d4_0) rfl rfl k) ?_
  obtain ⟨T1, X1, e1, st1⟩ := getF X0 hx hZ hown (host := "") (Or.inl (hw _ (List.mem_of_getElem? (i := 19) rfl))) Via.refl e0 F1 (g := (mkF m 1 #[.val (.ref a0)] [(.ref a0)])) rfl rfl (hb hby d4_1)
  refine Go.to (g' := (mkF m 4 #[.val (.ref a0)] [(.long w0)])) st1 ?_
  refine Go.to (g' := (mkF m 5 #[.val (.ref a0)] [(.long (0 : Int64)), (.long w0)])) (fun t k => XS.lconst X1.here hx rfl (hb hby d4_4) k) ?_
  refine Go.to (g' := (mkF m 6 #[.val (.ref a0)] [(.int (lcmpW w0 (0 : Int64)))])) (fun t k => XS.lcmp X1.here hx rfl (hb hby d4_5) rfl k) ?_
  by_cases c2 : (0 : Int64) < w0
  · refine Go.to (g' := (mkF m 9 #[.val (.ref a0)] [])) (fun t k => XS.ifNo X1.here hx rfl (hb hby d4_6) rfl ((if0 _ _).trans (tlt ((lw_gt w0 (0 : Int64)).mpr c2)).2.2.2) k) ?_
    refine Go.to (g' := (mkF m 10 #[.val (.ref a0)] [(.int (1 : Int32))])) (fun t k => XS.iconst X1.here hx rfl (hb hby d4_9) k) ?_
    refine Go.to (g' := (mkF m 14 #[.val (.ref a0)] [(.int (1 : Int32))])) (fun t k => XS.goto X1.here hx rfl (pc0 := 10) (pc' := 14) rfl (hb hby d4_10) (by decide) (by decide) k) ?_
    exact Go.retN X1 hx (t := .boolean) Bd.returns Bd.notSynchronized (by simp) (hb hby d4_14) (by decide) (by decide) e1 ⟨by rw [if_pos c2]; rfl, N0, rfl⟩
  · refine Go.to (g' := (mkF m 13 #[.val (.ref a0)] [])) (fun t k => XS.ifYes X1.here hx rfl (pc0 := 6) (pc' := 13) rfl (hb hby d4_6) rfl ((if0 _ _).trans (flt (fun q => c2 ((lw_gt w0 (0 : Int64)).mp q))).2.2.2) (by decide) (by decide) k) ?_
    refine Go.to (g' := (mkF m 14 #[.val (.ref a0)] [(.int (0 : Int32))])) (fun t k => XS.iconst X1.here hx rfl (hb hby d4_13) k) ?_
    exact Go.retN X1 hx (t := .boolean) Bd.returns Bd.notSynchronized (by simp) (hb hby d4_14) (by decide) (by decide) e1 ⟨by rw [if_neg c2]; rfl, N0, rfl⟩

theorem ef_rm0 (m : MethodId) (x0 : Int64) (x1 : Int64) (x2 : Int32) : entryFrame m #[(.long x0), (.long x1), (.int x2)] maxLocals = mkF m 0 #[.val (.long x0), .second, .val (.long x1), .second, .val (.int x2), .unset, .unset, .unset, .unset, .unset, .unset] [] := by first | (simp [entryFrame, mkF, argsToLocals, Value.category, maxLocals]; done) | rfl
def Q0 (Z : State) (q0 : Int64) (q1 : Int64) (p2 : Int32) (h0 : Heap) (n0 : Nat) (v : Option Value) (h : Heap) (L : List Loc) : Prop := v = some (.int (1 : Int32)) ∧ Fr n0 L
set_option maxRecDepth 65536 in
set_option maxHeartbeats 40000000 in
theorem rm0 (l : Launch) (Z : State) (aw : Array Value) (hw : ∀ d ∈ tables_1, d.before aw Z = true) (ws : List Jvm.Cond) (q0 : Int64) (q1 : Int64) (p2 : Int32) (h0 : Heap) (n0 : Nat) (Z0 : n0 ≤ h0.size) :
    MetFree l x (head1 (Jvm.Cond.code x code maxLocals ret :: ws) room_1) (fun a U => a = #[(.long q0), (.long q1), (.int p2)] ∧ Z.Warmed39 U.vm ∧ U.heap = h0) (fun _ _ _ _ _ => True) (fun _ U o U' => ∃ v L, o = .returned v ∧ Q0 Z q0 q1 p2 h0 n0 v U'.heap L ∧ FrameEnd U o U' L room_1.cells room_1.slots) := by
  refine MetFree.of_bodySF (plainFor_of_name pn_com_example_dispatch_to_workers_dispatchtoworkers_core_TimeLimitOfMedianPinLaw) hisR ?_
  intro p e s m args below meth c s₁ Bd hml0 hP hK
  obtain ⟨rfl, hZ, hh⟩ := hP
  have hx := Bd.exec
  have hby := Bd.bytes
  have hml : c.maxLocals = 11 := hml0
  have hown : s.vm.findClass "com/example/dispatch_to_workers/dispatchtoworkers/core/TimeLimitOfMedianPinLaw" = some m.cls := findClass_of_methodNamed Bd.named
  have hnm := (name_of_methodNamed Bd.named Bd.method).1
  have X0 : Stand p l e room_1 s m #[(.long q0), (.long q1), (.int p2)] below meth c s₁ [] 0 0 := Stand.of_body Bd
  have e0 : s₁.heap = h0 := by rw [← hh, Bd.state]; rfl
  have N0 := Fr.nil n0
  refine own_go (Q := Q0 Z q0 q1 p2 h0 n0) ?_
  refine Go.to (g' := (mkF m 0 #[.val (.long q0), .second, .val (.long q1), .second, .val (.int p2), .unset, .unset, .unset, .unset, .unset, .unset] [])) (fun t k => castTop (ef_rm0 m q0 q1 p2) k) ?_
  refine Go.to (g' := (mkF m 2 #[.val (.long q0), .second, .val (.long q1), .second, .val (.int p2), .unset, .unset, .unset, .unset, .unset, .unset] [(.int p2)])) (fun t k => XS.iload X0.here hx rfl (hb hby at_0) rfl k) ?_
  refine Go.to (g' := (mkF m 3 #[.val (.long q0), .second, .val (.long q1), .second, .val (.int p2), .unset, .unset, .unset, .unset, .unset, .unset] [(.int (1 : Int32)), (.int p2)])) (fun t k => XS.iconst X0.here hx rfl (hb hby at_2) k) ?_
  refine Go.to (g' := (mkF m 4 #[.val (.long q0), .second, .val (.long q1), .second, .val (.int p2), .unset, .unset, .unset, .unset, .unset, .unset] [(.int (p2 &&& (1 : Int32)))])) (fun t k => XS.iand X0.here hx rfl (hb hby at_3) rfl k) ?_
  by_cases c1 : (p2 &&& (1 : Int32)) = (0 : Int32)
  · refine Go.to (g' := (mkF m 11 #[.val (.long q0), .second, .val (.long q1), .second, .val (.int p2), .unset, .unset, .unset, .unset, .unset, .unset] [])) (fun t k => XS.ifYes X0.here hx rfl (pc0 := 4) (pc' := 11) rfl (hb hby at_4) rfl ((if0 _ _).trans (teq c1).1) (by decide) (by decide) k) ?_
    refine Go.to (g' := (mkF m 12 #[.val (.long q0), .second, .val (.long q1), .second, .val (.int p2), .unset, .unset, .unset, .unset, .unset, .unset] [(.int (0 : Int32))])) (fun t k => XS.iconst X0.here hx rfl (hb hby at_11) k) ?_
    refine Go.to (g' := (mkF m 14 #[.val (.long q0), .second, .val (.long q1), .second, .val (.int p2), .val (.int (0 : Int32)), .unset, .unset, .unset, .unset, .unset] [])) (fun t k => XS.istore X0.here hx rfl (hb hby at_12) rfl (l' := #[.val (.long q0), .second, .val (.long q1), .second, .val (.int p2), .val (.int (0 : Int32)), .unset, .unset, .unset, .unset, .unset]) rfl k) ?_
    refine Go.to (g' := (mkF m 15 #[.val (.long q0), .second, .val (.long q1), .second, .val (.int p2), .val (.int (0 : Int32)), .unset, .unset, .unset, .unset, .unset] [(.long (1 : Int64))])) (fun t k => XS.lconst X0.here hx rfl (hb hby at_14) k) ?_
    refine Go.to (g' := (mkF m 16 #[.val (.long q0), .second, .val (.long q1), .second, .val (.int p2), .val (.int (0 : Int32)), .unset, .unset, .unset, .unset, .unset] [(.long q0), (.long (1 : Int64))])) (fun t k => XS.lloadN X0.here hx rfl (hb hby at_15) rfl k) ?_
    refine Go.to (g' := (mkF m 19 #[.val (.long q0), .second, .val (.long q1), .second, .val (.int p2), .val (.int (0 : Int32)), .unset, .unset, .unset, .unset, .unset] [(.long (9223372036854775807 : Int64)), (.long q0), (.long (1 : Int64))])) (fun t k => X0.ldc2Long hx hown (mvT hZ (hw _ (List.mem_of_getElem? (i := 0) rfl))) (g := (mkF m 16 #[.val (.long q0), .second, .val (.long q1), .second, .val (.int p2), .val (.int (0 : Int32)), .unset, .unset, .unset, .unset, .unset] [(.long q0), (.long (1 : Int64))])) rfl (hb hby at_16) _ k) ?_
    refine Go.to (g' := (mkF m 20 #[.val (.long q0), .second, .val (.long q1), .second, .val (.int p2), .val (.int (0 : Int32)), .unset, .unset, .unset, .unset, .unset] [(.long (q0 &&& (9223372036854775807 : Int64))), (.long (1 : Int64))])) (fun t k => XS.land X0.here hx rfl (hb hby at_19) rfl k) ?_
    refine Go.to (g' := (mkF m 23 #[.val (.long q0), .second, .val (.long q1), .second, .val (.int p2), .val (.int (0 : Int32)), .unset, .unset, .unset, .unset, .unset] [(.long (9223372036854775807 : Int64)), (.long (q0 &&& (9223372036854775807 : Int64))), (.long (1 : Int64))])) (fun t k => X0.ldc2Long hx hown (mvT hZ (hw _ (List.mem_of_getElem? (i := 0) rfl))) (g := (mkF m 20 #[.val (.long q0), .second, .val (.long q1), .second, .val (.int p2), .val (.int (0 : Int32)), .unset, .unset, .unset, .unset, .unset] [(.long (q0 &&& (9223372036854775807 : Int64))), (.long (1 : Int64))])) rfl (hb hby at_20) _ k) ?_
    refine Go.to (g' := (mkF m 24 #[.val (.long q0), .second, .val (.long q1), .second, .val (.int p2), .val (.int (0 : Int32)), .unset, .unset, .unset, .unset, .unset] [(.long ((q0 &&& (9223372036854775807 : Int64)) % (9223372036854775807 : Int64))), (.long (1 : Int64))])) (fun t k => own_lrem X0 hx rfl (hb hby at_23) rfl (by decide) k) ?_
    refine Go.to (g' := (mkF m 25 #[.val (.long q0), .second, .val (.long q1), .second, .val (.int p2), .val (.int (0 : Int32)), .unset, .unset, .unset, .unset, .unset] [(.long ((1 : Int64) + ((q0 &&& (9223372036854775807 : Int64)) % (9223372036854775807 : Int64))))])) (fun t k => XS.ladd X0.here hx rfl (hb hby at_24) rfl k) ?_
    refine Go.to (g' := (mkF m 27 #[.val (.long q0), .second, .val (.long q1), .second, .val (.int p2), .val (.int (0 : Int32)), .val (.long ((1 : Int64) + ((q0 &&& (9223372036854775807 : Int64)) % (9223372036854775807 : Int64)))), .second, .unset, .unset, .unset] [])) (fun t k => XS.lstore X0.here hx rfl (hb hby at_25) rfl (l' := #[.val (.long q0), .second, .val (.long q1), .second, .val (.int p2), .val (.int (0 : Int32)), .val (.long ((1 : Int64) + ((q0 &&& (9223372036854775807 : Int64)) % (9223372036854775807 : Int64)))), .second, .unset, .unset, .unset]) rfl k) ?_
    refine Go.to (g' := (mkF m 30 #[.val (.long q0), .second, .val (.long q1), .second, .val (.int p2), .val (.int (0 : Int32)), .val (.long ((1 : Int64) + ((q0 &&& (9223372036854775807 : Int64)) % (9223372036854775807 : Int64)))), .second, .unset, .unset, .unset] [(.long (101 : Int64))])) (fun t k => X0.ldc2Long hx hown (mvT hZ (hw _ (List.mem_of_getElem? (i := 1) rfl))) (g := (mkF m 27 #[.val (.long q0), .second, .val (.long q1), .second, .val (.int p2), .val (.int (0 : Int32)), .val (.long ((1 : Int64) + ((q0 &&& (9223372036854775807 : Int64)) % (9223372036854775807 : Int64)))), .second, .unset, .unset, .unset] [])) rfl (hb hby at_27) _ k) ?_
    refine Go.to (g' := (mkF m 31 #[.val (.long q0), .second, .val (.long q1), .second, .val (.int p2), .val (.int (0 : Int32)), .val (.long ((1 : Int64) + ((q0 &&& (9223372036854775807 : Int64)) % (9223372036854775807 : Int64)))), .second, .unset, .unset, .unset] [(.long q1), (.long (101 : Int64))])) (fun t k => XS.lloadN X0.here hx rfl (hb hby at_30) rfl k) ?_
    refine Go.to (g' := (mkF m 34 #[.val (.long q0), .second, .val (.long q1), .second, .val (.int p2), .val (.int (0 : Int32)), .val (.long ((1 : Int64) + ((q0 &&& (9223372036854775807 : Int64)) % (9223372036854775807 : Int64)))), .second, .unset, .unset, .unset] [(.long (9223372036854775807 : Int64)), (.long q1), (.long (101 : Int64))])) (fun t k => X0.ldc2Long hx hown (mvT hZ (hw _ (List.mem_of_getElem? (i := 0) rfl))) (g := (mkF m 31 #[.val (.long q0), .second, .val (.long q1), .second, .val (.int p2), .val (.int (0 : Int32)), .val (.long ((1 : Int64) + ((q0 &&& (9223372036854775807 : Int64)) % (9223372036854775807 : Int64)))), .second, .unset, .unset, .unset] [(.long q1), (.long (101 : Int64))])) rfl (hb hby at_31) _ k) ?_
    refine Go.to (g' := (mkF m 35 #[.val (.long q0), .second, .val (.long q1), .second, .val (.int p2), .val (.int (0 : Int32)), .val (.long ((1 : Int64) + ((q0 &&& (9223372036854775807 : Int64)) % (9223372036854775807 : Int64)))), .second, .unset, .unset, .unset] [(.long (q1 &&& (9223372036854775807 : Int64))), (.long (101 : Int64))])) (fun t k => XS.land X0.here hx rfl (hb hby at_34) rfl k) ?_
    refine Go.to (g' := (mkF m 38 #[.val (.long q0), .second, .val (.long q1), .second, .val (.int p2), .val (.int (0 : Int32)), .val (.long ((1 : Int64) + ((q0 &&& (9223372036854775807 : Int64)) % (9223372036854775807 : Int64)))), .second, .unset, .unset, .unset] [(.long (9223372036854775707 : Int64)), (.long (q1 &&& (9223372036854775807 : Int64))), (.long (101 : Int64))])) (fun t k => X0.ldc2Long hx hown (mvT hZ (hw _ (List.mem_of_getElem? (i := 2) rfl))) (g := (mkF m 35 #[.val (.long q0), .second, .val (.long q1), .second, .val (.int p2), .val (.int (0 : Int32)), .val (.long ((1 : Int64) + ((q0 &&& (9223372036854775807 : Int64)) % (9223372036854775807 : Int64)))), .second, .unset, .unset, .unset] [(.long (q1 &&& (9223372036854775807 : Int64))), (.long (101 : Int64))])) rfl (hb hby at_35) _ k) ?_
    refine Go.to (g' := (mkF m 39 #[.val (.long q0), .second, .val (.long q1), .second, .val (.int p2), .val (.int (0 : Int32)), .val (.long ((1 : Int64) + ((q0 &&& (9223372036854775807 : Int64)) % (9223372036854775807 : Int64)))), .second, .unset, .unset, .unset] [(.long ((q1 &&& (9223372036854775807 : Int64)) % (9223372036854775707 : Int64))), (.long (101 : Int64))])) (fun t k => own_lrem X0 hx rfl (hb hby at_38) rfl (by decide) k) ?_
    refine Go.to (g' := (mkF m 40 #[.val (.long q0), .second, .val (.long q1), .second, .val (.int p2), .val (.int (0 : Int32)), .val (.long ((1 : Int64) + ((q0 &&& (9223372036854775807 : Int64)) % (9223372036854775807 : Int64)))), .second, .unset, .unset, .unset] [(.long ((101 : Int64) + ((q1 &&& (9223372036854775807 : Int64)) % (9223372036854775707 : Int64))))])) (fun t k => XS.ladd X0.here hx rfl (hb hby at_39) rfl k) ?_
    refine Go.to (g' := (mkF m 42 #[.val (.long q0), .second, .val (.long q1), .second, .val (.int p2), .val (.int (0 : Int32)), .val (.long ((1 : Int64) + ((q0 &&& (9223372036854775807 : Int64)) % (9223372036854775807 : Int64)))), .second, .val (.long ((101 : Int64) + ((q1 &&& (9223372036854775807 : Int64)) % (9223372036854775707 : Int64)))), .second, .unset] [])) (fun t k => XS.lstore X0.here hx rfl (hb hby at_40) rfl (l' := #[.val (.long q0), .second, .val (.long q1), .second, .val (.int p2), .val (.int (0 : Int32)), .val (.long ((1 : Int64) + ((q0 &&& (9223372036854775807 : Int64)) % (9223372036854775807 : Int64)))), .second, .val (.long ((101 : Int64) + ((q1 &&& (9223372036854775807 : Int64)) % (9223372036854775707 : Int64)))), .second, .unset]) rfl k) ?_
    refine Go.to (g' := (mkF m 44 #[.val (.long q0), .second, .val (.long q1), .second, .val (.int p2), .val (.int (0 : Int32)), .val (.long ((1 : Int64) + ((q0 &&& (9223372036854775807 : Int64)) % (9223372036854775807 : Int64)))), .second, .val (.long ((101 : Int64) + ((q1 &&& (9223372036854775807 : Int64)) % (9223372036854775707 : Int64)))), .second, .unset] [(.int (0 : Int32))])) (fun t k => XS.iload X0.here hx rfl (hb hby at_42) rfl k) ?_
    refine Go.to (g' := (mkF m 62 #[.val (.long q0), .second, .val (.long q1), .second, .val (.int p2), .val (.int (0 : Int32)), .val (.long ((1 : Int64) + ((q0 &&& (9223372036854775807 : Int64)) % (9223372036854775807 : Int64)))), .second, .val (.long ((101 : Int64) + ((q1 &&& (9223372036854775807 : Int64)) % (9223372036854775707 : Int64)))), .second, .unset] [])) (fun t k => XS.ifYes X0.here hx rfl (pc0 := 44) (pc' := 62) rfl (hb hby at_44) rfl ((if0 _ _).trans (teq (by decide)).1) (by decide) (by decide) k) ?_
    obtain ⟨T3, h3, X3, e3, E3, A3, D3, -, st3⟩ := newO X0 hx hZ hown (hw _ (List.mem_of_getElem? (i := 3) rfl)) (hw _ (List.mem_of_getElem? (i := 4) rfl)) (hw _ (List.mem_of_getElem? (i := 5) rfl)) e0 (g := (mkF m 62 #[.val (.long q0), .second, .val (.long q1), .second, .val (.int p2), .val (.int (0 : Int32)), .val (.long ((1 : Int64) + ((q0 &&& (9223372036854775807 : Int64)) % (9223372036854775807 : Int64)))), .second, .val (.long ((101 : Int64) + ((q1 &&& (9223372036854775807 : Int64)) % (9223372036854775707 : Int64)))), .second, .unset] [])) rfl (hb hby at_62) (by decide) (by decide)
    obtain ⟨o2, g3⟩ : ∃ z, z = h0.size := ⟨_, rfl⟩
    rw [← g3] at A3 D3 st3
    have g_o2 : n0 ≤ o2 := Nat.le_trans Z0 (Nat.le_of_eq g3.symm)
    have sz_o2 : h0.size ≤ o2 := Nat.le_trans (Keep.refl h0 []).1 (Nat.le_of_eq g3.symm)
    have Z3 : n0 ≤ h3.size := Nat.le_trans Z0 E3.1
    have K3 : Keep h0 h3 [] := (Keep.refl h0 []).ext E3
    have F_seconds_o2 : Fld Z h3 o2 "com/example/dispatch_to_workers/dispatchtoworkers/core/TimeLimit" "seconds" "J" (.long (0 : Int64)) := D3 (Or.inr (hw _ (List.mem_of_getElem? (i := 18) rfl))) (ty := .long) (by decide)
    have F_percent_o2 : Fld Z h3 o2 "com/example/dispatch_to_workers/dispatchtoworkers/core/TimeLimit" "percent" "J" (.long (0 : Int64)) := D3 (Or.inr (hw _ (List.mem_of_getElem? (i := 20) rfl))) (ty := .long) (by decide)
    refine Go.to (g' := (mkF m 65 #[.val (.long q0), .second, .val (.long q1), .second, .val (.int p2), .val (.int (0 : Int32)), .val (.long ((1 : Int64) + ((q0 &&& (9223372036854775807 : Int64)) % (9223372036854775807 : Int64)))), .second, .val (.long ((101 : Int64) + ((q1 &&& (9223372036854775807 : Int64)) % (9223372036854775707 : Int64)))), .second, .unset] [(.ref o2)])) st3 ?_
    refine Go.to (g' := (mkF m 66 #[.val (.long q0), .second, .val (.long q1), .second, .val (.int p2), .val (.int (0 : Int32)), .val (.long ((1 : Int64) + ((q0 &&& (9223372036854775807 : Int64)) % (9223372036854775807 : Int64)))), .second, .val (.long ((101 : Int64) + ((q1 &&& (9223372036854775807 : Int64)) % (9223372036854775707 : Int64)))), .second, .unset] [(.ref o2), (.ref o2)])) (fun t k => XS.dup X3.here hx rfl (hb hby at_65) rfl rfl k) ?_
    refine Go.to (g' := (mkF m 68 #[.val (.long q0), .second, .val (.long q1), .second, .val (.int p2), .val (.int (0 : Int32)), .val (.long ((1 : Int64) + ((q0 &&& (9223372036854775807 : Int64)) % (9223372036854775807 : Int64)))), .second, .val (.long ((101 : Int64) + ((q1 &&& (9223372036854775807 : Int64)) % (9223372036854775707 : Int64)))), .second, .unset] [(.long ((1 : Int64) + ((q0 &&& (9223372036854775807 : Int64)) % (9223372036854775807 : Int64)))), (.ref o2), (.ref o2)])) (fun t k => XS.lload X3.here hx rfl (hb hby at_66) rfl k) ?_
    refine Go.to (g' := (mkF m 69 #[.val (.long q0), .second, .val (.long q1), .second, .val (.int p2), .val (.int (0 : Int32)), .val (.long ((1 : Int64) + ((q0 &&& (9223372036854775807 : Int64)) % (9223372036854775807 : Int64)))), .second, .val (.long ((101 : Int64) + ((q1 &&& (9223372036854775807 : Int64)) % (9223372036854775707 : Int64)))), .second, .unset] [(.long (0 : Int64)), (.long ((1 : Int64) + ((q0 &&& (9223372036854775807 : Int64)) % (9223372036854775807 : Int64)))), (.ref o2), (.ref o2)])) (fun t k => XS.lconst X3.here hx rfl (hb hby at_68) k) ?_
    obtain ⟨v4, _, ⟨T4, L4, k4, n4⟩, -, X4, ⟨Lc4, hQ4, l4, y4, z4⟩, st4⟩ := X3.specialBack hx (y := (⟨"com/example/dispatch_to_workers/dispatchtoworkers/core/TimeLimit", "<init>", "(JJ)V"⟩ : MethodName)) rfl hown (mvT hZ (hw _ (List.mem_of_getElem? (i := 6) rfl))) (mvT hZ (hw _ (List.mem_of_getElem? (i := 7) rfl))) (mvT hZ (hw _ (List.mem_of_getElem? (i := 8) rfl))) (by decide) (backOf (W := 1) (rm1 l Z aw hw [] o2 ((1 : Int64) + ((q0 &&& (9223372036854775807 : Int64)) % (9223372036854775807 : Int64))) (0 : Int64)  h3 n0 Z3 A3 F_seconds_o2 F_percent_o2 g_o2 (Or.inr ⟨own_sec _, rfl⟩)) hZ (hw _ (List.mem_of_getElem? (i := 8) rfl)) (hw _ (List.mem_of_getElem? (i := 5) rfl)) (by decide) (by decide)) (g := (mkF m 69 #[.val (.long q0), .second, .val (.long q1), .second, .val (.int p2), .val (.int (0 : Int32)), .val (.long ((1 : Int64) + ((q0 &&& (9223372036854775807 : Int64)) % (9223372036854775807 : Int64)))), .second, .val (.long ((101 : Int64) + ((q1 &&& (9223372036854775807 : Int64)) % (9223372036854775707 : Int64)))), .second, .unset] [(.long (0 : Int64)), (.long ((1 : Int64) + ((q0 &&& (9223372036854775807 : Int64)) % (9223372036854775807 : Int64)))), (.ref o2), (.ref o2)])) rfl (by rw [hml]; rfl) (Steps.refl _) (a := o2) (argsL := [(.long ((1 : Int64) + ((q0 &&& (9223372036854775807 : Int64)) % (9223372036854775807 : Int64)))), (.long (0 : Int64))]) (rest := [(.ref o2)]) (lenOf pd_28JJ29V rfl) rfl (by show 2 * 0 + _ ≤ _; exact Nat.le_of_eq rfl) (hb hby at_69) (fun _ _ => ⟨rfl, e3, (by decide : 1 + 0 ≤ _), (by decide : 2 + 0 ≤ _)⟩)
    dsimp only [Pt.U, Pt.locs, Pt.cells, Pt.slots] at X4 l4 y4 z4 st4 hQ4
    subst l4 y4 z4
    obtain ⟨h4, e4⟩ : ∃ z, T4.heap = z := ⟨_, rfl⟩
    rw [e4] at hQ4
    obtain ⟨rfl, N4q, Kq4, Fp4⟩ := hQ4
    have N4 := Fr.app N0 N4q
    have Z4 : n0 ≤ h4.size := Nat.le_trans Z3 Kq4.1
    have K4 : Keep h0 h4 [] := K3.trans Kq4 (fun x hx => by cases List.mem_singleton.mp hx; exact Or.inr sz_o2)
    refine Go.to (g' := (mkF m 72 #[.val (.long q0), .second, .val (.long q1), .second, .val (.int p2), .val (.int (0 : Int32)), .val (.long ((1 : Int64) + ((q0 &&& (9223372036854775807 : Int64)) % (9223372036854775807 : Int64)))), .second, .val (.long ((101 : Int64) + ((q1 &&& (9223372036854775807 : Int64)) % (9223372036854775707 : Int64)))), .second, .unset] [(.ref o2)])) (fun t k => st4.trans k) ?_
    refine Go.to (g' := (mkF m 74 #[.val (.long q0), .second, .val (.long q1), .second, .val (.int p2), .val (.int (0 : Int32)), .val (.long ((1 : Int64) + ((q0 &&& (9223372036854775807 : Int64)) % (9223372036854775807 : Int64)))), .second, .val (.long ((101 : Int64) + ((q1 &&& (9223372036854775807 : Int64)) % (9223372036854775707 : Int64)))), .second, .val (.ref o2)] [])) (fun t k => XS.astore X4.here hx rfl (hb hby at_72) rfl rfl (l' := #[.val (.long q0), .second, .val (.long q1), .second, .val (.int p2), .val (.int (0 : Int32)), .val (.long ((1 : Int64) + ((q0 &&& (9223372036854775807 : Int64)) % (9223372036854775807 : Int64)))), .second, .val (.long ((101 : Int64) + ((q1 &&& (9223372036854775807 : Int64)) % (9223372036854775707 : Int64)))), .second, .val (.ref o2)]) rfl k) ?_
    refine Go.to (g' := (mkF m 76 #[.val (.long q0), .second, .val (.long q1), .second, .val (.int p2), .val (.int (0 : Int32)), .val (.long ((1 : Int64) + ((q0 &&& (9223372036854775807 : Int64)) % (9223372036854775807 : Int64)))), .second, .val (.long ((101 : Int64) + ((q1 &&& (9223372036854775807 : Int64)) % (9223372036854775707 : Int64)))), .second, .val (.ref o2)] [(.ref o2)])) (fun t k => XS.aload X4.here hx rfl (hb hby at_74) rfl rfl k) ?_
    have f5 : Exa Z h4 o2 "com/example/dispatch_to_workers/dispatchtoworkers/core/TimeLimit" := (A3.keep Kq4)
    obtain ⟨cq6, kq6, qa6, qb6, qc6⟩ := isOf hZ e4 f5
    obtain ⟨v6, _, ⟨T6, L6, k6, n6⟩, -, X6, ⟨Lc6, hQ6, l6, y6, z6⟩, st6⟩ := X4.virtualBack hx (y := (⟨"com/example/dispatch_to_workers/dispatchtoworkers/core/TimeLimit", "ofMedian", "()Z"⟩ : MethodName)) (z := (⟨"com/example/dispatch_to_workers/dispatchtoworkers/core/TimeLimit", "ofMedian", "()Z"⟩ : MethodName)) hown (mvT hZ (hw _ (List.mem_of_getElem? (i := 21) rfl))) (mvT hZ (hw _ (List.mem_of_getElem? (i := 22) rfl))) (notFace_of_selects (args := #[]) (mvT hZ (hw _ (List.mem_of_getElem? (i := 24) rfl)))) (mvT hZ (hw _ (List.mem_of_getElem? (i := 24) rfl))) (mvT hZ (hw _ (List.mem_of_getElem? (i := 23) rfl))) (by decide) (backOf (W := 0) (rm4 l Z aw hw [] o2 (0 : Int64) h4 n0 Z4 Fp4) hZ (hw _ (List.mem_of_getElem? (i := 25) rfl)) (hw _ (List.mem_of_getElem? (i := 5) rfl)) (by decide) (by decide)) qa6 qc6 (g := (mkF m 76 #[.val (.long q0), .second, .val (.long q1), .second, .val (.int p2), .val (.int (0 : Int32)), .val (.long ((1 : Int64) + ((q0 &&& (9223372036854775807 : Int64)) % (9223372036854775807 : Int64)))), .second, .val (.long ((101 : Int64) + ((q1 &&& (9223372036854775807 : Int64)) % (9223372036854775707 : Int64)))), .second, .val (.ref o2)] [(.ref o2)])) rfl (by rw [hml]; rfl) (Steps.refl _) (argsL := []) (rest := []) (lenOf pd_2829Z rfl) rfl (by show 2 * 0 + _ ≤ _; exact Nat.le_of_eq rfl) (hb hby at_76) (fun _ _ => ⟨rfl, e4, (by decide : 1 + 0 ≤ _), (by decide : 2 + 0 ≤ _)⟩)
    dsimp only [Pt.U, Pt.locs, Pt.cells, Pt.slots] at X6 l6 y6 z6 st6 hQ6
    subst l6 y6 z6
    obtain ⟨rfl, N6q, e6⟩ := hQ6
    have N6 := Fr.app N4 N6q
    refine Go.to (g' := (mkF m 79 #[.val (.long q0), .second, .val (.long q1), .second, .val (.int p2), .val (.int (0 : Int32)), .val (.long ((1 : Int64) + ((q0 &&& (9223372036854775807 : Int64)) % (9223372036854775807 : Int64)))), .second, .val (.long ((101 : Int64) + ((q1 &&& (9223372036854775807 : Int64)) % (9223372036854775707 : Int64)))), .second, .val (.ref o2)] [(.int (if (0 : Int64) < (0 : Int64) then (1 : Int32) else (0 : Int32)))])) (fun t k => st6.trans k) ?_
    rw [show (if (0 : Int64) < (0 : Int64) then (1 : Int32) else (0 : Int32)) = (0 : Int32) from if_neg (own_irrL _)]
    refine Go.to (g' := (mkF m 81 #[.val (.long q0), .second, .val (.long q1), .second, .val (.int p2), .val (.int (0 : Int32)), .val (.long ((1 : Int64) + ((q0 &&& (9223372036854775807 : Int64)) % (9223372036854775807 : Int64)))), .second, .val (.long ((101 : Int64) + ((q1 &&& (9223372036854775807 : Int64)) % (9223372036854775707 : Int64)))), .second, .val (.ref o2)] [(.int (0 : Int32)), (.int (0 : Int32))])) (fun t k => XS.iload X6.here hx rfl (hb hby at_79) rfl k) ?_
    refine Go.to (g' := (mkF m 84 #[.val (.long q0), .second, .val (.long q1), .second, .val (.int p2), .val (.int (0 : Int32)), .val (.long ((1 : Int64) + ((q0 &&& (9223372036854775807 : Int64)) % (9223372036854775807 : Int64)))), .second, .val (.long ((101 : Int64) + ((q1 &&& (9223372036854775807 : Int64)) % (9223372036854775707 : Int64)))), .second, .val (.ref o2)] [])) (fun t k => XS.icmpNo X6.here hx rfl (hb hby at_81) rfl (teq (by decide)).2 k) ?_
    refine Go.to (g' := (mkF m 85 #[.val (.long q0), .second, .val (.long q1), .second, .val (.int p2), .val (.int (0 : Int32)), .val (.long ((1 : Int64) + ((q0 &&& (9223372036854775807 : Int64)) % (9223372036854775807 : Int64)))), .second, .val (.long ((101 : Int64) + ((q1 &&& (9223372036854775807 : Int64)) % (9223372036854775707 : Int64)))), .second, .val (.ref o2)] [(.int (1 : Int32))])) (fun t k => XS.iconst X6.here hx rfl (hb hby at_84) k) ?_
    refine Go.to (g' := (mkF m 89 #[.val (.long q0), .second, .val (.long q1), .second, .val (.int p2), .val (.int (0 : Int32)), .val (.long ((1 : Int64) + ((q0 &&& (9223372036854775807 : Int64)) % (9223372036854775807 : Int64)))), .second, .val (.long ((101 : Int64) + ((q1 &&& (9223372036854775807 : Int64)) % (9223372036854775707 : Int64)))), .second, .val (.ref o2)] [(.int (1 : Int32))])) (fun t k => XS.goto X6.here hx rfl (pc0 := 85) (pc' := 89) rfl (hb hby at_85) (by decide) (by decide) k) ?_
    exact Go.retN X6 hx (t := .boolean) Bd.returns Bd.notSynchronized (by simp) (hb hby at_89) (by decide) (by decide) e6 ⟨rfl, N6⟩
  · refine Go.to (g' := (mkF m 7 #[.val (.long q0), .second, .val (.long q1), .second, .val (.int p2), .unset, .unset, .unset, .unset, .unset, .unset] [])) (fun t k => XS.ifNo X0.here hx rfl (hb hby at_4) rfl ((if0 _ _).trans (feq c1).1) k) ?_
    refine Go.to (g' := (mkF m 8 #[.val (.long q0), .second, .val (.long q1), .second, .val (.int p2), .unset, .unset, .unset, .unset, .unset, .unset] [(.int (1 : Int32))])) (fun t k => XS.iconst X0.here hx rfl (hb hby at_7) k) ?_
    refine Go.to (g' := (mkF m 12 #[.val (.long q0), .second, .val (.long q1), .second, .val (.int p2), .unset, .unset, .unset, .unset, .unset, .unset] [(.int (1 : Int32))])) (fun t k => XS.goto X0.here hx rfl (pc0 := 8) (pc' := 12) rfl (hb hby at_8) (by decide) (by decide) k) ?_
    refine Go.to (g' := (mkF m 14 #[.val (.long q0), .second, .val (.long q1), .second, .val (.int p2), .val (.int (1 : Int32)), .unset, .unset, .unset, .unset, .unset] [])) (fun t k => XS.istore X0.here hx rfl (hb hby at_12) rfl (l' := #[.val (.long q0), .second, .val (.long q1), .second, .val (.int p2), .val (.int (1 : Int32)), .unset, .unset, .unset, .unset, .unset]) rfl k) ?_
    refine Go.to (g' := (mkF m 15 #[.val (.long q0), .second, .val (.long q1), .second, .val (.int p2), .val (.int (1 : Int32)), .unset, .unset, .unset, .unset, .unset] [(.long (1 : Int64))])) (fun t k => XS.lconst X0.here hx rfl (hb hby at_14) k) ?_
    refine Go.to (g' := (mkF m 16 #[.val (.long q0), .second, .val (.long q1), .second, .val (.int p2), .val (.int (1 : Int32)), .unset, .unset, .unset, .unset, .unset] [(.long q0), (.long (1 : Int64))])) (fun t k => XS.lloadN X0.here hx rfl (hb hby at_15) rfl k) ?_
    refine Go.to (g' := (mkF m 19 #[.val (.long q0), .second, .val (.long q1), .second, .val (.int p2), .val (.int (1 : Int32)), .unset, .unset, .unset, .unset, .unset] [(.long (9223372036854775807 : Int64)), (.long q0), (.long (1 : Int64))])) (fun t k => X0.ldc2Long hx hown (mvT hZ (hw _ (List.mem_of_getElem? (i := 0) rfl))) (g := (mkF m 16 #[.val (.long q0), .second, .val (.long q1), .second, .val (.int p2), .val (.int (1 : Int32)), .unset, .unset, .unset, .unset, .unset] [(.long q0), (.long (1 : Int64))])) rfl (hb hby at_16) _ k) ?_
    refine Go.to (g' := (mkF m 20 #[.val (.long q0), .second, .val (.long q1), .second, .val (.int p2), .val (.int (1 : Int32)), .unset, .unset, .unset, .unset, .unset] [(.long (q0 &&& (9223372036854775807 : Int64))), (.long (1 : Int64))])) (fun t k => XS.land X0.here hx rfl (hb hby at_19) rfl k) ?_
    refine Go.to (g' := (mkF m 23 #[.val (.long q0), .second, .val (.long q1), .second, .val (.int p2), .val (.int (1 : Int32)), .unset, .unset, .unset, .unset, .unset] [(.long (9223372036854775807 : Int64)), (.long (q0 &&& (9223372036854775807 : Int64))), (.long (1 : Int64))])) (fun t k => X0.ldc2Long hx hown (mvT hZ (hw _ (List.mem_of_getElem? (i := 0) rfl))) (g := (mkF m 20 #[.val (.long q0), .second, .val (.long q1), .second, .val (.int p2), .val (.int (1 : Int32)), .unset, .unset, .unset, .unset, .unset] [(.long (q0 &&& (9223372036854775807 : Int64))), (.long (1 : Int64))])) rfl (hb hby at_20) _ k) ?_
    refine Go.to (g' := (mkF m 24 #[.val (.long q0), .second, .val (.long q1), .second, .val (.int p2), .val (.int (1 : Int32)), .unset, .unset, .unset, .unset, .unset] [(.long ((q0 &&& (9223372036854775807 : Int64)) % (9223372036854775807 : Int64))), (.long (1 : Int64))])) (fun t k => own_lrem X0 hx rfl (hb hby at_23) rfl (by decide) k) ?_
    refine Go.to (g' := (mkF m 25 #[.val (.long q0), .second, .val (.long q1), .second, .val (.int p2), .val (.int (1 : Int32)), .unset, .unset, .unset, .unset, .unset] [(.long ((1 : Int64) + ((q0 &&& (9223372036854775807 : Int64)) % (9223372036854775807 : Int64))))])) (fun t k => XS.ladd X0.here hx rfl (hb hby at_24) rfl k) ?_
    refine Go.to (g' := (mkF m 27 #[.val (.long q0), .second, .val (.long q1), .second, .val (.int p2), .val (.int (1 : Int32)), .val (.long ((1 : Int64) + ((q0 &&& (9223372036854775807 : Int64)) % (9223372036854775807 : Int64)))), .second, .unset, .unset, .unset] [])) (fun t k => XS.lstore X0.here hx rfl (hb hby at_25) rfl (l' := #[.val (.long q0), .second, .val (.long q1), .second, .val (.int p2), .val (.int (1 : Int32)), .val (.long ((1 : Int64) + ((q0 &&& (9223372036854775807 : Int64)) % (9223372036854775807 : Int64)))), .second, .unset, .unset, .unset]) rfl k) ?_
    refine Go.to (g' := (mkF m 30 #[.val (.long q0), .second, .val (.long q1), .second, .val (.int p2), .val (.int (1 : Int32)), .val (.long ((1 : Int64) + ((q0 &&& (9223372036854775807 : Int64)) % (9223372036854775807 : Int64)))), .second, .unset, .unset, .unset] [(.long (101 : Int64))])) (fun t k => X0.ldc2Long hx hown (mvT hZ (hw _ (List.mem_of_getElem? (i := 1) rfl))) (g := (mkF m 27 #[.val (.long q0), .second, .val (.long q1), .second, .val (.int p2), .val (.int (1 : Int32)), .val (.long ((1 : Int64) + ((q0 &&& (9223372036854775807 : Int64)) % (9223372036854775807 : Int64)))), .second, .unset, .unset, .unset] [])) rfl (hb hby at_27) _ k) ?_
    refine Go.to (g' := (mkF m 31 #[.val (.long q0), .second, .val (.long q1), .second, .val (.int p2), .val (.int (1 : Int32)), .val (.long ((1 : Int64) + ((q0 &&& (9223372036854775807 : Int64)) % (9223372036854775807 : Int64)))), .second, .unset, .unset, .unset] [(.long q1), (.long (101 : Int64))])) (fun t k => XS.lloadN X0.here hx rfl (hb hby at_30) rfl k) ?_
    refine Go.to (g' := (mkF m 34 #[.val (.long q0), .second, .val (.long q1), .second, .val (.int p2), .val (.int (1 : Int32)), .val (.long ((1 : Int64) + ((q0 &&& (9223372036854775807 : Int64)) % (9223372036854775807 : Int64)))), .second, .unset, .unset, .unset] [(.long (9223372036854775807 : Int64)), (.long q1), (.long (101 : Int64))])) (fun t k => X0.ldc2Long hx hown (mvT hZ (hw _ (List.mem_of_getElem? (i := 0) rfl))) (g := (mkF m 31 #[.val (.long q0), .second, .val (.long q1), .second, .val (.int p2), .val (.int (1 : Int32)), .val (.long ((1 : Int64) + ((q0 &&& (9223372036854775807 : Int64)) % (9223372036854775807 : Int64)))), .second, .unset, .unset, .unset] [(.long q1), (.long (101 : Int64))])) rfl (hb hby at_31) _ k) ?_
    refine Go.to (g' := (mkF m 35 #[.val (.long q0), .second, .val (.long q1), .second, .val (.int p2), .val (.int (1 : Int32)), .val (.long ((1 : Int64) + ((q0 &&& (9223372036854775807 : Int64)) % (9223372036854775807 : Int64)))), .second, .unset, .unset, .unset] [(.long (q1 &&& (9223372036854775807 : Int64))), (.long (101 : Int64))])) (fun t k => XS.land X0.here hx rfl (hb hby at_34) rfl k) ?_
    refine Go.to (g' := (mkF m 38 #[.val (.long q0), .second, .val (.long q1), .second, .val (.int p2), .val (.int (1 : Int32)), .val (.long ((1 : Int64) + ((q0 &&& (9223372036854775807 : Int64)) % (9223372036854775807 : Int64)))), .second, .unset, .unset, .unset] [(.long (9223372036854775707 : Int64)), (.long (q1 &&& (9223372036854775807 : Int64))), (.long (101 : Int64))])) (fun t k => X0.ldc2Long hx hown (mvT hZ (hw _ (List.mem_of_getElem? (i := 2) rfl))) (g := (mkF m 35 #[.val (.long q0), .second, .val (.long q1), .second, .val (.int p2), .val (.int (1 : Int32)), .val (.long ((1 : Int64) + ((q0 &&& (9223372036854775807 : Int64)) % (9223372036854775807 : Int64)))), .second, .unset, .unset, .unset] [(.long (q1 &&& (9223372036854775807 : Int64))), (.long (101 : Int64))])) rfl (hb hby at_35) _ k) ?_
    refine Go.to (g' := (mkF m 39 #[.val (.long q0), .second, .val (.long q1), .second, .val (.int p2), .val (.int (1 : Int32)), .val (.long ((1 : Int64) + ((q0 &&& (9223372036854775807 : Int64)) % (9223372036854775807 : Int64)))), .second, .unset, .unset, .unset] [(.long ((q1 &&& (9223372036854775807 : Int64)) % (9223372036854775707 : Int64))), (.long (101 : Int64))])) (fun t k => own_lrem X0 hx rfl (hb hby at_38) rfl (by decide) k) ?_
    refine Go.to (g' := (mkF m 40 #[.val (.long q0), .second, .val (.long q1), .second, .val (.int p2), .val (.int (1 : Int32)), .val (.long ((1 : Int64) + ((q0 &&& (9223372036854775807 : Int64)) % (9223372036854775807 : Int64)))), .second, .unset, .unset, .unset] [(.long ((101 : Int64) + ((q1 &&& (9223372036854775807 : Int64)) % (9223372036854775707 : Int64))))])) (fun t k => XS.ladd X0.here hx rfl (hb hby at_39) rfl k) ?_
    refine Go.to (g' := (mkF m 42 #[.val (.long q0), .second, .val (.long q1), .second, .val (.int p2), .val (.int (1 : Int32)), .val (.long ((1 : Int64) + ((q0 &&& (9223372036854775807 : Int64)) % (9223372036854775807 : Int64)))), .second, .val (.long ((101 : Int64) + ((q1 &&& (9223372036854775807 : Int64)) % (9223372036854775707 : Int64)))), .second, .unset] [])) (fun t k => XS.lstore X0.here hx rfl (hb hby at_40) rfl (l' := #[.val (.long q0), .second, .val (.long q1), .second, .val (.int p2), .val (.int (1 : Int32)), .val (.long ((1 : Int64) + ((q0 &&& (9223372036854775807 : Int64)) % (9223372036854775807 : Int64)))), .second, .val (.long ((101 : Int64) + ((q1 &&& (9223372036854775807 : Int64)) % (9223372036854775707 : Int64)))), .second, .unset]) rfl k) ?_
    refine Go.to (g' := (mkF m 44 #[.val (.long q0), .second, .val (.long q1), .second, .val (.int p2), .val (.int (1 : Int32)), .val (.long ((1 : Int64) + ((q0 &&& (9223372036854775807 : Int64)) % (9223372036854775807 : Int64)))), .second, .val (.long ((101 : Int64) + ((q1 &&& (9223372036854775807 : Int64)) % (9223372036854775707 : Int64)))), .second, .unset] [(.int (1 : Int32))])) (fun t k => XS.iload X0.here hx rfl (hb hby at_42) rfl k) ?_
    refine Go.to (g' := (mkF m 47 #[.val (.long q0), .second, .val (.long q1), .second, .val (.int p2), .val (.int (1 : Int32)), .val (.long ((1 : Int64) + ((q0 &&& (9223372036854775807 : Int64)) % (9223372036854775807 : Int64)))), .second, .val (.long ((101 : Int64) + ((q1 &&& (9223372036854775807 : Int64)) % (9223372036854775707 : Int64)))), .second, .unset] [])) (fun t k => XS.ifNo X0.here hx rfl (hb hby at_44) rfl ((if0 _ _).trans (feq (by decide)).1) k) ?_
    obtain ⟨T8, h8, X8, e8, E8, A8, D8, -, st8⟩ := newO X0 hx hZ hown (hw _ (List.mem_of_getElem? (i := 3) rfl)) (hw _ (List.mem_of_getElem? (i := 4) rfl)) (hw _ (List.mem_of_getElem? (i := 5) rfl)) e0 (g := (mkF m 47 #[.val (.long q0), .second, .val (.long q1), .second, .val (.int p2), .val (.int (1 : Int32)), .val (.long ((1 : Int64) + ((q0 &&& (9223372036854775807 : Int64)) % (9223372036854775807 : Int64)))), .second, .val (.long ((101 : Int64) + ((q1 &&& (9223372036854775807 : Int64)) % (9223372036854775707 : Int64)))), .second, .unset] [])) rfl (hb hby at_47) (by decide) (by decide)
    obtain ⟨o7, g8⟩ : ∃ z, z = h0.size := ⟨_, rfl⟩
    rw [← g8] at A8 D8 st8
    have g_o7 : n0 ≤ o7 := Nat.le_trans Z0 (Nat.le_of_eq g8.symm)
    have sz_o7 : h0.size ≤ o7 := Nat.le_trans (Keep.refl h0 []).1 (Nat.le_of_eq g8.symm)
    have Z8 : n0 ≤ h8.size := Nat.le_trans Z0 E8.1
    have K8 : Keep h0 h8 [] := (Keep.refl h0 []).ext E8
    have F_seconds_o7 : Fld Z h8 o7 "com/example/dispatch_to_workers/dispatchtoworkers/core/TimeLimit" "seconds" "J" (.long (0 : Int64)) := D8 (Or.inr (hw _ (List.mem_of_getElem? (i := 18) rfl))) (ty := .long) (by decide)
    have F_percent_o7 : Fld Z h8 o7 "com/example/dispatch_to_workers/dispatchtoworkers/core/TimeLimit" "percent" "J" (.long (0 : Int64)) := D8 (Or.inr (hw _ (List.mem_of_getElem? (i := 20) rfl))) (ty := .long) (by decide)
    refine Go.to (g' := (mkF m 50 #[.val (.long q0), .second, .val (.long q1), .second, .val (.int p2), .val (.int (1 : Int32)), .val (.long ((1 : Int64) + ((q0 &&& (9223372036854775807 : Int64)) % (9223372036854775807 : Int64)))), .second, .val (.long ((101 : Int64) + ((q1 &&& (9223372036854775807 : Int64)) % (9223372036854775707 : Int64)))), .second, .unset] [(.ref o7)])) st8 ?_
    refine Go.to (g' := (mkF m 51 #[.val (.long q0), .second, .val (.long q1), .second, .val (.int p2), .val (.int (1 : Int32)), .val (.long ((1 : Int64) + ((q0 &&& (9223372036854775807 : Int64)) % (9223372036854775807 : Int64)))), .second, .val (.long ((101 : Int64) + ((q1 &&& (9223372036854775807 : Int64)) % (9223372036854775707 : Int64)))), .second, .unset] [(.ref o7), (.ref o7)])) (fun t k => XS.dup X8.here hx rfl (hb hby at_50) rfl rfl k) ?_
    refine Go.to (g' := (mkF m 52 #[.val (.long q0), .second, .val (.long q1), .second, .val (.int p2), .val (.int (1 : Int32)), .val (.long ((1 : Int64) + ((q0 &&& (9223372036854775807 : Int64)) % (9223372036854775807 : Int64)))), .second, .val (.long ((101 : Int64) + ((q1 &&& (9223372036854775807 : Int64)) % (9223372036854775707 : Int64)))), .second, .unset] [(.long (0 : Int64)), (.ref o7), (.ref o7)])) (fun t k => XS.lconst X8.here hx rfl (hb hby at_51) k) ?_
    refine Go.to (g' := (mkF m 54 #[.val (.long q0), .second, .val (.long q1), .second, .val (.int p2), .val (.int (1 : Int32)), .val (.long ((1 : Int64) + ((q0 &&& (9223372036854775807 : Int64)) % (9223372036854775807 : Int64)))), .second, .val (.long ((101 : Int64) + ((q1 &&& (9223372036854775807 : Int64)) % (9223372036854775707 : Int64)))), .second, .unset] [(.long ((101 : Int64) + ((q1 &&& (9223372036854775807 : Int64)) % (9223372036854775707 : Int64)))), (.long (0 : Int64)), (.ref o7), (.ref o7)])) (fun t k => XS.lload X8.here hx rfl (hb hby at_52) rfl k) ?_
    obtain ⟨v9, _, ⟨T9, L9, k9, n9⟩, -, X9, ⟨Lc9, hQ9, l9, y9, z9⟩, st9⟩ := X8.specialBack hx (y := (⟨"com/example/dispatch_to_workers/dispatchtoworkers/core/TimeLimit", "<init>", "(JJ)V"⟩ : MethodName)) rfl hown (mvT hZ (hw _ (List.mem_of_getElem? (i := 6) rfl))) (mvT hZ (hw _ (List.mem_of_getElem? (i := 7) rfl))) (mvT hZ (hw _ (List.mem_of_getElem? (i := 8) rfl))) (by decide) (backOf (W := 1) (rm1 l Z aw hw [] o7 (0 : Int64) ((101 : Int64) + ((q1 &&& (9223372036854775807 : Int64)) % (9223372036854775707 : Int64)))  h8 n0 Z8 A8 F_seconds_o7 F_percent_o7 g_o7 (Or.inl ⟨rfl, own_pc _⟩)) hZ (hw _ (List.mem_of_getElem? (i := 8) rfl)) (hw _ (List.mem_of_getElem? (i := 5) rfl)) (by decide) (by decide)) (g := (mkF m 54 #[.val (.long q0), .second, .val (.long q1), .second, .val (.int p2), .val (.int (1 : Int32)), .val (.long ((1 : Int64) + ((q0 &&& (9223372036854775807 : Int64)) % (9223372036854775807 : Int64)))), .second, .val (.long ((101 : Int64) + ((q1 &&& (9223372036854775807 : Int64)) % (9223372036854775707 : Int64)))), .second, .unset] [(.long ((101 : Int64) + ((q1 &&& (9223372036854775807 : Int64)) % (9223372036854775707 : Int64)))), (.long (0 : Int64)), (.ref o7), (.ref o7)])) rfl (by rw [hml]; rfl) (Steps.refl _) (a := o7) (argsL := [(.long (0 : Int64)), (.long ((101 : Int64) + ((q1 &&& (9223372036854775807 : Int64)) % (9223372036854775707 : Int64))))]) (rest := [(.ref o7)]) (lenOf pd_28JJ29V rfl) rfl (by show 2 * 0 + _ ≤ _; exact Nat.le_of_eq rfl) (hb hby at_54) (fun _ _ => ⟨rfl, e8, (by decide : 1 + 0 ≤ _), (by decide : 2 + 0 ≤ _)⟩)
    dsimp only [Pt.U, Pt.locs, Pt.cells, Pt.slots] at X9 l9 y9 z9 st9 hQ9
    subst l9 y9 z9
    obtain ⟨h9, e9⟩ : ∃ z, T9.heap = z := ⟨_, rfl⟩
    rw [e9] at hQ9
    obtain ⟨rfl, N9q, Kq9, Fp9⟩ := hQ9
    have N9 := Fr.app N0 N9q
    have Z9 : n0 ≤ h9.size := Nat.le_trans Z8 Kq9.1
    have K9 : Keep h0 h9 [] := K8.trans Kq9 (fun x hx => by cases List.mem_singleton.mp hx; exact Or.inr sz_o7)
    refine Go.to (g' := (mkF m 57 #[.val (.long q0), .second, .val (.long q1), .second, .val (.int p2), .val (.int (1 : Int32)), .val (.long ((1 : Int64) + ((q0 &&& (9223372036854775807 : Int64)) % (9223372036854775807 : Int64)))), .second, .val (.long ((101 : Int64) + ((q1 &&& (9223372036854775807 : Int64)) % (9223372036854775707 : Int64)))), .second, .unset] [(.ref o7)])) (fun t k => st9.trans k) ?_
    refine Go.to (g' := (mkF m 59 #[.val (.long q0), .second, .val (.long q1), .second, .val (.int p2), .val (.int (1 : Int32)), .val (.long ((1 : Int64) + ((q0 &&& (9223372036854775807 : Int64)) % (9223372036854775807 : Int64)))), .second, .val (.long ((101 : Int64) + ((q1 &&& (9223372036854775807 : Int64)) % (9223372036854775707 : Int64)))), .second, .val (.ref o7)] [])) (fun t k => XS.astore X9.here hx rfl (hb hby at_57) rfl rfl (l' := #[.val (.long q0), .second, .val (.long q1), .second, .val (.int p2), .val (.int (1 : Int32)), .val (.long ((1 : Int64) + ((q0 &&& (9223372036854775807 : Int64)) % (9223372036854775807 : Int64)))), .second, .val (.long ((101 : Int64) + ((q1 &&& (9223372036854775807 : Int64)) % (9223372036854775707 : Int64)))), .second, .val (.ref o7)]) rfl k) ?_
    refine Go.to (g' := (mkF m 74 #[.val (.long q0), .second, .val (.long q1), .second, .val (.int p2), .val (.int (1 : Int32)), .val (.long ((1 : Int64) + ((q0 &&& (9223372036854775807 : Int64)) % (9223372036854775807 : Int64)))), .second, .val (.long ((101 : Int64) + ((q1 &&& (9223372036854775807 : Int64)) % (9223372036854775707 : Int64)))), .second, .val (.ref o7)] [])) (fun t k => XS.goto X9.here hx rfl (pc0 := 59) (pc' := 74) rfl (hb hby at_59) (by decide) (by decide) k) ?_
    refine Go.to (g' := (mkF m 76 #[.val (.long q0), .second, .val (.long q1), .second, .val (.int p2), .val (.int (1 : Int32)), .val (.long ((1 : Int64) + ((q0 &&& (9223372036854775807 : Int64)) % (9223372036854775807 : Int64)))), .second, .val (.long ((101 : Int64) + ((q1 &&& (9223372036854775807 : Int64)) % (9223372036854775707 : Int64)))), .second, .val (.ref o7)] [(.ref o7)])) (fun t k => XS.aload X9.here hx rfl (hb hby at_74) rfl rfl k) ?_
    have f10 : Exa Z h9 o7 "com/example/dispatch_to_workers/dispatchtoworkers/core/TimeLimit" := (A8.keep Kq9)
    obtain ⟨cq11, kq11, qa11, qb11, qc11⟩ := isOf hZ e9 f10
    obtain ⟨v11, _, ⟨T11, L11, k11, n11⟩, -, X11, ⟨Lc11, hQ11, l11, y11, z11⟩, st11⟩ := X9.virtualBack hx (y := (⟨"com/example/dispatch_to_workers/dispatchtoworkers/core/TimeLimit", "ofMedian", "()Z"⟩ : MethodName)) (z := (⟨"com/example/dispatch_to_workers/dispatchtoworkers/core/TimeLimit", "ofMedian", "()Z"⟩ : MethodName)) hown (mvT hZ (hw _ (List.mem_of_getElem? (i := 21) rfl))) (mvT hZ (hw _ (List.mem_of_getElem? (i := 22) rfl))) (notFace_of_selects (args := #[]) (mvT hZ (hw _ (List.mem_of_getElem? (i := 24) rfl)))) (mvT hZ (hw _ (List.mem_of_getElem? (i := 24) rfl))) (mvT hZ (hw _ (List.mem_of_getElem? (i := 23) rfl))) (by decide) (backOf (W := 0) (rm4 l Z aw hw [] o7 ((101 : Int64) + ((q1 &&& (9223372036854775807 : Int64)) % (9223372036854775707 : Int64))) h9 n0 Z9 Fp9) hZ (hw _ (List.mem_of_getElem? (i := 25) rfl)) (hw _ (List.mem_of_getElem? (i := 5) rfl)) (by decide) (by decide)) qa11 qc11 (g := (mkF m 76 #[.val (.long q0), .second, .val (.long q1), .second, .val (.int p2), .val (.int (1 : Int32)), .val (.long ((1 : Int64) + ((q0 &&& (9223372036854775807 : Int64)) % (9223372036854775807 : Int64)))), .second, .val (.long ((101 : Int64) + ((q1 &&& (9223372036854775807 : Int64)) % (9223372036854775707 : Int64)))), .second, .val (.ref o7)] [(.ref o7)])) rfl (by rw [hml]; rfl) (Steps.refl _) (argsL := []) (rest := []) (lenOf pd_2829Z rfl) rfl (by show 2 * 0 + _ ≤ _; exact Nat.le_of_eq rfl) (hb hby at_76) (fun _ _ => ⟨rfl, e9, (by decide : 1 + 0 ≤ _), (by decide : 2 + 0 ≤ _)⟩)
    dsimp only [Pt.U, Pt.locs, Pt.cells, Pt.slots] at X11 l11 y11 z11 st11 hQ11
    subst l11 y11 z11
    obtain ⟨rfl, N11q, e11⟩ := hQ11
    have N11 := Fr.app N9 N11q
    refine Go.to (g' := (mkF m 79 #[.val (.long q0), .second, .val (.long q1), .second, .val (.int p2), .val (.int (1 : Int32)), .val (.long ((1 : Int64) + ((q0 &&& (9223372036854775807 : Int64)) % (9223372036854775807 : Int64)))), .second, .val (.long ((101 : Int64) + ((q1 &&& (9223372036854775807 : Int64)) % (9223372036854775707 : Int64)))), .second, .val (.ref o7)] [(.int (if (0 : Int64) < ((101 : Int64) + ((q1 &&& (9223372036854775807 : Int64)) % (9223372036854775707 : Int64))) then (1 : Int32) else (0 : Int32)))])) (fun t k => st11.trans k) ?_
    rw [show (if (0 : Int64) < ((101 : Int64) + ((q1 &&& (9223372036854775807 : Int64)) % (9223372036854775707 : Int64))) then (1 : Int32) else (0 : Int32)) = (1 : Int32) from if_pos (own_pc2 (own_pc _)).2.2]
    refine Go.to (g' := (mkF m 81 #[.val (.long q0), .second, .val (.long q1), .second, .val (.int p2), .val (.int (1 : Int32)), .val (.long ((1 : Int64) + ((q0 &&& (9223372036854775807 : Int64)) % (9223372036854775807 : Int64)))), .second, .val (.long ((101 : Int64) + ((q1 &&& (9223372036854775807 : Int64)) % (9223372036854775707 : Int64)))), .second, .val (.ref o7)] [(.int (1 : Int32)), (.int (1 : Int32))])) (fun t k => XS.iload X11.here hx rfl (hb hby at_79) rfl k) ?_
    refine Go.to (g' := (mkF m 84 #[.val (.long q0), .second, .val (.long q1), .second, .val (.int p2), .val (.int (1 : Int32)), .val (.long ((1 : Int64) + ((q0 &&& (9223372036854775807 : Int64)) % (9223372036854775807 : Int64)))), .second, .val (.long ((101 : Int64) + ((q1 &&& (9223372036854775807 : Int64)) % (9223372036854775707 : Int64)))), .second, .val (.ref o7)] [])) (fun t k => XS.icmpNo X11.here hx rfl (hb hby at_81) rfl (teq (by decide)).2 k) ?_
    refine Go.to (g' := (mkF m 85 #[.val (.long q0), .second, .val (.long q1), .second, .val (.int p2), .val (.int (1 : Int32)), .val (.long ((1 : Int64) + ((q0 &&& (9223372036854775807 : Int64)) % (9223372036854775807 : Int64)))), .second, .val (.long ((101 : Int64) + ((q1 &&& (9223372036854775807 : Int64)) % (9223372036854775707 : Int64)))), .second, .val (.ref o7)] [(.int (1 : Int32))])) (fun t k => XS.iconst X11.here hx rfl (hb hby at_84) k) ?_
    refine Go.to (g' := (mkF m 89 #[.val (.long q0), .second, .val (.long q1), .second, .val (.int p2), .val (.int (1 : Int32)), .val (.long ((1 : Int64) + ((q0 &&& (9223372036854775807 : Int64)) % (9223372036854775807 : Int64)))), .second, .val (.long ((101 : Int64) + ((q1 &&& (9223372036854775807 : Int64)) % (9223372036854775707 : Int64)))), .second, .val (.ref o7)] [(.int (1 : Int32))])) (fun t k => XS.goto X11.here hx rfl (pc0 := 85) (pc' := 89) rfl (hb hby at_85) (by decide) (by decide) k) ?_
    exact Go.retN X11 hx (t := .boolean) Bd.returns Bd.notSynchronized (by simp) (hb hby at_89) (by decide) (by decide) e11 ⟨rfl, N11⟩

set_option maxRecDepth 65536 in
set_option maxHeartbeats 40000000 in
theorem comes_1 {Post : Tables → Env → Array Value → State → Outcome → State → Prop} (hpost : ∀ tb e args s v u, (limb_1_1.after args s (.returned v) u = true ∧ limb_1_2.after args s (.returned v) u = true ∧ True) → FrameEnd s (.returned v) u (Jvm.fieldLocs frame_1_writes args s ++ Jvm.arrayLocs frame_1_arrays args s ++ Jvm.staticLocs frame_1_statics s) 16 128 → Post tb e args s (.returned v) u) :
    ArmFor flags0 classFile x code maxLocals ret World_1 tables_1 room_1 Calls_1 rest_1 Pre_1 Post := by
  intro l hfl _ _ p e ha hc hk s m args below hf hA hF happ hP
  obtain ⟨hcalls, hrest, hpre⟩ := hP
  obtain ⟨-, -, -, hnamed, -, -, -, hat⟩ := (Spec.applies_iff hf).mp happ
  obtain ⟨hg, hn⟩ := and_e (Cond.before_iff.mp (show (Jvm.Cond.and given_1 narrow_1).before args s = true from hpre))
  obtain ⟨ga0, gb0⟩ := and_e hg
  obtain ⟨ga1, gb1⟩ := and_e gb0
  obtain ⟨ga2, gb2⟩ := and_e gb1
  obtain ⟨w0, w1, w2, rfl⟩ : ∃ w0 w1 w2 : Value, args = #[w0, w1, w2] := by
    have hs : args.size = 3 := by simpa [Cond.value, given_1] using ga0
    obtain ⟨L⟩ := args
    match L, hs with
    | [w0, w1, w2], _ => exact ⟨w0, w1, w2, rfl⟩
  have hw := fun d (hd : d ∈ tables_1) => atoms_spec (ws := Jvm.Cond.code x code maxLocals ret :: tables_1) hat d (List.mem_cons_of_mem _ hd)
  obtain ⟨i0, ei0⟩ := isL_v ga1
  obtain rfl : w0 = (.long i0) := Option.some.inj ei0
  obtain ⟨i1, ei1⟩ := isL_v ga2
  obtain rfl : w1 = (.long i1) := Option.some.inj ei1
  obtain ⟨i2, ei2⟩ := is_v gb2
  obtain rfl : w2 = (.int i2) := Option.some.inj ei2
  obtain ⟨n, o, h1, h2, h3, _, L, rfl, ⟨rfl, N⟩, hq⟩ := rm0 l s _ hw tables_1 i0 i1 i2 s.heap s.heap.size (Nat.le_refl _)  p e ha hc hk s m _ below hf ((Spec.applies_iff_loose hf).mp happ).1 ⟨rfl, State.Warmed39.refl s, rfl⟩ trivial
  refine ⟨n, _, h1, h2, h3, hpost _ _ _ _ _ _ ⟨Cond.after_iff.mpr rfl, Cond.after_iff.mpr (eq_i res_at (Term.int_eval (1)) rfl), trivial⟩ ⟨hq.1, hq.2.1, (hq.2.2.sift fun y hy => Or.inr (N y hy)).mono (by decide) (by decide)⟩⟩
theorem main_1_1 : Claimed_1_1 := comes_1 fun _ _ _ _ _ _ h hF => ⟨h.1, hF⟩
theorem main_1_2 : Claimed_1_2 := comes_1 fun _ _ _ _ _ _ h hF => ⟨h.2.1, hF⟩

end Jvm.Pilot.@@N@@
namespace Jvm.Pilot.@@N@@
open Jvm Jvm.ClassFile Sem Op Lib Jvm.Free Jvm.Stand Jvm.Pilot.@@N@@.Jvm.D
/-! MADE BY PROGRAM (witnessworld.py) out of the Statement's table words and the real class files: 8 classes; the members and pool entries that the words name. The judged class is class 1, her method 1. -/
namespace start1
open Jvm.ClassFile
def u (s : String) : CpInfo := .utf8 (stringToUtf16 s)
/-- a pool by its gaps: so many unusable entries, then the entry; so many at the end -/
def gap : Nat → List CpInfo → List CpInfo
  | 0, r => r
  | n + 1, r => .unusable :: gap n r
def poolList (es : List (Nat × CpInfo)) (last : Nat) : List CpInfo := es.foldr (fun e r => gap e.1 (e.2 :: r)) (gap last [])
def pool (es : List (Nat × CpInfo)) (last : Nat) : Array CpInfo := ⟨poolList es last⟩
def fileOf (pool : Array CpInfo) (this : Nat) (attrs : Array Attribute := #[]) (ms : Array MethodInfo := #[]) (fl : Nat := 33) (sup : Nat := 0) (ifs : Array Nat := #[]) (fds : Array FieldInfo := #[]) : ClassFile where
  minorVersion := 0
  majorVersion := 65
  constantPool := pool
  accessFlags := fl
  thisClass := this
  superClass := sup
  interfaces := ifs
  fields := fds
  methods := ms
  attributes := attrs
def plain (name : String) (sup : Option ClassId) : Class where
  name := name
  kind := .ordinary
  loader := none
  accessFlags := 33
  super := sup
  interfaces := #[]
  cf := none
  fields := #[]
  methods := #[]
  instanceTypes := #[]
  staticTypes := #[]
  resolved := #[]
  callSites := []
  init := .initialized
  statics := none
  mirror := none

def pool0 : Array CpInfo := pool [(5, u "<init>"), (0, u "()V"), (1, .class_ 10), (1, u "java/lang/Object")] 113

def k0c0 : Code := { maxStack := 0, maxLocals := 1, code := object_method_1_code, exceptionTable := #[], attributes := #[] }
def k0m0 : Method := { name := "<init>", desc := "()V", sig := { parameters := [], returnType := none }, accessFlags := 1, code := some k0c0 }
/-- java/lang/Object -/
def k0 : Class := { plain "java/lang/Object" none with
  accessFlags := 33
  interfaces := #[]
  cf := some (fileOf pool0 8 #[] #[{ accessFlags := 1, nameIndex := 5, descriptorIndex := 6, attributes := #[] }] 33 0 #[] #[])
  fields := #[]
  methods := #[k0m0]
  instanceTypes := #[]
  staticTypes := #[]
  resolved := Array.replicate 124 none
  statics := none }

def pool1 : Array CpInfo := pool [(2, .class_ 4), (1, u "java/lang/Object"), (0, u "<init>"), (0, u "()V"), (2, .long 9223372036854775807), (1, .long 101), (1, .long 9223372036854775707), (1, .class_ 16), (0, u "com/example/dispatch_to_workers/dispatchtoworkers/core/TimeLimit"), (0, .methodref 15 18), (0, .nameAndType 5 19), (0, u "(JJ)V"), (0, .methodref 15 21), (0, .nameAndType 22 23), (0, u "ofMedian"), (0, u "()Z"), (0, .class_ 25), (0, u "com/example/dispatch_to_workers/dispatchtoworkers/core/TimeLimitOfMedianPinLaw"), (2, u "law"), (0, u "(JJI)Z")] 3

def k1m0 : Method := { name := "<init>", desc := "()V", sig := { parameters := [], returnType := none }, accessFlags := 1, code := none }
def k1c1 : Code := { maxStack := 6, maxLocals := 11, code := code, exceptionTable := #[], attributes := #[] }
def k1m1 : Method := { name := "law", desc := "(JJI)Z", sig := { parameters := [.long, .long, .int], returnType := some .boolean }, accessFlags := 9, code := some k1c1 }
/-- com/example/dispatch_to_workers/dispatchtoworkers/core/TimeLimitOfMedianPinLaw -/
def k1 : Class := { plain "com/example/dispatch_to_workers/dispatchtoworkers/core/TimeLimitOfMedianPinLaw" (some 0) with
  accessFlags := 49
  interfaces := #[]
  cf := some (fileOf pool1 24 #[] #[{ accessFlags := 1, nameIndex := 5, descriptorIndex := 6, attributes := #[] }, { accessFlags := 9, nameIndex := 28, descriptorIndex := 29, attributes := #[] }] 49 2 #[] #[])
  fields := #[]
  methods := #[k1m0, k1m1]
  instanceTypes := #[]
  staticTypes := #[]
  resolved := Array.replicate 33 none
  statics := none }

def pool2 : Array CpInfo := pool [(1, .methodref 2 3), (0, .class_ 4), (0, .nameAndType 5 6), (0, u "java/lang/Object"), (0, u "<init>"), (0, u "()V"), (0, .class_ 8), (0, u "java/lang/Record")] 13

def k2c0 : Code := { maxStack := 1, maxLocals := 1, code := jdk_30_method_1_code, exceptionTable := #[], attributes := #[] }
def k2m0 : Method := { name := "<init>", desc := "()V", sig := { parameters := [], returnType := none }, accessFlags := 4, code := some k2c0 }
/-- java/lang/Record -/
def k2 : Class := { plain "java/lang/Record" (some 0) with
  accessFlags := 1057
  interfaces := #[]
  cf := some (fileOf pool2 7 #[] #[{ accessFlags := 4, nameIndex := 5, descriptorIndex := 6, attributes := #[] }] 1057 2 #[] #[])
  fields := #[]
  methods := #[k2m0]
  instanceTypes := #[]
  staticTypes := #[]
  resolved := Array.replicate 22 none
  statics := none }

def pool3 : Array CpInfo := pool [(1, .class_ 2), (0, u "com/example/dispatch_to_workers/dispatchtoworkers/core/TimeLimit"), (0, .methodref 4 5), (0, .class_ 6), (0, .nameAndType 7 8), (0, u "java/lang/Record"), (0, u "<init>"), (0, u "()V"), (9, .long 100), (4, .fieldref 1 24), (0, .nameAndType 25 26), (0, u "seconds"), (0, u "J"), (0, .fieldref 1 28), (0, .nameAndType 29 26), (0, u "percent"), (2, u "DURATION"), (0, u "Ljava/util/regex/Pattern;"), (8, u "PERCENTAGE"), (5, u "()Z"), (24, u "(JJ)V"), (12, u "ofMedian"), (21, u "UNITS"), (0, u "Ljava/util/Map;"), (77, u "NANOS_PER_SECOND"), (1, u "NANOS_PER_MILLI"), (0, u "SHORTEST_OF_MEDIAN")] 68

def k3c0 : Code := { maxStack := 6, maxLocals := 5, code := prog_30_method_1_code, exceptionTable := #[], attributes := #[] }
def k3m0 : Method := { name := "<init>", desc := "(JJ)V", sig := { parameters := [.long, .long], returnType := none }, accessFlags := 1, code := some k3c0 }
def k3c1 : Code := { maxStack := 4, maxLocals := 1, code := prog_30_method_4_code, exceptionTable := #[], attributes := #[] }
def k3m1 : Method := { name := "ofMedian", desc := "()Z", sig := { parameters := [], returnType := some .boolean }, accessFlags := 1, code := some k3c1 }
/-- com/example/dispatch_to_workers/dispatchtoworkers/core/TimeLimit -/
def k3 : Class := { plain "com/example/dispatch_to_workers/dispatchtoworkers/core/TimeLimit" (some 2) with
  accessFlags := 49
  interfaces := #[]
  cf := some (fileOf pool3 1 #[] #[{ accessFlags := 1, nameIndex := 7, descriptorIndex := 73, attributes := #[] }, { accessFlags := 1, nameIndex := 86, descriptorIndex := 48, attributes := #[] }] 49 4 #[] #[{ accessFlags := 18, nameIndex := 25, descriptorIndex := 26, attributes := #[] }, { accessFlags := 18, nameIndex := 29, descriptorIndex := 26, attributes := #[] }, { accessFlags := 26, nameIndex := 32, descriptorIndex := 33, attributes := #[] }, { accessFlags := 26, nameIndex := 42, descriptorIndex := 33, attributes := #[] }, { accessFlags := 26, nameIndex := 108, descriptorIndex := 109, attributes := #[] }, { accessFlags := 26, nameIndex := 187, descriptorIndex := 26, attributes := #[] }, { accessFlags := 26, nameIndex := 189, descriptorIndex := 26, attributes := #[] }, { accessFlags := 24, nameIndex := 190, descriptorIndex := 26, attributes := #[] }])
  fields := #[{ name := "seconds", type := .long, accessFlags := 18, slot := 0, constantValue := 0 }, { name := "percent", type := .long, accessFlags := 18, slot := 1, constantValue := 0 }, { name := "DURATION", type := (.object "java/util/regex/Pattern"), accessFlags := 26, slot := 0, constantValue := 0 }, { name := "PERCENTAGE", type := (.object "java/util/regex/Pattern"), accessFlags := 26, slot := 1, constantValue := 0 }, { name := "UNITS", type := (.object "java/util/Map"), accessFlags := 26, slot := 2, constantValue := 0 }, { name := "NANOS_PER_SECOND", type := .long, accessFlags := 26, slot := 3, constantValue := 0 }, { name := "NANOS_PER_MILLI", type := .long, accessFlags := 26, slot := 4, constantValue := 0 }, { name := "SHORTEST_OF_MEDIAN", type := .long, accessFlags := 24, slot := 5, constantValue := 0 }]
  methods := #[k3m0, k3m1]
  instanceTypes := #[.long, .long]
  staticTypes := #[(.object "java/util/regex/Pattern"), (.object "java/util/regex/Pattern"), (.object "java/util/Map"), .long, .long, .long]
  resolved := Array.replicate 259 none
  statics := none }

def pool4 : Array CpInfo := pool [(1, u "java/lang/Cloneable"), (0, .class_ 1), (0, u "java/lang/Object"), (0, .class_ 3)] 3

/-- java/lang/Cloneable -/
def k4 : Class := { plain "java/lang/Cloneable" (some 0) with
  accessFlags := 1537
  interfaces := #[]
  cf := some (fileOf pool4 2 #[] #[] 1537 4 #[] #[])
  fields := #[]
  methods := #[]
  instanceTypes := #[]
  staticTypes := #[]
  resolved := Array.replicate 8 none
  statics := none }

def pool5 : Array CpInfo := pool [(1, u "java/io/Serializable"), (0, .class_ 1), (0, u "java/lang/Object"), (0, .class_ 3)] 3

/-- java/io/Serializable -/
def k5 : Class := { plain "java/io/Serializable" (some 0) with
  accessFlags := 1537
  interfaces := #[]
  cf := some (fileOf pool5 2 #[] #[] 1537 4 #[] #[])
  fields := #[]
  methods := #[]
  instanceTypes := #[]
  staticTypes := #[]
  resolved := Array.replicate 8 none
  statics := none }

/-- the primitive byte -/
def k6 : Class := { plain "byte" none with kind := .primitive 'B', accessFlags := 0x411 }
/-- [B -/
def k7 : Class := { plain "[B" (some 0) with kind := .array 6 .byte, interfaces := #[4, 5], accessFlags := 1041 }

def heap : Heap := #[]
def classes : Array Class := #[k0, k1, k2, k3, k4, k5, k6, k7]
def interned : List (Array UInt16 × Addr) := []
def slotsUsed : Nat := 0
def theMethod : MethodId := ⟨1, 1⟩
def args0 : Array Value := #[.long 9, .long 8, .int 1]
def aboutOver (below : List Frame) : State where
  vm := { classes := classes, interned := interned.toArray }
  heap := heap
  slotsUsed := slotsUsed
  threads := #[{ frames := .invoking theMethod args0 :: below }]
def below0 : List Frame := [.native { method := ⟨0, 0⟩, args := #[] }]
def about1 : State := aboutOver below0
def p0 : Program := .bare "" "" ""
def e0 : Env := launch0.env 0 0 0
theorem w_frames : about1.frames = Frame.invoking theMethod args0 :: below0 := rfl
set_option maxRecDepth 65536 in
theorem w_args : argsFit about1.vm theMethod args0 = true := by decide +kernel
set_option maxRecDepth 65536 in
theorem w_heap : heapFits about1 = true := by decide +kernel
set_option maxRecDepth 65536 in
theorem w_runnable : about1.curStatus? = some .runnable := by decide +kernel
set_option maxRecDepth 65536 in
theorem w_alone : about1.alone = true := by decide +kernel
set_option maxRecDepth 65536 in
theorem w_named : about1.methodNamed? x = some theMethod := by decide +kernel
set_option maxRecDepth 65536 in
theorem w_hears : about1.hears theMethod below0 = true := by decide +kernel
set_option maxRecDepth 65536 in
theorem w_ripe : about1.ripe theMethod args0 below0 = true := by decide +kernel
theorem w_running : about1.status = .running := rfl
set_option maxRecDepth 65536 in
theorem w_room : about1.hasRoom e0.platform room_1 = true :=
  launch0.hasRoom_least _ room_1 (by decide +kernel) (by decide +kernel) (by decide +kernel) (by decide +kernel) (by decide +kernel) (by decide +kernel)
theorem allAtoms_all (ts : List Jvm.Cond) (a : Array Jvm.Value) (st : Jvm.State) : (allAtoms ts).before a st = ts.all (fun c => c.before a st) := by
  induction ts with
  | nil => rfl
  | cons c t ih =>
    show (Jvm.Cond.and c (allAtoms t)).before a st = _
    rw [Jvm.Cond.before_and, ih, List.all_cons]
def words1 : List Jvm.Cond := Jvm.Cond.code x code maxLocals ret :: tables_1
/-- a 'code' word, met by the world's own term for the bytes: nothing is compared byte by byte -/
theorem code_word {y : MethodName} {bytes : ByteArray} {mx : Nat} {rt : Option FieldType} {a : Array Value} {s : State} {m : MethodId} {meth : Method} {c : Code} (h1 : s.methodNamed? y = some m) (h2 : s.vm.method? m = some meth) (h3 : meth.code = some c) (h4 : c.code = bytes)
    (h5 : (c.maxLocals == mx && c.exceptionTable.isEmpty && decide (c.maxStack ≤ mostOperands) && decide (meth.sig.returnType = rt) && !meth.locks && decide (parseMethodDescriptor y.desc = some meth.sig)) = true) : (Jvm.Cond.code y bytes mx rt).before a s = true := by
  simp only [Bool.and_eq_true, beq_iff_eq, Bool.not_eq_true', decide_eq_true_eq] at h5
  obtain ⟨⟨⟨⟨⟨g1, g2⟩, g3⟩, g4⟩, g5⟩, g6⟩ := h5
  simp [Cond.before, Cond.holds, Cond.value, h1, h2, h3, h4, g1, g2, g3, g4, g5, g6]
def isCode : Jvm.Cond → Bool
  | .code _ _ _ _ => true
  | _ => false
theorem all_split {L : List Jvm.Cond} {P : Jvm.Cond → Bool} (h1 : L.all (fun c => isCode c || P c) = true) (h2 : ∀ c ∈ L.filter isCode, P c = true) : L.all P = true := by
  refine List.all_eq_true.mpr fun c hc => ?_
  have h := List.all_eq_true.mp h1 c hc
  rcases Bool.eq_false_or_eq_true (isCode c) with hi | hi
  · exact h2 c (List.mem_filter.mpr ⟨hc, hi⟩)
  · simpa [hi] using h
set_option maxRecDepth 65536 in
theorem w_c0 : (Jvm.Cond.code x code maxLocals ret).before args0 about1 = true := code_word (m := ⟨1, 1⟩) (meth := k1m1) (c := k1c1) (by decide +kernel) rfl rfl rfl (by decide +kernel)
set_option maxRecDepth 65536 in
theorem w_c1 : (Jvm.Cond.code ({ cls := "com/example/dispatch_to_workers/dispatchtoworkers/core/TimeLimit", name := "<init>", desc := "(JJ)V" } : Jvm.MethodName) prog_30_method_1_code (5 : Nat) (Option.none : Option Jvm.ClassFile.FieldType)).before args0 about1 = true := code_word (m := ⟨3, 0⟩) (meth := k3m0) (c := k3c0) (by decide +kernel) rfl rfl rfl (by decide +kernel)
set_option maxRecDepth 65536 in
theorem w_c2 : (Jvm.Cond.code ({ cls := "java/lang/Record", name := "<init>", desc := "()V" } : Jvm.MethodName) jdk_30_method_1_code (1 : Nat) (Option.none : Option Jvm.ClassFile.FieldType)).before args0 about1 = true := code_word (m := ⟨2, 0⟩) (meth := k2m0) (c := k2c0) (by decide +kernel) rfl rfl rfl (by decide +kernel)
set_option maxRecDepth 65536 in
theorem w_c3 : (Jvm.Cond.code ({ cls := "java/lang/Object", name := "<init>", desc := "()V" } : Jvm.MethodName) object_method_1_code (1 : Nat) (Option.none : Option Jvm.ClassFile.FieldType)).before args0 about1 = true := code_word (m := ⟨0, 0⟩) (meth := k0m0) (c := k0c0) (by decide +kernel) rfl rfl rfl (by decide +kernel)
set_option maxRecDepth 65536 in
theorem w_c4 : (Jvm.Cond.code ({ cls := "com/example/dispatch_to_workers/dispatchtoworkers/core/TimeLimit", name := "ofMedian", desc := "()Z" } : Jvm.MethodName) prog_30_method_4_code (1 : Nat) (Option.some Jvm.ClassFile.FieldType.boolean)).before args0 about1 = true := code_word (m := ⟨3, 1⟩) (meth := k3m1) (c := k3c1) (by decide +kernel) rfl rfl rfl (by decide +kernel)
def codes1 : List Jvm.Cond := [Jvm.Cond.code x code maxLocals ret, Jvm.Cond.code ({ cls := "com/example/dispatch_to_workers/dispatchtoworkers/core/TimeLimit", name := "<init>", desc := "(JJ)V" } : Jvm.MethodName) prog_30_method_1_code (5 : Nat) (Option.none : Option Jvm.ClassFile.FieldType), Jvm.Cond.code ({ cls := "java/lang/Record", name := "<init>", desc := "()V" } : Jvm.MethodName) jdk_30_method_1_code (1 : Nat) (Option.none : Option Jvm.ClassFile.FieldType), Jvm.Cond.code ({ cls := "java/lang/Object", name := "<init>", desc := "()V" } : Jvm.MethodName) object_method_1_code (1 : Nat) (Option.none : Option Jvm.ClassFile.FieldType), Jvm.Cond.code ({ cls := "com/example/dispatch_to_workers/dispatchtoworkers/core/TimeLimit", name := "ofMedian", desc := "()Z" } : Jvm.MethodName) prog_30_method_4_code (1 : Nat) (Option.some Jvm.ClassFile.FieldType.boolean)]
set_option maxRecDepth 65536 in
theorem codes_eq : words1.filter isCode = codes1 := rfl
theorem w_codes : ∀ c ∈ words1.filter isCode, c.before args0 about1 = true := by
  rw [codes_eq]
  intro c hc
  simp only [codes1, List.mem_cons, List.not_mem_nil, or_false] at hc
  rcases hc with rfl | rfl | rfl | rfl | rfl
  · exact w_c0
  · exact w_c1
  · exact w_c2
  · exact w_c3
  · exact w_c4
set_option maxRecDepth 65536 in
theorem w_t1 : (words1.take 24).all (fun c => isCode c || c.before args0 about1) = true := by decide +kernel
set_option maxRecDepth 65536 in
theorem w_t2 : (words1.drop 24).all (fun c => isCode c || c.before args0 about1) = true := by decide +kernel
theorem w_tables : (allAtoms (Jvm.Cond.code x code maxLocals ret :: tables_1)).before args0 about1 = true := by
  rw [allAtoms_all]
  show words1.all (fun c => c.before args0 about1) = true
  refine all_split ?_ w_codes
  rw [← List.take_append_drop 24 words1, List.all_append, w_t1, w_t2]
  rfl
set_option maxRecDepth 65536 in
theorem w_case : (Jvm.Cond.and given_1 narrow_1).before args0 about1 = true := by decide +kernel
theorem w_applies : (headSpec (Jvm.Cond.code x code maxLocals ret :: tables_1) room_1).applies x e0.platform about1 = true :=
  (Spec.applies_iff w_frames).mpr ⟨w_running, w_runnable, w_alone, w_named, w_hears, w_ripe, w_room, w_tables⟩
theorem atStart : AtStart classFile x code maxLocals ret World_1 tables_1 room_1 Calls_1 rest_1 Pre_1 launch0 p0 e0 about1 theMethod args0 below0 :=
  ⟨lists_1, trivial, launch0.admits_env _ _ _, launch0.least_env, fairChoices_fair.cas, fairChoices_fair.clock, w_frames, w_args, w_heap, w_applies, trivial, trivial, w_case⟩
end start1
theorem witness_1 : WitnessClaimed_1 := ⟨start1.p0, start1.e0, start1.about1, start1.theMethod, start1.args0, start1.below0, start1.atStart⟩
end Jvm.Pilot.@@N@@
