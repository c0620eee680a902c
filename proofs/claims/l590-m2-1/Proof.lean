import JvmDerived
import JvmDerived.Pilot.@@N@@Statement
import JvmDerived.Pilot.@@N@@Code
set_option linter.unusedVariables false
set_option linter.unusedSimpArgs false
namespace Jvm.RoadKit
open Sem ClassFile Op Lib Jvm.Stand Jvm.Free Jvm.LawKit
section New
variable {p : Program} {l : Launch} {e : Env} {R : Room} {s : State} {m : MethodId} {args : Array Value} {below : List Frame} {meth : Method} {c : Code} {T : State} {locs : List Loc} {cells slots : Nat}
theorem retI (X : Stand p l e R s m args below meth c T locs cells slots) (hx : p.tables.exec = Jvm.exec) {pc : Nat} {Ls : Array Slot} {z : Int32} {rest : List Value} (hret : meth.sig.returnType = some .int) (hd : decode c.code pc = .ok (.ireturn, 1)) {fs : List Frame}
    (hl : ∀ (f : JFrame) (acts : List Action), f.method = m → f.locked = none → f.entered = [] → (doReturn e (T.setTop f) acts (some (.int z))).1 = T.setFrames fs) : Steps p.tables e below (T.setTop (mkF m pc Ls (.int z :: rest))) (T.setFrames fs) := by
  have hm' : T.vm.method? m = some meth := X.method'
  have hn : narrow .int (.int z) = .int z := rfl
  show Steps p.tables e below (T.setTop { method := m, pc := pc, locals := Ls, stack := _ :: rest, locked := none }) _
  jvm_step X.here [X.here.top, hx, hd, hm', hret, hn]
  first | (intro acts; rw [hl _ acts rfl rfl rfl]) | rw [hl _ _ rfl rfl rfl]
  exact Steps.refl _
end New
end Jvm.RoadKit
namespace Jvm.Pilot.@@N@@
open Jvm Jvm.ClassFile Sem Op Lib Jvm.Free Jvm.Stand Jvm.LawKit Jvm.RoadKit Bundle Jvm.Pilot.@@N@@.Jvm.D
section OwnGo
variable {p : Program} {l : Launch} {e : Env} {R : Room} {s : State} {m : MethodId} {args : Array Value} {below : List Frame} {meth : Method} {c : Code} {T T' : State} {locs : List Loc} {cells slots : Nat} {C S : Nat} {Q : Option Value → Heap → List Loc → Prop} {h : Heap}
/-- from here the run comes to a return of which Q holds -/
def Go (p : Program) (e : Env) (below : List Frame) (s : State) (Q : Option Value → Heap → List Loc → Prop) (C S : Nat) (S0 : State) : Prop :=
  ∃ s₂ o, Steps p.tables e below S0 s₂ ∧ s₂.status = .running ∧ Ended s₂ below o ∧ ∃ v L, o = .returned v ∧ Q v s₂.heap L ∧ FrameEnd s o s₂ L C S
theorem own_go {S0 : State} (k : Go p e below s Q C S S0) : ∃ s₂ o, Steps p.tables e below S0 s₂ ∧ s₂.status = .running ∧ Ended s₂ below o ∧ ∃ v L, o = .returned v ∧ Q v s₂.heap L ∧ FrameEnd s o s₂ L C S := k
theorem Go.to {g g' : JFrame} (st : ∀ t, Steps p.tables e below (T'.setTop g') t → Steps p.tables e below (T.setTop g) t) (k : Go p e below s Q C S (T'.setTop g')) : Go p e below s Q C S (T.setTop g) := by
  obtain ⟨s₂, o, h1, r⟩ := k
  exact ⟨s₂, o, st _ h1, r⟩
theorem Go.retI (X : Stand p l e R s m args below meth c T locs cells slots) (hx : p.tables.exec = Jvm.exec) {pc : Nat} {Ls : Array Slot} {z : Int32} {rest : List Value} (hret : meth.sig.returnType = some .int) (hlk : meth.locks = false) (hd : decode c.code pc = .ok (.ireturn, 1)) (hC : cells ≤ C) (hS : slots ≤ S) (eT : T.heap = h) (hQ : Q (some (.int z)) h locs) :
    Go p e below s Q C S (T.setTop (mkF m pc Ls (.int z :: rest))) := by
  obtain ⟨fs, hr, hrun, hended, hW, hsame⟩ := X.leave (v := some (.int z)) (fun h => by rw [hret] at h; cases h) hlk
  exact ⟨_, _, Jvm.RoadKit.retI X hx hret hd hr, hrun, hended, _, _, rfl, (show Q (some (.int z)) T.heap locs from eT ▸ hQ), ⟨_, rfl⟩, hW, hsame.mono hC hS⟩
theorem Go.retN (X : Stand p l e R s m args below meth c T locs cells slots) (hx : p.tables.exec = Jvm.exec) {pc : Nat} {Ls : Array Slot} {z : Int32} {t : FieldType} {rest : List Value} (hret : meth.sig.returnType = some t) (hlk : meth.locks = false) (ht : t = .boolean ∨ t = .byte ∨ t = .char ∨ t = .short) (hd : decode c.code pc = .ok (.ireturn, 1)) (hC : cells ≤ C) (hS : slots ≤ S) (eT : T.heap = h) (hQ : Q (some (.int (nar t z))) h locs) :
    Go p e below s Q C S (T.setTop (mkF m pc Ls (.int z :: rest))) := by
  obtain ⟨fs, hr, hrun, hended, hW, hsame⟩ := X.leave (v := some (.int (nar t z))) (fun h => by rw [hret] at h; cases h) hlk
  exact ⟨_, _, Jvm.RoadKit.retN X hx hret ht hd hr, hrun, hended, _, _, rfl, (show Q (some (.int (nar t z))) T.heap locs from eT ▸ hQ), ⟨_, rfl⟩, hW, hsame.mono hC hS⟩
theorem Go.ret (X : Stand p l e R s m args below meth c T locs cells slots) (hx : p.tables.exec = Jvm.exec) {pc : Nat} {Ls : Array Slot} (hret : meth.sig.returnType = none) (hlk : meth.locks = false) (hd : decode c.code pc = .ok (.return_, 1)) (hC : cells ≤ C) (hS : slots ≤ S) (eT : T.heap = h) (hQ : Q none h locs) :
    Go p e below s Q C S (T.setTop (mkF m pc Ls [])) := by
  obtain ⟨fs, hr, hrun, hended, hW, hsame⟩ := X.leave (v := none) (fun _ => rfl) hlk
  exact ⟨_, _, X.returnOut hx hret hd hr, hrun, hended, _, _, rfl, (show Q none T.heap locs from eT ▸ hQ), ⟨_, rfl⟩, hW, hsame.mono hC hS⟩
theorem Go.retJ (X : Stand p l e R s m args below meth c T locs cells slots) (hx : p.tables.exec = Jvm.exec) {pc : Nat} {Ls : Array Slot} {z : Int64} {rest : List Value} (hret : meth.sig.returnType = some .long) (hlk : meth.locks = false) (hd : decode c.code pc = .ok (.lreturn, 1)) (hC : cells ≤ C) (hS : slots ≤ S) (eT : T.heap = h) (hQ : Q (some (.long z)) h locs) :
    Go p e below s Q C S (T.setTop (mkF m pc Ls (.long z :: rest))) := by
  obtain ⟨fs, hr, hrun, hended, hW, hsame⟩ := X.leave (v := some (.long z)) (fun h => by rw [hret] at h; cases h) hlk
  exact ⟨_, _, retOut X hx hret rfl (Or.inr (Or.inl ⟨rfl, rfl, _, rfl⟩)) hd hr, hrun, hended, _, _, rfl, (show Q (some (.long z)) T.heap locs from eT ▸ hQ), ⟨_, rfl⟩, hW, hsame.mono hC hS⟩
theorem Go.retA (X : Stand p l e R s m args below meth c T locs cells slots) (hx : p.tables.exec = Jvm.exec) {pc : Nat} {Ls : Array Slot} {z : Addr} {t : FieldType} {rest : List Value} (hret : meth.sig.returnType = some t) (hlk : meth.locks = false) (ht : t.isReference = true) (hd : decode c.code pc = .ok (.areturn, 1)) (hC : cells ≤ C) (hS : slots ≤ S) (eT : T.heap = h) (hQ : Q (some (.ref z)) h locs) :
    Go p e below s Q C S (T.setTop (mkF m pc Ls (.ref z :: rest))) := by
  obtain ⟨fs, hr, hrun, hended, hW, hsame⟩ := X.leave (v := some (.ref z)) (fun h => by rw [hret] at h; cases h) hlk
  exact ⟨_, _, retOut X hx hret (by cases t <;> first | rfl | cases ht) (Or.inr (Or.inr (Or.inr (Or.inr ⟨rfl, ht, rfl⟩)))) hd hr, hrun, hended, _, _, rfl, (show Q (some (.ref z)) T.heap locs from eT ▸ hQ), ⟨_, rfl⟩, hW, hsame.mono hC hS⟩
end OwnGo
theorem own_irr (x : Int32) : ¬ x < x := by rw [Int32.lt_iff_toInt_lt]; omega
theorem own_irrL (x : Int64) : ¬ x < x := by rw [Int64.lt_iff_toInt_lt]; omega
theorem own_lrem {p : Program} {l : Launch} {e : Env} {R : Room} {s : State} {m : MethodId} {args : Array Value} {below : List Frame} {meth : Method} {c : Code} {T target : State} {locs : List Loc} {cells slots : Nat} {g : JFrame} (X : Stand p l e R s m args below meth c T locs cells slots) (hx : p.tables.exec = Jvm.exec) (hg : g.method = m) {x y : Int64} {rest : List Value} (hd : decode c.code g.pc = .ok (.lrem, 1)) (hs : g.stack = .long y :: .long x :: rest) (hy : y ≠ 0)
    (hr : Steps p.tables e below (T.setTop { g with pc := g.pc + 1, stack := .long (x % y) :: rest }) target) : Steps p.tables e below (T.setTop g) target :=
  XS.lrem X.here hx hg hd hs hy (by rw [lrem_mod]; exact hr)
theorem own_int {c : Cell} {vs : List Value} {d : Value} {j z : Int32} (H : Has c vs d) (G : ∀ i, i < c.slots.size → fits .int (vs.getD i d) = true) (hin : ¬ (j < 0 ∨ c.slots.size ≤ j.toNatClampNeg)) : ∃ x : Int32, c.slots[j.toNatClampNeg]? = some (.int x) := by
  have hk : j.toNatClampNeg < c.slots.size := Nat.lt_of_not_le fun q => hin (Or.inr q)
  have h1 := H _ hk
  have h2 := G _ hk
  cases hv : vs.getD j.toNatClampNeg d with
  | int x => exact ⟨x, by rw [h1, hv]⟩
  | _ => rw [hv] at h2; simp [fits] at h2
theorem d2_0 : decode jdk_30_method_1_code 0 = .ok (.aload_n 0, 1) := by decide +kernel
theorem d2_1 : decode jdk_30_method_1_code 1 = .ok (.invokespecial 1, 3) := by decide +kernel
theorem d2_4 : decode jdk_30_method_1_code 4 = .ok (.return_, 1) := by decide +kernel
theorem pn_java_lang_Record : plainName "java/lang/Record" = true := by first | (simp [plainName, overriddenIn]; done) | decide +kernel
theorem d5_0 : decode jdk_29_method_66_code 0 = .ok (.lload_n 0, 1) := by decide +kernel
theorem d5_1 : decode jdk_29_method_66_code 1 = .ok (.lload_n 2, 1) := by decide +kernel
theorem d5_2 : decode jdk_29_method_66_code 2 = .ok (.lcmp, 1) := by decide +kernel
theorem d5_3 : decode jdk_29_method_66_code 3 = .ok (.ifCond .lt 7, 3) := by decide +kernel
theorem d5_10 : decode jdk_29_method_66_code 10 = .ok (.lload_n 2, 1) := by decide +kernel
theorem d5_11 : decode jdk_29_method_66_code 11 = .ok (.lreturn, 1) := by decide +kernel
theorem d5_6 : decode jdk_29_method_66_code 6 = .ok (.lload_n 0, 1) := by decide +kernel
theorem d5_7 : decode jdk_29_method_66_code 7 = .ok (.goto 4, 3) := by decide +kernel
theorem d6_0 : decode jdk_29_method_70_code 0 = .ok (.lload_n 0, 1) := by decide +kernel
theorem d6_1 : decode jdk_29_method_70_code 1 = .ok (.lload_n 2, 1) := by decide +kernel
theorem d6_2 : decode jdk_29_method_70_code 2 = .ok (.lcmp, 1) := by decide +kernel
theorem d6_3 : decode jdk_29_method_70_code 3 = .ok (.ifCond .gt 7, 3) := by decide +kernel
theorem d6_10 : decode jdk_29_method_70_code 10 = .ok (.lload_n 2, 1) := by decide +kernel
theorem d6_11 : decode jdk_29_method_70_code 11 = .ok (.lreturn, 1) := by decide +kernel
theorem d6_6 : decode jdk_29_method_70_code 6 = .ok (.lload_n 0, 1) := by decide +kernel
theorem d6_7 : decode jdk_29_method_70_code 7 = .ok (.goto 4, 3) := by decide +kernel
theorem d1_0 : decode prog_19_method_1_code 0 = .ok (.aload_n 0, 1) := by decide +kernel
theorem d1_1 : decode prog_19_method_1_code 1 = .ok (.invokespecial 1, 3) := by decide +kernel
theorem pd_2829V : parseMethodDescriptor "()V" = some ⟨[], none⟩ := by decide +kernel
theorem d1_4 : decode prog_19_method_1_code 4 = .ok (.aload_n 0, 1) := by decide +kernel
theorem d1_5 : decode prog_19_method_1_code 5 = .ok (.lload_n 1, 1) := by decide +kernel
theorem d1_6 : decode prog_19_method_1_code 6 = .ok (.putfield 7, 3) := by decide +kernel
theorem d1_9 : decode prog_19_method_1_code 9 = .ok (.aload_n 0, 1) := by decide +kernel
theorem d1_10 : decode prog_19_method_1_code 10 = .ok (.lload_n 3, 1) := by decide +kernel
theorem d1_11 : decode prog_19_method_1_code 11 = .ok (.putfield 13, 3) := by decide +kernel
theorem d1_14 : decode prog_19_method_1_code 14 = .ok (.aload_n 0, 1) := by decide +kernel
theorem d1_15 : decode prog_19_method_1_code 15 = .ok (.lload 5, 2) := by decide +kernel
theorem d1_17 : decode prog_19_method_1_code 17 = .ok (.putfield 16, 3) := by decide +kernel
theorem d1_20 : decode prog_19_method_1_code 20 = .ok (.return_, 1) := by decide +kernel
theorem pn_com_example_headstart_headstart_server_ByteRange : plainName "com/example/headstart/headstart/server/ByteRange" = true := by first | (simp [plainName, overriddenIn]; done) | decide +kernel
theorem d4_0 : decode prog_19_method_3_code 0 = .ok (.aload_n 0, 1) := by decide +kernel
theorem d4_1 : decode prog_19_method_3_code 1 = .ok (.getfield 13, 3) := by decide +kernel
theorem d4_4 : decode prog_19_method_3_code 4 = .ok (.lconst 0, 1) := by decide +kernel
theorem d4_5 : decode prog_19_method_3_code 5 = .ok (.lcmp, 1) := by decide +kernel
theorem d4_6 : decode prog_19_method_3_code 6 = .ok (.ifCond .le 7, 3) := by decide +kernel
theorem d4_9 : decode prog_19_method_3_code 9 = .ok (.iconst 1, 1) := by decide +kernel
theorem d4_10 : decode prog_19_method_3_code 10 = .ok (.goto 4, 3) := by decide +kernel
theorem d4_14 : decode prog_19_method_3_code 14 = .ok (.ireturn, 1) := by decide +kernel
theorem d4_13 : decode prog_19_method_3_code 13 = .ok (.iconst 0, 1) := by decide +kernel
theorem pd_28JJ29J : parseMethodDescriptor "(JJ)J" = some ⟨[.long, .long], some .long⟩ := by decide +kernel
theorem pd_28JJJ29V : parseMethodDescriptor "(JJJ)V" = some ⟨[.long, .long, .long], none⟩ := by decide +kernel
theorem pd_2829Z : parseMethodDescriptor "()Z" = some ⟨[], some .boolean⟩ := by decide +kernel
theorem pn_com_example_headstart_headstart_server_ByteRangeSatisfiablePinLaw : plainName "com/example/headstart/headstart/server/ByteRangeSatisfiablePinLaw" = true := by first | (simp [plainName, overriddenIn]; done) | decide +kernel
theorem own_nn (a : Int64) : 0 ≤ (a &&& (9223372036854775807 : Int64)).toInt := by
  have h1 := c_maskL a (9223372036854775807 : Int64) 63 (by decide) (by decide)
  omega
theorem own_m0 {a b c sz fi la ln : Int64} (h1 : sz = (a &&& (9223372036854775807 : Int64))) (h2 : fi = (b &&& (9223372036854775807 : Int64))) (h3 : la = (if fi < (c &&& (9223372036854775807 : Int64)) then (c &&& (9223372036854775807 : Int64)) else fi))
    (h4 : ln = (((if (sz - (1 : Int64)) < la then (sz - (1 : Int64)) else la) - fi) + (1 : Int64))) (hc : fi < sz) : (0 : Int64) < ln := by
  have n1 := own_nn a; have n2 := own_nn b; have n3 := own_nn c
  rw [← h1] at n1; rw [← h2] at n2
  generalize (c &&& (9223372036854775807 : Int64)) = cc at *
  have s1 := c_lsub sz (1 : Int64)
  have r1 := rng64 sz; have r2 := rng64 fi; have r3 := rng64 la; have r4 := rng64 (sz - (1 : Int64)); have r5 := rng64 cc; have r6 := rng64 ln
  have e1 : (1 : Int64).toInt = 1 := rfl
  have e0 : (0 : Int64).toInt = 0 := rfl
  rw [Int64.lt_iff_toInt_lt] at hc ⊢
  have hla : fi.toInt ≤ la.toInt := by
    rw [h3]; split
    · rename_i q; rw [Int64.lt_iff_toInt_lt] at q; omega
    · omega
  have hmn : ∃ mn : Int64, ln = (mn - fi) + (1 : Int64) ∧ fi.toInt ≤ mn.toInt ∧ mn.toInt < sz.toInt := by
    refine ⟨_, h4, ?_, ?_⟩
    · split
      · omega
      · omega
    · split
      · omega
      · rename_i q; rw [Int64.lt_iff_toInt_lt] at q; omega
  obtain ⟨mn, rfl, q1, q2⟩ := hmn
  have s2 := c_lsub mn fi; have s3 := c_ladd (mn - fi) (1 : Int64); have r7 := rng64 mn; have r8 := rng64 (mn - fi)
  omega
theorem own_m1 {a c sz n1 f1 : Int64} (h1 : sz = (a &&& (9223372036854775807 : Int64))) (h2 : n1 = (c &&& (9223372036854775807 : Int64))) (h3 : f1 = (sz - (if sz < n1 then sz else n1))) : (0 : Int64) < (sz - f1) ↔ f1 < sz := by
  have m1 := own_nn a; have m2 := own_nn c
  rw [← h1] at m1; rw [← h2] at m2
  have hmn : ∃ mn : Int64, f1 = sz - mn ∧ 0 ≤ mn.toInt ∧ mn.toInt ≤ sz.toInt := by
    refine ⟨_, h3, ?_, ?_⟩
    · split
      · omega
      · omega
    · split
      · omega
      · rename_i q; rw [Int64.lt_iff_toInt_lt] at q; omega
  obtain ⟨mn, rfl, q1, q2⟩ := hmn
  have s1 := c_lsub sz mn; have s2 := c_lsub sz (sz - mn); have r1 := rng64 sz; have r2 := rng64 (sz - mn); have r3 := rng64 (sz - (sz - mn))
  have e0 : (0 : Int64).toInt = 0 := rfl
  rw [Int64.lt_iff_toInt_lt, Int64.lt_iff_toInt_lt]
  omega

theorem ef_rm2 (m : MethodId) (x0 : Addr) : entryFrame m #[(.ref x0)] 1 = mkF m 0 #[.val (.ref x0)] [] := by first | (simp [entryFrame, mkF, argsToLocals, Value.category]; done) | rfl
def Q2 (Z : State) (a0 : Addr) (h0 : Heap) (n0 : Nat) (v : Option Value) (h : Heap) (L : List Loc) : Prop := v = none ∧ Fr n0 L ∧ h = h0
set_option maxRecDepth 65536 in
set_option maxHeartbeats 40000000 in
theorem rm2 (l : Launch) (Z : State) (aw : Array Value) (hw : ∀ d ∈ tables_1, d.before aw Z = true) (ws : List Jvm.Cond) (a0 : Addr) (h0 : Heap) (n0 : Nat) (Z0 : n0 ≤ h0.size) :
    MetFree l (⟨"java/lang/Record", "<init>", "()V"⟩ : MethodName) (head1 (Jvm.Cond.code (⟨"java/lang/Record", "<init>", "()V"⟩ : MethodName) jdk_30_method_1_code 1 none :: ws) ({ frames := 1, cells := 0, slots := 0, locals := 12 } : Room)) (fun a U => a = #[(.ref a0)] ∧ Z.Warmed39 U.vm ∧ U.heap = h0) (fun _ _ _ _ _ => True) (fun _ U o U' => ∃ v L, o = .returned v ∧ Q2 Z a0 h0 n0 v U'.heap L ∧ FrameEnd U o U' L ({ frames := 1, cells := 0, slots := 0, locals := 12 } : Room).cells ({ frames := 1, cells := 0, slots := 0, locals := 12 } : Room).slots) := by
  refine MetFree.of_bodySF (plainFor_of_name pn_java_lang_Record) hisR ?_
  intro p e s m args below meth c s₁ Bd hml0 hP hK
  obtain ⟨rfl, hZ, hh⟩ := hP
  have hx := Bd.exec
  have hby := Bd.bytes
  have hml : c.maxLocals = 1 := hml0
  have hown : s.vm.findClass "java/lang/Record" = some m.cls := findClass_of_methodNamed Bd.named
  have hnm := (name_of_methodNamed Bd.named Bd.method).1
  have X0 : Stand p l e ({ frames := 1, cells := 0, slots := 0, locals := 12 } : Room) s m #[(.ref a0)] below meth c s₁ [] 0 0 := Stand.of_body Bd
  have e0 : s₁.heap = h0 := by rw [← hh, Bd.state]; rfl
  have N0 := Fr.nil n0
  refine own_go (Q := Q2 Z a0 h0 n0) ?_
  refine Go.to (g' := (mkF m 0 #[.val (.ref a0)] [])) (fun t k => castTop (ef_rm2 m a0) k) ?_
  refine Go.to (g' := (mkF m 1 #[.val (.ref a0)] [(.ref a0)])) (fun t k => XS.aloadN X0.here hx rfl (hb hby d2_0) rfl rfl k) ?_
  obtain ⟨T1, X1, e1, st1⟩ := initO X0 hx hZ hown (hw _ (List.mem_of_getElem? (i := 13) rfl)) (hw _ (List.mem_of_getElem? (i := 14) rfl)) (hw _ (List.mem_of_getElem? (i := 15) rfl)) e0 (g := (mkF m 1 #[.val (.ref a0)] [(.ref a0)])) rfl (by rw [hml]; rfl) rfl (hb hby d2_1) (by decide) (W := 0) (by show 2 * 0 + _ ≤ _; exact Nat.le_of_eq rfl) (by decide)
  refine Go.to (g' := (mkF m 4 #[.val (.ref a0)] [])) st1 ?_
  exact Go.ret X1 hx Bd.returns Bd.notSynchronized (hb hby d2_4) (by decide) (by decide) e1 ⟨rfl, N0, rfl⟩

theorem ef_rm5 (m : MethodId) (x0 : Int64) (x1 : Int64) : entryFrame m #[(.long x0), (.long x1)] 4 = mkF m 0 #[.val (.long x0), .second, .val (.long x1), .second] [] := by first | (simp [entryFrame, mkF, argsToLocals, Value.category]; done) | rfl
def Q5 (Z : State) (q0 : Int64) (q1 : Int64) (h0 : Heap) (n0 : Nat) (v : Option Value) (h : Heap) (L : List Loc) : Prop := v = some (.long (if q0 < q1 then q1 else q0)) ∧ Fr n0 L ∧ h = h0
set_option maxRecDepth 65536 in
set_option maxHeartbeats 40000000 in
theorem rm5 (l : Launch) (Z : State) (aw : Array Value) (hw : ∀ d ∈ tables_1, d.before aw Z = true) (ws : List Jvm.Cond) (q0 : Int64) (q1 : Int64) (h0 : Heap) (n0 : Nat) (Z0 : n0 ≤ h0.size) :
    MetFree l (⟨"java/lang/Math", "max", "(JJ)J"⟩ : MethodName) (head1 (Jvm.Cond.code (⟨"java/lang/Math", "max", "(JJ)J"⟩ : MethodName) jdk_29_method_66_code 4 (some .long) :: ws) ({ frames := 0, cells := 0, slots := 0, locals := 0 } : Room)) (fun a U => a = #[(.long q0), (.long q1)] ∧ Z.Warmed39 U.vm ∧ U.heap = h0) (fun _ _ _ _ _ => True) (fun _ U o U' => ∃ v L, o = .returned v ∧ Q5 Z q0 q1 h0 n0 v U'.heap L ∧ FrameEnd U o U' L ({ frames := 0, cells := 0, slots := 0, locals := 0 } : Room).cells ({ frames := 0, cells := 0, slots := 0, locals := 0 } : Room).slots) := by
  refine MetFree.of_bodySF (Jvm.Free.JP.mathPlain rfl (by decide +kernel)) hisR ?_
  intro p e s m args below meth c s₁ Bd hml0 hP hK
  obtain ⟨rfl, hZ, hh⟩ := hP
  have hx := Bd.exec
  have hby := Bd.bytes
  have hml : c.maxLocals = 4 := hml0
  have hown : s.vm.findClass "java/lang/Math" = some m.cls := findClass_of_methodNamed Bd.named
  have hnm := (name_of_methodNamed Bd.named Bd.method).1
  have X0 : Stand p l e ({ frames := 0, cells := 0, slots := 0, locals := 0 } : Room) s m #[(.long q0), (.long q1)] below meth c s₁ [] 0 0 := Stand.of_body Bd
  have e0 : s₁.heap = h0 := by rw [← hh, Bd.state]; rfl
  have N0 := Fr.nil n0
  refine own_go (Q := Q5 Z q0 q1 h0 n0) ?_
  refine Go.to (g' := (mkF m 0 #[.val (.long q0), .second, .val (.long q1), .second] [])) (fun t k => castTop (ef_rm5 m q0 q1) k) ?_
  refine Go.to (g' := (mkF m 1 #[.val (.long q0), .second, .val (.long q1), .second] [(.long q0)])) (fun t k => XS.lloadN X0.here hx rfl (hb hby d5_0) rfl k) ?_
  refine Go.to (g' := (mkF m 2 #[.val (.long q0), .second, .val (.long q1), .second] [(.long q1), (.long q0)])) (fun t k => XS.lloadN X0.here hx rfl (hb hby d5_1) rfl k) ?_
  refine Go.to (g' := (mkF m 3 #[.val (.long q0), .second, .val (.long q1), .second] [(.int (lcmpW q0 q1))])) (fun t k => XS.lcmp X0.here hx rfl (hb hby d5_2) rfl k) ?_
  by_cases c1 : q0 < q1
  · refine Go.to (g' := (mkF m 10 #[.val (.long q0), .second, .val (.long q1), .second] [])) (fun t k => XS.ifYes X0.here hx rfl (pc0 := 3) (pc' := 10) rfl (hb hby d5_3) rfl ((if0 _ _).trans (tlt ((lw_lt q0 q1).mpr c1)).1) (by decide) (by decide) k) ?_
    refine Go.to (g' := (mkF m 11 #[.val (.long q0), .second, .val (.long q1), .second] [(.long q1)])) (fun t k => XS.lloadN X0.here hx rfl (hb hby d5_10) rfl k) ?_
    exact Go.retJ X0 hx Bd.returns Bd.notSynchronized (hb hby d5_11) (by decide) (by decide) e0 ⟨by rw [if_pos c1], N0, rfl⟩
  · refine Go.to (g' := (mkF m 6 #[.val (.long q0), .second, .val (.long q1), .second] [])) (fun t k => XS.ifNo X0.here hx rfl (hb hby d5_3) rfl ((if0 _ _).trans (flt (fun q => c1 ((lw_lt q0 q1).mp q))).1) k) ?_
    refine Go.to (g' := (mkF m 7 #[.val (.long q0), .second, .val (.long q1), .second] [(.long q0)])) (fun t k => XS.lloadN X0.here hx rfl (hb hby d5_6) rfl k) ?_
    refine Go.to (g' := (mkF m 11 #[.val (.long q0), .second, .val (.long q1), .second] [(.long q0)])) (fun t k => XS.goto X0.here hx rfl (pc0 := 7) (pc' := 11) rfl (hb hby d5_7) (by decide) (by decide) k) ?_
    exact Go.retJ X0 hx Bd.returns Bd.notSynchronized (hb hby d5_11) (by decide) (by decide) e0 ⟨by rw [if_neg c1], N0, rfl⟩

theorem ef_rm6 (m : MethodId) (x0 : Int64) (x1 : Int64) : entryFrame m #[(.long x0), (.long x1)] 4 = mkF m 0 #[.val (.long x0), .second, .val (.long x1), .second] [] := by first | (simp [entryFrame, mkF, argsToLocals, Value.category]; done) | rfl
def Q6 (Z : State) (q0 : Int64) (q1 : Int64) (h0 : Heap) (n0 : Nat) (v : Option Value) (h : Heap) (L : List Loc) : Prop := v = some (.long (if q1 < q0 then q1 else q0)) ∧ Fr n0 L ∧ h = h0
set_option maxRecDepth 65536 in
set_option maxHeartbeats 40000000 in
theorem rm6 (l : Launch) (Z : State) (aw : Array Value) (hw : ∀ d ∈ tables_1, d.before aw Z = true) (ws : List Jvm.Cond) (q0 : Int64) (q1 : Int64) (h0 : Heap) (n0 : Nat) (Z0 : n0 ≤ h0.size) :
    MetFree l (⟨"java/lang/Math", "min", "(JJ)J"⟩ : MethodName) (head1 (Jvm.Cond.code (⟨"java/lang/Math", "min", "(JJ)J"⟩ : MethodName) jdk_29_method_70_code 4 (some .long) :: ws) ({ frames := 0, cells := 0, slots := 0, locals := 0 } : Room)) (fun a U => a = #[(.long q0), (.long q1)] ∧ Z.Warmed39 U.vm ∧ U.heap = h0) (fun _ _ _ _ _ => True) (fun _ U o U' => ∃ v L, o = .returned v ∧ Q6 Z q0 q1 h0 n0 v U'.heap L ∧ FrameEnd U o U' L ({ frames := 0, cells := 0, slots := 0, locals := 0 } : Room).cells ({ frames := 0, cells := 0, slots := 0, locals := 0 } : Room).slots) := by
  refine MetFree.of_bodySF (Jvm.Free.JP.mathPlain rfl (by decide +kernel)) hisR ?_
  intro p e s m args below meth c s₁ Bd hml0 hP hK
  obtain ⟨rfl, hZ, hh⟩ := hP
  have hx := Bd.exec
  have hby := Bd.bytes
  have hml : c.maxLocals = 4 := hml0
  have hown : s.vm.findClass "java/lang/Math" = some m.cls := findClass_of_methodNamed Bd.named
  have hnm := (name_of_methodNamed Bd.named Bd.method).1
  have X0 : Stand p l e ({ frames := 0, cells := 0, slots := 0, locals := 0 } : Room) s m #[(.long q0), (.long q1)] below meth c s₁ [] 0 0 := Stand.of_body Bd
  have e0 : s₁.heap = h0 := by rw [← hh, Bd.state]; rfl
  have N0 := Fr.nil n0
  refine own_go (Q := Q6 Z q0 q1 h0 n0) ?_
  refine Go.to (g' := (mkF m 0 #[.val (.long q0), .second, .val (.long q1), .second] [])) (fun t k => castTop (ef_rm6 m q0 q1) k) ?_
  refine Go.to (g' := (mkF m 1 #[.val (.long q0), .second, .val (.long q1), .second] [(.long q0)])) (fun t k => XS.lloadN X0.here hx rfl (hb hby d6_0) rfl k) ?_
  refine Go.to (g' := (mkF m 2 #[.val (.long q0), .second, .val (.long q1), .second] [(.long q1), (.long q0)])) (fun t k => XS.lloadN X0.here hx rfl (hb hby d6_1) rfl k) ?_
  refine Go.to (g' := (mkF m 3 #[.val (.long q0), .second, .val (.long q1), .second] [(.int (lcmpW q0 q1))])) (fun t k => XS.lcmp X0.here hx rfl (hb hby d6_2) rfl k) ?_
  by_cases c1 : q1 < q0
  · refine Go.to (g' := (mkF m 10 #[.val (.long q0), .second, .val (.long q1), .second] [])) (fun t k => XS.ifYes X0.here hx rfl (pc0 := 3) (pc' := 10) rfl (hb hby d6_3) rfl ((if0 _ _).trans (tlt ((lw_gt q0 q1).mpr c1)).2.2.1) (by decide) (by decide) k) ?_
    refine Go.to (g' := (mkF m 11 #[.val (.long q0), .second, .val (.long q1), .second] [(.long q1)])) (fun t k => XS.lloadN X0.here hx rfl (hb hby d6_10) rfl k) ?_
    exact Go.retJ X0 hx Bd.returns Bd.notSynchronized (hb hby d6_11) (by decide) (by decide) e0 ⟨by rw [if_pos c1], N0, rfl⟩
  · refine Go.to (g' := (mkF m 6 #[.val (.long q0), .second, .val (.long q1), .second] [])) (fun t k => XS.ifNo X0.here hx rfl (hb hby d6_3) rfl ((if0 _ _).trans (flt (fun q => c1 ((lw_gt q0 q1).mp q))).2.2.1) k) ?_
    refine Go.to (g' := (mkF m 7 #[.val (.long q0), .second, .val (.long q1), .second] [(.long q0)])) (fun t k => XS.lloadN X0.here hx rfl (hb hby d6_6) rfl k) ?_
    refine Go.to (g' := (mkF m 11 #[.val (.long q0), .second, .val (.long q1), .second] [(.long q0)])) (fun t k => XS.goto X0.here hx rfl (pc0 := 7) (pc' := 11) rfl (hb hby d6_7) (by decide) (by decide) k) ?_
    exact Go.retJ X0 hx Bd.returns Bd.notSynchronized (hb hby d6_11) (by decide) (by decide) e0 ⟨by rw [if_neg c1], N0, rfl⟩

theorem ef_rm1 (m : MethodId) (x0 : Addr) (x1 : Int64) (x2 : Int64) (x3 : Int64) : entryFrame m #[(.ref x0), (.long x1), (.long x2), (.long x3)] 7 = mkF m 0 #[.val (.ref x0), .val (.long x1), .second, .val (.long x2), .second, .val (.long x3), .second] [] := by first | (simp [entryFrame, mkF, argsToLocals, Value.category]; done) | rfl
def Q1 (Z : State) (a0 : Addr) (q1 : Int64) (q2 : Int64) (q3 : Int64) (h0 : Heap) (n0 : Nat) (v : Option Value) (h : Heap) (L : List Loc) : Prop := v = none ∧ Fr n0 L ∧ Keep h0 h [a0] ∧ Fld Z h a0 "com/example/headstart/headstart/server/ByteRange" "length" "J" (.long q2)
set_option maxRecDepth 65536 in
set_option maxHeartbeats 40000000 in
theorem rm1 (l : Launch) (Z : State) (aw : Array Value) (hw : ∀ d ∈ tables_1, d.before aw Z = true) (ws : List Jvm.Cond) (a0 : Addr) (q1 : Int64) (q2 : Int64) (q3 : Int64) (h0 : Heap) (n0 : Nat) (Z0 : n0 ≤ h0.size) (E_a0 : Exa Z h0 a0 "com/example/headstart/headstart/server/ByteRange") (F_first : Fld Z h0 a0 "com/example/headstart/headstart/server/ByteRange" "first" "J" (.long (0 : Int64))) (F_length : Fld Z h0 a0 "com/example/headstart/headstart/server/ByteRange" "length" "J" (.long (0 : Int64))) (F_size : Fld Z h0 a0 "com/example/headstart/headstart/server/ByteRange" "size" "J" (.long (0 : Int64))) (g_a0 : n0 ≤ a0) :
    MetFree l (⟨"com/example/headstart/headstart/server/ByteRange", "<init>", "(JJJ)V"⟩ : MethodName) (head1 (Jvm.Cond.code (⟨"com/example/headstart/headstart/server/ByteRange", "<init>", "(JJJ)V"⟩ : MethodName) prog_19_method_1_code 7 none :: ws) ({ frames := 2, cells := 0, slots := 0, locals := 24 } : Room)) (fun a U => a = #[(.ref a0), (.long q1), (.long q2), (.long q3)] ∧ Z.Warmed39 U.vm ∧ U.heap = h0) (fun _ _ _ _ _ => True) (fun _ U o U' => ∃ v L, o = .returned v ∧ Q1 Z a0 q1 q2 q3 h0 n0 v U'.heap L ∧ FrameEnd U o U' L ({ frames := 2, cells := 0, slots := 0, locals := 24 } : Room).cells ({ frames := 2, cells := 0, slots := 0, locals := 24 } : Room).slots) := by
  refine MetFree.of_bodySF (plainFor_of_name pn_com_example_headstart_headstart_server_ByteRange) hisR ?_
  intro p e s m args below meth c s₁ Bd hml0 hP hK
  obtain ⟨rfl, hZ, hh⟩ := hP
  have hx := Bd.exec
  have hby := Bd.bytes
  have hml : c.maxLocals = 7 := hml0
  have hown : s.vm.findClass "com/example/headstart/headstart/server/ByteRange" = some m.cls := findClass_of_methodNamed Bd.named
  have hnm := (name_of_methodNamed Bd.named Bd.method).1
  have X0 : Stand p l e ({ frames := 2, cells := 0, slots := 0, locals := 24 } : Room) s m #[(.ref a0), (.long q1), (.long q2), (.long q3)] below meth c s₁ [] 0 0 := Stand.of_body Bd
  have e0 : s₁.heap = h0 := by rw [← hh, Bd.state]; rfl
  have N0 := Fr.nil n0
  refine own_go (Q := Q1 Z a0 q1 q2 q3 h0 n0) ?_
  refine Go.to (g' := (mkF m 0 #[.val (.ref a0), .val (.long q1), .second, .val (.long q2), .second, .val (.long q3), .second] [])) (fun t k => castTop (ef_rm1 m a0 q1 q2 q3) k) ?_
  refine Go.to (g' := (mkF m 1 #[.val (.ref a0), .val (.long q1), .second, .val (.long q2), .second, .val (.long q3), .second] [(.ref a0)])) (fun t k => XS.aloadN X0.here hx rfl (hb hby d1_0) rfl rfl k) ?_
  obtain ⟨v1, _, ⟨T1, L1, k1, n1⟩, -, X1, ⟨Lc1, hQ1, l1, y1, z1⟩, st1⟩ := X0.specialBack hx (y := (⟨"java/lang/Record", "<init>", "()V"⟩ : MethodName)) rfl hown (mvT hZ (hw _ (List.mem_of_getElem? (i := 8) rfl))) (mvT hZ (hw _ (List.mem_of_getElem? (i := 9) rfl))) (mvT hZ (hw _ (List.mem_of_getElem? (i := 12) rfl))) (by decide) (backOf (W := 0) (rm2 l Z aw hw [] a0  h0 n0 Z0 ) hZ (hw _ (List.mem_of_getElem? (i := 12) rfl)) (hw _ (List.mem_of_getElem? (i := 11) rfl)) (by decide) (by decide)) (g := (mkF m 1 #[.val (.ref a0), .val (.long q1), .second, .val (.long q2), .second, .val (.long q3), .second] [(.ref a0)])) rfl (by rw [hml]; rfl) (Steps.refl _) (a := a0) (argsL := []) (rest := []) (lenOf pd_2829V rfl) rfl (by show 2 * 0 + _ ≤ _; exact Nat.le_of_eq rfl) (hb hby d1_1) (fun _ _ => ⟨rfl, e0, (by decide : 0 + 0 ≤ _), (by decide : 0 + 0 ≤ _)⟩)
  dsimp only [Pt.U, Pt.locs, Pt.cells, Pt.slots] at X1 l1 y1 z1 st1 hQ1
  subst l1 y1 z1
  obtain ⟨rfl, N1q, e1⟩ := hQ1
  have N1 := Fr.app N0 N1q
  refine Go.to (g' := (mkF m 4 #[.val (.ref a0), .val (.long q1), .second, .val (.long q2), .second, .val (.long q3), .second] [])) (fun t k => st1.trans k) ?_
  refine Go.to (g' := (mkF m 5 #[.val (.ref a0), .val (.long q1), .second, .val (.long q2), .second, .val (.long q3), .second] [(.ref a0)])) (fun t k => XS.aloadN X1.here hx rfl (hb hby d1_4) rfl rfl k) ?_
  refine Go.to (g' := (mkF m 6 #[.val (.ref a0), .val (.long q1), .second, .val (.long q2), .second, .val (.long q3), .second] [(.long q1), (.ref a0)])) (fun t k => XS.lloadN X1.here hx rfl (hb hby d1_5) rfl k) ?_
  obtain ⟨T2, h2, X2, e2, W2, st2⟩ := putF X1 hx hZ hown (host := "") (Or.inl (hw _ (List.mem_of_getElem? (i := 16) rfl))) Via.refl e1 F_first E_a0 (Or.inr ⟨(hw _ (List.mem_of_getElem? (i := 17) rfl)), rfl, hnm⟩) (hw _ (List.mem_of_getElem? (i := 3) rfl)) (ty := .long) (by decide) rfl rfl (g := (mkF m 6 #[.val (.ref a0), .val (.long q1), .second, .val (.long q2), .second, .val (.long q3), .second] [(.long q1), (.ref a0)])) rfl rfl (hb hby d1_6)
  have Z2 : n0 ≤ h2.size := Nat.le_trans Z0 (Keep.of_wr W2).1
  have K2 : Keep h0 h2 [a0] := (Keep.refl h0 [a0]).wr W2 (Or.inl (List.mem_of_getElem? (i := 0) rfl))
  have N2 := Fr.snoc X2 N1 g_a0
  have Fw2 : Fld Z h2 a0 "com/example/headstart/headstart/server/ByteRange" "first" "J" (.long q1) := F_first.same W2
  refine Go.to (g' := (mkF m 9 #[.val (.ref a0), .val (.long q1), .second, .val (.long q2), .second, .val (.long q3), .second] [])) st2 ?_
  refine Go.to (g' := (mkF m 10 #[.val (.ref a0), .val (.long q1), .second, .val (.long q2), .second, .val (.long q3), .second] [(.ref a0)])) (fun t k => XS.aloadN X2.here hx rfl (hb hby d1_9) rfl rfl k) ?_
  refine Go.to (g' := (mkF m 11 #[.val (.ref a0), .val (.long q1), .second, .val (.long q2), .second, .val (.long q3), .second] [(.long q2), (.ref a0)])) (fun t k => XS.lloadN X2.here hx rfl (hb hby d1_10) rfl k) ?_
  have f3 : Fld Z h2 a0 "com/example/headstart/headstart/server/ByteRange" "length" "J" (.long (0 : Int64)) := (F_length.other W2 (Or.inr (slot_ne (Or.inr (hw _ (List.mem_of_getElem? (i := 19) rfl))) (Or.inr (hw _ (List.mem_of_getElem? (i := 17) rfl))) (by decide) (t := .long) (t' := .long) (by decide) (by decide))))
  have f4 : Exa Z h2 a0 "com/example/headstart/headstart/server/ByteRange" := (E_a0.wr W2)
  obtain ⟨T5, h5, X5, e5, W5, st5⟩ := putF X2 hx hZ hown (host := "") (Or.inl (hw _ (List.mem_of_getElem? (i := 18) rfl))) Via.refl e2 f3 f4 (Or.inr ⟨(hw _ (List.mem_of_getElem? (i := 19) rfl)), rfl, hnm⟩) (hw _ (List.mem_of_getElem? (i := 3) rfl)) (ty := .long) (by decide) rfl rfl (g := (mkF m 11 #[.val (.ref a0), .val (.long q1), .second, .val (.long q2), .second, .val (.long q3), .second] [(.long q2), (.ref a0)])) rfl rfl (hb hby d1_11)
  have Z5 : n0 ≤ h5.size := Nat.le_trans Z2 (Keep.of_wr W5).1
  have K5 : Keep h0 h5 [a0] := K2.wr W5 (Or.inl (List.mem_of_getElem? (i := 0) rfl))
  have N5 := Fr.snoc X5 N2 g_a0
  have Fw5 : Fld Z h5 a0 "com/example/headstart/headstart/server/ByteRange" "length" "J" (.long q2) := f3.same W5
  refine Go.to (g' := (mkF m 14 #[.val (.ref a0), .val (.long q1), .second, .val (.long q2), .second, .val (.long q3), .second] [])) st5 ?_
  refine Go.to (g' := (mkF m 15 #[.val (.ref a0), .val (.long q1), .second, .val (.long q2), .second, .val (.long q3), .second] [(.ref a0)])) (fun t k => XS.aloadN X5.here hx rfl (hb hby d1_14) rfl rfl k) ?_
  refine Go.to (g' := (mkF m 17 #[.val (.ref a0), .val (.long q1), .second, .val (.long q2), .second, .val (.long q3), .second] [(.long q3), (.ref a0)])) (fun t k => XS.lload X5.here hx rfl (hb hby d1_15) rfl k) ?_
  have f6 : Fld Z h5 a0 "com/example/headstart/headstart/server/ByteRange" "size" "J" (.long (0 : Int64)) := ((F_size.other W2 (Or.inr (slot_ne (Or.inr (hw _ (List.mem_of_getElem? (i := 21) rfl))) (Or.inr (hw _ (List.mem_of_getElem? (i := 17) rfl))) (by decide) (t := .long) (t' := .long) (by decide) (by decide)))).other W5 (Or.inr (slot_ne (Or.inr (hw _ (List.mem_of_getElem? (i := 21) rfl))) (Or.inr (hw _ (List.mem_of_getElem? (i := 19) rfl))) (by decide) (t := .long) (t' := .long) (by decide) (by decide))))
  have f7 : Exa Z h5 a0 "com/example/headstart/headstart/server/ByteRange" := (f4.wr W5)
  obtain ⟨T8, h8, X8, e8, W8, st8⟩ := putF X5 hx hZ hown (host := "") (Or.inl (hw _ (List.mem_of_getElem? (i := 20) rfl))) Via.refl e5 f6 f7 (Or.inr ⟨(hw _ (List.mem_of_getElem? (i := 21) rfl)), rfl, hnm⟩) (hw _ (List.mem_of_getElem? (i := 3) rfl)) (ty := .long) (by decide) rfl rfl (g := (mkF m 17 #[.val (.ref a0), .val (.long q1), .second, .val (.long q2), .second, .val (.long q3), .second] [(.long q3), (.ref a0)])) rfl rfl (hb hby d1_17)
  have Z8 : n0 ≤ h8.size := Nat.le_trans Z5 (Keep.of_wr W8).1
  have K8 : Keep h0 h8 [a0] := K5.wr W8 (Or.inl (List.mem_of_getElem? (i := 0) rfl))
  have N8 := Fr.snoc X8 N5 g_a0
  have Fw8 : Fld Z h8 a0 "com/example/headstart/headstart/server/ByteRange" "size" "J" (.long q3) := f6.same W8
  refine Go.to (g' := (mkF m 20 #[.val (.ref a0), .val (.long q1), .second, .val (.long q2), .second, .val (.long q3), .second] [])) st8 ?_
  have f9 : Fld Z h8 a0 "com/example/headstart/headstart/server/ByteRange" "length" "J" (.long q2) := (Fw5.other W8 (Or.inr (slot_ne (Or.inr (hw _ (List.mem_of_getElem? (i := 19) rfl))) (Or.inr (hw _ (List.mem_of_getElem? (i := 21) rfl))) (by decide) (t := .long) (t' := .long) (by decide) (by decide))))
  exact Go.ret X8 hx Bd.returns Bd.notSynchronized (hb hby d1_20) (by decide) (by decide) e8 ⟨rfl, N8, K8, f9⟩

theorem ef_rm4 (m : MethodId) (x0 : Addr) : entryFrame m #[(.ref x0)] 1 = mkF m 0 #[.val (.ref x0)] [] := by first | (simp [entryFrame, mkF, argsToLocals, Value.category]; done) | rfl
def Q4 (Z : State) (a0 : Addr) (w0 : Int64) (h0 : Heap) (n0 : Nat) (v : Option Value) (h : Heap) (L : List Loc) : Prop := v = some (.int (if (0 : Int64) < w0 then (1 : Int32) else (0 : Int32))) ∧ Fr n0 L ∧ h = h0
set_option maxRecDepth 65536 in
set_option maxHeartbeats 40000000 in
theorem rm4 (l : Launch) (Z : State) (aw : Array Value) (hw : ∀ d ∈ tables_1, d.before aw Z = true) (ws : List Jvm.Cond) (a0 : Addr) (w0 : Int64) (h0 : Heap) (n0 : Nat) (Z0 : n0 ≤ h0.size) (F1 : Fld Z h0 a0 "com/example/headstart/headstart/server/ByteRange" "length" "J" (.long w0)) :
    MetFree l (⟨"com/example/headstart/headstart/server/ByteRange", "satisfiable", "()Z"⟩ : MethodName) (head1 (Jvm.Cond.code (⟨"com/example/headstart/headstart/server/ByteRange", "satisfiable", "()Z"⟩ : MethodName) prog_19_method_3_code 1 (some .boolean) :: ws) ({ frames := 0, cells := 0, slots := 0, locals := 0 } : Room)) (fun a U => a = #[(.ref a0)] ∧ Z.Warmed39 U.vm ∧ U.heap = h0) (fun _ _ _ _ _ => True) (fun _ U o U' => ∃ v L, o = .returned v ∧ Q4 Z a0 w0 h0 n0 v U'.heap L ∧ FrameEnd U o U' L ({ frames := 0, cells := 0, slots := 0, locals := 0 } : Room).cells ({ frames := 0, cells := 0, slots := 0, locals := 0 } : Room).slots) := by
  refine MetFree.of_bodySF (plainFor_of_name pn_com_example_headstart_headstart_server_ByteRange) hisR ?_
  intro p e s m args below meth c s₁ Bd hml0 hP hK
  obtain ⟨rfl, hZ, hh⟩ := hP
  have hx := Bd.exec
  have hby := Bd.bytes
  have hml : c.maxLocals = 1 := hml0
  have hown : s.vm.findClass "com/example/headstart/headstart/server/ByteRange" = some m.cls := findClass_of_methodNamed Bd.named
  have hnm := (name_of_methodNamed Bd.named Bd.method).1
  have X0 : Stand p l e ({ frames := 0, cells := 0, slots := 0, locals := 0 } : Room) s m #[(.ref a0)] below meth c s₁ [] 0 0 := Stand.of_body Bd
  have e0 : s₁.heap = h0 := by rw [← hh, Bd.state]; rfl
  have N0 := Fr.nil n0
  refine own_go (Q := Q4 Z a0 w0 h0 n0) ?_
  refine Go.to (g' := (mkF m 0 #[.val (.ref a0)] [])) (fun t k => castTop (ef_rm4 m a0) k) ?_
  refine Go.to (g' := (mkF m 1 #[.val (.ref a0)] [(.ref a0)])) (fun t k => XS.aloadN X0.here hx rfl (hb hby d4_0) rfl rfl k) ?_
  obtain ⟨T1, X1, e1, st1⟩ := getF X0 hx hZ hown (host := "") (Or.inl (hw _ (List.mem_of_getElem? (i := 18) rfl))) Via.refl e0 F1 (g := (mkF m 1 #[.val (.ref a0)] [(.ref a0)])) rfl rfl (hb hby d4_1)
  refine Go.to (g' := (mkF m 4 #[.val (.ref a0)] [(.long w0)])) st1 ?_
  refine Go.to (g' := (mkF m 5 #[.val (.ref a0)] [(.long (0 : Int64)), (.long w0)])) (fun t k => XS.lconst X1.here hx rfl (hb hby d4_4) k) ?_
  refine Go.to (g' := (mkF m 6 #[.val (.ref a0)] [(.int (lcmpW w0 (0 : Int64)))])) (fun t k => XS.lcmp X1.here hx rfl (hb hby d4_5) rfl k) ?_
  by_cases c2 : (0 : Int64) < w0
  · refine Go.to (g' := (mkF m 9 #[.val (.ref a0)] [])) (fun t k => XS.ifNo X1.here hx rfl (hb hby d4_6) rfl ((if0 _ _).trans (tlt ((lw_gt w0 (0 : Int64)).mpr c2)).2.2.2) k) ?_
    refine Go.to (g' := (mkF m 10 #[.val (.ref a0)] [(.int (1 : Int32))])) (fun t k => XS.iconst X1.here hx rfl (hb hby d4_9) k) ?_
    refine Go.to (g' := (mkF m 14 #[.val (.ref a0)] [(.int (1 : Int32))])) (fun t k => XS.goto X1.here hx rfl (pc0 := 10) (pc' := 14) rfl (hb hby d4_10) (by decide) (by decide) k) ?_
    exact Go.retN X1 hx (t := .boolean) Bd.returns Bd.notSynchronized (by simp) (hb hby d4_14) (by decide) (by decide) e1 ⟨by rw [if_pos c2]; rfl, N0, rfl⟩
  · refine Go.to (g' := (mkF m 13 #[.val (.ref a0)] [])) (fun t k => XS.ifYes X1.here hx rfl (pc0 := 6) (pc' := 13) rfl (hb hby d4_6) rfl ((if0 _ _).trans (flt (fun q => c2 ((lw_gt w0 (0 : Int64)).mp q))).2.2.2) (by decide) (by decide) k) ?_
    refine Go.to (g' := (mkF m 14 #[.val (.ref a0)] [(.int (0 : Int32))])) (fun t k => XS.iconst X1.here hx rfl (hb hby d4_13) k) ?_
    exact Go.retN X1 hx (t := .boolean) Bd.returns Bd.notSynchronized (by simp) (hb hby d4_14) (by decide) (by decide) e1 ⟨by rw [if_neg c2]; rfl, N0, rfl⟩

theorem ef_rm0 (m : MethodId) (x0 : Int64) (x1 : Int64) (x2 : Int64) (x3 : Int32) : entryFrame m #[(.long x0), (.long x1), (.long x2), (.int x3)] maxLocals = mkF m 0 #[.val (.long x0), .second, .val (.long x1), .second, .val (.long x2), .second, .val (.int x3), .unset, .unset, .unset, .unset, .unset, .unset, .unset, .unset, .unset, .unset] [] := by first | (simp [entryFrame, mkF, argsToLocals, Value.category, maxLocals]; done) | rfl
def Q0 (Z : State) (q0 : Int64) (q1 : Int64) (q2 : Int64) (p3 : Int32) (h0 : Heap) (n0 : Nat) (v : Option Value) (h : Heap) (L : List Loc) : Prop := v = some (.int (1 : Int32)) ∧ Fr n0 L
set_option maxRecDepth 65536 in
set_option maxHeartbeats 40000000 in
theorem rm0 (l : Launch) (Z : State) (aw : Array Value) (hw : ∀ d ∈ tables_1, d.before aw Z = true) (ws : List Jvm.Cond) (q0 : Int64) (q1 : Int64) (q2 : Int64) (p3 : Int32) (h0 : Heap) (n0 : Nat) (Z0 : n0 ≤ h0.size) :
    MetFree l x (head1 (Jvm.Cond.code x code maxLocals ret :: ws) room_1) (fun a U => a = #[(.long q0), (.long q1), (.long q2), (.int p3)] ∧ Z.Warmed39 U.vm ∧ U.heap = h0) (fun _ _ _ _ _ => True) (fun _ U o U' => ∃ v L, o = .returned v ∧ Q0 Z q0 q1 q2 p3 h0 n0 v U'.heap L ∧ FrameEnd U o U' L room_1.cells room_1.slots) := by
  refine MetFree.of_bodySF (plainFor_of_name pn_com_example_headstart_headstart_server_ByteRangeSatisfiablePinLaw) hisR ?_
  intro p e s m args below meth c s₁ Bd hml0 hP hK
  obtain ⟨rfl, hZ, hh⟩ := hP
  have hx := Bd.exec
  have hby := Bd.bytes
  have hml : c.maxLocals = 17 := hml0
  have hown : s.vm.findClass "com/example/headstart/headstart/server/ByteRangeSatisfiablePinLaw" = some m.cls := findClass_of_methodNamed Bd.named
  have hnm := (name_of_methodNamed Bd.named Bd.method).1
  have X0 : Stand p l e room_1 s m #[(.long q0), (.long q1), (.long q2), (.int p3)] below meth c s₁ [] 0 0 := Stand.of_body Bd
  have e0 : s₁.heap = h0 := by rw [← hh, Bd.state]; rfl
  have N0 := Fr.nil n0
  refine own_go (Q := Q0 Z q0 q1 q2 p3 h0 n0) ?_
  refine Go.to (g' := (mkF m 0 #[.val (.long q0), .second, .val (.long q1), .second, .val (.long q2), .second, .val (.int p3), .unset, .unset, .unset, .unset, .unset, .unset, .unset, .unset, .unset, .unset] [])) (fun t k => castTop (ef_rm0 m q0 q1 q2 p3) k) ?_
  refine Go.to (g' := (mkF m 1 #[.val (.long q0), .second, .val (.long q1), .second, .val (.long q2), .second, .val (.int p3), .unset, .unset, .unset, .unset, .unset, .unset, .unset, .unset, .unset, .unset] [(.long q0)])) (fun t k => XS.lloadN X0.here hx rfl (hb hby at_0) rfl k) ?_
  refine Go.to (g' := (mkF m 4 #[.val (.long q0), .second, .val (.long q1), .second, .val (.long q2), .second, .val (.int p3), .unset, .unset, .unset, .unset, .unset, .unset, .unset, .unset, .unset, .unset] [(.long (9223372036854775807 : Int64)), (.long q0)])) (fun t k => X0.ldc2Long hx hown (mvT hZ (hw _ (List.mem_of_getElem? (i := 0) rfl))) (g := (mkF m 1 #[.val (.long q0), .second, .val (.long q1), .second, .val (.long q2), .second, .val (.int p3), .unset, .unset, .unset, .unset, .unset, .unset, .unset, .unset, .unset, .unset] [(.long q0)])) rfl (hb hby at_1) _ k) ?_
  refine Go.to (g' := (mkF m 5 #[.val (.long q0), .second, .val (.long q1), .second, .val (.long q2), .second, .val (.int p3), .unset, .unset, .unset, .unset, .unset, .unset, .unset, .unset, .unset, .unset] [(.long (q0 &&& (9223372036854775807 : Int64)))])) (fun t k => XS.land X0.here hx rfl (hb hby at_4) rfl k) ?_
  obtain ⟨sz, hv_sz⟩ : ∃ z : Int64, z = (q0 &&& (9223372036854775807 : Int64)) := ⟨_, rfl⟩
  rw [← hv_sz]
  refine Go.to (g' := (mkF m 7 #[.val (.long q0), .second, .val (.long q1), .second, .val (.long q2), .second, .val (.int p3), .val (.long sz), .second, .unset, .unset, .unset, .unset, .unset, .unset, .unset, .unset] [])) (fun t k => XS.lstore X0.here hx rfl (hb hby at_5) rfl (l' := #[.val (.long q0), .second, .val (.long q1), .second, .val (.long q2), .second, .val (.int p3), .val (.long sz), .second, .unset, .unset, .unset, .unset, .unset, .unset, .unset, .unset]) rfl k) ?_
  refine Go.to (g' := (mkF m 9 #[.val (.long q0), .second, .val (.long q1), .second, .val (.long q2), .second, .val (.int p3), .val (.long sz), .second, .unset, .unset, .unset, .unset, .unset, .unset, .unset, .unset] [(.int p3)])) (fun t k => XS.iload X0.here hx rfl (hb hby at_7) rfl k) ?_
  refine Go.to (g' := (mkF m 11 #[.val (.long q0), .second, .val (.long q1), .second, .val (.long q2), .second, .val (.int p3), .val (.long sz), .second, .unset, .unset, .unset, .unset, .unset, .unset, .unset, .unset] [(.int (2147483647 : Int32)), (.int p3)])) (fun t k => X0.ldcInt hx hown (mvT hZ (hw _ (List.mem_of_getElem? (i := 1) rfl))) (g := (mkF m 9 #[.val (.long q0), .second, .val (.long q1), .second, .val (.long q2), .second, .val (.int p3), .val (.long sz), .second, .unset, .unset, .unset, .unset, .unset, .unset, .unset, .unset] [(.int p3)])) rfl (hb hby at_9) _ k) ?_
  refine Go.to (g' := (mkF m 12 #[.val (.long q0), .second, .val (.long q1), .second, .val (.long q2), .second, .val (.int p3), .val (.long sz), .second, .unset, .unset, .unset, .unset, .unset, .unset, .unset, .unset] [(.int (p3 &&& (2147483647 : Int32)))])) (fun t k => XS.iand X0.here hx rfl (hb hby at_11) rfl k) ?_
  refine Go.to (g' := (mkF m 13 #[.val (.long q0), .second, .val (.long q1), .second, .val (.long q2), .second, .val (.int p3), .val (.long sz), .second, .unset, .unset, .unset, .unset, .unset, .unset, .unset, .unset] [(.int (3 : Int32)), (.int (p3 &&& (2147483647 : Int32)))])) (fun t k => XS.iconst X0.here hx rfl (hb hby at_12) k) ?_
  refine Go.to (g' := (mkF m 14 #[.val (.long q0), .second, .val (.long q1), .second, .val (.long q2), .second, .val (.int p3), .val (.long sz), .second, .unset, .unset, .unset, .unset, .unset, .unset, .unset, .unset] [(.int ((p3 &&& (2147483647 : Int32)) % (3 : Int32)))])) (fun t k => iremM X0 hx rfl (hb hby at_13) rfl (by decide) k) ?_
  obtain ⟨md, hv_md⟩ : ∃ z : Int32, z = ((p3 &&& (2147483647 : Int32)) % (3 : Int32)) := ⟨_, rfl⟩
  rw [← hv_md]
  refine Go.to (g' := (mkF m 16 #[.val (.long q0), .second, .val (.long q1), .second, .val (.long q2), .second, .val (.int p3), .val (.long sz), .second, .val (.int md), .unset, .unset, .unset, .unset, .unset, .unset, .unset] [])) (fun t k => XS.istore X0.here hx rfl (hb hby at_14) rfl (l' := #[.val (.long q0), .second, .val (.long q1), .second, .val (.long q2), .second, .val (.int p3), .val (.long sz), .second, .val (.int md), .unset, .unset, .unset, .unset, .unset, .unset, .unset]) rfl k) ?_
  refine Go.to (g' := (mkF m 18 #[.val (.long q0), .second, .val (.long q1), .second, .val (.long q2), .second, .val (.int p3), .val (.long sz), .second, .val (.int md), .unset, .unset, .unset, .unset, .unset, .unset, .unset] [(.int md)])) (fun t k => XS.iload X0.here hx rfl (hb hby at_16) rfl k) ?_
  by_cases c1 : md = (0 : Int32)
  · refine Go.to (g' := (mkF m 21 #[.val (.long q0), .second, .val (.long q1), .second, .val (.long q2), .second, .val (.int p3), .val (.long sz), .second, .val (.int md), .unset, .unset, .unset, .unset, .unset, .unset, .unset] [])) (fun t k => XS.ifNo X0.here hx rfl (hb hby at_18) rfl ((if0 _ _).trans (teq c1).2) k) ?_
    refine Go.to (g' := (mkF m 22 #[.val (.long q0), .second, .val (.long q1), .second, .val (.long q2), .second, .val (.int p3), .val (.long sz), .second, .val (.int md), .unset, .unset, .unset, .unset, .unset, .unset, .unset] [(.long q1)])) (fun t k => XS.lloadN X0.here hx rfl (hb hby at_21) rfl k) ?_
    refine Go.to (g' := (mkF m 25 #[.val (.long q0), .second, .val (.long q1), .second, .val (.long q2), .second, .val (.int p3), .val (.long sz), .second, .val (.int md), .unset, .unset, .unset, .unset, .unset, .unset, .unset] [(.long (9223372036854775807 : Int64)), (.long q1)])) (fun t k => X0.ldc2Long hx hown (mvT hZ (hw _ (List.mem_of_getElem? (i := 0) rfl))) (g := (mkF m 22 #[.val (.long q0), .second, .val (.long q1), .second, .val (.long q2), .second, .val (.int p3), .val (.long sz), .second, .val (.int md), .unset, .unset, .unset, .unset, .unset, .unset, .unset] [(.long q1)])) rfl (hb hby at_22) _ k) ?_
    refine Go.to (g' := (mkF m 26 #[.val (.long q0), .second, .val (.long q1), .second, .val (.long q2), .second, .val (.int p3), .val (.long sz), .second, .val (.int md), .unset, .unset, .unset, .unset, .unset, .unset, .unset] [(.long (q1 &&& (9223372036854775807 : Int64)))])) (fun t k => XS.land X0.here hx rfl (hb hby at_25) rfl k) ?_
    obtain ⟨fi, hv_fi⟩ : ∃ z : Int64, z = (q1 &&& (9223372036854775807 : Int64)) := ⟨_, rfl⟩
    rw [← hv_fi]
    refine Go.to (g' := (mkF m 28 #[.val (.long q0), .second, .val (.long q1), .second, .val (.long q2), .second, .val (.int p3), .val (.long sz), .second, .val (.int md), .val (.long fi), .second, .unset, .unset, .unset, .unset, .unset] [])) (fun t k => XS.lstore X0.here hx rfl (hb hby at_26) rfl (l' := #[.val (.long q0), .second, .val (.long q1), .second, .val (.long q2), .second, .val (.int p3), .val (.long sz), .second, .val (.int md), .val (.long fi), .second, .unset, .unset, .unset, .unset, .unset]) rfl k) ?_
    refine Go.to (g' := (mkF m 30 #[.val (.long q0), .second, .val (.long q1), .second, .val (.long q2), .second, .val (.int p3), .val (.long sz), .second, .val (.int md), .val (.long fi), .second, .unset, .unset, .unset, .unset, .unset] [(.long fi)])) (fun t k => XS.lload X0.here hx rfl (hb hby at_28) rfl k) ?_
    refine Go.to (g' := (mkF m 32 #[.val (.long q0), .second, .val (.long q1), .second, .val (.long q2), .second, .val (.int p3), .val (.long sz), .second, .val (.int md), .val (.long fi), .second, .unset, .unset, .unset, .unset, .unset] [(.long q2), (.long fi)])) (fun t k => XS.lload X0.here hx rfl (hb hby at_30) rfl k) ?_
    refine Go.to (g' := (mkF m 35 #[.val (.long q0), .second, .val (.long q1), .second, .val (.long q2), .second, .val (.int p3), .val (.long sz), .second, .val (.int md), .val (.long fi), .second, .unset, .unset, .unset, .unset, .unset] [(.long (9223372036854775807 : Int64)), (.long q2), (.long fi)])) (fun t k => X0.ldc2Long hx hown (mvT hZ (hw _ (List.mem_of_getElem? (i := 0) rfl))) (g := (mkF m 32 #[.val (.long q0), .second, .val (.long q1), .second, .val (.long q2), .second, .val (.int p3), .val (.long sz), .second, .val (.int md), .val (.long fi), .second, .unset, .unset, .unset, .unset, .unset] [(.long q2), (.long fi)])) rfl (hb hby at_32) _ k) ?_
    refine Go.to (g' := (mkF m 36 #[.val (.long q0), .second, .val (.long q1), .second, .val (.long q2), .second, .val (.int p3), .val (.long sz), .second, .val (.int md), .val (.long fi), .second, .unset, .unset, .unset, .unset, .unset] [(.long (q2 &&& (9223372036854775807 : Int64))), (.long fi)])) (fun t k => XS.land X0.here hx rfl (hb hby at_35) rfl k) ?_
    obtain ⟨v2, _, ⟨T2, L2, k2, n2⟩, -, X2, ⟨Lc2, hQ2, l2, y2, z2⟩, st2⟩ := Jvm.LawKit.callS X0 hx (y := (⟨"java/lang/Math", "max", "(JJ)J"⟩ : MethodName)) hown (mvT hZ (hw _ (List.mem_of_getElem? (i := 27) rfl))) (mvT hZ (hw _ (List.mem_of_getElem? (i := 28) rfl))) (mvT hZ (hw _ (List.mem_of_getElem? (i := 29) rfl))) (mvT hZ (hw _ (List.mem_of_getElem? (i := 30) rfl))) (by decide) (backOf (W := 0) (rm5 l Z aw hw [] fi (q2 &&& (9223372036854775807 : Int64))  h0 n0 Z0 ) hZ (hw _ (List.mem_of_getElem? (i := 30) rfl)) (hw _ (List.mem_of_getElem? (i := 29) rfl)) (by decide) (by decide)) (g := (mkF m 36 #[.val (.long q0), .second, .val (.long q1), .second, .val (.long q2), .second, .val (.int p3), .val (.long sz), .second, .val (.int md), .val (.long fi), .second, .unset, .unset, .unset, .unset, .unset] [(.long (q2 &&& (9223372036854775807 : Int64))), (.long fi)])) rfl (by rw [hml]; rfl) (argsL := [(.long fi), (.long (q2 &&& (9223372036854775807 : Int64)))]) (rest := []) (lenOf pd_28JJ29J rfl) rfl (by show 2 * 0 + _ ≤ _; exact Nat.le_of_eq rfl) (hb hby at_36) (fun _ _ => ⟨rfl, e0, (by decide : 0 + 0 ≤ _), (by decide : 0 + 0 ≤ _)⟩)
    dsimp only [Pt.U, Pt.locs, Pt.cells, Pt.slots] at X2 l2 y2 z2 st2 hQ2
    subst l2 y2 z2
    obtain ⟨rfl, N2q, e2⟩ := hQ2
    have N2 := Fr.app N0 N2q
    refine Go.to (g' := (mkF m 39 #[.val (.long q0), .second, .val (.long q1), .second, .val (.long q2), .second, .val (.int p3), .val (.long sz), .second, .val (.int md), .val (.long fi), .second, .unset, .unset, .unset, .unset, .unset] [(.long (if fi < (q2 &&& (9223372036854775807 : Int64)) then (q2 &&& (9223372036854775807 : Int64)) else fi))])) st2 ?_
    obtain ⟨la, hv_la⟩ : ∃ z : Int64, z = (if fi < (q2 &&& (9223372036854775807 : Int64)) then (q2 &&& (9223372036854775807 : Int64)) else fi) := ⟨_, rfl⟩
    rw [← hv_la]
    refine Go.to (g' := (mkF m 41 #[.val (.long q0), .second, .val (.long q1), .second, .val (.long q2), .second, .val (.int p3), .val (.long sz), .second, .val (.int md), .val (.long fi), .second, .val (.long la), .second, .unset, .unset, .unset] [])) (fun t k => XS.lstore X2.here hx rfl (hb hby at_39) rfl (l' := #[.val (.long q0), .second, .val (.long q1), .second, .val (.long q2), .second, .val (.int p3), .val (.long sz), .second, .val (.int md), .val (.long fi), .second, .val (.long la), .second, .unset, .unset, .unset]) rfl k) ?_
    refine Go.to (g' := (mkF m 43 #[.val (.long q0), .second, .val (.long q1), .second, .val (.long q2), .second, .val (.int p3), .val (.long sz), .second, .val (.int md), .val (.long fi), .second, .val (.long la), .second, .unset, .unset, .unset] [(.long fi)])) (fun t k => XS.lload X2.here hx rfl (hb hby at_41) rfl k) ?_
    refine Go.to (g' := (mkF m 45 #[.val (.long q0), .second, .val (.long q1), .second, .val (.long q2), .second, .val (.int p3), .val (.long sz), .second, .val (.int md), .val (.long fi), .second, .val (.long la), .second, .unset, .unset, .unset] [(.long sz), (.long fi)])) (fun t k => XS.lload X2.here hx rfl (hb hby at_43) rfl k) ?_
    refine Go.to (g' := (mkF m 46 #[.val (.long q0), .second, .val (.long q1), .second, .val (.long q2), .second, .val (.int p3), .val (.long sz), .second, .val (.int md), .val (.long fi), .second, .val (.long la), .second, .unset, .unset, .unset] [(.int (lcmpW fi sz))])) (fun t k => XS.lcmp X2.here hx rfl (hb hby at_45) rfl k) ?_
    by_cases c3 : fi < sz
    · refine Go.to (g' := (mkF m 49 #[.val (.long q0), .second, .val (.long q1), .second, .val (.long q2), .second, .val (.int p3), .val (.long sz), .second, .val (.int md), .val (.long fi), .second, .val (.long la), .second, .unset, .unset, .unset] [])) (fun t k => XS.ifNo X2.here hx rfl (hb hby at_46) rfl ((if0 _ _).trans (tlt ((lw_lt fi sz).mpr c3)).2.1) k) ?_
      refine Go.to (g' := (mkF m 51 #[.val (.long q0), .second, .val (.long q1), .second, .val (.long q2), .second, .val (.int p3), .val (.long sz), .second, .val (.int md), .val (.long fi), .second, .val (.long la), .second, .unset, .unset, .unset] [(.long la)])) (fun t k => XS.lload X2.here hx rfl (hb hby at_49) rfl k) ?_
      refine Go.to (g' := (mkF m 53 #[.val (.long q0), .second, .val (.long q1), .second, .val (.long q2), .second, .val (.int p3), .val (.long sz), .second, .val (.int md), .val (.long fi), .second, .val (.long la), .second, .unset, .unset, .unset] [(.long sz), (.long la)])) (fun t k => XS.lload X2.here hx rfl (hb hby at_51) rfl k) ?_
      refine Go.to (g' := (mkF m 54 #[.val (.long q0), .second, .val (.long q1), .second, .val (.long q2), .second, .val (.int p3), .val (.long sz), .second, .val (.int md), .val (.long fi), .second, .val (.long la), .second, .unset, .unset, .unset] [(.long (1 : Int64)), (.long sz), (.long la)])) (fun t k => XS.lconst X2.here hx rfl (hb hby at_53) k) ?_
      refine Go.to (g' := (mkF m 55 #[.val (.long q0), .second, .val (.long q1), .second, .val (.long q2), .second, .val (.int p3), .val (.long sz), .second, .val (.int md), .val (.long fi), .second, .val (.long la), .second, .unset, .unset, .unset] [(.long (sz - (1 : Int64))), (.long la)])) (fun t k => XS.lsub X2.here hx rfl (hb hby at_54) rfl k) ?_
      obtain ⟨v4, _, ⟨T4, L4, k4, n4⟩, -, X4, ⟨Lc4, hQ4, l4, y4, z4⟩, st4⟩ := Jvm.LawKit.callS X2 hx (y := (⟨"java/lang/Math", "min", "(JJ)J"⟩ : MethodName)) hown (mvT hZ (hw _ (List.mem_of_getElem? (i := 31) rfl))) (mvT hZ (hw _ (List.mem_of_getElem? (i := 32) rfl))) (mvT hZ (hw _ (List.mem_of_getElem? (i := 29) rfl))) (mvT hZ (hw _ (List.mem_of_getElem? (i := 33) rfl))) (by decide) (backOf (W := 0) (rm6 l Z aw hw [] la (sz - (1 : Int64))  h0 n0 Z0 ) hZ (hw _ (List.mem_of_getElem? (i := 33) rfl)) (hw _ (List.mem_of_getElem? (i := 29) rfl)) (by decide) (by decide)) (g := (mkF m 55 #[.val (.long q0), .second, .val (.long q1), .second, .val (.long q2), .second, .val (.int p3), .val (.long sz), .second, .val (.int md), .val (.long fi), .second, .val (.long la), .second, .unset, .unset, .unset] [(.long (sz - (1 : Int64))), (.long la)])) rfl (by rw [hml]; rfl) (argsL := [(.long la), (.long (sz - (1 : Int64)))]) (rest := []) (lenOf pd_28JJ29J rfl) rfl (by show 2 * 0 + _ ≤ _; exact Nat.le_of_eq rfl) (hb hby at_55) (fun _ _ => ⟨rfl, e2, (by decide : 0 + 0 ≤ _), (by decide : 0 + 0 ≤ _)⟩)
      dsimp only [Pt.U, Pt.locs, Pt.cells, Pt.slots] at X4 l4 y4 z4 st4 hQ4
      subst l4 y4 z4
      obtain ⟨rfl, N4q, e4⟩ := hQ4
      have N4 := Fr.app N2 N4q
      refine Go.to (g' := (mkF m 58 #[.val (.long q0), .second, .val (.long q1), .second, .val (.long q2), .second, .val (.int p3), .val (.long sz), .second, .val (.int md), .val (.long fi), .second, .val (.long la), .second, .unset, .unset, .unset] [(.long (if (sz - (1 : Int64)) < la then (sz - (1 : Int64)) else la))])) st4 ?_
      refine Go.to (g' := (mkF m 60 #[.val (.long q0), .second, .val (.long q1), .second, .val (.long q2), .second, .val (.int p3), .val (.long sz), .second, .val (.int md), .val (.long fi), .second, .val (.long la), .second, .unset, .unset, .unset] [(.long fi), (.long (if (sz - (1 : Int64)) < la then (sz - (1 : Int64)) else la))])) (fun t k => XS.lload X4.here hx rfl (hb hby at_58) rfl k) ?_
      refine Go.to (g' := (mkF m 61 #[.val (.long q0), .second, .val (.long q1), .second, .val (.long q2), .second, .val (.int p3), .val (.long sz), .second, .val (.int md), .val (.long fi), .second, .val (.long la), .second, .unset, .unset, .unset] [(.long ((if (sz - (1 : Int64)) < la then (sz - (1 : Int64)) else la) - fi))])) (fun t k => XS.lsub X4.here hx rfl (hb hby at_60) rfl k) ?_
      refine Go.to (g' := (mkF m 62 #[.val (.long q0), .second, .val (.long q1), .second, .val (.long q2), .second, .val (.int p3), .val (.long sz), .second, .val (.int md), .val (.long fi), .second, .val (.long la), .second, .unset, .unset, .unset] [(.long (1 : Int64)), (.long ((if (sz - (1 : Int64)) < la then (sz - (1 : Int64)) else la) - fi))])) (fun t k => XS.lconst X4.here hx rfl (hb hby at_61) k) ?_
      refine Go.to (g' := (mkF m 63 #[.val (.long q0), .second, .val (.long q1), .second, .val (.long q2), .second, .val (.int p3), .val (.long sz), .second, .val (.int md), .val (.long fi), .second, .val (.long la), .second, .unset, .unset, .unset] [(.long (((if (sz - (1 : Int64)) < la then (sz - (1 : Int64)) else la) - fi) + (1 : Int64)))])) (fun t k => XS.ladd X4.here hx rfl (hb hby at_62) rfl k) ?_
      refine Go.to (g' := (mkF m 67 #[.val (.long q0), .second, .val (.long q1), .second, .val (.long q2), .second, .val (.int p3), .val (.long sz), .second, .val (.int md), .val (.long fi), .second, .val (.long la), .second, .unset, .unset, .unset] [(.long (((if (sz - (1 : Int64)) < la then (sz - (1 : Int64)) else la) - fi) + (1 : Int64)))])) (fun t k => XS.goto X4.here hx rfl (pc0 := 63) (pc' := 67) rfl (hb hby at_63) (by decide) (by decide) k) ?_
      obtain ⟨ln, hv_ln⟩ : ∃ z : Int64, z = (((if (sz - (1 : Int64)) < la then (sz - (1 : Int64)) else la) - fi) + (1 : Int64)) := ⟨_, rfl⟩
      rw [← hv_ln]
      refine Go.to (g' := (mkF m 69 #[.val (.long q0), .second, .val (.long q1), .second, .val (.long q2), .second, .val (.int p3), .val (.long sz), .second, .val (.int md), .val (.long fi), .second, .val (.long la), .second, .val (.long ln), .second, .unset] [])) (fun t k => XS.lstore X4.here hx rfl (hb hby at_67) rfl (l' := #[.val (.long q0), .second, .val (.long q1), .second, .val (.long q2), .second, .val (.int p3), .val (.long sz), .second, .val (.int md), .val (.long fi), .second, .val (.long la), .second, .val (.long ln), .second, .unset]) rfl k) ?_
      obtain ⟨T6, h6, X6, e6, E6, A6, D6, -, st6⟩ := newO X4 hx hZ hown (hw _ (List.mem_of_getElem? (i := 2) rfl)) (hw _ (List.mem_of_getElem? (i := 3) rfl)) (hw _ (List.mem_of_getElem? (i := 4) rfl)) e4 (g := (mkF m 69 #[.val (.long q0), .second, .val (.long q1), .second, .val (.long q2), .second, .val (.int p3), .val (.long sz), .second, .val (.int md), .val (.long fi), .second, .val (.long la), .second, .val (.long ln), .second, .unset] [])) rfl (hb hby at_69) (by decide) (by decide)
      obtain ⟨o5, g6⟩ : ∃ z, z = h0.size := ⟨_, rfl⟩
      rw [← g6] at A6 D6 st6
      have g_o5 : n0 ≤ o5 := Nat.le_trans Z0 (Nat.le_of_eq g6.symm)
      have sz_o5 : h0.size ≤ o5 := Nat.le_trans (Keep.refl h0 []).1 (Nat.le_of_eq g6.symm)
      have Z6 : n0 ≤ h6.size := Nat.le_trans Z0 E6.1
      have K6 : Keep h0 h6 [] := (Keep.refl h0 []).ext E6
      have F_first_o5 : Fld Z h6 o5 "com/example/headstart/headstart/server/ByteRange" "first" "J" (.long (0 : Int64)) := D6 (Or.inr (hw _ (List.mem_of_getElem? (i := 17) rfl))) (ty := .long) (by decide)
      have F_length_o5 : Fld Z h6 o5 "com/example/headstart/headstart/server/ByteRange" "length" "J" (.long (0 : Int64)) := D6 (Or.inr (hw _ (List.mem_of_getElem? (i := 19) rfl))) (ty := .long) (by decide)
      have F_size_o5 : Fld Z h6 o5 "com/example/headstart/headstart/server/ByteRange" "size" "J" (.long (0 : Int64)) := D6 (Or.inr (hw _ (List.mem_of_getElem? (i := 21) rfl))) (ty := .long) (by decide)
      refine Go.to (g' := (mkF m 72 #[.val (.long q0), .second, .val (.long q1), .second, .val (.long q2), .second, .val (.int p3), .val (.long sz), .second, .val (.int md), .val (.long fi), .second, .val (.long la), .second, .val (.long ln), .second, .unset] [(.ref o5)])) st6 ?_
      refine Go.to (g' := (mkF m 73 #[.val (.long q0), .second, .val (.long q1), .second, .val (.long q2), .second, .val (.int p3), .val (.long sz), .second, .val (.int md), .val (.long fi), .second, .val (.long la), .second, .val (.long ln), .second, .unset] [(.ref o5), (.ref o5)])) (fun t k => XS.dup X6.here hx rfl (hb hby at_72) rfl rfl k) ?_
      refine Go.to (g' := (mkF m 75 #[.val (.long q0), .second, .val (.long q1), .second, .val (.long q2), .second, .val (.int p3), .val (.long sz), .second, .val (.int md), .val (.long fi), .second, .val (.long la), .second, .val (.long ln), .second, .unset] [(.long fi), (.ref o5), (.ref o5)])) (fun t k => XS.lload X6.here hx rfl (hb hby at_73) rfl k) ?_
      refine Go.to (g' := (mkF m 77 #[.val (.long q0), .second, .val (.long q1), .second, .val (.long q2), .second, .val (.int p3), .val (.long sz), .second, .val (.int md), .val (.long fi), .second, .val (.long la), .second, .val (.long ln), .second, .unset] [(.long ln), (.long fi), (.ref o5), (.ref o5)])) (fun t k => XS.lload X6.here hx rfl (hb hby at_75) rfl k) ?_
      refine Go.to (g' := (mkF m 79 #[.val (.long q0), .second, .val (.long q1), .second, .val (.long q2), .second, .val (.int p3), .val (.long sz), .second, .val (.int md), .val (.long fi), .second, .val (.long la), .second, .val (.long ln), .second, .unset] [(.long sz), (.long ln), (.long fi), (.ref o5), (.ref o5)])) (fun t k => XS.lload X6.here hx rfl (hb hby at_77) rfl k) ?_
      obtain ⟨v7, _, ⟨T7, L7, k7, n7⟩, -, X7, ⟨Lc7, hQ7, l7, y7, z7⟩, st7⟩ := X6.specialBack hx (y := (⟨"com/example/headstart/headstart/server/ByteRange", "<init>", "(JJJ)V"⟩ : MethodName)) rfl hown (mvT hZ (hw _ (List.mem_of_getElem? (i := 5) rfl))) (mvT hZ (hw _ (List.mem_of_getElem? (i := 6) rfl))) (mvT hZ (hw _ (List.mem_of_getElem? (i := 7) rfl))) (by decide) (backOf (W := 1) (rm1 l Z aw hw [] o5 fi ln sz  h6 n0 Z6 A6 F_first_o5 F_length_o5 F_size_o5 g_o5) hZ (hw _ (List.mem_of_getElem? (i := 7) rfl)) (hw _ (List.mem_of_getElem? (i := 4) rfl)) (by decide) (by decide)) (g := (mkF m 79 #[.val (.long q0), .second, .val (.long q1), .second, .val (.long q2), .second, .val (.int p3), .val (.long sz), .second, .val (.int md), .val (.long fi), .second, .val (.long la), .second, .val (.long ln), .second, .unset] [(.long sz), (.long ln), (.long fi), (.ref o5), (.ref o5)])) rfl (by rw [hml]; rfl) (Steps.refl _) (a := o5) (argsL := [(.long fi), (.long ln), (.long sz)]) (rest := [(.ref o5)]) (lenOf pd_28JJJ29V rfl) rfl (by show 2 * 0 + _ ≤ _; exact Nat.le_of_eq rfl) (hb hby at_79) (fun _ _ => ⟨rfl, e6, (by decide : 1 + 0 ≤ _), (by decide : 3 + 0 ≤ _)⟩)
      dsimp only [Pt.U, Pt.locs, Pt.cells, Pt.slots] at X7 l7 y7 z7 st7 hQ7
      subst l7 y7 z7
      obtain ⟨h7, e7⟩ : ∃ z, T7.heap = z := ⟨_, rfl⟩
      rw [e7] at hQ7
      obtain ⟨rfl, N7q, Kq7, Fl7⟩ := hQ7
      have N7 := Fr.app N4 N7q
      have Z7 : n0 ≤ h7.size := Nat.le_trans Z6 Kq7.1
      have K7 : Keep h0 h7 [] := K6.trans Kq7 (fun x hx => by cases List.mem_singleton.mp hx; exact Or.inr sz_o5)
      refine Go.to (g' := (mkF m 82 #[.val (.long q0), .second, .val (.long q1), .second, .val (.long q2), .second, .val (.int p3), .val (.long sz), .second, .val (.int md), .val (.long fi), .second, .val (.long la), .second, .val (.long ln), .second, .unset] [(.ref o5)])) (fun t k => st7.trans k) ?_
      refine Go.to (g' := (mkF m 84 #[.val (.long q0), .second, .val (.long q1), .second, .val (.long q2), .second, .val (.int p3), .val (.long sz), .second, .val (.int md), .val (.long fi), .second, .val (.long la), .second, .val (.long ln), .second, .val (.ref o5)] [])) (fun t k => XS.astore X7.here hx rfl (hb hby at_82) rfl rfl (l' := #[.val (.long q0), .second, .val (.long q1), .second, .val (.long q2), .second, .val (.int p3), .val (.long sz), .second, .val (.int md), .val (.long fi), .second, .val (.long la), .second, .val (.long ln), .second, .val (.ref o5)]) rfl k) ?_
      refine Go.to (g' := (mkF m 86 #[.val (.long q0), .second, .val (.long q1), .second, .val (.long q2), .second, .val (.int p3), .val (.long sz), .second, .val (.int md), .val (.long fi), .second, .val (.long la), .second, .val (.long ln), .second, .val (.ref o5)] [(.ref o5)])) (fun t k => XS.aload X7.here hx rfl (hb hby at_84) rfl rfl k) ?_
      have f8 : Exa Z h7 o5 "com/example/headstart/headstart/server/ByteRange" := (A6.keep Kq7)
      obtain ⟨cq9, kq9, qa9, qb9, qc9⟩ := isOf hZ e7 f8
      obtain ⟨v9, _, ⟨T9, L9, k9, n9⟩, -, X9, ⟨Lc9, hQ9, l9, y9, z9⟩, st9⟩ := X7.virtualBack hx (y := (⟨"com/example/headstart/headstart/server/ByteRange", "satisfiable", "()Z"⟩ : MethodName)) (z := (⟨"com/example/headstart/headstart/server/ByteRange", "satisfiable", "()Z"⟩ : MethodName)) hown (mvT hZ (hw _ (List.mem_of_getElem? (i := 22) rfl))) (mvT hZ (hw _ (List.mem_of_getElem? (i := 23) rfl))) (notFace_of_selects (args := #[]) (mvT hZ (hw _ (List.mem_of_getElem? (i := 25) rfl)))) (mvT hZ (hw _ (List.mem_of_getElem? (i := 25) rfl))) (mvT hZ (hw _ (List.mem_of_getElem? (i := 24) rfl))) (by decide) (backOf (W := 0) (rm4 l Z aw hw [] o5 ln h7 n0 Z7 Fl7) hZ (hw _ (List.mem_of_getElem? (i := 26) rfl)) (hw _ (List.mem_of_getElem? (i := 4) rfl)) (by decide) (by decide)) qa9 qc9 (g := (mkF m 86 #[.val (.long q0), .second, .val (.long q1), .second, .val (.long q2), .second, .val (.int p3), .val (.long sz), .second, .val (.int md), .val (.long fi), .second, .val (.long la), .second, .val (.long ln), .second, .val (.ref o5)] [(.ref o5)])) rfl (by rw [hml]; rfl) (Steps.refl _) (argsL := []) (rest := []) (lenOf pd_2829Z rfl) rfl (by show 2 * 0 + _ ≤ _; exact Nat.le_of_eq rfl) (hb hby at_86) (fun _ _ => ⟨rfl, e7, (by decide : 1 + 0 ≤ _), (by decide : 3 + 0 ≤ _)⟩)
      dsimp only [Pt.U, Pt.locs, Pt.cells, Pt.slots] at X9 l9 y9 z9 st9 hQ9
      subst l9 y9 z9
      obtain ⟨rfl, N9q, e9⟩ := hQ9
      have N9 := Fr.app N7 N9q
      refine Go.to (g' := (mkF m 89 #[.val (.long q0), .second, .val (.long q1), .second, .val (.long q2), .second, .val (.int p3), .val (.long sz), .second, .val (.int md), .val (.long fi), .second, .val (.long la), .second, .val (.long ln), .second, .val (.ref o5)] [(.int (if (0 : Int64) < ln then (1 : Int32) else (0 : Int32)))])) (fun t k => st9.trans k) ?_
      rw [show (if (0 : Int64) < ln then (1 : Int32) else (0 : Int32)) = (1 : Int32) from if_pos (own_m0 hv_sz hv_fi hv_la hv_ln c3)]
      refine Go.to (g' := (mkF m 91 #[.val (.long q0), .second, .val (.long q1), .second, .val (.long q2), .second, .val (.int p3), .val (.long sz), .second, .val (.int md), .val (.long fi), .second, .val (.long la), .second, .val (.long ln), .second, .val (.ref o5)] [(.long fi), (.int (1 : Int32))])) (fun t k => XS.lload X9.here hx rfl (hb hby at_89) rfl k) ?_
      refine Go.to (g' := (mkF m 93 #[.val (.long q0), .second, .val (.long q1), .second, .val (.long q2), .second, .val (.int p3), .val (.long sz), .second, .val (.int md), .val (.long fi), .second, .val (.long la), .second, .val (.long ln), .second, .val (.ref o5)] [(.long sz), (.long fi), (.int (1 : Int32))])) (fun t k => XS.lload X9.here hx rfl (hb hby at_91) rfl k) ?_
      refine Go.to (g' := (mkF m 94 #[.val (.long q0), .second, .val (.long q1), .second, .val (.long q2), .second, .val (.int p3), .val (.long sz), .second, .val (.int md), .val (.long fi), .second, .val (.long la), .second, .val (.long ln), .second, .val (.ref o5)] [(.int (lcmpW fi sz)), (.int (1 : Int32))])) (fun t k => XS.lcmp X9.here hx rfl (hb hby at_93) rfl k) ?_
      refine Go.to (g' := (mkF m 97 #[.val (.long q0), .second, .val (.long q1), .second, .val (.long q2), .second, .val (.int p3), .val (.long sz), .second, .val (.int md), .val (.long fi), .second, .val (.long la), .second, .val (.long ln), .second, .val (.ref o5)] [(.int (1 : Int32))])) (fun t k => XS.ifNo X9.here hx rfl (hb hby at_94) rfl ((if0 _ _).trans (tlt ((lw_lt fi sz).mpr c3)).2.1) k) ?_
      refine Go.to (g' := (mkF m 98 #[.val (.long q0), .second, .val (.long q1), .second, .val (.long q2), .second, .val (.int p3), .val (.long sz), .second, .val (.int md), .val (.long fi), .second, .val (.long la), .second, .val (.long ln), .second, .val (.ref o5)] [(.int (1 : Int32)), (.int (1 : Int32))])) (fun t k => XS.iconst X9.here hx rfl (hb hby at_97) k) ?_
      refine Go.to (g' := (mkF m 102 #[.val (.long q0), .second, .val (.long q1), .second, .val (.long q2), .second, .val (.int p3), .val (.long sz), .second, .val (.int md), .val (.long fi), .second, .val (.long la), .second, .val (.long ln), .second, .val (.ref o5)] [(.int (1 : Int32)), (.int (1 : Int32))])) (fun t k => XS.goto X9.here hx rfl (pc0 := 98) (pc' := 102) rfl (hb hby at_98) (by decide) (by decide) k) ?_
      refine Go.to (g' := (mkF m 105 #[.val (.long q0), .second, .val (.long q1), .second, .val (.long q2), .second, .val (.int p3), .val (.long sz), .second, .val (.int md), .val (.long fi), .second, .val (.long la), .second, .val (.long ln), .second, .val (.ref o5)] [])) (fun t k => XS.icmpNo X9.here hx rfl (hb hby at_102) rfl (teq (by decide)).2 k) ?_
      refine Go.to (g' := (mkF m 106 #[.val (.long q0), .second, .val (.long q1), .second, .val (.long q2), .second, .val (.int p3), .val (.long sz), .second, .val (.int md), .val (.long fi), .second, .val (.long la), .second, .val (.long ln), .second, .val (.ref o5)] [(.int (1 : Int32))])) (fun t k => XS.iconst X9.here hx rfl (hb hby at_105) k) ?_
      refine Go.to (g' := (mkF m 110 #[.val (.long q0), .second, .val (.long q1), .second, .val (.long q2), .second, .val (.int p3), .val (.long sz), .second, .val (.int md), .val (.long fi), .second, .val (.long la), .second, .val (.long ln), .second, .val (.ref o5)] [(.int (1 : Int32))])) (fun t k => XS.goto X9.here hx rfl (pc0 := 106) (pc' := 110) rfl (hb hby at_106) (by decide) (by decide) k) ?_
      exact Go.retN X9 hx (t := .boolean) Bd.returns Bd.notSynchronized (by simp) (hb hby at_110) (by decide) (by decide) e9 ⟨rfl, N9⟩
    · refine Go.to (g' := (mkF m 66 #[.val (.long q0), .second, .val (.long q1), .second, .val (.long q2), .second, .val (.int p3), .val (.long sz), .second, .val (.int md), .val (.long fi), .second, .val (.long la), .second, .unset, .unset, .unset] [])) (fun t k => XS.ifYes X2.here hx rfl (pc0 := 46) (pc' := 66) rfl (hb hby at_46) rfl ((if0 _ _).trans (flt (fun q => c3 ((lw_lt fi sz).mp q))).2.1) (by decide) (by decide) k) ?_
      refine Go.to (g' := (mkF m 67 #[.val (.long q0), .second, .val (.long q1), .second, .val (.long q2), .second, .val (.int p3), .val (.long sz), .second, .val (.int md), .val (.long fi), .second, .val (.long la), .second, .unset, .unset, .unset] [(.long (0 : Int64))])) (fun t k => XS.lconst X2.here hx rfl (hb hby at_66) k) ?_
      obtain ⟨ln, hv_ln⟩ : ∃ z : Int64, z = (0 : Int64) := ⟨_, rfl⟩
      rw [← hv_ln]
      refine Go.to (g' := (mkF m 69 #[.val (.long q0), .second, .val (.long q1), .second, .val (.long q2), .second, .val (.int p3), .val (.long sz), .second, .val (.int md), .val (.long fi), .second, .val (.long la), .second, .val (.long ln), .second, .unset] [])) (fun t k => XS.lstore X2.here hx rfl (hb hby at_67) rfl (l' := #[.val (.long q0), .second, .val (.long q1), .second, .val (.long q2), .second, .val (.int p3), .val (.long sz), .second, .val (.int md), .val (.long fi), .second, .val (.long la), .second, .val (.long ln), .second, .unset]) rfl k) ?_
      obtain ⟨T11, h11, X11, e11, E11, A11, D11, -, st11⟩ := newO X2 hx hZ hown (hw _ (List.mem_of_getElem? (i := 2) rfl)) (hw _ (List.mem_of_getElem? (i := 3) rfl)) (hw _ (List.mem_of_getElem? (i := 4) rfl)) e2 (g := (mkF m 69 #[.val (.long q0), .second, .val (.long q1), .second, .val (.long q2), .second, .val (.int p3), .val (.long sz), .second, .val (.int md), .val (.long fi), .second, .val (.long la), .second, .val (.long ln), .second, .unset] [])) rfl (hb hby at_69) (by decide) (by decide)
      obtain ⟨o10, g11⟩ : ∃ z, z = h0.size := ⟨_, rfl⟩
      rw [← g11] at A11 D11 st11
      have g_o10 : n0 ≤ o10 := Nat.le_trans Z0 (Nat.le_of_eq g11.symm)
      have sz_o10 : h0.size ≤ o10 := Nat.le_trans (Keep.refl h0 []).1 (Nat.le_of_eq g11.symm)
      have Z11 : n0 ≤ h11.size := Nat.le_trans Z0 E11.1
      have K11 : Keep h0 h11 [] := (Keep.refl h0 []).ext E11
      have F_first_o10 : Fld Z h11 o10 "com/example/headstart/headstart/server/ByteRange" "first" "J" (.long (0 : Int64)) := D11 (Or.inr (hw _ (List.mem_of_getElem? (i := 17) rfl))) (ty := .long) (by decide)
      have F_length_o10 : Fld Z h11 o10 "com/example/headstart/headstart/server/ByteRange" "length" "J" (.long (0 : Int64)) := D11 (Or.inr (hw _ (List.mem_of_getElem? (i := 19) rfl))) (ty := .long) (by decide)
      have F_size_o10 : Fld Z h11 o10 "com/example/headstart/headstart/server/ByteRange" "size" "J" (.long (0 : Int64)) := D11 (Or.inr (hw _ (List.mem_of_getElem? (i := 21) rfl))) (ty := .long) (by decide)
      refine Go.to (g' := (mkF m 72 #[.val (.long q0), .second, .val (.long q1), .second, .val (.long q2), .second, .val (.int p3), .val (.long sz), .second, .val (.int md), .val (.long fi), .second, .val (.long la), .second, .val (.long ln), .second, .unset] [(.ref o10)])) st11 ?_
      refine Go.to (g' := (mkF m 73 #[.val (.long q0), .second, .val (.long q1), .second, .val (.long q2), .second, .val (.int p3), .val (.long sz), .second, .val (.int md), .val (.long fi), .second, .val (.long la), .second, .val (.long ln), .second, .unset] [(.ref o10), (.ref o10)])) (fun t k => XS.dup X11.here hx rfl (hb hby at_72) rfl rfl k) ?_
      refine Go.to (g' := (mkF m 75 #[.val (.long q0), .second, .val (.long q1), .second, .val (.long q2), .second, .val (.int p3), .val (.long sz), .second, .val (.int md), .val (.long fi), .second, .val (.long la), .second, .val (.long ln), .second, .unset] [(.long fi), (.ref o10), (.ref o10)])) (fun t k => XS.lload X11.here hx rfl (hb hby at_73) rfl k) ?_
      refine Go.to (g' := (mkF m 77 #[.val (.long q0), .second, .val (.long q1), .second, .val (.long q2), .second, .val (.int p3), .val (.long sz), .second, .val (.int md), .val (.long fi), .second, .val (.long la), .second, .val (.long ln), .second, .unset] [(.long ln), (.long fi), (.ref o10), (.ref o10)])) (fun t k => XS.lload X11.here hx rfl (hb hby at_75) rfl k) ?_
      refine Go.to (g' := (mkF m 79 #[.val (.long q0), .second, .val (.long q1), .second, .val (.long q2), .second, .val (.int p3), .val (.long sz), .second, .val (.int md), .val (.long fi), .second, .val (.long la), .second, .val (.long ln), .second, .unset] [(.long sz), (.long ln), (.long fi), (.ref o10), (.ref o10)])) (fun t k => XS.lload X11.here hx rfl (hb hby at_77) rfl k) ?_
      obtain ⟨v12, _, ⟨T12, L12, k12, n12⟩, -, X12, ⟨Lc12, hQ12, l12, y12, z12⟩, st12⟩ := X11.specialBack hx (y := (⟨"com/example/headstart/headstart/server/ByteRange", "<init>", "(JJJ)V"⟩ : MethodName)) rfl hown (mvT hZ (hw _ (List.mem_of_getElem? (i := 5) rfl))) (mvT hZ (hw _ (List.mem_of_getElem? (i := 6) rfl))) (mvT hZ (hw _ (List.mem_of_getElem? (i := 7) rfl))) (by decide) (backOf (W := 1) (rm1 l Z aw hw [] o10 fi ln sz  h11 n0 Z11 A11 F_first_o10 F_length_o10 F_size_o10 g_o10) hZ (hw _ (List.mem_of_getElem? (i := 7) rfl)) (hw _ (List.mem_of_getElem? (i := 4) rfl)) (by decide) (by decide)) (g := (mkF m 79 #[.val (.long q0), .second, .val (.long q1), .second, .val (.long q2), .second, .val (.int p3), .val (.long sz), .second, .val (.int md), .val (.long fi), .second, .val (.long la), .second, .val (.long ln), .second, .unset] [(.long sz), (.long ln), (.long fi), (.ref o10), (.ref o10)])) rfl (by rw [hml]; rfl) (Steps.refl _) (a := o10) (argsL := [(.long fi), (.long ln), (.long sz)]) (rest := [(.ref o10)]) (lenOf pd_28JJJ29V rfl) rfl (by show 2 * 0 + _ ≤ _; exact Nat.le_of_eq rfl) (hb hby at_79) (fun _ _ => ⟨rfl, e11, (by decide : 1 + 0 ≤ _), (by decide : 3 + 0 ≤ _)⟩)
      dsimp only [Pt.U, Pt.locs, Pt.cells, Pt.slots] at X12 l12 y12 z12 st12 hQ12
      subst l12 y12 z12
      obtain ⟨h12, e12⟩ : ∃ z, T12.heap = z := ⟨_, rfl⟩
      rw [e12] at hQ12
      obtain ⟨rfl, N12q, Kq12, Fl12⟩ := hQ12
      have N12 := Fr.app N2 N12q
      have Z12 : n0 ≤ h12.size := Nat.le_trans Z11 Kq12.1
      have K12 : Keep h0 h12 [] := K11.trans Kq12 (fun x hx => by cases List.mem_singleton.mp hx; exact Or.inr sz_o10)
      refine Go.to (g' := (mkF m 82 #[.val (.long q0), .second, .val (.long q1), .second, .val (.long q2), .second, .val (.int p3), .val (.long sz), .second, .val (.int md), .val (.long fi), .second, .val (.long la), .second, .val (.long ln), .second, .unset] [(.ref o10)])) (fun t k => st12.trans k) ?_
      refine Go.to (g' := (mkF m 84 #[.val (.long q0), .second, .val (.long q1), .second, .val (.long q2), .second, .val (.int p3), .val (.long sz), .second, .val (.int md), .val (.long fi), .second, .val (.long la), .second, .val (.long ln), .second, .val (.ref o10)] [])) (fun t k => XS.astore X12.here hx rfl (hb hby at_82) rfl rfl (l' := #[.val (.long q0), .second, .val (.long q1), .second, .val (.long q2), .second, .val (.int p3), .val (.long sz), .second, .val (.int md), .val (.long fi), .second, .val (.long la), .second, .val (.long ln), .second, .val (.ref o10)]) rfl k) ?_
      refine Go.to (g' := (mkF m 86 #[.val (.long q0), .second, .val (.long q1), .second, .val (.long q2), .second, .val (.int p3), .val (.long sz), .second, .val (.int md), .val (.long fi), .second, .val (.long la), .second, .val (.long ln), .second, .val (.ref o10)] [(.ref o10)])) (fun t k => XS.aload X12.here hx rfl (hb hby at_84) rfl rfl k) ?_
      have f13 : Exa Z h12 o10 "com/example/headstart/headstart/server/ByteRange" := (A11.keep Kq12)
      obtain ⟨cq14, kq14, qa14, qb14, qc14⟩ := isOf hZ e12 f13
      obtain ⟨v14, _, ⟨T14, L14, k14, n14⟩, -, X14, ⟨Lc14, hQ14, l14, y14, z14⟩, st14⟩ := X12.virtualBack hx (y := (⟨"com/example/headstart/headstart/server/ByteRange", "satisfiable", "()Z"⟩ : MethodName)) (z := (⟨"com/example/headstart/headstart/server/ByteRange", "satisfiable", "()Z"⟩ : MethodName)) hown (mvT hZ (hw _ (List.mem_of_getElem? (i := 22) rfl))) (mvT hZ (hw _ (List.mem_of_getElem? (i := 23) rfl))) (notFace_of_selects (args := #[]) (mvT hZ (hw _ (List.mem_of_getElem? (i := 25) rfl)))) (mvT hZ (hw _ (List.mem_of_getElem? (i := 25) rfl))) (mvT hZ (hw _ (List.mem_of_getElem? (i := 24) rfl))) (by decide) (backOf (W := 0) (rm4 l Z aw hw [] o10 ln h12 n0 Z12 Fl12) hZ (hw _ (List.mem_of_getElem? (i := 26) rfl)) (hw _ (List.mem_of_getElem? (i := 4) rfl)) (by decide) (by decide)) qa14 qc14 (g := (mkF m 86 #[.val (.long q0), .second, .val (.long q1), .second, .val (.long q2), .second, .val (.int p3), .val (.long sz), .second, .val (.int md), .val (.long fi), .second, .val (.long la), .second, .val (.long ln), .second, .val (.ref o10)] [(.ref o10)])) rfl (by rw [hml]; rfl) (Steps.refl _) (argsL := []) (rest := []) (lenOf pd_2829Z rfl) rfl (by show 2 * 0 + _ ≤ _; exact Nat.le_of_eq rfl) (hb hby at_86) (fun _ _ => ⟨rfl, e12, (by decide : 1 + 0 ≤ _), (by decide : 3 + 0 ≤ _)⟩)
      dsimp only [Pt.U, Pt.locs, Pt.cells, Pt.slots] at X14 l14 y14 z14 st14 hQ14
      subst l14 y14 z14
      obtain ⟨rfl, N14q, e14⟩ := hQ14
      have N14 := Fr.app N12 N14q
      refine Go.to (g' := (mkF m 89 #[.val (.long q0), .second, .val (.long q1), .second, .val (.long q2), .second, .val (.int p3), .val (.long sz), .second, .val (.int md), .val (.long fi), .second, .val (.long la), .second, .val (.long ln), .second, .val (.ref o10)] [(.int (if (0 : Int64) < ln then (1 : Int32) else (0 : Int32)))])) (fun t k => st14.trans k) ?_
      rw [show (if (0 : Int64) < ln then (1 : Int32) else (0 : Int32)) = (0 : Int32) from if_neg (by rw [hv_ln]; exact own_irrL _)]
      refine Go.to (g' := (mkF m 91 #[.val (.long q0), .second, .val (.long q1), .second, .val (.long q2), .second, .val (.int p3), .val (.long sz), .second, .val (.int md), .val (.long fi), .second, .val (.long la), .second, .val (.long ln), .second, .val (.ref o10)] [(.long fi), (.int (0 : Int32))])) (fun t k => XS.lload X14.here hx rfl (hb hby at_89) rfl k) ?_
      refine Go.to (g' := (mkF m 93 #[.val (.long q0), .second, .val (.long q1), .second, .val (.long q2), .second, .val (.int p3), .val (.long sz), .second, .val (.int md), .val (.long fi), .second, .val (.long la), .second, .val (.long ln), .second, .val (.ref o10)] [(.long sz), (.long fi), (.int (0 : Int32))])) (fun t k => XS.lload X14.here hx rfl (hb hby at_91) rfl k) ?_
      refine Go.to (g' := (mkF m 94 #[.val (.long q0), .second, .val (.long q1), .second, .val (.long q2), .second, .val (.int p3), .val (.long sz), .second, .val (.int md), .val (.long fi), .second, .val (.long la), .second, .val (.long ln), .second, .val (.ref o10)] [(.int (lcmpW fi sz)), (.int (0 : Int32))])) (fun t k => XS.lcmp X14.here hx rfl (hb hby at_93) rfl k) ?_
      refine Go.to (g' := (mkF m 101 #[.val (.long q0), .second, .val (.long q1), .second, .val (.long q2), .second, .val (.int p3), .val (.long sz), .second, .val (.int md), .val (.long fi), .second, .val (.long la), .second, .val (.long ln), .second, .val (.ref o10)] [(.int (0 : Int32))])) (fun t k => XS.ifYes X14.here hx rfl (pc0 := 94) (pc' := 101) rfl (hb hby at_94) rfl ((if0 _ _).trans (flt (fun q => c3 ((lw_lt fi sz).mp q))).2.1) (by decide) (by decide) k) ?_
      refine Go.to (g' := (mkF m 102 #[.val (.long q0), .second, .val (.long q1), .second, .val (.long q2), .second, .val (.int p3), .val (.long sz), .second, .val (.int md), .val (.long fi), .second, .val (.long la), .second, .val (.long ln), .second, .val (.ref o10)] [(.int (0 : Int32)), (.int (0 : Int32))])) (fun t k => XS.iconst X14.here hx rfl (hb hby at_101) k) ?_
      refine Go.to (g' := (mkF m 105 #[.val (.long q0), .second, .val (.long q1), .second, .val (.long q2), .second, .val (.int p3), .val (.long sz), .second, .val (.int md), .val (.long fi), .second, .val (.long la), .second, .val (.long ln), .second, .val (.ref o10)] [])) (fun t k => XS.icmpNo X14.here hx rfl (hb hby at_102) rfl (teq (by decide)).2 k) ?_
      refine Go.to (g' := (mkF m 106 #[.val (.long q0), .second, .val (.long q1), .second, .val (.long q2), .second, .val (.int p3), .val (.long sz), .second, .val (.int md), .val (.long fi), .second, .val (.long la), .second, .val (.long ln), .second, .val (.ref o10)] [(.int (1 : Int32))])) (fun t k => XS.iconst X14.here hx rfl (hb hby at_105) k) ?_
      refine Go.to (g' := (mkF m 110 #[.val (.long q0), .second, .val (.long q1), .second, .val (.long q2), .second, .val (.int p3), .val (.long sz), .second, .val (.int md), .val (.long fi), .second, .val (.long la), .second, .val (.long ln), .second, .val (.ref o10)] [(.int (1 : Int32))])) (fun t k => XS.goto X14.here hx rfl (pc0 := 106) (pc' := 110) rfl (hb hby at_106) (by decide) (by decide) k) ?_
      exact Go.retN X14 hx (t := .boolean) Bd.returns Bd.notSynchronized (by simp) (hb hby at_110) (by decide) (by decide) e14 ⟨rfl, N14⟩
  · refine Go.to (g' := (mkF m 111 #[.val (.long q0), .second, .val (.long q1), .second, .val (.long q2), .second, .val (.int p3), .val (.long sz), .second, .val (.int md), .unset, .unset, .unset, .unset, .unset, .unset, .unset] [])) (fun t k => XS.ifYes X0.here hx rfl (pc0 := 18) (pc' := 111) rfl (hb hby at_18) rfl ((if0 _ _).trans (feq c1).2) (by decide) (by decide) k) ?_
    refine Go.to (g' := (mkF m 113 #[.val (.long q0), .second, .val (.long q1), .second, .val (.long q2), .second, .val (.int p3), .val (.long sz), .second, .val (.int md), .unset, .unset, .unset, .unset, .unset, .unset, .unset] [(.int md)])) (fun t k => XS.iload X0.here hx rfl (hb hby at_111) rfl k) ?_
    refine Go.to (g' := (mkF m 114 #[.val (.long q0), .second, .val (.long q1), .second, .val (.long q2), .second, .val (.int p3), .val (.long sz), .second, .val (.int md), .unset, .unset, .unset, .unset, .unset, .unset, .unset] [(.int (1 : Int32)), (.int md)])) (fun t k => XS.iconst X0.here hx rfl (hb hby at_113) k) ?_
    by_cases c15 : md = (1 : Int32)
    · refine Go.to (g' := (mkF m 117 #[.val (.long q0), .second, .val (.long q1), .second, .val (.long q2), .second, .val (.int p3), .val (.long sz), .second, .val (.int md), .unset, .unset, .unset, .unset, .unset, .unset, .unset] [])) (fun t k => XS.icmpNo X0.here hx rfl (hb hby at_114) rfl (teq c15).2 k) ?_
      refine Go.to (g' := (mkF m 119 #[.val (.long q0), .second, .val (.long q1), .second, .val (.long q2), .second, .val (.int p3), .val (.long sz), .second, .val (.int md), .unset, .unset, .unset, .unset, .unset, .unset, .unset] [(.long q2)])) (fun t k => XS.lload X0.here hx rfl (hb hby at_117) rfl k) ?_
      refine Go.to (g' := (mkF m 122 #[.val (.long q0), .second, .val (.long q1), .second, .val (.long q2), .second, .val (.int p3), .val (.long sz), .second, .val (.int md), .unset, .unset, .unset, .unset, .unset, .unset, .unset] [(.long (9223372036854775807 : Int64)), (.long q2)])) (fun t k => X0.ldc2Long hx hown (mvT hZ (hw _ (List.mem_of_getElem? (i := 0) rfl))) (g := (mkF m 119 #[.val (.long q0), .second, .val (.long q1), .second, .val (.long q2), .second, .val (.int p3), .val (.long sz), .second, .val (.int md), .unset, .unset, .unset, .unset, .unset, .unset, .unset] [(.long q2)])) rfl (hb hby at_119) _ k) ?_
      refine Go.to (g' := (mkF m 123 #[.val (.long q0), .second, .val (.long q1), .second, .val (.long q2), .second, .val (.int p3), .val (.long sz), .second, .val (.int md), .unset, .unset, .unset, .unset, .unset, .unset, .unset] [(.long (q2 &&& (9223372036854775807 : Int64)))])) (fun t k => XS.land X0.here hx rfl (hb hby at_122) rfl k) ?_
      obtain ⟨nv1, hv_nv1⟩ : ∃ z : Int64, z = (q2 &&& (9223372036854775807 : Int64)) := ⟨_, rfl⟩
      rw [← hv_nv1]
      refine Go.to (g' := (mkF m 125 #[.val (.long q0), .second, .val (.long q1), .second, .val (.long q2), .second, .val (.int p3), .val (.long sz), .second, .val (.int md), .val (.long nv1), .second, .unset, .unset, .unset, .unset, .unset] [])) (fun t k => XS.lstore X0.here hx rfl (hb hby at_123) rfl (l' := #[.val (.long q0), .second, .val (.long q1), .second, .val (.long q2), .second, .val (.int p3), .val (.long sz), .second, .val (.int md), .val (.long nv1), .second, .unset, .unset, .unset, .unset, .unset]) rfl k) ?_
      refine Go.to (g' := (mkF m 127 #[.val (.long q0), .second, .val (.long q1), .second, .val (.long q2), .second, .val (.int p3), .val (.long sz), .second, .val (.int md), .val (.long nv1), .second, .unset, .unset, .unset, .unset, .unset] [(.long sz)])) (fun t k => XS.lload X0.here hx rfl (hb hby at_125) rfl k) ?_
      refine Go.to (g' := (mkF m 129 #[.val (.long q0), .second, .val (.long q1), .second, .val (.long q2), .second, .val (.int p3), .val (.long sz), .second, .val (.int md), .val (.long nv1), .second, .unset, .unset, .unset, .unset, .unset] [(.long nv1), (.long sz)])) (fun t k => XS.lload X0.here hx rfl (hb hby at_127) rfl k) ?_
      refine Go.to (g' := (mkF m 131 #[.val (.long q0), .second, .val (.long q1), .second, .val (.long q2), .second, .val (.int p3), .val (.long sz), .second, .val (.int md), .val (.long nv1), .second, .unset, .unset, .unset, .unset, .unset] [(.long sz), (.long nv1), (.long sz)])) (fun t k => XS.lload X0.here hx rfl (hb hby at_129) rfl k) ?_
      obtain ⟨v16, _, ⟨T16, L16, k16, n16⟩, -, X16, ⟨Lc16, hQ16, l16, y16, z16⟩, st16⟩ := Jvm.LawKit.callS X0 hx (y := (⟨"java/lang/Math", "min", "(JJ)J"⟩ : MethodName)) hown (mvT hZ (hw _ (List.mem_of_getElem? (i := 31) rfl))) (mvT hZ (hw _ (List.mem_of_getElem? (i := 32) rfl))) (mvT hZ (hw _ (List.mem_of_getElem? (i := 29) rfl))) (mvT hZ (hw _ (List.mem_of_getElem? (i := 33) rfl))) (by decide) (backOf (W := 2) (rm6 l Z aw hw [] nv1 sz  h0 n0 Z0 ) hZ (hw _ (List.mem_of_getElem? (i := 33) rfl)) (hw _ (List.mem_of_getElem? (i := 29) rfl)) (by decide) (by decide)) (g := (mkF m 131 #[.val (.long q0), .second, .val (.long q1), .second, .val (.long q2), .second, .val (.int p3), .val (.long sz), .second, .val (.int md), .val (.long nv1), .second, .unset, .unset, .unset, .unset, .unset] [(.long sz), (.long nv1), (.long sz)])) rfl (by rw [hml]; rfl) (argsL := [(.long nv1), (.long sz)]) (rest := [(.long sz)]) (lenOf pd_28JJ29J rfl) rfl (by show 2 * 0 + _ ≤ _; exact Nat.le_of_eq rfl) (hb hby at_131) (fun _ _ => ⟨rfl, e0, (by decide : 0 + 0 ≤ _), (by decide : 0 + 0 ≤ _)⟩)
      dsimp only [Pt.U, Pt.locs, Pt.cells, Pt.slots] at X16 l16 y16 z16 st16 hQ16
      subst l16 y16 z16
      obtain ⟨rfl, N16q, e16⟩ := hQ16
      have N16 := Fr.app N0 N16q
      refine Go.to (g' := (mkF m 134 #[.val (.long q0), .second, .val (.long q1), .second, .val (.long q2), .second, .val (.int p3), .val (.long sz), .second, .val (.int md), .val (.long nv1), .second, .unset, .unset, .unset, .unset, .unset] [(.long (if sz < nv1 then sz else nv1)), (.long sz)])) st16 ?_
      refine Go.to (g' := (mkF m 135 #[.val (.long q0), .second, .val (.long q1), .second, .val (.long q2), .second, .val (.int p3), .val (.long sz), .second, .val (.int md), .val (.long nv1), .second, .unset, .unset, .unset, .unset, .unset] [(.long (sz - (if sz < nv1 then sz else nv1)))])) (fun t k => XS.lsub X16.here hx rfl (hb hby at_134) rfl k) ?_
      obtain ⟨f1, hv_f1⟩ : ∃ z : Int64, z = (sz - (if sz < nv1 then sz else nv1)) := ⟨_, rfl⟩
      rw [← hv_f1]
      refine Go.to (g' := (mkF m 137 #[.val (.long q0), .second, .val (.long q1), .second, .val (.long q2), .second, .val (.int p3), .val (.long sz), .second, .val (.int md), .val (.long nv1), .second, .val (.long f1), .second, .unset, .unset, .unset] [])) (fun t k => XS.lstore X16.here hx rfl (hb hby at_135) rfl (l' := #[.val (.long q0), .second, .val (.long q1), .second, .val (.long q2), .second, .val (.int p3), .val (.long sz), .second, .val (.int md), .val (.long nv1), .second, .val (.long f1), .second, .unset, .unset, .unset]) rfl k) ?_
      obtain ⟨T18, h18, X18, e18, E18, A18, D18, -, st18⟩ := newO X16 hx hZ hown (hw _ (List.mem_of_getElem? (i := 2) rfl)) (hw _ (List.mem_of_getElem? (i := 3) rfl)) (hw _ (List.mem_of_getElem? (i := 4) rfl)) e16 (g := (mkF m 137 #[.val (.long q0), .second, .val (.long q1), .second, .val (.long q2), .second, .val (.int p3), .val (.long sz), .second, .val (.int md), .val (.long nv1), .second, .val (.long f1), .second, .unset, .unset, .unset] [])) rfl (hb hby at_137) (by decide) (by decide)
      obtain ⟨o17, g18⟩ : ∃ z, z = h0.size := ⟨_, rfl⟩
      rw [← g18] at A18 D18 st18
      have g_o17 : n0 ≤ o17 := Nat.le_trans Z0 (Nat.le_of_eq g18.symm)
      have sz_o17 : h0.size ≤ o17 := Nat.le_trans (Keep.refl h0 []).1 (Nat.le_of_eq g18.symm)
      have Z18 : n0 ≤ h18.size := Nat.le_trans Z0 E18.1
      have K18 : Keep h0 h18 [] := (Keep.refl h0 []).ext E18
      have F_first_o17 : Fld Z h18 o17 "com/example/headstart/headstart/server/ByteRange" "first" "J" (.long (0 : Int64)) := D18 (Or.inr (hw _ (List.mem_of_getElem? (i := 17) rfl))) (ty := .long) (by decide)
      have F_length_o17 : Fld Z h18 o17 "com/example/headstart/headstart/server/ByteRange" "length" "J" (.long (0 : Int64)) := D18 (Or.inr (hw _ (List.mem_of_getElem? (i := 19) rfl))) (ty := .long) (by decide)
      have F_size_o17 : Fld Z h18 o17 "com/example/headstart/headstart/server/ByteRange" "size" "J" (.long (0 : Int64)) := D18 (Or.inr (hw _ (List.mem_of_getElem? (i := 21) rfl))) (ty := .long) (by decide)
      refine Go.to (g' := (mkF m 140 #[.val (.long q0), .second, .val (.long q1), .second, .val (.long q2), .second, .val (.int p3), .val (.long sz), .second, .val (.int md), .val (.long nv1), .second, .val (.long f1), .second, .unset, .unset, .unset] [(.ref o17)])) st18 ?_
      refine Go.to (g' := (mkF m 141 #[.val (.long q0), .second, .val (.long q1), .second, .val (.long q2), .second, .val (.int p3), .val (.long sz), .second, .val (.int md), .val (.long nv1), .second, .val (.long f1), .second, .unset, .unset, .unset] [(.ref o17), (.ref o17)])) (fun t k => XS.dup X18.here hx rfl (hb hby at_140) rfl rfl k) ?_
      refine Go.to (g' := (mkF m 143 #[.val (.long q0), .second, .val (.long q1), .second, .val (.long q2), .second, .val (.int p3), .val (.long sz), .second, .val (.int md), .val (.long nv1), .second, .val (.long f1), .second, .unset, .unset, .unset] [(.long f1), (.ref o17), (.ref o17)])) (fun t k => XS.lload X18.here hx rfl (hb hby at_141) rfl k) ?_
      refine Go.to (g' := (mkF m 145 #[.val (.long q0), .second, .val (.long q1), .second, .val (.long q2), .second, .val (.int p3), .val (.long sz), .second, .val (.int md), .val (.long nv1), .second, .val (.long f1), .second, .unset, .unset, .unset] [(.long sz), (.long f1), (.ref o17), (.ref o17)])) (fun t k => XS.lload X18.here hx rfl (hb hby at_143) rfl k) ?_
      refine Go.to (g' := (mkF m 147 #[.val (.long q0), .second, .val (.long q1), .second, .val (.long q2), .second, .val (.int p3), .val (.long sz), .second, .val (.int md), .val (.long nv1), .second, .val (.long f1), .second, .unset, .unset, .unset] [(.long f1), (.long sz), (.long f1), (.ref o17), (.ref o17)])) (fun t k => XS.lload X18.here hx rfl (hb hby at_145) rfl k) ?_
      refine Go.to (g' := (mkF m 148 #[.val (.long q0), .second, .val (.long q1), .second, .val (.long q2), .second, .val (.int p3), .val (.long sz), .second, .val (.int md), .val (.long nv1), .second, .val (.long f1), .second, .unset, .unset, .unset] [(.long (sz - f1)), (.long f1), (.ref o17), (.ref o17)])) (fun t k => XS.lsub X18.here hx rfl (hb hby at_147) rfl k) ?_
      refine Go.to (g' := (mkF m 150 #[.val (.long q0), .second, .val (.long q1), .second, .val (.long q2), .second, .val (.int p3), .val (.long sz), .second, .val (.int md), .val (.long nv1), .second, .val (.long f1), .second, .unset, .unset, .unset] [(.long sz), (.long (sz - f1)), (.long f1), (.ref o17), (.ref o17)])) (fun t k => XS.lload X18.here hx rfl (hb hby at_148) rfl k) ?_
      obtain ⟨v19, _, ⟨T19, L19, k19, n19⟩, -, X19, ⟨Lc19, hQ19, l19, y19, z19⟩, st19⟩ := X18.specialBack hx (y := (⟨"com/example/headstart/headstart/server/ByteRange", "<init>", "(JJJ)V"⟩ : MethodName)) rfl hown (mvT hZ (hw _ (List.mem_of_getElem? (i := 5) rfl))) (mvT hZ (hw _ (List.mem_of_getElem? (i := 6) rfl))) (mvT hZ (hw _ (List.mem_of_getElem? (i := 7) rfl))) (by decide) (backOf (W := 1) (rm1 l Z aw hw [] o17 f1 (sz - f1) sz  h18 n0 Z18 A18 F_first_o17 F_length_o17 F_size_o17 g_o17) hZ (hw _ (List.mem_of_getElem? (i := 7) rfl)) (hw _ (List.mem_of_getElem? (i := 4) rfl)) (by decide) (by decide)) (g := (mkF m 150 #[.val (.long q0), .second, .val (.long q1), .second, .val (.long q2), .second, .val (.int p3), .val (.long sz), .second, .val (.int md), .val (.long nv1), .second, .val (.long f1), .second, .unset, .unset, .unset] [(.long sz), (.long (sz - f1)), (.long f1), (.ref o17), (.ref o17)])) rfl (by rw [hml]; rfl) (Steps.refl _) (a := o17) (argsL := [(.long f1), (.long (sz - f1)), (.long sz)]) (rest := [(.ref o17)]) (lenOf pd_28JJJ29V rfl) rfl (by show 2 * 0 + _ ≤ _; exact Nat.le_of_eq rfl) (hb hby at_150) (fun _ _ => ⟨rfl, e18, (by decide : 1 + 0 ≤ _), (by decide : 3 + 0 ≤ _)⟩)
      dsimp only [Pt.U, Pt.locs, Pt.cells, Pt.slots] at X19 l19 y19 z19 st19 hQ19
      subst l19 y19 z19
      obtain ⟨h19, e19⟩ : ∃ z, T19.heap = z := ⟨_, rfl⟩
      rw [e19] at hQ19
      obtain ⟨rfl, N19q, Kq19, Fl19⟩ := hQ19
      have N19 := Fr.app N16 N19q
      have Z19 : n0 ≤ h19.size := Nat.le_trans Z18 Kq19.1
      have K19 : Keep h0 h19 [] := K18.trans Kq19 (fun x hx => by cases List.mem_singleton.mp hx; exact Or.inr sz_o17)
      refine Go.to (g' := (mkF m 153 #[.val (.long q0), .second, .val (.long q1), .second, .val (.long q2), .second, .val (.int p3), .val (.long sz), .second, .val (.int md), .val (.long nv1), .second, .val (.long f1), .second, .unset, .unset, .unset] [(.ref o17)])) (fun t k => st19.trans k) ?_
      refine Go.to (g' := (mkF m 155 #[.val (.long q0), .second, .val (.long q1), .second, .val (.long q2), .second, .val (.int p3), .val (.long sz), .second, .val (.int md), .val (.long nv1), .second, .val (.long f1), .second, .val (.ref o17), .unset, .unset] [])) (fun t k => XS.astore X19.here hx rfl (hb hby at_153) rfl rfl (l' := #[.val (.long q0), .second, .val (.long q1), .second, .val (.long q2), .second, .val (.int p3), .val (.long sz), .second, .val (.int md), .val (.long nv1), .second, .val (.long f1), .second, .val (.ref o17), .unset, .unset]) rfl k) ?_
      refine Go.to (g' := (mkF m 157 #[.val (.long q0), .second, .val (.long q1), .second, .val (.long q2), .second, .val (.int p3), .val (.long sz), .second, .val (.int md), .val (.long nv1), .second, .val (.long f1), .second, .val (.ref o17), .unset, .unset] [(.ref o17)])) (fun t k => XS.aload X19.here hx rfl (hb hby at_155) rfl rfl k) ?_
      have f20 : Exa Z h19 o17 "com/example/headstart/headstart/server/ByteRange" := (A18.keep Kq19)
      obtain ⟨cq21, kq21, qa21, qb21, qc21⟩ := isOf hZ e19 f20
      obtain ⟨v21, _, ⟨T21, L21, k21, n21⟩, -, X21, ⟨Lc21, hQ21, l21, y21, z21⟩, st21⟩ := X19.virtualBack hx (y := (⟨"com/example/headstart/headstart/server/ByteRange", "satisfiable", "()Z"⟩ : MethodName)) (z := (⟨"com/example/headstart/headstart/server/ByteRange", "satisfiable", "()Z"⟩ : MethodName)) hown (mvT hZ (hw _ (List.mem_of_getElem? (i := 22) rfl))) (mvT hZ (hw _ (List.mem_of_getElem? (i := 23) rfl))) (notFace_of_selects (args := #[]) (mvT hZ (hw _ (List.mem_of_getElem? (i := 25) rfl)))) (mvT hZ (hw _ (List.mem_of_getElem? (i := 25) rfl))) (mvT hZ (hw _ (List.mem_of_getElem? (i := 24) rfl))) (by decide) (backOf (W := 0) (rm4 l Z aw hw [] o17 (sz - f1) h19 n0 Z19 Fl19) hZ (hw _ (List.mem_of_getElem? (i := 26) rfl)) (hw _ (List.mem_of_getElem? (i := 4) rfl)) (by decide) (by decide)) qa21 qc21 (g := (mkF m 157 #[.val (.long q0), .second, .val (.long q1), .second, .val (.long q2), .second, .val (.int p3), .val (.long sz), .second, .val (.int md), .val (.long nv1), .second, .val (.long f1), .second, .val (.ref o17), .unset, .unset] [(.ref o17)])) rfl (by rw [hml]; rfl) (Steps.refl _) (argsL := []) (rest := []) (lenOf pd_2829Z rfl) rfl (by show 2 * 0 + _ ≤ _; exact Nat.le_of_eq rfl) (hb hby at_157) (fun _ _ => ⟨rfl, e19, (by decide : 1 + 0 ≤ _), (by decide : 3 + 0 ≤ _)⟩)
      dsimp only [Pt.U, Pt.locs, Pt.cells, Pt.slots] at X21 l21 y21 z21 st21 hQ21
      subst l21 y21 z21
      obtain ⟨rfl, N21q, e21⟩ := hQ21
      have N21 := Fr.app N19 N21q
      refine Go.to (g' := (mkF m 160 #[.val (.long q0), .second, .val (.long q1), .second, .val (.long q2), .second, .val (.int p3), .val (.long sz), .second, .val (.int md), .val (.long nv1), .second, .val (.long f1), .second, .val (.ref o17), .unset, .unset] [(.int (if (0 : Int64) < (sz - f1) then (1 : Int32) else (0 : Int32)))])) (fun t k => st21.trans k) ?_
      refine Go.to (g' := (mkF m 162 #[.val (.long q0), .second, .val (.long q1), .second, .val (.long q2), .second, .val (.int p3), .val (.long sz), .second, .val (.int md), .val (.long nv1), .second, .val (.long f1), .second, .val (.ref o17), .unset, .unset] [(.long f1), (.int (if (0 : Int64) < (sz - f1) then (1 : Int32) else (0 : Int32)))])) (fun t k => XS.lload X21.here hx rfl (hb hby at_160) rfl k) ?_
      refine Go.to (g' := (mkF m 164 #[.val (.long q0), .second, .val (.long q1), .second, .val (.long q2), .second, .val (.int p3), .val (.long sz), .second, .val (.int md), .val (.long nv1), .second, .val (.long f1), .second, .val (.ref o17), .unset, .unset] [(.long sz), (.long f1), (.int (if (0 : Int64) < (sz - f1) then (1 : Int32) else (0 : Int32)))])) (fun t k => XS.lload X21.here hx rfl (hb hby at_162) rfl k) ?_
      refine Go.to (g' := (mkF m 165 #[.val (.long q0), .second, .val (.long q1), .second, .val (.long q2), .second, .val (.int p3), .val (.long sz), .second, .val (.int md), .val (.long nv1), .second, .val (.long f1), .second, .val (.ref o17), .unset, .unset] [(.int (lcmpW f1 sz)), (.int (if (0 : Int64) < (sz - f1) then (1 : Int32) else (0 : Int32)))])) (fun t k => XS.lcmp X21.here hx rfl (hb hby at_164) rfl k) ?_
      by_cases c22 : f1 < sz
      · refine Go.to (g' := (mkF m 168 #[.val (.long q0), .second, .val (.long q1), .second, .val (.long q2), .second, .val (.int p3), .val (.long sz), .second, .val (.int md), .val (.long nv1), .second, .val (.long f1), .second, .val (.ref o17), .unset, .unset] [(.int (if (0 : Int64) < (sz - f1) then (1 : Int32) else (0 : Int32)))])) (fun t k => XS.ifNo X21.here hx rfl (hb hby at_165) rfl ((if0 _ _).trans (tlt ((lw_lt f1 sz).mpr c22)).2.1) k) ?_
        refine Go.to (g' := (mkF m 169 #[.val (.long q0), .second, .val (.long q1), .second, .val (.long q2), .second, .val (.int p3), .val (.long sz), .second, .val (.int md), .val (.long nv1), .second, .val (.long f1), .second, .val (.ref o17), .unset, .unset] [(.int (1 : Int32)), (.int (if (0 : Int64) < (sz - f1) then (1 : Int32) else (0 : Int32)))])) (fun t k => XS.iconst X21.here hx rfl (hb hby at_168) k) ?_
        refine Go.to (g' := (mkF m 173 #[.val (.long q0), .second, .val (.long q1), .second, .val (.long q2), .second, .val (.int p3), .val (.long sz), .second, .val (.int md), .val (.long nv1), .second, .val (.long f1), .second, .val (.ref o17), .unset, .unset] [(.int (1 : Int32)), (.int (if (0 : Int64) < (sz - f1) then (1 : Int32) else (0 : Int32)))])) (fun t k => XS.goto X21.here hx rfl (pc0 := 169) (pc' := 173) rfl (hb hby at_169) (by decide) (by decide) k) ?_
        refine Go.to (g' := (mkF m 176 #[.val (.long q0), .second, .val (.long q1), .second, .val (.long q2), .second, .val (.int p3), .val (.long sz), .second, .val (.int md), .val (.long nv1), .second, .val (.long f1), .second, .val (.ref o17), .unset, .unset] [])) (fun t k => XS.icmpNo X21.here hx rfl (hb hby at_173) rfl (teq (if_pos ((own_m1 hv_sz hv_nv1 hv_f1).mpr c22))).2 k) ?_
        refine Go.to (g' := (mkF m 177 #[.val (.long q0), .second, .val (.long q1), .second, .val (.long q2), .second, .val (.int p3), .val (.long sz), .second, .val (.int md), .val (.long nv1), .second, .val (.long f1), .second, .val (.ref o17), .unset, .unset] [(.int (1 : Int32))])) (fun t k => XS.iconst X21.here hx rfl (hb hby at_176) k) ?_
        refine Go.to (g' := (mkF m 181 #[.val (.long q0), .second, .val (.long q1), .second, .val (.long q2), .second, .val (.int p3), .val (.long sz), .second, .val (.int md), .val (.long nv1), .second, .val (.long f1), .second, .val (.ref o17), .unset, .unset] [(.int (1 : Int32))])) (fun t k => XS.goto X21.here hx rfl (pc0 := 177) (pc' := 181) rfl (hb hby at_177) (by decide) (by decide) k) ?_
        exact Go.retN X21 hx (t := .boolean) Bd.returns Bd.notSynchronized (by simp) (hb hby at_181) (by decide) (by decide) e21 ⟨rfl, N21⟩
      · refine Go.to (g' := (mkF m 172 #[.val (.long q0), .second, .val (.long q1), .second, .val (.long q2), .second, .val (.int p3), .val (.long sz), .second, .val (.int md), .val (.long nv1), .second, .val (.long f1), .second, .val (.ref o17), .unset, .unset] [(.int (if (0 : Int64) < (sz - f1) then (1 : Int32) else (0 : Int32)))])) (fun t k => XS.ifYes X21.here hx rfl (pc0 := 165) (pc' := 172) rfl (hb hby at_165) rfl ((if0 _ _).trans (flt (fun q => c22 ((lw_lt f1 sz).mp q))).2.1) (by decide) (by decide) k) ?_
        refine Go.to (g' := (mkF m 173 #[.val (.long q0), .second, .val (.long q1), .second, .val (.long q2), .second, .val (.int p3), .val (.long sz), .second, .val (.int md), .val (.long nv1), .second, .val (.long f1), .second, .val (.ref o17), .unset, .unset] [(.int (0 : Int32)), (.int (if (0 : Int64) < (sz - f1) then (1 : Int32) else (0 : Int32)))])) (fun t k => XS.iconst X21.here hx rfl (hb hby at_172) k) ?_
        refine Go.to (g' := (mkF m 176 #[.val (.long q0), .second, .val (.long q1), .second, .val (.long q2), .second, .val (.int p3), .val (.long sz), .second, .val (.int md), .val (.long nv1), .second, .val (.long f1), .second, .val (.ref o17), .unset, .unset] [])) (fun t k => XS.icmpNo X21.here hx rfl (hb hby at_173) rfl (teq (if_neg (fun q => c22 ((own_m1 hv_sz hv_nv1 hv_f1).mp q)))).2 k) ?_
        refine Go.to (g' := (mkF m 177 #[.val (.long q0), .second, .val (.long q1), .second, .val (.long q2), .second, .val (.int p3), .val (.long sz), .second, .val (.int md), .val (.long nv1), .second, .val (.long f1), .second, .val (.ref o17), .unset, .unset] [(.int (1 : Int32))])) (fun t k => XS.iconst X21.here hx rfl (hb hby at_176) k) ?_
        refine Go.to (g' := (mkF m 181 #[.val (.long q0), .second, .val (.long q1), .second, .val (.long q2), .second, .val (.int p3), .val (.long sz), .second, .val (.int md), .val (.long nv1), .second, .val (.long f1), .second, .val (.ref o17), .unset, .unset] [(.int (1 : Int32))])) (fun t k => XS.goto X21.here hx rfl (pc0 := 177) (pc' := 181) rfl (hb hby at_177) (by decide) (by decide) k) ?_
        exact Go.retN X21 hx (t := .boolean) Bd.returns Bd.notSynchronized (by simp) (hb hby at_181) (by decide) (by decide) e21 ⟨rfl, N21⟩
    · refine Go.to (g' := (mkF m 182 #[.val (.long q0), .second, .val (.long q1), .second, .val (.long q2), .second, .val (.int p3), .val (.long sz), .second, .val (.int md), .unset, .unset, .unset, .unset, .unset, .unset, .unset] [])) (fun t k => XS.icmpYes X0.here hx rfl (pc0 := 114) (pc' := 182) rfl (hb hby at_114) rfl (feq c15).2 (by decide) (by decide) k) ?_
      obtain ⟨T24, h24, X24, e24, E24, A24, D24, -, st24⟩ := newO X0 hx hZ hown (hw _ (List.mem_of_getElem? (i := 2) rfl)) (hw _ (List.mem_of_getElem? (i := 3) rfl)) (hw _ (List.mem_of_getElem? (i := 4) rfl)) e0 (g := (mkF m 182 #[.val (.long q0), .second, .val (.long q1), .second, .val (.long q2), .second, .val (.int p3), .val (.long sz), .second, .val (.int md), .unset, .unset, .unset, .unset, .unset, .unset, .unset] [])) rfl (hb hby at_182) (by decide) (by decide)
      obtain ⟨o23, g24⟩ : ∃ z, z = h0.size := ⟨_, rfl⟩
      rw [← g24] at A24 D24 st24
      have g_o23 : n0 ≤ o23 := Nat.le_trans Z0 (Nat.le_of_eq g24.symm)
      have sz_o23 : h0.size ≤ o23 := Nat.le_trans (Keep.refl h0 []).1 (Nat.le_of_eq g24.symm)
      have Z24 : n0 ≤ h24.size := Nat.le_trans Z0 E24.1
      have K24 : Keep h0 h24 [] := (Keep.refl h0 []).ext E24
      have F_first_o23 : Fld Z h24 o23 "com/example/headstart/headstart/server/ByteRange" "first" "J" (.long (0 : Int64)) := D24 (Or.inr (hw _ (List.mem_of_getElem? (i := 17) rfl))) (ty := .long) (by decide)
      have F_length_o23 : Fld Z h24 o23 "com/example/headstart/headstart/server/ByteRange" "length" "J" (.long (0 : Int64)) := D24 (Or.inr (hw _ (List.mem_of_getElem? (i := 19) rfl))) (ty := .long) (by decide)
      have F_size_o23 : Fld Z h24 o23 "com/example/headstart/headstart/server/ByteRange" "size" "J" (.long (0 : Int64)) := D24 (Or.inr (hw _ (List.mem_of_getElem? (i := 21) rfl))) (ty := .long) (by decide)
      refine Go.to (g' := (mkF m 185 #[.val (.long q0), .second, .val (.long q1), .second, .val (.long q2), .second, .val (.int p3), .val (.long sz), .second, .val (.int md), .unset, .unset, .unset, .unset, .unset, .unset, .unset] [(.ref o23)])) st24 ?_
      refine Go.to (g' := (mkF m 186 #[.val (.long q0), .second, .val (.long q1), .second, .val (.long q2), .second, .val (.int p3), .val (.long sz), .second, .val (.int md), .unset, .unset, .unset, .unset, .unset, .unset, .unset] [(.ref o23), (.ref o23)])) (fun t k => XS.dup X24.here hx rfl (hb hby at_185) rfl rfl k) ?_
      refine Go.to (g' := (mkF m 187 #[.val (.long q0), .second, .val (.long q1), .second, .val (.long q2), .second, .val (.int p3), .val (.long sz), .second, .val (.int md), .unset, .unset, .unset, .unset, .unset, .unset, .unset] [(.long q0), (.ref o23), (.ref o23)])) (fun t k => XS.lloadN X24.here hx rfl (hb hby at_186) rfl k) ?_
      refine Go.to (g' := (mkF m 188 #[.val (.long q0), .second, .val (.long q1), .second, .val (.long q2), .second, .val (.int p3), .val (.long sz), .second, .val (.int md), .unset, .unset, .unset, .unset, .unset, .unset, .unset] [(.long q1), (.long q0), (.ref o23), (.ref o23)])) (fun t k => XS.lloadN X24.here hx rfl (hb hby at_187) rfl k) ?_
      refine Go.to (g' := (mkF m 190 #[.val (.long q0), .second, .val (.long q1), .second, .val (.long q2), .second, .val (.int p3), .val (.long sz), .second, .val (.int md), .unset, .unset, .unset, .unset, .unset, .unset, .unset] [(.long q2), (.long q1), (.long q0), (.ref o23), (.ref o23)])) (fun t k => XS.lload X24.here hx rfl (hb hby at_188) rfl k) ?_
      obtain ⟨v25, _, ⟨T25, L25, k25, n25⟩, -, X25, ⟨Lc25, hQ25, l25, y25, z25⟩, st25⟩ := X24.specialBack hx (y := (⟨"com/example/headstart/headstart/server/ByteRange", "<init>", "(JJJ)V"⟩ : MethodName)) rfl hown (mvT hZ (hw _ (List.mem_of_getElem? (i := 5) rfl))) (mvT hZ (hw _ (List.mem_of_getElem? (i := 6) rfl))) (mvT hZ (hw _ (List.mem_of_getElem? (i := 7) rfl))) (by decide) (backOf (W := 1) (rm1 l Z aw hw [] o23 q0 q1 q2  h24 n0 Z24 A24 F_first_o23 F_length_o23 F_size_o23 g_o23) hZ (hw _ (List.mem_of_getElem? (i := 7) rfl)) (hw _ (List.mem_of_getElem? (i := 4) rfl)) (by decide) (by decide)) (g := (mkF m 190 #[.val (.long q0), .second, .val (.long q1), .second, .val (.long q2), .second, .val (.int p3), .val (.long sz), .second, .val (.int md), .unset, .unset, .unset, .unset, .unset, .unset, .unset] [(.long q2), (.long q1), (.long q0), (.ref o23), (.ref o23)])) rfl (by rw [hml]; rfl) (Steps.refl _) (a := o23) (argsL := [(.long q0), (.long q1), (.long q2)]) (rest := [(.ref o23)]) (lenOf pd_28JJJ29V rfl) rfl (by show 2 * 0 + _ ≤ _; exact Nat.le_of_eq rfl) (hb hby at_190) (fun _ _ => ⟨rfl, e24, (by decide : 1 + 0 ≤ _), (by decide : 3 + 0 ≤ _)⟩)
      dsimp only [Pt.U, Pt.locs, Pt.cells, Pt.slots] at X25 l25 y25 z25 st25 hQ25
      subst l25 y25 z25
      obtain ⟨h25, e25⟩ : ∃ z, T25.heap = z := ⟨_, rfl⟩
      rw [e25] at hQ25
      obtain ⟨rfl, N25q, Kq25, Fl25⟩ := hQ25
      have N25 := Fr.app N0 N25q
      have Z25 : n0 ≤ h25.size := Nat.le_trans Z24 Kq25.1
      have K25 : Keep h0 h25 [] := K24.trans Kq25 (fun x hx => by cases List.mem_singleton.mp hx; exact Or.inr sz_o23)
      refine Go.to (g' := (mkF m 193 #[.val (.long q0), .second, .val (.long q1), .second, .val (.long q2), .second, .val (.int p3), .val (.long sz), .second, .val (.int md), .unset, .unset, .unset, .unset, .unset, .unset, .unset] [(.ref o23)])) (fun t k => st25.trans k) ?_
      refine Go.to (g' := (mkF m 195 #[.val (.long q0), .second, .val (.long q1), .second, .val (.long q2), .second, .val (.int p3), .val (.long sz), .second, .val (.int md), .val (.ref o23), .unset, .unset, .unset, .unset, .unset, .unset] [])) (fun t k => XS.astore X25.here hx rfl (hb hby at_193) rfl rfl (l' := #[.val (.long q0), .second, .val (.long q1), .second, .val (.long q2), .second, .val (.int p3), .val (.long sz), .second, .val (.int md), .val (.ref o23), .unset, .unset, .unset, .unset, .unset, .unset]) rfl k) ?_
      refine Go.to (g' := (mkF m 197 #[.val (.long q0), .second, .val (.long q1), .second, .val (.long q2), .second, .val (.int p3), .val (.long sz), .second, .val (.int md), .val (.ref o23), .unset, .unset, .unset, .unset, .unset, .unset] [(.ref o23)])) (fun t k => XS.aload X25.here hx rfl (hb hby at_195) rfl rfl k) ?_
      have f26 : Exa Z h25 o23 "com/example/headstart/headstart/server/ByteRange" := (A24.keep Kq25)
      obtain ⟨cq27, kq27, qa27, qb27, qc27⟩ := isOf hZ e25 f26
      obtain ⟨v27, _, ⟨T27, L27, k27, n27⟩, -, X27, ⟨Lc27, hQ27, l27, y27, z27⟩, st27⟩ := X25.virtualBack hx (y := (⟨"com/example/headstart/headstart/server/ByteRange", "satisfiable", "()Z"⟩ : MethodName)) (z := (⟨"com/example/headstart/headstart/server/ByteRange", "satisfiable", "()Z"⟩ : MethodName)) hown (mvT hZ (hw _ (List.mem_of_getElem? (i := 22) rfl))) (mvT hZ (hw _ (List.mem_of_getElem? (i := 23) rfl))) (notFace_of_selects (args := #[]) (mvT hZ (hw _ (List.mem_of_getElem? (i := 25) rfl)))) (mvT hZ (hw _ (List.mem_of_getElem? (i := 25) rfl))) (mvT hZ (hw _ (List.mem_of_getElem? (i := 24) rfl))) (by decide) (backOf (W := 0) (rm4 l Z aw hw [] o23 q1 h25 n0 Z25 Fl25) hZ (hw _ (List.mem_of_getElem? (i := 26) rfl)) (hw _ (List.mem_of_getElem? (i := 4) rfl)) (by decide) (by decide)) qa27 qc27 (g := (mkF m 197 #[.val (.long q0), .second, .val (.long q1), .second, .val (.long q2), .second, .val (.int p3), .val (.long sz), .second, .val (.int md), .val (.ref o23), .unset, .unset, .unset, .unset, .unset, .unset] [(.ref o23)])) rfl (by rw [hml]; rfl) (Steps.refl _) (argsL := []) (rest := []) (lenOf pd_2829Z rfl) rfl (by show 2 * 0 + _ ≤ _; exact Nat.le_of_eq rfl) (hb hby at_197) (fun _ _ => ⟨rfl, e25, (by decide : 1 + 0 ≤ _), (by decide : 3 + 0 ≤ _)⟩)
      dsimp only [Pt.U, Pt.locs, Pt.cells, Pt.slots] at X27 l27 y27 z27 st27 hQ27
      subst l27 y27 z27
      obtain ⟨rfl, N27q, e27⟩ := hQ27
      have N27 := Fr.app N25 N27q
      refine Go.to (g' := (mkF m 200 #[.val (.long q0), .second, .val (.long q1), .second, .val (.long q2), .second, .val (.int p3), .val (.long sz), .second, .val (.int md), .val (.ref o23), .unset, .unset, .unset, .unset, .unset, .unset] [(.int (if (0 : Int64) < q1 then (1 : Int32) else (0 : Int32)))])) (fun t k => st27.trans k) ?_
      refine Go.to (g' := (mkF m 201 #[.val (.long q0), .second, .val (.long q1), .second, .val (.long q2), .second, .val (.int p3), .val (.long sz), .second, .val (.int md), .val (.ref o23), .unset, .unset, .unset, .unset, .unset, .unset] [(.long q1), (.int (if (0 : Int64) < q1 then (1 : Int32) else (0 : Int32)))])) (fun t k => XS.lloadN X27.here hx rfl (hb hby at_200) rfl k) ?_
      refine Go.to (g' := (mkF m 202 #[.val (.long q0), .second, .val (.long q1), .second, .val (.long q2), .second, .val (.int p3), .val (.long sz), .second, .val (.int md), .val (.ref o23), .unset, .unset, .unset, .unset, .unset, .unset] [(.long (0 : Int64)), (.long q1), (.int (if (0 : Int64) < q1 then (1 : Int32) else (0 : Int32)))])) (fun t k => XS.lconst X27.here hx rfl (hb hby at_201) k) ?_
      refine Go.to (g' := (mkF m 203 #[.val (.long q0), .second, .val (.long q1), .second, .val (.long q2), .second, .val (.int p3), .val (.long sz), .second, .val (.int md), .val (.ref o23), .unset, .unset, .unset, .unset, .unset, .unset] [(.int (lcmpW q1 (0 : Int64))), (.int (if (0 : Int64) < q1 then (1 : Int32) else (0 : Int32)))])) (fun t k => XS.lcmp X27.here hx rfl (hb hby at_202) rfl k) ?_
      by_cases c28 : (0 : Int64) < q1
      · refine Go.to (g' := (mkF m 206 #[.val (.long q0), .second, .val (.long q1), .second, .val (.long q2), .second, .val (.int p3), .val (.long sz), .second, .val (.int md), .val (.ref o23), .unset, .unset, .unset, .unset, .unset, .unset] [(.int (if (0 : Int64) < q1 then (1 : Int32) else (0 : Int32)))])) (fun t k => XS.ifNo X27.here hx rfl (hb hby at_203) rfl ((if0 _ _).trans (tlt ((lw_gt q1 (0 : Int64)).mpr c28)).2.2.2) k) ?_
        refine Go.to (g' := (mkF m 207 #[.val (.long q0), .second, .val (.long q1), .second, .val (.long q2), .second, .val (.int p3), .val (.long sz), .second, .val (.int md), .val (.ref o23), .unset, .unset, .unset, .unset, .unset, .unset] [(.int (1 : Int32)), (.int (if (0 : Int64) < q1 then (1 : Int32) else (0 : Int32)))])) (fun t k => XS.iconst X27.here hx rfl (hb hby at_206) k) ?_
        refine Go.to (g' := (mkF m 211 #[.val (.long q0), .second, .val (.long q1), .second, .val (.long q2), .second, .val (.int p3), .val (.long sz), .second, .val (.int md), .val (.ref o23), .unset, .unset, .unset, .unset, .unset, .unset] [(.int (1 : Int32)), (.int (if (0 : Int64) < q1 then (1 : Int32) else (0 : Int32)))])) (fun t k => XS.goto X27.here hx rfl (pc0 := 207) (pc' := 211) rfl (hb hby at_207) (by decide) (by decide) k) ?_
        refine Go.to (g' := (mkF m 214 #[.val (.long q0), .second, .val (.long q1), .second, .val (.long q2), .second, .val (.int p3), .val (.long sz), .second, .val (.int md), .val (.ref o23), .unset, .unset, .unset, .unset, .unset, .unset] [])) (fun t k => XS.icmpNo X27.here hx rfl (hb hby at_211) rfl (teq (if_pos c28)).2 k) ?_
        refine Go.to (g' := (mkF m 215 #[.val (.long q0), .second, .val (.long q1), .second, .val (.long q2), .second, .val (.int p3), .val (.long sz), .second, .val (.int md), .val (.ref o23), .unset, .unset, .unset, .unset, .unset, .unset] [(.int (1 : Int32))])) (fun t k => XS.iconst X27.here hx rfl (hb hby at_214) k) ?_
        refine Go.to (g' := (mkF m 219 #[.val (.long q0), .second, .val (.long q1), .second, .val (.long q2), .second, .val (.int p3), .val (.long sz), .second, .val (.int md), .val (.ref o23), .unset, .unset, .unset, .unset, .unset, .unset] [(.int (1 : Int32))])) (fun t k => XS.goto X27.here hx rfl (pc0 := 215) (pc' := 219) rfl (hb hby at_215) (by decide) (by decide) k) ?_
        exact Go.retN X27 hx (t := .boolean) Bd.returns Bd.notSynchronized (by simp) (hb hby at_219) (by decide) (by decide) e27 ⟨rfl, N27⟩
      · refine Go.to (g' := (mkF m 210 #[.val (.long q0), .second, .val (.long q1), .second, .val (.long q2), .second, .val (.int p3), .val (.long sz), .second, .val (.int md), .val (.ref o23), .unset, .unset, .unset, .unset, .unset, .unset] [(.int (if (0 : Int64) < q1 then (1 : Int32) else (0 : Int32)))])) (fun t k => XS.ifYes X27.here hx rfl (pc0 := 203) (pc' := 210) rfl (hb hby at_203) rfl ((if0 _ _).trans (flt (fun q => c28 ((lw_gt q1 (0 : Int64)).mp q))).2.2.2) (by decide) (by decide) k) ?_
        refine Go.to (g' := (mkF m 211 #[.val (.long q0), .second, .val (.long q1), .second, .val (.long q2), .second, .val (.int p3), .val (.long sz), .second, .val (.int md), .val (.ref o23), .unset, .unset, .unset, .unset, .unset, .unset] [(.int (0 : Int32)), (.int (if (0 : Int64) < q1 then (1 : Int32) else (0 : Int32)))])) (fun t k => XS.iconst X27.here hx rfl (hb hby at_210) k) ?_
        refine Go.to (g' := (mkF m 214 #[.val (.long q0), .second, .val (.long q1), .second, .val (.long q2), .second, .val (.int p3), .val (.long sz), .second, .val (.int md), .val (.ref o23), .unset, .unset, .unset, .unset, .unset, .unset] [])) (fun t k => XS.icmpNo X27.here hx rfl (hb hby at_211) rfl (teq (if_neg c28)).2 k) ?_
        refine Go.to (g' := (mkF m 215 #[.val (.long q0), .second, .val (.long q1), .second, .val (.long q2), .second, .val (.int p3), .val (.long sz), .second, .val (.int md), .val (.ref o23), .unset, .unset, .unset, .unset, .unset, .unset] [(.int (1 : Int32))])) (fun t k => XS.iconst X27.here hx rfl (hb hby at_214) k) ?_
        refine Go.to (g' := (mkF m 219 #[.val (.long q0), .second, .val (.long q1), .second, .val (.long q2), .second, .val (.int p3), .val (.long sz), .second, .val (.int md), .val (.ref o23), .unset, .unset, .unset, .unset, .unset, .unset] [(.int (1 : Int32))])) (fun t k => XS.goto X27.here hx rfl (pc0 := 215) (pc' := 219) rfl (hb hby at_215) (by decide) (by decide) k) ?_
        exact Go.retN X27 hx (t := .boolean) Bd.returns Bd.notSynchronized (by simp) (hb hby at_219) (by decide) (by decide) e27 ⟨rfl, N27⟩

set_option maxRecDepth 65536 in
set_option maxHeartbeats 40000000 in
theorem comes_1 {Post : Tables → Env → Array Value → State → Outcome → State → Prop} (hpost : ∀ tb e args s v u, (limb_1_1.after args s (.returned v) u = true ∧ limb_1_2.after args s (.returned v) u = true ∧ True) → FrameEnd s (.returned v) u (Jvm.fieldLocs frame_1_writes args s ++ Jvm.arrayLocs frame_1_arrays args s ++ Jvm.staticLocs frame_1_statics s) 16 128 → Post tb e args s (.returned v) u) :
    ArmFor flags0 classFile x code maxLocals ret World_1 tables_1 room_1 Calls_1 rest_1 Pre_1 Post := by
  intro l hfl _ _ p e ha hc hk s m args below hf hA hF happ hP
  obtain ⟨hcalls, hrest, hpre⟩ := hP
  obtain ⟨-, -, -, hnamed, -, -, -, hat⟩ := (Spec.applies_iff hf).mp happ
  obtain ⟨hg, hn⟩ := and_e (Cond.before_iff.mp (show (Jvm.Cond.and given_1 narrow_1).before args s = true from hpre))
  obtain ⟨ga0, gb0⟩ := and_e hg
  obtain ⟨ga1, gb1⟩ := and_e gb0
  obtain ⟨ga2, gb2⟩ := and_e gb1
  obtain ⟨ga3, gb3⟩ := and_e gb2
  obtain ⟨w0, w1, w2, w3, rfl⟩ : ∃ w0 w1 w2 w3 : Value, args = #[w0, w1, w2, w3] := by
    have hs : args.size = 4 := by simpa [Cond.value, given_1] using ga0
    obtain ⟨L⟩ := args
    match L, hs with
    | [w0, w1, w2, w3], _ => exact ⟨w0, w1, w2, w3, rfl⟩
  have hw := fun d (hd : d ∈ tables_1) => atoms_spec (ws := Jvm.Cond.code x code maxLocals ret :: tables_1) hat d (List.mem_cons_of_mem _ hd)
  obtain ⟨i0, ei0⟩ := isL_v ga1
  obtain rfl : w0 = (.long i0) := Option.some.inj ei0
  obtain ⟨i1, ei1⟩ := isL_v ga2
  obtain rfl : w1 = (.long i1) := Option.some.inj ei1
  obtain ⟨i2, ei2⟩ := isL_v ga3
  obtain rfl : w2 = (.long i2) := Option.some.inj ei2
  obtain ⟨i3, ei3⟩ := is_v gb3
  obtain rfl : w3 = (.int i3) := Option.some.inj ei3
  obtain ⟨n, o, h1, h2, h3, _, L, rfl, ⟨rfl, N⟩, hq⟩ := rm0 l s _ hw tables_1 i0 i1 i2 i3 s.heap s.heap.size (Nat.le_refl _)  p e ha hc hk s m _ below hf ((Spec.applies_iff_loose hf).mp happ).1 ⟨rfl, State.Warmed39.refl s, rfl⟩ trivial
  refine ⟨n, _, h1, h2, h3, hpost _ _ _ _ _ _ ⟨Cond.after_iff.mpr rfl, Cond.after_iff.mpr (eq_i res_at (Term.int_eval (1)) rfl), trivial⟩ ⟨hq.1, hq.2.1, (hq.2.2.sift fun y hy => Or.inr (N y hy)).mono (by decide) (by decide)⟩⟩
theorem main_1_1 : Claimed_1_1 := comes_1 fun _ _ _ _ _ _ h hF => ⟨h.1, hF⟩
theorem main_1_2 : Claimed_1_2 := comes_1 fun _ _ _ _ _ _ h hF => ⟨h.2.1, hF⟩

end Jvm.Pilot.@@N@@
namespace Jvm.Pilot.@@N@@
open Jvm Jvm.ClassFile Sem Op Lib Jvm.Free Jvm.Stand Jvm.Pilot.@@N@@.Jvm.D
/-! MADE BY PROGRAM (witnessworld.py) out of the Statement's table words and the real class files: 9 classes; the members and pool entries that the words name. The judged class is class 1, her method 1. -/
namespace start1
open Jvm.ClassFile
def u (s : String) : CpInfo := .utf8 (stringToUtf16 s)
/-- a pool by its gaps: so many unusable entries, then the entry; so many at the end -/
def gap : Nat → List CpInfo → List CpInfo
  | 0, r => r
  | n + 1, r => .unusable :: gap n r
def poolList (es : List (Nat × CpInfo)) (last : Nat) : List CpInfo := es.foldr (fun e r => gap e.1 (e.2 :: r)) (gap last [])
def pool (es : List (Nat × CpInfo)) (last : Nat) : Array CpInfo := ⟨poolList es last⟩
def fileOf (pool : Array CpInfo) (this : Nat) (attrs : Array Attribute := #[]) (ms : Array MethodInfo := #[]) (fl : Nat := 33) (sup : Nat := 0) (ifs : Array Nat := #[]) (fds : Array FieldInfo := #[]) : ClassFile where
  minorVersion := 0
  majorVersion := 65
  constantPool := pool
  accessFlags := fl
  thisClass := this
  superClass := sup
  interfaces := ifs
  fields := fds
  methods := ms
  attributes := attrs
def plain (name : String) (sup : Option ClassId) : Class where
  name := name
  kind := .ordinary
  loader := none
  accessFlags := 33
  super := sup
  interfaces := #[]
  cf := none
  fields := #[]
  methods := #[]
  instanceTypes := #[]
  staticTypes := #[]
  resolved := #[]
  callSites := []
  init := .initialized
  statics := none
  mirror := none

def pool0 : Array CpInfo := pool [(5, u "<init>"), (0, u "()V"), (1, .class_ 10), (1, u "java/lang/Object")] 113

def k0c0 : Code := { maxStack := 0, maxLocals := 1, code := object_method_1_code, exceptionTable := #[], attributes := #[] }
def k0m0 : Method := { name := "<init>", desc := "()V", sig := { parameters := [], returnType := none }, accessFlags := 1, code := some k0c0 }
/-- java/lang/Object -/
def k0 : Class := { plain "java/lang/Object" none with
  accessFlags := 33
  interfaces := #[]
  cf := some (fileOf pool0 8 #[] #[{ accessFlags := 1, nameIndex := 5, descriptorIndex := 6, attributes := #[] }] 33 0 #[] #[])
  fields := #[]
  methods := #[k0m0]
  instanceTypes := #[]
  staticTypes := #[]
  resolved := Array.replicate 124 none
  statics := none }

def pool1 : Array CpInfo := pool [(2, .class_ 4), (1, u "java/lang/Object"), (0, u "<init>"), (0, u "()V"), (2, .long 9223372036854775807), (1, .integer 2147483647), (0, .methodref 13 14), (0, .class_ 15), (0, .nameAndType 16 17), (0, u "java/lang/Math"), (0, u "max"), (0, u "(JJ)J"), (0, .methodref 13 19), (0, .nameAndType 20 17), (0, u "min"), (0, .class_ 22), (0, u "com/example/headstart/headstart/server/ByteRange"), (0, .methodref 21 24), (0, .nameAndType 5 25), (0, u "(JJJ)V"), (0, .methodref 21 27), (0, .nameAndType 28 29), (0, u "satisfiable"), (0, u "()Z"), (0, .class_ 31), (0, u "com/example/headstart/headstart/server/ByteRangeSatisfiablePinLaw"), (2, u "law"), (0, u "(JJJI)Z")] 3

def k1m0 : Method := { name := "<init>", desc := "()V", sig := { parameters := [], returnType := none }, accessFlags := 1, code := none }
def k1c1 : Code := { maxStack := 8, maxLocals := 17, code := code, exceptionTable := #[], attributes := #[] }
def k1m1 : Method := { name := "law", desc := "(JJJI)Z", sig := { parameters := [.long, .long, .long, .int], returnType := some .boolean }, accessFlags := 9, code := some k1c1 }
/-- com/example/headstart/headstart/server/ByteRangeSatisfiablePinLaw -/
def k1 : Class := { plain "com/example/headstart/headstart/server/ByteRangeSatisfiablePinLaw" (some 0) with
  accessFlags := 49
  interfaces := #[]
  cf := some (fileOf pool1 30 #[] #[{ accessFlags := 1, nameIndex := 5, descriptorIndex := 6, attributes := #[] }, { accessFlags := 9, nameIndex := 34, descriptorIndex := 35, attributes := #[] }] 49 2 #[] #[])
  fields := #[]
  methods := #[k1m0, k1m1]
  instanceTypes := #[]
  staticTypes := #[]
  resolved := Array.replicate 39 none
  statics := none }

def pool2 : Array CpInfo := pool [(1, .methodref 2 3), (0, .class_ 4), (0, .nameAndType 5 6), (0, u "java/lang/Object"), (0, u "<init>"), (0, u "()V"), (0, .class_ 8), (0, u "java/lang/Record")] 13

def k2c0 : Code := { maxStack := 1, maxLocals := 1, code := jdk_30_method_1_code, exceptionTable := #[], attributes := #[] }
def k2m0 : Method := { name := "<init>", desc := "()V", sig := { parameters := [], returnType := none }, accessFlags := 4, code := some k2c0 }
/-- java/lang/Record -/
def k2 : Class := { plain "java/lang/Record" (some 0) with
  accessFlags := 1057
  interfaces := #[]
  cf := some (fileOf pool2 7 #[] #[{ accessFlags := 4, nameIndex := 5, descriptorIndex := 6, attributes := #[] }] 1057 2 #[] #[])
  fields := #[]
  methods := #[k2m0]
  instanceTypes := #[]
  staticTypes := #[]
  resolved := Array.replicate 22 none
  statics := none }

def pool3 : Array CpInfo := pool [(1, .methodref 2 3), (0, .class_ 4), (0, .nameAndType 5 6), (0, u "java/lang/Record"), (0, u "<init>"), (0, u "()V"), (0, .fieldref 8 9), (0, .class_ 10), (0, .nameAndType 11 12), (0, u "com/example/headstart/headstart/server/ByteRange"), (0, u "first"), (0, u "J"), (0, .fieldref 8 14), (0, .nameAndType 15 12), (0, u "length"), (0, .fieldref 8 17), (0, .nameAndType 18 12), (0, u "size"), (57, u "SPEC"), (0, u "Ljava/util/regex/Pattern;"), (24, u "()Z"), (18, u "(JJJ)V"), (10, u "satisfiable")] 92

def k3c0 : Code := { maxStack := 3, maxLocals := 7, code := prog_19_method_1_code, exceptionTable := #[], attributes := #[] }
def k3m0 : Method := { name := "<init>", desc := "(JJJ)V", sig := { parameters := [.long, .long, .long], returnType := none }, accessFlags := 0, code := some k3c0 }
def k3c1 : Code := { maxStack := 4, maxLocals := 1, code := prog_19_method_3_code, exceptionTable := #[], attributes := #[] }
def k3m1 : Method := { name := "satisfiable", desc := "()Z", sig := { parameters := [], returnType := some .boolean }, accessFlags := 0, code := some k3c1 }
/-- com/example/headstart/headstart/server/ByteRange -/
def k3 : Class := { plain "com/example/headstart/headstart/server/ByteRange" (some 2) with
  accessFlags := 48
  interfaces := #[]
  cf := some (fileOf pool3 8 #[] #[{ accessFlags := 0, nameIndex := 5, descriptorIndex := 121, attributes := #[] }, { accessFlags := 0, nameIndex := 132, descriptorIndex := 102, attributes := #[] }] 48 2 #[] #[{ accessFlags := 18, nameIndex := 11, descriptorIndex := 12, attributes := #[] }, { accessFlags := 18, nameIndex := 15, descriptorIndex := 12, attributes := #[] }, { accessFlags := 18, nameIndex := 18, descriptorIndex := 12, attributes := #[] }, { accessFlags := 26, nameIndex := 76, descriptorIndex := 77, attributes := #[] }])
  fields := #[{ name := "first", type := .long, accessFlags := 18, slot := 0, constantValue := 0 }, { name := "length", type := .long, accessFlags := 18, slot := 1, constantValue := 0 }, { name := "size", type := .long, accessFlags := 18, slot := 2, constantValue := 0 }, { name := "SPEC", type := (.object "java/util/regex/Pattern"), accessFlags := 26, slot := 0, constantValue := 0 }]
  methods := #[k3m0, k3m1]
  instanceTypes := #[.long, .long, .long]
  staticTypes := #[(.object "java/util/regex/Pattern")]
  resolved := Array.replicate 225 none
  statics := none }

def pool4 : Array CpInfo := pool [(1, .class_ 2), (0, u "java/lang/Math"), (1, .class_ 6), (1, u "java/lang/Object"), (0, u "<init>"), (0, u "()V"), (89, .class_ 100), (1, u "java/lang/Math$RandomNumberGeneratorHolder"), (20, u "(JJ)J"), (50, u "negativeZeroFloatBits"), (0, u "J"), (2, u "negativeZeroDoubleBits"), (21, u "max"), (2, u "min"), (43, u "$assertionsDisabled"), (0, u "Z"), (91, u "twoToTheDoubleScaleDown"), (0, u "D"), (4, u "twoToTheDoubleScaleUp"), (9, u "E"), (3, u "PI"), (2, u "TAU"), (2, u "DEGREES_TO_RADIANS"), (0, u "RADIANS_TO_DEGREES")] 94

def k4m0 : Method := { name := "<init>", desc := "()V", sig := { parameters := [], returnType := none }, accessFlags := 2, code := none }
def k4c1 : Code := { maxStack := 4, maxLocals := 4, code := jdk_29_method_66_code, exceptionTable := #[], attributes := #[] }
def k4m1 : Method := { name := "max", desc := "(JJ)J", sig := { parameters := [.long, .long], returnType := some .long }, accessFlags := 9, code := some k4c1 }
def k4c2 : Code := { maxStack := 4, maxLocals := 4, code := jdk_29_method_70_code, exceptionTable := #[], attributes := #[] }
def k4m2 : Method := { name := "min", desc := "(JJ)J", sig := { parameters := [.long, .long], returnType := some .long }, accessFlags := 9, code := some k4c2 }
/-- java/lang/Math -/
def k4 : Class := { plain "java/lang/Math" (some 0) with
  accessFlags := 49
  interfaces := #[]
  cf := some (fileOf pool4 1 #[.nestMembers #[98]] #[{ accessFlags := 2, nameIndex := 7, descriptorIndex := 8, attributes := #[] }, { accessFlags := 9, nameIndex := 198, descriptorIndex := 121, attributes := #[] }, { accessFlags := 9, nameIndex := 201, descriptorIndex := 121, attributes := #[] }] 49 4 #[] #[{ accessFlags := 25, nameIndex := 354, descriptorIndex := 339, attributes := #[] }, { accessFlags := 25, nameIndex := 358, descriptorIndex := 339, attributes := #[] }, { accessFlags := 25, nameIndex := 361, descriptorIndex := 339, attributes := #[] }, { accessFlags := 26, nameIndex := 364, descriptorIndex := 339, attributes := #[] }, { accessFlags := 26, nameIndex := 365, descriptorIndex := 339, attributes := #[] }, { accessFlags := 26, nameIndex := 172, descriptorIndex := 173, attributes := #[] }, { accessFlags := 26, nameIndex := 176, descriptorIndex := 173, attributes := #[] }, { accessFlags := 8, nameIndex := 344, descriptorIndex := 339, attributes := #[] }, { accessFlags := 8, nameIndex := 338, descriptorIndex := 339, attributes := #[] }, { accessFlags := 4120, nameIndex := 245, descriptorIndex := 246, attributes := #[] }])
  fields := #[{ name := "E", type := .double, accessFlags := 25, slot := 0, constantValue := 0 }, { name := "PI", type := .double, accessFlags := 25, slot := 1, constantValue := 0 }, { name := "TAU", type := .double, accessFlags := 25, slot := 2, constantValue := 0 }, { name := "DEGREES_TO_RADIANS", type := .double, accessFlags := 26, slot := 3, constantValue := 0 }, { name := "RADIANS_TO_DEGREES", type := .double, accessFlags := 26, slot := 4, constantValue := 0 }, { name := "negativeZeroFloatBits", type := .long, accessFlags := 26, slot := 5, constantValue := 0 }, { name := "negativeZeroDoubleBits", type := .long, accessFlags := 26, slot := 6, constantValue := 0 }, { name := "twoToTheDoubleScaleUp", type := .double, accessFlags := 8, slot := 7, constantValue := 0 }, { name := "twoToTheDoubleScaleDown", type := .double, accessFlags := 8, slot := 8, constantValue := 0 }, { name := "$assertionsDisabled", type := .boolean, accessFlags := 4120, slot := 9, constantValue := 0 }]
  methods := #[k4m0, k4m1, k4m2]
  instanceTypes := #[]
  staticTypes := #[.double, .double, .double, .double, .double, .long, .long, .double, .double, .boolean]
  resolved := Array.replicate 460 none
  statics := none }

def pool5 : Array CpInfo := pool [(1, u "java/lang/Cloneable"), (0, .class_ 1), (0, u "java/lang/Object"), (0, .class_ 3)] 3

/-- java/lang/Cloneable -/
def k5 : Class := { plain "java/lang/Cloneable" (some 0) with
  accessFlags := 1537
  interfaces := #[]
  cf := some (fileOf pool5 2 #[] #[] 1537 4 #[] #[])
  fields := #[]
  methods := #[]
  instanceTypes := #[]
  staticTypes := #[]
  resolved := Array.replicate 8 none
  statics := none }

def pool6 : Array CpInfo := pool [(1, u "java/io/Serializable"), (0, .class_ 1), (0, u "java/lang/Object"), (0, .class_ 3)] 3

/-- java/io/Serializable -/
def k6 : Class := { plain "java/io/Serializable" (some 0) with
  accessFlags := 1537
  interfaces := #[]
  cf := some (fileOf pool6 2 #[] #[] 1537 4 #[] #[])
  fields := #[]
  methods := #[]
  instanceTypes := #[]
  staticTypes := #[]
  resolved := Array.replicate 8 none
  statics := none }

/-- the primitive byte -/
def k7 : Class := { plain "byte" none with kind := .primitive 'B', accessFlags := 0x411 }
/-- [B -/
def k8 : Class := { plain "[B" (some 0) with kind := .array 7 .byte, interfaces := #[5, 6], accessFlags := 1041 }

def heap : Heap := #[]
def classes : Array Class := #[k0, k1, k2, k3, k4, k5, k6, k7, k8]
def interned : List (Array UInt16 × Addr) := []
def slotsUsed : Nat := 0
def theMethod : MethodId := ⟨1, 1⟩
def args0 : Array Value := #[.long 9, .long 8, .long 3, .int 1]
def aboutOver (below : List Frame) : State where
  vm := { classes := classes, interned := interned.toArray }
  heap := heap
  slotsUsed := slotsUsed
  threads := #[{ frames := .invoking theMethod args0 :: below }]
def below0 : List Frame := [.native { method := ⟨0, 0⟩, args := #[] }]
def about1 : State := aboutOver below0
def p0 : Program := .bare "" "" ""
def e0 : Env := launch0.env 0 0 0
theorem w_frames : about1.frames = Frame.invoking theMethod args0 :: below0 := rfl
set_option maxRecDepth 65536 in
theorem w_args : argsFit about1.vm theMethod args0 = true := by decide +kernel
set_option maxRecDepth 65536 in
theorem w_heap : heapFits about1 = true := by decide +kernel
set_option maxRecDepth 65536 in
theorem w_runnable : about1.curStatus? = some .runnable := by decide +kernel
set_option maxRecDepth 65536 in
theorem w_alone : about1.alone = true := by decide +kernel
set_option maxRecDepth 65536 in
theorem w_named : about1.methodNamed? x = some theMethod := by decide +kernel
set_option maxRecDepth 65536 in
theorem w_hears : about1.hears theMethod below0 = true := by decide +kernel
set_option maxRecDepth 65536 in
theorem w_ripe : about1.ripe theMethod args0 below0 = true := by decide +kernel
theorem w_running : about1.status = .running := rfl
set_option maxRecDepth 65536 in
theorem w_room : about1.hasRoom e0.platform room_1 = true :=
  launch0.hasRoom_least _ room_1 (by decide +kernel) (by decide +kernel) (by decide +kernel) (by decide +kernel) (by decide +kernel) (by decide +kernel)
theorem allAtoms_all (ts : List Jvm.Cond) (a : Array Jvm.Value) (st : Jvm.State) : (allAtoms ts).before a st = ts.all (fun c => c.before a st) := by
  induction ts with
  | nil => rfl
  | cons c t ih =>
    show (Jvm.Cond.and c (allAtoms t)).before a st = _
    rw [Jvm.Cond.before_and, ih, List.all_cons]
def words1 : List Jvm.Cond := Jvm.Cond.code x code maxLocals ret :: tables_1
/-- a 'code' word, met by the world's own term for the bytes: nothing is compared byte by byte -/
theorem code_word {y : MethodName} {bytes : ByteArray} {mx : Nat} {rt : Option FieldType} {a : Array Value} {s : State} {m : MethodId} {meth : Method} {c : Code} (h1 : s.methodNamed? y = some m) (h2 : s.vm.method? m = some meth) (h3 : meth.code = some c) (h4 : c.code = bytes)
    (h5 : (c.maxLocals == mx && c.exceptionTable.isEmpty && decide (c.maxStack ≤ mostOperands) && decide (meth.sig.returnType = rt) && !meth.locks && decide (parseMethodDescriptor y.desc = some meth.sig)) = true) : (Jvm.Cond.code y bytes mx rt).before a s = true := by
  simp only [Bool.and_eq_true, beq_iff_eq, Bool.not_eq_true', decide_eq_true_eq] at h5
  obtain ⟨⟨⟨⟨⟨g1, g2⟩, g3⟩, g4⟩, g5⟩, g6⟩ := h5
  simp [Cond.before, Cond.holds, Cond.value, h1, h2, h3, h4, g1, g2, g3, g4, g5, g6]
def isCode : Jvm.Cond → Bool
  | .code _ _ _ _ => true
  | _ => false
theorem all_split {L : List Jvm.Cond} {P : Jvm.Cond → Bool} (h1 : L.all (fun c => isCode c || P c) = true) (h2 : ∀ c ∈ L.filter isCode, P c = true) : L.all P = true := by
  refine List.all_eq_true.mpr fun c hc => ?_
  have h := List.all_eq_true.mp h1 c hc
  rcases Bool.eq_false_or_eq_true (isCode c) with hi | hi
  · exact h2 c (List.mem_filter.mpr ⟨hc, hi⟩)
  · simpa [hi] using h
set_option maxRecDepth 65536 in
theorem w_c0 : (Jvm.Cond.code x code maxLocals ret).before args0 about1 = true := code_word (m := ⟨1, 1⟩) (meth := k1m1) (c := k1c1) (by decide +kernel) rfl rfl rfl (by decide +kernel)
set_option maxRecDepth 65536 in
theorem w_c1 : (Jvm.Cond.code ({ cls := "com/example/headstart/headstart/server/ByteRange", name := "<init>", desc := "(JJJ)V" } : Jvm.MethodName) prog_19_method_1_code (7 : Nat) (Option.none : Option Jvm.ClassFile.FieldType)).before args0 about1 = true := code_word (m := ⟨3, 0⟩) (meth := k3m0) (c := k3c0) (by decide +kernel) rfl rfl rfl (by decide +kernel)
set_option maxRecDepth 65536 in
theorem w_c2 : (Jvm.Cond.code ({ cls := "java/lang/Record", name := "<init>", desc := "()V" } : Jvm.MethodName) jdk_30_method_1_code (1 : Nat) (Option.none : Option Jvm.ClassFile.FieldType)).before args0 about1 = true := code_word (m := ⟨2, 0⟩) (meth := k2m0) (c := k2c0) (by decide +kernel) rfl rfl rfl (by decide +kernel)
set_option maxRecDepth 65536 in
theorem w_c3 : (Jvm.Cond.code ({ cls := "java/lang/Object", name := "<init>", desc := "()V" } : Jvm.MethodName) object_method_1_code (1 : Nat) (Option.none : Option Jvm.ClassFile.FieldType)).before args0 about1 = true := code_word (m := ⟨0, 0⟩) (meth := k0m0) (c := k0c0) (by decide +kernel) rfl rfl rfl (by decide +kernel)
set_option maxRecDepth 65536 in
theorem w_c4 : (Jvm.Cond.code ({ cls := "com/example/headstart/headstart/server/ByteRange", name := "satisfiable", desc := "()Z" } : Jvm.MethodName) prog_19_method_3_code (1 : Nat) (Option.some Jvm.ClassFile.FieldType.boolean)).before args0 about1 = true := code_word (m := ⟨3, 1⟩) (meth := k3m1) (c := k3c1) (by decide +kernel) rfl rfl rfl (by decide +kernel)
set_option maxRecDepth 65536 in
theorem w_c5 : (Jvm.Cond.code ({ cls := "java/lang/Math", name := "max", desc := "(JJ)J" } : Jvm.MethodName) jdk_29_method_66_code (4 : Nat) (Option.some Jvm.ClassFile.FieldType.long)).before args0 about1 = true := code_word (m := ⟨4, 1⟩) (meth := k4m1) (c := k4c1) (by decide +kernel) rfl rfl rfl (by decide +kernel)
set_option maxRecDepth 65536 in
theorem w_c6 : (Jvm.Cond.code ({ cls := "java/lang/Math", name := "min", desc := "(JJ)J" } : Jvm.MethodName) jdk_29_method_70_code (4 : Nat) (Option.some Jvm.ClassFile.FieldType.long)).before args0 about1 = true := code_word (m := ⟨4, 2⟩) (meth := k4m2) (c := k4c2) (by decide +kernel) rfl rfl rfl (by decide +kernel)
def codes1 : List Jvm.Cond := [Jvm.Cond.code x code maxLocals ret, Jvm.Cond.code ({ cls := "com/example/headstart/headstart/server/ByteRange", name := "<init>", desc := "(JJJ)V" } : Jvm.MethodName) prog_19_method_1_code (7 : Nat) (Option.none : Option Jvm.ClassFile.FieldType), Jvm.Cond.code ({ cls := "java/lang/Record", name := "<init>", desc := "()V" } : Jvm.MethodName) jdk_30_method_1_code (1 : Nat) (Option.none : Option Jvm.ClassFile.FieldType), Jvm.Cond.code ({ cls := "java/lang/Object", name := "<init>", desc := "()V" } : Jvm.MethodName) object_method_1_code (1 : Nat) (Option.none : Option Jvm.ClassFile.FieldType), Jvm.Cond.code ({ cls := "com/example/headstart/headstart/server/ByteRange", name := "satisfiable", desc := "()Z" } : Jvm.MethodName) prog_19_method_3_code (1 : Nat) (Option.some Jvm.ClassFile.FieldType.boolean), Jvm.Cond.code ({ cls := "java/lang/Math", name := "max", desc := "(JJ)J" } : Jvm.MethodName) jdk_29_method_66_code (4 : Nat) (Option.some Jvm.ClassFile.FieldType.long), Jvm.Cond.code ({ cls := "java/lang/Math", name := "min", desc := "(JJ)J" } : Jvm.MethodName) jdk_29_method_70_code (4 : Nat) (Option.some Jvm.ClassFile.FieldType.long)]
set_option maxRecDepth 65536 in
theorem codes_eq : words1.filter isCode = codes1 := rfl
theorem w_codes : ∀ c ∈ words1.filter isCode, c.before args0 about1 = true := by
  rw [codes_eq]
  intro c hc
  simp only [codes1, List.mem_cons, List.not_mem_nil, or_false] at hc
  rcases hc with rfl | rfl | rfl | rfl | rfl | rfl | rfl
  · exact w_c0
  · exact w_c1
  · exact w_c2
  · exact w_c3
  · exact w_c4
  · exact w_c5
  · exact w_c6
set_option maxRecDepth 65536 in
theorem w_t1 : (words1.take 24).all (fun c => isCode c || c.before args0 about1) = true := by decide +kernel
set_option maxRecDepth 65536 in
theorem w_t2 : (words1.drop 24).all (fun c => isCode c || c.before args0 about1) = true := by decide +kernel
theorem w_tables : (allAtoms (Jvm.Cond.code x code maxLocals ret :: tables_1)).before args0 about1 = true := by
  rw [allAtoms_all]
  show words1.all (fun c => c.before args0 about1) = true
  refine all_split ?_ w_codes
  rw [← List.take_append_drop 24 words1, List.all_append, w_t1, w_t2]
  rfl
set_option maxRecDepth 65536 in
theorem w_case : (Jvm.Cond.and given_1 narrow_1).before args0 about1 = true := by decide +kernel
theorem w_applies : (headSpec (Jvm.Cond.code x code maxLocals ret :: tables_1) room_1).applies x e0.platform about1 = true :=
  (Spec.applies_iff w_frames).mpr ⟨w_running, w_runnable, w_alone, w_named, w_hears, w_ripe, w_room, w_tables⟩
theorem atStart : AtStart classFile x code maxLocals ret World_1 tables_1 room_1 Calls_1 rest_1 Pre_1 launch0 p0 e0 about1 theMethod args0 below0 :=
  ⟨lists_1, trivial, launch0.admits_env _ _ _, launch0.least_env, fairChoices_fair.cas, fairChoices_fair.clock, w_frames, w_args, w_heap, w_applies, trivial, trivial, w_case⟩
end start1
theorem witness_1 : WitnessClaimed_1 := ⟨start1.p0, start1.e0, start1.about1, start1.theMethod, start1.args0, start1.below0, start1.atStart⟩
end Jvm.Pilot.@@N@@
