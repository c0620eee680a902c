import JvmDerived
import JvmDerived.Pilot.@@N@@Statement
import JvmDerived.Pilot.@@N@@Code
set_option linter.unusedVariables false
set_option linter.unusedSimpArgs false
namespace Jvm.RoadKit
open Sem ClassFile Op Lib Jvm.Stand Jvm.Free Jvm.LawKit
section New
variable {p : Program} {l : Launch} {e : Env} {R : Room} {s : State} {m : MethodId} {args : Array Value} {below : List Frame} {meth : Method} {c : Code} {T : State} {locs : List Loc} {cells slots : Nat}
theorem retI (X : Stand p l e R s m args below meth c T locs cells slots) (hx : p.tables.exec = Jvm.exec) {pc : Nat} {Ls : Array Slot} {z : Int32} {rest : List Value} (hret : meth.sig.returnType = some .int) (hd : decode c.code pc = .ok (.ireturn, 1)) {fs : List Frame}
    (hl : ∀ (f : JFrame) (acts : List Action), f.method = m → f.locked = none → f.entered = [] → (doReturn e (T.setTop f) acts (some (.int z))).1 = T.setFrames fs) : Steps p.tables e below (T.setTop (mkF m pc Ls (.int z :: rest))) (T.setFrames fs) := by
  have hm' : T.vm.method? m = some meth := X.method'
  have hn : narrow .int (.int z) = .int z := rfl
  show Steps p.tables e below (T.setTop { method := m, pc := pc, locals := Ls, stack := _ :: rest, locked := none }) _
  jvm_step X.here [X.here.top, hx, hd, hm', hret, hn]
  first | (intro acts; rw [hl _ acts rfl rfl rfl]) | rw [hl _ _ rfl rfl rfl]
  exact Steps.refl _
end New
end Jvm.RoadKit
namespace Jvm.Pilot.@@N@@
open Jvm Jvm.ClassFile Sem Op Lib Jvm.Free Jvm.Stand Jvm.LawKit Jvm.RoadKit Bundle Jvm.Pilot.@@N@@.Jvm.D
section OwnGo
variable {p : Program} {l : Launch} {e : Env} {R : Room} {s : State} {m : MethodId} {args : Array Value} {below : List Frame} {meth : Method} {c : Code} {T T' : State} {locs : List Loc} {cells slots : Nat} {C S : Nat} {Q : Option Value → Heap → List Loc → Prop} {h : Heap}
/-- from here the run comes to a return of which Q holds -/
def Go (p : Program) (e : Env) (below : List Frame) (s : State) (Q : Option Value → Heap → List Loc → Prop) (C S : Nat) (S0 : State) : Prop :=
  ∃ s₂ o, Steps p.tables e below S0 s₂ ∧ s₂.status = .running ∧ Ended s₂ below o ∧ ∃ v L, o = .returned v ∧ Q v s₂.heap L ∧ FrameEnd s o s₂ L C S
theorem own_go {S0 : State} (k : Go p e below s Q C S S0) : ∃ s₂ o, Steps p.tables e below S0 s₂ ∧ s₂.status = .running ∧ Ended s₂ below o ∧ ∃ v L, o = .returned v ∧ Q v s₂.heap L ∧ FrameEnd s o s₂ L C S := k
theorem Go.to {g g' : JFrame} (st : ∀ t, Steps p.tables e below (T'.setTop g') t → Steps p.tables e below (T.setTop g) t) (k : Go p e below s Q C S (T'.setTop g')) : Go p e below s Q C S (T.setTop g) := by
  obtain ⟨s₂, o, h1, r⟩ := k
  exact ⟨s₂, o, st _ h1, r⟩
theorem Go.retI (X : Stand p l e R s m args below meth c T locs cells slots) (hx : p.tables.exec = Jvm.exec) {pc : Nat} {Ls : Array Slot} {z : Int32} {rest : List Value} (hret : meth.sig.returnType = some .int) (hlk : meth.locks = false) (hd : decode c.code pc = .ok (.ireturn, 1)) (hC : cells ≤ C) (hS : slots ≤ S) (eT : T.heap = h) (hQ : Q (some (.int z)) h locs) :
    Go p e below s Q C S (T.setTop (mkF m pc Ls (.int z :: rest))) := by
  obtain ⟨fs, hr, hrun, hended, hW, hsame⟩ := X.leave (v := some (.int z)) (fun h => by rw [hret] at h; cases h) hlk
  exact ⟨_, _, Jvm.RoadKit.retI X hx hret hd hr, hrun, hended, _, _, rfl, (show Q (some (.int z)) T.heap locs from eT ▸ hQ), ⟨_, rfl⟩, hW, hsame.mono hC hS⟩
theorem Go.retN (X : Stand p l e R s m args below meth c T locs cells slots) (hx : p.tables.exec = Jvm.exec) {pc : Nat} {Ls : Array Slot} {z : Int32} {t : FieldType} {rest : List Value} (hret : meth.sig.returnType = some t) (hlk : meth.locks = false) (ht : t = .boolean ∨ t = .byte ∨ t = .char ∨ t = .short) (hd : decode c.code pc = .ok (.ireturn, 1)) (hC : cells ≤ C) (hS : slots ≤ S) (eT : T.heap = h) (hQ : Q (some (.int (nar t z))) h locs) :
    Go p e below s Q C S (T.setTop (mkF m pc Ls (.int z :: rest))) := by
  obtain ⟨fs, hr, hrun, hended, hW, hsame⟩ := X.leave (v := some (.int (nar t z))) (fun h => by rw [hret] at h; cases h) hlk
  exact ⟨_, _, Jvm.RoadKit.retN X hx hret ht hd hr, hrun, hended, _, _, rfl, (show Q (some (.int (nar t z))) T.heap locs from eT ▸ hQ), ⟨_, rfl⟩, hW, hsame.mono hC hS⟩
theorem Go.ret (X : Stand p l e R s m args below meth c T locs cells slots) (hx : p.tables.exec = Jvm.exec) {pc : Nat} {Ls : Array Slot} (hret : meth.sig.returnType = none) (hlk : meth.locks = false) (hd : decode c.code pc = .ok (.return_, 1)) (hC : cells ≤ C) (hS : slots ≤ S) (eT : T.heap = h) (hQ : Q none h locs) :
    Go p e below s Q C S (T.setTop (mkF m pc Ls [])) := by
  obtain ⟨fs, hr, hrun, hended, hW, hsame⟩ := X.leave (v := none) (fun _ => rfl) hlk
  exact ⟨_, _, X.returnOut hx hret hd hr, hrun, hended, _, _, rfl, (show Q none T.heap locs from eT ▸ hQ), ⟨_, rfl⟩, hW, hsame.mono hC hS⟩
theorem Go.retJ (X : Stand p l e R s m args below meth c T locs cells slots) (hx : p.tables.exec = Jvm.exec) {pc : Nat} {Ls : Array Slot} {z : Int64} {rest : List Value} (hret : meth.sig.returnType = some .long) (hlk : meth.locks = false) (hd : decode c.code pc = .ok (.lreturn, 1)) (hC : cells ≤ C) (hS : slots ≤ S) (eT : T.heap = h) (hQ : Q (some (.long z)) h locs) :
    Go p e below s Q C S (T.setTop (mkF m pc Ls (.long z :: rest))) := by
  obtain ⟨fs, hr, hrun, hended, hW, hsame⟩ := X.leave (v := some (.long z)) (fun h => by rw [hret] at h; cases h) hlk
  exact ⟨_, _, retOut X hx hret rfl (Or.inr (Or.inl ⟨rfl, rfl, _, rfl⟩)) hd hr, hrun, hended, _, _, rfl, (show Q (some (.long z)) T.heap locs from eT ▸ hQ), ⟨_, rfl⟩, hW, hsame.mono hC hS⟩
theorem Go.retA (X : Stand p l e R s m args below meth c T locs cells slots) (hx : p.tables.exec = Jvm.exec) {pc : Nat} {Ls : Array Slot} {z : Addr} {t : FieldType} {rest : List Value} (hret : meth.sig.returnType = some t) (hlk : meth.locks = false) (ht : t.isReference = true) (hd : decode c.code pc = .ok (.areturn, 1)) (hC : cells ≤ C) (hS : slots ≤ S) (eT : T.heap = h) (hQ : Q (some (.ref z)) h locs) :
    Go p e below s Q C S (T.setTop (mkF m pc Ls (.ref z :: rest))) := by
  obtain ⟨fs, hr, hrun, hended, hW, hsame⟩ := X.leave (v := some (.ref z)) (fun h => by rw [hret] at h; cases h) hlk
  exact ⟨_, _, retOut X hx hret (by cases t <;> first | rfl | cases ht) (Or.inr (Or.inr (Or.inr (Or.inr ⟨rfl, ht, rfl⟩)))) hd hr, hrun, hended, _, _, rfl, (show Q (some (.ref z)) T.heap locs from eT ▸ hQ), ⟨_, rfl⟩, hW, hsame.mono hC hS⟩
end OwnGo
theorem own_irr (x : Int32) : ¬ x < x := by rw [Int32.lt_iff_toInt_lt]; omega
theorem own_irrL (x : Int64) : ¬ x < x := by rw [Int64.lt_iff_toInt_lt]; omega
theorem own_lrem {p : Program} {l : Launch} {e : Env} {R : Room} {s : State} {m : MethodId} {args : Array Value} {below : List Frame} {meth : Method} {c : Code} {T target : State} {locs : List Loc} {cells slots : Nat} {g : JFrame} (X : Stand p l e R s m args below meth c T locs cells slots) (hx : p.tables.exec = Jvm.exec) (hg : g.method = m) {x y : Int64} {rest : List Value} (hd : decode c.code g.pc = .ok (.lrem, 1)) (hs : g.stack = .long y :: .long x :: rest) (hy : y ≠ 0)
    (hr : Steps p.tables e below (T.setTop { g with pc := g.pc + 1, stack := .long (x % y) :: rest }) target) : Steps p.tables e below (T.setTop g) target :=
  XS.lrem X.here hx hg hd hs hy (by rw [lrem_mod]; exact hr)
theorem own_int {c : Cell} {vs : List Value} {d : Value} {j z : Int32} (H : Has c vs d) (G : ∀ i, i < c.slots.size → fits .int (vs.getD i d) = true) (hin : ¬ (j < 0 ∨ c.slots.size ≤ j.toNatClampNeg)) : ∃ x : Int32, c.slots[j.toNatClampNeg]? = some (.int x) := by
  have hk : j.toNatClampNeg < c.slots.size := Nat.lt_of_not_le fun q => hin (Or.inr q)
  have h1 := H _ hk
  have h2 := G _ hk
  cases hv : vs.getD j.toNatClampNeg d with
  | int x => exact ⟨x, by rw [h1, hv]⟩
  | _ => rw [hv] at h2; simp [fits] at h2
theorem d1_0 : decode prog_6_method_1_code 0 = .ok (.aload_n 0, 1) := by decide +kernel
theorem d1_1 : decode prog_6_method_1_code 1 = .ok (.invokespecial 1, 3) := by decide +kernel
theorem d1_4 : decode prog_6_method_1_code 4 = .ok (.aload_n 0, 1) := by decide +kernel
theorem d1_5 : decode prog_6_method_1_code 5 = .ok (.iconst 0, 1) := by decide +kernel
theorem d1_6 : decode prog_6_method_1_code 6 = .ok (.newarray .int, 2) := by decide +kernel
theorem d1_8 : decode prog_6_method_1_code 8 = .ok (.putfield 7, 3) := by decide +kernel
theorem d1_11 : decode prog_6_method_1_code 11 = .ok (.aload_n 0, 1) := by decide +kernel
theorem d1_12 : decode prog_6_method_1_code 12 = .ok (.iconst 0, 1) := by decide +kernel
theorem d1_13 : decode prog_6_method_1_code 13 = .ok (.newarray .int, 2) := by decide +kernel
theorem d1_15 : decode prog_6_method_1_code 15 = .ok (.putfield 13, 3) := by decide +kernel
theorem d1_18 : decode prog_6_method_1_code 18 = .ok (.aload_n 0, 1) := by decide +kernel
theorem d1_19 : decode prog_6_method_1_code 19 = .ok (.iload_n 1, 1) := by decide +kernel
theorem d1_20 : decode prog_6_method_1_code 20 = .ok (.putfield 16, 3) := by decide +kernel
theorem d1_23 : decode prog_6_method_1_code 23 = .ok (.aload_n 0, 1) := by decide +kernel
theorem d1_24 : decode prog_6_method_1_code 24 = .ok (.getfield 16, 3) := by decide +kernel
theorem d1_27 : decode prog_6_method_1_code 27 = .ok (.ifCond .eq 21, 3) := by decide +kernel
theorem d1_30 : decode prog_6_method_1_code 30 = .ok (.aload_n 0, 1) := by decide +kernel
theorem d1_31 : decode prog_6_method_1_code 31 = .ok (.sipush 1024, 3) := by decide +kernel
theorem d1_34 : decode prog_6_method_1_code 34 = .ok (.newarray .int, 2) := by decide +kernel
theorem d1_36 : decode prog_6_method_1_code 36 = .ok (.putfield 7, 3) := by decide +kernel
theorem d1_39 : decode prog_6_method_1_code 39 = .ok (.aload_n 0, 1) := by decide +kernel
theorem d1_40 : decode prog_6_method_1_code 40 = .ok (.sipush 1024, 3) := by decide +kernel
theorem d1_43 : decode prog_6_method_1_code 43 = .ok (.newarray .int, 2) := by decide +kernel
theorem d1_45 : decode prog_6_method_1_code 45 = .ok (.putfield 13, 3) := by decide +kernel
theorem d1_48 : decode prog_6_method_1_code 48 = .ok (.return_, 1) := by decide +kernel
theorem pn_com_example_skuld_skuld_analysis_Distances : plainName "com/example/skuld/skuld/analysis/Distances" = true := by first | (simp [plainName, overriddenIn]; done) | decide +kernel
theorem d6_0 : decode jdk_29_method_65_code 0 = .ok (.iload_n 0, 1) := by decide +kernel
theorem d6_1 : decode jdk_29_method_65_code 1 = .ok (.iload_n 1, 1) := by decide +kernel
theorem d6_2 : decode jdk_29_method_65_code 2 = .ok (.if_icmp .lt 7, 3) := by decide +kernel
theorem d6_9 : decode jdk_29_method_65_code 9 = .ok (.iload_n 1, 1) := by decide +kernel
theorem d6_10 : decode jdk_29_method_65_code 10 = .ok (.ireturn, 1) := by decide +kernel
theorem d6_5 : decode jdk_29_method_65_code 5 = .ok (.iload_n 0, 1) := by decide +kernel
theorem d6_6 : decode jdk_29_method_65_code 6 = .ok (.goto 4, 3) := by decide +kernel
theorem d8_0 : decode jdk_29_method_69_code 0 = .ok (.iload_n 0, 1) := by decide +kernel
theorem d8_1 : decode jdk_29_method_69_code 1 = .ok (.iload_n 1, 1) := by decide +kernel
theorem d8_2 : decode jdk_29_method_69_code 2 = .ok (.if_icmp .gt 7, 3) := by decide +kernel
theorem d8_9 : decode jdk_29_method_69_code 9 = .ok (.iload_n 1, 1) := by decide +kernel
theorem d8_10 : decode jdk_29_method_69_code 10 = .ok (.ireturn, 1) := by decide +kernel
theorem d8_5 : decode jdk_29_method_69_code 5 = .ok (.iload_n 0, 1) := by decide +kernel
theorem d8_6 : decode jdk_29_method_69_code 6 = .ok (.goto 4, 3) := by decide +kernel
theorem d7_0 : decode jdk_65_method_123_code 0 = .ok (.iload_n 1, 1) := by decide +kernel
theorem d7_1 : decode jdk_65_method_123_code 1 = .ok (.aload_n 0, 1) := by decide +kernel
theorem d7_2 : decode jdk_65_method_123_code 2 = .ok (.arraylength, 1) := by decide +kernel
theorem d7_3 : decode jdk_65_method_123_code 3 = .ok (.if_icmp .ne 11, 3) := by decide +kernel
theorem d7_14 : decode jdk_65_method_123_code 14 = .ok (.iload_n 1, 1) := by decide +kernel
theorem d7_15 : decode jdk_65_method_123_code 15 = .ok (.newarray .int, 2) := by decide +kernel
theorem d7_17 : decode jdk_65_method_123_code 17 = .ok (.astore_n 2, 1) := by decide +kernel
theorem d7_18 : decode jdk_65_method_123_code 18 = .ok (.aload_n 0, 1) := by decide +kernel
theorem d7_19 : decode jdk_65_method_123_code 19 = .ok (.iconst 0, 1) := by decide +kernel
theorem d7_20 : decode jdk_65_method_123_code 20 = .ok (.aload_n 2, 1) := by decide +kernel
theorem d7_21 : decode jdk_65_method_123_code 21 = .ok (.iconst 0, 1) := by decide +kernel
theorem d7_22 : decode jdk_65_method_123_code 22 = .ok (.aload_n 0, 1) := by decide +kernel
theorem d7_23 : decode jdk_65_method_123_code 23 = .ok (.arraylength, 1) := by decide +kernel
theorem d7_24 : decode jdk_65_method_123_code 24 = .ok (.iload_n 1, 1) := by decide +kernel
theorem d7_25 : decode jdk_65_method_123_code 25 = .ok (.invokestatic 304, 3) := by decide +kernel
theorem pd_28II29I : parseMethodDescriptor "(II)I" = some ⟨[.int, .int], some .int⟩ := by decide +kernel
theorem d7_28 : decode jdk_65_method_123_code 28 = .ok (.invokestatic 150, 3) := by decide +kernel
theorem d7_31 : decode jdk_65_method_123_code 31 = .ok (.aload_n 2, 1) := by decide +kernel
theorem d7_32 : decode jdk_65_method_123_code 32 = .ok (.areturn, 1) := by decide +kernel
theorem pn_java_util_Arrays : plainName "java/util/Arrays" = true := by first | (simp [plainName, overriddenIn]; done) | decide +kernel
theorem d4_0 : decode method_2_code 0 = .ok (.iload_n 0, 1) := by decide +kernel
theorem d4_1 : decode method_2_code 1 = .ok (.ifCond .ne 5, 3) := by decide +kernel
theorem d4_4 : decode method_2_code 4 = .ok (.iconst 1, 1) := by decide +kernel
theorem d4_5 : decode method_2_code 5 = .ok (.ireturn, 1) := by decide +kernel
theorem d4_6 : decode method_2_code 6 = .ok (.iconst 0, 1) := by decide +kernel
theorem d4_7 : decode method_2_code 7 = .ok (.istore 8, 2) := by decide +kernel
theorem d4_9 : decode method_2_code 9 = .ok (.iconst 0, 1) := by decide +kernel
theorem d4_10 : decode method_2_code 10 = .ok (.istore 9, 2) := by decide +kernel
theorem d4_12 : decode method_2_code 12 = .ok (.iload_n 1, 1) := by decide +kernel
theorem d4_13 : decode method_2_code 13 = .ok (.ifCond .eq 16, 3) := by decide +kernel
theorem d4_29 : decode method_2_code 29 = .ok (.iload 6, 2) := by decide +kernel
theorem d4_31 : decode method_2_code 31 = .ok (.iload 8, 2) := by decide +kernel
theorem d4_33 : decode method_2_code 33 = .ok (.if_icmp .ne 14, 3) := by decide +kernel
theorem d4_36 : decode method_2_code 36 = .ok (.iload 7, 2) := by decide +kernel
theorem d4_38 : decode method_2_code 38 = .ok (.iload 9, 2) := by decide +kernel
theorem d4_40 : decode method_2_code 40 = .ok (.if_icmp .ne 7, 3) := by decide +kernel
theorem d4_43 : decode method_2_code 43 = .ok (.iconst 1, 1) := by decide +kernel
theorem d4_44 : decode method_2_code 44 = .ok (.goto 4, 3) := by decide +kernel
theorem d4_48 : decode method_2_code 48 = .ok (.ireturn, 1) := by decide +kernel
theorem d4_47 : decode method_2_code 47 = .ok (.iconst 0, 1) := by decide +kernel
theorem d4_16 : decode method_2_code 16 = .ok (.iload_n 3, 1) := by decide +kernel
theorem d4_17 : decode method_2_code 17 = .ok (.iload_n 2, 1) := by decide +kernel
theorem d4_18 : decode method_2_code 18 = .ok (.if_icmp .ne 11, 3) := by decide +kernel
theorem d4_21 : decode method_2_code 21 = .ok (.iload 4, 2) := by decide +kernel
theorem d4_23 : decode method_2_code 23 = .ok (.istore 8, 2) := by decide +kernel
theorem d4_25 : decode method_2_code 25 = .ok (.iload 5, 2) := by decide +kernel
theorem d4_27 : decode method_2_code 27 = .ok (.istore 9, 2) := by decide +kernel
theorem pn_com_example_skuld_skuld_analysis_DistancesCurrentPinLaw : plainName "com/example/skuld/skuld/analysis/DistancesCurrentPinLaw" = true := by first | (simp [plainName, overriddenIn]; done) | decide +kernel
theorem d3_0 : decode prog_6_method_3_code 0 = .ok (.aload_n 0, 1) := by decide +kernel
theorem d3_1 : decode prog_6_method_3_code 1 = .ok (.getfield 16, 3) := by decide +kernel
theorem d3_4 : decode prog_6_method_3_code 4 = .ok (.ifCond .eq 23, 3) := by decide +kernel
theorem d3_7 : decode prog_6_method_3_code 7 = .ok (.aload_n 0, 1) := by decide +kernel
theorem d3_8 : decode prog_6_method_3_code 8 = .ok (.getfield 7, 3) := by decide +kernel
theorem d3_11 : decode prog_6_method_3_code 11 = .ok (.iload_n 1, 1) := by decide +kernel
theorem d3_12 : decode prog_6_method_3_code 12 = .ok (.iaload, 1) := by decide +kernel
theorem d3_13 : decode prog_6_method_3_code 13 = .ok (.iload_n 2, 1) := by decide +kernel
theorem d3_14 : decode prog_6_method_3_code 14 = .ok (.if_icmp .ne 17, 3) := by decide +kernel
theorem d3_17 : decode prog_6_method_3_code 17 = .ok (.aload_n 0, 1) := by decide +kernel
theorem d3_18 : decode prog_6_method_3_code 18 = .ok (.getfield 13, 3) := by decide +kernel
theorem d3_21 : decode prog_6_method_3_code 21 = .ok (.iload_n 1, 1) := by decide +kernel
theorem d3_22 : decode prog_6_method_3_code 22 = .ok (.iaload, 1) := by decide +kernel
theorem d3_23 : decode prog_6_method_3_code 23 = .ok (.iload_n 3, 1) := by decide +kernel
theorem d3_24 : decode prog_6_method_3_code 24 = .ok (.if_icmp .ne 7, 3) := by decide +kernel
theorem d3_27 : decode prog_6_method_3_code 27 = .ok (.iconst 1, 1) := by decide +kernel
theorem d3_28 : decode prog_6_method_3_code 28 = .ok (.goto 4, 3) := by decide +kernel
theorem d3_32 : decode prog_6_method_3_code 32 = .ok (.ireturn, 1) := by decide +kernel
theorem d3_31 : decode prog_6_method_3_code 31 = .ok (.iconst 0, 1) := by decide +kernel
theorem d5_0 : decode prog_6_method_2_code 0 = .ok (.iload_n 2, 1) := by decide +kernel
theorem d5_1 : decode prog_6_method_2_code 1 = .ok (.ifCond .ne 41, 3) := by decide +kernel
theorem d5_42 : decode prog_6_method_2_code 42 = .ok (.iconst 1, 1) := by decide +kernel
theorem d5_43 : decode prog_6_method_2_code 43 = .ok (.goto 4, 3) := by decide +kernel
theorem d5_47 : decode prog_6_method_2_code 47 = .ok (.istore 5, 2) := by decide +kernel
theorem d5_49 : decode prog_6_method_2_code 49 = .ok (.aload_n 0, 1) := by decide +kernel
theorem d5_50 : decode prog_6_method_2_code 50 = .ok (.getfield 16, 3) := by decide +kernel
theorem d5_53 : decode prog_6_method_2_code 53 = .ok (.ifCond .eq 72, 3) := by decide +kernel
theorem d5_125 : decode prog_6_method_2_code 125 = .ok (.iload 5, 2) := by decide +kernel
theorem d5_127 : decode prog_6_method_2_code 127 = .ok (.ireturn, 1) := by decide +kernel
theorem d5_56 : decode prog_6_method_2_code 56 = .ok (.iload 5, 2) := by decide +kernel
theorem d5_58 : decode prog_6_method_2_code 58 = .ok (.ifCond .eq 67, 3) := by decide +kernel
theorem d5_61 : decode prog_6_method_2_code 61 = .ok (.iload_n 1, 1) := by decide +kernel
theorem d5_62 : decode prog_6_method_2_code 62 = .ok (.aload_n 0, 1) := by decide +kernel
theorem d5_63 : decode prog_6_method_2_code 63 = .ok (.getfield 7, 3) := by decide +kernel
theorem d5_66 : decode prog_6_method_2_code 66 = .ok (.arraylength, 1) := by decide +kernel
theorem d5_67 : decode prog_6_method_2_code 67 = .ok (.if_icmp .lt 43, 3) := by decide +kernel
theorem d5_110 : decode prog_6_method_2_code 110 = .ok (.aload_n 0, 1) := by decide +kernel
theorem d5_111 : decode prog_6_method_2_code 111 = .ok (.getfield 7, 3) := by decide +kernel
theorem d5_114 : decode prog_6_method_2_code 114 = .ok (.iload_n 1, 1) := by decide +kernel
theorem d5_115 : decode prog_6_method_2_code 115 = .ok (.iload_n 3, 1) := by decide +kernel
theorem d5_116 : decode prog_6_method_2_code 116 = .ok (.iastore, 1) := by decide +kernel
theorem d5_117 : decode prog_6_method_2_code 117 = .ok (.aload_n 0, 1) := by decide +kernel
theorem d5_118 : decode prog_6_method_2_code 118 = .ok (.getfield 13, 3) := by decide +kernel
theorem d5_121 : decode prog_6_method_2_code 121 = .ok (.iload_n 1, 1) := by decide +kernel
theorem d5_122 : decode prog_6_method_2_code 122 = .ok (.iload 4, 2) := by decide +kernel
theorem d5_124 : decode prog_6_method_2_code 124 = .ok (.iastore, 1) := by decide +kernel
theorem d5_70 : decode prog_6_method_2_code 70 = .ok (.aload_n 0, 1) := by decide +kernel
theorem d5_71 : decode prog_6_method_2_code 71 = .ok (.aload_n 0, 1) := by decide +kernel
theorem d5_72 : decode prog_6_method_2_code 72 = .ok (.getfield 7, 3) := by decide +kernel
theorem d5_75 : decode prog_6_method_2_code 75 = .ok (.iload_n 1, 1) := by decide +kernel
theorem d5_76 : decode prog_6_method_2_code 76 = .ok (.iconst 1, 1) := by decide +kernel
theorem d5_77 : decode prog_6_method_2_code 77 = .ok (.iadd, 1) := by decide +kernel
theorem d5_78 : decode prog_6_method_2_code 78 = .ok (.aload_n 0, 1) := by decide +kernel
theorem d5_79 : decode prog_6_method_2_code 79 = .ok (.getfield 7, 3) := by decide +kernel
theorem d5_82 : decode prog_6_method_2_code 82 = .ok (.arraylength, 1) := by decide +kernel
theorem d5_83 : decode prog_6_method_2_code 83 = .ok (.iconst 2, 1) := by decide +kernel
theorem d5_84 : decode prog_6_method_2_code 84 = .ok (.imul, 1) := by decide +kernel
theorem d5_85 : decode prog_6_method_2_code 85 = .ok (.invokestatic 20, 3) := by decide +kernel
theorem d5_88 : decode prog_6_method_2_code 88 = .ok (.invokestatic 26, 3) := by decide +kernel
theorem pd_285bII295bI : parseMethodDescriptor "([II)[I" = some ⟨[(.array .int), .int], some (.array .int)⟩ := by decide +kernel
theorem d5_91 : decode prog_6_method_2_code 91 = .ok (.putfield 7, 3) := by decide +kernel
theorem d5_94 : decode prog_6_method_2_code 94 = .ok (.aload_n 0, 1) := by decide +kernel
theorem d5_95 : decode prog_6_method_2_code 95 = .ok (.aload_n 0, 1) := by decide +kernel
theorem d5_96 : decode prog_6_method_2_code 96 = .ok (.getfield 13, 3) := by decide +kernel
theorem d5_99 : decode prog_6_method_2_code 99 = .ok (.aload_n 0, 1) := by decide +kernel
theorem d5_100 : decode prog_6_method_2_code 100 = .ok (.getfield 7, 3) := by decide +kernel
theorem d5_103 : decode prog_6_method_2_code 103 = .ok (.arraylength, 1) := by decide +kernel
theorem d5_104 : decode prog_6_method_2_code 104 = .ok (.invokestatic 26, 3) := by decide +kernel
theorem d5_107 : decode prog_6_method_2_code 107 = .ok (.putfield 13, 3) := by decide +kernel
theorem pd_28Z29V : parseMethodDescriptor "(Z)V" = some ⟨[.boolean], none⟩ := by decide +kernel
theorem pd_28III29Z : parseMethodDescriptor "(III)Z" = some ⟨[.int, .int, .int], some .boolean⟩ := by decide +kernel
theorem pd_28ZZIIIIII29Z : parseMethodDescriptor "(ZZIIIIII)Z" = some ⟨[.boolean, .boolean, .int, .int, .int, .int, .int, .int], some .boolean⟩ := by decide +kernel
theorem pd_28IZII29Z : parseMethodDescriptor "(IZII)Z" = some ⟨[.int, .boolean, .int, .int], some .boolean⟩ := by decide +kernel
section OwnInts
variable {Z : State} {h h' : Heap} {a b : Addr} {n : Int} {f : Int32 → Int32} {ws : List Addr} {sl : Nat} {v : Value}
theorem own_nneg {j : Int32} (h : ¬ j < 0) : 0 ≤ j.toInt := by
  rw [Int32.lt_iff_toInt_lt] at h
  have e0 : (0 : Int32).toInt = 0 := rfl
  omega
/-- at a lies an int array of n places; place j holds f j -/
def own_In (Z : State) (h : Heap) (a : Addr) (n : Int) (f : Int32 → Int32) : Prop := ∃ c : Cell, Arr Z h a c .int ∧ (c.slots.size : Int) = n ∧ ∀ j : Int32, ¬ j < 0 → j.toInt < n → c.slots[j.toNatClampNeg]? = some (.int (f j))
theorem own_In.ext (B : own_In Z h a n f) (E : Ext h h') : own_In Z h' a n f := by
  obtain ⟨c, A, r⟩ := B
  exact ⟨c, A.ext E, r⟩
theorem own_In.other (B : own_In Z h b n f) (W : Wr h h' a sl v) (q : b ≠ a) : own_In Z h' b n f := by
  obtain ⟨c, A, r⟩ := B
  exact ⟨c, A.other W q, r⟩
theorem own_In.keep (B : own_In Z h a n f) (K : Keep h h' ws) (q : a ∉ ws) : own_In Z h' a n f := by
  obtain ⟨c, A, r⟩ := B
  exact ⟨c, ⟨K.2.1 a c A.1 q, A.2⟩, r⟩
theorem own_In.lt (B : own_In Z h a n f) : a < h.size := by
  obtain ⟨c, A, r⟩ := B
  exact A.lt
theorem own_by_in {c : Cell} {j : Int32} (hs : (c.slots.size : Int) = n) (h1 : ¬ j < 0) (h2 : j.toInt < n) : ¬ (j < 0 ∨ c.slots.size ≤ j.toNatClampNeg) := by
  have h3 := own_nneg h1
  rintro (q | q)
  · exact h1 q
  · simp only [Int32.toNatClampNeg] at q
    omega
theorem own_in_of {k : ClassId} {z : Int32} (V : Arv Z h a k .int z [] (.int (0 : Int32))) (hz : z.toInt = n) : own_In Z h a n (fun _ => (0 : Int32)) := by
  obtain ⟨c, A, -, S, M, H, -⟩ := V
  have h3 := own_nneg M
  have hs : (c.slots.size : Int) = n := by
    rw [S]
    simp only [Int32.toNatClampNeg]
    omega
  refine ⟨c, A, hs, fun j h1 h2 => ?_⟩
  have hk : j.toNatClampNeg < c.slots.size := Nat.lt_of_not_le fun q => own_by_in hs h1 h2 (Or.inr q)
  rw [H _ hk]
  rfl
def own_upd (f : Int32 → Int32) (j x : Int32) : Int32 → Int32 := fun i => if i = j then x else f i
theorem own_upd1 {f : Int32 → Int32} {j x i : Int32} (h : i = j) : own_upd f j x i = x := if_pos h
theorem own_upd0 {f : Int32 → Int32} {j x i : Int32} (h : ¬ i = j) : own_upd f j x i = f i := if_neg h
theorem own_In.set {j x : Int32} (B : own_In Z h a n f) (hj : ¬ j < 0) (W : Wr h h' a j.toNatClampNeg (.int x)) : own_In Z h' a n (own_upd f j x) := by
  obtain ⟨c, A, S, H⟩ := B
  refine ⟨_, A.same W, by rw [sz_set]; exact S, fun i h1 h2 => ?_⟩
  by_cases q : i = j
  · rw [own_upd1 q]
    refine get_hit ?_ q
    subst q
    exact own_by_in S h1 h2
  · rw [own_upd0 q, get_miss hj h1 q]
    exact H i h1 h2
end OwnInts
theorem own_getD {l : List Value} {d : Value} (h : ∀ x ∈ l, x = d) (i : Nat) : l.getD i d = d := by
  rw [List.getD_eq_getElem?_getD]
  cases hq : l[i]? with
  | none => rfl
  | some x => exact h x (List.mem_of_getElem? hq)
theorem own_nil (i : Nat) (d : Value) : ([] : List Value).getD i d = d := rfl
theorem own_cat {d : Value} {z nn dp sp : Nat} (i : Nat) : ([] : List Value).getD i d = ((([] : List Value) ++ List.replicate z d).take dp ++ (List.range nn).map (fun i => ([] : List Value).getD (sp + i) d) ++ (([] : List Value) ++ List.replicate z d).drop (dp + nn)).getD i d := by
  rw [own_nil, own_getD]
  intro x hx
  rcases List.mem_append.mp hx with hx | hx
  · rcases List.mem_append.mp hx with hx | hx
    · exact List.eq_of_mem_replicate (by simpa using List.mem_of_mem_take hx)
    · obtain ⟨j, -, rfl⟩ := List.mem_map.mp hx
      rfl
  · exact List.eq_of_mem_replicate (by simpa using List.mem_of_mem_drop hx)

def own_ex (p0 p1 p2 p3 p4 p5 p6 p7 : Int32) : Prop := p0 = (0 : Int32) ∨ ((¬ p1 = (0 : Int32) ∧ p3 = p2) ∧ p6 = p4 ∧ p7 = p5) ∨ (¬ (¬ p1 = (0 : Int32) ∧ p3 = p2) ∧ p6 = (0 : Int32) ∧ p7 = (0 : Int32))
theorem own_h0 {p : Prop} {r : Int32} (hr : (p ∧ r = (1 : Int32)) ∨ (¬ p ∧ r = (0 : Int32))) (h : ¬ p) : r = (0 : Int32) := hr.elim (fun q => absurd q.1 h) (fun q => q.2)
theorem own_h1 {p : Prop} {r : Int32} (hr : (p ∧ r = (1 : Int32)) ∨ (¬ p ∧ r = (0 : Int32))) (h : p) : r = (1 : Int32) := hr.elim (fun q => q.2) (fun q => absurd h q.1)
theorem own_rr {p q : Prop} {r t : Int32} (hr : (p ∧ r = (1 : Int32)) ∨ (¬ p ∧ r = (0 : Int32))) (ht : (q ∧ t = (1 : Int32)) ∨ (¬ q ∧ t = (0 : Int32))) (h : p ↔ q) : r = t := by
  by_cases hp : p
  · rw [own_h1 hr hp, own_h1 ht (h.mp hp)]
  · rw [own_h0 hr hp, own_h0 ht (fun z => hp (h.mpr z))]
theorem own_i0 {a b c d qf qt st : Int32} : ((fun _ : Int32 => (0 : Int32)) st = qf ∧ (fun _ : Int32 => (0 : Int32)) st = qt) ↔ own_ex (1 : Int32) (0 : Int32) a b c d qf qt := by
  constructor
  · rintro ⟨h1, h2⟩
    exact Or.inr (Or.inr ⟨fun q => q.1 rfl, h1.symm, h2.symm⟩)
  · rintro (h | ⟨h, -⟩ | ⟨-, h1, h2⟩)
    · exact absurd h (by decide)
    · exact absurd rfl h.1
    · exact ⟨h1.symm, h2.symm⟩
theorem own_i1 {st q f1 t1 qf qt : Int32} : (own_upd (fun _ => (0 : Int32)) st f1 q = qf ∧ own_upd (fun _ => (0 : Int32)) st t1 q = qt) ↔ own_ex (1 : Int32) (1 : Int32) st q f1 t1 qf qt := by
  by_cases e : q = st
  · rw [own_upd1 e, own_upd1 e]
    constructor
    · rintro ⟨h1, h2⟩
      exact Or.inr (Or.inl ⟨⟨by decide, e⟩, h1.symm, h2.symm⟩)
    · rintro (h | ⟨-, h1, h2⟩ | ⟨h, -⟩)
      · exact absurd h (by decide)
      · exact ⟨h1.symm, h2.symm⟩
      · exact absurd ⟨by decide, e⟩ h
  · rw [own_upd0 e, own_upd0 e]
    constructor
    · rintro ⟨h1, h2⟩
      exact Or.inr (Or.inr ⟨fun z => e z.2, h1.symm, h2.symm⟩)
    · rintro (h | ⟨h, -⟩ | ⟨-, h1, h2⟩)
      · exact absurd h (by decide)
      · exact absurd h.2 e
      · exact ⟨h1.symm, h2.symm⟩
theorem own_mx {p : Int32} (h0 : ¬ p < 0) (h : p.toInt ≤ 2047) : (if (p + (1 : Int32)) < ((1024 : Int32) * (2 : Int32)) then ((1024 : Int32) * (2 : Int32)) else (p + (1 : Int32))) = (2048 : Int32) := by
  have h1 := own_nneg h0
  have h2 := c_iadd p (1 : Int32)
  have h3 := rng32 (p + (1 : Int32))
  have e1 : (1 : Int32).toInt = 1 := rfl
  have e2 : ((1024 : Int32) * (2 : Int32)) = (2048 : Int32) := by decide
  have e3 : (2048 : Int32).toInt = 2048 := rfl
  rw [e2]
  split
  · rfl
  · rename_i q
    rw [Int32.lt_iff_toInt_lt] at q
    exact Int32.toInt_inj.mp (by omega)
theorem own_m (x m : Int32) (k : Nat) (hk : k ≤ 31) (hm : m.toBitVec.toNat = 2 ^ k - 1) : ¬ (x &&& m) < 0 ∧ (x &&& m).toInt ≤ 2 ^ k - 1 := by
  have h1 := c_mask x m k hk hm
  have h2 : (0 : Int) < ((2 ^ k : Nat) : Int) := by
    have := Nat.two_pow_pos k
    omega
  have h3 := Int.emod_nonneg x.toInt (show ((2 ^ k : Nat) : Int) ≠ 0 by omega)
  have h4 := Int.emod_lt_of_pos x.toInt h2
  have h5 : ((2 ^ k : Nat) : Int) = (2 : Int) ^ k := by simp
  rw [Int32.lt_iff_toInt_lt, show (0 : Int32).toInt = 0 from rfl]
  omega

theorem own_1024 {p : Int32} (h : p < (1024 : Int32)) : p.toInt < 1024 := by
  rw [Int32.lt_iff_toInt_lt, show (1024 : Int32).toInt = 1024 from rfl] at h
  exact h

theorem own_z0 : (0 : Int32).toNatClampNeg = 0 := rfl

theorem ef_rm1k (m : MethodId) (x0 : Addr) (x1 : Int32) : entryFrame m #[(.ref x0), (.int x1)] 2 = mkF m 0 #[.val (.ref x0), .val (.int x1)] [] := by first | (simp [entryFrame, mkF, argsToLocals, Value.category]; done) | rfl
def Q1k (Z : State) (a0 : Addr) (p1 : Int32) (h0 : Heap) (n0 : Nat) (v : Option Value) (h : Heap) (L : List Loc) : Prop := ∃ (b1 b2 : Addr) (k1 k2 : ClassId), v = none ∧ Fr n0 L ∧ Keep h0 h [a0] ∧ Fld Z h a0 "com/example/skuld/skuld/analysis/Distances" "kept" "Z" (.int (1 : Int32)) ∧ Fld Z h a0 "com/example/skuld/skuld/analysis/Distances" "firings" "[I" (.ref b1) ∧ Fld Z h a0 "com/example/skuld/skuld/analysis/Distances" "times" "[I" (.ref b2) ∧ n0 ≤ b1 ∧ n0 ≤ b2 ∧ h0.size ≤ b1 ∧ h0.size ≤ b2 ∧ b1 ≠ b2 ∧ Arv Z h b1 k1 .int (1024 : Int32) [] (.int (0 : Int32)) ∧ Arv Z h b2 k2 .int (1024 : Int32) [] (.int (0 : Int32))
set_option maxRecDepth 65536 in
set_option maxHeartbeats 40000000 in
theorem rm1k (l : Launch) (Z : State) (aw : Array Value) (hw : ∀ d ∈ tables_1, d.before aw Z = true) (ws : List Jvm.Cond) (a0 : Addr) (p1 : Int32) (h0 : Heap) (n0 : Nat) (Z0 : n0 ≤ h0.size) (E_a0 : Exa Z h0 a0 "com/example/skuld/skuld/analysis/Distances") (F_firings : Fld Z h0 a0 "com/example/skuld/skuld/analysis/Distances" "firings" "[I" .null) (F_times : Fld Z h0 a0 "com/example/skuld/skuld/analysis/Distances" "times" "[I" .null) (F_kept : Fld Z h0 a0 "com/example/skuld/skuld/analysis/Distances" "kept" "Z" (.int (0 : Int32))) (g_a0 : n0 ≤ a0) (hp : p1 = (1 : Int32)) :
    MetFree l (⟨"com/example/skuld/skuld/analysis/Distances", "<init>", "(Z)V"⟩ : MethodName) (head1 (Jvm.Cond.code (⟨"com/example/skuld/skuld/analysis/Distances", "<init>", "(Z)V"⟩ : MethodName) prog_6_method_1_code 2 none :: ws) ({ frames := 1, cells := 4, slots := 2048, locals := 12 } : Room)) (fun a U => a = #[(.ref a0), (.int p1)] ∧ Z.Warmed39 U.vm ∧ U.heap = h0) (fun _ _ _ _ _ => True) (fun _ U o U' => ∃ v L, o = .returned v ∧ Q1k Z a0 p1 h0 n0 v U'.heap L ∧ FrameEnd U o U' L ({ frames := 1, cells := 4, slots := 2048, locals := 12 } : Room).cells ({ frames := 1, cells := 4, slots := 2048, locals := 12 } : Room).slots) := by
  refine MetFree.of_bodySF (plainFor_of_name pn_com_example_skuld_skuld_analysis_Distances) hisR ?_
  intro p e s m args below meth c s₁ Bd hml0 hP hK
  obtain ⟨rfl, hZ, hh⟩ := hP
  have hx := Bd.exec
  have hby := Bd.bytes
  have hml : c.maxLocals = 2 := hml0
  have hown : s.vm.findClass "com/example/skuld/skuld/analysis/Distances" = some m.cls := findClass_of_methodNamed Bd.named
  have hnm := (name_of_methodNamed Bd.named Bd.method).1
  have X0 : Stand p l e ({ frames := 1, cells := 4, slots := 2048, locals := 12 } : Room) s m #[(.ref a0), (.int p1)] below meth c s₁ [] 0 0 := Stand.of_body Bd
  have e0 : s₁.heap = h0 := by rw [← hh, Bd.state]; rfl
  have N0 := Fr.nil n0
  refine own_go (Q := Q1k Z a0 p1 h0 n0) ?_
  refine Go.to (g' := (mkF m 0 #[.val (.ref a0), .val (.int p1)] [])) (fun t k => castTop (ef_rm1k m a0 p1) k) ?_
  subst hp
  refine Go.to (g' := (mkF m 1 #[.val (.ref a0), .val (.int (1 : Int32))] [(.ref a0)])) (fun t k => XS.aloadN X0.here hx rfl (hb hby d1_0) rfl rfl k) ?_
  obtain ⟨T1, X1, e1, st1⟩ := initO X0 hx hZ hown (hw _ (List.mem_of_getElem? (i := 6) rfl)) (hw _ (List.mem_of_getElem? (i := 7) rfl)) (hw _ (List.mem_of_getElem? (i := 8) rfl)) e0 (g := (mkF m 1 #[.val (.ref a0), .val (.int (1 : Int32))] [(.ref a0)])) rfl (by rw [hml]; rfl) rfl (hb hby d1_1) (by decide) (W := 0) (by show 2 * 0 + _ ≤ _; exact Nat.le_of_eq rfl) (by decide)
  refine Go.to (g' := (mkF m 4 #[.val (.ref a0), .val (.int (1 : Int32))] [])) st1 ?_
  refine Go.to (g' := (mkF m 5 #[.val (.ref a0), .val (.int (1 : Int32))] [(.ref a0)])) (fun t k => XS.aloadN X1.here hx rfl (hb hby d1_4) rfl rfl k) ?_
  refine Go.to (g' := (mkF m 6 #[.val (.ref a0), .val (.int (1 : Int32))] [(.int (0 : Int32)), (.ref a0)])) (fun t k => XS.iconst X1.here hx rfl (hb hby d1_5) k) ?_
  obtain ⟨T3, h3, k3, X3, e3, E3, A3, st3⟩ := newP X1 hx hZ (hw _ (List.mem_of_getElem? (i := 9) rfl)) e1 (g := (mkF m 6 #[.val (.ref a0), .val (.int (1 : Int32))] [(.int (0 : Int32)), (.ref a0)])) rfl (hb hby d1_6) rfl (by decide) (cap := 0) (by decide) (by decide) (by decide) (by decide)
  obtain ⟨b2, g3⟩ : ∃ z, z = h0.size := ⟨_, rfl⟩
  rw [← g3] at A3 st3
  have ne_a0_b2 : a0 ≠ b2 := Nat.ne_of_lt (Nat.lt_of_lt_of_le E_a0.lt (Nat.le_of_eq g3.symm))
  have g_b2 : n0 ≤ b2 := Nat.le_trans Z0 (Nat.le_of_eq g3.symm)
  have sz_b2 : h0.size ≤ b2 := Nat.le_trans (Keep.refl h0 [a0]).1 (Nat.le_of_eq g3.symm)
  have Z3 : n0 ≤ h3.size := Nat.le_trans Z0 E3.1
  have K3 : Keep h0 h3 [a0] := (Keep.refl h0 [a0]).ext E3
  have V_b2 : Arv Z h3 b2 k3 .int (0 : Int32) [] (.int (0 : Int32)) := (Arv.new A3 (by decide)).pad (pad_rep [] (.int (0 : Int32)) 0)
  refine Go.to (g' := (mkF m 8 #[.val (.ref a0), .val (.int (1 : Int32))] [(.ref b2), (.ref a0)])) st3 ?_
  have f4 : Fld Z h3 a0 "com/example/skuld/skuld/analysis/Distances" "firings" "[I" .null := (F_firings.ext E3)
  have f5 : Exa Z h3 a0 "com/example/skuld/skuld/analysis/Distances" := (E_a0.ext E3)
  obtain ⟨T6, h6, X6, e6, W6, st6⟩ := putF X3 hx hZ hown (host := "") (Or.inl (hw _ (List.mem_of_getElem? (i := 10) rfl))) Via.refl e3 f4 f5 (Or.inl (hw _ (List.mem_of_getElem? (i := 11) rfl))) (hw _ (List.mem_of_getElem? (i := 1) rfl)) (ty := (.array .int)) (by decide) rfl rfl (g := (mkF m 8 #[.val (.ref a0), .val (.int (1 : Int32))] [(.ref b2), (.ref a0)])) rfl rfl (hb hby d1_8)
  have Z6 : n0 ≤ h6.size := Nat.le_trans Z3 (Keep.of_wr W6).1
  have K6 : Keep h0 h6 [a0] := K3.wr W6 (Or.inl (List.mem_of_getElem? (i := 0) rfl))
  have N6 := Fr.snoc X6 N0 g_a0
  have Fw6 : Fld Z h6 a0 "com/example/skuld/skuld/analysis/Distances" "firings" "[I" (.ref b2) := f4.same W6
  refine Go.to (g' := (mkF m 11 #[.val (.ref a0), .val (.int (1 : Int32))] [])) st6 ?_
  refine Go.to (g' := (mkF m 12 #[.val (.ref a0), .val (.int (1 : Int32))] [(.ref a0)])) (fun t k => XS.aloadN X6.here hx rfl (hb hby d1_11) rfl rfl k) ?_
  refine Go.to (g' := (mkF m 13 #[.val (.ref a0), .val (.int (1 : Int32))] [(.int (0 : Int32)), (.ref a0)])) (fun t k => XS.iconst X6.here hx rfl (hb hby d1_12) k) ?_
  obtain ⟨T8, h8, k8, X8, e8, E8, A8, st8⟩ := newP X6 hx hZ (hw _ (List.mem_of_getElem? (i := 9) rfl)) e6 (g := (mkF m 13 #[.val (.ref a0), .val (.int (1 : Int32))] [(.int (0 : Int32)), (.ref a0)])) rfl (hb hby d1_13) rfl (by decide) (cap := 0) (by decide) (by decide) (by decide) (by decide)
  obtain ⟨b7, g8⟩ : ∃ z, z = h6.size := ⟨_, rfl⟩
  rw [← g8] at A8 st8
  have f9 : Exa Z h6 a0 "com/example/skuld/skuld/analysis/Distances" := (f5.wr W6)
  have ne_a0_b7 : a0 ≠ b7 := Nat.ne_of_lt (Nat.lt_of_lt_of_le f9.lt (Nat.le_of_eq g8.symm))
  have f10 : Arv Z h6 b2 k3 .int (0 : Int32) [] (.int (0 : Int32)) := (V_b2.other W6 (Ne.symm ne_a0_b2))
  have ne_b2_b7 : b2 ≠ b7 := Nat.ne_of_lt (Nat.lt_of_lt_of_le f10.lt (Nat.le_of_eq g8.symm))
  have g_b7 : n0 ≤ b7 := Nat.le_trans Z6 (Nat.le_of_eq g8.symm)
  have sz_b7 : h0.size ≤ b7 := Nat.le_trans K6.1 (Nat.le_of_eq g8.symm)
  have Z8 : n0 ≤ h8.size := Nat.le_trans Z6 E8.1
  have K8 : Keep h0 h8 [a0] := K6.ext E8
  have V_b7 : Arv Z h8 b7 k8 .int (0 : Int32) [] (.int (0 : Int32)) := (Arv.new A8 (by decide)).pad (pad_rep [] (.int (0 : Int32)) 0)
  refine Go.to (g' := (mkF m 15 #[.val (.ref a0), .val (.int (1 : Int32))] [(.ref b7), (.ref a0)])) st8 ?_
  have f11 : Fld Z h8 a0 "com/example/skuld/skuld/analysis/Distances" "times" "[I" .null := (((F_times.ext E3).other W6 (Or.inr (slot_ne (Or.inl (hw _ (List.mem_of_getElem? (i := 13) rfl))) (Or.inl (hw _ (List.mem_of_getElem? (i := 11) rfl))) (by decide) (t := (.array .int)) (t' := (.array .int)) (by decide) (by decide)))).ext E8)
  have f12 : Exa Z h8 a0 "com/example/skuld/skuld/analysis/Distances" := (f9.ext E8)
  obtain ⟨T13, h13, X13, e13, W13, st13⟩ := putF X8 hx hZ hown (host := "") (Or.inl (hw _ (List.mem_of_getElem? (i := 12) rfl))) Via.refl e8 f11 f12 (Or.inl (hw _ (List.mem_of_getElem? (i := 13) rfl))) (hw _ (List.mem_of_getElem? (i := 1) rfl)) (ty := (.array .int)) (by decide) rfl rfl (g := (mkF m 15 #[.val (.ref a0), .val (.int (1 : Int32))] [(.ref b7), (.ref a0)])) rfl rfl (hb hby d1_15)
  have Z13 : n0 ≤ h13.size := Nat.le_trans Z8 (Keep.of_wr W13).1
  have K13 : Keep h0 h13 [a0] := K8.wr W13 (Or.inl (List.mem_of_getElem? (i := 0) rfl))
  have N13 := Fr.snoc X13 N6 g_a0
  have Fw13 : Fld Z h13 a0 "com/example/skuld/skuld/analysis/Distances" "times" "[I" (.ref b7) := f11.same W13
  refine Go.to (g' := (mkF m 18 #[.val (.ref a0), .val (.int (1 : Int32))] [])) st13 ?_
  refine Go.to (g' := (mkF m 19 #[.val (.ref a0), .val (.int (1 : Int32))] [(.ref a0)])) (fun t k => XS.aloadN X13.here hx rfl (hb hby d1_18) rfl rfl k) ?_
  refine Go.to (g' := (mkF m 20 #[.val (.ref a0), .val (.int (1 : Int32))] [(.int (1 : Int32)), (.ref a0)])) (fun t k => XS.iloadN X13.here hx rfl (hb hby d1_19) rfl k) ?_
  have f14 : Fld Z h13 a0 "com/example/skuld/skuld/analysis/Distances" "kept" "Z" (.int (0 : Int32)) := ((((F_kept.ext E3).other W6 (Or.inr (slot_ne (Or.inr (hw _ (List.mem_of_getElem? (i := 15) rfl))) (Or.inl (hw _ (List.mem_of_getElem? (i := 11) rfl))) (by decide) (t := .boolean) (t' := (.array .int)) (by decide) (by decide)))).ext E8).other W13 (Or.inr (slot_ne (Or.inr (hw _ (List.mem_of_getElem? (i := 15) rfl))) (Or.inl (hw _ (List.mem_of_getElem? (i := 13) rfl))) (by decide) (t := .boolean) (t' := (.array .int)) (by decide) (by decide))))
  have f15 : Exa Z h13 a0 "com/example/skuld/skuld/analysis/Distances" := (f12.wr W13)
  obtain ⟨T16, h16, X16, e16, W16, st16⟩ := putFN X13 hx hZ hown (hw _ (List.mem_of_getElem? (i := 14) rfl)) Via.refl e13 f14 f15 (Or.inr ⟨(hw _ (List.mem_of_getElem? (i := 15) rfl)), rfl, hnm⟩) (hw _ (List.mem_of_getElem? (i := 1) rfl)) (ty := .boolean) (v' := (.int (1 : Int32))) (by decide) rfl rfl (g := (mkF m 20 #[.val (.ref a0), .val (.int (1 : Int32))] [(.int (1 : Int32)), (.ref a0)])) rfl rfl (hb hby d1_20)
  have Z16 : n0 ≤ h16.size := Nat.le_trans Z13 (Keep.of_wr W16).1
  have K16 : Keep h0 h16 [a0] := K13.wr W16 (Or.inl (List.mem_of_getElem? (i := 0) rfl))
  have N16 := Fr.snoc X16 N13 g_a0
  have Fw16 : Fld Z h16 a0 "com/example/skuld/skuld/analysis/Distances" "kept" "Z" (.int (1 : Int32)) := f14.same W16
  refine Go.to (g' := (mkF m 23 #[.val (.ref a0), .val (.int (1 : Int32))] [])) st16 ?_
  refine Go.to (g' := (mkF m 24 #[.val (.ref a0), .val (.int (1 : Int32))] [(.ref a0)])) (fun t k => XS.aloadN X16.here hx rfl (hb hby d1_23) rfl rfl k) ?_
  obtain ⟨T17, X17, e17, st17⟩ := getF X16 hx hZ hown (host := "") (Or.inl (hw _ (List.mem_of_getElem? (i := 14) rfl))) Via.refl e16 Fw16 (g := (mkF m 24 #[.val (.ref a0), .val (.int (1 : Int32))] [(.ref a0)])) rfl rfl (hb hby d1_24)
  refine Go.to (g' := (mkF m 27 #[.val (.ref a0), .val (.int (1 : Int32))] [(.int (1 : Int32))])) st17 ?_
  refine Go.to (g' := (mkF m 30 #[.val (.ref a0), .val (.int (1 : Int32))] [])) (fun t k => XS.ifNo X17.here hx rfl (hb hby d1_27) rfl ((if0 _ _).trans (feq (by decide)).1) k) ?_
  refine Go.to (g' := (mkF m 31 #[.val (.ref a0), .val (.int (1 : Int32))] [(.ref a0)])) (fun t k => XS.aloadN X17.here hx rfl (hb hby d1_30) rfl rfl k) ?_
  refine Go.to (g' := (mkF m 34 #[.val (.ref a0), .val (.int (1 : Int32))] [(.int (1024 : Int32)), (.ref a0)])) (fun t k => XS.sipush X17.here hx rfl (hb hby d1_31) k) ?_
  obtain ⟨T19, h19, k19, X19, e19, E19, A19, st19⟩ := newP X17 hx hZ (hw _ (List.mem_of_getElem? (i := 9) rfl)) e17 (g := (mkF m 34 #[.val (.ref a0), .val (.int (1 : Int32))] [(.int (1024 : Int32)), (.ref a0)])) rfl (hb hby d1_34) rfl (by decide) (cap := 1024) (by decide) (by decide) (by decide) (by decide)
  obtain ⟨b18, g19⟩ : ∃ z, z = h16.size := ⟨_, rfl⟩
  rw [← g19] at A19 st19
  have f20 : Exa Z h16 a0 "com/example/skuld/skuld/analysis/Distances" := (f15.wr W16)
  have ne_a0_b18 : a0 ≠ b18 := Nat.ne_of_lt (Nat.lt_of_lt_of_le f20.lt (Nat.le_of_eq g19.symm))
  have f21 : Arv Z h16 b2 k3 .int (0 : Int32) [] (.int (0 : Int32)) := (((f10.ext E8).other W13 (Ne.symm ne_a0_b2)).other W16 (Ne.symm ne_a0_b2))
  have ne_b2_b18 : b2 ≠ b18 := Nat.ne_of_lt (Nat.lt_of_lt_of_le f21.lt (Nat.le_of_eq g19.symm))
  have f22 : Arv Z h16 b7 k8 .int (0 : Int32) [] (.int (0 : Int32)) := ((V_b7.other W13 (Ne.symm ne_a0_b7)).other W16 (Ne.symm ne_a0_b7))
  have ne_b7_b18 : b7 ≠ b18 := Nat.ne_of_lt (Nat.lt_of_lt_of_le f22.lt (Nat.le_of_eq g19.symm))
  have g_b18 : n0 ≤ b18 := Nat.le_trans Z16 (Nat.le_of_eq g19.symm)
  have sz_b18 : h0.size ≤ b18 := Nat.le_trans K16.1 (Nat.le_of_eq g19.symm)
  have Z19 : n0 ≤ h19.size := Nat.le_trans Z16 E19.1
  have K19 : Keep h0 h19 [a0] := K16.ext E19
  have V_b18 : Arv Z h19 b18 k19 .int (1024 : Int32) [] (.int (0 : Int32)) := Arv.new A19 (by decide)
  refine Go.to (g' := (mkF m 36 #[.val (.ref a0), .val (.int (1 : Int32))] [(.ref b18), (.ref a0)])) st19 ?_
  have f23 : Fld Z h19 a0 "com/example/skuld/skuld/analysis/Distances" "firings" "[I" (.ref b2) := ((((Fw6.ext E8).other W13 (Or.inr (slot_ne (Or.inl (hw _ (List.mem_of_getElem? (i := 11) rfl))) (Or.inl (hw _ (List.mem_of_getElem? (i := 13) rfl))) (by decide) (t := (.array .int)) (t' := (.array .int)) (by decide) (by decide)))).other W16 (Or.inr (slot_ne (Or.inl (hw _ (List.mem_of_getElem? (i := 11) rfl))) (Or.inr (hw _ (List.mem_of_getElem? (i := 15) rfl))) (by decide) (t := (.array .int)) (t' := .boolean) (by decide) (by decide)))).ext E19)
  have f24 : Exa Z h19 a0 "com/example/skuld/skuld/analysis/Distances" := (f20.ext E19)
  obtain ⟨T25, h25, X25, e25, W25, st25⟩ := putF X19 hx hZ hown (host := "") (Or.inl (hw _ (List.mem_of_getElem? (i := 10) rfl))) Via.refl e19 f23 f24 (Or.inl (hw _ (List.mem_of_getElem? (i := 11) rfl))) (hw _ (List.mem_of_getElem? (i := 1) rfl)) (ty := (.array .int)) (by decide) rfl rfl (g := (mkF m 36 #[.val (.ref a0), .val (.int (1 : Int32))] [(.ref b18), (.ref a0)])) rfl rfl (hb hby d1_36)
  have Z25 : n0 ≤ h25.size := Nat.le_trans Z19 (Keep.of_wr W25).1
  have K25 : Keep h0 h25 [a0] := K19.wr W25 (Or.inl (List.mem_of_getElem? (i := 0) rfl))
  have N25 := Fr.snoc X25 N16 g_a0
  have Fw25 : Fld Z h25 a0 "com/example/skuld/skuld/analysis/Distances" "firings" "[I" (.ref b18) := f23.same W25
  refine Go.to (g' := (mkF m 39 #[.val (.ref a0), .val (.int (1 : Int32))] [])) st25 ?_
  refine Go.to (g' := (mkF m 40 #[.val (.ref a0), .val (.int (1 : Int32))] [(.ref a0)])) (fun t k => XS.aloadN X25.here hx rfl (hb hby d1_39) rfl rfl k) ?_
  refine Go.to (g' := (mkF m 43 #[.val (.ref a0), .val (.int (1 : Int32))] [(.int (1024 : Int32)), (.ref a0)])) (fun t k => XS.sipush X25.here hx rfl (hb hby d1_40) k) ?_
  obtain ⟨T27, h27, k27, X27, e27, E27, A27, st27⟩ := newP X25 hx hZ (hw _ (List.mem_of_getElem? (i := 9) rfl)) e25 (g := (mkF m 43 #[.val (.ref a0), .val (.int (1 : Int32))] [(.int (1024 : Int32)), (.ref a0)])) rfl (hb hby d1_43) rfl (by decide) (cap := 1024) (by decide) (by decide) (by decide) (by decide)
  obtain ⟨b26, g27⟩ : ∃ z, z = h25.size := ⟨_, rfl⟩
  rw [← g27] at A27 st27
  have f28 : Exa Z h25 a0 "com/example/skuld/skuld/analysis/Distances" := (f24.wr W25)
  have ne_a0_b26 : a0 ≠ b26 := Nat.ne_of_lt (Nat.lt_of_lt_of_le f28.lt (Nat.le_of_eq g27.symm))
  have f29 : Arv Z h25 b18 k19 .int (1024 : Int32) [] (.int (0 : Int32)) := (V_b18.other W25 (Ne.symm ne_a0_b18))
  have ne_b18_b26 : b18 ≠ b26 := Nat.ne_of_lt (Nat.lt_of_lt_of_le f29.lt (Nat.le_of_eq g27.symm))
  have f30 : Arv Z h25 b2 k3 .int (0 : Int32) [] (.int (0 : Int32)) := ((f21.ext E19).other W25 (Ne.symm ne_a0_b2))
  have ne_b2_b26 : b2 ≠ b26 := Nat.ne_of_lt (Nat.lt_of_lt_of_le f30.lt (Nat.le_of_eq g27.symm))
  have f31 : Arv Z h25 b7 k8 .int (0 : Int32) [] (.int (0 : Int32)) := ((f22.ext E19).other W25 (Ne.symm ne_a0_b7))
  have ne_b7_b26 : b7 ≠ b26 := Nat.ne_of_lt (Nat.lt_of_lt_of_le f31.lt (Nat.le_of_eq g27.symm))
  have g_b26 : n0 ≤ b26 := Nat.le_trans Z25 (Nat.le_of_eq g27.symm)
  have sz_b26 : h0.size ≤ b26 := Nat.le_trans K25.1 (Nat.le_of_eq g27.symm)
  have Z27 : n0 ≤ h27.size := Nat.le_trans Z25 E27.1
  have K27 : Keep h0 h27 [a0] := K25.ext E27
  have V_b26 : Arv Z h27 b26 k27 .int (1024 : Int32) [] (.int (0 : Int32)) := Arv.new A27 (by decide)
  refine Go.to (g' := (mkF m 45 #[.val (.ref a0), .val (.int (1 : Int32))] [(.ref b26), (.ref a0)])) st27 ?_
  have f32 : Fld Z h27 a0 "com/example/skuld/skuld/analysis/Distances" "times" "[I" (.ref b7) := ((((Fw13.other W16 (Or.inr (slot_ne (Or.inl (hw _ (List.mem_of_getElem? (i := 13) rfl))) (Or.inr (hw _ (List.mem_of_getElem? (i := 15) rfl))) (by decide) (t := (.array .int)) (t' := .boolean) (by decide) (by decide)))).ext E19).other W25 (Or.inr (slot_ne (Or.inl (hw _ (List.mem_of_getElem? (i := 13) rfl))) (Or.inl (hw _ (List.mem_of_getElem? (i := 11) rfl))) (by decide) (t := (.array .int)) (t' := (.array .int)) (by decide) (by decide)))).ext E27)
  have f33 : Exa Z h27 a0 "com/example/skuld/skuld/analysis/Distances" := (f28.ext E27)
  obtain ⟨T34, h34, X34, e34, W34, st34⟩ := putF X27 hx hZ hown (host := "") (Or.inl (hw _ (List.mem_of_getElem? (i := 12) rfl))) Via.refl e27 f32 f33 (Or.inl (hw _ (List.mem_of_getElem? (i := 13) rfl))) (hw _ (List.mem_of_getElem? (i := 1) rfl)) (ty := (.array .int)) (by decide) rfl rfl (g := (mkF m 45 #[.val (.ref a0), .val (.int (1 : Int32))] [(.ref b26), (.ref a0)])) rfl rfl (hb hby d1_45)
  have Z34 : n0 ≤ h34.size := Nat.le_trans Z27 (Keep.of_wr W34).1
  have K34 : Keep h0 h34 [a0] := K27.wr W34 (Or.inl (List.mem_of_getElem? (i := 0) rfl))
  have N34 := Fr.snoc X34 N25 g_a0
  have Fw34 : Fld Z h34 a0 "com/example/skuld/skuld/analysis/Distances" "times" "[I" (.ref b26) := f32.same W34
  refine Go.to (g' := (mkF m 48 #[.val (.ref a0), .val (.int (1 : Int32))] [])) st34 ?_
  have f35 : Fld Z h34 a0 "com/example/skuld/skuld/analysis/Distances" "kept" "Z" (.int (1 : Int32)) := ((((Fw16.ext E19).other W25 (Or.inr (slot_ne (Or.inr (hw _ (List.mem_of_getElem? (i := 15) rfl))) (Or.inl (hw _ (List.mem_of_getElem? (i := 11) rfl))) (by decide) (t := .boolean) (t' := (.array .int)) (by decide) (by decide)))).ext E27).other W34 (Or.inr (slot_ne (Or.inr (hw _ (List.mem_of_getElem? (i := 15) rfl))) (Or.inl (hw _ (List.mem_of_getElem? (i := 13) rfl))) (by decide) (t := .boolean) (t' := (.array .int)) (by decide) (by decide))))
  have f36 : Fld Z h34 a0 "com/example/skuld/skuld/analysis/Distances" "firings" "[I" (.ref b18) := ((Fw25.ext E27).other W34 (Or.inr (slot_ne (Or.inl (hw _ (List.mem_of_getElem? (i := 11) rfl))) (Or.inl (hw _ (List.mem_of_getElem? (i := 13) rfl))) (by decide) (t := (.array .int)) (t' := (.array .int)) (by decide) (by decide))))
  have f37 : Arv Z h34 b18 k19 .int (1024 : Int32) [] (.int (0 : Int32)) := ((f29.ext E27).other W34 (Ne.symm ne_a0_b18))
  have f38 : Arv Z h34 b26 k27 .int (1024 : Int32) [] (.int (0 : Int32)) := (V_b26.other W34 (Ne.symm ne_a0_b26))
  exact Go.ret X34 hx Bd.returns Bd.notSynchronized (hb hby d1_48) (by decide) (by decide) e34 ⟨b18, b26, _, _, rfl, N34, K34, f35, f36, Fw34, g_b18, g_b26, sz_b18, sz_b26, ne_b18_b26, f37, f38⟩

theorem ef_rm1n (m : MethodId) (x0 : Addr) (x1 : Int32) : entryFrame m #[(.ref x0), (.int x1)] 2 = mkF m 0 #[.val (.ref x0), .val (.int x1)] [] := by first | (simp [entryFrame, mkF, argsToLocals, Value.category]; done) | rfl
def Q1n (Z : State) (a0 : Addr) (p1 : Int32) (h0 : Heap) (n0 : Nat) (v : Option Value) (h : Heap) (L : List Loc) : Prop := v = none ∧ Fr n0 L ∧ Keep h0 h [a0] ∧ Fld Z h a0 "com/example/skuld/skuld/analysis/Distances" "kept" "Z" (.int (0 : Int32))
set_option maxRecDepth 65536 in
set_option maxHeartbeats 40000000 in
theorem rm1n (l : Launch) (Z : State) (aw : Array Value) (hw : ∀ d ∈ tables_1, d.before aw Z = true) (ws : List Jvm.Cond) (a0 : Addr) (p1 : Int32) (h0 : Heap) (n0 : Nat) (Z0 : n0 ≤ h0.size) (E_a0 : Exa Z h0 a0 "com/example/skuld/skuld/analysis/Distances") (F_firings : Fld Z h0 a0 "com/example/skuld/skuld/analysis/Distances" "firings" "[I" .null) (F_times : Fld Z h0 a0 "com/example/skuld/skuld/analysis/Distances" "times" "[I" .null) (F_kept : Fld Z h0 a0 "com/example/skuld/skuld/analysis/Distances" "kept" "Z" (.int (0 : Int32))) (g_a0 : n0 ≤ a0) (hp : p1 = (0 : Int32)) :
    MetFree l (⟨"com/example/skuld/skuld/analysis/Distances", "<init>", "(Z)V"⟩ : MethodName) (head1 (Jvm.Cond.code (⟨"com/example/skuld/skuld/analysis/Distances", "<init>", "(Z)V"⟩ : MethodName) prog_6_method_1_code 2 none :: ws) ({ frames := 1, cells := 2, slots := 0, locals := 12 } : Room)) (fun a U => a = #[(.ref a0), (.int p1)] ∧ Z.Warmed39 U.vm ∧ U.heap = h0) (fun _ _ _ _ _ => True) (fun _ U o U' => ∃ v L, o = .returned v ∧ Q1n Z a0 p1 h0 n0 v U'.heap L ∧ FrameEnd U o U' L ({ frames := 1, cells := 2, slots := 0, locals := 12 } : Room).cells ({ frames := 1, cells := 2, slots := 0, locals := 12 } : Room).slots) := by
  refine MetFree.of_bodySF (plainFor_of_name pn_com_example_skuld_skuld_analysis_Distances) hisR ?_
  intro p e s m args below meth c s₁ Bd hml0 hP hK
  obtain ⟨rfl, hZ, hh⟩ := hP
  have hx := Bd.exec
  have hby := Bd.bytes
  have hml : c.maxLocals = 2 := hml0
  have hown : s.vm.findClass "com/example/skuld/skuld/analysis/Distances" = some m.cls := findClass_of_methodNamed Bd.named
  have hnm := (name_of_methodNamed Bd.named Bd.method).1
  have X0 : Stand p l e ({ frames := 1, cells := 2, slots := 0, locals := 12 } : Room) s m #[(.ref a0), (.int p1)] below meth c s₁ [] 0 0 := Stand.of_body Bd
  have e0 : s₁.heap = h0 := by rw [← hh, Bd.state]; rfl
  have N0 := Fr.nil n0
  refine own_go (Q := Q1n Z a0 p1 h0 n0) ?_
  refine Go.to (g' := (mkF m 0 #[.val (.ref a0), .val (.int p1)] [])) (fun t k => castTop (ef_rm1n m a0 p1) k) ?_
  subst hp
  refine Go.to (g' := (mkF m 1 #[.val (.ref a0), .val (.int (0 : Int32))] [(.ref a0)])) (fun t k => XS.aloadN X0.here hx rfl (hb hby d1_0) rfl rfl k) ?_
  obtain ⟨T1, X1, e1, st1⟩ := initO X0 hx hZ hown (hw _ (List.mem_of_getElem? (i := 6) rfl)) (hw _ (List.mem_of_getElem? (i := 7) rfl)) (hw _ (List.mem_of_getElem? (i := 8) rfl)) e0 (g := (mkF m 1 #[.val (.ref a0), .val (.int (0 : Int32))] [(.ref a0)])) rfl (by rw [hml]; rfl) rfl (hb hby d1_1) (by decide) (W := 0) (by show 2 * 0 + _ ≤ _; exact Nat.le_of_eq rfl) (by decide)
  refine Go.to (g' := (mkF m 4 #[.val (.ref a0), .val (.int (0 : Int32))] [])) st1 ?_
  refine Go.to (g' := (mkF m 5 #[.val (.ref a0), .val (.int (0 : Int32))] [(.ref a0)])) (fun t k => XS.aloadN X1.here hx rfl (hb hby d1_4) rfl rfl k) ?_
  refine Go.to (g' := (mkF m 6 #[.val (.ref a0), .val (.int (0 : Int32))] [(.int (0 : Int32)), (.ref a0)])) (fun t k => XS.iconst X1.here hx rfl (hb hby d1_5) k) ?_
  obtain ⟨T3, h3, k3, X3, e3, E3, A3, st3⟩ := newP X1 hx hZ (hw _ (List.mem_of_getElem? (i := 9) rfl)) e1 (g := (mkF m 6 #[.val (.ref a0), .val (.int (0 : Int32))] [(.int (0 : Int32)), (.ref a0)])) rfl (hb hby d1_6) rfl (by decide) (cap := 0) (by decide) (by decide) (by decide) (by decide)
  obtain ⟨b2, g3⟩ : ∃ z, z = h0.size := ⟨_, rfl⟩
  rw [← g3] at A3 st3
  have ne_a0_b2 : a0 ≠ b2 := Nat.ne_of_lt (Nat.lt_of_lt_of_le E_a0.lt (Nat.le_of_eq g3.symm))
  have g_b2 : n0 ≤ b2 := Nat.le_trans Z0 (Nat.le_of_eq g3.symm)
  have sz_b2 : h0.size ≤ b2 := Nat.le_trans (Keep.refl h0 [a0]).1 (Nat.le_of_eq g3.symm)
  have Z3 : n0 ≤ h3.size := Nat.le_trans Z0 E3.1
  have K3 : Keep h0 h3 [a0] := (Keep.refl h0 [a0]).ext E3
  have V_b2 : Arv Z h3 b2 k3 .int (0 : Int32) [] (.int (0 : Int32)) := (Arv.new A3 (by decide)).pad (pad_rep [] (.int (0 : Int32)) 0)
  refine Go.to (g' := (mkF m 8 #[.val (.ref a0), .val (.int (0 : Int32))] [(.ref b2), (.ref a0)])) st3 ?_
  have f4 : Fld Z h3 a0 "com/example/skuld/skuld/analysis/Distances" "firings" "[I" .null := (F_firings.ext E3)
  have f5 : Exa Z h3 a0 "com/example/skuld/skuld/analysis/Distances" := (E_a0.ext E3)
  obtain ⟨T6, h6, X6, e6, W6, st6⟩ := putF X3 hx hZ hown (host := "") (Or.inl (hw _ (List.mem_of_getElem? (i := 10) rfl))) Via.refl e3 f4 f5 (Or.inl (hw _ (List.mem_of_getElem? (i := 11) rfl))) (hw _ (List.mem_of_getElem? (i := 1) rfl)) (ty := (.array .int)) (by decide) rfl rfl (g := (mkF m 8 #[.val (.ref a0), .val (.int (0 : Int32))] [(.ref b2), (.ref a0)])) rfl rfl (hb hby d1_8)
  have Z6 : n0 ≤ h6.size := Nat.le_trans Z3 (Keep.of_wr W6).1
  have K6 : Keep h0 h6 [a0] := K3.wr W6 (Or.inl (List.mem_of_getElem? (i := 0) rfl))
  have N6 := Fr.snoc X6 N0 g_a0
  have Fw6 : Fld Z h6 a0 "com/example/skuld/skuld/analysis/Distances" "firings" "[I" (.ref b2) := f4.same W6
  refine Go.to (g' := (mkF m 11 #[.val (.ref a0), .val (.int (0 : Int32))] [])) st6 ?_
  refine Go.to (g' := (mkF m 12 #[.val (.ref a0), .val (.int (0 : Int32))] [(.ref a0)])) (fun t k => XS.aloadN X6.here hx rfl (hb hby d1_11) rfl rfl k) ?_
  refine Go.to (g' := (mkF m 13 #[.val (.ref a0), .val (.int (0 : Int32))] [(.int (0 : Int32)), (.ref a0)])) (fun t k => XS.iconst X6.here hx rfl (hb hby d1_12) k) ?_
  obtain ⟨T8, h8, k8, X8, e8, E8, A8, st8⟩ := newP X6 hx hZ (hw _ (List.mem_of_getElem? (i := 9) rfl)) e6 (g := (mkF m 13 #[.val (.ref a0), .val (.int (0 : Int32))] [(.int (0 : Int32)), (.ref a0)])) rfl (hb hby d1_13) rfl (by decide) (cap := 0) (by decide) (by decide) (by decide) (by decide)
  obtain ⟨b7, g8⟩ : ∃ z, z = h6.size := ⟨_, rfl⟩
  rw [← g8] at A8 st8
  have f9 : Exa Z h6 a0 "com/example/skuld/skuld/analysis/Distances" := (f5.wr W6)
  have ne_a0_b7 : a0 ≠ b7 := Nat.ne_of_lt (Nat.lt_of_lt_of_le f9.lt (Nat.le_of_eq g8.symm))
  have f10 : Arv Z h6 b2 k3 .int (0 : Int32) [] (.int (0 : Int32)) := (V_b2.other W6 (Ne.symm ne_a0_b2))
  have ne_b2_b7 : b2 ≠ b7 := Nat.ne_of_lt (Nat.lt_of_lt_of_le f10.lt (Nat.le_of_eq g8.symm))
  have g_b7 : n0 ≤ b7 := Nat.le_trans Z6 (Nat.le_of_eq g8.symm)
  have sz_b7 : h0.size ≤ b7 := Nat.le_trans K6.1 (Nat.le_of_eq g8.symm)
  have Z8 : n0 ≤ h8.size := Nat.le_trans Z6 E8.1
  have K8 : Keep h0 h8 [a0] := K6.ext E8
  have V_b7 : Arv Z h8 b7 k8 .int (0 : Int32) [] (.int (0 : Int32)) := (Arv.new A8 (by decide)).pad (pad_rep [] (.int (0 : Int32)) 0)
  refine Go.to (g' := (mkF m 15 #[.val (.ref a0), .val (.int (0 : Int32))] [(.ref b7), (.ref a0)])) st8 ?_
  have f11 : Fld Z h8 a0 "com/example/skuld/skuld/analysis/Distances" "times" "[I" .null := (((F_times.ext E3).other W6 (Or.inr (slot_ne (Or.inl (hw _ (List.mem_of_getElem? (i := 13) rfl))) (Or.inl (hw _ (List.mem_of_getElem? (i := 11) rfl))) (by decide) (t := (.array .int)) (t' := (.array .int)) (by decide) (by decide)))).ext E8)
  have f12 : Exa Z h8 a0 "com/example/skuld/skuld/analysis/Distances" := (f9.ext E8)
  obtain ⟨T13, h13, X13, e13, W13, st13⟩ := putF X8 hx hZ hown (host := "") (Or.inl (hw _ (List.mem_of_getElem? (i := 12) rfl))) Via.refl e8 f11 f12 (Or.inl (hw _ (List.mem_of_getElem? (i := 13) rfl))) (hw _ (List.mem_of_getElem? (i := 1) rfl)) (ty := (.array .int)) (by decide) rfl rfl (g := (mkF m 15 #[.val (.ref a0), .val (.int (0 : Int32))] [(.ref b7), (.ref a0)])) rfl rfl (hb hby d1_15)
  have Z13 : n0 ≤ h13.size := Nat.le_trans Z8 (Keep.of_wr W13).1
  have K13 : Keep h0 h13 [a0] := K8.wr W13 (Or.inl (List.mem_of_getElem? (i := 0) rfl))
  have N13 := Fr.snoc X13 N6 g_a0
  have Fw13 : Fld Z h13 a0 "com/example/skuld/skuld/analysis/Distances" "times" "[I" (.ref b7) := f11.same W13
  refine Go.to (g' := (mkF m 18 #[.val (.ref a0), .val (.int (0 : Int32))] [])) st13 ?_
  refine Go.to (g' := (mkF m 19 #[.val (.ref a0), .val (.int (0 : Int32))] [(.ref a0)])) (fun t k => XS.aloadN X13.here hx rfl (hb hby d1_18) rfl rfl k) ?_
  refine Go.to (g' := (mkF m 20 #[.val (.ref a0), .val (.int (0 : Int32))] [(.int (0 : Int32)), (.ref a0)])) (fun t k => XS.iloadN X13.here hx rfl (hb hby d1_19) rfl k) ?_
  have f14 : Fld Z h13 a0 "com/example/skuld/skuld/analysis/Distances" "kept" "Z" (.int (0 : Int32)) := ((((F_kept.ext E3).other W6 (Or.inr (slot_ne (Or.inr (hw _ (List.mem_of_getElem? (i := 15) rfl))) (Or.inl (hw _ (List.mem_of_getElem? (i := 11) rfl))) (by decide) (t := .boolean) (t' := (.array .int)) (by decide) (by decide)))).ext E8).other W13 (Or.inr (slot_ne (Or.inr (hw _ (List.mem_of_getElem? (i := 15) rfl))) (Or.inl (hw _ (List.mem_of_getElem? (i := 13) rfl))) (by decide) (t := .boolean) (t' := (.array .int)) (by decide) (by decide))))
  have f15 : Exa Z h13 a0 "com/example/skuld/skuld/analysis/Distances" := (f12.wr W13)
  obtain ⟨T16, h16, X16, e16, W16, st16⟩ := putFN X13 hx hZ hown (hw _ (List.mem_of_getElem? (i := 14) rfl)) Via.refl e13 f14 f15 (Or.inr ⟨(hw _ (List.mem_of_getElem? (i := 15) rfl)), rfl, hnm⟩) (hw _ (List.mem_of_getElem? (i := 1) rfl)) (ty := .boolean) (v' := (.int (0 : Int32))) (by decide) rfl rfl (g := (mkF m 20 #[.val (.ref a0), .val (.int (0 : Int32))] [(.int (0 : Int32)), (.ref a0)])) rfl rfl (hb hby d1_20)
  have Z16 : n0 ≤ h16.size := Nat.le_trans Z13 (Keep.of_wr W16).1
  have K16 : Keep h0 h16 [a0] := K13.wr W16 (Or.inl (List.mem_of_getElem? (i := 0) rfl))
  have N16 := Fr.snoc X16 N13 g_a0
  have Fw16 : Fld Z h16 a0 "com/example/skuld/skuld/analysis/Distances" "kept" "Z" (.int (0 : Int32)) := f14.same W16
  refine Go.to (g' := (mkF m 23 #[.val (.ref a0), .val (.int (0 : Int32))] [])) st16 ?_
  refine Go.to (g' := (mkF m 24 #[.val (.ref a0), .val (.int (0 : Int32))] [(.ref a0)])) (fun t k => XS.aloadN X16.here hx rfl (hb hby d1_23) rfl rfl k) ?_
  obtain ⟨T17, X17, e17, st17⟩ := getF X16 hx hZ hown (host := "") (Or.inl (hw _ (List.mem_of_getElem? (i := 14) rfl))) Via.refl e16 Fw16 (g := (mkF m 24 #[.val (.ref a0), .val (.int (0 : Int32))] [(.ref a0)])) rfl rfl (hb hby d1_24)
  refine Go.to (g' := (mkF m 27 #[.val (.ref a0), .val (.int (0 : Int32))] [(.int (0 : Int32))])) st17 ?_
  refine Go.to (g' := (mkF m 48 #[.val (.ref a0), .val (.int (0 : Int32))] [])) (fun t k => XS.ifYes X17.here hx rfl (pc0 := 27) (pc' := 48) rfl (hb hby d1_27) rfl ((if0 _ _).trans (teq (by decide)).1) (by decide) (by decide) k) ?_
  exact Go.ret X17 hx Bd.returns Bd.notSynchronized (hb hby d1_48) (by decide) (by decide) e17 ⟨rfl, N16, K16, Fw16⟩

theorem ef_rm6 (m : MethodId) (x0 : Int32) (x1 : Int32) : entryFrame m #[(.int x0), (.int x1)] 2 = mkF m 0 #[.val (.int x0), .val (.int x1)] [] := by first | (simp [entryFrame, mkF, argsToLocals, Value.category]; done) | rfl
def Q6 (Z : State) (p0 : Int32) (p1 : Int32) (h0 : Heap) (n0 : Nat) (v : Option Value) (h : Heap) (L : List Loc) : Prop := v = some (.int (if p0 < p1 then p1 else p0)) ∧ Fr n0 L ∧ h = h0
set_option maxRecDepth 65536 in
set_option maxHeartbeats 40000000 in
theorem rm6 (l : Launch) (Z : State) (aw : Array Value) (hw : ∀ d ∈ tables_1, d.before aw Z = true) (ws : List Jvm.Cond) (p0 : Int32) (p1 : Int32) (h0 : Heap) (n0 : Nat) (Z0 : n0 ≤ h0.size) :
    MetFree l (⟨"java/lang/Math", "max", "(II)I"⟩ : MethodName) (head1 (Jvm.Cond.code (⟨"java/lang/Math", "max", "(II)I"⟩ : MethodName) jdk_29_method_65_code 2 (some .int) :: ws) ({ frames := 0, cells := 0, slots := 0, locals := 0 } : Room)) (fun a U => a = #[(.int p0), (.int p1)] ∧ Z.Warmed39 U.vm ∧ U.heap = h0) (fun _ _ _ _ _ => True) (fun _ U o U' => ∃ v L, o = .returned v ∧ Q6 Z p0 p1 h0 n0 v U'.heap L ∧ FrameEnd U o U' L ({ frames := 0, cells := 0, slots := 0, locals := 0 } : Room).cells ({ frames := 0, cells := 0, slots := 0, locals := 0 } : Room).slots) := by
  refine MetFree.of_bodySF (Jvm.Free.JP.mathPlain rfl (by decide +kernel)) hisR ?_
  intro p e s m args below meth c s₁ Bd hml0 hP hK
  obtain ⟨rfl, hZ, hh⟩ := hP
  have hx := Bd.exec
  have hby := Bd.bytes
  have hml : c.maxLocals = 2 := hml0
  have hown : s.vm.findClass "java/lang/Math" = some m.cls := findClass_of_methodNamed Bd.named
  have hnm := (name_of_methodNamed Bd.named Bd.method).1
  have X0 : Stand p l e ({ frames := 0, cells := 0, slots := 0, locals := 0 } : Room) s m #[(.int p0), (.int p1)] below meth c s₁ [] 0 0 := Stand.of_body Bd
  have e0 : s₁.heap = h0 := by rw [← hh, Bd.state]; rfl
  have N0 := Fr.nil n0
  refine own_go (Q := Q6 Z p0 p1 h0 n0) ?_
  refine Go.to (g' := (mkF m 0 #[.val (.int p0), .val (.int p1)] [])) (fun t k => castTop (ef_rm6 m p0 p1) k) ?_
  refine Go.to (g' := (mkF m 1 #[.val (.int p0), .val (.int p1)] [(.int p0)])) (fun t k => XS.iloadN X0.here hx rfl (hb hby d6_0) rfl k) ?_
  refine Go.to (g' := (mkF m 2 #[.val (.int p0), .val (.int p1)] [(.int p1), (.int p0)])) (fun t k => XS.iloadN X0.here hx rfl (hb hby d6_1) rfl k) ?_
  by_cases c1 : p0 < p1
  · refine Go.to (g' := (mkF m 9 #[.val (.int p0), .val (.int p1)] [])) (fun t k => XS.icmpYes X0.here hx rfl (pc0 := 2) (pc' := 9) rfl (hb hby d6_2) rfl (tlt c1).1 (by decide) (by decide) k) ?_
    refine Go.to (g' := (mkF m 10 #[.val (.int p0), .val (.int p1)] [(.int p1)])) (fun t k => XS.iloadN X0.here hx rfl (hb hby d6_9) rfl k) ?_
    exact Go.retI X0 hx Bd.returns Bd.notSynchronized (hb hby d6_10) (by decide) (by decide) e0 ⟨by rw [if_pos c1], N0, rfl⟩
  · refine Go.to (g' := (mkF m 5 #[.val (.int p0), .val (.int p1)] [])) (fun t k => XS.icmpNo X0.here hx rfl (hb hby d6_2) rfl (flt c1).1 k) ?_
    refine Go.to (g' := (mkF m 6 #[.val (.int p0), .val (.int p1)] [(.int p0)])) (fun t k => XS.iloadN X0.here hx rfl (hb hby d6_5) rfl k) ?_
    refine Go.to (g' := (mkF m 10 #[.val (.int p0), .val (.int p1)] [(.int p0)])) (fun t k => XS.goto X0.here hx rfl (pc0 := 6) (pc' := 10) rfl (hb hby d6_6) (by decide) (by decide) k) ?_
    exact Go.retI X0 hx Bd.returns Bd.notSynchronized (hb hby d6_10) (by decide) (by decide) e0 ⟨by rw [if_neg c1], N0, rfl⟩

theorem ef_rm8 (m : MethodId) (x0 : Int32) (x1 : Int32) : entryFrame m #[(.int x0), (.int x1)] 2 = mkF m 0 #[.val (.int x0), .val (.int x1)] [] := by first | (simp [entryFrame, mkF, argsToLocals, Value.category]; done) | rfl
def Q8 (Z : State) (p0 : Int32) (p1 : Int32) (h0 : Heap) (n0 : Nat) (v : Option Value) (h : Heap) (L : List Loc) : Prop := v = some (.int (if p1 < p0 then p1 else p0)) ∧ Fr n0 L ∧ h = h0
set_option maxRecDepth 65536 in
set_option maxHeartbeats 40000000 in
theorem rm8 (l : Launch) (Z : State) (aw : Array Value) (hw : ∀ d ∈ tables_1, d.before aw Z = true) (ws : List Jvm.Cond) (p0 : Int32) (p1 : Int32) (h0 : Heap) (n0 : Nat) (Z0 : n0 ≤ h0.size) :
    MetFree l (⟨"java/lang/Math", "min", "(II)I"⟩ : MethodName) (head1 (Jvm.Cond.code (⟨"java/lang/Math", "min", "(II)I"⟩ : MethodName) jdk_29_method_69_code 2 (some .int) :: ws) ({ frames := 0, cells := 0, slots := 0, locals := 0 } : Room)) (fun a U => a = #[(.int p0), (.int p1)] ∧ Z.Warmed39 U.vm ∧ U.heap = h0) (fun _ _ _ _ _ => True) (fun _ U o U' => ∃ v L, o = .returned v ∧ Q8 Z p0 p1 h0 n0 v U'.heap L ∧ FrameEnd U o U' L ({ frames := 0, cells := 0, slots := 0, locals := 0 } : Room).cells ({ frames := 0, cells := 0, slots := 0, locals := 0 } : Room).slots) := by
  refine MetFree.of_bodySF (Jvm.Free.JP.mathPlain rfl (by decide +kernel)) hisR ?_
  intro p e s m args below meth c s₁ Bd hml0 hP hK
  obtain ⟨rfl, hZ, hh⟩ := hP
  have hx := Bd.exec
  have hby := Bd.bytes
  have hml : c.maxLocals = 2 := hml0
  have hown : s.vm.findClass "java/lang/Math" = some m.cls := findClass_of_methodNamed Bd.named
  have hnm := (name_of_methodNamed Bd.named Bd.method).1
  have X0 : Stand p l e ({ frames := 0, cells := 0, slots := 0, locals := 0 } : Room) s m #[(.int p0), (.int p1)] below meth c s₁ [] 0 0 := Stand.of_body Bd
  have e0 : s₁.heap = h0 := by rw [← hh, Bd.state]; rfl
  have N0 := Fr.nil n0
  refine own_go (Q := Q8 Z p0 p1 h0 n0) ?_
  refine Go.to (g' := (mkF m 0 #[.val (.int p0), .val (.int p1)] [])) (fun t k => castTop (ef_rm8 m p0 p1) k) ?_
  refine Go.to (g' := (mkF m 1 #[.val (.int p0), .val (.int p1)] [(.int p0)])) (fun t k => XS.iloadN X0.here hx rfl (hb hby d8_0) rfl k) ?_
  refine Go.to (g' := (mkF m 2 #[.val (.int p0), .val (.int p1)] [(.int p1), (.int p0)])) (fun t k => XS.iloadN X0.here hx rfl (hb hby d8_1) rfl k) ?_
  by_cases c1 : p1 < p0
  · refine Go.to (g' := (mkF m 9 #[.val (.int p0), .val (.int p1)] [])) (fun t k => XS.icmpYes X0.here hx rfl (pc0 := 2) (pc' := 9) rfl (hb hby d8_2) rfl (tlt c1).2.2.1 (by decide) (by decide) k) ?_
    refine Go.to (g' := (mkF m 10 #[.val (.int p0), .val (.int p1)] [(.int p1)])) (fun t k => XS.iloadN X0.here hx rfl (hb hby d8_9) rfl k) ?_
    exact Go.retI X0 hx Bd.returns Bd.notSynchronized (hb hby d8_10) (by decide) (by decide) e0 ⟨by rw [if_pos c1], N0, rfl⟩
  · refine Go.to (g' := (mkF m 5 #[.val (.int p0), .val (.int p1)] [])) (fun t k => XS.icmpNo X0.here hx rfl (hb hby d8_2) rfl (flt c1).2.2.1 k) ?_
    refine Go.to (g' := (mkF m 6 #[.val (.int p0), .val (.int p1)] [(.int p0)])) (fun t k => XS.iloadN X0.here hx rfl (hb hby d8_5) rfl k) ?_
    refine Go.to (g' := (mkF m 10 #[.val (.int p0), .val (.int p1)] [(.int p0)])) (fun t k => XS.goto X0.here hx rfl (pc0 := 6) (pc' := 10) rfl (hb hby d8_6) (by decide) (by decide) k) ?_
    exact Go.retI X0 hx Bd.returns Bd.notSynchronized (hb hby d8_10) (by decide) (by decide) e0 ⟨by rw [if_neg c1], N0, rfl⟩

theorem ef_rm7 (m : MethodId) (x0 : Addr) (x1 : Int32) : entryFrame m #[(.ref x0), (.int x1)] 3 = mkF m 0 #[.val (.ref x0), .val (.int x1), .unset] [] := by first | (simp [entryFrame, mkF, argsToLocals, Value.category]; done) | rfl
def Q7 (Z : State) (a0 : Addr) (p1 : Int32) (kk : ClassId) (zl : Int32) (h0 : Heap) (n0 : Nat) (v : Option Value) (h : Heap) (L : List Loc) : Prop := ∃ (b : Addr) (k2 : ClassId), v = some (.ref b) ∧ Fr n0 L ∧ n0 ≤ b ∧ h0.size ≤ b ∧ Keep h0 h [] ∧ Arv Z h b k2 .int p1 [] (.int (0 : Int32))
set_option maxRecDepth 65536 in
set_option maxHeartbeats 40000000 in
theorem rm7 (l : Launch) (Z : State) (aw : Array Value) (hw : ∀ d ∈ tables_1, d.before aw Z = true) (ws : List Jvm.Cond) (a0 : Addr) (p1 : Int32) (kk : ClassId) (zl : Int32) (h0 : Heap) (n0 : Nat) (Z0 : n0 ≤ h0.size) (A1 : Arv Z h0 a0 kk .int zl [] (.int (0 : Int32))) (hne : ¬ p1 = zl) (hlt : ¬ p1 < zl) (hz : ¬ zl < 0) (hp : ¬ p1 < 0) (hcap : p1.toNatClampNeg ≤ 2048) (hzp : zl.toNatClampNeg ≤ p1.toNatClampNeg) :
    MetFree l (⟨"java/util/Arrays", "copyOf", "([II)[I"⟩ : MethodName) (head1 (Jvm.Cond.code (⟨"java/util/Arrays", "copyOf", "([II)[I"⟩ : MethodName) jdk_65_method_123_code 3 (some (.array .int)) :: ws) ({ frames := 1, cells := 1, slots := 2048, locals := 64 } : Room)) (fun a U => a = #[(.ref a0), (.int p1)] ∧ Z.Warmed39 U.vm ∧ U.heap = h0) (fun _ _ _ _ _ => True) (fun _ U o U' => ∃ v L, o = .returned v ∧ Q7 Z a0 p1 kk zl h0 n0 v U'.heap L ∧ FrameEnd U o U' L ({ frames := 1, cells := 1, slots := 2048, locals := 64 } : Room).cells ({ frames := 1, cells := 1, slots := 2048, locals := 64 } : Room).slots) := by
  refine MetFree.of_bodySF (plainFor_of_name pn_java_util_Arrays) hisR ?_
  intro p e s m args below meth c s₁ Bd hml0 hP hK
  obtain ⟨rfl, hZ, hh⟩ := hP
  have hx := Bd.exec
  have hby := Bd.bytes
  have hml : c.maxLocals = 3 := hml0
  have hown : s.vm.findClass "java/util/Arrays" = some m.cls := findClass_of_methodNamed Bd.named
  have hnm := (name_of_methodNamed Bd.named Bd.method).1
  have X0 : Stand p l e ({ frames := 1, cells := 1, slots := 2048, locals := 64 } : Room) s m #[(.ref a0), (.int p1)] below meth c s₁ [] 0 0 := Stand.of_body Bd
  have e0 : s₁.heap = h0 := by rw [← hh, Bd.state]; rfl
  have N0 := Fr.nil n0
  refine own_go (Q := Q7 Z a0 p1 kk zl h0 n0) ?_
  refine Go.to (g' := (mkF m 0 #[.val (.ref a0), .val (.int p1), .unset] [])) (fun t k => castTop (ef_rm7 m a0 p1) k) ?_
  refine Go.to (g' := (mkF m 1 #[.val (.ref a0), .val (.int p1), .unset] [(.int p1)])) (fun t k => XS.iloadN X0.here hx rfl (hb hby d7_0) rfl k) ?_
  refine Go.to (g' := (mkF m 2 #[.val (.ref a0), .val (.int p1), .unset] [(.ref a0), (.int p1)])) (fun t k => XS.aloadN X0.here hx rfl (hb hby d7_1) rfl rfl k) ?_
  obtain ⟨cl1, Ar1, -, S1, M1, -, -⟩ := id A1
  refine Go.to (g' := (mkF m 3 #[.val (.ref a0), .val (.int p1), .unset] [(.int zl), (.int p1)])) (fun t k => X0.arraylength hx (by rw [e0]; exact Ar1.1) (State.isArrayOf_alike hZ.alike Ar1.2.1) (g := (mkF m 2 #[.val (.ref a0), .val (.int p1), .unset] [(.ref a0), (.int p1)])) rfl rfl (hb hby d7_2) _ (by rw [len_of S1 M1]; exact k)) ?_
  refine Go.to (g' := (mkF m 14 #[.val (.ref a0), .val (.int p1), .unset] [])) (fun t k => XS.icmpYes X0.here hx rfl (pc0 := 3) (pc' := 14) rfl (hb hby d7_3) rfl (feq hne).2 (by decide) (by decide) k) ?_
  refine Go.to (g' := (mkF m 15 #[.val (.ref a0), .val (.int p1), .unset] [(.int p1)])) (fun t k => XS.iloadN X0.here hx rfl (hb hby d7_14) rfl k) ?_
  obtain ⟨T2, h2, k2, X2, e2, E2, A2, st2⟩ := newP X0 hx hZ (hw _ (List.mem_of_getElem? (i := 9) rfl)) e0 (g := (mkF m 15 #[.val (.ref a0), .val (.int p1), .unset] [(.int p1)])) rfl (hb hby d7_15) rfl hp (cap := 2048) hcap (by decide) (by decide) (by decide)
  obtain ⟨nb, g2⟩ : ∃ z, z = h0.size := ⟨_, rfl⟩
  rw [← g2] at A2 st2
  have ne_a0_nb : a0 ≠ nb := Nat.ne_of_lt (Nat.lt_of_lt_of_le A1.lt (Nat.le_of_eq g2.symm))
  have g_nb : n0 ≤ nb := Nat.le_trans Z0 (Nat.le_of_eq g2.symm)
  have sz_nb : h0.size ≤ nb := Nat.le_trans (Keep.refl h0 []).1 (Nat.le_of_eq g2.symm)
  have Z2 : n0 ≤ h2.size := Nat.le_trans Z0 E2.1
  have K2 : Keep h0 h2 [] := (Keep.refl h0 []).ext E2
  have V_nb : Arv Z h2 nb k2 .int p1 [] (.int (0 : Int32)) := Arv.new A2 hp
  refine Go.to (g' := (mkF m 17 #[.val (.ref a0), .val (.int p1), .unset] [(.ref nb)])) st2 ?_
  refine Go.to (g' := (mkF m 18 #[.val (.ref a0), .val (.int p1), .val (.ref nb)] [])) (fun t k => XS.astoreN X2.here hx rfl (hb hby d7_17) rfl rfl (l' := #[.val (.ref a0), .val (.int p1), .val (.ref nb)]) rfl k) ?_
  refine Go.to (g' := (mkF m 19 #[.val (.ref a0), .val (.int p1), .val (.ref nb)] [(.ref a0)])) (fun t k => XS.aloadN X2.here hx rfl (hb hby d7_18) rfl rfl k) ?_
  refine Go.to (g' := (mkF m 20 #[.val (.ref a0), .val (.int p1), .val (.ref nb)] [(.int (0 : Int32)), (.ref a0)])) (fun t k => XS.iconst X2.here hx rfl (hb hby d7_19) k) ?_
  refine Go.to (g' := (mkF m 21 #[.val (.ref a0), .val (.int p1), .val (.ref nb)] [(.ref nb), (.int (0 : Int32)), (.ref a0)])) (fun t k => XS.aloadN X2.here hx rfl (hb hby d7_20) rfl rfl k) ?_
  refine Go.to (g' := (mkF m 22 #[.val (.ref a0), .val (.int p1), .val (.ref nb)] [(.int (0 : Int32)), (.ref nb), (.int (0 : Int32)), (.ref a0)])) (fun t k => XS.iconst X2.here hx rfl (hb hby d7_21) k) ?_
  refine Go.to (g' := (mkF m 23 #[.val (.ref a0), .val (.int p1), .val (.ref nb)] [(.ref a0), (.int (0 : Int32)), (.ref nb), (.int (0 : Int32)), (.ref a0)])) (fun t k => XS.aloadN X2.here hx rfl (hb hby d7_22) rfl rfl k) ?_
  have f3 : Arv Z h2 a0 kk .int zl [] (.int (0 : Int32)) := (A1.ext E2)
  obtain ⟨cl4, Ar4, -, S4, M4, -, -⟩ := id f3
  refine Go.to (g' := (mkF m 24 #[.val (.ref a0), .val (.int p1), .val (.ref nb)] [(.int zl), (.int (0 : Int32)), (.ref nb), (.int (0 : Int32)), (.ref a0)])) (fun t k => X2.arraylength hx (by rw [e2]; exact Ar4.1) (State.isArrayOf_alike hZ.alike Ar4.2.1) (g := (mkF m 23 #[.val (.ref a0), .val (.int p1), .val (.ref nb)] [(.ref a0), (.int (0 : Int32)), (.ref nb), (.int (0 : Int32)), (.ref a0)])) rfl rfl (hb hby d7_23) _ (by rw [len_of S4 M4]; exact k)) ?_
  refine Go.to (g' := (mkF m 25 #[.val (.ref a0), .val (.int p1), .val (.ref nb)] [(.int p1), (.int zl), (.int (0 : Int32)), (.ref nb), (.int (0 : Int32)), (.ref a0)])) (fun t k => XS.iloadN X2.here hx rfl (hb hby d7_24) rfl k) ?_
  obtain ⟨v5, _, ⟨T5, L5, k5, n5⟩, -, X5, ⟨Lc5, hQ5, l5, y5, z5⟩, st5⟩ := Jvm.LawKit.callS X2 hx (y := (⟨"java/lang/Math", "min", "(II)I"⟩ : MethodName)) hown (mvT hZ (hw _ (List.mem_of_getElem? (i := 38) rfl))) (mvT hZ (hw _ (List.mem_of_getElem? (i := 39) rfl))) (mvT hZ (hw _ (List.mem_of_getElem? (i := 32) rfl))) (mvT hZ (hw _ (List.mem_of_getElem? (i := 40) rfl))) (by decide) (backOf (W := 4) (rm8 l Z aw hw [] zl p1  h2 n0 Z2 ) hZ (hw _ (List.mem_of_getElem? (i := 40) rfl)) (hw _ (List.mem_of_getElem? (i := 32) rfl)) (by decide) (by decide)) (g := (mkF m 25 #[.val (.ref a0), .val (.int p1), .val (.ref nb)] [(.int p1), (.int zl), (.int (0 : Int32)), (.ref nb), (.int (0 : Int32)), (.ref a0)])) rfl (by rw [hml]; rfl) (argsL := [(.int zl), (.int p1)]) (rest := [(.int (0 : Int32)), (.ref nb), (.int (0 : Int32)), (.ref a0)]) (lenOf pd_28II29I rfl) rfl (by show 2 * 0 + _ ≤ _; exact Nat.le_of_eq rfl) (hb hby d7_25) (fun _ _ => ⟨rfl, e2, (by decide : 1 + 0 ≤ _), (by decide : 2048 + 0 ≤ _)⟩)
  dsimp only [Pt.U, Pt.locs, Pt.cells, Pt.slots] at X5 l5 y5 z5 st5 hQ5
  subst l5 y5 z5
  obtain ⟨rfl, N5q, e5⟩ := hQ5
  have N5 := Fr.app N0 N5q
  refine Go.to (g' := (mkF m 28 #[.val (.ref a0), .val (.int p1), .val (.ref nb)] [(.int (if p1 < zl then p1 else zl)), (.int (0 : Int32)), (.ref nb), (.int (0 : Int32)), (.ref a0)])) st5 ?_
  rw [show (if p1 < zl then p1 else zl) = zl from if_neg hlt]
  obtain ⟨T6, h6, L6, X6, e6, N6, Kc6, Vc6, st6⟩ := cpA X5 hx hZ hown (hw _ (List.mem_of_getElem? (i := 41) rfl)) (hw _ (List.mem_of_getElem? (i := 44) rfl)) (hw _ (List.mem_of_getElem? (i := 42) rfl)) (hw _ (List.mem_of_getElem? (i := 43) rfl)) e5 f3 (V_nb.pad (pad_rep [] (.int (0 : Int32)) zl.toNatClampNeg)) (Or.inl ⟨rfl, rfl⟩) (by decide) (by decide) hz (by rw [own_z0]; omega) (by rw [own_z0]; omega) rfl (by rw [own_z0]; simp) N5 g_nb (g := (mkF m 28 #[.val (.ref a0), .val (.int p1), .val (.ref nb)] [(.int zl), (.int (0 : Int32)), (.ref nb), (.int (0 : Int32)), (.ref a0)])) rfl (by rw [hml]; rfl) rfl (hb hby d7_28) (by decide) (W := 0) (by show 2 * 0 + _ ≤ _; exact Nat.le_of_eq rfl) (by decide)
  have Z6 : n0 ≤ h6.size := Nat.le_trans Z2 Kc6.1
  have K6 : Keep h0 h6 [] := K2.trans Kc6 (fun x hx => by cases List.mem_singleton.mp hx; exact Or.inr sz_nb)
  have Vd6 : Arv Z h6 nb k2 .int p1 [] (.int (0 : Int32)) := Vc6.pad own_cat
  refine Go.to (g' := (mkF m 31 #[.val (.ref a0), .val (.int p1), .val (.ref nb)] [])) st6 ?_
  refine Go.to (g' := (mkF m 32 #[.val (.ref a0), .val (.int p1), .val (.ref nb)] [(.ref nb)])) (fun t k => XS.aloadN X6.here hx rfl (hb hby d7_31) rfl rfl k) ?_
  exact Go.retA X6 hx Bd.returns Bd.notSynchronized (by rfl) (hb hby d7_32) (by decide) (by decide) e6 ⟨nb, _, rfl, N6, g_nb, sz_nb, K6, Vd6⟩

theorem ef_rm4 (m : MethodId) (x0 : Int32) (x1 : Int32) (x2 : Int32) (x3 : Int32) (x4 : Int32) (x5 : Int32) (x6 : Int32) (x7 : Int32) : entryFrame m #[(.int x0), (.int x1), (.int x2), (.int x3), (.int x4), (.int x5), (.int x6), (.int x7)] 10 = mkF m 0 #[.val (.int x0), .val (.int x1), .val (.int x2), .val (.int x3), .val (.int x4), .val (.int x5), .val (.int x6), .val (.int x7), .unset, .unset] [] := by first | (simp [entryFrame, mkF, argsToLocals, Value.category]; done) | rfl
def Q4 (Z : State) (p0 : Int32) (p1 : Int32) (p2 : Int32) (p3 : Int32) (p4 : Int32) (p5 : Int32) (p6 : Int32) (p7 : Int32) (r : Int32) (h0 : Heap) (n0 : Nat) (v : Option Value) (h : Heap) (L : List Loc) : Prop := v = some (.int r) ∧ Fr n0 L ∧ h = h0
set_option maxRecDepth 65536 in
set_option maxHeartbeats 40000000 in
theorem rm4 (l : Launch) (Z : State) (aw : Array Value) (hw : ∀ d ∈ tables_1, d.before aw Z = true) (ws : List Jvm.Cond) (p0 : Int32) (p1 : Int32) (p2 : Int32) (p3 : Int32) (p4 : Int32) (p5 : Int32) (p6 : Int32) (p7 : Int32) (r : Int32) (h0 : Heap) (n0 : Nat) (Z0 : n0 ≤ h0.size) (hr : (own_ex p0 p1 p2 p3 p4 p5 p6 p7 ∧ r = (1 : Int32)) ∨ (¬ own_ex p0 p1 p2 p3 p4 p5 p6 p7 ∧ r = (0 : Int32))) :
    MetFree l (⟨"com/example/skuld/skuld/analysis/DistancesCurrentPinLaw", "expect", "(ZZIIIIII)Z"⟩ : MethodName) (head1 (Jvm.Cond.code (⟨"com/example/skuld/skuld/analysis/DistancesCurrentPinLaw", "expect", "(ZZIIIIII)Z"⟩ : MethodName) method_2_code 10 (some .boolean) :: ws) ({ frames := 0, cells := 0, slots := 0, locals := 0 } : Room)) (fun a U => a = #[(.int p0), (.int p1), (.int p2), (.int p3), (.int p4), (.int p5), (.int p6), (.int p7)] ∧ Z.Warmed39 U.vm ∧ U.heap = h0) (fun _ _ _ _ _ => True) (fun _ U o U' => ∃ v L, o = .returned v ∧ Q4 Z p0 p1 p2 p3 p4 p5 p6 p7 r h0 n0 v U'.heap L ∧ FrameEnd U o U' L ({ frames := 0, cells := 0, slots := 0, locals := 0 } : Room).cells ({ frames := 0, cells := 0, slots := 0, locals := 0 } : Room).slots) := by
  refine MetFree.of_bodySF (plainFor_of_name pn_com_example_skuld_skuld_analysis_DistancesCurrentPinLaw) hisR ?_
  intro p e s m args below meth c s₁ Bd hml0 hP hK
  obtain ⟨rfl, hZ, hh⟩ := hP
  have hx := Bd.exec
  have hby := Bd.bytes
  have hml : c.maxLocals = 10 := hml0
  have hown : s.vm.findClass "com/example/skuld/skuld/analysis/DistancesCurrentPinLaw" = some m.cls := findClass_of_methodNamed Bd.named
  have hnm := (name_of_methodNamed Bd.named Bd.method).1
  have X0 : Stand p l e ({ frames := 0, cells := 0, slots := 0, locals := 0 } : Room) s m #[(.int p0), (.int p1), (.int p2), (.int p3), (.int p4), (.int p5), (.int p6), (.int p7)] below meth c s₁ [] 0 0 := Stand.of_body Bd
  have e0 : s₁.heap = h0 := by rw [← hh, Bd.state]; rfl
  have N0 := Fr.nil n0
  refine own_go (Q := Q4 Z p0 p1 p2 p3 p4 p5 p6 p7 r h0 n0) ?_
  refine Go.to (g' := (mkF m 0 #[.val (.int p0), .val (.int p1), .val (.int p2), .val (.int p3), .val (.int p4), .val (.int p5), .val (.int p6), .val (.int p7), .unset, .unset] [])) (fun t k => castTop (ef_rm4 m p0 p1 p2 p3 p4 p5 p6 p7) k) ?_
  refine Go.to (g' := (mkF m 1 #[.val (.int p0), .val (.int p1), .val (.int p2), .val (.int p3), .val (.int p4), .val (.int p5), .val (.int p6), .val (.int p7), .unset, .unset] [(.int p0)])) (fun t k => XS.iloadN X0.here hx rfl (hb hby d4_0) rfl k) ?_
  by_cases c1 : p0 = (0 : Int32)
  · refine Go.to (g' := (mkF m 4 #[.val (.int p0), .val (.int p1), .val (.int p2), .val (.int p3), .val (.int p4), .val (.int p5), .val (.int p6), .val (.int p7), .unset, .unset] [])) (fun t k => XS.ifNo X0.here hx rfl (hb hby d4_1) rfl ((if0 _ _).trans (teq c1).2) k) ?_
    refine Go.to (g' := (mkF m 5 #[.val (.int p0), .val (.int p1), .val (.int p2), .val (.int p3), .val (.int p4), .val (.int p5), .val (.int p6), .val (.int p7), .unset, .unset] [(.int (1 : Int32))])) (fun t k => XS.iconst X0.here hx rfl (hb hby d4_4) k) ?_
    exact Go.retN X0 hx (t := .boolean) Bd.returns Bd.notSynchronized (by simp) (hb hby d4_5) (by decide) (by decide) e0 ⟨by rw [own_h1 hr (Or.inl c1)]; rfl, N0, rfl⟩
  · refine Go.to (g' := (mkF m 6 #[.val (.int p0), .val (.int p1), .val (.int p2), .val (.int p3), .val (.int p4), .val (.int p5), .val (.int p6), .val (.int p7), .unset, .unset] [])) (fun t k => XS.ifYes X0.here hx rfl (pc0 := 1) (pc' := 6) rfl (hb hby d4_1) rfl ((if0 _ _).trans (feq c1).2) (by decide) (by decide) k) ?_
    refine Go.to (g' := (mkF m 7 #[.val (.int p0), .val (.int p1), .val (.int p2), .val (.int p3), .val (.int p4), .val (.int p5), .val (.int p6), .val (.int p7), .unset, .unset] [(.int (0 : Int32))])) (fun t k => XS.iconst X0.here hx rfl (hb hby d4_6) k) ?_
    refine Go.to (g' := (mkF m 9 #[.val (.int p0), .val (.int p1), .val (.int p2), .val (.int p3), .val (.int p4), .val (.int p5), .val (.int p6), .val (.int p7), .val (.int (0 : Int32)), .unset] [])) (fun t k => XS.istore X0.here hx rfl (hb hby d4_7) rfl (l' := #[.val (.int p0), .val (.int p1), .val (.int p2), .val (.int p3), .val (.int p4), .val (.int p5), .val (.int p6), .val (.int p7), .val (.int (0 : Int32)), .unset]) rfl k) ?_
    refine Go.to (g' := (mkF m 10 #[.val (.int p0), .val (.int p1), .val (.int p2), .val (.int p3), .val (.int p4), .val (.int p5), .val (.int p6), .val (.int p7), .val (.int (0 : Int32)), .unset] [(.int (0 : Int32))])) (fun t k => XS.iconst X0.here hx rfl (hb hby d4_9) k) ?_
    refine Go.to (g' := (mkF m 12 #[.val (.int p0), .val (.int p1), .val (.int p2), .val (.int p3), .val (.int p4), .val (.int p5), .val (.int p6), .val (.int p7), .val (.int (0 : Int32)), .val (.int (0 : Int32))] [])) (fun t k => XS.istore X0.here hx rfl (hb hby d4_10) rfl (l' := #[.val (.int p0), .val (.int p1), .val (.int p2), .val (.int p3), .val (.int p4), .val (.int p5), .val (.int p6), .val (.int p7), .val (.int (0 : Int32)), .val (.int (0 : Int32))]) rfl k) ?_
    refine Go.to (g' := (mkF m 13 #[.val (.int p0), .val (.int p1), .val (.int p2), .val (.int p3), .val (.int p4), .val (.int p5), .val (.int p6), .val (.int p7), .val (.int (0 : Int32)), .val (.int (0 : Int32))] [(.int p1)])) (fun t k => XS.iloadN X0.here hx rfl (hb hby d4_12) rfl k) ?_
    by_cases c2 : p1 = (0 : Int32)
    · refine Go.to (g' := (mkF m 29 #[.val (.int p0), .val (.int p1), .val (.int p2), .val (.int p3), .val (.int p4), .val (.int p5), .val (.int p6), .val (.int p7), .val (.int (0 : Int32)), .val (.int (0 : Int32))] [])) (fun t k => XS.ifYes X0.here hx rfl (pc0 := 13) (pc' := 29) rfl (hb hby d4_13) rfl ((if0 _ _).trans (teq c2).1) (by decide) (by decide) k) ?_
      refine Go.to (g' := (mkF m 31 #[.val (.int p0), .val (.int p1), .val (.int p2), .val (.int p3), .val (.int p4), .val (.int p5), .val (.int p6), .val (.int p7), .val (.int (0 : Int32)), .val (.int (0 : Int32))] [(.int p6)])) (fun t k => XS.iload X0.here hx rfl (hb hby d4_29) rfl k) ?_
      refine Go.to (g' := (mkF m 33 #[.val (.int p0), .val (.int p1), .val (.int p2), .val (.int p3), .val (.int p4), .val (.int p5), .val (.int p6), .val (.int p7), .val (.int (0 : Int32)), .val (.int (0 : Int32))] [(.int (0 : Int32)), (.int p6)])) (fun t k => XS.iload X0.here hx rfl (hb hby d4_31) rfl k) ?_
      by_cases c3 : p6 = (0 : Int32)
      · refine Go.to (g' := (mkF m 36 #[.val (.int p0), .val (.int p1), .val (.int p2), .val (.int p3), .val (.int p4), .val (.int p5), .val (.int p6), .val (.int p7), .val (.int (0 : Int32)), .val (.int (0 : Int32))] [])) (fun t k => XS.icmpNo X0.here hx rfl (hb hby d4_33) rfl (teq c3).2 k) ?_
        refine Go.to (g' := (mkF m 38 #[.val (.int p0), .val (.int p1), .val (.int p2), .val (.int p3), .val (.int p4), .val (.int p5), .val (.int p6), .val (.int p7), .val (.int (0 : Int32)), .val (.int (0 : Int32))] [(.int p7)])) (fun t k => XS.iload X0.here hx rfl (hb hby d4_36) rfl k) ?_
        refine Go.to (g' := (mkF m 40 #[.val (.int p0), .val (.int p1), .val (.int p2), .val (.int p3), .val (.int p4), .val (.int p5), .val (.int p6), .val (.int p7), .val (.int (0 : Int32)), .val (.int (0 : Int32))] [(.int (0 : Int32)), (.int p7)])) (fun t k => XS.iload X0.here hx rfl (hb hby d4_38) rfl k) ?_
        by_cases c4 : p7 = (0 : Int32)
        · refine Go.to (g' := (mkF m 43 #[.val (.int p0), .val (.int p1), .val (.int p2), .val (.int p3), .val (.int p4), .val (.int p5), .val (.int p6), .val (.int p7), .val (.int (0 : Int32)), .val (.int (0 : Int32))] [])) (fun t k => XS.icmpNo X0.here hx rfl (hb hby d4_40) rfl (teq c4).2 k) ?_
          refine Go.to (g' := (mkF m 44 #[.val (.int p0), .val (.int p1), .val (.int p2), .val (.int p3), .val (.int p4), .val (.int p5), .val (.int p6), .val (.int p7), .val (.int (0 : Int32)), .val (.int (0 : Int32))] [(.int (1 : Int32))])) (fun t k => XS.iconst X0.here hx rfl (hb hby d4_43) k) ?_
          refine Go.to (g' := (mkF m 48 #[.val (.int p0), .val (.int p1), .val (.int p2), .val (.int p3), .val (.int p4), .val (.int p5), .val (.int p6), .val (.int p7), .val (.int (0 : Int32)), .val (.int (0 : Int32))] [(.int (1 : Int32))])) (fun t k => XS.goto X0.here hx rfl (pc0 := 44) (pc' := 48) rfl (hb hby d4_44) (by decide) (by decide) k) ?_
          exact Go.retN X0 hx (t := .boolean) Bd.returns Bd.notSynchronized (by simp) (hb hby d4_48) (by decide) (by decide) e0 ⟨by rw [own_h1 hr (Or.inr (Or.inr ⟨(fun q => q.1 c2), c3, c4⟩))]; rfl, N0, rfl⟩
        · refine Go.to (g' := (mkF m 47 #[.val (.int p0), .val (.int p1), .val (.int p2), .val (.int p3), .val (.int p4), .val (.int p5), .val (.int p6), .val (.int p7), .val (.int (0 : Int32)), .val (.int (0 : Int32))] [])) (fun t k => XS.icmpYes X0.here hx rfl (pc0 := 40) (pc' := 47) rfl (hb hby d4_40) rfl (feq c4).2 (by decide) (by decide) k) ?_
          refine Go.to (g' := (mkF m 48 #[.val (.int p0), .val (.int p1), .val (.int p2), .val (.int p3), .val (.int p4), .val (.int p5), .val (.int p6), .val (.int p7), .val (.int (0 : Int32)), .val (.int (0 : Int32))] [(.int (0 : Int32))])) (fun t k => XS.iconst X0.here hx rfl (hb hby d4_47) k) ?_
          exact Go.retN X0 hx (t := .boolean) Bd.returns Bd.notSynchronized (by simp) (hb hby d4_48) (by decide) (by decide) e0 ⟨by rw [own_h0 hr (fun q => q.elim c1 (fun q => q.elim (fun q => (fun q => q.1 c2) q.1) (fun q => (c4 q.2.2))))]; rfl, N0, rfl⟩
      · refine Go.to (g' := (mkF m 47 #[.val (.int p0), .val (.int p1), .val (.int p2), .val (.int p3), .val (.int p4), .val (.int p5), .val (.int p6), .val (.int p7), .val (.int (0 : Int32)), .val (.int (0 : Int32))] [])) (fun t k => XS.icmpYes X0.here hx rfl (pc0 := 33) (pc' := 47) rfl (hb hby d4_33) rfl (feq c3).2 (by decide) (by decide) k) ?_
        refine Go.to (g' := (mkF m 48 #[.val (.int p0), .val (.int p1), .val (.int p2), .val (.int p3), .val (.int p4), .val (.int p5), .val (.int p6), .val (.int p7), .val (.int (0 : Int32)), .val (.int (0 : Int32))] [(.int (0 : Int32))])) (fun t k => XS.iconst X0.here hx rfl (hb hby d4_47) k) ?_
        exact Go.retN X0 hx (t := .boolean) Bd.returns Bd.notSynchronized (by simp) (hb hby d4_48) (by decide) (by decide) e0 ⟨by rw [own_h0 hr (fun q => q.elim c1 (fun q => q.elim (fun q => (fun q => q.1 c2) q.1) (fun q => (c3 q.2.1))))]; rfl, N0, rfl⟩
    · refine Go.to (g' := (mkF m 16 #[.val (.int p0), .val (.int p1), .val (.int p2), .val (.int p3), .val (.int p4), .val (.int p5), .val (.int p6), .val (.int p7), .val (.int (0 : Int32)), .val (.int (0 : Int32))] [])) (fun t k => XS.ifNo X0.here hx rfl (hb hby d4_13) rfl ((if0 _ _).trans (feq c2).1) k) ?_
      refine Go.to (g' := (mkF m 17 #[.val (.int p0), .val (.int p1), .val (.int p2), .val (.int p3), .val (.int p4), .val (.int p5), .val (.int p6), .val (.int p7), .val (.int (0 : Int32)), .val (.int (0 : Int32))] [(.int p3)])) (fun t k => XS.iloadN X0.here hx rfl (hb hby d4_16) rfl k) ?_
      refine Go.to (g' := (mkF m 18 #[.val (.int p0), .val (.int p1), .val (.int p2), .val (.int p3), .val (.int p4), .val (.int p5), .val (.int p6), .val (.int p7), .val (.int (0 : Int32)), .val (.int (0 : Int32))] [(.int p2), (.int p3)])) (fun t k => XS.iloadN X0.here hx rfl (hb hby d4_17) rfl k) ?_
      by_cases c5 : p3 = p2
      · refine Go.to (g' := (mkF m 21 #[.val (.int p0), .val (.int p1), .val (.int p2), .val (.int p3), .val (.int p4), .val (.int p5), .val (.int p6), .val (.int p7), .val (.int (0 : Int32)), .val (.int (0 : Int32))] [])) (fun t k => XS.icmpNo X0.here hx rfl (hb hby d4_18) rfl (teq c5).2 k) ?_
        refine Go.to (g' := (mkF m 23 #[.val (.int p0), .val (.int p1), .val (.int p2), .val (.int p3), .val (.int p4), .val (.int p5), .val (.int p6), .val (.int p7), .val (.int (0 : Int32)), .val (.int (0 : Int32))] [(.int p4)])) (fun t k => XS.iload X0.here hx rfl (hb hby d4_21) rfl k) ?_
        refine Go.to (g' := (mkF m 25 #[.val (.int p0), .val (.int p1), .val (.int p2), .val (.int p3), .val (.int p4), .val (.int p5), .val (.int p6), .val (.int p7), .val (.int p4), .val (.int (0 : Int32))] [])) (fun t k => XS.istore X0.here hx rfl (hb hby d4_23) rfl (l' := #[.val (.int p0), .val (.int p1), .val (.int p2), .val (.int p3), .val (.int p4), .val (.int p5), .val (.int p6), .val (.int p7), .val (.int p4), .val (.int (0 : Int32))]) rfl k) ?_
        refine Go.to (g' := (mkF m 27 #[.val (.int p0), .val (.int p1), .val (.int p2), .val (.int p3), .val (.int p4), .val (.int p5), .val (.int p6), .val (.int p7), .val (.int p4), .val (.int (0 : Int32))] [(.int p5)])) (fun t k => XS.iload X0.here hx rfl (hb hby d4_25) rfl k) ?_
        refine Go.to (g' := (mkF m 29 #[.val (.int p0), .val (.int p1), .val (.int p2), .val (.int p3), .val (.int p4), .val (.int p5), .val (.int p6), .val (.int p7), .val (.int p4), .val (.int p5)] [])) (fun t k => XS.istore X0.here hx rfl (hb hby d4_27) rfl (l' := #[.val (.int p0), .val (.int p1), .val (.int p2), .val (.int p3), .val (.int p4), .val (.int p5), .val (.int p6), .val (.int p7), .val (.int p4), .val (.int p5)]) rfl k) ?_
        refine Go.to (g' := (mkF m 31 #[.val (.int p0), .val (.int p1), .val (.int p2), .val (.int p3), .val (.int p4), .val (.int p5), .val (.int p6), .val (.int p7), .val (.int p4), .val (.int p5)] [(.int p6)])) (fun t k => XS.iload X0.here hx rfl (hb hby d4_29) rfl k) ?_
        refine Go.to (g' := (mkF m 33 #[.val (.int p0), .val (.int p1), .val (.int p2), .val (.int p3), .val (.int p4), .val (.int p5), .val (.int p6), .val (.int p7), .val (.int p4), .val (.int p5)] [(.int p4), (.int p6)])) (fun t k => XS.iload X0.here hx rfl (hb hby d4_31) rfl k) ?_
        by_cases c6 : p6 = p4
        · refine Go.to (g' := (mkF m 36 #[.val (.int p0), .val (.int p1), .val (.int p2), .val (.int p3), .val (.int p4), .val (.int p5), .val (.int p6), .val (.int p7), .val (.int p4), .val (.int p5)] [])) (fun t k => XS.icmpNo X0.here hx rfl (hb hby d4_33) rfl (teq c6).2 k) ?_
          refine Go.to (g' := (mkF m 38 #[.val (.int p0), .val (.int p1), .val (.int p2), .val (.int p3), .val (.int p4), .val (.int p5), .val (.int p6), .val (.int p7), .val (.int p4), .val (.int p5)] [(.int p7)])) (fun t k => XS.iload X0.here hx rfl (hb hby d4_36) rfl k) ?_
          refine Go.to (g' := (mkF m 40 #[.val (.int p0), .val (.int p1), .val (.int p2), .val (.int p3), .val (.int p4), .val (.int p5), .val (.int p6), .val (.int p7), .val (.int p4), .val (.int p5)] [(.int p5), (.int p7)])) (fun t k => XS.iload X0.here hx rfl (hb hby d4_38) rfl k) ?_
          by_cases c7 : p7 = p5
          · refine Go.to (g' := (mkF m 43 #[.val (.int p0), .val (.int p1), .val (.int p2), .val (.int p3), .val (.int p4), .val (.int p5), .val (.int p6), .val (.int p7), .val (.int p4), .val (.int p5)] [])) (fun t k => XS.icmpNo X0.here hx rfl (hb hby d4_40) rfl (teq c7).2 k) ?_
            refine Go.to (g' := (mkF m 44 #[.val (.int p0), .val (.int p1), .val (.int p2), .val (.int p3), .val (.int p4), .val (.int p5), .val (.int p6), .val (.int p7), .val (.int p4), .val (.int p5)] [(.int (1 : Int32))])) (fun t k => XS.iconst X0.here hx rfl (hb hby d4_43) k) ?_
            refine Go.to (g' := (mkF m 48 #[.val (.int p0), .val (.int p1), .val (.int p2), .val (.int p3), .val (.int p4), .val (.int p5), .val (.int p6), .val (.int p7), .val (.int p4), .val (.int p5)] [(.int (1 : Int32))])) (fun t k => XS.goto X0.here hx rfl (pc0 := 44) (pc' := 48) rfl (hb hby d4_44) (by decide) (by decide) k) ?_
            exact Go.retN X0 hx (t := .boolean) Bd.returns Bd.notSynchronized (by simp) (hb hby d4_48) (by decide) (by decide) e0 ⟨by rw [own_h1 hr (Or.inr (Or.inl ⟨⟨c2, c5⟩, c6, c7⟩))]; rfl, N0, rfl⟩
          · refine Go.to (g' := (mkF m 47 #[.val (.int p0), .val (.int p1), .val (.int p2), .val (.int p3), .val (.int p4), .val (.int p5), .val (.int p6), .val (.int p7), .val (.int p4), .val (.int p5)] [])) (fun t k => XS.icmpYes X0.here hx rfl (pc0 := 40) (pc' := 47) rfl (hb hby d4_40) rfl (feq c7).2 (by decide) (by decide) k) ?_
            refine Go.to (g' := (mkF m 48 #[.val (.int p0), .val (.int p1), .val (.int p2), .val (.int p3), .val (.int p4), .val (.int p5), .val (.int p6), .val (.int p7), .val (.int p4), .val (.int p5)] [(.int (0 : Int32))])) (fun t k => XS.iconst X0.here hx rfl (hb hby d4_47) k) ?_
            exact Go.retN X0 hx (t := .boolean) Bd.returns Bd.notSynchronized (by simp) (hb hby d4_48) (by decide) (by decide) e0 ⟨by rw [own_h0 hr (fun q => q.elim c1 (fun q => q.elim (fun q => (c7 q.2.2)) (fun q => q.1 ⟨c2, c5⟩)))]; rfl, N0, rfl⟩
        · refine Go.to (g' := (mkF m 47 #[.val (.int p0), .val (.int p1), .val (.int p2), .val (.int p3), .val (.int p4), .val (.int p5), .val (.int p6), .val (.int p7), .val (.int p4), .val (.int p5)] [])) (fun t k => XS.icmpYes X0.here hx rfl (pc0 := 33) (pc' := 47) rfl (hb hby d4_33) rfl (feq c6).2 (by decide) (by decide) k) ?_
          refine Go.to (g' := (mkF m 48 #[.val (.int p0), .val (.int p1), .val (.int p2), .val (.int p3), .val (.int p4), .val (.int p5), .val (.int p6), .val (.int p7), .val (.int p4), .val (.int p5)] [(.int (0 : Int32))])) (fun t k => XS.iconst X0.here hx rfl (hb hby d4_47) k) ?_
          exact Go.retN X0 hx (t := .boolean) Bd.returns Bd.notSynchronized (by simp) (hb hby d4_48) (by decide) (by decide) e0 ⟨by rw [own_h0 hr (fun q => q.elim c1 (fun q => q.elim (fun q => (c6 q.2.1)) (fun q => q.1 ⟨c2, c5⟩)))]; rfl, N0, rfl⟩
      · refine Go.to (g' := (mkF m 29 #[.val (.int p0), .val (.int p1), .val (.int p2), .val (.int p3), .val (.int p4), .val (.int p5), .val (.int p6), .val (.int p7), .val (.int (0 : Int32)), .val (.int (0 : Int32))] [])) (fun t k => XS.icmpYes X0.here hx rfl (pc0 := 18) (pc' := 29) rfl (hb hby d4_18) rfl (feq c5).2 (by decide) (by decide) k) ?_
        refine Go.to (g' := (mkF m 31 #[.val (.int p0), .val (.int p1), .val (.int p2), .val (.int p3), .val (.int p4), .val (.int p5), .val (.int p6), .val (.int p7), .val (.int (0 : Int32)), .val (.int (0 : Int32))] [(.int p6)])) (fun t k => XS.iload X0.here hx rfl (hb hby d4_29) rfl k) ?_
        refine Go.to (g' := (mkF m 33 #[.val (.int p0), .val (.int p1), .val (.int p2), .val (.int p3), .val (.int p4), .val (.int p5), .val (.int p6), .val (.int p7), .val (.int (0 : Int32)), .val (.int (0 : Int32))] [(.int (0 : Int32)), (.int p6)])) (fun t k => XS.iload X0.here hx rfl (hb hby d4_31) rfl k) ?_
        by_cases c8 : p6 = (0 : Int32)
        · refine Go.to (g' := (mkF m 36 #[.val (.int p0), .val (.int p1), .val (.int p2), .val (.int p3), .val (.int p4), .val (.int p5), .val (.int p6), .val (.int p7), .val (.int (0 : Int32)), .val (.int (0 : Int32))] [])) (fun t k => XS.icmpNo X0.here hx rfl (hb hby d4_33) rfl (teq c8).2 k) ?_
          refine Go.to (g' := (mkF m 38 #[.val (.int p0), .val (.int p1), .val (.int p2), .val (.int p3), .val (.int p4), .val (.int p5), .val (.int p6), .val (.int p7), .val (.int (0 : Int32)), .val (.int (0 : Int32))] [(.int p7)])) (fun t k => XS.iload X0.here hx rfl (hb hby d4_36) rfl k) ?_
          refine Go.to (g' := (mkF m 40 #[.val (.int p0), .val (.int p1), .val (.int p2), .val (.int p3), .val (.int p4), .val (.int p5), .val (.int p6), .val (.int p7), .val (.int (0 : Int32)), .val (.int (0 : Int32))] [(.int (0 : Int32)), (.int p7)])) (fun t k => XS.iload X0.here hx rfl (hb hby d4_38) rfl k) ?_
          by_cases c9 : p7 = (0 : Int32)
          · refine Go.to (g' := (mkF m 43 #[.val (.int p0), .val (.int p1), .val (.int p2), .val (.int p3), .val (.int p4), .val (.int p5), .val (.int p6), .val (.int p7), .val (.int (0 : Int32)), .val (.int (0 : Int32))] [])) (fun t k => XS.icmpNo X0.here hx rfl (hb hby d4_40) rfl (teq c9).2 k) ?_
            refine Go.to (g' := (mkF m 44 #[.val (.int p0), .val (.int p1), .val (.int p2), .val (.int p3), .val (.int p4), .val (.int p5), .val (.int p6), .val (.int p7), .val (.int (0 : Int32)), .val (.int (0 : Int32))] [(.int (1 : Int32))])) (fun t k => XS.iconst X0.here hx rfl (hb hby d4_43) k) ?_
            refine Go.to (g' := (mkF m 48 #[.val (.int p0), .val (.int p1), .val (.int p2), .val (.int p3), .val (.int p4), .val (.int p5), .val (.int p6), .val (.int p7), .val (.int (0 : Int32)), .val (.int (0 : Int32))] [(.int (1 : Int32))])) (fun t k => XS.goto X0.here hx rfl (pc0 := 44) (pc' := 48) rfl (hb hby d4_44) (by decide) (by decide) k) ?_
            exact Go.retN X0 hx (t := .boolean) Bd.returns Bd.notSynchronized (by simp) (hb hby d4_48) (by decide) (by decide) e0 ⟨by rw [own_h1 hr (Or.inr (Or.inr ⟨(fun q => c5 q.2), c8, c9⟩))]; rfl, N0, rfl⟩
          · refine Go.to (g' := (mkF m 47 #[.val (.int p0), .val (.int p1), .val (.int p2), .val (.int p3), .val (.int p4), .val (.int p5), .val (.int p6), .val (.int p7), .val (.int (0 : Int32)), .val (.int (0 : Int32))] [])) (fun t k => XS.icmpYes X0.here hx rfl (pc0 := 40) (pc' := 47) rfl (hb hby d4_40) rfl (feq c9).2 (by decide) (by decide) k) ?_
            refine Go.to (g' := (mkF m 48 #[.val (.int p0), .val (.int p1), .val (.int p2), .val (.int p3), .val (.int p4), .val (.int p5), .val (.int p6), .val (.int p7), .val (.int (0 : Int32)), .val (.int (0 : Int32))] [(.int (0 : Int32))])) (fun t k => XS.iconst X0.here hx rfl (hb hby d4_47) k) ?_
            exact Go.retN X0 hx (t := .boolean) Bd.returns Bd.notSynchronized (by simp) (hb hby d4_48) (by decide) (by decide) e0 ⟨by rw [own_h0 hr (fun q => q.elim c1 (fun q => q.elim (fun q => (fun q => c5 q.2) q.1) (fun q => (c9 q.2.2))))]; rfl, N0, rfl⟩
        · refine Go.to (g' := (mkF m 47 #[.val (.int p0), .val (.int p1), .val (.int p2), .val (.int p3), .val (.int p4), .val (.int p5), .val (.int p6), .val (.int p7), .val (.int (0 : Int32)), .val (.int (0 : Int32))] [])) (fun t k => XS.icmpYes X0.here hx rfl (pc0 := 33) (pc' := 47) rfl (hb hby d4_33) rfl (feq c8).2 (by decide) (by decide) k) ?_
          refine Go.to (g' := (mkF m 48 #[.val (.int p0), .val (.int p1), .val (.int p2), .val (.int p3), .val (.int p4), .val (.int p5), .val (.int p6), .val (.int p7), .val (.int (0 : Int32)), .val (.int (0 : Int32))] [(.int (0 : Int32))])) (fun t k => XS.iconst X0.here hx rfl (hb hby d4_47) k) ?_
          exact Go.retN X0 hx (t := .boolean) Bd.returns Bd.notSynchronized (by simp) (hb hby d4_48) (by decide) (by decide) e0 ⟨by rw [own_h0 hr (fun q => q.elim c1 (fun q => q.elim (fun q => (fun q => c5 q.2) q.1) (fun q => (c8 q.2.1))))]; rfl, N0, rfl⟩

theorem ef_rm3k (m : MethodId) (x0 : Addr) (x1 : Int32) (x2 : Int32) (x3 : Int32) : entryFrame m #[(.ref x0), (.int x1), (.int x2), (.int x3)] 4 = mkF m 0 #[.val (.ref x0), .val (.int x1), .val (.int x2), .val (.int x3)] [] := by first | (simp [entryFrame, mkF, argsToLocals, Value.category]; done) | rfl
def Q3k (Z : State) (a0 : Addr) (p1 : Int32) (p2 : Int32) (p3 : Int32) (b1 : Addr) (b2 : Addr) (nn : Int) (ff : Int32 → Int32) (gf : Int32 → Int32) (r : Int32) (h0 : Heap) (n0 : Nat) (v : Option Value) (h : Heap) (L : List Loc) : Prop := v = some (.int r) ∧ Fr n0 L ∧ h = h0
set_option maxRecDepth 65536 in
set_option maxHeartbeats 40000000 in
theorem rm3k (l : Launch) (Z : State) (aw : Array Value) (hw : ∀ d ∈ tables_1, d.before aw Z = true) (ws : List Jvm.Cond) (a0 : Addr) (p1 : Int32) (p2 : Int32) (p3 : Int32) (b1 : Addr) (b2 : Addr) (nn : Int) (ff : Int32 → Int32) (gf : Int32 → Int32) (r : Int32) (h0 : Heap) (n0 : Nat) (Z0 : n0 ≤ h0.size) (Fk : Fld Z h0 a0 "com/example/skuld/skuld/analysis/Distances" "kept" "Z" (.int (1 : Int32))) (F1 : Fld Z h0 a0 "com/example/skuld/skuld/analysis/Distances" "firings" "[I" (.ref b1)) (F2 : Fld Z h0 a0 "com/example/skuld/skuld/analysis/Distances" "times" "[I" (.ref b2)) (I1 : own_In Z h0 b1 nn ff) (I2 : own_In Z h0 b2 nn gf) (hi : ¬ p1 < 0) (hn : p1.toInt < nn) (hr : ((ff p1 = p2 ∧ gf p1 = p3) ∧ r = (1 : Int32)) ∨ (¬ (ff p1 = p2 ∧ gf p1 = p3) ∧ r = (0 : Int32))) :
    MetFree l (⟨"com/example/skuld/skuld/analysis/Distances", "current", "(III)Z"⟩ : MethodName) (head1 (Jvm.Cond.code (⟨"com/example/skuld/skuld/analysis/Distances", "current", "(III)Z"⟩ : MethodName) prog_6_method_3_code 4 (some .boolean) :: ws) ({ frames := 0, cells := 0, slots := 0, locals := 0 } : Room)) (fun a U => a = #[(.ref a0), (.int p1), (.int p2), (.int p3)] ∧ Z.Warmed39 U.vm ∧ U.heap = h0) (fun _ _ _ _ _ => True) (fun _ U o U' => ∃ v L, o = .returned v ∧ Q3k Z a0 p1 p2 p3 b1 b2 nn ff gf r h0 n0 v U'.heap L ∧ FrameEnd U o U' L ({ frames := 0, cells := 0, slots := 0, locals := 0 } : Room).cells ({ frames := 0, cells := 0, slots := 0, locals := 0 } : Room).slots) := by
  refine MetFree.of_bodySF (plainFor_of_name pn_com_example_skuld_skuld_analysis_Distances) hisR ?_
  intro p e s m args below meth c s₁ Bd hml0 hP hK
  obtain ⟨rfl, hZ, hh⟩ := hP
  have hx := Bd.exec
  have hby := Bd.bytes
  have hml : c.maxLocals = 4 := hml0
  have hown : s.vm.findClass "com/example/skuld/skuld/analysis/Distances" = some m.cls := findClass_of_methodNamed Bd.named
  have hnm := (name_of_methodNamed Bd.named Bd.method).1
  have X0 : Stand p l e ({ frames := 0, cells := 0, slots := 0, locals := 0 } : Room) s m #[(.ref a0), (.int p1), (.int p2), (.int p3)] below meth c s₁ [] 0 0 := Stand.of_body Bd
  have e0 : s₁.heap = h0 := by rw [← hh, Bd.state]; rfl
  have N0 := Fr.nil n0
  refine own_go (Q := Q3k Z a0 p1 p2 p3 b1 b2 nn ff gf r h0 n0) ?_
  refine Go.to (g' := (mkF m 0 #[.val (.ref a0), .val (.int p1), .val (.int p2), .val (.int p3)] [])) (fun t k => castTop (ef_rm3k m a0 p1 p2 p3) k) ?_
  refine Go.to (g' := (mkF m 1 #[.val (.ref a0), .val (.int p1), .val (.int p2), .val (.int p3)] [(.ref a0)])) (fun t k => XS.aloadN X0.here hx rfl (hb hby d3_0) rfl rfl k) ?_
  obtain ⟨T1, X1, e1, st1⟩ := getF X0 hx hZ hown (host := "") (Or.inl (hw _ (List.mem_of_getElem? (i := 14) rfl))) Via.refl e0 Fk (g := (mkF m 1 #[.val (.ref a0), .val (.int p1), .val (.int p2), .val (.int p3)] [(.ref a0)])) rfl rfl (hb hby d3_1)
  refine Go.to (g' := (mkF m 4 #[.val (.ref a0), .val (.int p1), .val (.int p2), .val (.int p3)] [(.int (1 : Int32))])) st1 ?_
  refine Go.to (g' := (mkF m 7 #[.val (.ref a0), .val (.int p1), .val (.int p2), .val (.int p3)] [])) (fun t k => XS.ifNo X1.here hx rfl (hb hby d3_4) rfl ((if0 _ _).trans (feq (by decide)).1) k) ?_
  refine Go.to (g' := (mkF m 8 #[.val (.ref a0), .val (.int p1), .val (.int p2), .val (.int p3)] [(.ref a0)])) (fun t k => XS.aloadN X1.here hx rfl (hb hby d3_7) rfl rfl k) ?_
  obtain ⟨T2, X2, e2, st2⟩ := getF X1 hx hZ hown (host := "") (Or.inl (hw _ (List.mem_of_getElem? (i := 10) rfl))) Via.refl e1 F1 (g := (mkF m 8 #[.val (.ref a0), .val (.int p1), .val (.int p2), .val (.int p3)] [(.ref a0)])) rfl rfl (hb hby d3_8)
  refine Go.to (g' := (mkF m 11 #[.val (.ref a0), .val (.int p1), .val (.int p2), .val (.int p3)] [(.ref b1)])) st2 ?_
  refine Go.to (g' := (mkF m 12 #[.val (.ref a0), .val (.int p1), .val (.int p2), .val (.int p3)] [(.int p1), (.ref b1)])) (fun t k => XS.iloadN X2.here hx rfl (hb hby d3_11) rfl k) ?_
  obtain ⟨cl3, Ar3, Sz3, Hf3⟩ := id I1
  refine Go.to (g' := (mkF m 13 #[.val (.ref a0), .val (.int p1), .val (.int p2), .val (.int p3)] [(.int (ff p1))])) (fun t k => X2.iaload hx (j := p1) (v := (.int (ff p1))) (by rw [e2]; exact Ar3.1) (State.isArrayOf_alike hZ.alike Ar3.2.1) Ar3.2.2 (own_by_in Sz3 hi hn) (Hf3 _ hi hn) (g := (mkF m 12 #[.val (.ref a0), .val (.int p1), .val (.int p2), .val (.int p3)] [(.int p1), (.ref b1)])) rfl rfl (hb hby d3_12) _ k) ?_
  refine Go.to (g' := (mkF m 14 #[.val (.ref a0), .val (.int p1), .val (.int p2), .val (.int p3)] [(.int p2), (.int (ff p1))])) (fun t k => XS.iloadN X2.here hx rfl (hb hby d3_13) rfl k) ?_
  by_cases c4 : (ff p1) = p2
  · refine Go.to (g' := (mkF m 17 #[.val (.ref a0), .val (.int p1), .val (.int p2), .val (.int p3)] [])) (fun t k => XS.icmpNo X2.here hx rfl (hb hby d3_14) rfl (teq c4).2 k) ?_
    refine Go.to (g' := (mkF m 18 #[.val (.ref a0), .val (.int p1), .val (.int p2), .val (.int p3)] [(.ref a0)])) (fun t k => XS.aloadN X2.here hx rfl (hb hby d3_17) rfl rfl k) ?_
    obtain ⟨T5, X5, e5, st5⟩ := getF X2 hx hZ hown (host := "") (Or.inl (hw _ (List.mem_of_getElem? (i := 12) rfl))) Via.refl e2 F2 (g := (mkF m 18 #[.val (.ref a0), .val (.int p1), .val (.int p2), .val (.int p3)] [(.ref a0)])) rfl rfl (hb hby d3_18)
    refine Go.to (g' := (mkF m 21 #[.val (.ref a0), .val (.int p1), .val (.int p2), .val (.int p3)] [(.ref b2)])) st5 ?_
    refine Go.to (g' := (mkF m 22 #[.val (.ref a0), .val (.int p1), .val (.int p2), .val (.int p3)] [(.int p1), (.ref b2)])) (fun t k => XS.iloadN X5.here hx rfl (hb hby d3_21) rfl k) ?_
    obtain ⟨cl6, Ar6, Sz6, Hf6⟩ := id I2
    refine Go.to (g' := (mkF m 23 #[.val (.ref a0), .val (.int p1), .val (.int p2), .val (.int p3)] [(.int (gf p1))])) (fun t k => X5.iaload hx (j := p1) (v := (.int (gf p1))) (by rw [e5]; exact Ar6.1) (State.isArrayOf_alike hZ.alike Ar6.2.1) Ar6.2.2 (own_by_in Sz6 hi hn) (Hf6 _ hi hn) (g := (mkF m 22 #[.val (.ref a0), .val (.int p1), .val (.int p2), .val (.int p3)] [(.int p1), (.ref b2)])) rfl rfl (hb hby d3_22) _ k) ?_
    refine Go.to (g' := (mkF m 24 #[.val (.ref a0), .val (.int p1), .val (.int p2), .val (.int p3)] [(.int p3), (.int (gf p1))])) (fun t k => XS.iloadN X5.here hx rfl (hb hby d3_23) rfl k) ?_
    by_cases c7 : (gf p1) = p3
    · refine Go.to (g' := (mkF m 27 #[.val (.ref a0), .val (.int p1), .val (.int p2), .val (.int p3)] [])) (fun t k => XS.icmpNo X5.here hx rfl (hb hby d3_24) rfl (teq c7).2 k) ?_
      refine Go.to (g' := (mkF m 28 #[.val (.ref a0), .val (.int p1), .val (.int p2), .val (.int p3)] [(.int (1 : Int32))])) (fun t k => XS.iconst X5.here hx rfl (hb hby d3_27) k) ?_
      refine Go.to (g' := (mkF m 32 #[.val (.ref a0), .val (.int p1), .val (.int p2), .val (.int p3)] [(.int (1 : Int32))])) (fun t k => XS.goto X5.here hx rfl (pc0 := 28) (pc' := 32) rfl (hb hby d3_28) (by decide) (by decide) k) ?_
      exact Go.retN X5 hx (t := .boolean) Bd.returns Bd.notSynchronized (by simp) (hb hby d3_32) (by decide) (by decide) e5 ⟨by rw [own_h1 hr ⟨c4, c7⟩]; rfl, N0, rfl⟩
    · refine Go.to (g' := (mkF m 31 #[.val (.ref a0), .val (.int p1), .val (.int p2), .val (.int p3)] [])) (fun t k => XS.icmpYes X5.here hx rfl (pc0 := 24) (pc' := 31) rfl (hb hby d3_24) rfl (feq c7).2 (by decide) (by decide) k) ?_
      refine Go.to (g' := (mkF m 32 #[.val (.ref a0), .val (.int p1), .val (.int p2), .val (.int p3)] [(.int (0 : Int32))])) (fun t k => XS.iconst X5.here hx rfl (hb hby d3_31) k) ?_
      exact Go.retN X5 hx (t := .boolean) Bd.returns Bd.notSynchronized (by simp) (hb hby d3_32) (by decide) (by decide) e5 ⟨by rw [own_h0 hr (fun q => c7 q.2)]; rfl, N0, rfl⟩
  · refine Go.to (g' := (mkF m 31 #[.val (.ref a0), .val (.int p1), .val (.int p2), .val (.int p3)] [])) (fun t k => XS.icmpYes X2.here hx rfl (pc0 := 14) (pc' := 31) rfl (hb hby d3_14) rfl (feq c4).2 (by decide) (by decide) k) ?_
    refine Go.to (g' := (mkF m 32 #[.val (.ref a0), .val (.int p1), .val (.int p2), .val (.int p3)] [(.int (0 : Int32))])) (fun t k => XS.iconst X2.here hx rfl (hb hby d3_31) k) ?_
    exact Go.retN X2 hx (t := .boolean) Bd.returns Bd.notSynchronized (by simp) (hb hby d3_32) (by decide) (by decide) e2 ⟨by rw [own_h0 hr (fun q => c4 q.1)]; rfl, N0, rfl⟩

theorem ef_rm3n (m : MethodId) (x0 : Addr) (x1 : Int32) (x2 : Int32) (x3 : Int32) : entryFrame m #[(.ref x0), (.int x1), (.int x2), (.int x3)] 4 = mkF m 0 #[.val (.ref x0), .val (.int x1), .val (.int x2), .val (.int x3)] [] := by first | (simp [entryFrame, mkF, argsToLocals, Value.category]; done) | rfl
def Q3n (Z : State) (a0 : Addr) (p1 : Int32) (p2 : Int32) (p3 : Int32) (h0 : Heap) (n0 : Nat) (v : Option Value) (h : Heap) (L : List Loc) : Prop := v = some (.int (1 : Int32)) ∧ Fr n0 L ∧ h = h0
set_option maxRecDepth 65536 in
set_option maxHeartbeats 40000000 in
theorem rm3n (l : Launch) (Z : State) (aw : Array Value) (hw : ∀ d ∈ tables_1, d.before aw Z = true) (ws : List Jvm.Cond) (a0 : Addr) (p1 : Int32) (p2 : Int32) (p3 : Int32) (h0 : Heap) (n0 : Nat) (Z0 : n0 ≤ h0.size) (Fk : Fld Z h0 a0 "com/example/skuld/skuld/analysis/Distances" "kept" "Z" (.int (0 : Int32))) :
    MetFree l (⟨"com/example/skuld/skuld/analysis/Distances", "current", "(III)Z"⟩ : MethodName) (head1 (Jvm.Cond.code (⟨"com/example/skuld/skuld/analysis/Distances", "current", "(III)Z"⟩ : MethodName) prog_6_method_3_code 4 (some .boolean) :: ws) ({ frames := 0, cells := 0, slots := 0, locals := 0 } : Room)) (fun a U => a = #[(.ref a0), (.int p1), (.int p2), (.int p3)] ∧ Z.Warmed39 U.vm ∧ U.heap = h0) (fun _ _ _ _ _ => True) (fun _ U o U' => ∃ v L, o = .returned v ∧ Q3n Z a0 p1 p2 p3 h0 n0 v U'.heap L ∧ FrameEnd U o U' L ({ frames := 0, cells := 0, slots := 0, locals := 0 } : Room).cells ({ frames := 0, cells := 0, slots := 0, locals := 0 } : Room).slots) := by
  refine MetFree.of_bodySF (plainFor_of_name pn_com_example_skuld_skuld_analysis_Distances) hisR ?_
  intro p e s m args below meth c s₁ Bd hml0 hP hK
  obtain ⟨rfl, hZ, hh⟩ := hP
  have hx := Bd.exec
  have hby := Bd.bytes
  have hml : c.maxLocals = 4 := hml0
  have hown : s.vm.findClass "com/example/skuld/skuld/analysis/Distances" = some m.cls := findClass_of_methodNamed Bd.named
  have hnm := (name_of_methodNamed Bd.named Bd.method).1
  have X0 : Stand p l e ({ frames := 0, cells := 0, slots := 0, locals := 0 } : Room) s m #[(.ref a0), (.int p1), (.int p2), (.int p3)] below meth c s₁ [] 0 0 := Stand.of_body Bd
  have e0 : s₁.heap = h0 := by rw [← hh, Bd.state]; rfl
  have N0 := Fr.nil n0
  refine own_go (Q := Q3n Z a0 p1 p2 p3 h0 n0) ?_
  refine Go.to (g' := (mkF m 0 #[.val (.ref a0), .val (.int p1), .val (.int p2), .val (.int p3)] [])) (fun t k => castTop (ef_rm3n m a0 p1 p2 p3) k) ?_
  refine Go.to (g' := (mkF m 1 #[.val (.ref a0), .val (.int p1), .val (.int p2), .val (.int p3)] [(.ref a0)])) (fun t k => XS.aloadN X0.here hx rfl (hb hby d3_0) rfl rfl k) ?_
  obtain ⟨T1, X1, e1, st1⟩ := getF X0 hx hZ hown (host := "") (Or.inl (hw _ (List.mem_of_getElem? (i := 14) rfl))) Via.refl e0 Fk (g := (mkF m 1 #[.val (.ref a0), .val (.int p1), .val (.int p2), .val (.int p3)] [(.ref a0)])) rfl rfl (hb hby d3_1)
  refine Go.to (g' := (mkF m 4 #[.val (.ref a0), .val (.int p1), .val (.int p2), .val (.int p3)] [(.int (0 : Int32))])) st1 ?_
  refine Go.to (g' := (mkF m 27 #[.val (.ref a0), .val (.int p1), .val (.int p2), .val (.int p3)] [])) (fun t k => XS.ifYes X1.here hx rfl (pc0 := 4) (pc' := 27) rfl (hb hby d3_4) rfl ((if0 _ _).trans (teq (by decide)).1) (by decide) (by decide) k) ?_
  refine Go.to (g' := (mkF m 28 #[.val (.ref a0), .val (.int p1), .val (.int p2), .val (.int p3)] [(.int (1 : Int32))])) (fun t k => XS.iconst X1.here hx rfl (hb hby d3_27) k) ?_
  refine Go.to (g' := (mkF m 32 #[.val (.ref a0), .val (.int p1), .val (.int p2), .val (.int p3)] [(.int (1 : Int32))])) (fun t k => XS.goto X1.here hx rfl (pc0 := 28) (pc' := 32) rfl (hb hby d3_28) (by decide) (by decide) k) ?_
  exact Go.retN X1 hx (t := .boolean) Bd.returns Bd.notSynchronized (by simp) (hb hby d3_32) (by decide) (by decide) e1 ⟨rfl, N0, rfl⟩

theorem ef_rm5n (m : MethodId) (x0 : Addr) (x1 : Int32) (x2 : Int32) (x3 : Int32) (x4 : Int32) : entryFrame m #[(.ref x0), (.int x1), (.int x2), (.int x3), (.int x4)] 6 = mkF m 0 #[.val (.ref x0), .val (.int x1), .val (.int x2), .val (.int x3), .val (.int x4), .unset] [] := by first | (simp [entryFrame, mkF, argsToLocals, Value.category]; done) | rfl
def Q5n (Z : State) (a0 : Addr) (p1 : Int32) (p2 : Int32) (p3 : Int32) (p4 : Int32) (h0 : Heap) (n0 : Nat) (v : Option Value) (h : Heap) (L : List Loc) : Prop := v = some (.int (1 : Int32)) ∧ Fr n0 L ∧ h = h0
set_option maxRecDepth 65536 in
set_option maxHeartbeats 40000000 in
theorem rm5n (l : Launch) (Z : State) (aw : Array Value) (hw : ∀ d ∈ tables_1, d.before aw Z = true) (ws : List Jvm.Cond) (a0 : Addr) (p1 : Int32) (p2 : Int32) (p3 : Int32) (p4 : Int32) (h0 : Heap) (n0 : Nat) (Z0 : n0 ≤ h0.size) (Fk : Fld Z h0 a0 "com/example/skuld/skuld/analysis/Distances" "kept" "Z" (.int (0 : Int32))) (hp : p2 = (1 : Int32)) :
    MetFree l (⟨"com/example/skuld/skuld/analysis/Distances", "shorter", "(IZII)Z"⟩ : MethodName) (head1 (Jvm.Cond.code (⟨"com/example/skuld/skuld/analysis/Distances", "shorter", "(IZII)Z"⟩ : MethodName) prog_6_method_2_code 6 (some .boolean) :: ws) ({ frames := 0, cells := 0, slots := 0, locals := 0 } : Room)) (fun a U => a = #[(.ref a0), (.int p1), (.int p2), (.int p3), (.int p4)] ∧ Z.Warmed39 U.vm ∧ U.heap = h0) (fun _ _ _ _ _ => True) (fun _ U o U' => ∃ v L, o = .returned v ∧ Q5n Z a0 p1 p2 p3 p4 h0 n0 v U'.heap L ∧ FrameEnd U o U' L ({ frames := 0, cells := 0, slots := 0, locals := 0 } : Room).cells ({ frames := 0, cells := 0, slots := 0, locals := 0 } : Room).slots) := by
  refine MetFree.of_bodySF (plainFor_of_name pn_com_example_skuld_skuld_analysis_Distances) hisR ?_
  intro p e s m args below meth c s₁ Bd hml0 hP hK
  obtain ⟨rfl, hZ, hh⟩ := hP
  have hx := Bd.exec
  have hby := Bd.bytes
  have hml : c.maxLocals = 6 := hml0
  have hown : s.vm.findClass "com/example/skuld/skuld/analysis/Distances" = some m.cls := findClass_of_methodNamed Bd.named
  have hnm := (name_of_methodNamed Bd.named Bd.method).1
  have X0 : Stand p l e ({ frames := 0, cells := 0, slots := 0, locals := 0 } : Room) s m #[(.ref a0), (.int p1), (.int p2), (.int p3), (.int p4)] below meth c s₁ [] 0 0 := Stand.of_body Bd
  have e0 : s₁.heap = h0 := by rw [← hh, Bd.state]; rfl
  have N0 := Fr.nil n0
  refine own_go (Q := Q5n Z a0 p1 p2 p3 p4 h0 n0) ?_
  refine Go.to (g' := (mkF m 0 #[.val (.ref a0), .val (.int p1), .val (.int p2), .val (.int p3), .val (.int p4), .unset] [])) (fun t k => castTop (ef_rm5n m a0 p1 p2 p3 p4) k) ?_
  subst hp
  refine Go.to (g' := (mkF m 1 #[.val (.ref a0), .val (.int p1), .val (.int (1 : Int32)), .val (.int p3), .val (.int p4), .unset] [(.int (1 : Int32))])) (fun t k => XS.iloadN X0.here hx rfl (hb hby d5_0) rfl k) ?_
  refine Go.to (g' := (mkF m 42 #[.val (.ref a0), .val (.int p1), .val (.int (1 : Int32)), .val (.int p3), .val (.int p4), .unset] [])) (fun t k => XS.ifYes X0.here hx rfl (pc0 := 1) (pc' := 42) rfl (hb hby d5_1) rfl ((if0 _ _).trans (feq (by decide)).2) (by decide) (by decide) k) ?_
  refine Go.to (g' := (mkF m 43 #[.val (.ref a0), .val (.int p1), .val (.int (1 : Int32)), .val (.int p3), .val (.int p4), .unset] [(.int (1 : Int32))])) (fun t k => XS.iconst X0.here hx rfl (hb hby d5_42) k) ?_
  refine Go.to (g' := (mkF m 47 #[.val (.ref a0), .val (.int p1), .val (.int (1 : Int32)), .val (.int p3), .val (.int p4), .unset] [(.int (1 : Int32))])) (fun t k => XS.goto X0.here hx rfl (pc0 := 43) (pc' := 47) rfl (hb hby d5_43) (by decide) (by decide) k) ?_
  refine Go.to (g' := (mkF m 49 #[.val (.ref a0), .val (.int p1), .val (.int (1 : Int32)), .val (.int p3), .val (.int p4), .val (.int (1 : Int32))] [])) (fun t k => XS.istore X0.here hx rfl (hb hby d5_47) rfl (l' := #[.val (.ref a0), .val (.int p1), .val (.int (1 : Int32)), .val (.int p3), .val (.int p4), .val (.int (1 : Int32))]) rfl k) ?_
  refine Go.to (g' := (mkF m 50 #[.val (.ref a0), .val (.int p1), .val (.int (1 : Int32)), .val (.int p3), .val (.int p4), .val (.int (1 : Int32))] [(.ref a0)])) (fun t k => XS.aloadN X0.here hx rfl (hb hby d5_49) rfl rfl k) ?_
  obtain ⟨T1, X1, e1, st1⟩ := getF X0 hx hZ hown (host := "") (Or.inl (hw _ (List.mem_of_getElem? (i := 14) rfl))) Via.refl e0 Fk (g := (mkF m 50 #[.val (.ref a0), .val (.int p1), .val (.int (1 : Int32)), .val (.int p3), .val (.int p4), .val (.int (1 : Int32))] [(.ref a0)])) rfl rfl (hb hby d5_50)
  refine Go.to (g' := (mkF m 53 #[.val (.ref a0), .val (.int p1), .val (.int (1 : Int32)), .val (.int p3), .val (.int p4), .val (.int (1 : Int32))] [(.int (0 : Int32))])) st1 ?_
  refine Go.to (g' := (mkF m 125 #[.val (.ref a0), .val (.int p1), .val (.int (1 : Int32)), .val (.int p3), .val (.int p4), .val (.int (1 : Int32))] [])) (fun t k => XS.ifYes X1.here hx rfl (pc0 := 53) (pc' := 125) rfl (hb hby d5_53) rfl ((if0 _ _).trans (teq (by decide)).1) (by decide) (by decide) k) ?_
  refine Go.to (g' := (mkF m 127 #[.val (.ref a0), .val (.int p1), .val (.int (1 : Int32)), .val (.int p3), .val (.int p4), .val (.int (1 : Int32))] [(.int (1 : Int32))])) (fun t k => XS.iload X1.here hx rfl (hb hby d5_125) rfl k) ?_
  exact Go.retN X1 hx (t := .boolean) Bd.returns Bd.notSynchronized (by simp) (hb hby d5_127) (by decide) (by decide) e1 ⟨rfl, N0, rfl⟩

theorem ef_rm5k (m : MethodId) (x0 : Addr) (x1 : Int32) (x2 : Int32) (x3 : Int32) (x4 : Int32) : entryFrame m #[(.ref x0), (.int x1), (.int x2), (.int x3), (.int x4)] 6 = mkF m 0 #[.val (.ref x0), .val (.int x1), .val (.int x2), .val (.int x3), .val (.int x4), .unset] [] := by first | (simp [entryFrame, mkF, argsToLocals, Value.category]; done) | rfl
def Q5k (Z : State) (a0 : Addr) (p1 : Int32) (p2 : Int32) (p3 : Int32) (p4 : Int32) (b1 : Addr) (b2 : Addr) (k1 : ClassId) (k2 : ClassId) (h0 : Heap) (n0 : Nat) (v : Option Value) (h : Heap) (L : List Loc) : Prop := ∃ (c1 c2 : Addr) (nn : Int), v = some (.int (1 : Int32)) ∧ Fr n0 L ∧ Keep h0 h [a0, b1, b2] ∧ Fld Z h a0 "com/example/skuld/skuld/analysis/Distances" "kept" "Z" (.int (1 : Int32)) ∧ Fld Z h a0 "com/example/skuld/skuld/analysis/Distances" "firings" "[I" (.ref c1) ∧ Fld Z h a0 "com/example/skuld/skuld/analysis/Distances" "times" "[I" (.ref c2) ∧ own_In Z h c1 nn (own_upd (fun _ => (0 : Int32)) p1 p3) ∧ own_In Z h c2 nn (own_upd (fun _ => (0 : Int32)) p1 p4) ∧ 1024 ≤ nn ∧ p1.toInt < nn
set_option maxRecDepth 65536 in
set_option maxHeartbeats 40000000 in
theorem rm5k (l : Launch) (Z : State) (aw : Array Value) (hw : ∀ d ∈ tables_1, d.before aw Z = true) (ws : List Jvm.Cond) (a0 : Addr) (p1 : Int32) (p2 : Int32) (p3 : Int32) (p4 : Int32) (b1 : Addr) (b2 : Addr) (k1 : ClassId) (k2 : ClassId) (h0 : Heap) (n0 : Nat) (Z0 : n0 ≤ h0.size) (E_a0 : Exa Z h0 a0 "com/example/skuld/skuld/analysis/Distances") (Fk : Fld Z h0 a0 "com/example/skuld/skuld/analysis/Distances" "kept" "Z" (.int (1 : Int32))) (F1 : Fld Z h0 a0 "com/example/skuld/skuld/analysis/Distances" "firings" "[I" (.ref b1)) (F2 : Fld Z h0 a0 "com/example/skuld/skuld/analysis/Distances" "times" "[I" (.ref b2)) (A1 : Arv Z h0 b1 k1 .int (1024 : Int32) [] (.int (0 : Int32))) (A2 : Arv Z h0 b2 k2 .int (1024 : Int32) [] (.int (0 : Int32))) (g_a0 : n0 ≤ a0) (g_b1 : n0 ≤ b1) (g_b2 : n0 ≤ b2) (n1 : a0 ≠ b1) (n2 : a0 ≠ b2) (n3 : b1 ≠ b2) (hi : ¬ p1 < 0) (hi2 : p1.toInt ≤ 2047) (hp : p2 = (1 : Int32)) :
    MetFree l (⟨"com/example/skuld/skuld/analysis/Distances", "shorter", "(IZII)Z"⟩ : MethodName) (head1 (Jvm.Cond.code (⟨"com/example/skuld/skuld/analysis/Distances", "shorter", "(IZII)Z"⟩ : MethodName) prog_6_method_2_code 6 (some .boolean) :: ws) ({ frames := 2, cells := 2, slots := 4096, locals := 79 } : Room)) (fun a U => a = #[(.ref a0), (.int p1), (.int p2), (.int p3), (.int p4)] ∧ Z.Warmed39 U.vm ∧ U.heap = h0) (fun _ _ _ _ _ => True) (fun _ U o U' => ∃ v L, o = .returned v ∧ Q5k Z a0 p1 p2 p3 p4 b1 b2 k1 k2 h0 n0 v U'.heap L ∧ FrameEnd U o U' L ({ frames := 2, cells := 2, slots := 4096, locals := 79 } : Room).cells ({ frames := 2, cells := 2, slots := 4096, locals := 79 } : Room).slots) := by
  refine MetFree.of_bodySF (plainFor_of_name pn_com_example_skuld_skuld_analysis_Distances) hisR ?_
  intro p e s m args below meth c s₁ Bd hml0 hP hK
  obtain ⟨rfl, hZ, hh⟩ := hP
  have hx := Bd.exec
  have hby := Bd.bytes
  have hml : c.maxLocals = 6 := hml0
  have hown : s.vm.findClass "com/example/skuld/skuld/analysis/Distances" = some m.cls := findClass_of_methodNamed Bd.named
  have hnm := (name_of_methodNamed Bd.named Bd.method).1
  have X0 : Stand p l e ({ frames := 2, cells := 2, slots := 4096, locals := 79 } : Room) s m #[(.ref a0), (.int p1), (.int p2), (.int p3), (.int p4)] below meth c s₁ [] 0 0 := Stand.of_body Bd
  have e0 : s₁.heap = h0 := by rw [← hh, Bd.state]; rfl
  have N0 := Fr.nil n0
  refine own_go (Q := Q5k Z a0 p1 p2 p3 p4 b1 b2 k1 k2 h0 n0) ?_
  refine Go.to (g' := (mkF m 0 #[.val (.ref a0), .val (.int p1), .val (.int p2), .val (.int p3), .val (.int p4), .unset] [])) (fun t k => castTop (ef_rm5k m a0 p1 p2 p3 p4) k) ?_
  subst hp
  refine Go.to (g' := (mkF m 1 #[.val (.ref a0), .val (.int p1), .val (.int (1 : Int32)), .val (.int p3), .val (.int p4), .unset] [(.int (1 : Int32))])) (fun t k => XS.iloadN X0.here hx rfl (hb hby d5_0) rfl k) ?_
  refine Go.to (g' := (mkF m 42 #[.val (.ref a0), .val (.int p1), .val (.int (1 : Int32)), .val (.int p3), .val (.int p4), .unset] [])) (fun t k => XS.ifYes X0.here hx rfl (pc0 := 1) (pc' := 42) rfl (hb hby d5_1) rfl ((if0 _ _).trans (feq (by decide)).2) (by decide) (by decide) k) ?_
  refine Go.to (g' := (mkF m 43 #[.val (.ref a0), .val (.int p1), .val (.int (1 : Int32)), .val (.int p3), .val (.int p4), .unset] [(.int (1 : Int32))])) (fun t k => XS.iconst X0.here hx rfl (hb hby d5_42) k) ?_
  refine Go.to (g' := (mkF m 47 #[.val (.ref a0), .val (.int p1), .val (.int (1 : Int32)), .val (.int p3), .val (.int p4), .unset] [(.int (1 : Int32))])) (fun t k => XS.goto X0.here hx rfl (pc0 := 43) (pc' := 47) rfl (hb hby d5_43) (by decide) (by decide) k) ?_
  refine Go.to (g' := (mkF m 49 #[.val (.ref a0), .val (.int p1), .val (.int (1 : Int32)), .val (.int p3), .val (.int p4), .val (.int (1 : Int32))] [])) (fun t k => XS.istore X0.here hx rfl (hb hby d5_47) rfl (l' := #[.val (.ref a0), .val (.int p1), .val (.int (1 : Int32)), .val (.int p3), .val (.int p4), .val (.int (1 : Int32))]) rfl k) ?_
  refine Go.to (g' := (mkF m 50 #[.val (.ref a0), .val (.int p1), .val (.int (1 : Int32)), .val (.int p3), .val (.int p4), .val (.int (1 : Int32))] [(.ref a0)])) (fun t k => XS.aloadN X0.here hx rfl (hb hby d5_49) rfl rfl k) ?_
  obtain ⟨T1, X1, e1, st1⟩ := getF X0 hx hZ hown (host := "") (Or.inl (hw _ (List.mem_of_getElem? (i := 14) rfl))) Via.refl e0 Fk (g := (mkF m 50 #[.val (.ref a0), .val (.int p1), .val (.int (1 : Int32)), .val (.int p3), .val (.int p4), .val (.int (1 : Int32))] [(.ref a0)])) rfl rfl (hb hby d5_50)
  refine Go.to (g' := (mkF m 53 #[.val (.ref a0), .val (.int p1), .val (.int (1 : Int32)), .val (.int p3), .val (.int p4), .val (.int (1 : Int32))] [(.int (1 : Int32))])) st1 ?_
  refine Go.to (g' := (mkF m 56 #[.val (.ref a0), .val (.int p1), .val (.int (1 : Int32)), .val (.int p3), .val (.int p4), .val (.int (1 : Int32))] [])) (fun t k => XS.ifNo X1.here hx rfl (hb hby d5_53) rfl ((if0 _ _).trans (feq (by decide)).1) k) ?_
  refine Go.to (g' := (mkF m 58 #[.val (.ref a0), .val (.int p1), .val (.int (1 : Int32)), .val (.int p3), .val (.int p4), .val (.int (1 : Int32))] [(.int (1 : Int32))])) (fun t k => XS.iload X1.here hx rfl (hb hby d5_56) rfl k) ?_
  refine Go.to (g' := (mkF m 61 #[.val (.ref a0), .val (.int p1), .val (.int (1 : Int32)), .val (.int p3), .val (.int p4), .val (.int (1 : Int32))] [])) (fun t k => XS.ifNo X1.here hx rfl (hb hby d5_58) rfl ((if0 _ _).trans (feq (by decide)).1) k) ?_
  refine Go.to (g' := (mkF m 62 #[.val (.ref a0), .val (.int p1), .val (.int (1 : Int32)), .val (.int p3), .val (.int p4), .val (.int (1 : Int32))] [(.int p1)])) (fun t k => XS.iloadN X1.here hx rfl (hb hby d5_61) rfl k) ?_
  refine Go.to (g' := (mkF m 63 #[.val (.ref a0), .val (.int p1), .val (.int (1 : Int32)), .val (.int p3), .val (.int p4), .val (.int (1 : Int32))] [(.ref a0), (.int p1)])) (fun t k => XS.aloadN X1.here hx rfl (hb hby d5_62) rfl rfl k) ?_
  obtain ⟨T2, X2, e2, st2⟩ := getF X1 hx hZ hown (host := "") (Or.inl (hw _ (List.mem_of_getElem? (i := 10) rfl))) Via.refl e1 F1 (g := (mkF m 63 #[.val (.ref a0), .val (.int p1), .val (.int (1 : Int32)), .val (.int p3), .val (.int p4), .val (.int (1 : Int32))] [(.ref a0), (.int p1)])) rfl rfl (hb hby d5_63)
  refine Go.to (g' := (mkF m 66 #[.val (.ref a0), .val (.int p1), .val (.int (1 : Int32)), .val (.int p3), .val (.int p4), .val (.int (1 : Int32))] [(.ref b1), (.int p1)])) st2 ?_
  obtain ⟨cl3, Ar3, -, S3, M3, -, -⟩ := id A1
  refine Go.to (g' := (mkF m 67 #[.val (.ref a0), .val (.int p1), .val (.int (1 : Int32)), .val (.int p3), .val (.int p4), .val (.int (1 : Int32))] [(.int (1024 : Int32)), (.int p1)])) (fun t k => X2.arraylength hx (by rw [e2]; exact Ar3.1) (State.isArrayOf_alike hZ.alike Ar3.2.1) (g := (mkF m 66 #[.val (.ref a0), .val (.int p1), .val (.int (1 : Int32)), .val (.int p3), .val (.int p4), .val (.int (1 : Int32))] [(.ref b1), (.int p1)])) rfl rfl (hb hby d5_66) _ (by rw [len_of S3 M3]; exact k)) ?_
  by_cases c4 : p1 < (1024 : Int32)
  · refine Go.to (g' := (mkF m 110 #[.val (.ref a0), .val (.int p1), .val (.int (1 : Int32)), .val (.int p3), .val (.int p4), .val (.int (1 : Int32))] [])) (fun t k => XS.icmpYes X2.here hx rfl (pc0 := 67) (pc' := 110) rfl (hb hby d5_67) rfl (tlt c4).1 (by decide) (by decide) k) ?_
    have I_b1 : own_In Z h0 b1 1024 (fun _ => (0 : Int32)) := own_in_of A1 rfl
    have I_b2 : own_In Z h0 b2 1024 (fun _ => (0 : Int32)) := own_in_of A2 rfl
    have hin_ : p1.toInt < 1024 := own_1024 c4
    refine Go.to (g' := (mkF m 111 #[.val (.ref a0), .val (.int p1), .val (.int (1 : Int32)), .val (.int p3), .val (.int p4), .val (.int (1 : Int32))] [(.ref a0)])) (fun t k => XS.aloadN X2.here hx rfl (hb hby d5_110) rfl rfl k) ?_
    obtain ⟨T5, X5, e5, st5⟩ := getF X2 hx hZ hown (host := "") (Or.inl (hw _ (List.mem_of_getElem? (i := 10) rfl))) Via.refl e2 F1 (g := (mkF m 111 #[.val (.ref a0), .val (.int p1), .val (.int (1 : Int32)), .val (.int p3), .val (.int p4), .val (.int (1 : Int32))] [(.ref a0)])) rfl rfl (hb hby d5_111)
    refine Go.to (g' := (mkF m 114 #[.val (.ref a0), .val (.int p1), .val (.int (1 : Int32)), .val (.int p3), .val (.int p4), .val (.int (1 : Int32))] [(.ref b1)])) st5 ?_
    refine Go.to (g' := (mkF m 115 #[.val (.ref a0), .val (.int p1), .val (.int (1 : Int32)), .val (.int p3), .val (.int p4), .val (.int (1 : Int32))] [(.int p1), (.ref b1)])) (fun t k => XS.iloadN X5.here hx rfl (hb hby d5_114) rfl k) ?_
    refine Go.to (g' := (mkF m 116 #[.val (.ref a0), .val (.int p1), .val (.int (1 : Int32)), .val (.int p3), .val (.int p4), .val (.int (1 : Int32))] [(.int p3), (.int p1), (.ref b1)])) (fun t k => XS.iloadN X5.here hx rfl (hb hby d5_115) rfl k) ?_
    obtain ⟨cl6, Ar6, Sz6, Hf6⟩ := id I_b1
    obtain ⟨T7, h7, X7, e7, W7, st7⟩ := stI X5 hx hZ e5 Ar6 (j := p1) (own_by_in Sz6 hi hin_) (g := (mkF m 116 #[.val (.ref a0), .val (.int p1), .val (.int (1 : Int32)), .val (.int p3), .val (.int p4), .val (.int (1 : Int32))] [(.int p3), (.int p1), (.ref b1)])) rfl rfl (hb hby d5_116)
    have Z7 : n0 ≤ h7.size := Nat.le_trans Z0 (Keep.of_wr W7).1
    have K7 : Keep h0 h7 [a0, b1, b2] := (Keep.refl h0 [a0, b1, b2]).wr W7 (Or.inl (List.mem_of_getElem? (i := 1) rfl))
    have N7 := Fr.snoc X7 N0 g_b1
    have B7 : own_In Z h7 b1 1024 (own_upd (fun _ => (0 : Int32)) p1 p3) := I_b1.set hi W7
    refine Go.to (g' := (mkF m 117 #[.val (.ref a0), .val (.int p1), .val (.int (1 : Int32)), .val (.int p3), .val (.int p4), .val (.int (1 : Int32))] [])) st7 ?_
    refine Go.to (g' := (mkF m 118 #[.val (.ref a0), .val (.int p1), .val (.int (1 : Int32)), .val (.int p3), .val (.int p4), .val (.int (1 : Int32))] [(.ref a0)])) (fun t k => XS.aloadN X7.here hx rfl (hb hby d5_117) rfl rfl k) ?_
    have f8 : Fld Z h7 a0 "com/example/skuld/skuld/analysis/Distances" "times" "[I" (.ref b2) := (F2.other W7 (Or.inl n1))
    obtain ⟨T9, X9, e9, st9⟩ := getF X7 hx hZ hown (host := "") (Or.inl (hw _ (List.mem_of_getElem? (i := 12) rfl))) Via.refl e7 f8 (g := (mkF m 118 #[.val (.ref a0), .val (.int p1), .val (.int (1 : Int32)), .val (.int p3), .val (.int p4), .val (.int (1 : Int32))] [(.ref a0)])) rfl rfl (hb hby d5_118)
    refine Go.to (g' := (mkF m 121 #[.val (.ref a0), .val (.int p1), .val (.int (1 : Int32)), .val (.int p3), .val (.int p4), .val (.int (1 : Int32))] [(.ref b2)])) st9 ?_
    refine Go.to (g' := (mkF m 122 #[.val (.ref a0), .val (.int p1), .val (.int (1 : Int32)), .val (.int p3), .val (.int p4), .val (.int (1 : Int32))] [(.int p1), (.ref b2)])) (fun t k => XS.iloadN X9.here hx rfl (hb hby d5_121) rfl k) ?_
    refine Go.to (g' := (mkF m 124 #[.val (.ref a0), .val (.int p1), .val (.int (1 : Int32)), .val (.int p3), .val (.int p4), .val (.int (1 : Int32))] [(.int p4), (.int p1), (.ref b2)])) (fun t k => XS.iload X9.here hx rfl (hb hby d5_122) rfl k) ?_
    have f10 : own_In Z h7 b2 1024 (fun _ => (0 : Int32)) := (I_b2.other W7 (Ne.symm n3))
    obtain ⟨cl11, Ar11, Sz11, Hf11⟩ := id f10
    obtain ⟨T12, h12, X12, e12, W12, st12⟩ := stI X9 hx hZ e9 Ar11 (j := p1) (own_by_in Sz11 hi hin_) (g := (mkF m 124 #[.val (.ref a0), .val (.int p1), .val (.int (1 : Int32)), .val (.int p3), .val (.int p4), .val (.int (1 : Int32))] [(.int p4), (.int p1), (.ref b2)])) rfl rfl (hb hby d5_124)
    have Z12 : n0 ≤ h12.size := Nat.le_trans Z7 (Keep.of_wr W12).1
    have K12 : Keep h0 h12 [a0, b1, b2] := K7.wr W12 (Or.inl (List.mem_of_getElem? (i := 2) rfl))
    have N12 := Fr.snoc X12 N7 g_b2
    have B12 : own_In Z h12 b2 1024 (own_upd (fun _ => (0 : Int32)) p1 p4) := f10.set hi W12
    refine Go.to (g' := (mkF m 125 #[.val (.ref a0), .val (.int p1), .val (.int (1 : Int32)), .val (.int p3), .val (.int p4), .val (.int (1 : Int32))] [])) st12 ?_
    refine Go.to (g' := (mkF m 127 #[.val (.ref a0), .val (.int p1), .val (.int (1 : Int32)), .val (.int p3), .val (.int p4), .val (.int (1 : Int32))] [(.int (1 : Int32))])) (fun t k => XS.iload X12.here hx rfl (hb hby d5_125) rfl k) ?_
    have f13 : Fld Z h12 a0 "com/example/skuld/skuld/analysis/Distances" "kept" "Z" (.int (1 : Int32)) := ((Fk.other W7 (Or.inl n1)).other W12 (Or.inl n2))
    have f14 : Fld Z h12 a0 "com/example/skuld/skuld/analysis/Distances" "firings" "[I" (.ref b1) := ((F1.other W7 (Or.inl n1)).other W12 (Or.inl n2))
    have f15 : Fld Z h12 a0 "com/example/skuld/skuld/analysis/Distances" "times" "[I" (.ref b2) := (f8.other W12 (Or.inl n2))
    have f16 : own_In Z h12 b1 1024 (own_upd (fun _ => (0 : Int32)) p1 p3) := (B7.other W12 n3)
    exact Go.retN X12 hx (t := .boolean) Bd.returns Bd.notSynchronized (by simp) (hb hby d5_127) (by decide) (by decide) e12 ⟨b1, b2, 1024, rfl, N12, K12, f13, f14, f15, f16, B12, (by decide), hin_⟩
  · refine Go.to (g' := (mkF m 70 #[.val (.ref a0), .val (.int p1), .val (.int (1 : Int32)), .val (.int p3), .val (.int p4), .val (.int (1 : Int32))] [])) (fun t k => XS.icmpNo X2.here hx rfl (hb hby d5_67) rfl (flt c4).1 k) ?_
    refine Go.to (g' := (mkF m 71 #[.val (.ref a0), .val (.int p1), .val (.int (1 : Int32)), .val (.int p3), .val (.int p4), .val (.int (1 : Int32))] [(.ref a0)])) (fun t k => XS.aloadN X2.here hx rfl (hb hby d5_70) rfl rfl k) ?_
    refine Go.to (g' := (mkF m 72 #[.val (.ref a0), .val (.int p1), .val (.int (1 : Int32)), .val (.int p3), .val (.int p4), .val (.int (1 : Int32))] [(.ref a0), (.ref a0)])) (fun t k => XS.aloadN X2.here hx rfl (hb hby d5_71) rfl rfl k) ?_
    obtain ⟨T17, X17, e17, st17⟩ := getF X2 hx hZ hown (host := "") (Or.inl (hw _ (List.mem_of_getElem? (i := 10) rfl))) Via.refl e2 F1 (g := (mkF m 72 #[.val (.ref a0), .val (.int p1), .val (.int (1 : Int32)), .val (.int p3), .val (.int p4), .val (.int (1 : Int32))] [(.ref a0), (.ref a0)])) rfl rfl (hb hby d5_72)
    refine Go.to (g' := (mkF m 75 #[.val (.ref a0), .val (.int p1), .val (.int (1 : Int32)), .val (.int p3), .val (.int p4), .val (.int (1 : Int32))] [(.ref b1), (.ref a0)])) st17 ?_
    refine Go.to (g' := (mkF m 76 #[.val (.ref a0), .val (.int p1), .val (.int (1 : Int32)), .val (.int p3), .val (.int p4), .val (.int (1 : Int32))] [(.int p1), (.ref b1), (.ref a0)])) (fun t k => XS.iloadN X17.here hx rfl (hb hby d5_75) rfl k) ?_
    refine Go.to (g' := (mkF m 77 #[.val (.ref a0), .val (.int p1), .val (.int (1 : Int32)), .val (.int p3), .val (.int p4), .val (.int (1 : Int32))] [(.int (1 : Int32)), (.int p1), (.ref b1), (.ref a0)])) (fun t k => XS.iconst X17.here hx rfl (hb hby d5_76) k) ?_
    refine Go.to (g' := (mkF m 78 #[.val (.ref a0), .val (.int p1), .val (.int (1 : Int32)), .val (.int p3), .val (.int p4), .val (.int (1 : Int32))] [(.int (p1 + (1 : Int32))), (.ref b1), (.ref a0)])) (fun t k => XS.iadd X17.here hx rfl (hb hby d5_77) rfl k) ?_
    refine Go.to (g' := (mkF m 79 #[.val (.ref a0), .val (.int p1), .val (.int (1 : Int32)), .val (.int p3), .val (.int p4), .val (.int (1 : Int32))] [(.ref a0), (.int (p1 + (1 : Int32))), (.ref b1), (.ref a0)])) (fun t k => XS.aloadN X17.here hx rfl (hb hby d5_78) rfl rfl k) ?_
    obtain ⟨T18, X18, e18, st18⟩ := getF X17 hx hZ hown (host := "") (Or.inl (hw _ (List.mem_of_getElem? (i := 10) rfl))) Via.refl e17 F1 (g := (mkF m 79 #[.val (.ref a0), .val (.int p1), .val (.int (1 : Int32)), .val (.int p3), .val (.int p4), .val (.int (1 : Int32))] [(.ref a0), (.int (p1 + (1 : Int32))), (.ref b1), (.ref a0)])) rfl rfl (hb hby d5_79)
    refine Go.to (g' := (mkF m 82 #[.val (.ref a0), .val (.int p1), .val (.int (1 : Int32)), .val (.int p3), .val (.int p4), .val (.int (1 : Int32))] [(.ref b1), (.int (p1 + (1 : Int32))), (.ref b1), (.ref a0)])) st18 ?_
    obtain ⟨cl19, Ar19, -, S19, M19, -, -⟩ := id A1
    refine Go.to (g' := (mkF m 83 #[.val (.ref a0), .val (.int p1), .val (.int (1 : Int32)), .val (.int p3), .val (.int p4), .val (.int (1 : Int32))] [(.int (1024 : Int32)), (.int (p1 + (1 : Int32))), (.ref b1), (.ref a0)])) (fun t k => X18.arraylength hx (by rw [e18]; exact Ar19.1) (State.isArrayOf_alike hZ.alike Ar19.2.1) (g := (mkF m 82 #[.val (.ref a0), .val (.int p1), .val (.int (1 : Int32)), .val (.int p3), .val (.int p4), .val (.int (1 : Int32))] [(.ref b1), (.int (p1 + (1 : Int32))), (.ref b1), (.ref a0)])) rfl rfl (hb hby d5_82) _ (by rw [len_of S19 M19]; exact k)) ?_
    refine Go.to (g' := (mkF m 84 #[.val (.ref a0), .val (.int p1), .val (.int (1 : Int32)), .val (.int p3), .val (.int p4), .val (.int (1 : Int32))] [(.int (2 : Int32)), (.int (1024 : Int32)), (.int (p1 + (1 : Int32))), (.ref b1), (.ref a0)])) (fun t k => XS.iconst X18.here hx rfl (hb hby d5_83) k) ?_
    refine Go.to (g' := (mkF m 85 #[.val (.ref a0), .val (.int p1), .val (.int (1 : Int32)), .val (.int p3), .val (.int p4), .val (.int (1 : Int32))] [(.int ((1024 : Int32) * (2 : Int32))), (.int (p1 + (1 : Int32))), (.ref b1), (.ref a0)])) (fun t k => XS.imul X18.here hx rfl (hb hby d5_84) rfl k) ?_
    obtain ⟨v20, _, ⟨T20, L20, k20, n20⟩, -, X20, ⟨Lc20, hQ20, l20, y20, z20⟩, st20⟩ := Jvm.LawKit.callS X18 hx (y := (⟨"java/lang/Math", "max", "(II)I"⟩ : MethodName)) hown (mvT hZ (hw _ (List.mem_of_getElem? (i := 30) rfl))) (mvT hZ (hw _ (List.mem_of_getElem? (i := 31) rfl))) (mvT hZ (hw _ (List.mem_of_getElem? (i := 32) rfl))) (mvT hZ (hw _ (List.mem_of_getElem? (i := 33) rfl))) (by decide) (backOf (W := 2) (rm6 l Z aw hw [] (p1 + (1 : Int32)) ((1024 : Int32) * (2 : Int32))  h0 n0 Z0 ) hZ (hw _ (List.mem_of_getElem? (i := 33) rfl)) (hw _ (List.mem_of_getElem? (i := 32) rfl)) (by decide) (by decide)) (g := (mkF m 85 #[.val (.ref a0), .val (.int p1), .val (.int (1 : Int32)), .val (.int p3), .val (.int p4), .val (.int (1 : Int32))] [(.int ((1024 : Int32) * (2 : Int32))), (.int (p1 + (1 : Int32))), (.ref b1), (.ref a0)])) rfl (by rw [hml]; rfl) (argsL := [(.int (p1 + (1 : Int32))), (.int ((1024 : Int32) * (2 : Int32)))]) (rest := [(.ref b1), (.ref a0)]) (lenOf pd_28II29I rfl) rfl (by show 2 * 0 + _ ≤ _; exact Nat.le_of_eq rfl) (hb hby d5_85) (fun _ _ => ⟨rfl, e18, (by decide : 0 + 0 ≤ _), (by decide : 0 + 0 ≤ _)⟩)
    dsimp only [Pt.U, Pt.locs, Pt.cells, Pt.slots] at X20 l20 y20 z20 st20 hQ20
    subst l20 y20 z20
    obtain ⟨rfl, N20q, e20⟩ := hQ20
    have N20 := Fr.app N0 N20q
    refine Go.to (g' := (mkF m 88 #[.val (.ref a0), .val (.int p1), .val (.int (1 : Int32)), .val (.int p3), .val (.int p4), .val (.int (1 : Int32))] [(.int (if (p1 + (1 : Int32)) < ((1024 : Int32) * (2 : Int32)) then ((1024 : Int32) * (2 : Int32)) else (p1 + (1 : Int32)))), (.ref b1), (.ref a0)])) st20 ?_
    rw [show (if (p1 + (1 : Int32)) < ((1024 : Int32) * (2 : Int32)) then ((1024 : Int32) * (2 : Int32)) else (p1 + (1 : Int32))) = (2048 : Int32) from own_mx hi hi2]
    have lt21_a0 : a0 < h0.size := E_a0.lt
    have lt21_b1 : b1 < h0.size := A1.lt
    have lt21_b2 : b2 < h0.size := A2.lt
    obtain ⟨v21, _, ⟨T21, L21, k21, n21⟩, -, X21, ⟨Lc21, hQ21, l21, y21, z21⟩, st21⟩ := Jvm.LawKit.callS X20 hx (y := (⟨"java/util/Arrays", "copyOf", "([II)[I"⟩ : MethodName)) hown (mvT hZ (hw _ (List.mem_of_getElem? (i := 34) rfl))) (mvT hZ (hw _ (List.mem_of_getElem? (i := 35) rfl))) (mvT hZ (hw _ (List.mem_of_getElem? (i := 36) rfl))) (mvT hZ (hw _ (List.mem_of_getElem? (i := 37) rfl))) (by decide) (backOf (W := 1) (rm7 l Z aw hw [] b1 (2048 : Int32) k1 (1024 : Int32) h0 n0 Z0 A1 (by decide) (by decide) (by decide) (by decide) (by decide) (by decide)) hZ (hw _ (List.mem_of_getElem? (i := 37) rfl)) (hw _ (List.mem_of_getElem? (i := 36) rfl)) (by decide) (by decide)) (g := (mkF m 88 #[.val (.ref a0), .val (.int p1), .val (.int (1 : Int32)), .val (.int p3), .val (.int p4), .val (.int (1 : Int32))] [(.int (2048 : Int32)), (.ref b1), (.ref a0)])) rfl (by rw [hml]; rfl) (argsL := [(.ref b1), (.int (2048 : Int32))]) (rest := [(.ref a0)]) (lenOf pd_285bII295bI rfl) rfl (by show 2 * 0 + _ ≤ _; exact Nat.le_of_eq rfl) (hb hby d5_88) (fun _ _ => ⟨rfl, e20, (by decide : 0 + 1 ≤ _), (by decide : 0 + 2048 ≤ _)⟩)
    dsimp only [Pt.U, Pt.locs, Pt.cells, Pt.slots] at X21 l21 y21 z21 st21 hQ21
    subst l21 y21 z21
    obtain ⟨h21, e21⟩ : ∃ z, T21.heap = z := ⟨_, rfl⟩
    rw [e21] at hQ21
    obtain ⟨c21, kc21, rfl, N21q, g_c21, s_c21, Kq21, Vc21⟩ := hQ21
    have N21 := Fr.app N20 N21q
    have Z21 : n0 ≤ h21.size := Nat.le_trans Z0 Kq21.1
    have K21 : Keep h0 h21 [a0, b1, b2] := (Keep.refl h0 [a0, b1, b2]).trans Kq21 (fun x hx => absurd hx List.not_mem_nil)
    have ne_a0_c21 : a0 ≠ c21 := Nat.ne_of_lt (Nat.lt_of_lt_of_le lt21_a0 s_c21)
    have ne_b1_c21 : b1 ≠ c21 := Nat.ne_of_lt (Nat.lt_of_lt_of_le lt21_b1 s_c21)
    have ne_b2_c21 : b2 ≠ c21 := Nat.ne_of_lt (Nat.lt_of_lt_of_le lt21_b2 s_c21)
    have sz_c21 : h0.size ≤ c21 := Nat.le_trans (Keep.refl h0 [a0, b1, b2]).1 s_c21
    refine Go.to (g' := (mkF m 91 #[.val (.ref a0), .val (.int p1), .val (.int (1 : Int32)), .val (.int p3), .val (.int p4), .val (.int (1 : Int32))] [(.ref c21), (.ref a0)])) st21 ?_
    have f22 : Fld Z h21 a0 "com/example/skuld/skuld/analysis/Distances" "firings" "[I" (.ref b1) := (F1.keep Kq21 List.not_mem_nil)
    have f23 : Exa Z h21 a0 "com/example/skuld/skuld/analysis/Distances" := (E_a0.keep Kq21)
    obtain ⟨T24, h24, X24, e24, W24, st24⟩ := putF X21 hx hZ hown (host := "") (Or.inl (hw _ (List.mem_of_getElem? (i := 10) rfl))) Via.refl e21 f22 f23 (Or.inl (hw _ (List.mem_of_getElem? (i := 11) rfl))) (hw _ (List.mem_of_getElem? (i := 1) rfl)) (ty := (.array .int)) (by decide) rfl rfl (g := (mkF m 91 #[.val (.ref a0), .val (.int p1), .val (.int (1 : Int32)), .val (.int p3), .val (.int p4), .val (.int (1 : Int32))] [(.ref c21), (.ref a0)])) rfl rfl (hb hby d5_91)
    have Z24 : n0 ≤ h24.size := Nat.le_trans Z21 (Keep.of_wr W24).1
    have K24 : Keep h0 h24 [a0, b1, b2] := K21.wr W24 (Or.inl (List.mem_of_getElem? (i := 0) rfl))
    have N24 := Fr.snoc X24 N21 g_a0
    have Fw24 : Fld Z h24 a0 "com/example/skuld/skuld/analysis/Distances" "firings" "[I" (.ref c21) := f22.same W24
    refine Go.to (g' := (mkF m 94 #[.val (.ref a0), .val (.int p1), .val (.int (1 : Int32)), .val (.int p3), .val (.int p4), .val (.int (1 : Int32))] [])) st24 ?_
    refine Go.to (g' := (mkF m 95 #[.val (.ref a0), .val (.int p1), .val (.int (1 : Int32)), .val (.int p3), .val (.int p4), .val (.int (1 : Int32))] [(.ref a0)])) (fun t k => XS.aloadN X24.here hx rfl (hb hby d5_94) rfl rfl k) ?_
    refine Go.to (g' := (mkF m 96 #[.val (.ref a0), .val (.int p1), .val (.int (1 : Int32)), .val (.int p3), .val (.int p4), .val (.int (1 : Int32))] [(.ref a0), (.ref a0)])) (fun t k => XS.aloadN X24.here hx rfl (hb hby d5_95) rfl rfl k) ?_
    have f25 : Fld Z h24 a0 "com/example/skuld/skuld/analysis/Distances" "times" "[I" (.ref b2) := ((F2.keep Kq21 List.not_mem_nil).other W24 (Or.inr (slot_ne (Or.inl (hw _ (List.mem_of_getElem? (i := 13) rfl))) (Or.inl (hw _ (List.mem_of_getElem? (i := 11) rfl))) (by decide) (t := (.array .int)) (t' := (.array .int)) (by decide) (by decide))))
    obtain ⟨T26, X26, e26, st26⟩ := getF X24 hx hZ hown (host := "") (Or.inl (hw _ (List.mem_of_getElem? (i := 12) rfl))) Via.refl e24 f25 (g := (mkF m 96 #[.val (.ref a0), .val (.int p1), .val (.int (1 : Int32)), .val (.int p3), .val (.int p4), .val (.int (1 : Int32))] [(.ref a0), (.ref a0)])) rfl rfl (hb hby d5_96)
    refine Go.to (g' := (mkF m 99 #[.val (.ref a0), .val (.int p1), .val (.int (1 : Int32)), .val (.int p3), .val (.int p4), .val (.int (1 : Int32))] [(.ref b2), (.ref a0)])) st26 ?_
    refine Go.to (g' := (mkF m 100 #[.val (.ref a0), .val (.int p1), .val (.int (1 : Int32)), .val (.int p3), .val (.int p4), .val (.int (1 : Int32))] [(.ref a0), (.ref b2), (.ref a0)])) (fun t k => XS.aloadN X26.here hx rfl (hb hby d5_99) rfl rfl k) ?_
    obtain ⟨T27, X27, e27, st27⟩ := getF X26 hx hZ hown (host := "") (Or.inl (hw _ (List.mem_of_getElem? (i := 10) rfl))) Via.refl e26 Fw24 (g := (mkF m 100 #[.val (.ref a0), .val (.int p1), .val (.int (1 : Int32)), .val (.int p3), .val (.int p4), .val (.int (1 : Int32))] [(.ref a0), (.ref b2), (.ref a0)])) rfl rfl (hb hby d5_100)
    refine Go.to (g' := (mkF m 103 #[.val (.ref a0), .val (.int p1), .val (.int (1 : Int32)), .val (.int p3), .val (.int p4), .val (.int (1 : Int32))] [(.ref c21), (.ref b2), (.ref a0)])) st27 ?_
    have f28 : Arv Z h24 c21 kc21 .int (2048 : Int32) [] (.int (0 : Int32)) := (Vc21.other W24 (Ne.symm ne_a0_c21))
    obtain ⟨cl29, Ar29, -, S29, M29, -, -⟩ := id f28
    refine Go.to (g' := (mkF m 104 #[.val (.ref a0), .val (.int p1), .val (.int (1 : Int32)), .val (.int p3), .val (.int p4), .val (.int (1 : Int32))] [(.int (2048 : Int32)), (.ref b2), (.ref a0)])) (fun t k => X27.arraylength hx (by rw [e27]; exact Ar29.1) (State.isArrayOf_alike hZ.alike Ar29.2.1) (g := (mkF m 103 #[.val (.ref a0), .val (.int p1), .val (.int (1 : Int32)), .val (.int p3), .val (.int p4), .val (.int (1 : Int32))] [(.ref c21), (.ref b2), (.ref a0)])) rfl rfl (hb hby d5_103) _ (by rw [len_of S29 M29]; exact k)) ?_
    have f30 : Arv Z h24 b2 k2 .int (1024 : Int32) [] (.int (0 : Int32)) := ((A2.keep Kq21 List.not_mem_nil).other W24 (Ne.symm n2))
    have f31 : Exa Z h24 a0 "com/example/skuld/skuld/analysis/Distances" := (f23.wr W24)
    have f32 : Arv Z h24 b1 k1 .int (1024 : Int32) [] (.int (0 : Int32)) := ((A1.keep Kq21 List.not_mem_nil).other W24 (Ne.symm n1))
    have lt33_a0 : a0 < h24.size := f31.lt
    have lt33_b1 : b1 < h24.size := f32.lt
    have lt33_b2 : b2 < h24.size := f30.lt
    have lt33_c21 : c21 < h24.size := f28.lt
    obtain ⟨v33, _, ⟨T33, L33, k33, n33⟩, -, X33, ⟨Lc33, hQ33, l33, y33, z33⟩, st33⟩ := Jvm.LawKit.callS X27 hx (y := (⟨"java/util/Arrays", "copyOf", "([II)[I"⟩ : MethodName)) hown (mvT hZ (hw _ (List.mem_of_getElem? (i := 34) rfl))) (mvT hZ (hw _ (List.mem_of_getElem? (i := 35) rfl))) (mvT hZ (hw _ (List.mem_of_getElem? (i := 36) rfl))) (mvT hZ (hw _ (List.mem_of_getElem? (i := 37) rfl))) (by decide) (backOf (W := 1) (rm7 l Z aw hw [] b2 (2048 : Int32) k2 (1024 : Int32) h24 n0 Z24 f30 (by decide) (by decide) (by decide) (by decide) (by decide) (by decide)) hZ (hw _ (List.mem_of_getElem? (i := 37) rfl)) (hw _ (List.mem_of_getElem? (i := 36) rfl)) (by decide) (by decide)) (g := (mkF m 104 #[.val (.ref a0), .val (.int p1), .val (.int (1 : Int32)), .val (.int p3), .val (.int p4), .val (.int (1 : Int32))] [(.int (2048 : Int32)), (.ref b2), (.ref a0)])) rfl (by rw [hml]; rfl) (argsL := [(.ref b2), (.int (2048 : Int32))]) (rest := [(.ref a0)]) (lenOf pd_285bII295bI rfl) rfl (by show 2 * 0 + _ ≤ _; exact Nat.le_of_eq rfl) (hb hby d5_104) (fun _ _ => ⟨rfl, e27, (by decide : 1 + 1 ≤ _), (by decide : 2048 + 2048 ≤ _)⟩)
    dsimp only [Pt.U, Pt.locs, Pt.cells, Pt.slots] at X33 l33 y33 z33 st33 hQ33
    subst l33 y33 z33
    obtain ⟨h33, e33⟩ : ∃ z, T33.heap = z := ⟨_, rfl⟩
    rw [e33] at hQ33
    obtain ⟨c33, kc33, rfl, N33q, g_c33, s_c33, Kq33, Vc33⟩ := hQ33
    have N33 := Fr.app N24 N33q
    have Z33 : n0 ≤ h33.size := Nat.le_trans Z24 Kq33.1
    have K33 : Keep h0 h33 [a0, b1, b2] := K24.trans Kq33 (fun x hx => absurd hx List.not_mem_nil)
    have ne_a0_c33 : a0 ≠ c33 := Nat.ne_of_lt (Nat.lt_of_lt_of_le lt33_a0 s_c33)
    have ne_b1_c33 : b1 ≠ c33 := Nat.ne_of_lt (Nat.lt_of_lt_of_le lt33_b1 s_c33)
    have ne_b2_c33 : b2 ≠ c33 := Nat.ne_of_lt (Nat.lt_of_lt_of_le lt33_b2 s_c33)
    have ne_c21_c33 : c21 ≠ c33 := Nat.ne_of_lt (Nat.lt_of_lt_of_le lt33_c21 s_c33)
    have sz_c33 : h0.size ≤ c33 := Nat.le_trans K24.1 s_c33
    refine Go.to (g' := (mkF m 107 #[.val (.ref a0), .val (.int p1), .val (.int (1 : Int32)), .val (.int p3), .val (.int p4), .val (.int (1 : Int32))] [(.ref c33), (.ref a0)])) st33 ?_
    have f34 : Fld Z h33 a0 "com/example/skuld/skuld/analysis/Distances" "times" "[I" (.ref b2) := (f25.keep Kq33 List.not_mem_nil)
    have f35 : Exa Z h33 a0 "com/example/skuld/skuld/analysis/Distances" := (f31.keep Kq33)
    obtain ⟨T36, h36, X36, e36, W36, st36⟩ := putF X33 hx hZ hown (host := "") (Or.inl (hw _ (List.mem_of_getElem? (i := 12) rfl))) Via.refl e33 f34 f35 (Or.inl (hw _ (List.mem_of_getElem? (i := 13) rfl))) (hw _ (List.mem_of_getElem? (i := 1) rfl)) (ty := (.array .int)) (by decide) rfl rfl (g := (mkF m 107 #[.val (.ref a0), .val (.int p1), .val (.int (1 : Int32)), .val (.int p3), .val (.int p4), .val (.int (1 : Int32))] [(.ref c33), (.ref a0)])) rfl rfl (hb hby d5_107)
    have Z36 : n0 ≤ h36.size := Nat.le_trans Z33 (Keep.of_wr W36).1
    have K36 : Keep h0 h36 [a0, b1, b2] := K33.wr W36 (Or.inl (List.mem_of_getElem? (i := 0) rfl))
    have N36 := Fr.snoc X36 N33 g_a0
    have Fw36 : Fld Z h36 a0 "com/example/skuld/skuld/analysis/Distances" "times" "[I" (.ref c33) := f34.same W36
    refine Go.to (g' := (mkF m 110 #[.val (.ref a0), .val (.int p1), .val (.int (1 : Int32)), .val (.int p3), .val (.int p4), .val (.int (1 : Int32))] [])) st36 ?_
    have f37 : Arv Z h36 c21 kc21 .int (2048 : Int32) [] (.int (0 : Int32)) := ((f28.keep Kq33 List.not_mem_nil).other W36 (Ne.symm ne_a0_c21))
    have I_c21 : own_In Z h36 c21 2048 (fun _ => (0 : Int32)) := own_in_of f37 rfl
    have f38 : Arv Z h36 c33 kc33 .int (2048 : Int32) [] (.int (0 : Int32)) := (Vc33.other W36 (Ne.symm ne_a0_c33))
    have I_c33 : own_In Z h36 c33 2048 (fun _ => (0 : Int32)) := own_in_of f38 rfl
    have hin_ : p1.toInt < 2048 := (by omega)
    refine Go.to (g' := (mkF m 111 #[.val (.ref a0), .val (.int p1), .val (.int (1 : Int32)), .val (.int p3), .val (.int p4), .val (.int (1 : Int32))] [(.ref a0)])) (fun t k => XS.aloadN X36.here hx rfl (hb hby d5_110) rfl rfl k) ?_
    have f39 : Fld Z h36 a0 "com/example/skuld/skuld/analysis/Distances" "firings" "[I" (.ref c21) := ((Fw24.keep Kq33 List.not_mem_nil).other W36 (Or.inr (slot_ne (Or.inl (hw _ (List.mem_of_getElem? (i := 11) rfl))) (Or.inl (hw _ (List.mem_of_getElem? (i := 13) rfl))) (by decide) (t := (.array .int)) (t' := (.array .int)) (by decide) (by decide))))
    obtain ⟨T40, X40, e40, st40⟩ := getF X36 hx hZ hown (host := "") (Or.inl (hw _ (List.mem_of_getElem? (i := 10) rfl))) Via.refl e36 f39 (g := (mkF m 111 #[.val (.ref a0), .val (.int p1), .val (.int (1 : Int32)), .val (.int p3), .val (.int p4), .val (.int (1 : Int32))] [(.ref a0)])) rfl rfl (hb hby d5_111)
    refine Go.to (g' := (mkF m 114 #[.val (.ref a0), .val (.int p1), .val (.int (1 : Int32)), .val (.int p3), .val (.int p4), .val (.int (1 : Int32))] [(.ref c21)])) st40 ?_
    refine Go.to (g' := (mkF m 115 #[.val (.ref a0), .val (.int p1), .val (.int (1 : Int32)), .val (.int p3), .val (.int p4), .val (.int (1 : Int32))] [(.int p1), (.ref c21)])) (fun t k => XS.iloadN X40.here hx rfl (hb hby d5_114) rfl k) ?_
    refine Go.to (g' := (mkF m 116 #[.val (.ref a0), .val (.int p1), .val (.int (1 : Int32)), .val (.int p3), .val (.int p4), .val (.int (1 : Int32))] [(.int p3), (.int p1), (.ref c21)])) (fun t k => XS.iloadN X40.here hx rfl (hb hby d5_115) rfl k) ?_
    obtain ⟨cl41, Ar41, Sz41, Hf41⟩ := id I_c21
    obtain ⟨T42, h42, X42, e42, W42, st42⟩ := stI X40 hx hZ e40 Ar41 (j := p1) (own_by_in Sz41 hi hin_) (g := (mkF m 116 #[.val (.ref a0), .val (.int p1), .val (.int (1 : Int32)), .val (.int p3), .val (.int p4), .val (.int (1 : Int32))] [(.int p3), (.int p1), (.ref c21)])) rfl rfl (hb hby d5_116)
    have Z42 : n0 ≤ h42.size := Nat.le_trans Z36 (Keep.of_wr W42).1
    have K42 : Keep h0 h42 [a0, b1, b2] := K36.wr W42 (Or.inr sz_c21)
    have N42 := Fr.snoc X42 N36 g_c21
    have B42 : own_In Z h42 c21 2048 (own_upd (fun _ => (0 : Int32)) p1 p3) := I_c21.set hi W42
    refine Go.to (g' := (mkF m 117 #[.val (.ref a0), .val (.int p1), .val (.int (1 : Int32)), .val (.int p3), .val (.int p4), .val (.int (1 : Int32))] [])) st42 ?_
    refine Go.to (g' := (mkF m 118 #[.val (.ref a0), .val (.int p1), .val (.int (1 : Int32)), .val (.int p3), .val (.int p4), .val (.int (1 : Int32))] [(.ref a0)])) (fun t k => XS.aloadN X42.here hx rfl (hb hby d5_117) rfl rfl k) ?_
    have f43 : Fld Z h42 a0 "com/example/skuld/skuld/analysis/Distances" "times" "[I" (.ref c33) := (Fw36.other W42 (Or.inl ne_a0_c21))
    obtain ⟨T44, X44, e44, st44⟩ := getF X42 hx hZ hown (host := "") (Or.inl (hw _ (List.mem_of_getElem? (i := 12) rfl))) Via.refl e42 f43 (g := (mkF m 118 #[.val (.ref a0), .val (.int p1), .val (.int (1 : Int32)), .val (.int p3), .val (.int p4), .val (.int (1 : Int32))] [(.ref a0)])) rfl rfl (hb hby d5_118)
    refine Go.to (g' := (mkF m 121 #[.val (.ref a0), .val (.int p1), .val (.int (1 : Int32)), .val (.int p3), .val (.int p4), .val (.int (1 : Int32))] [(.ref c33)])) st44 ?_
    refine Go.to (g' := (mkF m 122 #[.val (.ref a0), .val (.int p1), .val (.int (1 : Int32)), .val (.int p3), .val (.int p4), .val (.int (1 : Int32))] [(.int p1), (.ref c33)])) (fun t k => XS.iloadN X44.here hx rfl (hb hby d5_121) rfl k) ?_
    refine Go.to (g' := (mkF m 124 #[.val (.ref a0), .val (.int p1), .val (.int (1 : Int32)), .val (.int p3), .val (.int p4), .val (.int (1 : Int32))] [(.int p4), (.int p1), (.ref c33)])) (fun t k => XS.iload X44.here hx rfl (hb hby d5_122) rfl k) ?_
    have f45 : own_In Z h42 c33 2048 (fun _ => (0 : Int32)) := (I_c33.other W42 (Ne.symm ne_c21_c33))
    obtain ⟨cl46, Ar46, Sz46, Hf46⟩ := id f45
    obtain ⟨T47, h47, X47, e47, W47, st47⟩ := stI X44 hx hZ e44 Ar46 (j := p1) (own_by_in Sz46 hi hin_) (g := (mkF m 124 #[.val (.ref a0), .val (.int p1), .val (.int (1 : Int32)), .val (.int p3), .val (.int p4), .val (.int (1 : Int32))] [(.int p4), (.int p1), (.ref c33)])) rfl rfl (hb hby d5_124)
    have Z47 : n0 ≤ h47.size := Nat.le_trans Z42 (Keep.of_wr W47).1
    have K47 : Keep h0 h47 [a0, b1, b2] := K42.wr W47 (Or.inr sz_c33)
    have N47 := Fr.snoc X47 N42 g_c33
    have B47 : own_In Z h47 c33 2048 (own_upd (fun _ => (0 : Int32)) p1 p4) := f45.set hi W47
    refine Go.to (g' := (mkF m 125 #[.val (.ref a0), .val (.int p1), .val (.int (1 : Int32)), .val (.int p3), .val (.int p4), .val (.int (1 : Int32))] [])) st47 ?_
    refine Go.to (g' := (mkF m 127 #[.val (.ref a0), .val (.int p1), .val (.int (1 : Int32)), .val (.int p3), .val (.int p4), .val (.int (1 : Int32))] [(.int (1 : Int32))])) (fun t k => XS.iload X47.here hx rfl (hb hby d5_125) rfl k) ?_
    have f48 : Fld Z h47 a0 "com/example/skuld/skuld/analysis/Distances" "kept" "Z" (.int (1 : Int32)) := ((((((Fk.keep Kq21 List.not_mem_nil).other W24 (Or.inr (slot_ne (Or.inr (hw _ (List.mem_of_getElem? (i := 15) rfl))) (Or.inl (hw _ (List.mem_of_getElem? (i := 11) rfl))) (by decide) (t := .boolean) (t' := (.array .int)) (by decide) (by decide)))).keep Kq33 List.not_mem_nil).other W36 (Or.inr (slot_ne (Or.inr (hw _ (List.mem_of_getElem? (i := 15) rfl))) (Or.inl (hw _ (List.mem_of_getElem? (i := 13) rfl))) (by decide) (t := .boolean) (t' := (.array .int)) (by decide) (by decide)))).other W42 (Or.inl ne_a0_c21)).other W47 (Or.inl ne_a0_c33))
    have f49 : Fld Z h47 a0 "com/example/skuld/skuld/analysis/Distances" "firings" "[I" (.ref c21) := ((f39.other W42 (Or.inl ne_a0_c21)).other W47 (Or.inl ne_a0_c33))
    have f50 : Fld Z h47 a0 "com/example/skuld/skuld/analysis/Distances" "times" "[I" (.ref c33) := (f43.other W47 (Or.inl ne_a0_c33))
    have f51 : own_In Z h47 c21 2048 (own_upd (fun _ => (0 : Int32)) p1 p3) := (B42.other W47 ne_c21_c33)
    exact Go.retN X47 hx (t := .boolean) Bd.returns Bd.notSynchronized (by simp) (hb hby d5_127) (by decide) (by decide) e47 ⟨c21, c33, 2048, rfl, N47, K47, f48, f49, f50, f51, B47, (by decide), hin_⟩

theorem ef_rm0 (m : MethodId) (x0 : Int32) (x1 : Int32) (x2 : Int32) (x3 : Int32) (x4 : Int32) (x5 : Int32) : entryFrame m #[(.int x0), (.int x1), (.int x2), (.int x3), (.int x4), (.int x5)] maxLocals = mkF m 0 #[.val (.int x0), .val (.int x1), .val (.int x2), .val (.int x3), .val (.int x4), .val (.int x5), .unset, .unset, .unset, .unset, .unset, .unset, .unset, .unset, .unset] [] := by first | (simp [entryFrame, mkF, argsToLocals, Value.category, maxLocals]; done) | rfl
def Q0 (Z : State) (p0 : Int32) (p1 : Int32) (p2 : Int32) (p3 : Int32) (p4 : Int32) (p5 : Int32) (h0 : Heap) (n0 : Nat) (v : Option Value) (h : Heap) (L : List Loc) : Prop := v = some (.int (1 : Int32)) ∧ Fr n0 L
set_option maxRecDepth 65536 in
set_option maxHeartbeats 40000000 in
theorem rm0 (l : Launch) (Z : State) (aw : Array Value) (hw : ∀ d ∈ tables_1, d.before aw Z = true) (ws : List Jvm.Cond) (p0 : Int32) (p1 : Int32) (p2 : Int32) (p3 : Int32) (p4 : Int32) (p5 : Int32) (h0 : Heap) (n0 : Nat) (Z0 : n0 ≤ h0.size) :
    MetFree l x (head1 (Jvm.Cond.code x code maxLocals ret :: ws) room_1) (fun a U => a = #[(.int p0), (.int p1), (.int p2), (.int p3), (.int p4), (.int p5)] ∧ Z.Warmed39 U.vm ∧ U.heap = h0) (fun _ _ _ _ _ => True) (fun _ U o U' => ∃ v L, o = .returned v ∧ Q0 Z p0 p1 p2 p3 p4 p5 h0 n0 v U'.heap L ∧ FrameEnd U o U' L room_1.cells room_1.slots) := by
  refine MetFree.of_bodySF (plainFor_of_name pn_com_example_skuld_skuld_analysis_DistancesCurrentPinLaw) hisR ?_
  intro p e s m args below meth c s₁ Bd hml0 hP hK
  obtain ⟨rfl, hZ, hh⟩ := hP
  have hx := Bd.exec
  have hby := Bd.bytes
  have hml : c.maxLocals = 15 := hml0
  have hown : s.vm.findClass "com/example/skuld/skuld/analysis/DistancesCurrentPinLaw" = some m.cls := findClass_of_methodNamed Bd.named
  have hnm := (name_of_methodNamed Bd.named Bd.method).1
  have X0 : Stand p l e room_1 s m #[(.int p0), (.int p1), (.int p2), (.int p3), (.int p4), (.int p5)] below meth c s₁ [] 0 0 := Stand.of_body Bd
  have e0 : s₁.heap = h0 := by rw [← hh, Bd.state]; rfl
  have N0 := Fr.nil n0
  refine own_go (Q := Q0 Z p0 p1 p2 p3 p4 p5 h0 n0) ?_
  refine Go.to (g' := (mkF m 0 #[.val (.int p0), .val (.int p1), .val (.int p2), .val (.int p3), .val (.int p4), .val (.int p5), .unset, .unset, .unset, .unset, .unset, .unset, .unset, .unset, .unset] [])) (fun t k => castTop (ef_rm0 m p0 p1 p2 p3 p4 p5) k) ?_
  refine Go.to (g' := (mkF m 1 #[.val (.int p0), .val (.int p1), .val (.int p2), .val (.int p3), .val (.int p4), .val (.int p5), .unset, .unset, .unset, .unset, .unset, .unset, .unset, .unset, .unset] [(.int p0)])) (fun t k => XS.iloadN X0.here hx rfl (hb hby at_0) rfl k) ?_
  refine Go.to (g' := (mkF m 2 #[.val (.int p0), .val (.int p1), .val (.int p2), .val (.int p3), .val (.int p4), .val (.int p5), .unset, .unset, .unset, .unset, .unset, .unset, .unset, .unset, .unset] [(.int (1 : Int32)), (.int p0)])) (fun t k => XS.iconst X0.here hx rfl (hb hby at_1) k) ?_
  refine Go.to (g' := (mkF m 3 #[.val (.int p0), .val (.int p1), .val (.int p2), .val (.int p3), .val (.int p4), .val (.int p5), .unset, .unset, .unset, .unset, .unset, .unset, .unset, .unset, .unset] [(.int (p0 &&& (1 : Int32)))])) (fun t k => XS.iand X0.here hx rfl (hb hby at_2) rfl k) ?_
  by_cases c1 : (p0 &&& (1 : Int32)) = (0 : Int32)
  · refine Go.to (g' := (mkF m 10 #[.val (.int p0), .val (.int p1), .val (.int p2), .val (.int p3), .val (.int p4), .val (.int p5), .unset, .unset, .unset, .unset, .unset, .unset, .unset, .unset, .unset] [])) (fun t k => XS.ifYes X0.here hx rfl (pc0 := 3) (pc' := 10) rfl (hb hby at_3) rfl ((if0 _ _).trans (teq c1).1) (by decide) (by decide) k) ?_
    refine Go.to (g' := (mkF m 11 #[.val (.int p0), .val (.int p1), .val (.int p2), .val (.int p3), .val (.int p4), .val (.int p5), .unset, .unset, .unset, .unset, .unset, .unset, .unset, .unset, .unset] [(.int (0 : Int32))])) (fun t k => XS.iconst X0.here hx rfl (hb hby at_10) k) ?_
    refine Go.to (g' := (mkF m 13 #[.val (.int p0), .val (.int p1), .val (.int p2), .val (.int p3), .val (.int p4), .val (.int p5), .val (.int (0 : Int32)), .unset, .unset, .unset, .unset, .unset, .unset, .unset, .unset] [])) (fun t k => XS.istore X0.here hx rfl (hb hby at_11) rfl (l' := #[.val (.int p0), .val (.int p1), .val (.int p2), .val (.int p3), .val (.int p4), .val (.int p5), .val (.int (0 : Int32)), .unset, .unset, .unset, .unset, .unset, .unset, .unset, .unset]) rfl k) ?_
    refine Go.to (g' := (mkF m 14 #[.val (.int p0), .val (.int p1), .val (.int p2), .val (.int p3), .val (.int p4), .val (.int p5), .val (.int (0 : Int32)), .unset, .unset, .unset, .unset, .unset, .unset, .unset, .unset] [(.int p0)])) (fun t k => XS.iloadN X0.here hx rfl (hb hby at_13) rfl k) ?_
    refine Go.to (g' := (mkF m 16 #[.val (.int p0), .val (.int p1), .val (.int p2), .val (.int p3), .val (.int p4), .val (.int p5), .val (.int (0 : Int32)), .unset, .unset, .unset, .unset, .unset, .unset, .unset, .unset] [(.int (8 : Int32)), (.int p0)])) (fun t k => XS.bipush X0.here hx rfl (hb hby at_14) k) ?_
    refine Go.to (g' := (mkF m 17 #[.val (.int p0), .val (.int p1), .val (.int p2), .val (.int p3), .val (.int p4), .val (.int p5), .val (.int (0 : Int32)), .unset, .unset, .unset, .unset, .unset, .unset, .unset, .unset] [(.int (p0 &&& (8 : Int32)))])) (fun t k => XS.iand X0.here hx rfl (hb hby at_16) rfl k) ?_
    by_cases c2 : (p0 &&& (8 : Int32)) = (0 : Int32)
    · refine Go.to (g' := (mkF m 24 #[.val (.int p0), .val (.int p1), .val (.int p2), .val (.int p3), .val (.int p4), .val (.int p5), .val (.int (0 : Int32)), .unset, .unset, .unset, .unset, .unset, .unset, .unset, .unset] [])) (fun t k => XS.ifYes X0.here hx rfl (pc0 := 17) (pc' := 24) rfl (hb hby at_17) rfl ((if0 _ _).trans (teq c2).1) (by decide) (by decide) k) ?_
      refine Go.to (g' := (mkF m 25 #[.val (.int p0), .val (.int p1), .val (.int p2), .val (.int p3), .val (.int p4), .val (.int p5), .val (.int (0 : Int32)), .unset, .unset, .unset, .unset, .unset, .unset, .unset, .unset] [(.int (0 : Int32))])) (fun t k => XS.iconst X0.here hx rfl (hb hby at_24) k) ?_
      refine Go.to (g' := (mkF m 27 #[.val (.int p0), .val (.int p1), .val (.int p2), .val (.int p3), .val (.int p4), .val (.int p5), .val (.int (0 : Int32)), .val (.int (0 : Int32)), .unset, .unset, .unset, .unset, .unset, .unset, .unset] [])) (fun t k => XS.istore X0.here hx rfl (hb hby at_25) rfl (l' := #[.val (.int p0), .val (.int p1), .val (.int p2), .val (.int p3), .val (.int p4), .val (.int p5), .val (.int (0 : Int32)), .val (.int (0 : Int32)), .unset, .unset, .unset, .unset, .unset, .unset, .unset]) rfl k) ?_
      refine Go.to (g' := (mkF m 29 #[.val (.int p0), .val (.int p1), .val (.int p2), .val (.int p3), .val (.int p4), .val (.int p5), .val (.int (0 : Int32)), .val (.int (0 : Int32)), .unset, .unset, .unset, .unset, .unset, .unset, .unset] [(.int (0 : Int32))])) (fun t k => XS.iload X0.here hx rfl (hb hby at_27) rfl k) ?_
      refine Go.to (g' := (mkF m 40 #[.val (.int p0), .val (.int p1), .val (.int p2), .val (.int p3), .val (.int p4), .val (.int p5), .val (.int (0 : Int32)), .val (.int (0 : Int32)), .unset, .unset, .unset, .unset, .unset, .unset, .unset] [])) (fun t k => XS.ifYes X0.here hx rfl (pc0 := 29) (pc' := 40) rfl (hb hby at_29) rfl ((if0 _ _).trans (teq (by decide)).1) (by decide) (by decide) k) ?_
      refine Go.to (g' := (mkF m 41 #[.val (.int p0), .val (.int p1), .val (.int p2), .val (.int p3), .val (.int p4), .val (.int p5), .val (.int (0 : Int32)), .val (.int (0 : Int32)), .unset, .unset, .unset, .unset, .unset, .unset, .unset] [(.int p1)])) (fun t k => XS.iloadN X0.here hx rfl (hb hby at_40) rfl k) ?_
      refine Go.to (g' := (mkF m 44 #[.val (.int p0), .val (.int p1), .val (.int p2), .val (.int p3), .val (.int p4), .val (.int p5), .val (.int (0 : Int32)), .val (.int (0 : Int32)), .unset, .unset, .unset, .unset, .unset, .unset, .unset] [(.int (1023 : Int32)), (.int p1)])) (fun t k => XS.sipush X0.here hx rfl (hb hby at_41) k) ?_
      refine Go.to (g' := (mkF m 45 #[.val (.int p0), .val (.int p1), .val (.int p2), .val (.int p3), .val (.int p4), .val (.int p5), .val (.int (0 : Int32)), .val (.int (0 : Int32)), .unset, .unset, .unset, .unset, .unset, .unset, .unset] [(.int (p1 &&& (1023 : Int32)))])) (fun t k => XS.iand X0.here hx rfl (hb hby at_44) rfl k) ?_
      obtain ⟨st, hv_st⟩ : ∃ z : Int32, z = (p1 &&& (1023 : Int32)) := ⟨_, rfl⟩
      rw [← hv_st]
      obtain ⟨hst, hst2⟩ : ¬ st < 0 ∧ st.toInt ≤ 1023 := by rw [hv_st]; exact own_m _ _ 10 (by decide) (by decide)
      refine Go.to (g' := (mkF m 47 #[.val (.int p0), .val (.int p1), .val (.int p2), .val (.int p3), .val (.int p4), .val (.int p5), .val (.int (0 : Int32)), .val (.int (0 : Int32)), .val (.int st), .unset, .unset, .unset, .unset, .unset, .unset] [])) (fun t k => XS.istore X0.here hx rfl (hb hby at_45) rfl (l' := #[.val (.int p0), .val (.int p1), .val (.int p2), .val (.int p3), .val (.int p4), .val (.int p5), .val (.int (0 : Int32)), .val (.int (0 : Int32)), .val (.int st), .unset, .unset, .unset, .unset, .unset, .unset]) rfl k) ?_
      refine Go.to (g' := (mkF m 48 #[.val (.int p0), .val (.int p1), .val (.int p2), .val (.int p3), .val (.int p4), .val (.int p5), .val (.int (0 : Int32)), .val (.int (0 : Int32)), .val (.int st), .unset, .unset, .unset, .unset, .unset, .unset] [(.int p1)])) (fun t k => XS.iloadN X0.here hx rfl (hb hby at_47) rfl k) ?_
      refine Go.to (g' := (mkF m 50 #[.val (.int p0), .val (.int p1), .val (.int p2), .val (.int p3), .val (.int p4), .val (.int p5), .val (.int (0 : Int32)), .val (.int (0 : Int32)), .val (.int st), .unset, .unset, .unset, .unset, .unset, .unset] [(.int (11 : Int32)), (.int p1)])) (fun t k => XS.bipush X0.here hx rfl (hb hby at_48) k) ?_
      refine Go.to (g' := (mkF m 51 #[.val (.int p0), .val (.int p1), .val (.int p2), .val (.int p3), .val (.int p4), .val (.int p5), .val (.int (0 : Int32)), .val (.int (0 : Int32)), .val (.int st), .unset, .unset, .unset, .unset, .unset, .unset] [(.int ((p1.toUInt32 >>> ((11 : Int32) &&& 31).toUInt32).toInt32))])) (fun t k => XS.iushr X0.here hx rfl (hb hby at_50) rfl k) ?_
      refine Go.to (g' := (mkF m 54 #[.val (.int p0), .val (.int p1), .val (.int p2), .val (.int p3), .val (.int p4), .val (.int p5), .val (.int (0 : Int32)), .val (.int (0 : Int32)), .val (.int st), .unset, .unset, .unset, .unset, .unset, .unset] [(.int (1023 : Int32)), (.int ((p1.toUInt32 >>> ((11 : Int32) &&& 31).toUInt32).toInt32))])) (fun t k => XS.sipush X0.here hx rfl (hb hby at_51) k) ?_
      refine Go.to (g' := (mkF m 55 #[.val (.int p0), .val (.int p1), .val (.int p2), .val (.int p3), .val (.int p4), .val (.int p5), .val (.int (0 : Int32)), .val (.int (0 : Int32)), .val (.int st), .unset, .unset, .unset, .unset, .unset, .unset] [(.int (((p1.toUInt32 >>> ((11 : Int32) &&& 31).toUInt32).toInt32) &&& (1023 : Int32)))])) (fun t k => XS.iand X0.here hx rfl (hb hby at_54) rfl k) ?_
      obtain ⟨s2, hv_s2⟩ : ∃ z : Int32, z = (((p1.toUInt32 >>> ((11 : Int32) &&& 31).toUInt32).toInt32) &&& (1023 : Int32)) := ⟨_, rfl⟩
      rw [← hv_s2]
      obtain ⟨hs2, hs22⟩ : ¬ s2 < 0 ∧ s2.toInt ≤ 1023 := by rw [hv_s2]; exact own_m _ _ 10 (by decide) (by decide)
      refine Go.to (g' := (mkF m 57 #[.val (.int p0), .val (.int p1), .val (.int p2), .val (.int p3), .val (.int p4), .val (.int p5), .val (.int (0 : Int32)), .val (.int (0 : Int32)), .val (.int st), .val (.int s2), .unset, .unset, .unset, .unset, .unset] [])) (fun t k => XS.istore X0.here hx rfl (hb hby at_55) rfl (l' := #[.val (.int p0), .val (.int p1), .val (.int p2), .val (.int p3), .val (.int p4), .val (.int p5), .val (.int (0 : Int32)), .val (.int (0 : Int32)), .val (.int st), .val (.int s2), .unset, .unset, .unset, .unset, .unset]) rfl k) ?_
      refine Go.to (g' := (mkF m 58 #[.val (.int p0), .val (.int p1), .val (.int p2), .val (.int p3), .val (.int p4), .val (.int p5), .val (.int (0 : Int32)), .val (.int (0 : Int32)), .val (.int st), .val (.int s2), .unset, .unset, .unset, .unset, .unset] [(.int p0)])) (fun t k => XS.iloadN X0.here hx rfl (hb hby at_57) rfl k) ?_
      refine Go.to (g' := (mkF m 59 #[.val (.int p0), .val (.int p1), .val (.int p2), .val (.int p3), .val (.int p4), .val (.int p5), .val (.int (0 : Int32)), .val (.int (0 : Int32)), .val (.int st), .val (.int s2), .unset, .unset, .unset, .unset, .unset] [(.int (2 : Int32)), (.int p0)])) (fun t k => XS.iconst X0.here hx rfl (hb hby at_58) k) ?_
      refine Go.to (g' := (mkF m 60 #[.val (.int p0), .val (.int p1), .val (.int p2), .val (.int p3), .val (.int p4), .val (.int p5), .val (.int (0 : Int32)), .val (.int (0 : Int32)), .val (.int st), .val (.int s2), .unset, .unset, .unset, .unset, .unset] [(.int (p0 &&& (2 : Int32)))])) (fun t k => XS.iand X0.here hx rfl (hb hby at_59) rfl k) ?_
      suffices Jf : ∀ qf : Int32, Go p e below s (Q0 Z p0 p1 p2 p3 p4 p5 h0 n0) room_1.cells room_1.slots (s₁.setTop (mkF m 69 #[.val (.int p0), .val (.int p1), .val (.int p2), .val (.int p3), .val (.int p4), .val (.int p5), .val (.int (0 : Int32)), .val (.int (0 : Int32)), .val (.int st), .val (.int s2), .unset, .unset, .unset, .unset, .unset] [(.int qf)])) by
        by_cases c3 : (p0 &&& (2 : Int32)) = (0 : Int32)
        · refine Go.to (g' := (mkF m 67 #[.val (.int p0), .val (.int p1), .val (.int p2), .val (.int p3), .val (.int p4), .val (.int p5), .val (.int (0 : Int32)), .val (.int (0 : Int32)), .val (.int st), .val (.int s2), .unset, .unset, .unset, .unset, .unset] [])) (fun t k => XS.ifYes X0.here hx rfl (pc0 := 60) (pc' := 67) rfl (hb hby at_60) rfl ((if0 _ _).trans (teq c3).1) (by decide) (by decide) k) ?_
          refine Go.to (g' := (mkF m 69 #[.val (.int p0), .val (.int p1), .val (.int p2), .val (.int p3), .val (.int p4), .val (.int p5), .val (.int (0 : Int32)), .val (.int (0 : Int32)), .val (.int st), .val (.int s2), .unset, .unset, .unset, .unset, .unset] [(.int p4)])) (fun t k => XS.iload X0.here hx rfl (hb hby at_67) rfl k) ?_
          exact Jf _
        · refine Go.to (g' := (mkF m 63 #[.val (.int p0), .val (.int p1), .val (.int p2), .val (.int p3), .val (.int p4), .val (.int p5), .val (.int (0 : Int32)), .val (.int (0 : Int32)), .val (.int st), .val (.int s2), .unset, .unset, .unset, .unset, .unset] [])) (fun t k => XS.ifNo X0.here hx rfl (hb hby at_60) rfl ((if0 _ _).trans (feq c3).1) k) ?_
          refine Go.to (g' := (mkF m 64 #[.val (.int p0), .val (.int p1), .val (.int p2), .val (.int p3), .val (.int p4), .val (.int p5), .val (.int (0 : Int32)), .val (.int (0 : Int32)), .val (.int st), .val (.int s2), .unset, .unset, .unset, .unset, .unset] [(.int p2)])) (fun t k => XS.iloadN X0.here hx rfl (hb hby at_63) rfl k) ?_
          refine Go.to (g' := (mkF m 69 #[.val (.int p0), .val (.int p1), .val (.int p2), .val (.int p3), .val (.int p4), .val (.int p5), .val (.int (0 : Int32)), .val (.int (0 : Int32)), .val (.int st), .val (.int s2), .unset, .unset, .unset, .unset, .unset] [(.int p2)])) (fun t k => XS.goto X0.here hx rfl (pc0 := 64) (pc' := 69) rfl (hb hby at_64) (by decide) (by decide) k) ?_
          exact Jf _
      intro qf
      refine Go.to (g' := (mkF m 71 #[.val (.int p0), .val (.int p1), .val (.int p2), .val (.int p3), .val (.int p4), .val (.int p5), .val (.int (0 : Int32)), .val (.int (0 : Int32)), .val (.int st), .val (.int s2), .val (.int qf), .unset, .unset, .unset, .unset] [])) (fun t k => XS.istore X0.here hx rfl (hb hby at_69) rfl (l' := #[.val (.int p0), .val (.int p1), .val (.int p2), .val (.int p3), .val (.int p4), .val (.int p5), .val (.int (0 : Int32)), .val (.int (0 : Int32)), .val (.int st), .val (.int s2), .val (.int qf), .unset, .unset, .unset, .unset]) rfl k) ?_
      refine Go.to (g' := (mkF m 72 #[.val (.int p0), .val (.int p1), .val (.int p2), .val (.int p3), .val (.int p4), .val (.int p5), .val (.int (0 : Int32)), .val (.int (0 : Int32)), .val (.int st), .val (.int s2), .val (.int qf), .unset, .unset, .unset, .unset] [(.int p0)])) (fun t k => XS.iloadN X0.here hx rfl (hb hby at_71) rfl k) ?_
      refine Go.to (g' := (mkF m 73 #[.val (.int p0), .val (.int p1), .val (.int p2), .val (.int p3), .val (.int p4), .val (.int p5), .val (.int (0 : Int32)), .val (.int (0 : Int32)), .val (.int st), .val (.int s2), .val (.int qf), .unset, .unset, .unset, .unset] [(.int (4 : Int32)), (.int p0)])) (fun t k => XS.iconst X0.here hx rfl (hb hby at_72) k) ?_
      refine Go.to (g' := (mkF m 74 #[.val (.int p0), .val (.int p1), .val (.int p2), .val (.int p3), .val (.int p4), .val (.int p5), .val (.int (0 : Int32)), .val (.int (0 : Int32)), .val (.int st), .val (.int s2), .val (.int qf), .unset, .unset, .unset, .unset] [(.int (p0 &&& (4 : Int32)))])) (fun t k => XS.iand X0.here hx rfl (hb hby at_73) rfl k) ?_
      suffices Jt : ∀ qt : Int32, Go p e below s (Q0 Z p0 p1 p2 p3 p4 p5 h0 n0) room_1.cells room_1.slots (s₁.setTop (mkF m 83 #[.val (.int p0), .val (.int p1), .val (.int p2), .val (.int p3), .val (.int p4), .val (.int p5), .val (.int (0 : Int32)), .val (.int (0 : Int32)), .val (.int st), .val (.int s2), .val (.int qf), .unset, .unset, .unset, .unset] [(.int qt)])) by
        by_cases c4 : (p0 &&& (4 : Int32)) = (0 : Int32)
        · refine Go.to (g' := (mkF m 81 #[.val (.int p0), .val (.int p1), .val (.int p2), .val (.int p3), .val (.int p4), .val (.int p5), .val (.int (0 : Int32)), .val (.int (0 : Int32)), .val (.int st), .val (.int s2), .val (.int qf), .unset, .unset, .unset, .unset] [])) (fun t k => XS.ifYes X0.here hx rfl (pc0 := 74) (pc' := 81) rfl (hb hby at_74) rfl ((if0 _ _).trans (teq c4).1) (by decide) (by decide) k) ?_
          refine Go.to (g' := (mkF m 83 #[.val (.int p0), .val (.int p1), .val (.int p2), .val (.int p3), .val (.int p4), .val (.int p5), .val (.int (0 : Int32)), .val (.int (0 : Int32)), .val (.int st), .val (.int s2), .val (.int qf), .unset, .unset, .unset, .unset] [(.int p5)])) (fun t k => XS.iload X0.here hx rfl (hb hby at_81) rfl k) ?_
          exact Jt _
        · refine Go.to (g' := (mkF m 77 #[.val (.int p0), .val (.int p1), .val (.int p2), .val (.int p3), .val (.int p4), .val (.int p5), .val (.int (0 : Int32)), .val (.int (0 : Int32)), .val (.int st), .val (.int s2), .val (.int qf), .unset, .unset, .unset, .unset] [])) (fun t k => XS.ifNo X0.here hx rfl (hb hby at_74) rfl ((if0 _ _).trans (feq c4).1) k) ?_
          refine Go.to (g' := (mkF m 78 #[.val (.int p0), .val (.int p1), .val (.int p2), .val (.int p3), .val (.int p4), .val (.int p5), .val (.int (0 : Int32)), .val (.int (0 : Int32)), .val (.int st), .val (.int s2), .val (.int qf), .unset, .unset, .unset, .unset] [(.int p3)])) (fun t k => XS.iloadN X0.here hx rfl (hb hby at_77) rfl k) ?_
          refine Go.to (g' := (mkF m 83 #[.val (.int p0), .val (.int p1), .val (.int p2), .val (.int p3), .val (.int p4), .val (.int p5), .val (.int (0 : Int32)), .val (.int (0 : Int32)), .val (.int st), .val (.int s2), .val (.int qf), .unset, .unset, .unset, .unset] [(.int p3)])) (fun t k => XS.goto X0.here hx rfl (pc0 := 78) (pc' := 83) rfl (hb hby at_78) (by decide) (by decide) k) ?_
          exact Jt _
      intro qt
      refine Go.to (g' := (mkF m 85 #[.val (.int p0), .val (.int p1), .val (.int p2), .val (.int p3), .val (.int p4), .val (.int p5), .val (.int (0 : Int32)), .val (.int (0 : Int32)), .val (.int st), .val (.int s2), .val (.int qf), .val (.int qt), .unset, .unset, .unset] [])) (fun t k => XS.istore X0.here hx rfl (hb hby at_83) rfl (l' := #[.val (.int p0), .val (.int p1), .val (.int p2), .val (.int p3), .val (.int p4), .val (.int p5), .val (.int (0 : Int32)), .val (.int (0 : Int32)), .val (.int st), .val (.int s2), .val (.int qf), .val (.int qt), .unset, .unset, .unset]) rfl k) ?_
      obtain ⟨T6, h6, X6, e6, E6, A6, D6, -, st6⟩ := newO X0 hx hZ hown (hw _ (List.mem_of_getElem? (i := 0) rfl)) (hw _ (List.mem_of_getElem? (i := 1) rfl)) (hw _ (List.mem_of_getElem? (i := 2) rfl)) e0 (g := (mkF m 85 #[.val (.int p0), .val (.int p1), .val (.int p2), .val (.int p3), .val (.int p4), .val (.int p5), .val (.int (0 : Int32)), .val (.int (0 : Int32)), .val (.int st), .val (.int s2), .val (.int qf), .val (.int qt), .unset, .unset, .unset] [])) rfl (hb hby at_85) (by decide) (by decide)
      obtain ⟨o5, g6⟩ : ∃ z, z = h0.size := ⟨_, rfl⟩
      rw [← g6] at A6 D6 st6
      have g_o5 : n0 ≤ o5 := Nat.le_trans Z0 (Nat.le_of_eq g6.symm)
      have sz_o5 : h0.size ≤ o5 := Nat.le_trans (Keep.refl h0 []).1 (Nat.le_of_eq g6.symm)
      have Z6 : n0 ≤ h6.size := Nat.le_trans Z0 E6.1
      have K6 : Keep h0 h6 [] := (Keep.refl h0 []).ext E6
      have F_firings_o5 : Fld Z h6 o5 "com/example/skuld/skuld/analysis/Distances" "firings" "[I" .null := D6 (Or.inl (hw _ (List.mem_of_getElem? (i := 11) rfl))) (ty := (.array .int)) (by decide)
      have F_times_o5 : Fld Z h6 o5 "com/example/skuld/skuld/analysis/Distances" "times" "[I" .null := D6 (Or.inl (hw _ (List.mem_of_getElem? (i := 13) rfl))) (ty := (.array .int)) (by decide)
      have F_kept_o5 : Fld Z h6 o5 "com/example/skuld/skuld/analysis/Distances" "kept" "Z" (.int (0 : Int32)) := D6 (Or.inr (hw _ (List.mem_of_getElem? (i := 15) rfl))) (ty := .boolean) (by decide)
      refine Go.to (g' := (mkF m 88 #[.val (.int p0), .val (.int p1), .val (.int p2), .val (.int p3), .val (.int p4), .val (.int p5), .val (.int (0 : Int32)), .val (.int (0 : Int32)), .val (.int st), .val (.int s2), .val (.int qf), .val (.int qt), .unset, .unset, .unset] [(.ref o5)])) st6 ?_
      refine Go.to (g' := (mkF m 89 #[.val (.int p0), .val (.int p1), .val (.int p2), .val (.int p3), .val (.int p4), .val (.int p5), .val (.int (0 : Int32)), .val (.int (0 : Int32)), .val (.int st), .val (.int s2), .val (.int qf), .val (.int qt), .unset, .unset, .unset] [(.ref o5), (.ref o5)])) (fun t k => XS.dup X6.here hx rfl (hb hby at_88) rfl rfl k) ?_
      refine Go.to (g' := (mkF m 91 #[.val (.int p0), .val (.int p1), .val (.int p2), .val (.int p3), .val (.int p4), .val (.int p5), .val (.int (0 : Int32)), .val (.int (0 : Int32)), .val (.int st), .val (.int s2), .val (.int qf), .val (.int qt), .unset, .unset, .unset] [(.int (0 : Int32)), (.ref o5), (.ref o5)])) (fun t k => XS.iload X6.here hx rfl (hb hby at_89) rfl k) ?_
      obtain ⟨v7, _, ⟨T7, L7, k7, n7⟩, -, X7, ⟨Lc7, hQ7, l7, y7, z7⟩, st7⟩ := X6.specialBack hx (y := (⟨"com/example/skuld/skuld/analysis/Distances", "<init>", "(Z)V"⟩ : MethodName)) rfl hown (mvT hZ (hw _ (List.mem_of_getElem? (i := 3) rfl))) (mvT hZ (hw _ (List.mem_of_getElem? (i := 4) rfl))) (mvT hZ (hw _ (List.mem_of_getElem? (i := 5) rfl))) (by decide) (backOf (W := 1) (rm1n l Z aw hw [] o5 (0 : Int32)  h6 n0 Z6 A6 F_firings_o5 F_times_o5 F_kept_o5 g_o5 rfl) hZ (hw _ (List.mem_of_getElem? (i := 5) rfl)) (hw _ (List.mem_of_getElem? (i := 2) rfl)) (by decide) (by decide)) (g := (mkF m 91 #[.val (.int p0), .val (.int p1), .val (.int p2), .val (.int p3), .val (.int p4), .val (.int p5), .val (.int (0 : Int32)), .val (.int (0 : Int32)), .val (.int st), .val (.int s2), .val (.int qf), .val (.int qt), .unset, .unset, .unset] [(.int (0 : Int32)), (.ref o5), (.ref o5)])) rfl (by rw [hml]; rfl) (Steps.refl _) (a := o5) (argsL := [(.int (0 : Int32))]) (rest := [(.ref o5)]) (lenOf pd_28Z29V rfl) rfl (by show 2 * 0 + _ ≤ _; exact Nat.le_of_eq rfl) (hb hby at_91) (fun _ _ => ⟨rfl, e6, (by decide : 1 + 2 ≤ _), (by decide : 3 + 0 ≤ _)⟩)
      dsimp only [Pt.U, Pt.locs, Pt.cells, Pt.slots] at X7 l7 y7 z7 st7 hQ7
      subst l7 y7 z7
      obtain ⟨h7, e7⟩ : ∃ z, T7.heap = z := ⟨_, rfl⟩
      rw [e7] at hQ7
      obtain ⟨rfl, N7q, Kq7, Gk7⟩ := hQ7
      have N7 := Fr.app N0 N7q
      have Z7 : n0 ≤ h7.size := Nat.le_trans Z6 Kq7.1
      have K7 : Keep h0 h7 [] := K6.trans Kq7 (fun x hx => by cases List.mem_singleton.mp hx; exact Or.inr sz_o5)
      refine Go.to (g' := (mkF m 94 #[.val (.int p0), .val (.int p1), .val (.int p2), .val (.int p3), .val (.int p4), .val (.int p5), .val (.int (0 : Int32)), .val (.int (0 : Int32)), .val (.int st), .val (.int s2), .val (.int qf), .val (.int qt), .unset, .unset, .unset] [(.ref o5)])) (fun t k => st7.trans k) ?_
      refine Go.to (g' := (mkF m 96 #[.val (.int p0), .val (.int p1), .val (.int p2), .val (.int p3), .val (.int p4), .val (.int p5), .val (.int (0 : Int32)), .val (.int (0 : Int32)), .val (.int st), .val (.int s2), .val (.int qf), .val (.int qt), .val (.ref o5), .unset, .unset] [])) (fun t k => XS.astore X7.here hx rfl (hb hby at_94) rfl rfl (l' := #[.val (.int p0), .val (.int p1), .val (.int p2), .val (.int p3), .val (.int p4), .val (.int p5), .val (.int (0 : Int32)), .val (.int (0 : Int32)), .val (.int st), .val (.int s2), .val (.int qf), .val (.int qt), .val (.ref o5), .unset, .unset]) rfl k) ?_
      refine Go.to (g' := (mkF m 98 #[.val (.int p0), .val (.int p1), .val (.int p2), .val (.int p3), .val (.int p4), .val (.int p5), .val (.int (0 : Int32)), .val (.int (0 : Int32)), .val (.int st), .val (.int s2), .val (.int qf), .val (.int qt), .val (.ref o5), .unset, .unset] [(.int (0 : Int32))])) (fun t k => XS.iload X7.here hx rfl (hb hby at_96) rfl k) ?_
      refine Go.to (g' := (mkF m 112 #[.val (.int p0), .val (.int p1), .val (.int p2), .val (.int p3), .val (.int p4), .val (.int p5), .val (.int (0 : Int32)), .val (.int (0 : Int32)), .val (.int st), .val (.int s2), .val (.int qf), .val (.int qt), .val (.ref o5), .unset, .unset] [])) (fun t k => XS.ifYes X7.here hx rfl (pc0 := 98) (pc' := 112) rfl (hb hby at_98) rfl ((if0 _ _).trans (teq (by decide)).1) (by decide) (by decide) k) ?_
      refine Go.to (g' := (mkF m 114 #[.val (.int p0), .val (.int p1), .val (.int p2), .val (.int p3), .val (.int p4), .val (.int p5), .val (.int (0 : Int32)), .val (.int (0 : Int32)), .val (.int st), .val (.int s2), .val (.int qf), .val (.int qt), .val (.ref o5), .unset, .unset] [(.ref o5)])) (fun t k => XS.aload X7.here hx rfl (hb hby at_112) rfl rfl k) ?_
      refine Go.to (g' := (mkF m 116 #[.val (.int p0), .val (.int p1), .val (.int p2), .val (.int p3), .val (.int p4), .val (.int p5), .val (.int (0 : Int32)), .val (.int (0 : Int32)), .val (.int st), .val (.int s2), .val (.int qf), .val (.int qt), .val (.ref o5), .unset, .unset] [(.int st), (.ref o5)])) (fun t k => XS.iload X7.here hx rfl (hb hby at_114) rfl k) ?_
      refine Go.to (g' := (mkF m 118 #[.val (.int p0), .val (.int p1), .val (.int p2), .val (.int p3), .val (.int p4), .val (.int p5), .val (.int (0 : Int32)), .val (.int (0 : Int32)), .val (.int st), .val (.int s2), .val (.int qf), .val (.int qt), .val (.ref o5), .unset, .unset] [(.int qf), (.int st), (.ref o5)])) (fun t k => XS.iload X7.here hx rfl (hb hby at_116) rfl k) ?_
      refine Go.to (g' := (mkF m 120 #[.val (.int p0), .val (.int p1), .val (.int p2), .val (.int p3), .val (.int p4), .val (.int p5), .val (.int (0 : Int32)), .val (.int (0 : Int32)), .val (.int st), .val (.int s2), .val (.int qf), .val (.int qt), .val (.ref o5), .unset, .unset] [(.int qt), (.int qf), (.int st), (.ref o5)])) (fun t k => XS.iload X7.here hx rfl (hb hby at_118) rfl k) ?_
      have f8 : Exa Z h7 o5 "com/example/skuld/skuld/analysis/Distances" := (A6.keep Kq7)
      obtain ⟨cq9, kq9, qa9, qb9, qc9⟩ := isOf hZ e7 f8
      obtain ⟨v9, _, ⟨T9, L9, k9, n9⟩, -, X9, ⟨Lc9, hQ9, l9, y9, z9⟩, st9⟩ := X7.virtualBack hx (y := (⟨"com/example/skuld/skuld/analysis/Distances", "current", "(III)Z"⟩ : MethodName)) (z := (⟨"com/example/skuld/skuld/analysis/Distances", "current", "(III)Z"⟩ : MethodName)) hown (mvT hZ (hw _ (List.mem_of_getElem? (i := 16) rfl))) (mvT hZ (hw _ (List.mem_of_getElem? (i := 17) rfl))) (notFace_of_selects (args := #[]) (mvT hZ (hw _ (List.mem_of_getElem? (i := 19) rfl)))) (mvT hZ (hw _ (List.mem_of_getElem? (i := 19) rfl))) (mvT hZ (hw _ (List.mem_of_getElem? (i := 18) rfl))) (by decide) (backOf (W := 0) (rm3n l Z aw hw [] o5 st qf qt  h7 n0 Z7 Gk7) hZ (hw _ (List.mem_of_getElem? (i := 20) rfl)) (hw _ (List.mem_of_getElem? (i := 2) rfl)) (by decide) (by decide)) qa9 qc9 (g := (mkF m 120 #[.val (.int p0), .val (.int p1), .val (.int p2), .val (.int p3), .val (.int p4), .val (.int p5), .val (.int (0 : Int32)), .val (.int (0 : Int32)), .val (.int st), .val (.int s2), .val (.int qf), .val (.int qt), .val (.ref o5), .unset, .unset] [(.int qt), (.int qf), (.int st), (.ref o5)])) rfl (by rw [hml]; rfl) (Steps.refl _) (argsL := [(.int st), (.int qf), (.int qt)]) (rest := []) (lenOf pd_28III29Z rfl) rfl (by show 2 * 0 + _ ≤ _; exact Nat.le_of_eq rfl) (hb hby at_120) (fun _ _ => ⟨rfl, e7, (by decide : 3 + 0 ≤ _), (by decide : 3 + 0 ≤ _)⟩)
      dsimp only [Pt.U, Pt.locs, Pt.cells, Pt.slots] at X9 l9 y9 z9 st9 hQ9
      subst l9 y9 z9
      obtain ⟨rfl, N9q, e9⟩ := hQ9
      have N9 := Fr.app N7 N9q
      refine Go.to (g' := (mkF m 123 #[.val (.int p0), .val (.int p1), .val (.int p2), .val (.int p3), .val (.int p4), .val (.int p5), .val (.int (0 : Int32)), .val (.int (0 : Int32)), .val (.int st), .val (.int s2), .val (.int qf), .val (.int qt), .val (.ref o5), .unset, .unset] [(.int (1 : Int32))])) (fun t k => st9.trans k) ?_
      refine Go.to (g' := (mkF m 125 #[.val (.int p0), .val (.int p1), .val (.int p2), .val (.int p3), .val (.int p4), .val (.int p5), .val (.int (0 : Int32)), .val (.int (0 : Int32)), .val (.int st), .val (.int s2), .val (.int qf), .val (.int qt), .val (.ref o5), .val (.int (1 : Int32)), .unset] [])) (fun t k => XS.istore X9.here hx rfl (hb hby at_123) rfl (l' := #[.val (.int p0), .val (.int p1), .val (.int p2), .val (.int p3), .val (.int p4), .val (.int p5), .val (.int (0 : Int32)), .val (.int (0 : Int32)), .val (.int st), .val (.int s2), .val (.int qf), .val (.int qt), .val (.ref o5), .val (.int (1 : Int32)), .unset]) rfl k) ?_
      refine Go.to (g' := (mkF m 127 #[.val (.int p0), .val (.int p1), .val (.int p2), .val (.int p3), .val (.int p4), .val (.int p5), .val (.int (0 : Int32)), .val (.int (0 : Int32)), .val (.int st), .val (.int s2), .val (.int qf), .val (.int qt), .val (.ref o5), .val (.int (1 : Int32)), .unset] [(.ref o5)])) (fun t k => XS.aload X9.here hx rfl (hb hby at_125) rfl rfl k) ?_
      refine Go.to (g' := (mkF m 129 #[.val (.int p0), .val (.int p1), .val (.int p2), .val (.int p3), .val (.int p4), .val (.int p5), .val (.int (0 : Int32)), .val (.int (0 : Int32)), .val (.int st), .val (.int s2), .val (.int qf), .val (.int qt), .val (.ref o5), .val (.int (1 : Int32)), .unset] [(.int s2), (.ref o5)])) (fun t k => XS.iload X9.here hx rfl (hb hby at_127) rfl k) ?_
      refine Go.to (g' := (mkF m 131 #[.val (.int p0), .val (.int p1), .val (.int p2), .val (.int p3), .val (.int p4), .val (.int p5), .val (.int (0 : Int32)), .val (.int (0 : Int32)), .val (.int st), .val (.int s2), .val (.int qf), .val (.int qt), .val (.ref o5), .val (.int (1 : Int32)), .unset] [(.int qf), (.int s2), (.ref o5)])) (fun t k => XS.iload X9.here hx rfl (hb hby at_129) rfl k) ?_
      refine Go.to (g' := (mkF m 133 #[.val (.int p0), .val (.int p1), .val (.int p2), .val (.int p3), .val (.int p4), .val (.int p5), .val (.int (0 : Int32)), .val (.int (0 : Int32)), .val (.int st), .val (.int s2), .val (.int qf), .val (.int qt), .val (.ref o5), .val (.int (1 : Int32)), .unset] [(.int qt), (.int qf), (.int s2), (.ref o5)])) (fun t k => XS.iload X9.here hx rfl (hb hby at_131) rfl k) ?_
      obtain ⟨cq10, kq10, qa10, qb10, qc10⟩ := isOf hZ e9 f8
      obtain ⟨v10, _, ⟨T10, L10, k10, n10⟩, -, X10, ⟨Lc10, hQ10, l10, y10, z10⟩, st10⟩ := X9.virtualBack hx (y := (⟨"com/example/skuld/skuld/analysis/Distances", "current", "(III)Z"⟩ : MethodName)) (z := (⟨"com/example/skuld/skuld/analysis/Distances", "current", "(III)Z"⟩ : MethodName)) hown (mvT hZ (hw _ (List.mem_of_getElem? (i := 16) rfl))) (mvT hZ (hw _ (List.mem_of_getElem? (i := 17) rfl))) (notFace_of_selects (args := #[]) (mvT hZ (hw _ (List.mem_of_getElem? (i := 19) rfl)))) (mvT hZ (hw _ (List.mem_of_getElem? (i := 19) rfl))) (mvT hZ (hw _ (List.mem_of_getElem? (i := 18) rfl))) (by decide) (backOf (W := 0) (rm3n l Z aw hw [] o5 s2 qf qt  h7 n0 Z7 Gk7) hZ (hw _ (List.mem_of_getElem? (i := 20) rfl)) (hw _ (List.mem_of_getElem? (i := 2) rfl)) (by decide) (by decide)) qa10 qc10 (g := (mkF m 133 #[.val (.int p0), .val (.int p1), .val (.int p2), .val (.int p3), .val (.int p4), .val (.int p5), .val (.int (0 : Int32)), .val (.int (0 : Int32)), .val (.int st), .val (.int s2), .val (.int qf), .val (.int qt), .val (.ref o5), .val (.int (1 : Int32)), .unset] [(.int qt), (.int qf), (.int s2), (.ref o5)])) rfl (by rw [hml]; rfl) (Steps.refl _) (argsL := [(.int s2), (.int qf), (.int qt)]) (rest := []) (lenOf pd_28III29Z rfl) rfl (by show 2 * 0 + _ ≤ _; exact Nat.le_of_eq rfl) (hb hby at_133) (fun _ _ => ⟨rfl, e9, (by decide : 3 + 0 ≤ _), (by decide : 3 + 0 ≤ _)⟩)
      dsimp only [Pt.U, Pt.locs, Pt.cells, Pt.slots] at X10 l10 y10 z10 st10 hQ10
      subst l10 y10 z10
      obtain ⟨rfl, N10q, e10⟩ := hQ10
      have N10 := Fr.app N9 N10q
      refine Go.to (g' := (mkF m 136 #[.val (.int p0), .val (.int p1), .val (.int p2), .val (.int p3), .val (.int p4), .val (.int p5), .val (.int (0 : Int32)), .val (.int (0 : Int32)), .val (.int st), .val (.int s2), .val (.int qf), .val (.int qt), .val (.ref o5), .val (.int (1 : Int32)), .unset] [(.int (1 : Int32))])) (fun t k => st10.trans k) ?_
      refine Go.to (g' := (mkF m 138 #[.val (.int p0), .val (.int p1), .val (.int p2), .val (.int p3), .val (.int p4), .val (.int p5), .val (.int (0 : Int32)), .val (.int (0 : Int32)), .val (.int st), .val (.int s2), .val (.int qf), .val (.int qt), .val (.ref o5), .val (.int (1 : Int32)), .val (.int (1 : Int32))] [])) (fun t k => XS.istore X10.here hx rfl (hb hby at_136) rfl (l' := #[.val (.int p0), .val (.int p1), .val (.int p2), .val (.int p3), .val (.int p4), .val (.int p5), .val (.int (0 : Int32)), .val (.int (0 : Int32)), .val (.int st), .val (.int s2), .val (.int qf), .val (.int qt), .val (.ref o5), .val (.int (1 : Int32)), .val (.int (1 : Int32))]) rfl k) ?_
      refine Go.to (g' := (mkF m 140 #[.val (.int p0), .val (.int p1), .val (.int p2), .val (.int p3), .val (.int p4), .val (.int p5), .val (.int (0 : Int32)), .val (.int (0 : Int32)), .val (.int st), .val (.int s2), .val (.int qf), .val (.int qt), .val (.ref o5), .val (.int (1 : Int32)), .val (.int (1 : Int32))] [(.int (1 : Int32))])) (fun t k => XS.iload X10.here hx rfl (hb hby at_138) rfl k) ?_
      refine Go.to (g' := (mkF m 142 #[.val (.int p0), .val (.int p1), .val (.int p2), .val (.int p3), .val (.int p4), .val (.int p5), .val (.int (0 : Int32)), .val (.int (0 : Int32)), .val (.int st), .val (.int s2), .val (.int qf), .val (.int qt), .val (.ref o5), .val (.int (1 : Int32)), .val (.int (1 : Int32))] [(.int (0 : Int32)), (.int (1 : Int32))])) (fun t k => XS.iload X10.here hx rfl (hb hby at_140) rfl k) ?_
      refine Go.to (g' := (mkF m 144 #[.val (.int p0), .val (.int p1), .val (.int p2), .val (.int p3), .val (.int p4), .val (.int p5), .val (.int (0 : Int32)), .val (.int (0 : Int32)), .val (.int st), .val (.int s2), .val (.int qf), .val (.int qt), .val (.ref o5), .val (.int (1 : Int32)), .val (.int (1 : Int32))] [(.int (0 : Int32)), (.int (0 : Int32)), (.int (1 : Int32))])) (fun t k => XS.iload X10.here hx rfl (hb hby at_142) rfl k) ?_
      refine Go.to (g' := (mkF m 146 #[.val (.int p0), .val (.int p1), .val (.int p2), .val (.int p3), .val (.int p4), .val (.int p5), .val (.int (0 : Int32)), .val (.int (0 : Int32)), .val (.int st), .val (.int s2), .val (.int qf), .val (.int qt), .val (.ref o5), .val (.int (1 : Int32)), .val (.int (1 : Int32))] [(.int st), (.int (0 : Int32)), (.int (0 : Int32)), (.int (1 : Int32))])) (fun t k => XS.iload X10.here hx rfl (hb hby at_144) rfl k) ?_
      refine Go.to (g' := (mkF m 148 #[.val (.int p0), .val (.int p1), .val (.int p2), .val (.int p3), .val (.int p4), .val (.int p5), .val (.int (0 : Int32)), .val (.int (0 : Int32)), .val (.int st), .val (.int s2), .val (.int qf), .val (.int qt), .val (.ref o5), .val (.int (1 : Int32)), .val (.int (1 : Int32))] [(.int st), (.int st), (.int (0 : Int32)), (.int (0 : Int32)), (.int (1 : Int32))])) (fun t k => XS.iload X10.here hx rfl (hb hby at_146) rfl k) ?_
      refine Go.to (g' := (mkF m 149 #[.val (.int p0), .val (.int p1), .val (.int p2), .val (.int p3), .val (.int p4), .val (.int p5), .val (.int (0 : Int32)), .val (.int (0 : Int32)), .val (.int st), .val (.int s2), .val (.int qf), .val (.int qt), .val (.ref o5), .val (.int (1 : Int32)), .val (.int (1 : Int32))] [(.int p2), (.int st), (.int st), (.int (0 : Int32)), (.int (0 : Int32)), (.int (1 : Int32))])) (fun t k => XS.iloadN X10.here hx rfl (hb hby at_148) rfl k) ?_
      refine Go.to (g' := (mkF m 150 #[.val (.int p0), .val (.int p1), .val (.int p2), .val (.int p3), .val (.int p4), .val (.int p5), .val (.int (0 : Int32)), .val (.int (0 : Int32)), .val (.int st), .val (.int s2), .val (.int qf), .val (.int qt), .val (.ref o5), .val (.int (1 : Int32)), .val (.int (1 : Int32))] [(.int p3), (.int p2), (.int st), (.int st), (.int (0 : Int32)), (.int (0 : Int32)), (.int (1 : Int32))])) (fun t k => XS.iloadN X10.here hx rfl (hb hby at_149) rfl k) ?_
      refine Go.to (g' := (mkF m 152 #[.val (.int p0), .val (.int p1), .val (.int p2), .val (.int p3), .val (.int p4), .val (.int p5), .val (.int (0 : Int32)), .val (.int (0 : Int32)), .val (.int st), .val (.int s2), .val (.int qf), .val (.int qt), .val (.ref o5), .val (.int (1 : Int32)), .val (.int (1 : Int32))] [(.int qf), (.int p3), (.int p2), (.int st), (.int st), (.int (0 : Int32)), (.int (0 : Int32)), (.int (1 : Int32))])) (fun t k => XS.iload X10.here hx rfl (hb hby at_150) rfl k) ?_
      refine Go.to (g' := (mkF m 154 #[.val (.int p0), .val (.int p1), .val (.int p2), .val (.int p3), .val (.int p4), .val (.int p5), .val (.int (0 : Int32)), .val (.int (0 : Int32)), .val (.int st), .val (.int s2), .val (.int qf), .val (.int qt), .val (.ref o5), .val (.int (1 : Int32)), .val (.int (1 : Int32))] [(.int qt), (.int qf), (.int p3), (.int p2), (.int st), (.int st), (.int (0 : Int32)), (.int (0 : Int32)), (.int (1 : Int32))])) (fun t k => XS.iload X10.here hx rfl (hb hby at_152) rfl k) ?_
      obtain ⟨re1, hre1⟩ : ∃ r : Int32, ((own_ex (0 : Int32) (0 : Int32) st st p2 p3 qf qt) ∧ r = (1 : Int32)) ∨ (¬ (own_ex (0 : Int32) (0 : Int32) st st p2 p3 qf qt) ∧ r = (0 : Int32)) := (Classical.em (own_ex (0 : Int32) (0 : Int32) st st p2 p3 qf qt)).elim (fun q => ⟨1, Or.inl ⟨q, rfl⟩⟩) (fun q => ⟨0, Or.inr ⟨q, rfl⟩⟩)
      obtain ⟨v11, _, ⟨T11, L11, k11, n11⟩, -, X11, ⟨Lc11, hQ11, l11, y11, z11⟩, st11⟩ := Jvm.LawKit.callS X10 hx (y := (⟨"com/example/skuld/skuld/analysis/DistancesCurrentPinLaw", "expect", "(ZZIIIIII)Z"⟩ : MethodName)) hown (mvT hZ (hw _ (List.mem_of_getElem? (i := 21) rfl))) (mvT hZ (hw _ (List.mem_of_getElem? (i := 22) rfl))) (mvT hZ (hw _ (List.mem_of_getElem? (i := 23) rfl))) (mvT hZ (hw _ (List.mem_of_getElem? (i := 24) rfl))) (by decide) (backOf (W := 1) (rm4 l Z aw hw [] (0 : Int32) (0 : Int32) st st p2 p3 qf qt re1 h7 n0 Z7 hre1) hZ (hw _ (List.mem_of_getElem? (i := 24) rfl)) (hw _ (List.mem_of_getElem? (i := 23) rfl)) (by decide) (by decide)) (g := (mkF m 154 #[.val (.int p0), .val (.int p1), .val (.int p2), .val (.int p3), .val (.int p4), .val (.int p5), .val (.int (0 : Int32)), .val (.int (0 : Int32)), .val (.int st), .val (.int s2), .val (.int qf), .val (.int qt), .val (.ref o5), .val (.int (1 : Int32)), .val (.int (1 : Int32))] [(.int qt), (.int qf), (.int p3), (.int p2), (.int st), (.int st), (.int (0 : Int32)), (.int (0 : Int32)), (.int (1 : Int32))])) rfl (by rw [hml]; rfl) (argsL := [(.int (0 : Int32)), (.int (0 : Int32)), (.int st), (.int st), (.int p2), (.int p3), (.int qf), (.int qt)]) (rest := [(.int (1 : Int32))]) (lenOf pd_28ZZIIIIII29Z rfl) rfl (by show 2 * 0 + _ ≤ _; exact Nat.le_of_eq rfl) (hb hby at_154) (fun _ _ => ⟨rfl, e10, (by decide : 3 + 0 ≤ _), (by decide : 3 + 0 ≤ _)⟩)
      dsimp only [Pt.U, Pt.locs, Pt.cells, Pt.slots] at X11 l11 y11 z11 st11 hQ11
      subst l11 y11 z11
      obtain ⟨rfl, N11q, e11⟩ := hQ11
      have N11 := Fr.app N10 N11q
      refine Go.to (g' := (mkF m 157 #[.val (.int p0), .val (.int p1), .val (.int p2), .val (.int p3), .val (.int p4), .val (.int p5), .val (.int (0 : Int32)), .val (.int (0 : Int32)), .val (.int st), .val (.int s2), .val (.int qf), .val (.int qt), .val (.ref o5), .val (.int (1 : Int32)), .val (.int (1 : Int32))] [(.int re1), (.int (1 : Int32))])) st11 ?_
      refine Go.to (g' := (mkF m 160 #[.val (.int p0), .val (.int p1), .val (.int p2), .val (.int p3), .val (.int p4), .val (.int p5), .val (.int (0 : Int32)), .val (.int (0 : Int32)), .val (.int st), .val (.int s2), .val (.int qf), .val (.int qt), .val (.ref o5), .val (.int (1 : Int32)), .val (.int (1 : Int32))] [])) (fun t k => XS.icmpNo X11.here hx rfl (hb hby at_157) rfl (teq (own_h1 hre1 (Or.inl rfl)).symm).2 k) ?_
      refine Go.to (g' := (mkF m 162 #[.val (.int p0), .val (.int p1), .val (.int p2), .val (.int p3), .val (.int p4), .val (.int p5), .val (.int (0 : Int32)), .val (.int (0 : Int32)), .val (.int st), .val (.int s2), .val (.int qf), .val (.int qt), .val (.ref o5), .val (.int (1 : Int32)), .val (.int (1 : Int32))] [(.int (1 : Int32))])) (fun t k => XS.iload X11.here hx rfl (hb hby at_160) rfl k) ?_
      refine Go.to (g' := (mkF m 164 #[.val (.int p0), .val (.int p1), .val (.int p2), .val (.int p3), .val (.int p4), .val (.int p5), .val (.int (0 : Int32)), .val (.int (0 : Int32)), .val (.int st), .val (.int s2), .val (.int qf), .val (.int qt), .val (.ref o5), .val (.int (1 : Int32)), .val (.int (1 : Int32))] [(.int (0 : Int32)), (.int (1 : Int32))])) (fun t k => XS.iload X11.here hx rfl (hb hby at_162) rfl k) ?_
      refine Go.to (g' := (mkF m 166 #[.val (.int p0), .val (.int p1), .val (.int p2), .val (.int p3), .val (.int p4), .val (.int p5), .val (.int (0 : Int32)), .val (.int (0 : Int32)), .val (.int st), .val (.int s2), .val (.int qf), .val (.int qt), .val (.ref o5), .val (.int (1 : Int32)), .val (.int (1 : Int32))] [(.int (0 : Int32)), (.int (0 : Int32)), (.int (1 : Int32))])) (fun t k => XS.iload X11.here hx rfl (hb hby at_164) rfl k) ?_
      refine Go.to (g' := (mkF m 168 #[.val (.int p0), .val (.int p1), .val (.int p2), .val (.int p3), .val (.int p4), .val (.int p5), .val (.int (0 : Int32)), .val (.int (0 : Int32)), .val (.int st), .val (.int s2), .val (.int qf), .val (.int qt), .val (.ref o5), .val (.int (1 : Int32)), .val (.int (1 : Int32))] [(.int st), (.int (0 : Int32)), (.int (0 : Int32)), (.int (1 : Int32))])) (fun t k => XS.iload X11.here hx rfl (hb hby at_166) rfl k) ?_
      refine Go.to (g' := (mkF m 170 #[.val (.int p0), .val (.int p1), .val (.int p2), .val (.int p3), .val (.int p4), .val (.int p5), .val (.int (0 : Int32)), .val (.int (0 : Int32)), .val (.int st), .val (.int s2), .val (.int qf), .val (.int qt), .val (.ref o5), .val (.int (1 : Int32)), .val (.int (1 : Int32))] [(.int s2), (.int st), (.int (0 : Int32)), (.int (0 : Int32)), (.int (1 : Int32))])) (fun t k => XS.iload X11.here hx rfl (hb hby at_168) rfl k) ?_
      refine Go.to (g' := (mkF m 171 #[.val (.int p0), .val (.int p1), .val (.int p2), .val (.int p3), .val (.int p4), .val (.int p5), .val (.int (0 : Int32)), .val (.int (0 : Int32)), .val (.int st), .val (.int s2), .val (.int qf), .val (.int qt), .val (.ref o5), .val (.int (1 : Int32)), .val (.int (1 : Int32))] [(.int p2), (.int s2), (.int st), (.int (0 : Int32)), (.int (0 : Int32)), (.int (1 : Int32))])) (fun t k => XS.iloadN X11.here hx rfl (hb hby at_170) rfl k) ?_
      refine Go.to (g' := (mkF m 172 #[.val (.int p0), .val (.int p1), .val (.int p2), .val (.int p3), .val (.int p4), .val (.int p5), .val (.int (0 : Int32)), .val (.int (0 : Int32)), .val (.int st), .val (.int s2), .val (.int qf), .val (.int qt), .val (.ref o5), .val (.int (1 : Int32)), .val (.int (1 : Int32))] [(.int p3), (.int p2), (.int s2), (.int st), (.int (0 : Int32)), (.int (0 : Int32)), (.int (1 : Int32))])) (fun t k => XS.iloadN X11.here hx rfl (hb hby at_171) rfl k) ?_
      refine Go.to (g' := (mkF m 174 #[.val (.int p0), .val (.int p1), .val (.int p2), .val (.int p3), .val (.int p4), .val (.int p5), .val (.int (0 : Int32)), .val (.int (0 : Int32)), .val (.int st), .val (.int s2), .val (.int qf), .val (.int qt), .val (.ref o5), .val (.int (1 : Int32)), .val (.int (1 : Int32))] [(.int qf), (.int p3), (.int p2), (.int s2), (.int st), (.int (0 : Int32)), (.int (0 : Int32)), (.int (1 : Int32))])) (fun t k => XS.iload X11.here hx rfl (hb hby at_172) rfl k) ?_
      refine Go.to (g' := (mkF m 176 #[.val (.int p0), .val (.int p1), .val (.int p2), .val (.int p3), .val (.int p4), .val (.int p5), .val (.int (0 : Int32)), .val (.int (0 : Int32)), .val (.int st), .val (.int s2), .val (.int qf), .val (.int qt), .val (.ref o5), .val (.int (1 : Int32)), .val (.int (1 : Int32))] [(.int qt), (.int qf), (.int p3), (.int p2), (.int s2), (.int st), (.int (0 : Int32)), (.int (0 : Int32)), (.int (1 : Int32))])) (fun t k => XS.iload X11.here hx rfl (hb hby at_174) rfl k) ?_
      obtain ⟨re2, hre2⟩ : ∃ r : Int32, ((own_ex (0 : Int32) (0 : Int32) st s2 p2 p3 qf qt) ∧ r = (1 : Int32)) ∨ (¬ (own_ex (0 : Int32) (0 : Int32) st s2 p2 p3 qf qt) ∧ r = (0 : Int32)) := (Classical.em (own_ex (0 : Int32) (0 : Int32) st s2 p2 p3 qf qt)).elim (fun q => ⟨1, Or.inl ⟨q, rfl⟩⟩) (fun q => ⟨0, Or.inr ⟨q, rfl⟩⟩)
      obtain ⟨v12, _, ⟨T12, L12, k12, n12⟩, -, X12, ⟨Lc12, hQ12, l12, y12, z12⟩, st12⟩ := Jvm.LawKit.callS X11 hx (y := (⟨"com/example/skuld/skuld/analysis/DistancesCurrentPinLaw", "expect", "(ZZIIIIII)Z"⟩ : MethodName)) hown (mvT hZ (hw _ (List.mem_of_getElem? (i := 21) rfl))) (mvT hZ (hw _ (List.mem_of_getElem? (i := 22) rfl))) (mvT hZ (hw _ (List.mem_of_getElem? (i := 23) rfl))) (mvT hZ (hw _ (List.mem_of_getElem? (i := 24) rfl))) (by decide) (backOf (W := 1) (rm4 l Z aw hw [] (0 : Int32) (0 : Int32) st s2 p2 p3 qf qt re2 h7 n0 Z7 hre2) hZ (hw _ (List.mem_of_getElem? (i := 24) rfl)) (hw _ (List.mem_of_getElem? (i := 23) rfl)) (by decide) (by decide)) (g := (mkF m 176 #[.val (.int p0), .val (.int p1), .val (.int p2), .val (.int p3), .val (.int p4), .val (.int p5), .val (.int (0 : Int32)), .val (.int (0 : Int32)), .val (.int st), .val (.int s2), .val (.int qf), .val (.int qt), .val (.ref o5), .val (.int (1 : Int32)), .val (.int (1 : Int32))] [(.int qt), (.int qf), (.int p3), (.int p2), (.int s2), (.int st), (.int (0 : Int32)), (.int (0 : Int32)), (.int (1 : Int32))])) rfl (by rw [hml]; rfl) (argsL := [(.int (0 : Int32)), (.int (0 : Int32)), (.int st), (.int s2), (.int p2), (.int p3), (.int qf), (.int qt)]) (rest := [(.int (1 : Int32))]) (lenOf pd_28ZZIIIIII29Z rfl) rfl (by show 2 * 0 + _ ≤ _; exact Nat.le_of_eq rfl) (hb hby at_176) (fun _ _ => ⟨rfl, e11, (by decide : 3 + 0 ≤ _), (by decide : 3 + 0 ≤ _)⟩)
      dsimp only [Pt.U, Pt.locs, Pt.cells, Pt.slots] at X12 l12 y12 z12 st12 hQ12
      subst l12 y12 z12
      obtain ⟨rfl, N12q, e12⟩ := hQ12
      have N12 := Fr.app N11 N12q
      refine Go.to (g' := (mkF m 179 #[.val (.int p0), .val (.int p1), .val (.int p2), .val (.int p3), .val (.int p4), .val (.int p5), .val (.int (0 : Int32)), .val (.int (0 : Int32)), .val (.int st), .val (.int s2), .val (.int qf), .val (.int qt), .val (.ref o5), .val (.int (1 : Int32)), .val (.int (1 : Int32))] [(.int re2), (.int (1 : Int32))])) st12 ?_
      refine Go.to (g' := (mkF m 182 #[.val (.int p0), .val (.int p1), .val (.int p2), .val (.int p3), .val (.int p4), .val (.int p5), .val (.int (0 : Int32)), .val (.int (0 : Int32)), .val (.int st), .val (.int s2), .val (.int qf), .val (.int qt), .val (.ref o5), .val (.int (1 : Int32)), .val (.int (1 : Int32))] [])) (fun t k => XS.icmpNo X12.here hx rfl (hb hby at_179) rfl (teq (own_h1 hre2 (Or.inl rfl)).symm).2 k) ?_
      refine Go.to (g' := (mkF m 183 #[.val (.int p0), .val (.int p1), .val (.int p2), .val (.int p3), .val (.int p4), .val (.int p5), .val (.int (0 : Int32)), .val (.int (0 : Int32)), .val (.int st), .val (.int s2), .val (.int qf), .val (.int qt), .val (.ref o5), .val (.int (1 : Int32)), .val (.int (1 : Int32))] [(.int (1 : Int32))])) (fun t k => XS.iconst X12.here hx rfl (hb hby at_182) k) ?_
      refine Go.to (g' := (mkF m 187 #[.val (.int p0), .val (.int p1), .val (.int p2), .val (.int p3), .val (.int p4), .val (.int p5), .val (.int (0 : Int32)), .val (.int (0 : Int32)), .val (.int st), .val (.int s2), .val (.int qf), .val (.int qt), .val (.ref o5), .val (.int (1 : Int32)), .val (.int (1 : Int32))] [(.int (1 : Int32))])) (fun t k => XS.goto X12.here hx rfl (pc0 := 183) (pc' := 187) rfl (hb hby at_183) (by decide) (by decide) k) ?_
      exact Go.retN X12 hx (t := .boolean) Bd.returns Bd.notSynchronized (by simp) (hb hby at_187) (by decide) (by decide) e12 ⟨rfl, N12⟩
    · refine Go.to (g' := (mkF m 20 #[.val (.int p0), .val (.int p1), .val (.int p2), .val (.int p3), .val (.int p4), .val (.int p5), .val (.int (0 : Int32)), .unset, .unset, .unset, .unset, .unset, .unset, .unset, .unset] [])) (fun t k => XS.ifNo X0.here hx rfl (hb hby at_17) rfl ((if0 _ _).trans (feq c2).1) k) ?_
      refine Go.to (g' := (mkF m 21 #[.val (.int p0), .val (.int p1), .val (.int p2), .val (.int p3), .val (.int p4), .val (.int p5), .val (.int (0 : Int32)), .unset, .unset, .unset, .unset, .unset, .unset, .unset, .unset] [(.int (1 : Int32))])) (fun t k => XS.iconst X0.here hx rfl (hb hby at_20) k) ?_
      refine Go.to (g' := (mkF m 25 #[.val (.int p0), .val (.int p1), .val (.int p2), .val (.int p3), .val (.int p4), .val (.int p5), .val (.int (0 : Int32)), .unset, .unset, .unset, .unset, .unset, .unset, .unset, .unset] [(.int (1 : Int32))])) (fun t k => XS.goto X0.here hx rfl (pc0 := 21) (pc' := 25) rfl (hb hby at_21) (by decide) (by decide) k) ?_
      refine Go.to (g' := (mkF m 27 #[.val (.int p0), .val (.int p1), .val (.int p2), .val (.int p3), .val (.int p4), .val (.int p5), .val (.int (0 : Int32)), .val (.int (1 : Int32)), .unset, .unset, .unset, .unset, .unset, .unset, .unset] [])) (fun t k => XS.istore X0.here hx rfl (hb hby at_25) rfl (l' := #[.val (.int p0), .val (.int p1), .val (.int p2), .val (.int p3), .val (.int p4), .val (.int p5), .val (.int (0 : Int32)), .val (.int (1 : Int32)), .unset, .unset, .unset, .unset, .unset, .unset, .unset]) rfl k) ?_
      refine Go.to (g' := (mkF m 29 #[.val (.int p0), .val (.int p1), .val (.int p2), .val (.int p3), .val (.int p4), .val (.int p5), .val (.int (0 : Int32)), .val (.int (1 : Int32)), .unset, .unset, .unset, .unset, .unset, .unset, .unset] [(.int (1 : Int32))])) (fun t k => XS.iload X0.here hx rfl (hb hby at_27) rfl k) ?_
      refine Go.to (g' := (mkF m 32 #[.val (.int p0), .val (.int p1), .val (.int p2), .val (.int p3), .val (.int p4), .val (.int p5), .val (.int (0 : Int32)), .val (.int (1 : Int32)), .unset, .unset, .unset, .unset, .unset, .unset, .unset] [])) (fun t k => XS.ifNo X0.here hx rfl (hb hby at_29) rfl ((if0 _ _).trans (feq (by decide)).1) k) ?_
      refine Go.to (g' := (mkF m 33 #[.val (.int p0), .val (.int p1), .val (.int p2), .val (.int p3), .val (.int p4), .val (.int p5), .val (.int (0 : Int32)), .val (.int (1 : Int32)), .unset, .unset, .unset, .unset, .unset, .unset, .unset] [(.int p1)])) (fun t k => XS.iloadN X0.here hx rfl (hb hby at_32) rfl k) ?_
      refine Go.to (g' := (mkF m 36 #[.val (.int p0), .val (.int p1), .val (.int p2), .val (.int p3), .val (.int p4), .val (.int p5), .val (.int (0 : Int32)), .val (.int (1 : Int32)), .unset, .unset, .unset, .unset, .unset, .unset, .unset] [(.int (2047 : Int32)), (.int p1)])) (fun t k => XS.sipush X0.here hx rfl (hb hby at_33) k) ?_
      refine Go.to (g' := (mkF m 37 #[.val (.int p0), .val (.int p1), .val (.int p2), .val (.int p3), .val (.int p4), .val (.int p5), .val (.int (0 : Int32)), .val (.int (1 : Int32)), .unset, .unset, .unset, .unset, .unset, .unset, .unset] [(.int (p1 &&& (2047 : Int32)))])) (fun t k => XS.iand X0.here hx rfl (hb hby at_36) rfl k) ?_
      refine Go.to (g' := (mkF m 45 #[.val (.int p0), .val (.int p1), .val (.int p2), .val (.int p3), .val (.int p4), .val (.int p5), .val (.int (0 : Int32)), .val (.int (1 : Int32)), .unset, .unset, .unset, .unset, .unset, .unset, .unset] [(.int (p1 &&& (2047 : Int32)))])) (fun t k => XS.goto X0.here hx rfl (pc0 := 37) (pc' := 45) rfl (hb hby at_37) (by decide) (by decide) k) ?_
      obtain ⟨st, hv_st⟩ : ∃ z : Int32, z = (p1 &&& (2047 : Int32)) := ⟨_, rfl⟩
      rw [← hv_st]
      obtain ⟨hst, hst2⟩ : ¬ st < 0 ∧ st.toInt ≤ 2047 := by rw [hv_st]; exact own_m _ _ 11 (by decide) (by decide)
      refine Go.to (g' := (mkF m 47 #[.val (.int p0), .val (.int p1), .val (.int p2), .val (.int p3), .val (.int p4), .val (.int p5), .val (.int (0 : Int32)), .val (.int (1 : Int32)), .val (.int st), .unset, .unset, .unset, .unset, .unset, .unset] [])) (fun t k => XS.istore X0.here hx rfl (hb hby at_45) rfl (l' := #[.val (.int p0), .val (.int p1), .val (.int p2), .val (.int p3), .val (.int p4), .val (.int p5), .val (.int (0 : Int32)), .val (.int (1 : Int32)), .val (.int st), .unset, .unset, .unset, .unset, .unset, .unset]) rfl k) ?_
      refine Go.to (g' := (mkF m 48 #[.val (.int p0), .val (.int p1), .val (.int p2), .val (.int p3), .val (.int p4), .val (.int p5), .val (.int (0 : Int32)), .val (.int (1 : Int32)), .val (.int st), .unset, .unset, .unset, .unset, .unset, .unset] [(.int p1)])) (fun t k => XS.iloadN X0.here hx rfl (hb hby at_47) rfl k) ?_
      refine Go.to (g' := (mkF m 50 #[.val (.int p0), .val (.int p1), .val (.int p2), .val (.int p3), .val (.int p4), .val (.int p5), .val (.int (0 : Int32)), .val (.int (1 : Int32)), .val (.int st), .unset, .unset, .unset, .unset, .unset, .unset] [(.int (11 : Int32)), (.int p1)])) (fun t k => XS.bipush X0.here hx rfl (hb hby at_48) k) ?_
      refine Go.to (g' := (mkF m 51 #[.val (.int p0), .val (.int p1), .val (.int p2), .val (.int p3), .val (.int p4), .val (.int p5), .val (.int (0 : Int32)), .val (.int (1 : Int32)), .val (.int st), .unset, .unset, .unset, .unset, .unset, .unset] [(.int ((p1.toUInt32 >>> ((11 : Int32) &&& 31).toUInt32).toInt32))])) (fun t k => XS.iushr X0.here hx rfl (hb hby at_50) rfl k) ?_
      refine Go.to (g' := (mkF m 54 #[.val (.int p0), .val (.int p1), .val (.int p2), .val (.int p3), .val (.int p4), .val (.int p5), .val (.int (0 : Int32)), .val (.int (1 : Int32)), .val (.int st), .unset, .unset, .unset, .unset, .unset, .unset] [(.int (1023 : Int32)), (.int ((p1.toUInt32 >>> ((11 : Int32) &&& 31).toUInt32).toInt32))])) (fun t k => XS.sipush X0.here hx rfl (hb hby at_51) k) ?_
      refine Go.to (g' := (mkF m 55 #[.val (.int p0), .val (.int p1), .val (.int p2), .val (.int p3), .val (.int p4), .val (.int p5), .val (.int (0 : Int32)), .val (.int (1 : Int32)), .val (.int st), .unset, .unset, .unset, .unset, .unset, .unset] [(.int (((p1.toUInt32 >>> ((11 : Int32) &&& 31).toUInt32).toInt32) &&& (1023 : Int32)))])) (fun t k => XS.iand X0.here hx rfl (hb hby at_54) rfl k) ?_
      obtain ⟨s2, hv_s2⟩ : ∃ z : Int32, z = (((p1.toUInt32 >>> ((11 : Int32) &&& 31).toUInt32).toInt32) &&& (1023 : Int32)) := ⟨_, rfl⟩
      rw [← hv_s2]
      obtain ⟨hs2, hs22⟩ : ¬ s2 < 0 ∧ s2.toInt ≤ 1023 := by rw [hv_s2]; exact own_m _ _ 10 (by decide) (by decide)
      refine Go.to (g' := (mkF m 57 #[.val (.int p0), .val (.int p1), .val (.int p2), .val (.int p3), .val (.int p4), .val (.int p5), .val (.int (0 : Int32)), .val (.int (1 : Int32)), .val (.int st), .val (.int s2), .unset, .unset, .unset, .unset, .unset] [])) (fun t k => XS.istore X0.here hx rfl (hb hby at_55) rfl (l' := #[.val (.int p0), .val (.int p1), .val (.int p2), .val (.int p3), .val (.int p4), .val (.int p5), .val (.int (0 : Int32)), .val (.int (1 : Int32)), .val (.int st), .val (.int s2), .unset, .unset, .unset, .unset, .unset]) rfl k) ?_
      refine Go.to (g' := (mkF m 58 #[.val (.int p0), .val (.int p1), .val (.int p2), .val (.int p3), .val (.int p4), .val (.int p5), .val (.int (0 : Int32)), .val (.int (1 : Int32)), .val (.int st), .val (.int s2), .unset, .unset, .unset, .unset, .unset] [(.int p0)])) (fun t k => XS.iloadN X0.here hx rfl (hb hby at_57) rfl k) ?_
      refine Go.to (g' := (mkF m 59 #[.val (.int p0), .val (.int p1), .val (.int p2), .val (.int p3), .val (.int p4), .val (.int p5), .val (.int (0 : Int32)), .val (.int (1 : Int32)), .val (.int st), .val (.int s2), .unset, .unset, .unset, .unset, .unset] [(.int (2 : Int32)), (.int p0)])) (fun t k => XS.iconst X0.here hx rfl (hb hby at_58) k) ?_
      refine Go.to (g' := (mkF m 60 #[.val (.int p0), .val (.int p1), .val (.int p2), .val (.int p3), .val (.int p4), .val (.int p5), .val (.int (0 : Int32)), .val (.int (1 : Int32)), .val (.int st), .val (.int s2), .unset, .unset, .unset, .unset, .unset] [(.int (p0 &&& (2 : Int32)))])) (fun t k => XS.iand X0.here hx rfl (hb hby at_59) rfl k) ?_
      suffices Jf : ∀ qf : Int32, Go p e below s (Q0 Z p0 p1 p2 p3 p4 p5 h0 n0) room_1.cells room_1.slots (s₁.setTop (mkF m 69 #[.val (.int p0), .val (.int p1), .val (.int p2), .val (.int p3), .val (.int p4), .val (.int p5), .val (.int (0 : Int32)), .val (.int (1 : Int32)), .val (.int st), .val (.int s2), .unset, .unset, .unset, .unset, .unset] [(.int qf)])) by
        by_cases c13 : (p0 &&& (2 : Int32)) = (0 : Int32)
        · refine Go.to (g' := (mkF m 67 #[.val (.int p0), .val (.int p1), .val (.int p2), .val (.int p3), .val (.int p4), .val (.int p5), .val (.int (0 : Int32)), .val (.int (1 : Int32)), .val (.int st), .val (.int s2), .unset, .unset, .unset, .unset, .unset] [])) (fun t k => XS.ifYes X0.here hx rfl (pc0 := 60) (pc' := 67) rfl (hb hby at_60) rfl ((if0 _ _).trans (teq c13).1) (by decide) (by decide) k) ?_
          refine Go.to (g' := (mkF m 69 #[.val (.int p0), .val (.int p1), .val (.int p2), .val (.int p3), .val (.int p4), .val (.int p5), .val (.int (0 : Int32)), .val (.int (1 : Int32)), .val (.int st), .val (.int s2), .unset, .unset, .unset, .unset, .unset] [(.int p4)])) (fun t k => XS.iload X0.here hx rfl (hb hby at_67) rfl k) ?_
          exact Jf _
        · refine Go.to (g' := (mkF m 63 #[.val (.int p0), .val (.int p1), .val (.int p2), .val (.int p3), .val (.int p4), .val (.int p5), .val (.int (0 : Int32)), .val (.int (1 : Int32)), .val (.int st), .val (.int s2), .unset, .unset, .unset, .unset, .unset] [])) (fun t k => XS.ifNo X0.here hx rfl (hb hby at_60) rfl ((if0 _ _).trans (feq c13).1) k) ?_
          refine Go.to (g' := (mkF m 64 #[.val (.int p0), .val (.int p1), .val (.int p2), .val (.int p3), .val (.int p4), .val (.int p5), .val (.int (0 : Int32)), .val (.int (1 : Int32)), .val (.int st), .val (.int s2), .unset, .unset, .unset, .unset, .unset] [(.int p2)])) (fun t k => XS.iloadN X0.here hx rfl (hb hby at_63) rfl k) ?_
          refine Go.to (g' := (mkF m 69 #[.val (.int p0), .val (.int p1), .val (.int p2), .val (.int p3), .val (.int p4), .val (.int p5), .val (.int (0 : Int32)), .val (.int (1 : Int32)), .val (.int st), .val (.int s2), .unset, .unset, .unset, .unset, .unset] [(.int p2)])) (fun t k => XS.goto X0.here hx rfl (pc0 := 64) (pc' := 69) rfl (hb hby at_64) (by decide) (by decide) k) ?_
          exact Jf _
      intro qf
      refine Go.to (g' := (mkF m 71 #[.val (.int p0), .val (.int p1), .val (.int p2), .val (.int p3), .val (.int p4), .val (.int p5), .val (.int (0 : Int32)), .val (.int (1 : Int32)), .val (.int st), .val (.int s2), .val (.int qf), .unset, .unset, .unset, .unset] [])) (fun t k => XS.istore X0.here hx rfl (hb hby at_69) rfl (l' := #[.val (.int p0), .val (.int p1), .val (.int p2), .val (.int p3), .val (.int p4), .val (.int p5), .val (.int (0 : Int32)), .val (.int (1 : Int32)), .val (.int st), .val (.int s2), .val (.int qf), .unset, .unset, .unset, .unset]) rfl k) ?_
      refine Go.to (g' := (mkF m 72 #[.val (.int p0), .val (.int p1), .val (.int p2), .val (.int p3), .val (.int p4), .val (.int p5), .val (.int (0 : Int32)), .val (.int (1 : Int32)), .val (.int st), .val (.int s2), .val (.int qf), .unset, .unset, .unset, .unset] [(.int p0)])) (fun t k => XS.iloadN X0.here hx rfl (hb hby at_71) rfl k) ?_
      refine Go.to (g' := (mkF m 73 #[.val (.int p0), .val (.int p1), .val (.int p2), .val (.int p3), .val (.int p4), .val (.int p5), .val (.int (0 : Int32)), .val (.int (1 : Int32)), .val (.int st), .val (.int s2), .val (.int qf), .unset, .unset, .unset, .unset] [(.int (4 : Int32)), (.int p0)])) (fun t k => XS.iconst X0.here hx rfl (hb hby at_72) k) ?_
      refine Go.to (g' := (mkF m 74 #[.val (.int p0), .val (.int p1), .val (.int p2), .val (.int p3), .val (.int p4), .val (.int p5), .val (.int (0 : Int32)), .val (.int (1 : Int32)), .val (.int st), .val (.int s2), .val (.int qf), .unset, .unset, .unset, .unset] [(.int (p0 &&& (4 : Int32)))])) (fun t k => XS.iand X0.here hx rfl (hb hby at_73) rfl k) ?_
      suffices Jt : ∀ qt : Int32, Go p e below s (Q0 Z p0 p1 p2 p3 p4 p5 h0 n0) room_1.cells room_1.slots (s₁.setTop (mkF m 83 #[.val (.int p0), .val (.int p1), .val (.int p2), .val (.int p3), .val (.int p4), .val (.int p5), .val (.int (0 : Int32)), .val (.int (1 : Int32)), .val (.int st), .val (.int s2), .val (.int qf), .unset, .unset, .unset, .unset] [(.int qt)])) by
        by_cases c14 : (p0 &&& (4 : Int32)) = (0 : Int32)
        · refine Go.to (g' := (mkF m 81 #[.val (.int p0), .val (.int p1), .val (.int p2), .val (.int p3), .val (.int p4), .val (.int p5), .val (.int (0 : Int32)), .val (.int (1 : Int32)), .val (.int st), .val (.int s2), .val (.int qf), .unset, .unset, .unset, .unset] [])) (fun t k => XS.ifYes X0.here hx rfl (pc0 := 74) (pc' := 81) rfl (hb hby at_74) rfl ((if0 _ _).trans (teq c14).1) (by decide) (by decide) k) ?_
          refine Go.to (g' := (mkF m 83 #[.val (.int p0), .val (.int p1), .val (.int p2), .val (.int p3), .val (.int p4), .val (.int p5), .val (.int (0 : Int32)), .val (.int (1 : Int32)), .val (.int st), .val (.int s2), .val (.int qf), .unset, .unset, .unset, .unset] [(.int p5)])) (fun t k => XS.iload X0.here hx rfl (hb hby at_81) rfl k) ?_
          exact Jt _
        · refine Go.to (g' := (mkF m 77 #[.val (.int p0), .val (.int p1), .val (.int p2), .val (.int p3), .val (.int p4), .val (.int p5), .val (.int (0 : Int32)), .val (.int (1 : Int32)), .val (.int st), .val (.int s2), .val (.int qf), .unset, .unset, .unset, .unset] [])) (fun t k => XS.ifNo X0.here hx rfl (hb hby at_74) rfl ((if0 _ _).trans (feq c14).1) k) ?_
          refine Go.to (g' := (mkF m 78 #[.val (.int p0), .val (.int p1), .val (.int p2), .val (.int p3), .val (.int p4), .val (.int p5), .val (.int (0 : Int32)), .val (.int (1 : Int32)), .val (.int st), .val (.int s2), .val (.int qf), .unset, .unset, .unset, .unset] [(.int p3)])) (fun t k => XS.iloadN X0.here hx rfl (hb hby at_77) rfl k) ?_
          refine Go.to (g' := (mkF m 83 #[.val (.int p0), .val (.int p1), .val (.int p2), .val (.int p3), .val (.int p4), .val (.int p5), .val (.int (0 : Int32)), .val (.int (1 : Int32)), .val (.int st), .val (.int s2), .val (.int qf), .unset, .unset, .unset, .unset] [(.int p3)])) (fun t k => XS.goto X0.here hx rfl (pc0 := 78) (pc' := 83) rfl (hb hby at_78) (by decide) (by decide) k) ?_
          exact Jt _
      intro qt
      refine Go.to (g' := (mkF m 85 #[.val (.int p0), .val (.int p1), .val (.int p2), .val (.int p3), .val (.int p4), .val (.int p5), .val (.int (0 : Int32)), .val (.int (1 : Int32)), .val (.int st), .val (.int s2), .val (.int qf), .val (.int qt), .unset, .unset, .unset] [])) (fun t k => XS.istore X0.here hx rfl (hb hby at_83) rfl (l' := #[.val (.int p0), .val (.int p1), .val (.int p2), .val (.int p3), .val (.int p4), .val (.int p5), .val (.int (0 : Int32)), .val (.int (1 : Int32)), .val (.int st), .val (.int s2), .val (.int qf), .val (.int qt), .unset, .unset, .unset]) rfl k) ?_
      obtain ⟨T16, h16, X16, e16, E16, A16, D16, -, st16⟩ := newO X0 hx hZ hown (hw _ (List.mem_of_getElem? (i := 0) rfl)) (hw _ (List.mem_of_getElem? (i := 1) rfl)) (hw _ (List.mem_of_getElem? (i := 2) rfl)) e0 (g := (mkF m 85 #[.val (.int p0), .val (.int p1), .val (.int p2), .val (.int p3), .val (.int p4), .val (.int p5), .val (.int (0 : Int32)), .val (.int (1 : Int32)), .val (.int st), .val (.int s2), .val (.int qf), .val (.int qt), .unset, .unset, .unset] [])) rfl (hb hby at_85) (by decide) (by decide)
      obtain ⟨o15, g16⟩ : ∃ z, z = h0.size := ⟨_, rfl⟩
      rw [← g16] at A16 D16 st16
      have g_o15 : n0 ≤ o15 := Nat.le_trans Z0 (Nat.le_of_eq g16.symm)
      have sz_o15 : h0.size ≤ o15 := Nat.le_trans (Keep.refl h0 []).1 (Nat.le_of_eq g16.symm)
      have Z16 : n0 ≤ h16.size := Nat.le_trans Z0 E16.1
      have K16 : Keep h0 h16 [] := (Keep.refl h0 []).ext E16
      have F_firings_o15 : Fld Z h16 o15 "com/example/skuld/skuld/analysis/Distances" "firings" "[I" .null := D16 (Or.inl (hw _ (List.mem_of_getElem? (i := 11) rfl))) (ty := (.array .int)) (by decide)
      have F_times_o15 : Fld Z h16 o15 "com/example/skuld/skuld/analysis/Distances" "times" "[I" .null := D16 (Or.inl (hw _ (List.mem_of_getElem? (i := 13) rfl))) (ty := (.array .int)) (by decide)
      have F_kept_o15 : Fld Z h16 o15 "com/example/skuld/skuld/analysis/Distances" "kept" "Z" (.int (0 : Int32)) := D16 (Or.inr (hw _ (List.mem_of_getElem? (i := 15) rfl))) (ty := .boolean) (by decide)
      refine Go.to (g' := (mkF m 88 #[.val (.int p0), .val (.int p1), .val (.int p2), .val (.int p3), .val (.int p4), .val (.int p5), .val (.int (0 : Int32)), .val (.int (1 : Int32)), .val (.int st), .val (.int s2), .val (.int qf), .val (.int qt), .unset, .unset, .unset] [(.ref o15)])) st16 ?_
      refine Go.to (g' := (mkF m 89 #[.val (.int p0), .val (.int p1), .val (.int p2), .val (.int p3), .val (.int p4), .val (.int p5), .val (.int (0 : Int32)), .val (.int (1 : Int32)), .val (.int st), .val (.int s2), .val (.int qf), .val (.int qt), .unset, .unset, .unset] [(.ref o15), (.ref o15)])) (fun t k => XS.dup X16.here hx rfl (hb hby at_88) rfl rfl k) ?_
      refine Go.to (g' := (mkF m 91 #[.val (.int p0), .val (.int p1), .val (.int p2), .val (.int p3), .val (.int p4), .val (.int p5), .val (.int (0 : Int32)), .val (.int (1 : Int32)), .val (.int st), .val (.int s2), .val (.int qf), .val (.int qt), .unset, .unset, .unset] [(.int (0 : Int32)), (.ref o15), (.ref o15)])) (fun t k => XS.iload X16.here hx rfl (hb hby at_89) rfl k) ?_
      obtain ⟨v17, _, ⟨T17, L17, k17, n17⟩, -, X17, ⟨Lc17, hQ17, l17, y17, z17⟩, st17⟩ := X16.specialBack hx (y := (⟨"com/example/skuld/skuld/analysis/Distances", "<init>", "(Z)V"⟩ : MethodName)) rfl hown (mvT hZ (hw _ (List.mem_of_getElem? (i := 3) rfl))) (mvT hZ (hw _ (List.mem_of_getElem? (i := 4) rfl))) (mvT hZ (hw _ (List.mem_of_getElem? (i := 5) rfl))) (by decide) (backOf (W := 1) (rm1n l Z aw hw [] o15 (0 : Int32)  h16 n0 Z16 A16 F_firings_o15 F_times_o15 F_kept_o15 g_o15 rfl) hZ (hw _ (List.mem_of_getElem? (i := 5) rfl)) (hw _ (List.mem_of_getElem? (i := 2) rfl)) (by decide) (by decide)) (g := (mkF m 91 #[.val (.int p0), .val (.int p1), .val (.int p2), .val (.int p3), .val (.int p4), .val (.int p5), .val (.int (0 : Int32)), .val (.int (1 : Int32)), .val (.int st), .val (.int s2), .val (.int qf), .val (.int qt), .unset, .unset, .unset] [(.int (0 : Int32)), (.ref o15), (.ref o15)])) rfl (by rw [hml]; rfl) (Steps.refl _) (a := o15) (argsL := [(.int (0 : Int32))]) (rest := [(.ref o15)]) (lenOf pd_28Z29V rfl) rfl (by show 2 * 0 + _ ≤ _; exact Nat.le_of_eq rfl) (hb hby at_91) (fun _ _ => ⟨rfl, e16, (by decide : 1 + 2 ≤ _), (by decide : 3 + 0 ≤ _)⟩)
      dsimp only [Pt.U, Pt.locs, Pt.cells, Pt.slots] at X17 l17 y17 z17 st17 hQ17
      subst l17 y17 z17
      obtain ⟨h17, e17⟩ : ∃ z, T17.heap = z := ⟨_, rfl⟩
      rw [e17] at hQ17
      obtain ⟨rfl, N17q, Kq17, Gk17⟩ := hQ17
      have N17 := Fr.app N0 N17q
      have Z17 : n0 ≤ h17.size := Nat.le_trans Z16 Kq17.1
      have K17 : Keep h0 h17 [] := K16.trans Kq17 (fun x hx => by cases List.mem_singleton.mp hx; exact Or.inr sz_o15)
      refine Go.to (g' := (mkF m 94 #[.val (.int p0), .val (.int p1), .val (.int p2), .val (.int p3), .val (.int p4), .val (.int p5), .val (.int (0 : Int32)), .val (.int (1 : Int32)), .val (.int st), .val (.int s2), .val (.int qf), .val (.int qt), .unset, .unset, .unset] [(.ref o15)])) (fun t k => st17.trans k) ?_
      refine Go.to (g' := (mkF m 96 #[.val (.int p0), .val (.int p1), .val (.int p2), .val (.int p3), .val (.int p4), .val (.int p5), .val (.int (0 : Int32)), .val (.int (1 : Int32)), .val (.int st), .val (.int s2), .val (.int qf), .val (.int qt), .val (.ref o15), .unset, .unset] [])) (fun t k => XS.astore X17.here hx rfl (hb hby at_94) rfl rfl (l' := #[.val (.int p0), .val (.int p1), .val (.int p2), .val (.int p3), .val (.int p4), .val (.int p5), .val (.int (0 : Int32)), .val (.int (1 : Int32)), .val (.int st), .val (.int s2), .val (.int qf), .val (.int qt), .val (.ref o15), .unset, .unset]) rfl k) ?_
      refine Go.to (g' := (mkF m 98 #[.val (.int p0), .val (.int p1), .val (.int p2), .val (.int p3), .val (.int p4), .val (.int p5), .val (.int (0 : Int32)), .val (.int (1 : Int32)), .val (.int st), .val (.int s2), .val (.int qf), .val (.int qt), .val (.ref o15), .unset, .unset] [(.int (1 : Int32))])) (fun t k => XS.iload X17.here hx rfl (hb hby at_96) rfl k) ?_
      refine Go.to (g' := (mkF m 101 #[.val (.int p0), .val (.int p1), .val (.int p2), .val (.int p3), .val (.int p4), .val (.int p5), .val (.int (0 : Int32)), .val (.int (1 : Int32)), .val (.int st), .val (.int s2), .val (.int qf), .val (.int qt), .val (.ref o15), .unset, .unset] [])) (fun t k => XS.ifNo X17.here hx rfl (hb hby at_98) rfl ((if0 _ _).trans (feq (by decide)).1) k) ?_
      refine Go.to (g' := (mkF m 103 #[.val (.int p0), .val (.int p1), .val (.int p2), .val (.int p3), .val (.int p4), .val (.int p5), .val (.int (0 : Int32)), .val (.int (1 : Int32)), .val (.int st), .val (.int s2), .val (.int qf), .val (.int qt), .val (.ref o15), .unset, .unset] [(.ref o15)])) (fun t k => XS.aload X17.here hx rfl (hb hby at_101) rfl rfl k) ?_
      refine Go.to (g' := (mkF m 105 #[.val (.int p0), .val (.int p1), .val (.int p2), .val (.int p3), .val (.int p4), .val (.int p5), .val (.int (0 : Int32)), .val (.int (1 : Int32)), .val (.int st), .val (.int s2), .val (.int qf), .val (.int qt), .val (.ref o15), .unset, .unset] [(.int st), (.ref o15)])) (fun t k => XS.iload X17.here hx rfl (hb hby at_103) rfl k) ?_
      refine Go.to (g' := (mkF m 106 #[.val (.int p0), .val (.int p1), .val (.int p2), .val (.int p3), .val (.int p4), .val (.int p5), .val (.int (0 : Int32)), .val (.int (1 : Int32)), .val (.int st), .val (.int s2), .val (.int qf), .val (.int qt), .val (.ref o15), .unset, .unset] [(.int (1 : Int32)), (.int st), (.ref o15)])) (fun t k => XS.iconst X17.here hx rfl (hb hby at_105) k) ?_
      refine Go.to (g' := (mkF m 107 #[.val (.int p0), .val (.int p1), .val (.int p2), .val (.int p3), .val (.int p4), .val (.int p5), .val (.int (0 : Int32)), .val (.int (1 : Int32)), .val (.int st), .val (.int s2), .val (.int qf), .val (.int qt), .val (.ref o15), .unset, .unset] [(.int p2), (.int (1 : Int32)), (.int st), (.ref o15)])) (fun t k => XS.iloadN X17.here hx rfl (hb hby at_106) rfl k) ?_
      refine Go.to (g' := (mkF m 108 #[.val (.int p0), .val (.int p1), .val (.int p2), .val (.int p3), .val (.int p4), .val (.int p5), .val (.int (0 : Int32)), .val (.int (1 : Int32)), .val (.int st), .val (.int s2), .val (.int qf), .val (.int qt), .val (.ref o15), .unset, .unset] [(.int p3), (.int p2), (.int (1 : Int32)), (.int st), (.ref o15)])) (fun t k => XS.iloadN X17.here hx rfl (hb hby at_107) rfl k) ?_
      have f18 : Exa Z h17 o15 "com/example/skuld/skuld/analysis/Distances" := (A16.keep Kq17)
      obtain ⟨cq19, kq19, qa19, qb19, qc19⟩ := isOf hZ e17 f18
      obtain ⟨v19, _, ⟨T19, L19, k19, n19⟩, -, X19, ⟨Lc19, hQ19, l19, y19, z19⟩, st19⟩ := X17.virtualBack hx (y := (⟨"com/example/skuld/skuld/analysis/Distances", "shorter", "(IZII)Z"⟩ : MethodName)) (z := (⟨"com/example/skuld/skuld/analysis/Distances", "shorter", "(IZII)Z"⟩ : MethodName)) hown (mvT hZ (hw _ (List.mem_of_getElem? (i := 25) rfl))) (mvT hZ (hw _ (List.mem_of_getElem? (i := 26) rfl))) (notFace_of_selects (args := #[]) (mvT hZ (hw _ (List.mem_of_getElem? (i := 28) rfl)))) (mvT hZ (hw _ (List.mem_of_getElem? (i := 28) rfl))) (mvT hZ (hw _ (List.mem_of_getElem? (i := 27) rfl))) (by decide) (backOf (W := 0) (rm5n l Z aw hw [] o15 st (1 : Int32) p2 p3  h17 n0 Z17 Gk17 rfl) hZ (hw _ (List.mem_of_getElem? (i := 29) rfl)) (hw _ (List.mem_of_getElem? (i := 2) rfl)) (by decide) (by decide)) qa19 qc19 (g := (mkF m 108 #[.val (.int p0), .val (.int p1), .val (.int p2), .val (.int p3), .val (.int p4), .val (.int p5), .val (.int (0 : Int32)), .val (.int (1 : Int32)), .val (.int st), .val (.int s2), .val (.int qf), .val (.int qt), .val (.ref o15), .unset, .unset] [(.int p3), (.int p2), (.int (1 : Int32)), (.int st), (.ref o15)])) rfl (by rw [hml]; rfl) (Steps.refl _) (argsL := [(.int st), (.int (1 : Int32)), (.int p2), (.int p3)]) (rest := []) (lenOf pd_28IZII29Z rfl) rfl (by show 2 * 0 + _ ≤ _; exact Nat.le_of_eq rfl) (hb hby at_108) (fun _ _ => ⟨rfl, e17, (by decide : 3 + 0 ≤ _), (by decide : 3 + 0 ≤ _)⟩)
      dsimp only [Pt.U, Pt.locs, Pt.cells, Pt.slots] at X19 l19 y19 z19 st19 hQ19
      subst l19 y19 z19
      obtain ⟨rfl, N19q, e19⟩ := hQ19
      have N19 := Fr.app N17 N19q
      refine Go.to (g' := (mkF m 111 #[.val (.int p0), .val (.int p1), .val (.int p2), .val (.int p3), .val (.int p4), .val (.int p5), .val (.int (0 : Int32)), .val (.int (1 : Int32)), .val (.int st), .val (.int s2), .val (.int qf), .val (.int qt), .val (.ref o15), .unset, .unset] [(.int (1 : Int32))])) (fun t k => st19.trans k) ?_
      refine Go.to (g' := (mkF m 112 #[.val (.int p0), .val (.int p1), .val (.int p2), .val (.int p3), .val (.int p4), .val (.int p5), .val (.int (0 : Int32)), .val (.int (1 : Int32)), .val (.int st), .val (.int s2), .val (.int qf), .val (.int qt), .val (.ref o15), .unset, .unset] [])) (fun t k => XS.pop X19.here hx rfl (hb hby at_111) rfl rfl k) ?_
      refine Go.to (g' := (mkF m 114 #[.val (.int p0), .val (.int p1), .val (.int p2), .val (.int p3), .val (.int p4), .val (.int p5), .val (.int (0 : Int32)), .val (.int (1 : Int32)), .val (.int st), .val (.int s2), .val (.int qf), .val (.int qt), .val (.ref o15), .unset, .unset] [(.ref o15)])) (fun t k => XS.aload X19.here hx rfl (hb hby at_112) rfl rfl k) ?_
      refine Go.to (g' := (mkF m 116 #[.val (.int p0), .val (.int p1), .val (.int p2), .val (.int p3), .val (.int p4), .val (.int p5), .val (.int (0 : Int32)), .val (.int (1 : Int32)), .val (.int st), .val (.int s2), .val (.int qf), .val (.int qt), .val (.ref o15), .unset, .unset] [(.int st), (.ref o15)])) (fun t k => XS.iload X19.here hx rfl (hb hby at_114) rfl k) ?_
      refine Go.to (g' := (mkF m 118 #[.val (.int p0), .val (.int p1), .val (.int p2), .val (.int p3), .val (.int p4), .val (.int p5), .val (.int (0 : Int32)), .val (.int (1 : Int32)), .val (.int st), .val (.int s2), .val (.int qf), .val (.int qt), .val (.ref o15), .unset, .unset] [(.int qf), (.int st), (.ref o15)])) (fun t k => XS.iload X19.here hx rfl (hb hby at_116) rfl k) ?_
      refine Go.to (g' := (mkF m 120 #[.val (.int p0), .val (.int p1), .val (.int p2), .val (.int p3), .val (.int p4), .val (.int p5), .val (.int (0 : Int32)), .val (.int (1 : Int32)), .val (.int st), .val (.int s2), .val (.int qf), .val (.int qt), .val (.ref o15), .unset, .unset] [(.int qt), (.int qf), (.int st), (.ref o15)])) (fun t k => XS.iload X19.here hx rfl (hb hby at_118) rfl k) ?_
      obtain ⟨cq20, kq20, qa20, qb20, qc20⟩ := isOf hZ e19 f18
      obtain ⟨v20, _, ⟨T20, L20, k20, n20⟩, -, X20, ⟨Lc20, hQ20, l20, y20, z20⟩, st20⟩ := X19.virtualBack hx (y := (⟨"com/example/skuld/skuld/analysis/Distances", "current", "(III)Z"⟩ : MethodName)) (z := (⟨"com/example/skuld/skuld/analysis/Distances", "current", "(III)Z"⟩ : MethodName)) hown (mvT hZ (hw _ (List.mem_of_getElem? (i := 16) rfl))) (mvT hZ (hw _ (List.mem_of_getElem? (i := 17) rfl))) (notFace_of_selects (args := #[]) (mvT hZ (hw _ (List.mem_of_getElem? (i := 19) rfl)))) (mvT hZ (hw _ (List.mem_of_getElem? (i := 19) rfl))) (mvT hZ (hw _ (List.mem_of_getElem? (i := 18) rfl))) (by decide) (backOf (W := 0) (rm3n l Z aw hw [] o15 st qf qt  h17 n0 Z17 Gk17) hZ (hw _ (List.mem_of_getElem? (i := 20) rfl)) (hw _ (List.mem_of_getElem? (i := 2) rfl)) (by decide) (by decide)) qa20 qc20 (g := (mkF m 120 #[.val (.int p0), .val (.int p1), .val (.int p2), .val (.int p3), .val (.int p4), .val (.int p5), .val (.int (0 : Int32)), .val (.int (1 : Int32)), .val (.int st), .val (.int s2), .val (.int qf), .val (.int qt), .val (.ref o15), .unset, .unset] [(.int qt), (.int qf), (.int st), (.ref o15)])) rfl (by rw [hml]; rfl) (Steps.refl _) (argsL := [(.int st), (.int qf), (.int qt)]) (rest := []) (lenOf pd_28III29Z rfl) rfl (by show 2 * 0 + _ ≤ _; exact Nat.le_of_eq rfl) (hb hby at_120) (fun _ _ => ⟨rfl, e19, (by decide : 3 + 0 ≤ _), (by decide : 3 + 0 ≤ _)⟩)
      dsimp only [Pt.U, Pt.locs, Pt.cells, Pt.slots] at X20 l20 y20 z20 st20 hQ20
      subst l20 y20 z20
      obtain ⟨rfl, N20q, e20⟩ := hQ20
      have N20 := Fr.app N19 N20q
      refine Go.to (g' := (mkF m 123 #[.val (.int p0), .val (.int p1), .val (.int p2), .val (.int p3), .val (.int p4), .val (.int p5), .val (.int (0 : Int32)), .val (.int (1 : Int32)), .val (.int st), .val (.int s2), .val (.int qf), .val (.int qt), .val (.ref o15), .unset, .unset] [(.int (1 : Int32))])) (fun t k => st20.trans k) ?_
      refine Go.to (g' := (mkF m 125 #[.val (.int p0), .val (.int p1), .val (.int p2), .val (.int p3), .val (.int p4), .val (.int p5), .val (.int (0 : Int32)), .val (.int (1 : Int32)), .val (.int st), .val (.int s2), .val (.int qf), .val (.int qt), .val (.ref o15), .val (.int (1 : Int32)), .unset] [])) (fun t k => XS.istore X20.here hx rfl (hb hby at_123) rfl (l' := #[.val (.int p0), .val (.int p1), .val (.int p2), .val (.int p3), .val (.int p4), .val (.int p5), .val (.int (0 : Int32)), .val (.int (1 : Int32)), .val (.int st), .val (.int s2), .val (.int qf), .val (.int qt), .val (.ref o15), .val (.int (1 : Int32)), .unset]) rfl k) ?_
      refine Go.to (g' := (mkF m 127 #[.val (.int p0), .val (.int p1), .val (.int p2), .val (.int p3), .val (.int p4), .val (.int p5), .val (.int (0 : Int32)), .val (.int (1 : Int32)), .val (.int st), .val (.int s2), .val (.int qf), .val (.int qt), .val (.ref o15), .val (.int (1 : Int32)), .unset] [(.ref o15)])) (fun t k => XS.aload X20.here hx rfl (hb hby at_125) rfl rfl k) ?_
      refine Go.to (g' := (mkF m 129 #[.val (.int p0), .val (.int p1), .val (.int p2), .val (.int p3), .val (.int p4), .val (.int p5), .val (.int (0 : Int32)), .val (.int (1 : Int32)), .val (.int st), .val (.int s2), .val (.int qf), .val (.int qt), .val (.ref o15), .val (.int (1 : Int32)), .unset] [(.int s2), (.ref o15)])) (fun t k => XS.iload X20.here hx rfl (hb hby at_127) rfl k) ?_
      refine Go.to (g' := (mkF m 131 #[.val (.int p0), .val (.int p1), .val (.int p2), .val (.int p3), .val (.int p4), .val (.int p5), .val (.int (0 : Int32)), .val (.int (1 : Int32)), .val (.int st), .val (.int s2), .val (.int qf), .val (.int qt), .val (.ref o15), .val (.int (1 : Int32)), .unset] [(.int qf), (.int s2), (.ref o15)])) (fun t k => XS.iload X20.here hx rfl (hb hby at_129) rfl k) ?_
      refine Go.to (g' := (mkF m 133 #[.val (.int p0), .val (.int p1), .val (.int p2), .val (.int p3), .val (.int p4), .val (.int p5), .val (.int (0 : Int32)), .val (.int (1 : Int32)), .val (.int st), .val (.int s2), .val (.int qf), .val (.int qt), .val (.ref o15), .val (.int (1 : Int32)), .unset] [(.int qt), (.int qf), (.int s2), (.ref o15)])) (fun t k => XS.iload X20.here hx rfl (hb hby at_131) rfl k) ?_
      obtain ⟨cq21, kq21, qa21, qb21, qc21⟩ := isOf hZ e20 f18
      obtain ⟨v21, _, ⟨T21, L21, k21, n21⟩, -, X21, ⟨Lc21, hQ21, l21, y21, z21⟩, st21⟩ := X20.virtualBack hx (y := (⟨"com/example/skuld/skuld/analysis/Distances", "current", "(III)Z"⟩ : MethodName)) (z := (⟨"com/example/skuld/skuld/analysis/Distances", "current", "(III)Z"⟩ : MethodName)) hown (mvT hZ (hw _ (List.mem_of_getElem? (i := 16) rfl))) (mvT hZ (hw _ (List.mem_of_getElem? (i := 17) rfl))) (notFace_of_selects (args := #[]) (mvT hZ (hw _ (List.mem_of_getElem? (i := 19) rfl)))) (mvT hZ (hw _ (List.mem_of_getElem? (i := 19) rfl))) (mvT hZ (hw _ (List.mem_of_getElem? (i := 18) rfl))) (by decide) (backOf (W := 0) (rm3n l Z aw hw [] o15 s2 qf qt  h17 n0 Z17 Gk17) hZ (hw _ (List.mem_of_getElem? (i := 20) rfl)) (hw _ (List.mem_of_getElem? (i := 2) rfl)) (by decide) (by decide)) qa21 qc21 (g := (mkF m 133 #[.val (.int p0), .val (.int p1), .val (.int p2), .val (.int p3), .val (.int p4), .val (.int p5), .val (.int (0 : Int32)), .val (.int (1 : Int32)), .val (.int st), .val (.int s2), .val (.int qf), .val (.int qt), .val (.ref o15), .val (.int (1 : Int32)), .unset] [(.int qt), (.int qf), (.int s2), (.ref o15)])) rfl (by rw [hml]; rfl) (Steps.refl _) (argsL := [(.int s2), (.int qf), (.int qt)]) (rest := []) (lenOf pd_28III29Z rfl) rfl (by show 2 * 0 + _ ≤ _; exact Nat.le_of_eq rfl) (hb hby at_133) (fun _ _ => ⟨rfl, e20, (by decide : 3 + 0 ≤ _), (by decide : 3 + 0 ≤ _)⟩)
      dsimp only [Pt.U, Pt.locs, Pt.cells, Pt.slots] at X21 l21 y21 z21 st21 hQ21
      subst l21 y21 z21
      obtain ⟨rfl, N21q, e21⟩ := hQ21
      have N21 := Fr.app N20 N21q
      refine Go.to (g' := (mkF m 136 #[.val (.int p0), .val (.int p1), .val (.int p2), .val (.int p3), .val (.int p4), .val (.int p5), .val (.int (0 : Int32)), .val (.int (1 : Int32)), .val (.int st), .val (.int s2), .val (.int qf), .val (.int qt), .val (.ref o15), .val (.int (1 : Int32)), .unset] [(.int (1 : Int32))])) (fun t k => st21.trans k) ?_
      refine Go.to (g' := (mkF m 138 #[.val (.int p0), .val (.int p1), .val (.int p2), .val (.int p3), .val (.int p4), .val (.int p5), .val (.int (0 : Int32)), .val (.int (1 : Int32)), .val (.int st), .val (.int s2), .val (.int qf), .val (.int qt), .val (.ref o15), .val (.int (1 : Int32)), .val (.int (1 : Int32))] [])) (fun t k => XS.istore X21.here hx rfl (hb hby at_136) rfl (l' := #[.val (.int p0), .val (.int p1), .val (.int p2), .val (.int p3), .val (.int p4), .val (.int p5), .val (.int (0 : Int32)), .val (.int (1 : Int32)), .val (.int st), .val (.int s2), .val (.int qf), .val (.int qt), .val (.ref o15), .val (.int (1 : Int32)), .val (.int (1 : Int32))]) rfl k) ?_
      refine Go.to (g' := (mkF m 140 #[.val (.int p0), .val (.int p1), .val (.int p2), .val (.int p3), .val (.int p4), .val (.int p5), .val (.int (0 : Int32)), .val (.int (1 : Int32)), .val (.int st), .val (.int s2), .val (.int qf), .val (.int qt), .val (.ref o15), .val (.int (1 : Int32)), .val (.int (1 : Int32))] [(.int (1 : Int32))])) (fun t k => XS.iload X21.here hx rfl (hb hby at_138) rfl k) ?_
      refine Go.to (g' := (mkF m 142 #[.val (.int p0), .val (.int p1), .val (.int p2), .val (.int p3), .val (.int p4), .val (.int p5), .val (.int (0 : Int32)), .val (.int (1 : Int32)), .val (.int st), .val (.int s2), .val (.int qf), .val (.int qt), .val (.ref o15), .val (.int (1 : Int32)), .val (.int (1 : Int32))] [(.int (0 : Int32)), (.int (1 : Int32))])) (fun t k => XS.iload X21.here hx rfl (hb hby at_140) rfl k) ?_
      refine Go.to (g' := (mkF m 144 #[.val (.int p0), .val (.int p1), .val (.int p2), .val (.int p3), .val (.int p4), .val (.int p5), .val (.int (0 : Int32)), .val (.int (1 : Int32)), .val (.int st), .val (.int s2), .val (.int qf), .val (.int qt), .val (.ref o15), .val (.int (1 : Int32)), .val (.int (1 : Int32))] [(.int (1 : Int32)), (.int (0 : Int32)), (.int (1 : Int32))])) (fun t k => XS.iload X21.here hx rfl (hb hby at_142) rfl k) ?_
      refine Go.to (g' := (mkF m 146 #[.val (.int p0), .val (.int p1), .val (.int p2), .val (.int p3), .val (.int p4), .val (.int p5), .val (.int (0 : Int32)), .val (.int (1 : Int32)), .val (.int st), .val (.int s2), .val (.int qf), .val (.int qt), .val (.ref o15), .val (.int (1 : Int32)), .val (.int (1 : Int32))] [(.int st), (.int (1 : Int32)), (.int (0 : Int32)), (.int (1 : Int32))])) (fun t k => XS.iload X21.here hx rfl (hb hby at_144) rfl k) ?_
      refine Go.to (g' := (mkF m 148 #[.val (.int p0), .val (.int p1), .val (.int p2), .val (.int p3), .val (.int p4), .val (.int p5), .val (.int (0 : Int32)), .val (.int (1 : Int32)), .val (.int st), .val (.int s2), .val (.int qf), .val (.int qt), .val (.ref o15), .val (.int (1 : Int32)), .val (.int (1 : Int32))] [(.int st), (.int st), (.int (1 : Int32)), (.int (0 : Int32)), (.int (1 : Int32))])) (fun t k => XS.iload X21.here hx rfl (hb hby at_146) rfl k) ?_
      refine Go.to (g' := (mkF m 149 #[.val (.int p0), .val (.int p1), .val (.int p2), .val (.int p3), .val (.int p4), .val (.int p5), .val (.int (0 : Int32)), .val (.int (1 : Int32)), .val (.int st), .val (.int s2), .val (.int qf), .val (.int qt), .val (.ref o15), .val (.int (1 : Int32)), .val (.int (1 : Int32))] [(.int p2), (.int st), (.int st), (.int (1 : Int32)), (.int (0 : Int32)), (.int (1 : Int32))])) (fun t k => XS.iloadN X21.here hx rfl (hb hby at_148) rfl k) ?_
      refine Go.to (g' := (mkF m 150 #[.val (.int p0), .val (.int p1), .val (.int p2), .val (.int p3), .val (.int p4), .val (.int p5), .val (.int (0 : Int32)), .val (.int (1 : Int32)), .val (.int st), .val (.int s2), .val (.int qf), .val (.int qt), .val (.ref o15), .val (.int (1 : Int32)), .val (.int (1 : Int32))] [(.int p3), (.int p2), (.int st), (.int st), (.int (1 : Int32)), (.int (0 : Int32)), (.int (1 : Int32))])) (fun t k => XS.iloadN X21.here hx rfl (hb hby at_149) rfl k) ?_
      refine Go.to (g' := (mkF m 152 #[.val (.int p0), .val (.int p1), .val (.int p2), .val (.int p3), .val (.int p4), .val (.int p5), .val (.int (0 : Int32)), .val (.int (1 : Int32)), .val (.int st), .val (.int s2), .val (.int qf), .val (.int qt), .val (.ref o15), .val (.int (1 : Int32)), .val (.int (1 : Int32))] [(.int qf), (.int p3), (.int p2), (.int st), (.int st), (.int (1 : Int32)), (.int (0 : Int32)), (.int (1 : Int32))])) (fun t k => XS.iload X21.here hx rfl (hb hby at_150) rfl k) ?_
      refine Go.to (g' := (mkF m 154 #[.val (.int p0), .val (.int p1), .val (.int p2), .val (.int p3), .val (.int p4), .val (.int p5), .val (.int (0 : Int32)), .val (.int (1 : Int32)), .val (.int st), .val (.int s2), .val (.int qf), .val (.int qt), .val (.ref o15), .val (.int (1 : Int32)), .val (.int (1 : Int32))] [(.int qt), (.int qf), (.int p3), (.int p2), (.int st), (.int st), (.int (1 : Int32)), (.int (0 : Int32)), (.int (1 : Int32))])) (fun t k => XS.iload X21.here hx rfl (hb hby at_152) rfl k) ?_
      obtain ⟨re1, hre1⟩ : ∃ r : Int32, ((own_ex (0 : Int32) (1 : Int32) st st p2 p3 qf qt) ∧ r = (1 : Int32)) ∨ (¬ (own_ex (0 : Int32) (1 : Int32) st st p2 p3 qf qt) ∧ r = (0 : Int32)) := (Classical.em (own_ex (0 : Int32) (1 : Int32) st st p2 p3 qf qt)).elim (fun q => ⟨1, Or.inl ⟨q, rfl⟩⟩) (fun q => ⟨0, Or.inr ⟨q, rfl⟩⟩)
      obtain ⟨v22, _, ⟨T22, L22, k22, n22⟩, -, X22, ⟨Lc22, hQ22, l22, y22, z22⟩, st22⟩ := Jvm.LawKit.callS X21 hx (y := (⟨"com/example/skuld/skuld/analysis/DistancesCurrentPinLaw", "expect", "(ZZIIIIII)Z"⟩ : MethodName)) hown (mvT hZ (hw _ (List.mem_of_getElem? (i := 21) rfl))) (mvT hZ (hw _ (List.mem_of_getElem? (i := 22) rfl))) (mvT hZ (hw _ (List.mem_of_getElem? (i := 23) rfl))) (mvT hZ (hw _ (List.mem_of_getElem? (i := 24) rfl))) (by decide) (backOf (W := 1) (rm4 l Z aw hw [] (0 : Int32) (1 : Int32) st st p2 p3 qf qt re1 h17 n0 Z17 hre1) hZ (hw _ (List.mem_of_getElem? (i := 24) rfl)) (hw _ (List.mem_of_getElem? (i := 23) rfl)) (by decide) (by decide)) (g := (mkF m 154 #[.val (.int p0), .val (.int p1), .val (.int p2), .val (.int p3), .val (.int p4), .val (.int p5), .val (.int (0 : Int32)), .val (.int (1 : Int32)), .val (.int st), .val (.int s2), .val (.int qf), .val (.int qt), .val (.ref o15), .val (.int (1 : Int32)), .val (.int (1 : Int32))] [(.int qt), (.int qf), (.int p3), (.int p2), (.int st), (.int st), (.int (1 : Int32)), (.int (0 : Int32)), (.int (1 : Int32))])) rfl (by rw [hml]; rfl) (argsL := [(.int (0 : Int32)), (.int (1 : Int32)), (.int st), (.int st), (.int p2), (.int p3), (.int qf), (.int qt)]) (rest := [(.int (1 : Int32))]) (lenOf pd_28ZZIIIIII29Z rfl) rfl (by show 2 * 0 + _ ≤ _; exact Nat.le_of_eq rfl) (hb hby at_154) (fun _ _ => ⟨rfl, e21, (by decide : 3 + 0 ≤ _), (by decide : 3 + 0 ≤ _)⟩)
      dsimp only [Pt.U, Pt.locs, Pt.cells, Pt.slots] at X22 l22 y22 z22 st22 hQ22
      subst l22 y22 z22
      obtain ⟨rfl, N22q, e22⟩ := hQ22
      have N22 := Fr.app N21 N22q
      refine Go.to (g' := (mkF m 157 #[.val (.int p0), .val (.int p1), .val (.int p2), .val (.int p3), .val (.int p4), .val (.int p5), .val (.int (0 : Int32)), .val (.int (1 : Int32)), .val (.int st), .val (.int s2), .val (.int qf), .val (.int qt), .val (.ref o15), .val (.int (1 : Int32)), .val (.int (1 : Int32))] [(.int re1), (.int (1 : Int32))])) st22 ?_
      refine Go.to (g' := (mkF m 160 #[.val (.int p0), .val (.int p1), .val (.int p2), .val (.int p3), .val (.int p4), .val (.int p5), .val (.int (0 : Int32)), .val (.int (1 : Int32)), .val (.int st), .val (.int s2), .val (.int qf), .val (.int qt), .val (.ref o15), .val (.int (1 : Int32)), .val (.int (1 : Int32))] [])) (fun t k => XS.icmpNo X22.here hx rfl (hb hby at_157) rfl (teq (own_h1 hre1 (Or.inl rfl)).symm).2 k) ?_
      refine Go.to (g' := (mkF m 162 #[.val (.int p0), .val (.int p1), .val (.int p2), .val (.int p3), .val (.int p4), .val (.int p5), .val (.int (0 : Int32)), .val (.int (1 : Int32)), .val (.int st), .val (.int s2), .val (.int qf), .val (.int qt), .val (.ref o15), .val (.int (1 : Int32)), .val (.int (1 : Int32))] [(.int (1 : Int32))])) (fun t k => XS.iload X22.here hx rfl (hb hby at_160) rfl k) ?_
      refine Go.to (g' := (mkF m 164 #[.val (.int p0), .val (.int p1), .val (.int p2), .val (.int p3), .val (.int p4), .val (.int p5), .val (.int (0 : Int32)), .val (.int (1 : Int32)), .val (.int st), .val (.int s2), .val (.int qf), .val (.int qt), .val (.ref o15), .val (.int (1 : Int32)), .val (.int (1 : Int32))] [(.int (0 : Int32)), (.int (1 : Int32))])) (fun t k => XS.iload X22.here hx rfl (hb hby at_162) rfl k) ?_
      refine Go.to (g' := (mkF m 166 #[.val (.int p0), .val (.int p1), .val (.int p2), .val (.int p3), .val (.int p4), .val (.int p5), .val (.int (0 : Int32)), .val (.int (1 : Int32)), .val (.int st), .val (.int s2), .val (.int qf), .val (.int qt), .val (.ref o15), .val (.int (1 : Int32)), .val (.int (1 : Int32))] [(.int (1 : Int32)), (.int (0 : Int32)), (.int (1 : Int32))])) (fun t k => XS.iload X22.here hx rfl (hb hby at_164) rfl k) ?_
      refine Go.to (g' := (mkF m 168 #[.val (.int p0), .val (.int p1), .val (.int p2), .val (.int p3), .val (.int p4), .val (.int p5), .val (.int (0 : Int32)), .val (.int (1 : Int32)), .val (.int st), .val (.int s2), .val (.int qf), .val (.int qt), .val (.ref o15), .val (.int (1 : Int32)), .val (.int (1 : Int32))] [(.int st), (.int (1 : Int32)), (.int (0 : Int32)), (.int (1 : Int32))])) (fun t k => XS.iload X22.here hx rfl (hb hby at_166) rfl k) ?_
      refine Go.to (g' := (mkF m 170 #[.val (.int p0), .val (.int p1), .val (.int p2), .val (.int p3), .val (.int p4), .val (.int p5), .val (.int (0 : Int32)), .val (.int (1 : Int32)), .val (.int st), .val (.int s2), .val (.int qf), .val (.int qt), .val (.ref o15), .val (.int (1 : Int32)), .val (.int (1 : Int32))] [(.int s2), (.int st), (.int (1 : Int32)), (.int (0 : Int32)), (.int (1 : Int32))])) (fun t k => XS.iload X22.here hx rfl (hb hby at_168) rfl k) ?_
      refine Go.to (g' := (mkF m 171 #[.val (.int p0), .val (.int p1), .val (.int p2), .val (.int p3), .val (.int p4), .val (.int p5), .val (.int (0 : Int32)), .val (.int (1 : Int32)), .val (.int st), .val (.int s2), .val (.int qf), .val (.int qt), .val (.ref o15), .val (.int (1 : Int32)), .val (.int (1 : Int32))] [(.int p2), (.int s2), (.int st), (.int (1 : Int32)), (.int (0 : Int32)), (.int (1 : Int32))])) (fun t k => XS.iloadN X22.here hx rfl (hb hby at_170) rfl k) ?_
      refine Go.to (g' := (mkF m 172 #[.val (.int p0), .val (.int p1), .val (.int p2), .val (.int p3), .val (.int p4), .val (.int p5), .val (.int (0 : Int32)), .val (.int (1 : Int32)), .val (.int st), .val (.int s2), .val (.int qf), .val (.int qt), .val (.ref o15), .val (.int (1 : Int32)), .val (.int (1 : Int32))] [(.int p3), (.int p2), (.int s2), (.int st), (.int (1 : Int32)), (.int (0 : Int32)), (.int (1 : Int32))])) (fun t k => XS.iloadN X22.here hx rfl (hb hby at_171) rfl k) ?_
      refine Go.to (g' := (mkF m 174 #[.val (.int p0), .val (.int p1), .val (.int p2), .val (.int p3), .val (.int p4), .val (.int p5), .val (.int (0 : Int32)), .val (.int (1 : Int32)), .val (.int st), .val (.int s2), .val (.int qf), .val (.int qt), .val (.ref o15), .val (.int (1 : Int32)), .val (.int (1 : Int32))] [(.int qf), (.int p3), (.int p2), (.int s2), (.int st), (.int (1 : Int32)), (.int (0 : Int32)), (.int (1 : Int32))])) (fun t k => XS.iload X22.here hx rfl (hb hby at_172) rfl k) ?_
      refine Go.to (g' := (mkF m 176 #[.val (.int p0), .val (.int p1), .val (.int p2), .val (.int p3), .val (.int p4), .val (.int p5), .val (.int (0 : Int32)), .val (.int (1 : Int32)), .val (.int st), .val (.int s2), .val (.int qf), .val (.int qt), .val (.ref o15), .val (.int (1 : Int32)), .val (.int (1 : Int32))] [(.int qt), (.int qf), (.int p3), (.int p2), (.int s2), (.int st), (.int (1 : Int32)), (.int (0 : Int32)), (.int (1 : Int32))])) (fun t k => XS.iload X22.here hx rfl (hb hby at_174) rfl k) ?_
      obtain ⟨re2, hre2⟩ : ∃ r : Int32, ((own_ex (0 : Int32) (1 : Int32) st s2 p2 p3 qf qt) ∧ r = (1 : Int32)) ∨ (¬ (own_ex (0 : Int32) (1 : Int32) st s2 p2 p3 qf qt) ∧ r = (0 : Int32)) := (Classical.em (own_ex (0 : Int32) (1 : Int32) st s2 p2 p3 qf qt)).elim (fun q => ⟨1, Or.inl ⟨q, rfl⟩⟩) (fun q => ⟨0, Or.inr ⟨q, rfl⟩⟩)
      obtain ⟨v23, _, ⟨T23, L23, k23, n23⟩, -, X23, ⟨Lc23, hQ23, l23, y23, z23⟩, st23⟩ := Jvm.LawKit.callS X22 hx (y := (⟨"com/example/skuld/skuld/analysis/DistancesCurrentPinLaw", "expect", "(ZZIIIIII)Z"⟩ : MethodName)) hown (mvT hZ (hw _ (List.mem_of_getElem? (i := 21) rfl))) (mvT hZ (hw _ (List.mem_of_getElem? (i := 22) rfl))) (mvT hZ (hw _ (List.mem_of_getElem? (i := 23) rfl))) (mvT hZ (hw _ (List.mem_of_getElem? (i := 24) rfl))) (by decide) (backOf (W := 1) (rm4 l Z aw hw [] (0 : Int32) (1 : Int32) st s2 p2 p3 qf qt re2 h17 n0 Z17 hre2) hZ (hw _ (List.mem_of_getElem? (i := 24) rfl)) (hw _ (List.mem_of_getElem? (i := 23) rfl)) (by decide) (by decide)) (g := (mkF m 176 #[.val (.int p0), .val (.int p1), .val (.int p2), .val (.int p3), .val (.int p4), .val (.int p5), .val (.int (0 : Int32)), .val (.int (1 : Int32)), .val (.int st), .val (.int s2), .val (.int qf), .val (.int qt), .val (.ref o15), .val (.int (1 : Int32)), .val (.int (1 : Int32))] [(.int qt), (.int qf), (.int p3), (.int p2), (.int s2), (.int st), (.int (1 : Int32)), (.int (0 : Int32)), (.int (1 : Int32))])) rfl (by rw [hml]; rfl) (argsL := [(.int (0 : Int32)), (.int (1 : Int32)), (.int st), (.int s2), (.int p2), (.int p3), (.int qf), (.int qt)]) (rest := [(.int (1 : Int32))]) (lenOf pd_28ZZIIIIII29Z rfl) rfl (by show 2 * 0 + _ ≤ _; exact Nat.le_of_eq rfl) (hb hby at_176) (fun _ _ => ⟨rfl, e22, (by decide : 3 + 0 ≤ _), (by decide : 3 + 0 ≤ _)⟩)
      dsimp only [Pt.U, Pt.locs, Pt.cells, Pt.slots] at X23 l23 y23 z23 st23 hQ23
      subst l23 y23 z23
      obtain ⟨rfl, N23q, e23⟩ := hQ23
      have N23 := Fr.app N22 N23q
      refine Go.to (g' := (mkF m 179 #[.val (.int p0), .val (.int p1), .val (.int p2), .val (.int p3), .val (.int p4), .val (.int p5), .val (.int (0 : Int32)), .val (.int (1 : Int32)), .val (.int st), .val (.int s2), .val (.int qf), .val (.int qt), .val (.ref o15), .val (.int (1 : Int32)), .val (.int (1 : Int32))] [(.int re2), (.int (1 : Int32))])) st23 ?_
      refine Go.to (g' := (mkF m 182 #[.val (.int p0), .val (.int p1), .val (.int p2), .val (.int p3), .val (.int p4), .val (.int p5), .val (.int (0 : Int32)), .val (.int (1 : Int32)), .val (.int st), .val (.int s2), .val (.int qf), .val (.int qt), .val (.ref o15), .val (.int (1 : Int32)), .val (.int (1 : Int32))] [])) (fun t k => XS.icmpNo X23.here hx rfl (hb hby at_179) rfl (teq (own_h1 hre2 (Or.inl rfl)).symm).2 k) ?_
      refine Go.to (g' := (mkF m 183 #[.val (.int p0), .val (.int p1), .val (.int p2), .val (.int p3), .val (.int p4), .val (.int p5), .val (.int (0 : Int32)), .val (.int (1 : Int32)), .val (.int st), .val (.int s2), .val (.int qf), .val (.int qt), .val (.ref o15), .val (.int (1 : Int32)), .val (.int (1 : Int32))] [(.int (1 : Int32))])) (fun t k => XS.iconst X23.here hx rfl (hb hby at_182) k) ?_
      refine Go.to (g' := (mkF m 187 #[.val (.int p0), .val (.int p1), .val (.int p2), .val (.int p3), .val (.int p4), .val (.int p5), .val (.int (0 : Int32)), .val (.int (1 : Int32)), .val (.int st), .val (.int s2), .val (.int qf), .val (.int qt), .val (.ref o15), .val (.int (1 : Int32)), .val (.int (1 : Int32))] [(.int (1 : Int32))])) (fun t k => XS.goto X23.here hx rfl (pc0 := 183) (pc' := 187) rfl (hb hby at_183) (by decide) (by decide) k) ?_
      exact Go.retN X23 hx (t := .boolean) Bd.returns Bd.notSynchronized (by simp) (hb hby at_187) (by decide) (by decide) e23 ⟨rfl, N23⟩
  · refine Go.to (g' := (mkF m 6 #[.val (.int p0), .val (.int p1), .val (.int p2), .val (.int p3), .val (.int p4), .val (.int p5), .unset, .unset, .unset, .unset, .unset, .unset, .unset, .unset, .unset] [])) (fun t k => XS.ifNo X0.here hx rfl (hb hby at_3) rfl ((if0 _ _).trans (feq c1).1) k) ?_
    refine Go.to (g' := (mkF m 7 #[.val (.int p0), .val (.int p1), .val (.int p2), .val (.int p3), .val (.int p4), .val (.int p5), .unset, .unset, .unset, .unset, .unset, .unset, .unset, .unset, .unset] [(.int (1 : Int32))])) (fun t k => XS.iconst X0.here hx rfl (hb hby at_6) k) ?_
    refine Go.to (g' := (mkF m 11 #[.val (.int p0), .val (.int p1), .val (.int p2), .val (.int p3), .val (.int p4), .val (.int p5), .unset, .unset, .unset, .unset, .unset, .unset, .unset, .unset, .unset] [(.int (1 : Int32))])) (fun t k => XS.goto X0.here hx rfl (pc0 := 7) (pc' := 11) rfl (hb hby at_7) (by decide) (by decide) k) ?_
    refine Go.to (g' := (mkF m 13 #[.val (.int p0), .val (.int p1), .val (.int p2), .val (.int p3), .val (.int p4), .val (.int p5), .val (.int (1 : Int32)), .unset, .unset, .unset, .unset, .unset, .unset, .unset, .unset] [])) (fun t k => XS.istore X0.here hx rfl (hb hby at_11) rfl (l' := #[.val (.int p0), .val (.int p1), .val (.int p2), .val (.int p3), .val (.int p4), .val (.int p5), .val (.int (1 : Int32)), .unset, .unset, .unset, .unset, .unset, .unset, .unset, .unset]) rfl k) ?_
    refine Go.to (g' := (mkF m 14 #[.val (.int p0), .val (.int p1), .val (.int p2), .val (.int p3), .val (.int p4), .val (.int p5), .val (.int (1 : Int32)), .unset, .unset, .unset, .unset, .unset, .unset, .unset, .unset] [(.int p0)])) (fun t k => XS.iloadN X0.here hx rfl (hb hby at_13) rfl k) ?_
    refine Go.to (g' := (mkF m 16 #[.val (.int p0), .val (.int p1), .val (.int p2), .val (.int p3), .val (.int p4), .val (.int p5), .val (.int (1 : Int32)), .unset, .unset, .unset, .unset, .unset, .unset, .unset, .unset] [(.int (8 : Int32)), (.int p0)])) (fun t k => XS.bipush X0.here hx rfl (hb hby at_14) k) ?_
    refine Go.to (g' := (mkF m 17 #[.val (.int p0), .val (.int p1), .val (.int p2), .val (.int p3), .val (.int p4), .val (.int p5), .val (.int (1 : Int32)), .unset, .unset, .unset, .unset, .unset, .unset, .unset, .unset] [(.int (p0 &&& (8 : Int32)))])) (fun t k => XS.iand X0.here hx rfl (hb hby at_16) rfl k) ?_
    by_cases c24 : (p0 &&& (8 : Int32)) = (0 : Int32)
    · refine Go.to (g' := (mkF m 24 #[.val (.int p0), .val (.int p1), .val (.int p2), .val (.int p3), .val (.int p4), .val (.int p5), .val (.int (1 : Int32)), .unset, .unset, .unset, .unset, .unset, .unset, .unset, .unset] [])) (fun t k => XS.ifYes X0.here hx rfl (pc0 := 17) (pc' := 24) rfl (hb hby at_17) rfl ((if0 _ _).trans (teq c24).1) (by decide) (by decide) k) ?_
      refine Go.to (g' := (mkF m 25 #[.val (.int p0), .val (.int p1), .val (.int p2), .val (.int p3), .val (.int p4), .val (.int p5), .val (.int (1 : Int32)), .unset, .unset, .unset, .unset, .unset, .unset, .unset, .unset] [(.int (0 : Int32))])) (fun t k => XS.iconst X0.here hx rfl (hb hby at_24) k) ?_
      refine Go.to (g' := (mkF m 27 #[.val (.int p0), .val (.int p1), .val (.int p2), .val (.int p3), .val (.int p4), .val (.int p5), .val (.int (1 : Int32)), .val (.int (0 : Int32)), .unset, .unset, .unset, .unset, .unset, .unset, .unset] [])) (fun t k => XS.istore X0.here hx rfl (hb hby at_25) rfl (l' := #[.val (.int p0), .val (.int p1), .val (.int p2), .val (.int p3), .val (.int p4), .val (.int p5), .val (.int (1 : Int32)), .val (.int (0 : Int32)), .unset, .unset, .unset, .unset, .unset, .unset, .unset]) rfl k) ?_
      refine Go.to (g' := (mkF m 29 #[.val (.int p0), .val (.int p1), .val (.int p2), .val (.int p3), .val (.int p4), .val (.int p5), .val (.int (1 : Int32)), .val (.int (0 : Int32)), .unset, .unset, .unset, .unset, .unset, .unset, .unset] [(.int (0 : Int32))])) (fun t k => XS.iload X0.here hx rfl (hb hby at_27) rfl k) ?_
      refine Go.to (g' := (mkF m 40 #[.val (.int p0), .val (.int p1), .val (.int p2), .val (.int p3), .val (.int p4), .val (.int p5), .val (.int (1 : Int32)), .val (.int (0 : Int32)), .unset, .unset, .unset, .unset, .unset, .unset, .unset] [])) (fun t k => XS.ifYes X0.here hx rfl (pc0 := 29) (pc' := 40) rfl (hb hby at_29) rfl ((if0 _ _).trans (teq (by decide)).1) (by decide) (by decide) k) ?_
      refine Go.to (g' := (mkF m 41 #[.val (.int p0), .val (.int p1), .val (.int p2), .val (.int p3), .val (.int p4), .val (.int p5), .val (.int (1 : Int32)), .val (.int (0 : Int32)), .unset, .unset, .unset, .unset, .unset, .unset, .unset] [(.int p1)])) (fun t k => XS.iloadN X0.here hx rfl (hb hby at_40) rfl k) ?_
      refine Go.to (g' := (mkF m 44 #[.val (.int p0), .val (.int p1), .val (.int p2), .val (.int p3), .val (.int p4), .val (.int p5), .val (.int (1 : Int32)), .val (.int (0 : Int32)), .unset, .unset, .unset, .unset, .unset, .unset, .unset] [(.int (1023 : Int32)), (.int p1)])) (fun t k => XS.sipush X0.here hx rfl (hb hby at_41) k) ?_
      refine Go.to (g' := (mkF m 45 #[.val (.int p0), .val (.int p1), .val (.int p2), .val (.int p3), .val (.int p4), .val (.int p5), .val (.int (1 : Int32)), .val (.int (0 : Int32)), .unset, .unset, .unset, .unset, .unset, .unset, .unset] [(.int (p1 &&& (1023 : Int32)))])) (fun t k => XS.iand X0.here hx rfl (hb hby at_44) rfl k) ?_
      obtain ⟨st, hv_st⟩ : ∃ z : Int32, z = (p1 &&& (1023 : Int32)) := ⟨_, rfl⟩
      rw [← hv_st]
      obtain ⟨hst, hst2⟩ : ¬ st < 0 ∧ st.toInt ≤ 1023 := by rw [hv_st]; exact own_m _ _ 10 (by decide) (by decide)
      refine Go.to (g' := (mkF m 47 #[.val (.int p0), .val (.int p1), .val (.int p2), .val (.int p3), .val (.int p4), .val (.int p5), .val (.int (1 : Int32)), .val (.int (0 : Int32)), .val (.int st), .unset, .unset, .unset, .unset, .unset, .unset] [])) (fun t k => XS.istore X0.here hx rfl (hb hby at_45) rfl (l' := #[.val (.int p0), .val (.int p1), .val (.int p2), .val (.int p3), .val (.int p4), .val (.int p5), .val (.int (1 : Int32)), .val (.int (0 : Int32)), .val (.int st), .unset, .unset, .unset, .unset, .unset, .unset]) rfl k) ?_
      refine Go.to (g' := (mkF m 48 #[.val (.int p0), .val (.int p1), .val (.int p2), .val (.int p3), .val (.int p4), .val (.int p5), .val (.int (1 : Int32)), .val (.int (0 : Int32)), .val (.int st), .unset, .unset, .unset, .unset, .unset, .unset] [(.int p1)])) (fun t k => XS.iloadN X0.here hx rfl (hb hby at_47) rfl k) ?_
      refine Go.to (g' := (mkF m 50 #[.val (.int p0), .val (.int p1), .val (.int p2), .val (.int p3), .val (.int p4), .val (.int p5), .val (.int (1 : Int32)), .val (.int (0 : Int32)), .val (.int st), .unset, .unset, .unset, .unset, .unset, .unset] [(.int (11 : Int32)), (.int p1)])) (fun t k => XS.bipush X0.here hx rfl (hb hby at_48) k) ?_
      refine Go.to (g' := (mkF m 51 #[.val (.int p0), .val (.int p1), .val (.int p2), .val (.int p3), .val (.int p4), .val (.int p5), .val (.int (1 : Int32)), .val (.int (0 : Int32)), .val (.int st), .unset, .unset, .unset, .unset, .unset, .unset] [(.int ((p1.toUInt32 >>> ((11 : Int32) &&& 31).toUInt32).toInt32))])) (fun t k => XS.iushr X0.here hx rfl (hb hby at_50) rfl k) ?_
      refine Go.to (g' := (mkF m 54 #[.val (.int p0), .val (.int p1), .val (.int p2), .val (.int p3), .val (.int p4), .val (.int p5), .val (.int (1 : Int32)), .val (.int (0 : Int32)), .val (.int st), .unset, .unset, .unset, .unset, .unset, .unset] [(.int (1023 : Int32)), (.int ((p1.toUInt32 >>> ((11 : Int32) &&& 31).toUInt32).toInt32))])) (fun t k => XS.sipush X0.here hx rfl (hb hby at_51) k) ?_
      refine Go.to (g' := (mkF m 55 #[.val (.int p0), .val (.int p1), .val (.int p2), .val (.int p3), .val (.int p4), .val (.int p5), .val (.int (1 : Int32)), .val (.int (0 : Int32)), .val (.int st), .unset, .unset, .unset, .unset, .unset, .unset] [(.int (((p1.toUInt32 >>> ((11 : Int32) &&& 31).toUInt32).toInt32) &&& (1023 : Int32)))])) (fun t k => XS.iand X0.here hx rfl (hb hby at_54) rfl k) ?_
      obtain ⟨s2, hv_s2⟩ : ∃ z : Int32, z = (((p1.toUInt32 >>> ((11 : Int32) &&& 31).toUInt32).toInt32) &&& (1023 : Int32)) := ⟨_, rfl⟩
      rw [← hv_s2]
      obtain ⟨hs2, hs22⟩ : ¬ s2 < 0 ∧ s2.toInt ≤ 1023 := by rw [hv_s2]; exact own_m _ _ 10 (by decide) (by decide)
      refine Go.to (g' := (mkF m 57 #[.val (.int p0), .val (.int p1), .val (.int p2), .val (.int p3), .val (.int p4), .val (.int p5), .val (.int (1 : Int32)), .val (.int (0 : Int32)), .val (.int st), .val (.int s2), .unset, .unset, .unset, .unset, .unset] [])) (fun t k => XS.istore X0.here hx rfl (hb hby at_55) rfl (l' := #[.val (.int p0), .val (.int p1), .val (.int p2), .val (.int p3), .val (.int p4), .val (.int p5), .val (.int (1 : Int32)), .val (.int (0 : Int32)), .val (.int st), .val (.int s2), .unset, .unset, .unset, .unset, .unset]) rfl k) ?_
      refine Go.to (g' := (mkF m 58 #[.val (.int p0), .val (.int p1), .val (.int p2), .val (.int p3), .val (.int p4), .val (.int p5), .val (.int (1 : Int32)), .val (.int (0 : Int32)), .val (.int st), .val (.int s2), .unset, .unset, .unset, .unset, .unset] [(.int p0)])) (fun t k => XS.iloadN X0.here hx rfl (hb hby at_57) rfl k) ?_
      refine Go.to (g' := (mkF m 59 #[.val (.int p0), .val (.int p1), .val (.int p2), .val (.int p3), .val (.int p4), .val (.int p5), .val (.int (1 : Int32)), .val (.int (0 : Int32)), .val (.int st), .val (.int s2), .unset, .unset, .unset, .unset, .unset] [(.int (2 : Int32)), (.int p0)])) (fun t k => XS.iconst X0.here hx rfl (hb hby at_58) k) ?_
      refine Go.to (g' := (mkF m 60 #[.val (.int p0), .val (.int p1), .val (.int p2), .val (.int p3), .val (.int p4), .val (.int p5), .val (.int (1 : Int32)), .val (.int (0 : Int32)), .val (.int st), .val (.int s2), .unset, .unset, .unset, .unset, .unset] [(.int (p0 &&& (2 : Int32)))])) (fun t k => XS.iand X0.here hx rfl (hb hby at_59) rfl k) ?_
      suffices Jf : ∀ qf : Int32, Go p e below s (Q0 Z p0 p1 p2 p3 p4 p5 h0 n0) room_1.cells room_1.slots (s₁.setTop (mkF m 69 #[.val (.int p0), .val (.int p1), .val (.int p2), .val (.int p3), .val (.int p4), .val (.int p5), .val (.int (1 : Int32)), .val (.int (0 : Int32)), .val (.int st), .val (.int s2), .unset, .unset, .unset, .unset, .unset] [(.int qf)])) by
        by_cases c25 : (p0 &&& (2 : Int32)) = (0 : Int32)
        · refine Go.to (g' := (mkF m 67 #[.val (.int p0), .val (.int p1), .val (.int p2), .val (.int p3), .val (.int p4), .val (.int p5), .val (.int (1 : Int32)), .val (.int (0 : Int32)), .val (.int st), .val (.int s2), .unset, .unset, .unset, .unset, .unset] [])) (fun t k => XS.ifYes X0.here hx rfl (pc0 := 60) (pc' := 67) rfl (hb hby at_60) rfl ((if0 _ _).trans (teq c25).1) (by decide) (by decide) k) ?_
          refine Go.to (g' := (mkF m 69 #[.val (.int p0), .val (.int p1), .val (.int p2), .val (.int p3), .val (.int p4), .val (.int p5), .val (.int (1 : Int32)), .val (.int (0 : Int32)), .val (.int st), .val (.int s2), .unset, .unset, .unset, .unset, .unset] [(.int p4)])) (fun t k => XS.iload X0.here hx rfl (hb hby at_67) rfl k) ?_
          exact Jf _
        · refine Go.to (g' := (mkF m 63 #[.val (.int p0), .val (.int p1), .val (.int p2), .val (.int p3), .val (.int p4), .val (.int p5), .val (.int (1 : Int32)), .val (.int (0 : Int32)), .val (.int st), .val (.int s2), .unset, .unset, .unset, .unset, .unset] [])) (fun t k => XS.ifNo X0.here hx rfl (hb hby at_60) rfl ((if0 _ _).trans (feq c25).1) k) ?_
          refine Go.to (g' := (mkF m 64 #[.val (.int p0), .val (.int p1), .val (.int p2), .val (.int p3), .val (.int p4), .val (.int p5), .val (.int (1 : Int32)), .val (.int (0 : Int32)), .val (.int st), .val (.int s2), .unset, .unset, .unset, .unset, .unset] [(.int p2)])) (fun t k => XS.iloadN X0.here hx rfl (hb hby at_63) rfl k) ?_
          refine Go.to (g' := (mkF m 69 #[.val (.int p0), .val (.int p1), .val (.int p2), .val (.int p3), .val (.int p4), .val (.int p5), .val (.int (1 : Int32)), .val (.int (0 : Int32)), .val (.int st), .val (.int s2), .unset, .unset, .unset, .unset, .unset] [(.int p2)])) (fun t k => XS.goto X0.here hx rfl (pc0 := 64) (pc' := 69) rfl (hb hby at_64) (by decide) (by decide) k) ?_
          exact Jf _
      intro qf
      refine Go.to (g' := (mkF m 71 #[.val (.int p0), .val (.int p1), .val (.int p2), .val (.int p3), .val (.int p4), .val (.int p5), .val (.int (1 : Int32)), .val (.int (0 : Int32)), .val (.int st), .val (.int s2), .val (.int qf), .unset, .unset, .unset, .unset] [])) (fun t k => XS.istore X0.here hx rfl (hb hby at_69) rfl (l' := #[.val (.int p0), .val (.int p1), .val (.int p2), .val (.int p3), .val (.int p4), .val (.int p5), .val (.int (1 : Int32)), .val (.int (0 : Int32)), .val (.int st), .val (.int s2), .val (.int qf), .unset, .unset, .unset, .unset]) rfl k) ?_
      refine Go.to (g' := (mkF m 72 #[.val (.int p0), .val (.int p1), .val (.int p2), .val (.int p3), .val (.int p4), .val (.int p5), .val (.int (1 : Int32)), .val (.int (0 : Int32)), .val (.int st), .val (.int s2), .val (.int qf), .unset, .unset, .unset, .unset] [(.int p0)])) (fun t k => XS.iloadN X0.here hx rfl (hb hby at_71) rfl k) ?_
      refine Go.to (g' := (mkF m 73 #[.val (.int p0), .val (.int p1), .val (.int p2), .val (.int p3), .val (.int p4), .val (.int p5), .val (.int (1 : Int32)), .val (.int (0 : Int32)), .val (.int st), .val (.int s2), .val (.int qf), .unset, .unset, .unset, .unset] [(.int (4 : Int32)), (.int p0)])) (fun t k => XS.iconst X0.here hx rfl (hb hby at_72) k) ?_
      refine Go.to (g' := (mkF m 74 #[.val (.int p0), .val (.int p1), .val (.int p2), .val (.int p3), .val (.int p4), .val (.int p5), .val (.int (1 : Int32)), .val (.int (0 : Int32)), .val (.int st), .val (.int s2), .val (.int qf), .unset, .unset, .unset, .unset] [(.int (p0 &&& (4 : Int32)))])) (fun t k => XS.iand X0.here hx rfl (hb hby at_73) rfl k) ?_
      suffices Jt : ∀ qt : Int32, Go p e below s (Q0 Z p0 p1 p2 p3 p4 p5 h0 n0) room_1.cells room_1.slots (s₁.setTop (mkF m 83 #[.val (.int p0), .val (.int p1), .val (.int p2), .val (.int p3), .val (.int p4), .val (.int p5), .val (.int (1 : Int32)), .val (.int (0 : Int32)), .val (.int st), .val (.int s2), .val (.int qf), .unset, .unset, .unset, .unset] [(.int qt)])) by
        by_cases c26 : (p0 &&& (4 : Int32)) = (0 : Int32)
        · refine Go.to (g' := (mkF m 81 #[.val (.int p0), .val (.int p1), .val (.int p2), .val (.int p3), .val (.int p4), .val (.int p5), .val (.int (1 : Int32)), .val (.int (0 : Int32)), .val (.int st), .val (.int s2), .val (.int qf), .unset, .unset, .unset, .unset] [])) (fun t k => XS.ifYes X0.here hx rfl (pc0 := 74) (pc' := 81) rfl (hb hby at_74) rfl ((if0 _ _).trans (teq c26).1) (by decide) (by decide) k) ?_
          refine Go.to (g' := (mkF m 83 #[.val (.int p0), .val (.int p1), .val (.int p2), .val (.int p3), .val (.int p4), .val (.int p5), .val (.int (1 : Int32)), .val (.int (0 : Int32)), .val (.int st), .val (.int s2), .val (.int qf), .unset, .unset, .unset, .unset] [(.int p5)])) (fun t k => XS.iload X0.here hx rfl (hb hby at_81) rfl k) ?_
          exact Jt _
        · refine Go.to (g' := (mkF m 77 #[.val (.int p0), .val (.int p1), .val (.int p2), .val (.int p3), .val (.int p4), .val (.int p5), .val (.int (1 : Int32)), .val (.int (0 : Int32)), .val (.int st), .val (.int s2), .val (.int qf), .unset, .unset, .unset, .unset] [])) (fun t k => XS.ifNo X0.here hx rfl (hb hby at_74) rfl ((if0 _ _).trans (feq c26).1) k) ?_
          refine Go.to (g' := (mkF m 78 #[.val (.int p0), .val (.int p1), .val (.int p2), .val (.int p3), .val (.int p4), .val (.int p5), .val (.int (1 : Int32)), .val (.int (0 : Int32)), .val (.int st), .val (.int s2), .val (.int qf), .unset, .unset, .unset, .unset] [(.int p3)])) (fun t k => XS.iloadN X0.here hx rfl (hb hby at_77) rfl k) ?_
          refine Go.to (g' := (mkF m 83 #[.val (.int p0), .val (.int p1), .val (.int p2), .val (.int p3), .val (.int p4), .val (.int p5), .val (.int (1 : Int32)), .val (.int (0 : Int32)), .val (.int st), .val (.int s2), .val (.int qf), .unset, .unset, .unset, .unset] [(.int p3)])) (fun t k => XS.goto X0.here hx rfl (pc0 := 78) (pc' := 83) rfl (hb hby at_78) (by decide) (by decide) k) ?_
          exact Jt _
      intro qt
      refine Go.to (g' := (mkF m 85 #[.val (.int p0), .val (.int p1), .val (.int p2), .val (.int p3), .val (.int p4), .val (.int p5), .val (.int (1 : Int32)), .val (.int (0 : Int32)), .val (.int st), .val (.int s2), .val (.int qf), .val (.int qt), .unset, .unset, .unset] [])) (fun t k => XS.istore X0.here hx rfl (hb hby at_83) rfl (l' := #[.val (.int p0), .val (.int p1), .val (.int p2), .val (.int p3), .val (.int p4), .val (.int p5), .val (.int (1 : Int32)), .val (.int (0 : Int32)), .val (.int st), .val (.int s2), .val (.int qf), .val (.int qt), .unset, .unset, .unset]) rfl k) ?_
      obtain ⟨T28, h28, X28, e28, E28, A28, D28, -, st28⟩ := newO X0 hx hZ hown (hw _ (List.mem_of_getElem? (i := 0) rfl)) (hw _ (List.mem_of_getElem? (i := 1) rfl)) (hw _ (List.mem_of_getElem? (i := 2) rfl)) e0 (g := (mkF m 85 #[.val (.int p0), .val (.int p1), .val (.int p2), .val (.int p3), .val (.int p4), .val (.int p5), .val (.int (1 : Int32)), .val (.int (0 : Int32)), .val (.int st), .val (.int s2), .val (.int qf), .val (.int qt), .unset, .unset, .unset] [])) rfl (hb hby at_85) (by decide) (by decide)
      obtain ⟨o27, g28⟩ : ∃ z, z = h0.size := ⟨_, rfl⟩
      rw [← g28] at A28 D28 st28
      have g_o27 : n0 ≤ o27 := Nat.le_trans Z0 (Nat.le_of_eq g28.symm)
      have sz_o27 : h0.size ≤ o27 := Nat.le_trans (Keep.refl h0 []).1 (Nat.le_of_eq g28.symm)
      have Z28 : n0 ≤ h28.size := Nat.le_trans Z0 E28.1
      have K28 : Keep h0 h28 [] := (Keep.refl h0 []).ext E28
      have F_firings_o27 : Fld Z h28 o27 "com/example/skuld/skuld/analysis/Distances" "firings" "[I" .null := D28 (Or.inl (hw _ (List.mem_of_getElem? (i := 11) rfl))) (ty := (.array .int)) (by decide)
      have F_times_o27 : Fld Z h28 o27 "com/example/skuld/skuld/analysis/Distances" "times" "[I" .null := D28 (Or.inl (hw _ (List.mem_of_getElem? (i := 13) rfl))) (ty := (.array .int)) (by decide)
      have F_kept_o27 : Fld Z h28 o27 "com/example/skuld/skuld/analysis/Distances" "kept" "Z" (.int (0 : Int32)) := D28 (Or.inr (hw _ (List.mem_of_getElem? (i := 15) rfl))) (ty := .boolean) (by decide)
      refine Go.to (g' := (mkF m 88 #[.val (.int p0), .val (.int p1), .val (.int p2), .val (.int p3), .val (.int p4), .val (.int p5), .val (.int (1 : Int32)), .val (.int (0 : Int32)), .val (.int st), .val (.int s2), .val (.int qf), .val (.int qt), .unset, .unset, .unset] [(.ref o27)])) st28 ?_
      refine Go.to (g' := (mkF m 89 #[.val (.int p0), .val (.int p1), .val (.int p2), .val (.int p3), .val (.int p4), .val (.int p5), .val (.int (1 : Int32)), .val (.int (0 : Int32)), .val (.int st), .val (.int s2), .val (.int qf), .val (.int qt), .unset, .unset, .unset] [(.ref o27), (.ref o27)])) (fun t k => XS.dup X28.here hx rfl (hb hby at_88) rfl rfl k) ?_
      refine Go.to (g' := (mkF m 91 #[.val (.int p0), .val (.int p1), .val (.int p2), .val (.int p3), .val (.int p4), .val (.int p5), .val (.int (1 : Int32)), .val (.int (0 : Int32)), .val (.int st), .val (.int s2), .val (.int qf), .val (.int qt), .unset, .unset, .unset] [(.int (1 : Int32)), (.ref o27), (.ref o27)])) (fun t k => XS.iload X28.here hx rfl (hb hby at_89) rfl k) ?_
      have lt29_o27 : o27 < h28.size := A28.lt
      obtain ⟨v29, _, ⟨T29, L29, k29, n29⟩, -, X29, ⟨Lc29, hQ29, l29, y29, z29⟩, st29⟩ := X28.specialBack hx (y := (⟨"com/example/skuld/skuld/analysis/Distances", "<init>", "(Z)V"⟩ : MethodName)) rfl hown (mvT hZ (hw _ (List.mem_of_getElem? (i := 3) rfl))) (mvT hZ (hw _ (List.mem_of_getElem? (i := 4) rfl))) (mvT hZ (hw _ (List.mem_of_getElem? (i := 5) rfl))) (by decide) (backOf (W := 1) (rm1k l Z aw hw [] o27 (1 : Int32)  h28 n0 Z28 A28 F_firings_o27 F_times_o27 F_kept_o27 g_o27 rfl) hZ (hw _ (List.mem_of_getElem? (i := 5) rfl)) (hw _ (List.mem_of_getElem? (i := 2) rfl)) (by decide) (by decide)) (g := (mkF m 91 #[.val (.int p0), .val (.int p1), .val (.int p2), .val (.int p3), .val (.int p4), .val (.int p5), .val (.int (1 : Int32)), .val (.int (0 : Int32)), .val (.int st), .val (.int s2), .val (.int qf), .val (.int qt), .unset, .unset, .unset] [(.int (1 : Int32)), (.ref o27), (.ref o27)])) rfl (by rw [hml]; rfl) (Steps.refl _) (a := o27) (argsL := [(.int (1 : Int32))]) (rest := [(.ref o27)]) (lenOf pd_28Z29V rfl) rfl (by show 2 * 0 + _ ≤ _; exact Nat.le_of_eq rfl) (hb hby at_91) (fun _ _ => ⟨rfl, e28, (by decide : 1 + 4 ≤ _), (by decide : 3 + 2048 ≤ _)⟩)
      dsimp only [Pt.U, Pt.locs, Pt.cells, Pt.slots] at X29 l29 y29 z29 st29 hQ29
      subst l29 y29 z29
      obtain ⟨h29, e29⟩ : ∃ z, T29.heap = z := ⟨_, rfl⟩
      rw [e29] at hQ29
      obtain ⟨u29, t29, ku29, kt29, rfl, N29q, Kq29, Gk29, Gf29, Gt29, gu29, gt29, su29, st_29, nu29, Vu29, Vt29⟩ := hQ29
      have N29 := Fr.app N0 N29q
      have Z29 : n0 ≤ h29.size := Nat.le_trans Z28 Kq29.1
      have K29 : Keep h0 h29 [] := K28.trans Kq29 (fun x hx => by cases List.mem_singleton.mp hx; exact Or.inr sz_o27)
      have ne_o27_u29 : o27 ≠ u29 := Nat.ne_of_lt (Nat.lt_of_lt_of_le lt29_o27 su29)
      have sz_u29 : h0.size ≤ u29 := Nat.le_trans K28.1 su29
      have ne_o27_t29 : o27 ≠ t29 := Nat.ne_of_lt (Nat.lt_of_lt_of_le lt29_o27 st_29)
      have sz_t29 : h0.size ≤ t29 := Nat.le_trans K28.1 st_29
      refine Go.to (g' := (mkF m 94 #[.val (.int p0), .val (.int p1), .val (.int p2), .val (.int p3), .val (.int p4), .val (.int p5), .val (.int (1 : Int32)), .val (.int (0 : Int32)), .val (.int st), .val (.int s2), .val (.int qf), .val (.int qt), .unset, .unset, .unset] [(.ref o27)])) (fun t k => st29.trans k) ?_
      refine Go.to (g' := (mkF m 96 #[.val (.int p0), .val (.int p1), .val (.int p2), .val (.int p3), .val (.int p4), .val (.int p5), .val (.int (1 : Int32)), .val (.int (0 : Int32)), .val (.int st), .val (.int s2), .val (.int qf), .val (.int qt), .val (.ref o27), .unset, .unset] [])) (fun t k => XS.astore X29.here hx rfl (hb hby at_94) rfl rfl (l' := #[.val (.int p0), .val (.int p1), .val (.int p2), .val (.int p3), .val (.int p4), .val (.int p5), .val (.int (1 : Int32)), .val (.int (0 : Int32)), .val (.int st), .val (.int s2), .val (.int qf), .val (.int qt), .val (.ref o27), .unset, .unset]) rfl k) ?_
      refine Go.to (g' := (mkF m 98 #[.val (.int p0), .val (.int p1), .val (.int p2), .val (.int p3), .val (.int p4), .val (.int p5), .val (.int (1 : Int32)), .val (.int (0 : Int32)), .val (.int st), .val (.int s2), .val (.int qf), .val (.int qt), .val (.ref o27), .unset, .unset] [(.int (0 : Int32))])) (fun t k => XS.iload X29.here hx rfl (hb hby at_96) rfl k) ?_
      refine Go.to (g' := (mkF m 112 #[.val (.int p0), .val (.int p1), .val (.int p2), .val (.int p3), .val (.int p4), .val (.int p5), .val (.int (1 : Int32)), .val (.int (0 : Int32)), .val (.int st), .val (.int s2), .val (.int qf), .val (.int qt), .val (.ref o27), .unset, .unset] [])) (fun t k => XS.ifYes X29.here hx rfl (pc0 := 98) (pc' := 112) rfl (hb hby at_98) rfl ((if0 _ _).trans (teq (by decide)).1) (by decide) (by decide) k) ?_
      refine Go.to (g' := (mkF m 114 #[.val (.int p0), .val (.int p1), .val (.int p2), .val (.int p3), .val (.int p4), .val (.int p5), .val (.int (1 : Int32)), .val (.int (0 : Int32)), .val (.int st), .val (.int s2), .val (.int qf), .val (.int qt), .val (.ref o27), .unset, .unset] [(.ref o27)])) (fun t k => XS.aload X29.here hx rfl (hb hby at_112) rfl rfl k) ?_
      refine Go.to (g' := (mkF m 116 #[.val (.int p0), .val (.int p1), .val (.int p2), .val (.int p3), .val (.int p4), .val (.int p5), .val (.int (1 : Int32)), .val (.int (0 : Int32)), .val (.int st), .val (.int s2), .val (.int qf), .val (.int qt), .val (.ref o27), .unset, .unset] [(.int st), (.ref o27)])) (fun t k => XS.iload X29.here hx rfl (hb hby at_114) rfl k) ?_
      refine Go.to (g' := (mkF m 118 #[.val (.int p0), .val (.int p1), .val (.int p2), .val (.int p3), .val (.int p4), .val (.int p5), .val (.int (1 : Int32)), .val (.int (0 : Int32)), .val (.int st), .val (.int s2), .val (.int qf), .val (.int qt), .val (.ref o27), .unset, .unset] [(.int qf), (.int st), (.ref o27)])) (fun t k => XS.iload X29.here hx rfl (hb hby at_116) rfl k) ?_
      refine Go.to (g' := (mkF m 120 #[.val (.int p0), .val (.int p1), .val (.int p2), .val (.int p3), .val (.int p4), .val (.int p5), .val (.int (1 : Int32)), .val (.int (0 : Int32)), .val (.int st), .val (.int s2), .val (.int qf), .val (.int qt), .val (.ref o27), .unset, .unset] [(.int qt), (.int qf), (.int st), (.ref o27)])) (fun t k => XS.iload X29.here hx rfl (hb hby at_118) rfl k) ?_
      have I_u29 : own_In Z h29 u29 1024 (fun _ => (0 : Int32)) := own_in_of Vu29 rfl
      have I_t29 : own_In Z h29 t29 1024 (fun _ => (0 : Int32)) := own_in_of Vt29 rfl
      obtain ⟨ra1, hra1⟩ : ∃ r : Int32, (((fun _ => (0 : Int32)) st = qf ∧ (fun _ => (0 : Int32)) st = qt) ∧ r = (1 : Int32)) ∨ (¬ ((fun _ => (0 : Int32)) st = qf ∧ (fun _ => (0 : Int32)) st = qt) ∧ r = (0 : Int32)) := (Classical.em ((fun _ => (0 : Int32)) st = qf ∧ (fun _ => (0 : Int32)) st = qt)).elim (fun q => ⟨1, Or.inl ⟨q, rfl⟩⟩) (fun q => ⟨0, Or.inr ⟨q, rfl⟩⟩)
      have f30 : Exa Z h29 o27 "com/example/skuld/skuld/analysis/Distances" := (A28.keep Kq29)
      obtain ⟨cq31, kq31, qa31, qb31, qc31⟩ := isOf hZ e29 f30
      obtain ⟨v31, _, ⟨T31, L31, k31, n31⟩, -, X31, ⟨Lc31, hQ31, l31, y31, z31⟩, st31⟩ := X29.virtualBack hx (y := (⟨"com/example/skuld/skuld/analysis/Distances", "current", "(III)Z"⟩ : MethodName)) (z := (⟨"com/example/skuld/skuld/analysis/Distances", "current", "(III)Z"⟩ : MethodName)) hown (mvT hZ (hw _ (List.mem_of_getElem? (i := 16) rfl))) (mvT hZ (hw _ (List.mem_of_getElem? (i := 17) rfl))) (notFace_of_selects (args := #[]) (mvT hZ (hw _ (List.mem_of_getElem? (i := 19) rfl)))) (mvT hZ (hw _ (List.mem_of_getElem? (i := 19) rfl))) (mvT hZ (hw _ (List.mem_of_getElem? (i := 18) rfl))) (by decide) (backOf (W := 0) (rm3k l Z aw hw [] o27 st qf qt u29 t29 1024 (fun _ => (0 : Int32)) (fun _ => (0 : Int32)) ra1 h29 n0 Z29 Gk29 Gf29 Gt29 I_u29 I_t29 hst (by have := hst2; omega) hra1) hZ (hw _ (List.mem_of_getElem? (i := 20) rfl)) (hw _ (List.mem_of_getElem? (i := 2) rfl)) (by decide) (by decide)) qa31 qc31 (g := (mkF m 120 #[.val (.int p0), .val (.int p1), .val (.int p2), .val (.int p3), .val (.int p4), .val (.int p5), .val (.int (1 : Int32)), .val (.int (0 : Int32)), .val (.int st), .val (.int s2), .val (.int qf), .val (.int qt), .val (.ref o27), .unset, .unset] [(.int qt), (.int qf), (.int st), (.ref o27)])) rfl (by rw [hml]; rfl) (Steps.refl _) (argsL := [(.int st), (.int qf), (.int qt)]) (rest := []) (lenOf pd_28III29Z rfl) rfl (by show 2 * 0 + _ ≤ _; exact Nat.le_of_eq rfl) (hb hby at_120) (fun _ _ => ⟨rfl, e29, (by decide : 5 + 0 ≤ _), (by decide : 2051 + 0 ≤ _)⟩)
      dsimp only [Pt.U, Pt.locs, Pt.cells, Pt.slots] at X31 l31 y31 z31 st31 hQ31
      subst l31 y31 z31
      obtain ⟨rfl, N31q, e31⟩ := hQ31
      have N31 := Fr.app N29 N31q
      refine Go.to (g' := (mkF m 123 #[.val (.int p0), .val (.int p1), .val (.int p2), .val (.int p3), .val (.int p4), .val (.int p5), .val (.int (1 : Int32)), .val (.int (0 : Int32)), .val (.int st), .val (.int s2), .val (.int qf), .val (.int qt), .val (.ref o27), .unset, .unset] [(.int ra1)])) (fun t k => st31.trans k) ?_
      refine Go.to (g' := (mkF m 125 #[.val (.int p0), .val (.int p1), .val (.int p2), .val (.int p3), .val (.int p4), .val (.int p5), .val (.int (1 : Int32)), .val (.int (0 : Int32)), .val (.int st), .val (.int s2), .val (.int qf), .val (.int qt), .val (.ref o27), .val (.int ra1), .unset] [])) (fun t k => XS.istore X31.here hx rfl (hb hby at_123) rfl (l' := #[.val (.int p0), .val (.int p1), .val (.int p2), .val (.int p3), .val (.int p4), .val (.int p5), .val (.int (1 : Int32)), .val (.int (0 : Int32)), .val (.int st), .val (.int s2), .val (.int qf), .val (.int qt), .val (.ref o27), .val (.int ra1), .unset]) rfl k) ?_
      refine Go.to (g' := (mkF m 127 #[.val (.int p0), .val (.int p1), .val (.int p2), .val (.int p3), .val (.int p4), .val (.int p5), .val (.int (1 : Int32)), .val (.int (0 : Int32)), .val (.int st), .val (.int s2), .val (.int qf), .val (.int qt), .val (.ref o27), .val (.int ra1), .unset] [(.ref o27)])) (fun t k => XS.aload X31.here hx rfl (hb hby at_125) rfl rfl k) ?_
      refine Go.to (g' := (mkF m 129 #[.val (.int p0), .val (.int p1), .val (.int p2), .val (.int p3), .val (.int p4), .val (.int p5), .val (.int (1 : Int32)), .val (.int (0 : Int32)), .val (.int st), .val (.int s2), .val (.int qf), .val (.int qt), .val (.ref o27), .val (.int ra1), .unset] [(.int s2), (.ref o27)])) (fun t k => XS.iload X31.here hx rfl (hb hby at_127) rfl k) ?_
      refine Go.to (g' := (mkF m 131 #[.val (.int p0), .val (.int p1), .val (.int p2), .val (.int p3), .val (.int p4), .val (.int p5), .val (.int (1 : Int32)), .val (.int (0 : Int32)), .val (.int st), .val (.int s2), .val (.int qf), .val (.int qt), .val (.ref o27), .val (.int ra1), .unset] [(.int qf), (.int s2), (.ref o27)])) (fun t k => XS.iload X31.here hx rfl (hb hby at_129) rfl k) ?_
      refine Go.to (g' := (mkF m 133 #[.val (.int p0), .val (.int p1), .val (.int p2), .val (.int p3), .val (.int p4), .val (.int p5), .val (.int (1 : Int32)), .val (.int (0 : Int32)), .val (.int st), .val (.int s2), .val (.int qf), .val (.int qt), .val (.ref o27), .val (.int ra1), .unset] [(.int qt), (.int qf), (.int s2), (.ref o27)])) (fun t k => XS.iload X31.here hx rfl (hb hby at_131) rfl k) ?_
      obtain ⟨ra2, hra2⟩ : ∃ r : Int32, (((fun _ => (0 : Int32)) s2 = qf ∧ (fun _ => (0 : Int32)) s2 = qt) ∧ r = (1 : Int32)) ∨ (¬ ((fun _ => (0 : Int32)) s2 = qf ∧ (fun _ => (0 : Int32)) s2 = qt) ∧ r = (0 : Int32)) := (Classical.em ((fun _ => (0 : Int32)) s2 = qf ∧ (fun _ => (0 : Int32)) s2 = qt)).elim (fun q => ⟨1, Or.inl ⟨q, rfl⟩⟩) (fun q => ⟨0, Or.inr ⟨q, rfl⟩⟩)
      obtain ⟨cq32, kq32, qa32, qb32, qc32⟩ := isOf hZ e31 f30
      obtain ⟨v32, _, ⟨T32, L32, k32, n32⟩, -, X32, ⟨Lc32, hQ32, l32, y32, z32⟩, st32⟩ := X31.virtualBack hx (y := (⟨"com/example/skuld/skuld/analysis/Distances", "current", "(III)Z"⟩ : MethodName)) (z := (⟨"com/example/skuld/skuld/analysis/Distances", "current", "(III)Z"⟩ : MethodName)) hown (mvT hZ (hw _ (List.mem_of_getElem? (i := 16) rfl))) (mvT hZ (hw _ (List.mem_of_getElem? (i := 17) rfl))) (notFace_of_selects (args := #[]) (mvT hZ (hw _ (List.mem_of_getElem? (i := 19) rfl)))) (mvT hZ (hw _ (List.mem_of_getElem? (i := 19) rfl))) (mvT hZ (hw _ (List.mem_of_getElem? (i := 18) rfl))) (by decide) (backOf (W := 0) (rm3k l Z aw hw [] o27 s2 qf qt u29 t29 1024 (fun _ => (0 : Int32)) (fun _ => (0 : Int32)) ra2 h29 n0 Z29 Gk29 Gf29 Gt29 I_u29 I_t29 hs2 (by have := hs22; omega) hra2) hZ (hw _ (List.mem_of_getElem? (i := 20) rfl)) (hw _ (List.mem_of_getElem? (i := 2) rfl)) (by decide) (by decide)) qa32 qc32 (g := (mkF m 133 #[.val (.int p0), .val (.int p1), .val (.int p2), .val (.int p3), .val (.int p4), .val (.int p5), .val (.int (1 : Int32)), .val (.int (0 : Int32)), .val (.int st), .val (.int s2), .val (.int qf), .val (.int qt), .val (.ref o27), .val (.int ra1), .unset] [(.int qt), (.int qf), (.int s2), (.ref o27)])) rfl (by rw [hml]; rfl) (Steps.refl _) (argsL := [(.int s2), (.int qf), (.int qt)]) (rest := []) (lenOf pd_28III29Z rfl) rfl (by show 2 * 0 + _ ≤ _; exact Nat.le_of_eq rfl) (hb hby at_133) (fun _ _ => ⟨rfl, e31, (by decide : 5 + 0 ≤ _), (by decide : 2051 + 0 ≤ _)⟩)
      dsimp only [Pt.U, Pt.locs, Pt.cells, Pt.slots] at X32 l32 y32 z32 st32 hQ32
      subst l32 y32 z32
      obtain ⟨rfl, N32q, e32⟩ := hQ32
      have N32 := Fr.app N31 N32q
      refine Go.to (g' := (mkF m 136 #[.val (.int p0), .val (.int p1), .val (.int p2), .val (.int p3), .val (.int p4), .val (.int p5), .val (.int (1 : Int32)), .val (.int (0 : Int32)), .val (.int st), .val (.int s2), .val (.int qf), .val (.int qt), .val (.ref o27), .val (.int ra1), .unset] [(.int ra2)])) (fun t k => st32.trans k) ?_
      refine Go.to (g' := (mkF m 138 #[.val (.int p0), .val (.int p1), .val (.int p2), .val (.int p3), .val (.int p4), .val (.int p5), .val (.int (1 : Int32)), .val (.int (0 : Int32)), .val (.int st), .val (.int s2), .val (.int qf), .val (.int qt), .val (.ref o27), .val (.int ra1), .val (.int ra2)] [])) (fun t k => XS.istore X32.here hx rfl (hb hby at_136) rfl (l' := #[.val (.int p0), .val (.int p1), .val (.int p2), .val (.int p3), .val (.int p4), .val (.int p5), .val (.int (1 : Int32)), .val (.int (0 : Int32)), .val (.int st), .val (.int s2), .val (.int qf), .val (.int qt), .val (.ref o27), .val (.int ra1), .val (.int ra2)]) rfl k) ?_
      refine Go.to (g' := (mkF m 140 #[.val (.int p0), .val (.int p1), .val (.int p2), .val (.int p3), .val (.int p4), .val (.int p5), .val (.int (1 : Int32)), .val (.int (0 : Int32)), .val (.int st), .val (.int s2), .val (.int qf), .val (.int qt), .val (.ref o27), .val (.int ra1), .val (.int ra2)] [(.int ra1)])) (fun t k => XS.iload X32.here hx rfl (hb hby at_138) rfl k) ?_
      refine Go.to (g' := (mkF m 142 #[.val (.int p0), .val (.int p1), .val (.int p2), .val (.int p3), .val (.int p4), .val (.int p5), .val (.int (1 : Int32)), .val (.int (0 : Int32)), .val (.int st), .val (.int s2), .val (.int qf), .val (.int qt), .val (.ref o27), .val (.int ra1), .val (.int ra2)] [(.int (1 : Int32)), (.int ra1)])) (fun t k => XS.iload X32.here hx rfl (hb hby at_140) rfl k) ?_
      refine Go.to (g' := (mkF m 144 #[.val (.int p0), .val (.int p1), .val (.int p2), .val (.int p3), .val (.int p4), .val (.int p5), .val (.int (1 : Int32)), .val (.int (0 : Int32)), .val (.int st), .val (.int s2), .val (.int qf), .val (.int qt), .val (.ref o27), .val (.int ra1), .val (.int ra2)] [(.int (0 : Int32)), (.int (1 : Int32)), (.int ra1)])) (fun t k => XS.iload X32.here hx rfl (hb hby at_142) rfl k) ?_
      refine Go.to (g' := (mkF m 146 #[.val (.int p0), .val (.int p1), .val (.int p2), .val (.int p3), .val (.int p4), .val (.int p5), .val (.int (1 : Int32)), .val (.int (0 : Int32)), .val (.int st), .val (.int s2), .val (.int qf), .val (.int qt), .val (.ref o27), .val (.int ra1), .val (.int ra2)] [(.int st), (.int (0 : Int32)), (.int (1 : Int32)), (.int ra1)])) (fun t k => XS.iload X32.here hx rfl (hb hby at_144) rfl k) ?_
      refine Go.to (g' := (mkF m 148 #[.val (.int p0), .val (.int p1), .val (.int p2), .val (.int p3), .val (.int p4), .val (.int p5), .val (.int (1 : Int32)), .val (.int (0 : Int32)), .val (.int st), .val (.int s2), .val (.int qf), .val (.int qt), .val (.ref o27), .val (.int ra1), .val (.int ra2)] [(.int st), (.int st), (.int (0 : Int32)), (.int (1 : Int32)), (.int ra1)])) (fun t k => XS.iload X32.here hx rfl (hb hby at_146) rfl k) ?_
      refine Go.to (g' := (mkF m 149 #[.val (.int p0), .val (.int p1), .val (.int p2), .val (.int p3), .val (.int p4), .val (.int p5), .val (.int (1 : Int32)), .val (.int (0 : Int32)), .val (.int st), .val (.int s2), .val (.int qf), .val (.int qt), .val (.ref o27), .val (.int ra1), .val (.int ra2)] [(.int p2), (.int st), (.int st), (.int (0 : Int32)), (.int (1 : Int32)), (.int ra1)])) (fun t k => XS.iloadN X32.here hx rfl (hb hby at_148) rfl k) ?_
      refine Go.to (g' := (mkF m 150 #[.val (.int p0), .val (.int p1), .val (.int p2), .val (.int p3), .val (.int p4), .val (.int p5), .val (.int (1 : Int32)), .val (.int (0 : Int32)), .val (.int st), .val (.int s2), .val (.int qf), .val (.int qt), .val (.ref o27), .val (.int ra1), .val (.int ra2)] [(.int p3), (.int p2), (.int st), (.int st), (.int (0 : Int32)), (.int (1 : Int32)), (.int ra1)])) (fun t k => XS.iloadN X32.here hx rfl (hb hby at_149) rfl k) ?_
      refine Go.to (g' := (mkF m 152 #[.val (.int p0), .val (.int p1), .val (.int p2), .val (.int p3), .val (.int p4), .val (.int p5), .val (.int (1 : Int32)), .val (.int (0 : Int32)), .val (.int st), .val (.int s2), .val (.int qf), .val (.int qt), .val (.ref o27), .val (.int ra1), .val (.int ra2)] [(.int qf), (.int p3), (.int p2), (.int st), (.int st), (.int (0 : Int32)), (.int (1 : Int32)), (.int ra1)])) (fun t k => XS.iload X32.here hx rfl (hb hby at_150) rfl k) ?_
      refine Go.to (g' := (mkF m 154 #[.val (.int p0), .val (.int p1), .val (.int p2), .val (.int p3), .val (.int p4), .val (.int p5), .val (.int (1 : Int32)), .val (.int (0 : Int32)), .val (.int st), .val (.int s2), .val (.int qf), .val (.int qt), .val (.ref o27), .val (.int ra1), .val (.int ra2)] [(.int qt), (.int qf), (.int p3), (.int p2), (.int st), (.int st), (.int (0 : Int32)), (.int (1 : Int32)), (.int ra1)])) (fun t k => XS.iload X32.here hx rfl (hb hby at_152) rfl k) ?_
      obtain ⟨re1, hre1⟩ : ∃ r : Int32, ((own_ex (1 : Int32) (0 : Int32) st st p2 p3 qf qt) ∧ r = (1 : Int32)) ∨ (¬ (own_ex (1 : Int32) (0 : Int32) st st p2 p3 qf qt) ∧ r = (0 : Int32)) := (Classical.em (own_ex (1 : Int32) (0 : Int32) st st p2 p3 qf qt)).elim (fun q => ⟨1, Or.inl ⟨q, rfl⟩⟩) (fun q => ⟨0, Or.inr ⟨q, rfl⟩⟩)
      obtain ⟨v33, _, ⟨T33, L33, k33, n33⟩, -, X33, ⟨Lc33, hQ33, l33, y33, z33⟩, st33⟩ := Jvm.LawKit.callS X32 hx (y := (⟨"com/example/skuld/skuld/analysis/DistancesCurrentPinLaw", "expect", "(ZZIIIIII)Z"⟩ : MethodName)) hown (mvT hZ (hw _ (List.mem_of_getElem? (i := 21) rfl))) (mvT hZ (hw _ (List.mem_of_getElem? (i := 22) rfl))) (mvT hZ (hw _ (List.mem_of_getElem? (i := 23) rfl))) (mvT hZ (hw _ (List.mem_of_getElem? (i := 24) rfl))) (by decide) (backOf (W := 1) (rm4 l Z aw hw [] (1 : Int32) (0 : Int32) st st p2 p3 qf qt re1 h29 n0 Z29 hre1) hZ (hw _ (List.mem_of_getElem? (i := 24) rfl)) (hw _ (List.mem_of_getElem? (i := 23) rfl)) (by decide) (by decide)) (g := (mkF m 154 #[.val (.int p0), .val (.int p1), .val (.int p2), .val (.int p3), .val (.int p4), .val (.int p5), .val (.int (1 : Int32)), .val (.int (0 : Int32)), .val (.int st), .val (.int s2), .val (.int qf), .val (.int qt), .val (.ref o27), .val (.int ra1), .val (.int ra2)] [(.int qt), (.int qf), (.int p3), (.int p2), (.int st), (.int st), (.int (0 : Int32)), (.int (1 : Int32)), (.int ra1)])) rfl (by rw [hml]; rfl) (argsL := [(.int (1 : Int32)), (.int (0 : Int32)), (.int st), (.int st), (.int p2), (.int p3), (.int qf), (.int qt)]) (rest := [(.int ra1)]) (lenOf pd_28ZZIIIIII29Z rfl) rfl (by show 2 * 0 + _ ≤ _; exact Nat.le_of_eq rfl) (hb hby at_154) (fun _ _ => ⟨rfl, e32, (by decide : 5 + 0 ≤ _), (by decide : 2051 + 0 ≤ _)⟩)
      dsimp only [Pt.U, Pt.locs, Pt.cells, Pt.slots] at X33 l33 y33 z33 st33 hQ33
      subst l33 y33 z33
      obtain ⟨rfl, N33q, e33⟩ := hQ33
      have N33 := Fr.app N32 N33q
      refine Go.to (g' := (mkF m 157 #[.val (.int p0), .val (.int p1), .val (.int p2), .val (.int p3), .val (.int p4), .val (.int p5), .val (.int (1 : Int32)), .val (.int (0 : Int32)), .val (.int st), .val (.int s2), .val (.int qf), .val (.int qt), .val (.ref o27), .val (.int ra1), .val (.int ra2)] [(.int re1), (.int ra1)])) st33 ?_
      refine Go.to (g' := (mkF m 160 #[.val (.int p0), .val (.int p1), .val (.int p2), .val (.int p3), .val (.int p4), .val (.int p5), .val (.int (1 : Int32)), .val (.int (0 : Int32)), .val (.int st), .val (.int s2), .val (.int qf), .val (.int qt), .val (.ref o27), .val (.int ra1), .val (.int ra2)] [])) (fun t k => XS.icmpNo X33.here hx rfl (hb hby at_157) rfl (teq (own_rr hra1 hre1 (own_i0 (st := st)))).2 k) ?_
      refine Go.to (g' := (mkF m 162 #[.val (.int p0), .val (.int p1), .val (.int p2), .val (.int p3), .val (.int p4), .val (.int p5), .val (.int (1 : Int32)), .val (.int (0 : Int32)), .val (.int st), .val (.int s2), .val (.int qf), .val (.int qt), .val (.ref o27), .val (.int ra1), .val (.int ra2)] [(.int ra2)])) (fun t k => XS.iload X33.here hx rfl (hb hby at_160) rfl k) ?_
      refine Go.to (g' := (mkF m 164 #[.val (.int p0), .val (.int p1), .val (.int p2), .val (.int p3), .val (.int p4), .val (.int p5), .val (.int (1 : Int32)), .val (.int (0 : Int32)), .val (.int st), .val (.int s2), .val (.int qf), .val (.int qt), .val (.ref o27), .val (.int ra1), .val (.int ra2)] [(.int (1 : Int32)), (.int ra2)])) (fun t k => XS.iload X33.here hx rfl (hb hby at_162) rfl k) ?_
      refine Go.to (g' := (mkF m 166 #[.val (.int p0), .val (.int p1), .val (.int p2), .val (.int p3), .val (.int p4), .val (.int p5), .val (.int (1 : Int32)), .val (.int (0 : Int32)), .val (.int st), .val (.int s2), .val (.int qf), .val (.int qt), .val (.ref o27), .val (.int ra1), .val (.int ra2)] [(.int (0 : Int32)), (.int (1 : Int32)), (.int ra2)])) (fun t k => XS.iload X33.here hx rfl (hb hby at_164) rfl k) ?_
      refine Go.to (g' := (mkF m 168 #[.val (.int p0), .val (.int p1), .val (.int p2), .val (.int p3), .val (.int p4), .val (.int p5), .val (.int (1 : Int32)), .val (.int (0 : Int32)), .val (.int st), .val (.int s2), .val (.int qf), .val (.int qt), .val (.ref o27), .val (.int ra1), .val (.int ra2)] [(.int st), (.int (0 : Int32)), (.int (1 : Int32)), (.int ra2)])) (fun t k => XS.iload X33.here hx rfl (hb hby at_166) rfl k) ?_
      refine Go.to (g' := (mkF m 170 #[.val (.int p0), .val (.int p1), .val (.int p2), .val (.int p3), .val (.int p4), .val (.int p5), .val (.int (1 : Int32)), .val (.int (0 : Int32)), .val (.int st), .val (.int s2), .val (.int qf), .val (.int qt), .val (.ref o27), .val (.int ra1), .val (.int ra2)] [(.int s2), (.int st), (.int (0 : Int32)), (.int (1 : Int32)), (.int ra2)])) (fun t k => XS.iload X33.here hx rfl (hb hby at_168) rfl k) ?_
      refine Go.to (g' := (mkF m 171 #[.val (.int p0), .val (.int p1), .val (.int p2), .val (.int p3), .val (.int p4), .val (.int p5), .val (.int (1 : Int32)), .val (.int (0 : Int32)), .val (.int st), .val (.int s2), .val (.int qf), .val (.int qt), .val (.ref o27), .val (.int ra1), .val (.int ra2)] [(.int p2), (.int s2), (.int st), (.int (0 : Int32)), (.int (1 : Int32)), (.int ra2)])) (fun t k => XS.iloadN X33.here hx rfl (hb hby at_170) rfl k) ?_
      refine Go.to (g' := (mkF m 172 #[.val (.int p0), .val (.int p1), .val (.int p2), .val (.int p3), .val (.int p4), .val (.int p5), .val (.int (1 : Int32)), .val (.int (0 : Int32)), .val (.int st), .val (.int s2), .val (.int qf), .val (.int qt), .val (.ref o27), .val (.int ra1), .val (.int ra2)] [(.int p3), (.int p2), (.int s2), (.int st), (.int (0 : Int32)), (.int (1 : Int32)), (.int ra2)])) (fun t k => XS.iloadN X33.here hx rfl (hb hby at_171) rfl k) ?_
      refine Go.to (g' := (mkF m 174 #[.val (.int p0), .val (.int p1), .val (.int p2), .val (.int p3), .val (.int p4), .val (.int p5), .val (.int (1 : Int32)), .val (.int (0 : Int32)), .val (.int st), .val (.int s2), .val (.int qf), .val (.int qt), .val (.ref o27), .val (.int ra1), .val (.int ra2)] [(.int qf), (.int p3), (.int p2), (.int s2), (.int st), (.int (0 : Int32)), (.int (1 : Int32)), (.int ra2)])) (fun t k => XS.iload X33.here hx rfl (hb hby at_172) rfl k) ?_
      refine Go.to (g' := (mkF m 176 #[.val (.int p0), .val (.int p1), .val (.int p2), .val (.int p3), .val (.int p4), .val (.int p5), .val (.int (1 : Int32)), .val (.int (0 : Int32)), .val (.int st), .val (.int s2), .val (.int qf), .val (.int qt), .val (.ref o27), .val (.int ra1), .val (.int ra2)] [(.int qt), (.int qf), (.int p3), (.int p2), (.int s2), (.int st), (.int (0 : Int32)), (.int (1 : Int32)), (.int ra2)])) (fun t k => XS.iload X33.here hx rfl (hb hby at_174) rfl k) ?_
      obtain ⟨re2, hre2⟩ : ∃ r : Int32, ((own_ex (1 : Int32) (0 : Int32) st s2 p2 p3 qf qt) ∧ r = (1 : Int32)) ∨ (¬ (own_ex (1 : Int32) (0 : Int32) st s2 p2 p3 qf qt) ∧ r = (0 : Int32)) := (Classical.em (own_ex (1 : Int32) (0 : Int32) st s2 p2 p3 qf qt)).elim (fun q => ⟨1, Or.inl ⟨q, rfl⟩⟩) (fun q => ⟨0, Or.inr ⟨q, rfl⟩⟩)
      obtain ⟨v34, _, ⟨T34, L34, k34, n34⟩, -, X34, ⟨Lc34, hQ34, l34, y34, z34⟩, st34⟩ := Jvm.LawKit.callS X33 hx (y := (⟨"com/example/skuld/skuld/analysis/DistancesCurrentPinLaw", "expect", "(ZZIIIIII)Z"⟩ : MethodName)) hown (mvT hZ (hw _ (List.mem_of_getElem? (i := 21) rfl))) (mvT hZ (hw _ (List.mem_of_getElem? (i := 22) rfl))) (mvT hZ (hw _ (List.mem_of_getElem? (i := 23) rfl))) (mvT hZ (hw _ (List.mem_of_getElem? (i := 24) rfl))) (by decide) (backOf (W := 1) (rm4 l Z aw hw [] (1 : Int32) (0 : Int32) st s2 p2 p3 qf qt re2 h29 n0 Z29 hre2) hZ (hw _ (List.mem_of_getElem? (i := 24) rfl)) (hw _ (List.mem_of_getElem? (i := 23) rfl)) (by decide) (by decide)) (g := (mkF m 176 #[.val (.int p0), .val (.int p1), .val (.int p2), .val (.int p3), .val (.int p4), .val (.int p5), .val (.int (1 : Int32)), .val (.int (0 : Int32)), .val (.int st), .val (.int s2), .val (.int qf), .val (.int qt), .val (.ref o27), .val (.int ra1), .val (.int ra2)] [(.int qt), (.int qf), (.int p3), (.int p2), (.int s2), (.int st), (.int (0 : Int32)), (.int (1 : Int32)), (.int ra2)])) rfl (by rw [hml]; rfl) (argsL := [(.int (1 : Int32)), (.int (0 : Int32)), (.int st), (.int s2), (.int p2), (.int p3), (.int qf), (.int qt)]) (rest := [(.int ra2)]) (lenOf pd_28ZZIIIIII29Z rfl) rfl (by show 2 * 0 + _ ≤ _; exact Nat.le_of_eq rfl) (hb hby at_176) (fun _ _ => ⟨rfl, e33, (by decide : 5 + 0 ≤ _), (by decide : 2051 + 0 ≤ _)⟩)
      dsimp only [Pt.U, Pt.locs, Pt.cells, Pt.slots] at X34 l34 y34 z34 st34 hQ34
      subst l34 y34 z34
      obtain ⟨rfl, N34q, e34⟩ := hQ34
      have N34 := Fr.app N33 N34q
      refine Go.to (g' := (mkF m 179 #[.val (.int p0), .val (.int p1), .val (.int p2), .val (.int p3), .val (.int p4), .val (.int p5), .val (.int (1 : Int32)), .val (.int (0 : Int32)), .val (.int st), .val (.int s2), .val (.int qf), .val (.int qt), .val (.ref o27), .val (.int ra1), .val (.int ra2)] [(.int re2), (.int ra2)])) st34 ?_
      refine Go.to (g' := (mkF m 182 #[.val (.int p0), .val (.int p1), .val (.int p2), .val (.int p3), .val (.int p4), .val (.int p5), .val (.int (1 : Int32)), .val (.int (0 : Int32)), .val (.int st), .val (.int s2), .val (.int qf), .val (.int qt), .val (.ref o27), .val (.int ra1), .val (.int ra2)] [])) (fun t k => XS.icmpNo X34.here hx rfl (hb hby at_179) rfl (teq (own_rr hra2 hre2 (own_i0 (st := s2)))).2 k) ?_
      refine Go.to (g' := (mkF m 183 #[.val (.int p0), .val (.int p1), .val (.int p2), .val (.int p3), .val (.int p4), .val (.int p5), .val (.int (1 : Int32)), .val (.int (0 : Int32)), .val (.int st), .val (.int s2), .val (.int qf), .val (.int qt), .val (.ref o27), .val (.int ra1), .val (.int ra2)] [(.int (1 : Int32))])) (fun t k => XS.iconst X34.here hx rfl (hb hby at_182) k) ?_
      refine Go.to (g' := (mkF m 187 #[.val (.int p0), .val (.int p1), .val (.int p2), .val (.int p3), .val (.int p4), .val (.int p5), .val (.int (1 : Int32)), .val (.int (0 : Int32)), .val (.int st), .val (.int s2), .val (.int qf), .val (.int qt), .val (.ref o27), .val (.int ra1), .val (.int ra2)] [(.int (1 : Int32))])) (fun t k => XS.goto X34.here hx rfl (pc0 := 183) (pc' := 187) rfl (hb hby at_183) (by decide) (by decide) k) ?_
      exact Go.retN X34 hx (t := .boolean) Bd.returns Bd.notSynchronized (by simp) (hb hby at_187) (by decide) (by decide) e34 ⟨rfl, N34⟩
    · refine Go.to (g' := (mkF m 20 #[.val (.int p0), .val (.int p1), .val (.int p2), .val (.int p3), .val (.int p4), .val (.int p5), .val (.int (1 : Int32)), .unset, .unset, .unset, .unset, .unset, .unset, .unset, .unset] [])) (fun t k => XS.ifNo X0.here hx rfl (hb hby at_17) rfl ((if0 _ _).trans (feq c24).1) k) ?_
      refine Go.to (g' := (mkF m 21 #[.val (.int p0), .val (.int p1), .val (.int p2), .val (.int p3), .val (.int p4), .val (.int p5), .val (.int (1 : Int32)), .unset, .unset, .unset, .unset, .unset, .unset, .unset, .unset] [(.int (1 : Int32))])) (fun t k => XS.iconst X0.here hx rfl (hb hby at_20) k) ?_
      refine Go.to (g' := (mkF m 25 #[.val (.int p0), .val (.int p1), .val (.int p2), .val (.int p3), .val (.int p4), .val (.int p5), .val (.int (1 : Int32)), .unset, .unset, .unset, .unset, .unset, .unset, .unset, .unset] [(.int (1 : Int32))])) (fun t k => XS.goto X0.here hx rfl (pc0 := 21) (pc' := 25) rfl (hb hby at_21) (by decide) (by decide) k) ?_
      refine Go.to (g' := (mkF m 27 #[.val (.int p0), .val (.int p1), .val (.int p2), .val (.int p3), .val (.int p4), .val (.int p5), .val (.int (1 : Int32)), .val (.int (1 : Int32)), .unset, .unset, .unset, .unset, .unset, .unset, .unset] [])) (fun t k => XS.istore X0.here hx rfl (hb hby at_25) rfl (l' := #[.val (.int p0), .val (.int p1), .val (.int p2), .val (.int p3), .val (.int p4), .val (.int p5), .val (.int (1 : Int32)), .val (.int (1 : Int32)), .unset, .unset, .unset, .unset, .unset, .unset, .unset]) rfl k) ?_
      refine Go.to (g' := (mkF m 29 #[.val (.int p0), .val (.int p1), .val (.int p2), .val (.int p3), .val (.int p4), .val (.int p5), .val (.int (1 : Int32)), .val (.int (1 : Int32)), .unset, .unset, .unset, .unset, .unset, .unset, .unset] [(.int (1 : Int32))])) (fun t k => XS.iload X0.here hx rfl (hb hby at_27) rfl k) ?_
      refine Go.to (g' := (mkF m 32 #[.val (.int p0), .val (.int p1), .val (.int p2), .val (.int p3), .val (.int p4), .val (.int p5), .val (.int (1 : Int32)), .val (.int (1 : Int32)), .unset, .unset, .unset, .unset, .unset, .unset, .unset] [])) (fun t k => XS.ifNo X0.here hx rfl (hb hby at_29) rfl ((if0 _ _).trans (feq (by decide)).1) k) ?_
      refine Go.to (g' := (mkF m 33 #[.val (.int p0), .val (.int p1), .val (.int p2), .val (.int p3), .val (.int p4), .val (.int p5), .val (.int (1 : Int32)), .val (.int (1 : Int32)), .unset, .unset, .unset, .unset, .unset, .unset, .unset] [(.int p1)])) (fun t k => XS.iloadN X0.here hx rfl (hb hby at_32) rfl k) ?_
      refine Go.to (g' := (mkF m 36 #[.val (.int p0), .val (.int p1), .val (.int p2), .val (.int p3), .val (.int p4), .val (.int p5), .val (.int (1 : Int32)), .val (.int (1 : Int32)), .unset, .unset, .unset, .unset, .unset, .unset, .unset] [(.int (2047 : Int32)), (.int p1)])) (fun t k => XS.sipush X0.here hx rfl (hb hby at_33) k) ?_
      refine Go.to (g' := (mkF m 37 #[.val (.int p0), .val (.int p1), .val (.int p2), .val (.int p3), .val (.int p4), .val (.int p5), .val (.int (1 : Int32)), .val (.int (1 : Int32)), .unset, .unset, .unset, .unset, .unset, .unset, .unset] [(.int (p1 &&& (2047 : Int32)))])) (fun t k => XS.iand X0.here hx rfl (hb hby at_36) rfl k) ?_
      refine Go.to (g' := (mkF m 45 #[.val (.int p0), .val (.int p1), .val (.int p2), .val (.int p3), .val (.int p4), .val (.int p5), .val (.int (1 : Int32)), .val (.int (1 : Int32)), .unset, .unset, .unset, .unset, .unset, .unset, .unset] [(.int (p1 &&& (2047 : Int32)))])) (fun t k => XS.goto X0.here hx rfl (pc0 := 37) (pc' := 45) rfl (hb hby at_37) (by decide) (by decide) k) ?_
      obtain ⟨st, hv_st⟩ : ∃ z : Int32, z = (p1 &&& (2047 : Int32)) := ⟨_, rfl⟩
      rw [← hv_st]
      obtain ⟨hst, hst2⟩ : ¬ st < 0 ∧ st.toInt ≤ 2047 := by rw [hv_st]; exact own_m _ _ 11 (by decide) (by decide)
      refine Go.to (g' := (mkF m 47 #[.val (.int p0), .val (.int p1), .val (.int p2), .val (.int p3), .val (.int p4), .val (.int p5), .val (.int (1 : Int32)), .val (.int (1 : Int32)), .val (.int st), .unset, .unset, .unset, .unset, .unset, .unset] [])) (fun t k => XS.istore X0.here hx rfl (hb hby at_45) rfl (l' := #[.val (.int p0), .val (.int p1), .val (.int p2), .val (.int p3), .val (.int p4), .val (.int p5), .val (.int (1 : Int32)), .val (.int (1 : Int32)), .val (.int st), .unset, .unset, .unset, .unset, .unset, .unset]) rfl k) ?_
      refine Go.to (g' := (mkF m 48 #[.val (.int p0), .val (.int p1), .val (.int p2), .val (.int p3), .val (.int p4), .val (.int p5), .val (.int (1 : Int32)), .val (.int (1 : Int32)), .val (.int st), .unset, .unset, .unset, .unset, .unset, .unset] [(.int p1)])) (fun t k => XS.iloadN X0.here hx rfl (hb hby at_47) rfl k) ?_
      refine Go.to (g' := (mkF m 50 #[.val (.int p0), .val (.int p1), .val (.int p2), .val (.int p3), .val (.int p4), .val (.int p5), .val (.int (1 : Int32)), .val (.int (1 : Int32)), .val (.int st), .unset, .unset, .unset, .unset, .unset, .unset] [(.int (11 : Int32)), (.int p1)])) (fun t k => XS.bipush X0.here hx rfl (hb hby at_48) k) ?_
      refine Go.to (g' := (mkF m 51 #[.val (.int p0), .val (.int p1), .val (.int p2), .val (.int p3), .val (.int p4), .val (.int p5), .val (.int (1 : Int32)), .val (.int (1 : Int32)), .val (.int st), .unset, .unset, .unset, .unset, .unset, .unset] [(.int ((p1.toUInt32 >>> ((11 : Int32) &&& 31).toUInt32).toInt32))])) (fun t k => XS.iushr X0.here hx rfl (hb hby at_50) rfl k) ?_
      refine Go.to (g' := (mkF m 54 #[.val (.int p0), .val (.int p1), .val (.int p2), .val (.int p3), .val (.int p4), .val (.int p5), .val (.int (1 : Int32)), .val (.int (1 : Int32)), .val (.int st), .unset, .unset, .unset, .unset, .unset, .unset] [(.int (1023 : Int32)), (.int ((p1.toUInt32 >>> ((11 : Int32) &&& 31).toUInt32).toInt32))])) (fun t k => XS.sipush X0.here hx rfl (hb hby at_51) k) ?_
      refine Go.to (g' := (mkF m 55 #[.val (.int p0), .val (.int p1), .val (.int p2), .val (.int p3), .val (.int p4), .val (.int p5), .val (.int (1 : Int32)), .val (.int (1 : Int32)), .val (.int st), .unset, .unset, .unset, .unset, .unset, .unset] [(.int (((p1.toUInt32 >>> ((11 : Int32) &&& 31).toUInt32).toInt32) &&& (1023 : Int32)))])) (fun t k => XS.iand X0.here hx rfl (hb hby at_54) rfl k) ?_
      obtain ⟨s2, hv_s2⟩ : ∃ z : Int32, z = (((p1.toUInt32 >>> ((11 : Int32) &&& 31).toUInt32).toInt32) &&& (1023 : Int32)) := ⟨_, rfl⟩
      rw [← hv_s2]
      obtain ⟨hs2, hs22⟩ : ¬ s2 < 0 ∧ s2.toInt ≤ 1023 := by rw [hv_s2]; exact own_m _ _ 10 (by decide) (by decide)
      refine Go.to (g' := (mkF m 57 #[.val (.int p0), .val (.int p1), .val (.int p2), .val (.int p3), .val (.int p4), .val (.int p5), .val (.int (1 : Int32)), .val (.int (1 : Int32)), .val (.int st), .val (.int s2), .unset, .unset, .unset, .unset, .unset] [])) (fun t k => XS.istore X0.here hx rfl (hb hby at_55) rfl (l' := #[.val (.int p0), .val (.int p1), .val (.int p2), .val (.int p3), .val (.int p4), .val (.int p5), .val (.int (1 : Int32)), .val (.int (1 : Int32)), .val (.int st), .val (.int s2), .unset, .unset, .unset, .unset, .unset]) rfl k) ?_
      refine Go.to (g' := (mkF m 58 #[.val (.int p0), .val (.int p1), .val (.int p2), .val (.int p3), .val (.int p4), .val (.int p5), .val (.int (1 : Int32)), .val (.int (1 : Int32)), .val (.int st), .val (.int s2), .unset, .unset, .unset, .unset, .unset] [(.int p0)])) (fun t k => XS.iloadN X0.here hx rfl (hb hby at_57) rfl k) ?_
      refine Go.to (g' := (mkF m 59 #[.val (.int p0), .val (.int p1), .val (.int p2), .val (.int p3), .val (.int p4), .val (.int p5), .val (.int (1 : Int32)), .val (.int (1 : Int32)), .val (.int st), .val (.int s2), .unset, .unset, .unset, .unset, .unset] [(.int (2 : Int32)), (.int p0)])) (fun t k => XS.iconst X0.here hx rfl (hb hby at_58) k) ?_
      refine Go.to (g' := (mkF m 60 #[.val (.int p0), .val (.int p1), .val (.int p2), .val (.int p3), .val (.int p4), .val (.int p5), .val (.int (1 : Int32)), .val (.int (1 : Int32)), .val (.int st), .val (.int s2), .unset, .unset, .unset, .unset, .unset] [(.int (p0 &&& (2 : Int32)))])) (fun t k => XS.iand X0.here hx rfl (hb hby at_59) rfl k) ?_
      suffices Jf : ∀ qf : Int32, Go p e below s (Q0 Z p0 p1 p2 p3 p4 p5 h0 n0) room_1.cells room_1.slots (s₁.setTop (mkF m 69 #[.val (.int p0), .val (.int p1), .val (.int p2), .val (.int p3), .val (.int p4), .val (.int p5), .val (.int (1 : Int32)), .val (.int (1 : Int32)), .val (.int st), .val (.int s2), .unset, .unset, .unset, .unset, .unset] [(.int qf)])) by
        by_cases c35 : (p0 &&& (2 : Int32)) = (0 : Int32)
        · refine Go.to (g' := (mkF m 67 #[.val (.int p0), .val (.int p1), .val (.int p2), .val (.int p3), .val (.int p4), .val (.int p5), .val (.int (1 : Int32)), .val (.int (1 : Int32)), .val (.int st), .val (.int s2), .unset, .unset, .unset, .unset, .unset] [])) (fun t k => XS.ifYes X0.here hx rfl (pc0 := 60) (pc' := 67) rfl (hb hby at_60) rfl ((if0 _ _).trans (teq c35).1) (by decide) (by decide) k) ?_
          refine Go.to (g' := (mkF m 69 #[.val (.int p0), .val (.int p1), .val (.int p2), .val (.int p3), .val (.int p4), .val (.int p5), .val (.int (1 : Int32)), .val (.int (1 : Int32)), .val (.int st), .val (.int s2), .unset, .unset, .unset, .unset, .unset] [(.int p4)])) (fun t k => XS.iload X0.here hx rfl (hb hby at_67) rfl k) ?_
          exact Jf _
        · refine Go.to (g' := (mkF m 63 #[.val (.int p0), .val (.int p1), .val (.int p2), .val (.int p3), .val (.int p4), .val (.int p5), .val (.int (1 : Int32)), .val (.int (1 : Int32)), .val (.int st), .val (.int s2), .unset, .unset, .unset, .unset, .unset] [])) (fun t k => XS.ifNo X0.here hx rfl (hb hby at_60) rfl ((if0 _ _).trans (feq c35).1) k) ?_
          refine Go.to (g' := (mkF m 64 #[.val (.int p0), .val (.int p1), .val (.int p2), .val (.int p3), .val (.int p4), .val (.int p5), .val (.int (1 : Int32)), .val (.int (1 : Int32)), .val (.int st), .val (.int s2), .unset, .unset, .unset, .unset, .unset] [(.int p2)])) (fun t k => XS.iloadN X0.here hx rfl (hb hby at_63) rfl k) ?_
          refine Go.to (g' := (mkF m 69 #[.val (.int p0), .val (.int p1), .val (.int p2), .val (.int p3), .val (.int p4), .val (.int p5), .val (.int (1 : Int32)), .val (.int (1 : Int32)), .val (.int st), .val (.int s2), .unset, .unset, .unset, .unset, .unset] [(.int p2)])) (fun t k => XS.goto X0.here hx rfl (pc0 := 64) (pc' := 69) rfl (hb hby at_64) (by decide) (by decide) k) ?_
          exact Jf _
      intro qf
      refine Go.to (g' := (mkF m 71 #[.val (.int p0), .val (.int p1), .val (.int p2), .val (.int p3), .val (.int p4), .val (.int p5), .val (.int (1 : Int32)), .val (.int (1 : Int32)), .val (.int st), .val (.int s2), .val (.int qf), .unset, .unset, .unset, .unset] [])) (fun t k => XS.istore X0.here hx rfl (hb hby at_69) rfl (l' := #[.val (.int p0), .val (.int p1), .val (.int p2), .val (.int p3), .val (.int p4), .val (.int p5), .val (.int (1 : Int32)), .val (.int (1 : Int32)), .val (.int st), .val (.int s2), .val (.int qf), .unset, .unset, .unset, .unset]) rfl k) ?_
      refine Go.to (g' := (mkF m 72 #[.val (.int p0), .val (.int p1), .val (.int p2), .val (.int p3), .val (.int p4), .val (.int p5), .val (.int (1 : Int32)), .val (.int (1 : Int32)), .val (.int st), .val (.int s2), .val (.int qf), .unset, .unset, .unset, .unset] [(.int p0)])) (fun t k => XS.iloadN X0.here hx rfl (hb hby at_71) rfl k) ?_
      refine Go.to (g' := (mkF m 73 #[.val (.int p0), .val (.int p1), .val (.int p2), .val (.int p3), .val (.int p4), .val (.int p5), .val (.int (1 : Int32)), .val (.int (1 : Int32)), .val (.int st), .val (.int s2), .val (.int qf), .unset, .unset, .unset, .unset] [(.int (4 : Int32)), (.int p0)])) (fun t k => XS.iconst X0.here hx rfl (hb hby at_72) k) ?_
      refine Go.to (g' := (mkF m 74 #[.val (.int p0), .val (.int p1), .val (.int p2), .val (.int p3), .val (.int p4), .val (.int p5), .val (.int (1 : Int32)), .val (.int (1 : Int32)), .val (.int st), .val (.int s2), .val (.int qf), .unset, .unset, .unset, .unset] [(.int (p0 &&& (4 : Int32)))])) (fun t k => XS.iand X0.here hx rfl (hb hby at_73) rfl k) ?_
      suffices Jt : ∀ qt : Int32, Go p e below s (Q0 Z p0 p1 p2 p3 p4 p5 h0 n0) room_1.cells room_1.slots (s₁.setTop (mkF m 83 #[.val (.int p0), .val (.int p1), .val (.int p2), .val (.int p3), .val (.int p4), .val (.int p5), .val (.int (1 : Int32)), .val (.int (1 : Int32)), .val (.int st), .val (.int s2), .val (.int qf), .unset, .unset, .unset, .unset] [(.int qt)])) by
        by_cases c36 : (p0 &&& (4 : Int32)) = (0 : Int32)
        · refine Go.to (g' := (mkF m 81 #[.val (.int p0), .val (.int p1), .val (.int p2), .val (.int p3), .val (.int p4), .val (.int p5), .val (.int (1 : Int32)), .val (.int (1 : Int32)), .val (.int st), .val (.int s2), .val (.int qf), .unset, .unset, .unset, .unset] [])) (fun t k => XS.ifYes X0.here hx rfl (pc0 := 74) (pc' := 81) rfl (hb hby at_74) rfl ((if0 _ _).trans (teq c36).1) (by decide) (by decide) k) ?_
          refine Go.to (g' := (mkF m 83 #[.val (.int p0), .val (.int p1), .val (.int p2), .val (.int p3), .val (.int p4), .val (.int p5), .val (.int (1 : Int32)), .val (.int (1 : Int32)), .val (.int st), .val (.int s2), .val (.int qf), .unset, .unset, .unset, .unset] [(.int p5)])) (fun t k => XS.iload X0.here hx rfl (hb hby at_81) rfl k) ?_
          exact Jt _
        · refine Go.to (g' := (mkF m 77 #[.val (.int p0), .val (.int p1), .val (.int p2), .val (.int p3), .val (.int p4), .val (.int p5), .val (.int (1 : Int32)), .val (.int (1 : Int32)), .val (.int st), .val (.int s2), .val (.int qf), .unset, .unset, .unset, .unset] [])) (fun t k => XS.ifNo X0.here hx rfl (hb hby at_74) rfl ((if0 _ _).trans (feq c36).1) k) ?_
          refine Go.to (g' := (mkF m 78 #[.val (.int p0), .val (.int p1), .val (.int p2), .val (.int p3), .val (.int p4), .val (.int p5), .val (.int (1 : Int32)), .val (.int (1 : Int32)), .val (.int st), .val (.int s2), .val (.int qf), .unset, .unset, .unset, .unset] [(.int p3)])) (fun t k => XS.iloadN X0.here hx rfl (hb hby at_77) rfl k) ?_
          refine Go.to (g' := (mkF m 83 #[.val (.int p0), .val (.int p1), .val (.int p2), .val (.int p3), .val (.int p4), .val (.int p5), .val (.int (1 : Int32)), .val (.int (1 : Int32)), .val (.int st), .val (.int s2), .val (.int qf), .unset, .unset, .unset, .unset] [(.int p3)])) (fun t k => XS.goto X0.here hx rfl (pc0 := 78) (pc' := 83) rfl (hb hby at_78) (by decide) (by decide) k) ?_
          exact Jt _
      intro qt
      refine Go.to (g' := (mkF m 85 #[.val (.int p0), .val (.int p1), .val (.int p2), .val (.int p3), .val (.int p4), .val (.int p5), .val (.int (1 : Int32)), .val (.int (1 : Int32)), .val (.int st), .val (.int s2), .val (.int qf), .val (.int qt), .unset, .unset, .unset] [])) (fun t k => XS.istore X0.here hx rfl (hb hby at_83) rfl (l' := #[.val (.int p0), .val (.int p1), .val (.int p2), .val (.int p3), .val (.int p4), .val (.int p5), .val (.int (1 : Int32)), .val (.int (1 : Int32)), .val (.int st), .val (.int s2), .val (.int qf), .val (.int qt), .unset, .unset, .unset]) rfl k) ?_
      obtain ⟨T38, h38, X38, e38, E38, A38, D38, -, st38⟩ := newO X0 hx hZ hown (hw _ (List.mem_of_getElem? (i := 0) rfl)) (hw _ (List.mem_of_getElem? (i := 1) rfl)) (hw _ (List.mem_of_getElem? (i := 2) rfl)) e0 (g := (mkF m 85 #[.val (.int p0), .val (.int p1), .val (.int p2), .val (.int p3), .val (.int p4), .val (.int p5), .val (.int (1 : Int32)), .val (.int (1 : Int32)), .val (.int st), .val (.int s2), .val (.int qf), .val (.int qt), .unset, .unset, .unset] [])) rfl (hb hby at_85) (by decide) (by decide)
      obtain ⟨o37, g38⟩ : ∃ z, z = h0.size := ⟨_, rfl⟩
      rw [← g38] at A38 D38 st38
      have g_o37 : n0 ≤ o37 := Nat.le_trans Z0 (Nat.le_of_eq g38.symm)
      have sz_o37 : h0.size ≤ o37 := Nat.le_trans (Keep.refl h0 []).1 (Nat.le_of_eq g38.symm)
      have Z38 : n0 ≤ h38.size := Nat.le_trans Z0 E38.1
      have K38 : Keep h0 h38 [] := (Keep.refl h0 []).ext E38
      have F_firings_o37 : Fld Z h38 o37 "com/example/skuld/skuld/analysis/Distances" "firings" "[I" .null := D38 (Or.inl (hw _ (List.mem_of_getElem? (i := 11) rfl))) (ty := (.array .int)) (by decide)
      have F_times_o37 : Fld Z h38 o37 "com/example/skuld/skuld/analysis/Distances" "times" "[I" .null := D38 (Or.inl (hw _ (List.mem_of_getElem? (i := 13) rfl))) (ty := (.array .int)) (by decide)
      have F_kept_o37 : Fld Z h38 o37 "com/example/skuld/skuld/analysis/Distances" "kept" "Z" (.int (0 : Int32)) := D38 (Or.inr (hw _ (List.mem_of_getElem? (i := 15) rfl))) (ty := .boolean) (by decide)
      refine Go.to (g' := (mkF m 88 #[.val (.int p0), .val (.int p1), .val (.int p2), .val (.int p3), .val (.int p4), .val (.int p5), .val (.int (1 : Int32)), .val (.int (1 : Int32)), .val (.int st), .val (.int s2), .val (.int qf), .val (.int qt), .unset, .unset, .unset] [(.ref o37)])) st38 ?_
      refine Go.to (g' := (mkF m 89 #[.val (.int p0), .val (.int p1), .val (.int p2), .val (.int p3), .val (.int p4), .val (.int p5), .val (.int (1 : Int32)), .val (.int (1 : Int32)), .val (.int st), .val (.int s2), .val (.int qf), .val (.int qt), .unset, .unset, .unset] [(.ref o37), (.ref o37)])) (fun t k => XS.dup X38.here hx rfl (hb hby at_88) rfl rfl k) ?_
      refine Go.to (g' := (mkF m 91 #[.val (.int p0), .val (.int p1), .val (.int p2), .val (.int p3), .val (.int p4), .val (.int p5), .val (.int (1 : Int32)), .val (.int (1 : Int32)), .val (.int st), .val (.int s2), .val (.int qf), .val (.int qt), .unset, .unset, .unset] [(.int (1 : Int32)), (.ref o37), (.ref o37)])) (fun t k => XS.iload X38.here hx rfl (hb hby at_89) rfl k) ?_
      have lt39_o37 : o37 < h38.size := A38.lt
      obtain ⟨v39, _, ⟨T39, L39, k39, n39⟩, -, X39, ⟨Lc39, hQ39, l39, y39, z39⟩, st39⟩ := X38.specialBack hx (y := (⟨"com/example/skuld/skuld/analysis/Distances", "<init>", "(Z)V"⟩ : MethodName)) rfl hown (mvT hZ (hw _ (List.mem_of_getElem? (i := 3) rfl))) (mvT hZ (hw _ (List.mem_of_getElem? (i := 4) rfl))) (mvT hZ (hw _ (List.mem_of_getElem? (i := 5) rfl))) (by decide) (backOf (W := 1) (rm1k l Z aw hw [] o37 (1 : Int32)  h38 n0 Z38 A38 F_firings_o37 F_times_o37 F_kept_o37 g_o37 rfl) hZ (hw _ (List.mem_of_getElem? (i := 5) rfl)) (hw _ (List.mem_of_getElem? (i := 2) rfl)) (by decide) (by decide)) (g := (mkF m 91 #[.val (.int p0), .val (.int p1), .val (.int p2), .val (.int p3), .val (.int p4), .val (.int p5), .val (.int (1 : Int32)), .val (.int (1 : Int32)), .val (.int st), .val (.int s2), .val (.int qf), .val (.int qt), .unset, .unset, .unset] [(.int (1 : Int32)), (.ref o37), (.ref o37)])) rfl (by rw [hml]; rfl) (Steps.refl _) (a := o37) (argsL := [(.int (1 : Int32))]) (rest := [(.ref o37)]) (lenOf pd_28Z29V rfl) rfl (by show 2 * 0 + _ ≤ _; exact Nat.le_of_eq rfl) (hb hby at_91) (fun _ _ => ⟨rfl, e38, (by decide : 1 + 4 ≤ _), (by decide : 3 + 2048 ≤ _)⟩)
      dsimp only [Pt.U, Pt.locs, Pt.cells, Pt.slots] at X39 l39 y39 z39 st39 hQ39
      subst l39 y39 z39
      obtain ⟨h39, e39⟩ : ∃ z, T39.heap = z := ⟨_, rfl⟩
      rw [e39] at hQ39
      obtain ⟨u39, t39, ku39, kt39, rfl, N39q, Kq39, Gk39, Gf39, Gt39, gu39, gt39, su39, st_39, nu39, Vu39, Vt39⟩ := hQ39
      have N39 := Fr.app N0 N39q
      have Z39 : n0 ≤ h39.size := Nat.le_trans Z38 Kq39.1
      have K39 : Keep h0 h39 [] := K38.trans Kq39 (fun x hx => by cases List.mem_singleton.mp hx; exact Or.inr sz_o37)
      have ne_o37_u39 : o37 ≠ u39 := Nat.ne_of_lt (Nat.lt_of_lt_of_le lt39_o37 su39)
      have sz_u39 : h0.size ≤ u39 := Nat.le_trans K38.1 su39
      have ne_o37_t39 : o37 ≠ t39 := Nat.ne_of_lt (Nat.lt_of_lt_of_le lt39_o37 st_39)
      have sz_t39 : h0.size ≤ t39 := Nat.le_trans K38.1 st_39
      refine Go.to (g' := (mkF m 94 #[.val (.int p0), .val (.int p1), .val (.int p2), .val (.int p3), .val (.int p4), .val (.int p5), .val (.int (1 : Int32)), .val (.int (1 : Int32)), .val (.int st), .val (.int s2), .val (.int qf), .val (.int qt), .unset, .unset, .unset] [(.ref o37)])) (fun t k => st39.trans k) ?_
      refine Go.to (g' := (mkF m 96 #[.val (.int p0), .val (.int p1), .val (.int p2), .val (.int p3), .val (.int p4), .val (.int p5), .val (.int (1 : Int32)), .val (.int (1 : Int32)), .val (.int st), .val (.int s2), .val (.int qf), .val (.int qt), .val (.ref o37), .unset, .unset] [])) (fun t k => XS.astore X39.here hx rfl (hb hby at_94) rfl rfl (l' := #[.val (.int p0), .val (.int p1), .val (.int p2), .val (.int p3), .val (.int p4), .val (.int p5), .val (.int (1 : Int32)), .val (.int (1 : Int32)), .val (.int st), .val (.int s2), .val (.int qf), .val (.int qt), .val (.ref o37), .unset, .unset]) rfl k) ?_
      refine Go.to (g' := (mkF m 98 #[.val (.int p0), .val (.int p1), .val (.int p2), .val (.int p3), .val (.int p4), .val (.int p5), .val (.int (1 : Int32)), .val (.int (1 : Int32)), .val (.int st), .val (.int s2), .val (.int qf), .val (.int qt), .val (.ref o37), .unset, .unset] [(.int (1 : Int32))])) (fun t k => XS.iload X39.here hx rfl (hb hby at_96) rfl k) ?_
      refine Go.to (g' := (mkF m 101 #[.val (.int p0), .val (.int p1), .val (.int p2), .val (.int p3), .val (.int p4), .val (.int p5), .val (.int (1 : Int32)), .val (.int (1 : Int32)), .val (.int st), .val (.int s2), .val (.int qf), .val (.int qt), .val (.ref o37), .unset, .unset] [])) (fun t k => XS.ifNo X39.here hx rfl (hb hby at_98) rfl ((if0 _ _).trans (feq (by decide)).1) k) ?_
      refine Go.to (g' := (mkF m 103 #[.val (.int p0), .val (.int p1), .val (.int p2), .val (.int p3), .val (.int p4), .val (.int p5), .val (.int (1 : Int32)), .val (.int (1 : Int32)), .val (.int st), .val (.int s2), .val (.int qf), .val (.int qt), .val (.ref o37), .unset, .unset] [(.ref o37)])) (fun t k => XS.aload X39.here hx rfl (hb hby at_101) rfl rfl k) ?_
      refine Go.to (g' := (mkF m 105 #[.val (.int p0), .val (.int p1), .val (.int p2), .val (.int p3), .val (.int p4), .val (.int p5), .val (.int (1 : Int32)), .val (.int (1 : Int32)), .val (.int st), .val (.int s2), .val (.int qf), .val (.int qt), .val (.ref o37), .unset, .unset] [(.int st), (.ref o37)])) (fun t k => XS.iload X39.here hx rfl (hb hby at_103) rfl k) ?_
      refine Go.to (g' := (mkF m 106 #[.val (.int p0), .val (.int p1), .val (.int p2), .val (.int p3), .val (.int p4), .val (.int p5), .val (.int (1 : Int32)), .val (.int (1 : Int32)), .val (.int st), .val (.int s2), .val (.int qf), .val (.int qt), .val (.ref o37), .unset, .unset] [(.int (1 : Int32)), (.int st), (.ref o37)])) (fun t k => XS.iconst X39.here hx rfl (hb hby at_105) k) ?_
      refine Go.to (g' := (mkF m 107 #[.val (.int p0), .val (.int p1), .val (.int p2), .val (.int p3), .val (.int p4), .val (.int p5), .val (.int (1 : Int32)), .val (.int (1 : Int32)), .val (.int st), .val (.int s2), .val (.int qf), .val (.int qt), .val (.ref o37), .unset, .unset] [(.int p2), (.int (1 : Int32)), (.int st), (.ref o37)])) (fun t k => XS.iloadN X39.here hx rfl (hb hby at_106) rfl k) ?_
      refine Go.to (g' := (mkF m 108 #[.val (.int p0), .val (.int p1), .val (.int p2), .val (.int p3), .val (.int p4), .val (.int p5), .val (.int (1 : Int32)), .val (.int (1 : Int32)), .val (.int st), .val (.int s2), .val (.int qf), .val (.int qt), .val (.ref o37), .unset, .unset] [(.int p3), (.int p2), (.int (1 : Int32)), (.int st), (.ref o37)])) (fun t k => XS.iloadN X39.here hx rfl (hb hby at_107) rfl k) ?_
      have f40 : Exa Z h39 o37 "com/example/skuld/skuld/analysis/Distances" := (A38.keep Kq39)
      obtain ⟨cq41, kq41, qa41, qb41, qc41⟩ := isOf hZ e39 f40
      obtain ⟨v41, _, ⟨T41, L41, k41, n41⟩, -, X41, ⟨Lc41, hQ41, l41, y41, z41⟩, st41⟩ := X39.virtualBack hx (y := (⟨"com/example/skuld/skuld/analysis/Distances", "shorter", "(IZII)Z"⟩ : MethodName)) (z := (⟨"com/example/skuld/skuld/analysis/Distances", "shorter", "(IZII)Z"⟩ : MethodName)) hown (mvT hZ (hw _ (List.mem_of_getElem? (i := 25) rfl))) (mvT hZ (hw _ (List.mem_of_getElem? (i := 26) rfl))) (notFace_of_selects (args := #[]) (mvT hZ (hw _ (List.mem_of_getElem? (i := 28) rfl)))) (mvT hZ (hw _ (List.mem_of_getElem? (i := 28) rfl))) (mvT hZ (hw _ (List.mem_of_getElem? (i := 27) rfl))) (by decide) (backOf (W := 0) (rm5k l Z aw hw [] o37 st (1 : Int32) p2 p3 u39 t39 ku39 kt39 h39 n0 Z39 f40 Gk39 Gf39 Gt39 Vu39 Vt39 g_o37 gu39 gt39 ne_o37_u39 ne_o37_t39 nu39 hst hst2 rfl) hZ (hw _ (List.mem_of_getElem? (i := 29) rfl)) (hw _ (List.mem_of_getElem? (i := 2) rfl)) (by decide) (by decide)) qa41 qc41 (g := (mkF m 108 #[.val (.int p0), .val (.int p1), .val (.int p2), .val (.int p3), .val (.int p4), .val (.int p5), .val (.int (1 : Int32)), .val (.int (1 : Int32)), .val (.int st), .val (.int s2), .val (.int qf), .val (.int qt), .val (.ref o37), .unset, .unset] [(.int p3), (.int p2), (.int (1 : Int32)), (.int st), (.ref o37)])) rfl (by rw [hml]; rfl) (Steps.refl _) (argsL := [(.int st), (.int (1 : Int32)), (.int p2), (.int p3)]) (rest := []) (lenOf pd_28IZII29Z rfl) rfl (by show 2 * 0 + _ ≤ _; exact Nat.le_of_eq rfl) (hb hby at_108) (fun _ _ => ⟨rfl, e39, (by decide : 5 + 2 ≤ _), (by decide : 2051 + 4096 ≤ _)⟩)
      dsimp only [Pt.U, Pt.locs, Pt.cells, Pt.slots] at X41 l41 y41 z41 st41 hQ41
      subst l41 y41 z41
      obtain ⟨h41, e41⟩ : ∃ z, T41.heap = z := ⟨_, rfl⟩
      rw [e41] at hQ41
      obtain ⟨c41, d41, nn41, rfl, N41q, Kq41, Gk41, Gf41, Gt41, Iu41, It41, hnn41, hlt41⟩ := hQ41
      have N41 := Fr.app N39 N41q
      have Z41 : n0 ≤ h41.size := Nat.le_trans Z39 Kq41.1
      have K41 : Keep h0 h41 [] := K39.trans Kq41 (by intro x hx; simp only [List.mem_cons, List.not_mem_nil, or_false] at hx; rcases hx with rfl | rfl | rfl <;> first | exact (Or.inr sz_o37) | exact (Or.inr sz_u39) | exact (Or.inr sz_t39))
      refine Go.to (g' := (mkF m 111 #[.val (.int p0), .val (.int p1), .val (.int p2), .val (.int p3), .val (.int p4), .val (.int p5), .val (.int (1 : Int32)), .val (.int (1 : Int32)), .val (.int st), .val (.int s2), .val (.int qf), .val (.int qt), .val (.ref o37), .unset, .unset] [(.int (1 : Int32))])) (fun t k => st41.trans k) ?_
      refine Go.to (g' := (mkF m 112 #[.val (.int p0), .val (.int p1), .val (.int p2), .val (.int p3), .val (.int p4), .val (.int p5), .val (.int (1 : Int32)), .val (.int (1 : Int32)), .val (.int st), .val (.int s2), .val (.int qf), .val (.int qt), .val (.ref o37), .unset, .unset] [])) (fun t k => XS.pop X41.here hx rfl (hb hby at_111) rfl rfl k) ?_
      refine Go.to (g' := (mkF m 114 #[.val (.int p0), .val (.int p1), .val (.int p2), .val (.int p3), .val (.int p4), .val (.int p5), .val (.int (1 : Int32)), .val (.int (1 : Int32)), .val (.int st), .val (.int s2), .val (.int qf), .val (.int qt), .val (.ref o37), .unset, .unset] [(.ref o37)])) (fun t k => XS.aload X41.here hx rfl (hb hby at_112) rfl rfl k) ?_
      refine Go.to (g' := (mkF m 116 #[.val (.int p0), .val (.int p1), .val (.int p2), .val (.int p3), .val (.int p4), .val (.int p5), .val (.int (1 : Int32)), .val (.int (1 : Int32)), .val (.int st), .val (.int s2), .val (.int qf), .val (.int qt), .val (.ref o37), .unset, .unset] [(.int st), (.ref o37)])) (fun t k => XS.iload X41.here hx rfl (hb hby at_114) rfl k) ?_
      refine Go.to (g' := (mkF m 118 #[.val (.int p0), .val (.int p1), .val (.int p2), .val (.int p3), .val (.int p4), .val (.int p5), .val (.int (1 : Int32)), .val (.int (1 : Int32)), .val (.int st), .val (.int s2), .val (.int qf), .val (.int qt), .val (.ref o37), .unset, .unset] [(.int qf), (.int st), (.ref o37)])) (fun t k => XS.iload X41.here hx rfl (hb hby at_116) rfl k) ?_
      refine Go.to (g' := (mkF m 120 #[.val (.int p0), .val (.int p1), .val (.int p2), .val (.int p3), .val (.int p4), .val (.int p5), .val (.int (1 : Int32)), .val (.int (1 : Int32)), .val (.int st), .val (.int s2), .val (.int qf), .val (.int qt), .val (.ref o37), .unset, .unset] [(.int qt), (.int qf), (.int st), (.ref o37)])) (fun t k => XS.iload X41.here hx rfl (hb hby at_118) rfl k) ?_
      obtain ⟨ra1, hra1⟩ : ∃ r : Int32, (((own_upd (fun _ => (0 : Int32)) st p2) st = qf ∧ (own_upd (fun _ => (0 : Int32)) st p3) st = qt) ∧ r = (1 : Int32)) ∨ (¬ ((own_upd (fun _ => (0 : Int32)) st p2) st = qf ∧ (own_upd (fun _ => (0 : Int32)) st p3) st = qt) ∧ r = (0 : Int32)) := (Classical.em ((own_upd (fun _ => (0 : Int32)) st p2) st = qf ∧ (own_upd (fun _ => (0 : Int32)) st p3) st = qt)).elim (fun q => ⟨1, Or.inl ⟨q, rfl⟩⟩) (fun q => ⟨0, Or.inr ⟨q, rfl⟩⟩)
      have f42 : Exa Z h41 o37 "com/example/skuld/skuld/analysis/Distances" := (f40.keep Kq41)
      obtain ⟨cq43, kq43, qa43, qb43, qc43⟩ := isOf hZ e41 f42
      obtain ⟨v43, _, ⟨T43, L43, k43, n43⟩, -, X43, ⟨Lc43, hQ43, l43, y43, z43⟩, st43⟩ := X41.virtualBack hx (y := (⟨"com/example/skuld/skuld/analysis/Distances", "current", "(III)Z"⟩ : MethodName)) (z := (⟨"com/example/skuld/skuld/analysis/Distances", "current", "(III)Z"⟩ : MethodName)) hown (mvT hZ (hw _ (List.mem_of_getElem? (i := 16) rfl))) (mvT hZ (hw _ (List.mem_of_getElem? (i := 17) rfl))) (notFace_of_selects (args := #[]) (mvT hZ (hw _ (List.mem_of_getElem? (i := 19) rfl)))) (mvT hZ (hw _ (List.mem_of_getElem? (i := 19) rfl))) (mvT hZ (hw _ (List.mem_of_getElem? (i := 18) rfl))) (by decide) (backOf (W := 0) (rm3k l Z aw hw [] o37 st qf qt c41 d41 nn41 (own_upd (fun _ => (0 : Int32)) st p2) (own_upd (fun _ => (0 : Int32)) st p3) ra1 h41 n0 Z41 Gk41 Gf41 Gt41 Iu41 It41 hst hlt41 hra1) hZ (hw _ (List.mem_of_getElem? (i := 20) rfl)) (hw _ (List.mem_of_getElem? (i := 2) rfl)) (by decide) (by decide)) qa43 qc43 (g := (mkF m 120 #[.val (.int p0), .val (.int p1), .val (.int p2), .val (.int p3), .val (.int p4), .val (.int p5), .val (.int (1 : Int32)), .val (.int (1 : Int32)), .val (.int st), .val (.int s2), .val (.int qf), .val (.int qt), .val (.ref o37), .unset, .unset] [(.int qt), (.int qf), (.int st), (.ref o37)])) rfl (by rw [hml]; rfl) (Steps.refl _) (argsL := [(.int st), (.int qf), (.int qt)]) (rest := []) (lenOf pd_28III29Z rfl) rfl (by show 2 * 0 + _ ≤ _; exact Nat.le_of_eq rfl) (hb hby at_120) (fun _ _ => ⟨rfl, e41, (by decide : 7 + 0 ≤ _), (by decide : 6147 + 0 ≤ _)⟩)
      dsimp only [Pt.U, Pt.locs, Pt.cells, Pt.slots] at X43 l43 y43 z43 st43 hQ43
      subst l43 y43 z43
      obtain ⟨rfl, N43q, e43⟩ := hQ43
      have N43 := Fr.app N41 N43q
      refine Go.to (g' := (mkF m 123 #[.val (.int p0), .val (.int p1), .val (.int p2), .val (.int p3), .val (.int p4), .val (.int p5), .val (.int (1 : Int32)), .val (.int (1 : Int32)), .val (.int st), .val (.int s2), .val (.int qf), .val (.int qt), .val (.ref o37), .unset, .unset] [(.int ra1)])) (fun t k => st43.trans k) ?_
      refine Go.to (g' := (mkF m 125 #[.val (.int p0), .val (.int p1), .val (.int p2), .val (.int p3), .val (.int p4), .val (.int p5), .val (.int (1 : Int32)), .val (.int (1 : Int32)), .val (.int st), .val (.int s2), .val (.int qf), .val (.int qt), .val (.ref o37), .val (.int ra1), .unset] [])) (fun t k => XS.istore X43.here hx rfl (hb hby at_123) rfl (l' := #[.val (.int p0), .val (.int p1), .val (.int p2), .val (.int p3), .val (.int p4), .val (.int p5), .val (.int (1 : Int32)), .val (.int (1 : Int32)), .val (.int st), .val (.int s2), .val (.int qf), .val (.int qt), .val (.ref o37), .val (.int ra1), .unset]) rfl k) ?_
      refine Go.to (g' := (mkF m 127 #[.val (.int p0), .val (.int p1), .val (.int p2), .val (.int p3), .val (.int p4), .val (.int p5), .val (.int (1 : Int32)), .val (.int (1 : Int32)), .val (.int st), .val (.int s2), .val (.int qf), .val (.int qt), .val (.ref o37), .val (.int ra1), .unset] [(.ref o37)])) (fun t k => XS.aload X43.here hx rfl (hb hby at_125) rfl rfl k) ?_
      refine Go.to (g' := (mkF m 129 #[.val (.int p0), .val (.int p1), .val (.int p2), .val (.int p3), .val (.int p4), .val (.int p5), .val (.int (1 : Int32)), .val (.int (1 : Int32)), .val (.int st), .val (.int s2), .val (.int qf), .val (.int qt), .val (.ref o37), .val (.int ra1), .unset] [(.int s2), (.ref o37)])) (fun t k => XS.iload X43.here hx rfl (hb hby at_127) rfl k) ?_
      refine Go.to (g' := (mkF m 131 #[.val (.int p0), .val (.int p1), .val (.int p2), .val (.int p3), .val (.int p4), .val (.int p5), .val (.int (1 : Int32)), .val (.int (1 : Int32)), .val (.int st), .val (.int s2), .val (.int qf), .val (.int qt), .val (.ref o37), .val (.int ra1), .unset] [(.int qf), (.int s2), (.ref o37)])) (fun t k => XS.iload X43.here hx rfl (hb hby at_129) rfl k) ?_
      refine Go.to (g' := (mkF m 133 #[.val (.int p0), .val (.int p1), .val (.int p2), .val (.int p3), .val (.int p4), .val (.int p5), .val (.int (1 : Int32)), .val (.int (1 : Int32)), .val (.int st), .val (.int s2), .val (.int qf), .val (.int qt), .val (.ref o37), .val (.int ra1), .unset] [(.int qt), (.int qf), (.int s2), (.ref o37)])) (fun t k => XS.iload X43.here hx rfl (hb hby at_131) rfl k) ?_
      obtain ⟨ra2, hra2⟩ : ∃ r : Int32, (((own_upd (fun _ => (0 : Int32)) st p2) s2 = qf ∧ (own_upd (fun _ => (0 : Int32)) st p3) s2 = qt) ∧ r = (1 : Int32)) ∨ (¬ ((own_upd (fun _ => (0 : Int32)) st p2) s2 = qf ∧ (own_upd (fun _ => (0 : Int32)) st p3) s2 = qt) ∧ r = (0 : Int32)) := (Classical.em ((own_upd (fun _ => (0 : Int32)) st p2) s2 = qf ∧ (own_upd (fun _ => (0 : Int32)) st p3) s2 = qt)).elim (fun q => ⟨1, Or.inl ⟨q, rfl⟩⟩) (fun q => ⟨0, Or.inr ⟨q, rfl⟩⟩)
      obtain ⟨cq44, kq44, qa44, qb44, qc44⟩ := isOf hZ e43 f42
      obtain ⟨v44, _, ⟨T44, L44, k44, n44⟩, -, X44, ⟨Lc44, hQ44, l44, y44, z44⟩, st44⟩ := X43.virtualBack hx (y := (⟨"com/example/skuld/skuld/analysis/Distances", "current", "(III)Z"⟩ : MethodName)) (z := (⟨"com/example/skuld/skuld/analysis/Distances", "current", "(III)Z"⟩ : MethodName)) hown (mvT hZ (hw _ (List.mem_of_getElem? (i := 16) rfl))) (mvT hZ (hw _ (List.mem_of_getElem? (i := 17) rfl))) (notFace_of_selects (args := #[]) (mvT hZ (hw _ (List.mem_of_getElem? (i := 19) rfl)))) (mvT hZ (hw _ (List.mem_of_getElem? (i := 19) rfl))) (mvT hZ (hw _ (List.mem_of_getElem? (i := 18) rfl))) (by decide) (backOf (W := 0) (rm3k l Z aw hw [] o37 s2 qf qt c41 d41 nn41 (own_upd (fun _ => (0 : Int32)) st p2) (own_upd (fun _ => (0 : Int32)) st p3) ra2 h41 n0 Z41 Gk41 Gf41 Gt41 Iu41 It41 hs2 (by have := hs22; omega) hra2) hZ (hw _ (List.mem_of_getElem? (i := 20) rfl)) (hw _ (List.mem_of_getElem? (i := 2) rfl)) (by decide) (by decide)) qa44 qc44 (g := (mkF m 133 #[.val (.int p0), .val (.int p1), .val (.int p2), .val (.int p3), .val (.int p4), .val (.int p5), .val (.int (1 : Int32)), .val (.int (1 : Int32)), .val (.int st), .val (.int s2), .val (.int qf), .val (.int qt), .val (.ref o37), .val (.int ra1), .unset] [(.int qt), (.int qf), (.int s2), (.ref o37)])) rfl (by rw [hml]; rfl) (Steps.refl _) (argsL := [(.int s2), (.int qf), (.int qt)]) (rest := []) (lenOf pd_28III29Z rfl) rfl (by show 2 * 0 + _ ≤ _; exact Nat.le_of_eq rfl) (hb hby at_133) (fun _ _ => ⟨rfl, e43, (by decide : 7 + 0 ≤ _), (by decide : 6147 + 0 ≤ _)⟩)
      dsimp only [Pt.U, Pt.locs, Pt.cells, Pt.slots] at X44 l44 y44 z44 st44 hQ44
      subst l44 y44 z44
      obtain ⟨rfl, N44q, e44⟩ := hQ44
      have N44 := Fr.app N43 N44q
      refine Go.to (g' := (mkF m 136 #[.val (.int p0), .val (.int p1), .val (.int p2), .val (.int p3), .val (.int p4), .val (.int p5), .val (.int (1 : Int32)), .val (.int (1 : Int32)), .val (.int st), .val (.int s2), .val (.int qf), .val (.int qt), .val (.ref o37), .val (.int ra1), .unset] [(.int ra2)])) (fun t k => st44.trans k) ?_
      refine Go.to (g' := (mkF m 138 #[.val (.int p0), .val (.int p1), .val (.int p2), .val (.int p3), .val (.int p4), .val (.int p5), .val (.int (1 : Int32)), .val (.int (1 : Int32)), .val (.int st), .val (.int s2), .val (.int qf), .val (.int qt), .val (.ref o37), .val (.int ra1), .val (.int ra2)] [])) (fun t k => XS.istore X44.here hx rfl (hb hby at_136) rfl (l' := #[.val (.int p0), .val (.int p1), .val (.int p2), .val (.int p3), .val (.int p4), .val (.int p5), .val (.int (1 : Int32)), .val (.int (1 : Int32)), .val (.int st), .val (.int s2), .val (.int qf), .val (.int qt), .val (.ref o37), .val (.int ra1), .val (.int ra2)]) rfl k) ?_
      refine Go.to (g' := (mkF m 140 #[.val (.int p0), .val (.int p1), .val (.int p2), .val (.int p3), .val (.int p4), .val (.int p5), .val (.int (1 : Int32)), .val (.int (1 : Int32)), .val (.int st), .val (.int s2), .val (.int qf), .val (.int qt), .val (.ref o37), .val (.int ra1), .val (.int ra2)] [(.int ra1)])) (fun t k => XS.iload X44.here hx rfl (hb hby at_138) rfl k) ?_
      refine Go.to (g' := (mkF m 142 #[.val (.int p0), .val (.int p1), .val (.int p2), .val (.int p3), .val (.int p4), .val (.int p5), .val (.int (1 : Int32)), .val (.int (1 : Int32)), .val (.int st), .val (.int s2), .val (.int qf), .val (.int qt), .val (.ref o37), .val (.int ra1), .val (.int ra2)] [(.int (1 : Int32)), (.int ra1)])) (fun t k => XS.iload X44.here hx rfl (hb hby at_140) rfl k) ?_
      refine Go.to (g' := (mkF m 144 #[.val (.int p0), .val (.int p1), .val (.int p2), .val (.int p3), .val (.int p4), .val (.int p5), .val (.int (1 : Int32)), .val (.int (1 : Int32)), .val (.int st), .val (.int s2), .val (.int qf), .val (.int qt), .val (.ref o37), .val (.int ra1), .val (.int ra2)] [(.int (1 : Int32)), (.int (1 : Int32)), (.int ra1)])) (fun t k => XS.iload X44.here hx rfl (hb hby at_142) rfl k) ?_
      refine Go.to (g' := (mkF m 146 #[.val (.int p0), .val (.int p1), .val (.int p2), .val (.int p3), .val (.int p4), .val (.int p5), .val (.int (1 : Int32)), .val (.int (1 : Int32)), .val (.int st), .val (.int s2), .val (.int qf), .val (.int qt), .val (.ref o37), .val (.int ra1), .val (.int ra2)] [(.int st), (.int (1 : Int32)), (.int (1 : Int32)), (.int ra1)])) (fun t k => XS.iload X44.here hx rfl (hb hby at_144) rfl k) ?_
      refine Go.to (g' := (mkF m 148 #[.val (.int p0), .val (.int p1), .val (.int p2), .val (.int p3), .val (.int p4), .val (.int p5), .val (.int (1 : Int32)), .val (.int (1 : Int32)), .val (.int st), .val (.int s2), .val (.int qf), .val (.int qt), .val (.ref o37), .val (.int ra1), .val (.int ra2)] [(.int st), (.int st), (.int (1 : Int32)), (.int (1 : Int32)), (.int ra1)])) (fun t k => XS.iload X44.here hx rfl (hb hby at_146) rfl k) ?_
      refine Go.to (g' := (mkF m 149 #[.val (.int p0), .val (.int p1), .val (.int p2), .val (.int p3), .val (.int p4), .val (.int p5), .val (.int (1 : Int32)), .val (.int (1 : Int32)), .val (.int st), .val (.int s2), .val (.int qf), .val (.int qt), .val (.ref o37), .val (.int ra1), .val (.int ra2)] [(.int p2), (.int st), (.int st), (.int (1 : Int32)), (.int (1 : Int32)), (.int ra1)])) (fun t k => XS.iloadN X44.here hx rfl (hb hby at_148) rfl k) ?_
      refine Go.to (g' := (mkF m 150 #[.val (.int p0), .val (.int p1), .val (.int p2), .val (.int p3), .val (.int p4), .val (.int p5), .val (.int (1 : Int32)), .val (.int (1 : Int32)), .val (.int st), .val (.int s2), .val (.int qf), .val (.int qt), .val (.ref o37), .val (.int ra1), .val (.int ra2)] [(.int p3), (.int p2), (.int st), (.int st), (.int (1 : Int32)), (.int (1 : Int32)), (.int ra1)])) (fun t k => XS.iloadN X44.here hx rfl (hb hby at_149) rfl k) ?_
      refine Go.to (g' := (mkF m 152 #[.val (.int p0), .val (.int p1), .val (.int p2), .val (.int p3), .val (.int p4), .val (.int p5), .val (.int (1 : Int32)), .val (.int (1 : Int32)), .val (.int st), .val (.int s2), .val (.int qf), .val (.int qt), .val (.ref o37), .val (.int ra1), .val (.int ra2)] [(.int qf), (.int p3), (.int p2), (.int st), (.int st), (.int (1 : Int32)), (.int (1 : Int32)), (.int ra1)])) (fun t k => XS.iload X44.here hx rfl (hb hby at_150) rfl k) ?_
      refine Go.to (g' := (mkF m 154 #[.val (.int p0), .val (.int p1), .val (.int p2), .val (.int p3), .val (.int p4), .val (.int p5), .val (.int (1 : Int32)), .val (.int (1 : Int32)), .val (.int st), .val (.int s2), .val (.int qf), .val (.int qt), .val (.ref o37), .val (.int ra1), .val (.int ra2)] [(.int qt), (.int qf), (.int p3), (.int p2), (.int st), (.int st), (.int (1 : Int32)), (.int (1 : Int32)), (.int ra1)])) (fun t k => XS.iload X44.here hx rfl (hb hby at_152) rfl k) ?_
      obtain ⟨re1, hre1⟩ : ∃ r : Int32, ((own_ex (1 : Int32) (1 : Int32) st st p2 p3 qf qt) ∧ r = (1 : Int32)) ∨ (¬ (own_ex (1 : Int32) (1 : Int32) st st p2 p3 qf qt) ∧ r = (0 : Int32)) := (Classical.em (own_ex (1 : Int32) (1 : Int32) st st p2 p3 qf qt)).elim (fun q => ⟨1, Or.inl ⟨q, rfl⟩⟩) (fun q => ⟨0, Or.inr ⟨q, rfl⟩⟩)
      obtain ⟨v45, _, ⟨T45, L45, k45, n45⟩, -, X45, ⟨Lc45, hQ45, l45, y45, z45⟩, st45⟩ := Jvm.LawKit.callS X44 hx (y := (⟨"com/example/skuld/skuld/analysis/DistancesCurrentPinLaw", "expect", "(ZZIIIIII)Z"⟩ : MethodName)) hown (mvT hZ (hw _ (List.mem_of_getElem? (i := 21) rfl))) (mvT hZ (hw _ (List.mem_of_getElem? (i := 22) rfl))) (mvT hZ (hw _ (List.mem_of_getElem? (i := 23) rfl))) (mvT hZ (hw _ (List.mem_of_getElem? (i := 24) rfl))) (by decide) (backOf (W := 1) (rm4 l Z aw hw [] (1 : Int32) (1 : Int32) st st p2 p3 qf qt re1 h41 n0 Z41 hre1) hZ (hw _ (List.mem_of_getElem? (i := 24) rfl)) (hw _ (List.mem_of_getElem? (i := 23) rfl)) (by decide) (by decide)) (g := (mkF m 154 #[.val (.int p0), .val (.int p1), .val (.int p2), .val (.int p3), .val (.int p4), .val (.int p5), .val (.int (1 : Int32)), .val (.int (1 : Int32)), .val (.int st), .val (.int s2), .val (.int qf), .val (.int qt), .val (.ref o37), .val (.int ra1), .val (.int ra2)] [(.int qt), (.int qf), (.int p3), (.int p2), (.int st), (.int st), (.int (1 : Int32)), (.int (1 : Int32)), (.int ra1)])) rfl (by rw [hml]; rfl) (argsL := [(.int (1 : Int32)), (.int (1 : Int32)), (.int st), (.int st), (.int p2), (.int p3), (.int qf), (.int qt)]) (rest := [(.int ra1)]) (lenOf pd_28ZZIIIIII29Z rfl) rfl (by show 2 * 0 + _ ≤ _; exact Nat.le_of_eq rfl) (hb hby at_154) (fun _ _ => ⟨rfl, e44, (by decide : 7 + 0 ≤ _), (by decide : 6147 + 0 ≤ _)⟩)
      dsimp only [Pt.U, Pt.locs, Pt.cells, Pt.slots] at X45 l45 y45 z45 st45 hQ45
      subst l45 y45 z45
      obtain ⟨rfl, N45q, e45⟩ := hQ45
      have N45 := Fr.app N44 N45q
      refine Go.to (g' := (mkF m 157 #[.val (.int p0), .val (.int p1), .val (.int p2), .val (.int p3), .val (.int p4), .val (.int p5), .val (.int (1 : Int32)), .val (.int (1 : Int32)), .val (.int st), .val (.int s2), .val (.int qf), .val (.int qt), .val (.ref o37), .val (.int ra1), .val (.int ra2)] [(.int re1), (.int ra1)])) st45 ?_
      refine Go.to (g' := (mkF m 160 #[.val (.int p0), .val (.int p1), .val (.int p2), .val (.int p3), .val (.int p4), .val (.int p5), .val (.int (1 : Int32)), .val (.int (1 : Int32)), .val (.int st), .val (.int s2), .val (.int qf), .val (.int qt), .val (.ref o37), .val (.int ra1), .val (.int ra2)] [])) (fun t k => XS.icmpNo X45.here hx rfl (hb hby at_157) rfl (teq (own_rr hra1 hre1 own_i1)).2 k) ?_
      refine Go.to (g' := (mkF m 162 #[.val (.int p0), .val (.int p1), .val (.int p2), .val (.int p3), .val (.int p4), .val (.int p5), .val (.int (1 : Int32)), .val (.int (1 : Int32)), .val (.int st), .val (.int s2), .val (.int qf), .val (.int qt), .val (.ref o37), .val (.int ra1), .val (.int ra2)] [(.int ra2)])) (fun t k => XS.iload X45.here hx rfl (hb hby at_160) rfl k) ?_
      refine Go.to (g' := (mkF m 164 #[.val (.int p0), .val (.int p1), .val (.int p2), .val (.int p3), .val (.int p4), .val (.int p5), .val (.int (1 : Int32)), .val (.int (1 : Int32)), .val (.int st), .val (.int s2), .val (.int qf), .val (.int qt), .val (.ref o37), .val (.int ra1), .val (.int ra2)] [(.int (1 : Int32)), (.int ra2)])) (fun t k => XS.iload X45.here hx rfl (hb hby at_162) rfl k) ?_
      refine Go.to (g' := (mkF m 166 #[.val (.int p0), .val (.int p1), .val (.int p2), .val (.int p3), .val (.int p4), .val (.int p5), .val (.int (1 : Int32)), .val (.int (1 : Int32)), .val (.int st), .val (.int s2), .val (.int qf), .val (.int qt), .val (.ref o37), .val (.int ra1), .val (.int ra2)] [(.int (1 : Int32)), (.int (1 : Int32)), (.int ra2)])) (fun t k => XS.iload X45.here hx rfl (hb hby at_164) rfl k) ?_
      refine Go.to (g' := (mkF m 168 #[.val (.int p0), .val (.int p1), .val (.int p2), .val (.int p3), .val (.int p4), .val (.int p5), .val (.int (1 : Int32)), .val (.int (1 : Int32)), .val (.int st), .val (.int s2), .val (.int qf), .val (.int qt), .val (.ref o37), .val (.int ra1), .val (.int ra2)] [(.int st), (.int (1 : Int32)), (.int (1 : Int32)), (.int ra2)])) (fun t k => XS.iload X45.here hx rfl (hb hby at_166) rfl k) ?_
      refine Go.to (g' := (mkF m 170 #[.val (.int p0), .val (.int p1), .val (.int p2), .val (.int p3), .val (.int p4), .val (.int p5), .val (.int (1 : Int32)), .val (.int (1 : Int32)), .val (.int st), .val (.int s2), .val (.int qf), .val (.int qt), .val (.ref o37), .val (.int ra1), .val (.int ra2)] [(.int s2), (.int st), (.int (1 : Int32)), (.int (1 : Int32)), (.int ra2)])) (fun t k => XS.iload X45.here hx rfl (hb hby at_168) rfl k) ?_
      refine Go.to (g' := (mkF m 171 #[.val (.int p0), .val (.int p1), .val (.int p2), .val (.int p3), .val (.int p4), .val (.int p5), .val (.int (1 : Int32)), .val (.int (1 : Int32)), .val (.int st), .val (.int s2), .val (.int qf), .val (.int qt), .val (.ref o37), .val (.int ra1), .val (.int ra2)] [(.int p2), (.int s2), (.int st), (.int (1 : Int32)), (.int (1 : Int32)), (.int ra2)])) (fun t k => XS.iloadN X45.here hx rfl (hb hby at_170) rfl k) ?_
      refine Go.to (g' := (mkF m 172 #[.val (.int p0), .val (.int p1), .val (.int p2), .val (.int p3), .val (.int p4), .val (.int p5), .val (.int (1 : Int32)), .val (.int (1 : Int32)), .val (.int st), .val (.int s2), .val (.int qf), .val (.int qt), .val (.ref o37), .val (.int ra1), .val (.int ra2)] [(.int p3), (.int p2), (.int s2), (.int st), (.int (1 : Int32)), (.int (1 : Int32)), (.int ra2)])) (fun t k => XS.iloadN X45.here hx rfl (hb hby at_171) rfl k) ?_
      refine Go.to (g' := (mkF m 174 #[.val (.int p0), .val (.int p1), .val (.int p2), .val (.int p3), .val (.int p4), .val (.int p5), .val (.int (1 : Int32)), .val (.int (1 : Int32)), .val (.int st), .val (.int s2), .val (.int qf), .val (.int qt), .val (.ref o37), .val (.int ra1), .val (.int ra2)] [(.int qf), (.int p3), (.int p2), (.int s2), (.int st), (.int (1 : Int32)), (.int (1 : Int32)), (.int ra2)])) (fun t k => XS.iload X45.here hx rfl (hb hby at_172) rfl k) ?_
      refine Go.to (g' := (mkF m 176 #[.val (.int p0), .val (.int p1), .val (.int p2), .val (.int p3), .val (.int p4), .val (.int p5), .val (.int (1 : Int32)), .val (.int (1 : Int32)), .val (.int st), .val (.int s2), .val (.int qf), .val (.int qt), .val (.ref o37), .val (.int ra1), .val (.int ra2)] [(.int qt), (.int qf), (.int p3), (.int p2), (.int s2), (.int st), (.int (1 : Int32)), (.int (1 : Int32)), (.int ra2)])) (fun t k => XS.iload X45.here hx rfl (hb hby at_174) rfl k) ?_
      obtain ⟨re2, hre2⟩ : ∃ r : Int32, ((own_ex (1 : Int32) (1 : Int32) st s2 p2 p3 qf qt) ∧ r = (1 : Int32)) ∨ (¬ (own_ex (1 : Int32) (1 : Int32) st s2 p2 p3 qf qt) ∧ r = (0 : Int32)) := (Classical.em (own_ex (1 : Int32) (1 : Int32) st s2 p2 p3 qf qt)).elim (fun q => ⟨1, Or.inl ⟨q, rfl⟩⟩) (fun q => ⟨0, Or.inr ⟨q, rfl⟩⟩)
      obtain ⟨v46, _, ⟨T46, L46, k46, n46⟩, -, X46, ⟨Lc46, hQ46, l46, y46, z46⟩, st46⟩ := Jvm.LawKit.callS X45 hx (y := (⟨"com/example/skuld/skuld/analysis/DistancesCurrentPinLaw", "expect", "(ZZIIIIII)Z"⟩ : MethodName)) hown (mvT hZ (hw _ (List.mem_of_getElem? (i := 21) rfl))) (mvT hZ (hw _ (List.mem_of_getElem? (i := 22) rfl))) (mvT hZ (hw _ (List.mem_of_getElem? (i := 23) rfl))) (mvT hZ (hw _ (List.mem_of_getElem? (i := 24) rfl))) (by decide) (backOf (W := 1) (rm4 l Z aw hw [] (1 : Int32) (1 : Int32) st s2 p2 p3 qf qt re2 h41 n0 Z41 hre2) hZ (hw _ (List.mem_of_getElem? (i := 24) rfl)) (hw _ (List.mem_of_getElem? (i := 23) rfl)) (by decide) (by decide)) (g := (mkF m 176 #[.val (.int p0), .val (.int p1), .val (.int p2), .val (.int p3), .val (.int p4), .val (.int p5), .val (.int (1 : Int32)), .val (.int (1 : Int32)), .val (.int st), .val (.int s2), .val (.int qf), .val (.int qt), .val (.ref o37), .val (.int ra1), .val (.int ra2)] [(.int qt), (.int qf), (.int p3), (.int p2), (.int s2), (.int st), (.int (1 : Int32)), (.int (1 : Int32)), (.int ra2)])) rfl (by rw [hml]; rfl) (argsL := [(.int (1 : Int32)), (.int (1 : Int32)), (.int st), (.int s2), (.int p2), (.int p3), (.int qf), (.int qt)]) (rest := [(.int ra2)]) (lenOf pd_28ZZIIIIII29Z rfl) rfl (by show 2 * 0 + _ ≤ _; exact Nat.le_of_eq rfl) (hb hby at_176) (fun _ _ => ⟨rfl, e45, (by decide : 7 + 0 ≤ _), (by decide : 6147 + 0 ≤ _)⟩)
      dsimp only [Pt.U, Pt.locs, Pt.cells, Pt.slots] at X46 l46 y46 z46 st46 hQ46
      subst l46 y46 z46
      obtain ⟨rfl, N46q, e46⟩ := hQ46
      have N46 := Fr.app N45 N46q
      refine Go.to (g' := (mkF m 179 #[.val (.int p0), .val (.int p1), .val (.int p2), .val (.int p3), .val (.int p4), .val (.int p5), .val (.int (1 : Int32)), .val (.int (1 : Int32)), .val (.int st), .val (.int s2), .val (.int qf), .val (.int qt), .val (.ref o37), .val (.int ra1), .val (.int ra2)] [(.int re2), (.int ra2)])) st46 ?_
      refine Go.to (g' := (mkF m 182 #[.val (.int p0), .val (.int p1), .val (.int p2), .val (.int p3), .val (.int p4), .val (.int p5), .val (.int (1 : Int32)), .val (.int (1 : Int32)), .val (.int st), .val (.int s2), .val (.int qf), .val (.int qt), .val (.ref o37), .val (.int ra1), .val (.int ra2)] [])) (fun t k => XS.icmpNo X46.here hx rfl (hb hby at_179) rfl (teq (own_rr hra2 hre2 own_i1)).2 k) ?_
      refine Go.to (g' := (mkF m 183 #[.val (.int p0), .val (.int p1), .val (.int p2), .val (.int p3), .val (.int p4), .val (.int p5), .val (.int (1 : Int32)), .val (.int (1 : Int32)), .val (.int st), .val (.int s2), .val (.int qf), .val (.int qt), .val (.ref o37), .val (.int ra1), .val (.int ra2)] [(.int (1 : Int32))])) (fun t k => XS.iconst X46.here hx rfl (hb hby at_182) k) ?_
      refine Go.to (g' := (mkF m 187 #[.val (.int p0), .val (.int p1), .val (.int p2), .val (.int p3), .val (.int p4), .val (.int p5), .val (.int (1 : Int32)), .val (.int (1 : Int32)), .val (.int st), .val (.int s2), .val (.int qf), .val (.int qt), .val (.ref o37), .val (.int ra1), .val (.int ra2)] [(.int (1 : Int32))])) (fun t k => XS.goto X46.here hx rfl (pc0 := 183) (pc' := 187) rfl (hb hby at_183) (by decide) (by decide) k) ?_
      exact Go.retN X46 hx (t := .boolean) Bd.returns Bd.notSynchronized (by simp) (hb hby at_187) (by decide) (by decide) e46 ⟨rfl, N46⟩

set_option maxRecDepth 65536 in
set_option maxHeartbeats 40000000 in
theorem comes_1 {Post : Tables → Env → Array Value → State → Outcome → State → Prop} (hpost : ∀ tb e args s v u, (limb_1_1.after args s (.returned v) u = true ∧ limb_1_2.after args s (.returned v) u = true ∧ True) → FrameEnd s (.returned v) u (Jvm.fieldLocs frame_1_writes args s ++ Jvm.arrayLocs frame_1_arrays args s ++ Jvm.staticLocs frame_1_statics s) 24 12416 → Post tb e args s (.returned v) u) :
    ArmFor flags0 classFile x code maxLocals ret World_1 tables_1 room_1 Calls_1 rest_1 Pre_1 Post := by
  intro l hfl _ _ p e ha hc hk s m args below hf hA hF happ hP
  obtain ⟨hcalls, hrest, hpre⟩ := hP
  obtain ⟨-, -, -, hnamed, -, -, -, hat⟩ := (Spec.applies_iff hf).mp happ
  obtain ⟨hg, hn⟩ := and_e (Cond.before_iff.mp (show (Jvm.Cond.and given_1 narrow_1).before args s = true from hpre))
  obtain ⟨ga0, gb0⟩ := and_e hg
  obtain ⟨ga1, gb1⟩ := and_e gb0
  obtain ⟨ga2, gb2⟩ := and_e gb1
  obtain ⟨ga3, gb3⟩ := and_e gb2
  obtain ⟨ga4, gb4⟩ := and_e gb3
  obtain ⟨ga5, gb5⟩ := and_e gb4
  obtain ⟨w0, w1, w2, w3, w4, w5, rfl⟩ : ∃ w0 w1 w2 w3 w4 w5 : Value, args = #[w0, w1, w2, w3, w4, w5] := by
    have hs : args.size = 6 := by simpa [Cond.value, given_1] using ga0
    obtain ⟨L⟩ := args
    match L, hs with
    | [w0, w1, w2, w3, w4, w5], _ => exact ⟨w0, w1, w2, w3, w4, w5, rfl⟩
  have hw := fun d (hd : d ∈ tables_1) => atoms_spec (ws := Jvm.Cond.code x code maxLocals ret :: tables_1) hat d (List.mem_cons_of_mem _ hd)
  obtain ⟨i0, ei0⟩ := is_v ga1
  obtain rfl : w0 = (.int i0) := Option.some.inj ei0
  obtain ⟨i1, ei1⟩ := is_v ga2
  obtain rfl : w1 = (.int i1) := Option.some.inj ei1
  obtain ⟨i2, ei2⟩ := is_v ga3
  obtain rfl : w2 = (.int i2) := Option.some.inj ei2
  obtain ⟨i3, ei3⟩ := is_v ga4
  obtain rfl : w3 = (.int i3) := Option.some.inj ei3
  obtain ⟨i4, ei4⟩ := is_v ga5
  obtain rfl : w4 = (.int i4) := Option.some.inj ei4
  obtain ⟨i5, ei5⟩ := is_v gb5
  obtain rfl : w5 = (.int i5) := Option.some.inj ei5
  obtain ⟨n, o, h1, h2, h3, _, L, rfl, ⟨rfl, N⟩, hq⟩ := rm0 l s _ hw tables_1 i0 i1 i2 i3 i4 i5 s.heap s.heap.size (Nat.le_refl _)  p e ha hc hk s m _ below hf ((Spec.applies_iff_loose hf).mp happ).1 ⟨rfl, State.Warmed39.refl s, rfl⟩ trivial
  refine ⟨n, _, h1, h2, h3, hpost _ _ _ _ _ _ ⟨Cond.after_iff.mpr rfl, Cond.after_iff.mpr (eq_i res_at (Term.int_eval (1)) rfl), trivial⟩ ⟨hq.1, hq.2.1, (hq.2.2.sift fun y hy => Or.inr (N y hy)).mono (by decide) (by decide)⟩⟩
theorem main_1_1 : Claimed_1_1 := comes_1 fun _ _ _ _ _ _ h hF => ⟨h.1, hF⟩
theorem main_1_2 : Claimed_1_2 := comes_1 fun _ _ _ _ _ _ h hF => ⟨h.2.1, hF⟩

end Jvm.Pilot.@@N@@
namespace Jvm.Pilot.@@N@@
open Jvm Jvm.ClassFile Sem Op Lib Jvm.Free Jvm.Stand Jvm.Pilot.@@N@@.Jvm.D
/-! MADE BY PROGRAM (witnessworld.py) out of the Statement's table words and the real class files: 12 classes; the members and pool entries that the words name. The judged class is class 1, her method 2. -/
namespace start1
open Jvm.ClassFile
def u (s : String) : CpInfo := .utf8 (stringToUtf16 s)
/-- a pool by its gaps: so many unusable entries, then the entry; so many at the end -/
def gap : Nat → List CpInfo → List CpInfo
  | 0, r => r
  | n + 1, r => .unusable :: gap n r
def poolList (es : List (Nat × CpInfo)) (last : Nat) : List CpInfo := es.foldr (fun e r => gap e.1 (e.2 :: r)) (gap last [])
def pool (es : List (Nat × CpInfo)) (last : Nat) : Array CpInfo := ⟨poolList es last⟩
def fileOf (pool : Array CpInfo) (this : Nat) (attrs : Array Attribute := #[]) (ms : Array MethodInfo := #[]) (fl : Nat := 33) (sup : Nat := 0) (ifs : Array Nat := #[]) (fds : Array FieldInfo := #[]) : ClassFile where
  minorVersion := 0
  majorVersion := 65
  constantPool := pool
  accessFlags := fl
  thisClass := this
  superClass := sup
  interfaces := ifs
  fields := fds
  methods := ms
  attributes := attrs
def plain (name : String) (sup : Option ClassId) : Class where
  name := name
  kind := .ordinary
  loader := none
  accessFlags := 33
  super := sup
  interfaces := #[]
  cf := none
  fields := #[]
  methods := #[]
  instanceTypes := #[]
  staticTypes := #[]
  resolved := #[]
  callSites := []
  init := .initialized
  statics := none
  mirror := none

def pool0 : Array CpInfo := pool [(5, u "<init>"), (0, u "()V"), (1, .class_ 10), (1, u "java/lang/Object")] 113

def k0c0 : Code := { maxStack := 0, maxLocals := 1, code := object_method_1_code, exceptionTable := #[], attributes := #[] }
def k0m0 : Method := { name := "<init>", desc := "()V", sig := { parameters := [], returnType := none }, accessFlags := 1, code := some k0c0 }
/-- java/lang/Object -/
def k0 : Class := { plain "java/lang/Object" none with
  accessFlags := 33
  interfaces := #[]
  cf := some (fileOf pool0 8 #[] #[{ accessFlags := 1, nameIndex := 5, descriptorIndex := 6, attributes := #[] }] 33 0 #[] #[])
  fields := #[]
  methods := #[k0m0]
  instanceTypes := #[]
  staticTypes := #[]
  resolved := Array.replicate 124 none
  statics := none }

def pool1 : Array CpInfo := pool [(2, .class_ 4), (1, u "java/lang/Object"), (0, u "<init>"), (0, u "()V"), (0, .class_ 8), (0, u "com/example/skuld/skuld/analysis/Distances"), (0, .methodref 7 10), (0, .nameAndType 5 11), (0, u "(Z)V"), (0, .methodref 7 13), (0, .nameAndType 14 15), (0, u "shorter"), (0, u "(IZII)Z"), (0, .methodref 7 17), (0, .nameAndType 18 19), (0, u "current"), (0, u "(III)Z"), (0, .methodref 21 22), (0, .class_ 23), (0, .nameAndType 24 25), (0, u "com/example/skuld/skuld/analysis/DistancesCurrentPinLaw"), (0, u "expect"), (0, u "(ZZIIIIII)Z"), (3, u "law"), (0, u "(IIIIII)Z")] 2

def k1m0 : Method := { name := "<init>", desc := "()V", sig := { parameters := [], returnType := none }, accessFlags := 1, code := none }
def k1c1 : Code := { maxStack := 2, maxLocals := 10, code := method_2_code, exceptionTable := #[], attributes := #[] }
def k1m1 : Method := { name := "expect", desc := "(ZZIIIIII)Z", sig := { parameters := [.boolean, .boolean, .int, .int, .int, .int, .int, .int], returnType := some .boolean }, accessFlags := 10, code := some k1c1 }
def k1c2 : Code := { maxStack := 9, maxLocals := 15, code := code, exceptionTable := #[], attributes := #[] }
def k1m2 : Method := { name := "law", desc := "(IIIIII)Z", sig := { parameters := [.int, .int, .int, .int, .int, .int], returnType := some .boolean }, accessFlags := 9, code := some k1c2 }
/-- com/example/skuld/skuld/analysis/DistancesCurrentPinLaw -/
def k1 : Class := { plain "com/example/skuld/skuld/analysis/DistancesCurrentPinLaw" (some 0) with
  accessFlags := 49
  interfaces := #[]
  cf := some (fileOf pool1 21 #[] #[{ accessFlags := 1, nameIndex := 5, descriptorIndex := 6, attributes := #[] }, { accessFlags := 10, nameIndex := 24, descriptorIndex := 25, attributes := #[] }, { accessFlags := 9, nameIndex := 29, descriptorIndex := 30, attributes := #[] }] 49 2 #[] #[])
  fields := #[]
  methods := #[k1m0, k1m1, k1m2]
  instanceTypes := #[]
  staticTypes := #[]
  resolved := Array.replicate 33 none
  statics := none }

def pool2 : Array CpInfo := pool [(1, .methodref 2 3), (0, .class_ 4), (0, .nameAndType 5 6), (0, u "java/lang/Object"), (0, u "<init>"), (0, u "()V"), (0, .fieldref 8 9), (0, .class_ 10), (0, .nameAndType 11 12), (0, u "com/example/skuld/skuld/analysis/Distances"), (0, u "firings"), (0, u "[I"), (0, .fieldref 8 14), (0, .nameAndType 15 12), (0, u "times"), (0, .fieldref 8 17), (0, .nameAndType 18 19), (0, u "kept"), (0, u "Z"), (0, .methodref 21 22), (0, .class_ 23), (0, .nameAndType 24 25), (0, u "java/lang/Math"), (0, u "max"), (0, u "(II)I"), (0, .methodref 27 28), (0, .class_ 29), (0, .nameAndType 30 31), (0, u "java/util/Arrays"), (0, u "copyOf"), (0, u "([II)[I"), (0, u "(Z)V"), (3, u "shorter"), (0, u "(IZII)Z"), (0, u "current"), (0, u "(III)Z")] 2

def k2c0 : Code := { maxStack := 2, maxLocals := 2, code := prog_6_method_1_code, exceptionTable := #[], attributes := #[] }
def k2m0 : Method := { name := "<init>", desc := "(Z)V", sig := { parameters := [.boolean], returnType := none }, accessFlags := 0, code := some k2c0 }
def k2c1 : Code := { maxStack := 5, maxLocals := 6, code := prog_6_method_2_code, exceptionTable := #[], attributes := #[] }
def k2m1 : Method := { name := "shorter", desc := "(IZII)Z", sig := { parameters := [.int, .boolean, .int, .int], returnType := some .boolean }, accessFlags := 0, code := some k2c1 }
def k2c2 : Code := { maxStack := 2, maxLocals := 4, code := prog_6_method_3_code, exceptionTable := #[], attributes := #[] }
def k2m2 : Method := { name := "current", desc := "(III)Z", sig := { parameters := [.int, .int, .int], returnType := some .boolean }, accessFlags := 0, code := some k2c2 }
/-- com/example/skuld/skuld/analysis/Distances -/
def k2 : Class := { plain "com/example/skuld/skuld/analysis/Distances" (some 0) with
  accessFlags := 48
  interfaces := #[]
  cf := some (fileOf pool2 8 #[] #[{ accessFlags := 0, nameIndex := 5, descriptorIndex := 32, attributes := #[] }, { accessFlags := 0, nameIndex := 36, descriptorIndex := 37, attributes := #[] }, { accessFlags := 0, nameIndex := 38, descriptorIndex := 39, attributes := #[] }] 48 2 #[] #[{ accessFlags := 18, nameIndex := 18, descriptorIndex := 19, attributes := #[] }, { accessFlags := 2, nameIndex := 11, descriptorIndex := 12, attributes := #[] }, { accessFlags := 2, nameIndex := 15, descriptorIndex := 12, attributes := #[] }])
  fields := #[{ name := "kept", type := .boolean, accessFlags := 18, slot := 0, constantValue := 0 }, { name := "firings", type := (.array .int), accessFlags := 2, slot := 1, constantValue := 0 }, { name := "times", type := (.array .int), accessFlags := 2, slot := 2, constantValue := 0 }]
  methods := #[k2m0, k2m1, k2m2]
  instanceTypes := #[.boolean, (.array .int), (.array .int)]
  staticTypes := #[]
  resolved := Array.replicate 42 none
  statics := none }

def pool3 : Array CpInfo := pool [(1, .class_ 2), (0, u "java/lang/Math"), (1, .class_ 6), (1, u "java/lang/Object"), (0, u "<init>"), (0, u "()V"), (89, .class_ 100), (1, u "java/lang/Math$RandomNumberGeneratorHolder"), (71, u "negativeZeroFloatBits"), (0, u "J"), (2, u "negativeZeroDoubleBits"), (21, u "max"), (2, u "min"), (43, u "$assertionsDisabled"), (0, u "Z"), (88, u "(II)I"), (2, u "twoToTheDoubleScaleDown"), (0, u "D"), (4, u "twoToTheDoubleScaleUp"), (9, u "E"), (3, u "PI"), (2, u "TAU"), (2, u "DEGREES_TO_RADIANS"), (0, u "RADIANS_TO_DEGREES")] 94

def k3m0 : Method := { name := "<init>", desc := "()V", sig := { parameters := [], returnType := none }, accessFlags := 2, code := none }
def k3c1 : Code := { maxStack := 2, maxLocals := 2, code := jdk_29_method_65_code, exceptionTable := #[], attributes := #[] }
def k3m1 : Method := { name := "max", desc := "(II)I", sig := { parameters := [.int, .int], returnType := some .int }, accessFlags := 9, code := some k3c1 }
def k3c2 : Code := { maxStack := 2, maxLocals := 2, code := jdk_29_method_69_code, exceptionTable := #[], attributes := #[] }
def k3m2 : Method := { name := "min", desc := "(II)I", sig := { parameters := [.int, .int], returnType := some .int }, accessFlags := 9, code := some k3c2 }
/-- java/lang/Math -/
def k3 : Class := { plain "java/lang/Math" (some 0) with
  accessFlags := 49
  interfaces := #[]
  cf := some (fileOf pool3 1 #[.nestMembers #[98]] #[{ accessFlags := 2, nameIndex := 7, descriptorIndex := 8, attributes := #[] }, { accessFlags := 9, nameIndex := 198, descriptorIndex := 335, attributes := #[] }, { accessFlags := 9, nameIndex := 201, descriptorIndex := 335, attributes := #[] }] 49 4 #[] #[{ accessFlags := 25, nameIndex := 354, descriptorIndex := 339, attributes := #[] }, { accessFlags := 25, nameIndex := 358, descriptorIndex := 339, attributes := #[] }, { accessFlags := 25, nameIndex := 361, descriptorIndex := 339, attributes := #[] }, { accessFlags := 26, nameIndex := 364, descriptorIndex := 339, attributes := #[] }, { accessFlags := 26, nameIndex := 365, descriptorIndex := 339, attributes := #[] }, { accessFlags := 26, nameIndex := 172, descriptorIndex := 173, attributes := #[] }, { accessFlags := 26, nameIndex := 176, descriptorIndex := 173, attributes := #[] }, { accessFlags := 8, nameIndex := 344, descriptorIndex := 339, attributes := #[] }, { accessFlags := 8, nameIndex := 338, descriptorIndex := 339, attributes := #[] }, { accessFlags := 4120, nameIndex := 245, descriptorIndex := 246, attributes := #[] }])
  fields := #[{ name := "E", type := .double, accessFlags := 25, slot := 0, constantValue := 0 }, { name := "PI", type := .double, accessFlags := 25, slot := 1, constantValue := 0 }, { name := "TAU", type := .double, accessFlags := 25, slot := 2, constantValue := 0 }, { name := "DEGREES_TO_RADIANS", type := .double, accessFlags := 26, slot := 3, constantValue := 0 }, { name := "RADIANS_TO_DEGREES", type := .double, accessFlags := 26, slot := 4, constantValue := 0 }, { name := "negativeZeroFloatBits", type := .long, accessFlags := 26, slot := 5, constantValue := 0 }, { name := "negativeZeroDoubleBits", type := .long, accessFlags := 26, slot := 6, constantValue := 0 }, { name := "twoToTheDoubleScaleUp", type := .double, accessFlags := 8, slot := 7, constantValue := 0 }, { name := "twoToTheDoubleScaleDown", type := .double, accessFlags := 8, slot := 8, constantValue := 0 }, { name := "$assertionsDisabled", type := .boolean, accessFlags := 4120, slot := 9, constantValue := 0 }]
  methods := #[k3m0, k3m1, k3m2]
  instanceTypes := #[]
  staticTypes := #[.double, .double, .double, .double, .double, .long, .long, .double, .double, .boolean]
  resolved := Array.replicate 460 none
  statics := none }

def pool4 : Array CpInfo := pool [(2, .class_ 4), (1, u "java/lang/Object"), (0, u "<init>"), (0, u "()V"), (7, .class_ 16), (1, u "java/util/Arrays"), (57, .class_ 76), (1, u "java/util/Arrays$NaturalOrder"), (36, .class_ 115), (1, u "java/util/Arrays$LegacyMergeSort"), (1, u "Z"), (32, .methodref 151 152), (0, .class_ 153), (0, .nameAndType 154 155), (0, u "java/lang/System"), (0, u "arraycopy"), (0, u "(Ljava/lang/Object;ILjava/lang/Object;II)V"), (146, u "copyOf"), (1, .methodref 305 306), (0, .class_ 307), (0, .nameAndType 308 309), (0, u "java/lang/Math"), (0, u "min"), (0, u "(II)I"), (65, .class_ 376), (0, u "java/util/Arrays$ArrayList"), (68, u "$assertionsDisabled"), (269, u "MIN_ARRAY_SORT_GRAN"), (0, u "I"), (2, u "INSERTIONSORT_THRESHOLD"), (151, u "([II)[I"), (103, .class_ 976), (0, u "java/util/Arrays$ArrayItr")] 52

def k4m0 : Method := { name := "<init>", desc := "()V", sig := { parameters := [], returnType := none }, accessFlags := 2, code := none }
def k4c1 : Code := { maxStack := 6, maxLocals := 3, code := jdk_65_method_123_code, exceptionTable := #[], attributes := #[] }
def k4m1 : Method := { name := "copyOf", desc := "([II)[I", sig := { parameters := [(.array .int), .int], returnType := some (.array .int) }, accessFlags := 9, code := some k4c1 }
/-- java/util/Arrays -/
def k4 : Class := { plain "java/util/Arrays" (some 0) with
  accessFlags := 49
  interfaces := #[]
  cf := some (fileOf pool4 14 #[.nestMembers #[975, 375, 113, 74]] #[{ accessFlags := 2, nameIndex := 5, descriptorIndex := 6, attributes := #[] }, { accessFlags := 9, nameIndex := 302, descriptorIndex := 871, attributes := #[] }] 49 2 #[] #[{ accessFlags := 26, nameIndex := 715, descriptorIndex := 716, attributes := #[] }, { accessFlags := 26, nameIndex := 719, descriptorIndex := 716, attributes := #[] }, { accessFlags := 4120, nameIndex := 445, descriptorIndex := 117, attributes := #[] }])
  fields := #[{ name := "MIN_ARRAY_SORT_GRAN", type := .int, accessFlags := 26, slot := 0, constantValue := 0 }, { name := "INSERTIONSORT_THRESHOLD", type := .int, accessFlags := 26, slot := 1, constantValue := 0 }, { name := "$assertionsDisabled", type := .boolean, accessFlags := 4120, slot := 2, constantValue := 0 }]
  methods := #[k4m0, k4m1]
  instanceTypes := #[]
  staticTypes := #[.int, .int, .boolean]
  resolved := Array.replicate 1029 none
  statics := none }

def pool5 : Array CpInfo := pool [(2, .class_ 4), (1, u "java/lang/Object"), (0, u "<init>"), (0, u "()V"), (1, .class_ 10), (1, u "java/lang/System"), (0, u "allowSecurityManager"), (0, u "I"), (16, u "cons"), (0, u "Ljava/io/Console;"), (77, .class_ 110), (1, u "java/lang/System$CallersHolder"), (43, u "initialErrStream"), (0, u "Ljava/io/PrintStream;"), (19, u "security"), (0, u "Ljava/lang/SecurityManager;"), (31, .class_ 209), (0, u "java/lang/System$1"), (7, u "props"), (0, u "Ljava/util/Properties;"), (2, u "lineSeparator"), (0, u "Ljava/lang/String;"), (96, .class_ 321), (1, u "java/lang/System$LoggerFinder"), (5, .class_ 328), (0, u "java/lang/System$Logger"), (67, u "err"), (2, u "out"), (91, u "notSupportedJnuEncoding"), (15, u "in"), (17, u "initialIn"), (0, u "Ljava/io/InputStream;"), (35, u "bootLayer"), (0, u "Ljava/lang/ModuleLayer;"), (99, .class_ 664), (0, u "java/lang/System$2"), (9, u "NEVER"), (2, u "MAYBE"), (49, u "arraycopy"), (0, u "(Ljava/lang/Object;ILjava/lang/Object;II)V"), (72, .class_ 802), (0, u "java/lang/System$Logger$Level")] 31

def k5m0 : Method := { name := "<init>", desc := "()V", sig := { parameters := [], returnType := none }, accessFlags := 2, code := none }
def k5m1 : Method := { name := "arraycopy", desc := "(Ljava/lang/Object;ILjava/lang/Object;II)V", sig := { parameters := [(.object "java/lang/Object"), .int, (.object "java/lang/Object"), .int, .int], returnType := none }, accessFlags := 265, code := none }
/-- java/lang/System -/
def k5 : Class := { plain "java/lang/System" (some 0) with
  accessFlags := 49
  interfaces := #[]
  cf := some (fileOf pool5 8 #[.nestMembers #[319, 327, 801, 108, 663, 208]] #[{ accessFlags := 2, nameIndex := 5, descriptorIndex := 6, attributes := #[] }, { accessFlags := 265, nameIndex := 727, descriptorIndex := 728, attributes := #[] }] 49 2 #[] #[{ accessFlags := 25, nameIndex := 507, descriptorIndex := 526, attributes := #[] }, { accessFlags := 25, nameIndex := 399, descriptorIndex := 155, attributes := #[] }, { accessFlags := 25, nameIndex := 396, descriptorIndex := 155, attributes := #[] }, { accessFlags := 10, nameIndex := 525, descriptorIndex := 526, attributes := #[] }, { accessFlags := 26, nameIndex := 674, descriptorIndex := 12, attributes := #[] }, { accessFlags := 26, nameIndex := 677, descriptorIndex := 12, attributes := #[] }, { accessFlags := 10, nameIndex := 11, descriptorIndex := 12, attributes := #[] }, { accessFlags := 74, nameIndex := 175, descriptorIndex := 176, attributes := #[] }, { accessFlags := 10, nameIndex := 491, descriptorIndex := 222, attributes := #[] }, { accessFlags := 74, nameIndex := 29, descriptorIndex := 30, attributes := #[] }, { accessFlags := 74, nameIndex := 154, descriptorIndex := 155, attributes := #[] }, { accessFlags := 10, nameIndex := 217, descriptorIndex := 218, attributes := #[] }, { accessFlags := 10, nameIndex := 221, descriptorIndex := 222, attributes := #[] }, { accessFlags := 8, nameIndex := 562, descriptorIndex := 563, attributes := #[] }])
  fields := #[{ name := "in", type := (.object "java/io/InputStream"), accessFlags := 25, slot := 0, constantValue := 0 }, { name := "out", type := (.object "java/io/PrintStream"), accessFlags := 25, slot := 1, constantValue := 0 }, { name := "err", type := (.object "java/io/PrintStream"), accessFlags := 25, slot := 2, constantValue := 0 }, { name := "initialIn", type := (.object "java/io/InputStream"), accessFlags := 10, slot := 3, constantValue := 0 }, { name := "NEVER", type := .int, accessFlags := 26, slot := 4, constantValue := 0 }, { name := "MAYBE", type := .int, accessFlags := 26, slot := 5, constantValue := 0 }, { name := "allowSecurityManager", type := .int, accessFlags := 10, slot := 6, constantValue := 0 }, { name := "security", type := (.object "java/lang/SecurityManager"), accessFlags := 74, slot := 7, constantValue := 0 }, { name := "notSupportedJnuEncoding", type := (.object "java/lang/String"), accessFlags := 10, slot := 8, constantValue := 0 }, { name := "cons", type := (.object "java/io/Console"), accessFlags := 74, slot := 9, constantValue := 0 }, { name := "initialErrStream", type := (.object "java/io/PrintStream"), accessFlags := 74, slot := 10, constantValue := 0 }, { name := "props", type := (.object "java/util/Properties"), accessFlags := 10, slot := 11, constantValue := 0 }, { name := "lineSeparator", type := (.object "java/lang/String"), accessFlags := 10, slot := 12, constantValue := 0 }, { name := "bootLayer", type := (.object "java/lang/ModuleLayer"), accessFlags := 8, slot := 13, constantValue := 0 }]
  methods := #[k5m0, k5m1]
  instanceTypes := #[]
  staticTypes := #[(.object "java/io/InputStream"), (.object "java/io/PrintStream"), (.object "java/io/PrintStream"), (.object "java/io/InputStream"), .int, .int, .int, (.object "java/lang/SecurityManager"), (.object "java/lang/String"), (.object "java/io/Console"), (.object "java/io/PrintStream"), (.object "java/util/Properties"), (.object "java/lang/String"), (.object "java/lang/ModuleLayer")]
  resolved := Array.replicate 834 none
  statics := none }

def pool6 : Array CpInfo := pool [(1, u "java/lang/Cloneable"), (0, .class_ 1), (0, u "java/lang/Object"), (0, .class_ 3)] 3

/-- java/lang/Cloneable -/
def k6 : Class := { plain "java/lang/Cloneable" (some 0) with
  accessFlags := 1537
  interfaces := #[]
  cf := some (fileOf pool6 2 #[] #[] 1537 4 #[] #[])
  fields := #[]
  methods := #[]
  instanceTypes := #[]
  staticTypes := #[]
  resolved := Array.replicate 8 none
  statics := none }

def pool7 : Array CpInfo := pool [(1, u "java/io/Serializable"), (0, .class_ 1), (0, u "java/lang/Object"), (0, .class_ 3)] 3

/-- java/io/Serializable -/
def k7 : Class := { plain "java/io/Serializable" (some 0) with
  accessFlags := 1537
  interfaces := #[]
  cf := some (fileOf pool7 2 #[] #[] 1537 4 #[] #[])
  fields := #[]
  methods := #[]
  instanceTypes := #[]
  staticTypes := #[]
  resolved := Array.replicate 8 none
  statics := none }

/-- the primitive byte -/
def k8 : Class := { plain "byte" none with kind := .primitive 'B', accessFlags := 0x411 }
/-- [B -/
def k9 : Class := { plain "[B" (some 0) with kind := .array 8 .byte, interfaces := #[6, 7], accessFlags := 1041 }

/-- the primitive int -/
def k10 : Class := { plain "int" none with kind := .primitive 'I', accessFlags := 0x411 }
/-- [I -/
def k11 : Class := { plain "[I" (some 0) with kind := .array 10 .int, interfaces := #[6, 7], accessFlags := 1041 }

def heap : Heap := #[]
def classes : Array Class := #[k0, k1, k2, k3, k4, k5, k6, k7, k8, k9, k10, k11]
def interned : List (Array UInt16 × Addr) := []
def slotsUsed : Nat := 0
def theMethod : MethodId := ⟨1, 2⟩
def args0 : Array Value := #[.int 9, .int 8, .int 5, .int 2, .int 3, .int 4]
def aboutOver (below : List Frame) : State where
  vm := { classes := classes, interned := interned.toArray }
  heap := heap
  slotsUsed := slotsUsed
  threads := #[{ frames := .invoking theMethod args0 :: below }]
def below0 : List Frame := [.native { method := ⟨0, 0⟩, args := #[] }]
def about1 : State := aboutOver below0
def p0 : Program := .bare "" "" ""
def e0 : Env := launch0.env 0 0 0
theorem w_frames : about1.frames = Frame.invoking theMethod args0 :: below0 := rfl
set_option maxRecDepth 65536 in
theorem w_args : argsFit about1.vm theMethod args0 = true := by decide +kernel
set_option maxRecDepth 65536 in
theorem w_heap : heapFits about1 = true := by decide +kernel
set_option maxRecDepth 65536 in
theorem w_runnable : about1.curStatus? = some .runnable := by decide +kernel
set_option maxRecDepth 65536 in
theorem w_alone : about1.alone = true := by decide +kernel
set_option maxRecDepth 65536 in
theorem w_named : about1.methodNamed? x = some theMethod := by decide +kernel
set_option maxRecDepth 65536 in
theorem w_hears : about1.hears theMethod below0 = true := by decide +kernel
set_option maxRecDepth 65536 in
theorem w_ripe : about1.ripe theMethod args0 below0 = true := by decide +kernel
theorem w_running : about1.status = .running := rfl
set_option maxRecDepth 65536 in
theorem w_room : about1.hasRoom e0.platform room_1 = true :=
  launch0.hasRoom_least _ room_1 (by decide +kernel) (by decide +kernel) (by decide +kernel) (by decide +kernel) (by decide +kernel) (by decide +kernel)
theorem allAtoms_all (ts : List Jvm.Cond) (a : Array Jvm.Value) (st : Jvm.State) : (allAtoms ts).before a st = ts.all (fun c => c.before a st) := by
  induction ts with
  | nil => rfl
  | cons c t ih =>
    show (Jvm.Cond.and c (allAtoms t)).before a st = _
    rw [Jvm.Cond.before_and, ih, List.all_cons]
def words1 : List Jvm.Cond := Jvm.Cond.code x code maxLocals ret :: tables_1
/-- a 'code' word, met by the world's own term for the bytes: nothing is compared byte by byte -/
theorem code_word {y : MethodName} {bytes : ByteArray} {mx : Nat} {rt : Option FieldType} {a : Array Value} {s : State} {m : MethodId} {meth : Method} {c : Code} (h1 : s.methodNamed? y = some m) (h2 : s.vm.method? m = some meth) (h3 : meth.code = some c) (h4 : c.code = bytes)
    (h5 : (c.maxLocals == mx && c.exceptionTable.isEmpty && decide (c.maxStack ≤ mostOperands) && decide (meth.sig.returnType = rt) && !meth.locks && decide (parseMethodDescriptor y.desc = some meth.sig)) = true) : (Jvm.Cond.code y bytes mx rt).before a s = true := by
  simp only [Bool.and_eq_true, beq_iff_eq, Bool.not_eq_true', decide_eq_true_eq] at h5
  obtain ⟨⟨⟨⟨⟨g1, g2⟩, g3⟩, g4⟩, g5⟩, g6⟩ := h5
  simp [Cond.before, Cond.holds, Cond.value, h1, h2, h3, h4, g1, g2, g3, g4, g5, g6]
def isCode : Jvm.Cond → Bool
  | .code _ _ _ _ => true
  | _ => false
theorem all_split {L : List Jvm.Cond} {P : Jvm.Cond → Bool} (h1 : L.all (fun c => isCode c || P c) = true) (h2 : ∀ c ∈ L.filter isCode, P c = true) : L.all P = true := by
  refine List.all_eq_true.mpr fun c hc => ?_
  have h := List.all_eq_true.mp h1 c hc
  rcases Bool.eq_false_or_eq_true (isCode c) with hi | hi
  · exact h2 c (List.mem_filter.mpr ⟨hc, hi⟩)
  · simpa [hi] using h
set_option maxRecDepth 65536 in
theorem w_c0 : (Jvm.Cond.code x code maxLocals ret).before args0 about1 = true := code_word (m := ⟨1, 2⟩) (meth := k1m2) (c := k1c2) (by decide +kernel) rfl rfl rfl (by decide +kernel)
set_option maxRecDepth 65536 in
theorem w_c1 : (Jvm.Cond.code ({ cls := "com/example/skuld/skuld/analysis/Distances", name := "<init>", desc := "(Z)V" } : Jvm.MethodName) prog_6_method_1_code (2 : Nat) (Option.none : Option Jvm.ClassFile.FieldType)).before args0 about1 = true := code_word (m := ⟨2, 0⟩) (meth := k2m0) (c := k2c0) (by decide +kernel) rfl rfl rfl (by decide +kernel)
set_option maxRecDepth 65536 in
theorem w_c2 : (Jvm.Cond.code ({ cls := "java/lang/Object", name := "<init>", desc := "()V" } : Jvm.MethodName) object_method_1_code (1 : Nat) (Option.none : Option Jvm.ClassFile.FieldType)).before args0 about1 = true := code_word (m := ⟨0, 0⟩) (meth := k0m0) (c := k0c0) (by decide +kernel) rfl rfl rfl (by decide +kernel)
set_option maxRecDepth 65536 in
theorem w_c3 : (Jvm.Cond.code ({ cls := "com/example/skuld/skuld/analysis/Distances", name := "current", desc := "(III)Z" } : Jvm.MethodName) prog_6_method_3_code (4 : Nat) (Option.some Jvm.ClassFile.FieldType.boolean)).before args0 about1 = true := code_word (m := ⟨2, 2⟩) (meth := k2m2) (c := k2c2) (by decide +kernel) rfl rfl rfl (by decide +kernel)
set_option maxRecDepth 65536 in
theorem w_c4 : (Jvm.Cond.code ({ cls := "com/example/skuld/skuld/analysis/DistancesCurrentPinLaw", name := "expect", desc := "(ZZIIIIII)Z" } : Jvm.MethodName) method_2_code (10 : Nat) (Option.some Jvm.ClassFile.FieldType.boolean)).before args0 about1 = true := code_word (m := ⟨1, 1⟩) (meth := k1m1) (c := k1c1) (by decide +kernel) rfl rfl rfl (by decide +kernel)
set_option maxRecDepth 65536 in
theorem w_c5 : (Jvm.Cond.code ({ cls := "com/example/skuld/skuld/analysis/Distances", name := "shorter", desc := "(IZII)Z" } : Jvm.MethodName) prog_6_method_2_code (6 : Nat) (Option.some Jvm.ClassFile.FieldType.boolean)).before args0 about1 = true := code_word (m := ⟨2, 1⟩) (meth := k2m1) (c := k2c1) (by decide +kernel) rfl rfl rfl (by decide +kernel)
set_option maxRecDepth 65536 in
theorem w_c6 : (Jvm.Cond.code ({ cls := "java/lang/Math", name := "max", desc := "(II)I" } : Jvm.MethodName) jdk_29_method_65_code (2 : Nat) (Option.some Jvm.ClassFile.FieldType.int)).before args0 about1 = true := code_word (m := ⟨3, 1⟩) (meth := k3m1) (c := k3c1) (by decide +kernel) rfl rfl rfl (by decide +kernel)
set_option maxRecDepth 65536 in
theorem w_c7 : (Jvm.Cond.code ({ cls := "java/util/Arrays", name := "copyOf", desc := "([II)[I" } : Jvm.MethodName) jdk_65_method_123_code (3 : Nat) (Option.some (Jvm.ClassFile.FieldType.array Jvm.ClassFile.FieldType.int))).before args0 about1 = true := code_word (m := ⟨4, 1⟩) (meth := k4m1) (c := k4c1) (by decide +kernel) rfl rfl rfl (by decide +kernel)
set_option maxRecDepth 65536 in
theorem w_c8 : (Jvm.Cond.code ({ cls := "java/lang/Math", name := "min", desc := "(II)I" } : Jvm.MethodName) jdk_29_method_69_code (2 : Nat) (Option.some Jvm.ClassFile.FieldType.int)).before args0 about1 = true := code_word (m := ⟨3, 2⟩) (meth := k3m2) (c := k3c2) (by decide +kernel) rfl rfl rfl (by decide +kernel)
def codes1 : List Jvm.Cond := [Jvm.Cond.code x code maxLocals ret, Jvm.Cond.code ({ cls := "com/example/skuld/skuld/analysis/Distances", name := "<init>", desc := "(Z)V" } : Jvm.MethodName) prog_6_method_1_code (2 : Nat) (Option.none : Option Jvm.ClassFile.FieldType), Jvm.Cond.code ({ cls := "java/lang/Object", name := "<init>", desc := "()V" } : Jvm.MethodName) object_method_1_code (1 : Nat) (Option.none : Option Jvm.ClassFile.FieldType), Jvm.Cond.code ({ cls := "com/example/skuld/skuld/analysis/Distances", name := "current", desc := "(III)Z" } : Jvm.MethodName) prog_6_method_3_code (4 : Nat) (Option.some Jvm.ClassFile.FieldType.boolean), Jvm.Cond.code ({ cls := "com/example/skuld/skuld/analysis/DistancesCurrentPinLaw", name := "expect", desc := "(ZZIIIIII)Z" } : Jvm.MethodName) method_2_code (10 : Nat) (Option.some Jvm.ClassFile.FieldType.boolean), Jvm.Cond.code ({ cls := "com/example/skuld/skuld/analysis/Distances", name := "shorter", desc := "(IZII)Z" } : Jvm.MethodName) prog_6_method_2_code (6 : Nat) (Option.some Jvm.ClassFile.FieldType.boolean), Jvm.Cond.code ({ cls := "java/lang/Math", name := "max", desc := "(II)I" } : Jvm.MethodName) jdk_29_method_65_code (2 : Nat) (Option.some Jvm.ClassFile.FieldType.int), Jvm.Cond.code ({ cls := "java/util/Arrays", name := "copyOf", desc := "([II)[I" } : Jvm.MethodName) jdk_65_method_123_code (3 : Nat) (Option.some (Jvm.ClassFile.FieldType.array Jvm.ClassFile.FieldType.int)), Jvm.Cond.code ({ cls := "java/lang/Math", name := "min", desc := "(II)I" } : Jvm.MethodName) jdk_29_method_69_code (2 : Nat) (Option.some Jvm.ClassFile.FieldType.int)]
set_option maxRecDepth 65536 in
theorem codes_eq : words1.filter isCode = codes1 := rfl
theorem w_codes : ∀ c ∈ words1.filter isCode, c.before args0 about1 = true := by
  rw [codes_eq]
  intro c hc
  simp only [codes1, List.mem_cons, List.not_mem_nil, or_false] at hc
  rcases hc with rfl | rfl | rfl | rfl | rfl | rfl | rfl | rfl | rfl
  · exact w_c0
  · exact w_c1
  · exact w_c2
  · exact w_c3
  · exact w_c4
  · exact w_c5
  · exact w_c6
  · exact w_c7
  · exact w_c8
set_option maxRecDepth 65536 in
theorem w_t1 : (words1.take 24).all (fun c => isCode c || c.before args0 about1) = true := by decide +kernel
set_option maxRecDepth 65536 in
theorem w_t2 : (words1.drop 24).all (fun c => isCode c || c.before args0 about1) = true := by decide +kernel
theorem w_tables : (allAtoms (Jvm.Cond.code x code maxLocals ret :: tables_1)).before args0 about1 = true := by
  rw [allAtoms_all]
  show words1.all (fun c => c.before args0 about1) = true
  refine all_split ?_ w_codes
  rw [← List.take_append_drop 24 words1, List.all_append, w_t1, w_t2]
  rfl
set_option maxRecDepth 65536 in
theorem w_case : (Jvm.Cond.and given_1 narrow_1).before args0 about1 = true := by decide +kernel
theorem w_applies : (headSpec (Jvm.Cond.code x code maxLocals ret :: tables_1) room_1).applies x e0.platform about1 = true :=
  (Spec.applies_iff w_frames).mpr ⟨w_running, w_runnable, w_alone, w_named, w_hears, w_ripe, w_room, w_tables⟩
theorem atStart : AtStart classFile x code maxLocals ret World_1 tables_1 room_1 Calls_1 rest_1 Pre_1 launch0 p0 e0 about1 theMethod args0 below0 :=
  ⟨lists_1, trivial, launch0.admits_env _ _ _, launch0.least_env, fairChoices_fair.cas, fairChoices_fair.clock, w_frames, w_args, w_heap, w_applies, trivial, trivial, w_case⟩
end start1
theorem witness_1 : WitnessClaimed_1 := ⟨start1.p0, start1.e0, start1.about1, start1.theMethod, start1.args0, start1.below0, start1.atStart⟩
end Jvm.Pilot.@@N@@
