import JvmDerived
import JvmDerived.Pilot.@@N@@Statement
import JvmDerived.Pilot.@@N@@Code
set_option linter.unusedVariables false
set_option linter.unusedSimpArgs false
namespace Jvm.RoadKit
open Sem ClassFile Op Lib Jvm.Stand Jvm.Free Jvm.LawKit
section New
variable {p : Program} {l : Launch} {e : Env} {R : Room} {s : State} {m : MethodId} {args : Array Value} {below : List Frame} {meth : Method} {c : Code} {T : State} {locs : List Loc} {cells slots : Nat}
theorem retI (X : Stand p l e R s m args below meth c T locs cells slots) (hx : p.tables.exec = Jvm.exec) {pc : Nat} {Ls : Array Slot} {z : Int32} {rest : List Value} (hret : meth.sig.returnType = some .int) (hd : decode c.code pc = .ok (.ireturn, 1)) {fs : List Frame}
    (hl : ∀ (f : JFrame) (acts : List Action), f.method = m → f.locked = none → f.entered = [] → (doReturn e (T.setTop f) acts (some (.int z))).1 = T.setFrames fs) : Steps p.tables e below (T.setTop (mkF m pc Ls (.int z :: rest))) (T.setFrames fs) := by
  have hm' : T.vm.method? m = some meth := X.method'
  have hn : narrow .int (.int z) = .int z := rfl
  show Steps p.tables e below (T.setTop { method := m, pc := pc, locals := Ls, stack := _ :: rest, locked := none }) _
  jvm_step X.here [X.here.top, hx, hd, hm', hret, hn]
  first | (intro acts; rw [hl _ acts rfl rfl rfl]) | rw [hl _ _ rfl rfl rfl]
  exact Steps.refl _
end New
end Jvm.RoadKit
namespace Jvm.Pilot.@@N@@
open Jvm Jvm.ClassFile Sem Op Lib Jvm.Free Jvm.Stand Jvm.LawKit Jvm.RoadKit Bundle Jvm.Pilot.@@N@@.Jvm.D
section OwnGo
variable {p : Program} {l : Launch} {e : Env} {R : Room} {s : State} {m : MethodId} {args : Array Value} {below : List Frame} {meth : Method} {c : Code} {T T' : State} {locs : List Loc} {cells slots : Nat} {C S : Nat} {Q : Option Value → Heap → List Loc → Prop} {h : Heap}
/-- from here the run comes to a return of which Q holds -/
def Go (p : Program) (e : Env) (below : List Frame) (s : State) (Q : Option Value → Heap → List Loc → Prop) (C S : Nat) (S0 : State) : Prop :=
  ∃ s₂ o, Steps p.tables e below S0 s₂ ∧ s₂.status = .running ∧ Ended s₂ below o ∧ ∃ v L, o = .returned v ∧ Q v s₂.heap L ∧ FrameEnd s o s₂ L C S
theorem own_go {S0 : State} (k : Go p e below s Q C S S0) : ∃ s₂ o, Steps p.tables e below S0 s₂ ∧ s₂.status = .running ∧ Ended s₂ below o ∧ ∃ v L, o = .returned v ∧ Q v s₂.heap L ∧ FrameEnd s o s₂ L C S := k
theorem Go.to {g g' : JFrame} (st : ∀ t, Steps p.tables e below (T'.setTop g') t → Steps p.tables e below (T.setTop g) t) (k : Go p e below s Q C S (T'.setTop g')) : Go p e below s Q C S (T.setTop g) := by
  obtain ⟨s₂, o, h1, r⟩ := k
  exact ⟨s₂, o, st _ h1, r⟩
theorem Go.retI (X : Stand p l e R s m args below meth c T locs cells slots) (hx : p.tables.exec = Jvm.exec) {pc : Nat} {Ls : Array Slot} {z : Int32} {rest : List Value} (hret : meth.sig.returnType = some .int) (hlk : meth.locks = false) (hd : decode c.code pc = .ok (.ireturn, 1)) (hC : cells ≤ C) (hS : slots ≤ S) (eT : T.heap = h) (hQ : Q (some (.int z)) h locs) :
    Go p e below s Q C S (T.setTop (mkF m pc Ls (.int z :: rest))) := by
  obtain ⟨fs, hr, hrun, hended, hW, hsame⟩ := X.leave (v := some (.int z)) (fun h => by rw [hret] at h; cases h) hlk
  exact ⟨_, _, Jvm.RoadKit.retI X hx hret hd hr, hrun, hended, _, _, rfl, (show Q (some (.int z)) T.heap locs from eT ▸ hQ), ⟨_, rfl⟩, hW, hsame.mono hC hS⟩
theorem Go.retN (X : Stand p l e R s m args below meth c T locs cells slots) (hx : p.tables.exec = Jvm.exec) {pc : Nat} {Ls : Array Slot} {z : Int32} {t : FieldType} {rest : List Value} (hret : meth.sig.returnType = some t) (hlk : meth.locks = false) (ht : t = .boolean ∨ t = .byte ∨ t = .char ∨ t = .short) (hd : decode c.code pc = .ok (.ireturn, 1)) (hC : cells ≤ C) (hS : slots ≤ S) (eT : T.heap = h) (hQ : Q (some (.int (nar t z))) h locs) :
    Go p e below s Q C S (T.setTop (mkF m pc Ls (.int z :: rest))) := by
  obtain ⟨fs, hr, hrun, hended, hW, hsame⟩ := X.leave (v := some (.int (nar t z))) (fun h => by rw [hret] at h; cases h) hlk
  exact ⟨_, _, Jvm.RoadKit.retN X hx hret ht hd hr, hrun, hended, _, _, rfl, (show Q (some (.int (nar t z))) T.heap locs from eT ▸ hQ), ⟨_, rfl⟩, hW, hsame.mono hC hS⟩
theorem Go.ret (X : Stand p l e R s m args below meth c T locs cells slots) (hx : p.tables.exec = Jvm.exec) {pc : Nat} {Ls : Array Slot} (hret : meth.sig.returnType = none) (hlk : meth.locks = false) (hd : decode c.code pc = .ok (.return_, 1)) (hC : cells ≤ C) (hS : slots ≤ S) (eT : T.heap = h) (hQ : Q none h locs) :
    Go p e below s Q C S (T.setTop (mkF m pc Ls [])) := by
  obtain ⟨fs, hr, hrun, hended, hW, hsame⟩ := X.leave (v := none) (fun _ => rfl) hlk
  exact ⟨_, _, X.returnOut hx hret hd hr, hrun, hended, _, _, rfl, (show Q none T.heap locs from eT ▸ hQ), ⟨_, rfl⟩, hW, hsame.mono hC hS⟩
theorem Go.retJ (X : Stand p l e R s m args below meth c T locs cells slots) (hx : p.tables.exec = Jvm.exec) {pc : Nat} {Ls : Array Slot} {z : Int64} {rest : List Value} (hret : meth.sig.returnType = some .long) (hlk : meth.locks = false) (hd : decode c.code pc = .ok (.lreturn, 1)) (hC : cells ≤ C) (hS : slots ≤ S) (eT : T.heap = h) (hQ : Q (some (.long z)) h locs) :
    Go p e below s Q C S (T.setTop (mkF m pc Ls (.long z :: rest))) := by
  obtain ⟨fs, hr, hrun, hended, hW, hsame⟩ := X.leave (v := some (.long z)) (fun h => by rw [hret] at h; cases h) hlk
  exact ⟨_, _, retOut X hx hret rfl (Or.inr (Or.inl ⟨rfl, rfl, _, rfl⟩)) hd hr, hrun, hended, _, _, rfl, (show Q (some (.long z)) T.heap locs from eT ▸ hQ), ⟨_, rfl⟩, hW, hsame.mono hC hS⟩
theorem Go.retA (X : Stand p l e R s m args below meth c T locs cells slots) (hx : p.tables.exec = Jvm.exec) {pc : Nat} {Ls : Array Slot} {z : Addr} {t : FieldType} {rest : List Value} (hret : meth.sig.returnType = some t) (hlk : meth.locks = false) (ht : t.isReference = true) (hd : decode c.code pc = .ok (.areturn, 1)) (hC : cells ≤ C) (hS : slots ≤ S) (eT : T.heap = h) (hQ : Q (some (.ref z)) h locs) :
    Go p e below s Q C S (T.setTop (mkF m pc Ls (.ref z :: rest))) := by
  obtain ⟨fs, hr, hrun, hended, hW, hsame⟩ := X.leave (v := some (.ref z)) (fun h => by rw [hret] at h; cases h) hlk
  exact ⟨_, _, retOut X hx hret (by cases t <;> first | rfl | cases ht) (Or.inr (Or.inr (Or.inr (Or.inr ⟨rfl, ht, rfl⟩)))) hd hr, hrun, hended, _, _, rfl, (show Q (some (.ref z)) T.heap locs from eT ▸ hQ), ⟨_, rfl⟩, hW, hsame.mono hC hS⟩
end OwnGo
theorem own_irr (x : Int32) : ¬ x < x := by rw [Int32.lt_iff_toInt_lt]; omega
theorem own_irrL (x : Int64) : ¬ x < x := by rw [Int64.lt_iff_toInt_lt]; omega
theorem own_lrem {p : Program} {l : Launch} {e : Env} {R : Room} {s : State} {m : MethodId} {args : Array Value} {below : List Frame} {meth : Method} {c : Code} {T target : State} {locs : List Loc} {cells slots : Nat} {g : JFrame} (X : Stand p l e R s m args below meth c T locs cells slots) (hx : p.tables.exec = Jvm.exec) (hg : g.method = m) {x y : Int64} {rest : List Value} (hd : decode c.code g.pc = .ok (.lrem, 1)) (hs : g.stack = .long y :: .long x :: rest) (hy : y ≠ 0)
    (hr : Steps p.tables e below (T.setTop { g with pc := g.pc + 1, stack := .long (x % y) :: rest }) target) : Steps p.tables e below (T.setTop g) target :=
  XS.lrem X.here hx hg hd hs hy (by rw [lrem_mod]; exact hr)
theorem own_int {c : Cell} {vs : List Value} {d : Value} {j z : Int32} (H : Has c vs d) (G : ∀ i, i < c.slots.size → fits .int (vs.getD i d) = true) (hin : ¬ (j < 0 ∨ c.slots.size ≤ j.toNatClampNeg)) : ∃ x : Int32, c.slots[j.toNatClampNeg]? = some (.int x) := by
  have hk : j.toNatClampNeg < c.slots.size := Nat.lt_of_not_le fun q => hin (Or.inr q)
  have h1 := H _ hk
  have h2 := G _ hk
  cases hv : vs.getD j.toNatClampNeg d with
  | int x => exact ⟨x, by rw [h1, hv]⟩
  | _ => rw [hv] at h2; simp [fits] at h2
theorem d3_0 : decode jdk_65_method_103_code 0 = .ok (.iconst 0, 1) := by decide +kernel
theorem d3_1 : decode jdk_65_method_103_code 1 = .ok (.istore_n 2, 1) := by decide +kernel
theorem d3_2 : decode jdk_65_method_103_code 2 = .ok (.aload_n 0, 1) := by decide +kernel
theorem d3_3 : decode jdk_65_method_103_code 3 = .ok (.arraylength, 1) := by decide +kernel
theorem d3_4 : decode jdk_65_method_103_code 4 = .ok (.istore_n 3, 1) := by decide +kernel
theorem d3_5 : decode jdk_65_method_103_code 5 = .ok (.iload_n 2, 1) := by decide +kernel
theorem d3_6 : decode jdk_65_method_103_code 6 = .ok (.iload_n 3, 1) := by decide +kernel
theorem d3_7 : decode jdk_65_method_103_code 7 = .ok (.if_icmp .ge 13, 3) := by decide +kernel
theorem d3_10 : decode jdk_65_method_103_code 10 = .ok (.aload_n 0, 1) := by decide +kernel
theorem d3_11 : decode jdk_65_method_103_code 11 = .ok (.iload_n 2, 1) := by decide +kernel
theorem d3_12 : decode jdk_65_method_103_code 12 = .ok (.iload_n 1, 1) := by decide +kernel
theorem d3_13 : decode jdk_65_method_103_code 13 = .ok (.iastore, 1) := by decide +kernel
theorem d3_14 : decode jdk_65_method_103_code 14 = .ok (.iinc 2 1, 3) := by decide +kernel
theorem d3_17 : decode jdk_65_method_103_code 17 = .ok (.goto (-12), 3) := by decide +kernel
theorem d3_20 : decode jdk_65_method_103_code 20 = .ok (.return_, 1) := by decide +kernel
theorem pn_java_util_Arrays : plainName "java/util/Arrays" = true := by first | (simp [plainName, overriddenIn]; done) | decide +kernel
theorem d6_0 : decode jdk_65_method_111_code 0 = .ok (.iconst 0, 1) := by decide +kernel
theorem d6_1 : decode jdk_65_method_111_code 1 = .ok (.istore_n 2, 1) := by decide +kernel
theorem d6_2 : decode jdk_65_method_111_code 2 = .ok (.aload_n 0, 1) := by decide +kernel
theorem d6_3 : decode jdk_65_method_111_code 3 = .ok (.arraylength, 1) := by decide +kernel
theorem d6_4 : decode jdk_65_method_111_code 4 = .ok (.istore_n 3, 1) := by decide +kernel
theorem d6_5 : decode jdk_65_method_111_code 5 = .ok (.iload_n 2, 1) := by decide +kernel
theorem d6_6 : decode jdk_65_method_111_code 6 = .ok (.iload_n 3, 1) := by decide +kernel
theorem d6_7 : decode jdk_65_method_111_code 7 = .ok (.if_icmp .ge 13, 3) := by decide +kernel
theorem d6_10 : decode jdk_65_method_111_code 10 = .ok (.aload_n 0, 1) := by decide +kernel
theorem d6_11 : decode jdk_65_method_111_code 11 = .ok (.iload_n 2, 1) := by decide +kernel
theorem d6_12 : decode jdk_65_method_111_code 12 = .ok (.iload_n 1, 1) := by decide +kernel
theorem d6_13 : decode jdk_65_method_111_code 13 = .ok (.bastore, 1) := by decide +kernel
theorem d6_14 : decode jdk_65_method_111_code 14 = .ok (.iinc 2 1, 3) := by decide +kernel
theorem d6_17 : decode jdk_65_method_111_code 17 = .ok (.goto (-12), 3) := by decide +kernel
theorem d6_20 : decode jdk_65_method_111_code 20 = .ok (.return_, 1) := by decide +kernel
theorem d2_0 : decode prog_19_method_4_code 0 = .ok (.iload_n 0, 1) := by decide +kernel
theorem d2_1 : decode prog_19_method_4_code 1 = .ok (.newarray .int, 2) := by decide +kernel
theorem d2_3 : decode prog_19_method_4_code 3 = .ok (.astore_n 2, 1) := by decide +kernel
theorem d2_4 : decode prog_19_method_4_code 4 = .ok (.aload_n 2, 1) := by decide +kernel
theorem d2_5 : decode prog_19_method_4_code 5 = .ok (.iload_n 1, 1) := by decide +kernel
theorem d2_6 : decode prog_19_method_4_code 6 = .ok (.invokestatic 54, 3) := by decide +kernel
theorem pd_285bII29V : parseMethodDescriptor "([II)V" = some ⟨[(.array .int), .int], none⟩ := by decide +kernel
theorem d2_9 : decode prog_19_method_4_code 9 = .ok (.aload_n 2, 1) := by decide +kernel
theorem d2_10 : decode prog_19_method_4_code 10 = .ok (.areturn, 1) := by decide +kernel
theorem pn_com_example_skuld_skuld_analysis_Layout : plainName "com/example/skuld/skuld/analysis/Layout" = true := by first | (simp [plainName, overriddenIn]; done) | decide +kernel
theorem d4_0 : decode prog_19_method_2_code 0 = .ok (.aload_n 0, 1) := by decide +kernel
theorem d4_1 : decode prog_19_method_2_code 1 = .ok (.invokespecial 11, 3) := by decide +kernel
theorem d4_4 : decode prog_19_method_2_code 4 = .ok (.aload_n 0, 1) := by decide +kernel
theorem d4_5 : decode prog_19_method_2_code 5 = .ok (.aload_n 1, 1) := by decide +kernel
theorem d4_6 : decode prog_19_method_2_code 6 = .ok (.putfield 16, 3) := by decide +kernel
theorem d4_9 : decode prog_19_method_2_code 9 = .ok (.aload_n 0, 1) := by decide +kernel
theorem d4_10 : decode prog_19_method_2_code 10 = .ok (.aload_n 1, 1) := by decide +kernel
theorem d4_11 : decode prog_19_method_2_code 11 = .ok (.arraylength, 1) := by decide +kernel
theorem d4_12 : decode prog_19_method_2_code 12 = .ok (.newarray .int, 2) := by decide +kernel
theorem d4_14 : decode prog_19_method_2_code 14 = .ok (.putfield 20, 3) := by decide +kernel
theorem d4_17 : decode prog_19_method_2_code 17 = .ok (.aload_n 0, 1) := by decide +kernel
theorem d4_18 : decode prog_19_method_2_code 18 = .ok (.aload_n 1, 1) := by decide +kernel
theorem d4_19 : decode prog_19_method_2_code 19 = .ok (.arraylength, 1) := by decide +kernel
theorem d4_20 : decode prog_19_method_2_code 20 = .ok (.newarray .int, 2) := by decide +kernel
theorem d4_22 : decode prog_19_method_2_code 22 = .ok (.putfield 23, 3) := by decide +kernel
theorem d4_25 : decode prog_19_method_2_code 25 = .ok (.aload_n 0, 1) := by decide +kernel
theorem d4_26 : decode prog_19_method_2_code 26 = .ok (.aload_n 1, 1) := by decide +kernel
theorem d4_27 : decode prog_19_method_2_code 27 = .ok (.arraylength, 1) := by decide +kernel
theorem d4_28 : decode prog_19_method_2_code 28 = .ok (.newarray .long, 2) := by decide +kernel
theorem d4_30 : decode prog_19_method_2_code 30 = .ok (.putfield 26, 3) := by decide +kernel
theorem d4_33 : decode prog_19_method_2_code 33 = .ok (.iconst 0, 1) := by decide +kernel
theorem d4_34 : decode prog_19_method_2_code 34 = .ok (.istore_n 2, 1) := by decide +kernel
theorem d4_35 : decode prog_19_method_2_code 35 = .ok (.iconst 0, 1) := by decide +kernel
theorem d4_36 : decode prog_19_method_2_code 36 = .ok (.istore_n 3, 1) := by decide +kernel
theorem d4_37 : decode prog_19_method_2_code 37 = .ok (.iconst 0, 1) := by decide +kernel
theorem d4_38 : decode prog_19_method_2_code 38 = .ok (.istore 4, 2) := by decide +kernel
theorem d4_40 : decode prog_19_method_2_code 40 = .ok (.iload 4, 2) := by decide +kernel
theorem d4_42 : decode prog_19_method_2_code 42 = .ok (.aload_n 1, 1) := by decide +kernel
theorem d4_43 : decode prog_19_method_2_code 43 = .ok (.arraylength, 1) := by decide +kernel
theorem d4_44 : decode prog_19_method_2_code 44 = .ok (.if_icmp .ge 63, 3) := by decide +kernel
theorem d4_47 : decode prog_19_method_2_code 47 = .ok (.iload_n 3, 1) := by decide +kernel
theorem d4_48 : decode prog_19_method_2_code 48 = .ok (.aload_n 1, 1) := by decide +kernel
theorem d4_49 : decode prog_19_method_2_code 49 = .ok (.iload 4, 2) := by decide +kernel
theorem d4_51 : decode prog_19_method_2_code 51 = .ok (.iaload, 1) := by decide +kernel
theorem d4_52 : decode prog_19_method_2_code 52 = .ok (.iadd, 1) := by decide +kernel
theorem d4_53 : decode prog_19_method_2_code 53 = .ok (.bipush 64, 2) := by decide +kernel
theorem d4_55 : decode prog_19_method_2_code 55 = .ok (.if_icmp .le 8, 3) := by decide +kernel
theorem d4_58 : decode prog_19_method_2_code 58 = .ok (.iinc 2 1, 3) := by decide +kernel
theorem d4_61 : decode prog_19_method_2_code 61 = .ok (.iconst 0, 1) := by decide +kernel
theorem d4_62 : decode prog_19_method_2_code 62 = .ok (.istore_n 3, 1) := by decide +kernel
theorem d4_63 : decode prog_19_method_2_code 63 = .ok (.aload_n 0, 1) := by decide +kernel
theorem d4_64 : decode prog_19_method_2_code 64 = .ok (.getfield 20, 3) := by decide +kernel
theorem d4_67 : decode prog_19_method_2_code 67 = .ok (.iload 4, 2) := by decide +kernel
theorem d4_69 : decode prog_19_method_2_code 69 = .ok (.iload_n 2, 1) := by decide +kernel
theorem d4_70 : decode prog_19_method_2_code 70 = .ok (.iastore, 1) := by decide +kernel
theorem d4_71 : decode prog_19_method_2_code 71 = .ok (.aload_n 0, 1) := by decide +kernel
theorem d4_72 : decode prog_19_method_2_code 72 = .ok (.getfield 23, 3) := by decide +kernel
theorem d4_75 : decode prog_19_method_2_code 75 = .ok (.iload 4, 2) := by decide +kernel
theorem d4_77 : decode prog_19_method_2_code 77 = .ok (.iload_n 3, 1) := by decide +kernel
theorem d4_78 : decode prog_19_method_2_code 78 = .ok (.iastore, 1) := by decide +kernel
theorem d4_79 : decode prog_19_method_2_code 79 = .ok (.aload_n 0, 1) := by decide +kernel
theorem d4_80 : decode prog_19_method_2_code 80 = .ok (.getfield 26, 3) := by decide +kernel
theorem d4_83 : decode prog_19_method_2_code 83 = .ok (.iload 4, 2) := by decide +kernel
theorem d4_85 : decode prog_19_method_2_code 85 = .ok (.lconst 1, 1) := by decide +kernel
theorem d4_86 : decode prog_19_method_2_code 86 = .ok (.aload_n 1, 1) := by decide +kernel
theorem d4_87 : decode prog_19_method_2_code 87 = .ok (.iload 4, 2) := by decide +kernel
theorem d4_89 : decode prog_19_method_2_code 89 = .ok (.iaload, 1) := by decide +kernel
theorem d4_90 : decode prog_19_method_2_code 90 = .ok (.lshl, 1) := by decide +kernel
theorem d4_91 : decode prog_19_method_2_code 91 = .ok (.lconst 1, 1) := by decide +kernel
theorem d4_92 : decode prog_19_method_2_code 92 = .ok (.lsub, 1) := by decide +kernel
theorem d4_93 : decode prog_19_method_2_code 93 = .ok (.lastore, 1) := by decide +kernel
theorem d4_94 : decode prog_19_method_2_code 94 = .ok (.iload_n 3, 1) := by decide +kernel
theorem d4_95 : decode prog_19_method_2_code 95 = .ok (.aload_n 1, 1) := by decide +kernel
theorem d4_96 : decode prog_19_method_2_code 96 = .ok (.iload 4, 2) := by decide +kernel
theorem d4_98 : decode prog_19_method_2_code 98 = .ok (.iaload, 1) := by decide +kernel
theorem d4_99 : decode prog_19_method_2_code 99 = .ok (.iadd, 1) := by decide +kernel
theorem d4_100 : decode prog_19_method_2_code 100 = .ok (.istore_n 3, 1) := by decide +kernel
theorem d4_101 : decode prog_19_method_2_code 101 = .ok (.iinc 4 1, 3) := by decide +kernel
theorem d4_104 : decode prog_19_method_2_code 104 = .ok (.goto (-64), 3) := by decide +kernel
theorem d4_107 : decode prog_19_method_2_code 107 = .ok (.aload_n 0, 1) := by decide +kernel
theorem d4_108 : decode prog_19_method_2_code 108 = .ok (.iload_n 2, 1) := by decide +kernel
theorem d4_109 : decode prog_19_method_2_code 109 = .ok (.iconst 1, 1) := by decide +kernel
theorem d4_110 : decode prog_19_method_2_code 110 = .ok (.iadd, 1) := by decide +kernel
theorem d4_111 : decode prog_19_method_2_code 111 = .ok (.putfield 32, 3) := by decide +kernel
theorem d4_114 : decode prog_19_method_2_code 114 = .ok (.aload_n 0, 1) := by decide +kernel
theorem d4_115 : decode prog_19_method_2_code 115 = .ok (.aload_n 0, 1) := by decide +kernel
theorem d4_116 : decode prog_19_method_2_code 116 = .ok (.getfield 32, 3) := by decide +kernel
theorem d4_119 : decode prog_19_method_2_code 119 = .ok (.iconst 1, 1) := by decide +kernel
theorem d4_120 : decode prog_19_method_2_code 120 = .ok (.iadd, 1) := by decide +kernel
theorem d4_121 : decode prog_19_method_2_code 121 = .ok (.newarray .int, 2) := by decide +kernel
theorem d4_123 : decode prog_19_method_2_code 123 = .ok (.putfield 36, 3) := by decide +kernel
theorem d4_126 : decode prog_19_method_2_code 126 = .ok (.aload_n 0, 1) := by decide +kernel
theorem d4_127 : decode prog_19_method_2_code 127 = .ok (.aload_n 0, 1) := by decide +kernel
theorem d4_128 : decode prog_19_method_2_code 128 = .ok (.getfield 32, 3) := by decide +kernel
theorem d4_131 : decode prog_19_method_2_code 131 = .ok (.newarray .boolean, 2) := by decide +kernel
theorem d4_133 : decode prog_19_method_2_code 133 = .ok (.putfield 39, 3) := by decide +kernel
theorem d4_136 : decode prog_19_method_2_code 136 = .ok (.aload_n 0, 1) := by decide +kernel
theorem d4_137 : decode prog_19_method_2_code 137 = .ok (.getfield 39, 3) := by decide +kernel
theorem d4_140 : decode prog_19_method_2_code 140 = .ok (.iconst 1, 1) := by decide +kernel
theorem d4_141 : decode prog_19_method_2_code 141 = .ok (.invokestatic 43, 3) := by decide +kernel
theorem pd_285bZZ29V : parseMethodDescriptor "([ZZ)V" = some ⟨[(.array .boolean), .boolean], none⟩ := by decide +kernel
theorem d4_144 : decode prog_19_method_2_code 144 = .ok (.aload_n 1, 1) := by decide +kernel
theorem d4_145 : decode prog_19_method_2_code 145 = .ok (.arraylength, 1) := by decide +kernel
theorem d4_146 : decode prog_19_method_2_code 146 = .ok (.iconst 1, 1) := by decide +kernel
theorem d4_147 : decode prog_19_method_2_code 147 = .ok (.isub, 1) := by decide +kernel
theorem d4_148 : decode prog_19_method_2_code 148 = .ok (.istore 4, 2) := by decide +kernel
theorem d4_150 : decode prog_19_method_2_code 150 = .ok (.iload 4, 2) := by decide +kernel
theorem d4_152 : decode prog_19_method_2_code 152 = .ok (.ifCond .lt 51, 3) := by decide +kernel
theorem d4_203 : decode prog_19_method_2_code 203 = .ok (.aload_n 0, 1) := by decide +kernel
theorem d4_204 : decode prog_19_method_2_code 204 = .ok (.getfield 36, 3) := by decide +kernel
theorem d4_207 : decode prog_19_method_2_code 207 = .ok (.aload_n 0, 1) := by decide +kernel
theorem d4_208 : decode prog_19_method_2_code 208 = .ok (.getfield 32, 3) := by decide +kernel
theorem d4_211 : decode prog_19_method_2_code 211 = .ok (.aload_n 1, 1) := by decide +kernel
theorem d4_212 : decode prog_19_method_2_code 212 = .ok (.arraylength, 1) := by decide +kernel
theorem d4_213 : decode prog_19_method_2_code 213 = .ok (.iastore, 1) := by decide +kernel
theorem d4_214 : decode prog_19_method_2_code 214 = .ok (.return_, 1) := by decide +kernel
theorem d4_155 : decode prog_19_method_2_code 155 = .ok (.aload_n 0, 1) := by decide +kernel
theorem d4_156 : decode prog_19_method_2_code 156 = .ok (.getfield 36, 3) := by decide +kernel
theorem d4_159 : decode prog_19_method_2_code 159 = .ok (.aload_n 0, 1) := by decide +kernel
theorem d4_160 : decode prog_19_method_2_code 160 = .ok (.getfield 20, 3) := by decide +kernel
theorem d4_163 : decode prog_19_method_2_code 163 = .ok (.iload 4, 2) := by decide +kernel
theorem d4_165 : decode prog_19_method_2_code 165 = .ok (.iaload, 1) := by decide +kernel
theorem d4_166 : decode prog_19_method_2_code 166 = .ok (.iload 4, 2) := by decide +kernel
theorem d4_168 : decode prog_19_method_2_code 168 = .ok (.iastore, 1) := by decide +kernel
theorem d4_169 : decode prog_19_method_2_code 169 = .ok (.aload_n 0, 1) := by decide +kernel
theorem d4_170 : decode prog_19_method_2_code 170 = .ok (.getfield 39, 3) := by decide +kernel
theorem d4_173 : decode prog_19_method_2_code 173 = .ok (.aload_n 0, 1) := by decide +kernel
theorem d4_174 : decode prog_19_method_2_code 174 = .ok (.getfield 20, 3) := by decide +kernel
theorem d4_177 : decode prog_19_method_2_code 177 = .ok (.iload 4, 2) := by decide +kernel
theorem d4_179 : decode prog_19_method_2_code 179 = .ok (.iaload, 1) := by decide +kernel
theorem d4_180 : decode prog_19_method_2_code 180 = .ok (.dup2, 1) := by decide +kernel
theorem d4_181 : decode prog_19_method_2_code 181 = .ok (.baload, 1) := by decide +kernel
theorem d4_182 : decode prog_19_method_2_code 182 = .ok (.aload_n 1, 1) := by decide +kernel
theorem d4_183 : decode prog_19_method_2_code 183 = .ok (.iload 4, 2) := by decide +kernel
theorem d4_185 : decode prog_19_method_2_code 185 = .ok (.iaload, 1) := by decide +kernel
theorem d4_186 : decode prog_19_method_2_code 186 = .ok (.iconst 1, 1) := by decide +kernel
theorem d4_187 : decode prog_19_method_2_code 187 = .ok (.if_icmp .ne 7, 3) := by decide +kernel
theorem d4_190 : decode prog_19_method_2_code 190 = .ok (.iconst 1, 1) := by decide +kernel
theorem d4_191 : decode prog_19_method_2_code 191 = .ok (.goto 4, 3) := by decide +kernel
theorem d4_195 : decode prog_19_method_2_code 195 = .ok (.iand, 1) := by decide +kernel
theorem d4_196 : decode prog_19_method_2_code 196 = .ok (.bastore, 1) := by decide +kernel
theorem d4_197 : decode prog_19_method_2_code 197 = .ok (.iinc 4 (-1), 3) := by decide +kernel
theorem d4_200 : decode prog_19_method_2_code 200 = .ok (.goto (-50), 3) := by decide +kernel
theorem d1_0 : decode prog_19_method_1_code 0 = .ok (.aload_n 0, 1) := by decide +kernel
theorem d1_1 : decode prog_19_method_1_code 1 = .ok (.iload_n 1, 1) := by decide +kernel
theorem d1_2 : decode prog_19_method_1_code 2 = .ok (.iconst 1, 1) := by decide +kernel
theorem d1_3 : decode prog_19_method_1_code 3 = .ok (.invokestatic 1, 3) := by decide +kernel
theorem pd_28II295bI : parseMethodDescriptor "(II)[I" = some ⟨[.int, .int], some (.array .int)⟩ := by decide +kernel
theorem d1_6 : decode prog_19_method_1_code 6 = .ok (.invokespecial 7, 3) := by decide +kernel
theorem pd_285bI29V : parseMethodDescriptor "([I)V" = some ⟨[(.array .int)], none⟩ := by decide +kernel
theorem d1_9 : decode prog_19_method_1_code 9 = .ok (.return_, 1) := by decide +kernel
theorem d7_0 : decode prog_19_method_9_code 0 = .ok (.aload_n 1, 1) := by decide +kernel
theorem d7_1 : decode prog_19_method_9_code 1 = .ok (.iload_n 2, 1) := by decide +kernel
theorem d7_2 : decode prog_19_method_9_code 2 = .ok (.aload_n 0, 1) := by decide +kernel
theorem d7_3 : decode prog_19_method_9_code 3 = .ok (.getfield 20, 3) := by decide +kernel
theorem d7_6 : decode prog_19_method_9_code 6 = .ok (.iload_n 3, 1) := by decide +kernel
theorem d7_7 : decode prog_19_method_9_code 7 = .ok (.iaload, 1) := by decide +kernel
theorem d7_8 : decode prog_19_method_9_code 8 = .ok (.iadd, 1) := by decide +kernel
theorem d7_9 : decode prog_19_method_9_code 9 = .ok (.laload, 1) := by decide +kernel
theorem d7_10 : decode prog_19_method_9_code 10 = .ok (.aload_n 0, 1) := by decide +kernel
theorem d7_11 : decode prog_19_method_9_code 11 = .ok (.getfield 23, 3) := by decide +kernel
theorem d7_14 : decode prog_19_method_9_code 14 = .ok (.iload_n 3, 1) := by decide +kernel
theorem d7_15 : decode prog_19_method_9_code 15 = .ok (.iaload, 1) := by decide +kernel
theorem d7_16 : decode prog_19_method_9_code 16 = .ok (.lushr, 1) := by decide +kernel
theorem d7_17 : decode prog_19_method_9_code 17 = .ok (.aload_n 0, 1) := by decide +kernel
theorem d7_18 : decode prog_19_method_9_code 18 = .ok (.getfield 26, 3) := by decide +kernel
theorem d7_21 : decode prog_19_method_9_code 21 = .ok (.iload_n 3, 1) := by decide +kernel
theorem d7_22 : decode prog_19_method_9_code 22 = .ok (.laload, 1) := by decide +kernel
theorem d7_23 : decode prog_19_method_9_code 23 = .ok (.land, 1) := by decide +kernel
theorem d7_24 : decode prog_19_method_9_code 24 = .ok (.l2i, 1) := by decide +kernel
theorem d7_25 : decode prog_19_method_9_code 25 = .ok (.ireturn, 1) := by decide +kernel
theorem pd_28I29V : parseMethodDescriptor "(I)V" = some ⟨[.int], none⟩ := by decide +kernel
theorem pd_285bJII29I : parseMethodDescriptor "([JII)I" = some ⟨[(.array .long), .int, .int], some .int⟩ := by decide +kernel
theorem pn_com_example_skuld_skuld_analysis_LayoutTokensPinLaw : plainName "com/example/skuld/skuld/analysis/LayoutTokensPinLaw" = true := by first | (simp [plainName, overriddenIn]; done) | decide +kernel
section OwnArrays
variable {Z : State} {h h' : Heap} {a b : Addr} {ty : FieldType} {z : Int32} {f : Int32 → Int32} {fl : Int32 → Int64} {ws : List Addr} {sl : Nat} {v : Value}
theorem own_nneg {j : Int32} (h : ¬ j < 0) : 0 ≤ j.toInt := by
  rw [Int32.lt_iff_toInt_lt] at h
  have e0 : (0 : Int32).toInt = 0 := rfl
  omega
/-- at a lies an array of ty with z places; place j holds the int f j -/
def own_Az (Z : State) (h : Heap) (a : Addr) (ty : FieldType) (z : Int32) (f : Int32 → Int32) : Prop := ∃ c : Cell, Arr Z h a c ty ∧ c.slots.size = z.toNatClampNeg ∧ ¬ z < 0 ∧ ∀ j : Int32, ¬ j < 0 → j < z → c.slots[j.toNatClampNeg]? = some (.int (f j))
/-- at a lies an array of longs with z places; place j holds fl j -/
def own_Lz (Z : State) (h : Heap) (a : Addr) (z : Int32) (fl : Int32 → Int64) : Prop := ∃ c : Cell, Arr Z h a c .long ∧ c.slots.size = z.toNatClampNeg ∧ ¬ z < 0 ∧ ∀ j : Int32, ¬ j < 0 → j < z → c.slots[j.toNatClampNeg]? = some (.long (fl j))
theorem own_Az.ext (B : own_Az Z h a ty z f) (E : Ext h h') : own_Az Z h' a ty z f := by
  obtain ⟨c, A, r⟩ := B
  exact ⟨c, A.ext E, r⟩
theorem own_Az.other (B : own_Az Z h b ty z f) (W : Wr h h' a sl v) (q : b ≠ a) : own_Az Z h' b ty z f := by
  obtain ⟨c, A, r⟩ := B
  exact ⟨c, A.other W q, r⟩
theorem own_Az.keep (B : own_Az Z h a ty z f) (K : Keep h h' ws) (q : a ∉ ws) : own_Az Z h' a ty z f := by
  obtain ⟨c, A, r⟩ := B
  exact ⟨c, ⟨K.2.1 a c A.1 q, A.2⟩, r⟩
theorem own_Az.lt (B : own_Az Z h a ty z f) : a < h.size := by
  obtain ⟨c, A, r⟩ := B
  exact A.lt
theorem own_Lz.ext (B : own_Lz Z h a z fl) (E : Ext h h') : own_Lz Z h' a z fl := by
  obtain ⟨c, A, r⟩ := B
  exact ⟨c, A.ext E, r⟩
theorem own_Lz.other (B : own_Lz Z h b z fl) (W : Wr h h' a sl v) (q : b ≠ a) : own_Lz Z h' b z fl := by
  obtain ⟨c, A, r⟩ := B
  exact ⟨c, A.other W q, r⟩
theorem own_Lz.keep (B : own_Lz Z h a z fl) (K : Keep h h' ws) (q : a ∉ ws) : own_Lz Z h' a z fl := by
  obtain ⟨c, A, r⟩ := B
  exact ⟨c, ⟨K.2.1 a c A.1 q, A.2⟩, r⟩
theorem own_Lz.lt (B : own_Lz Z h a z fl) : a < h.size := by
  obtain ⟨c, A, r⟩ := B
  exact A.lt
theorem own_az_of {k : ClassId} (V : Arv Z h a k ty z [] (.int (0 : Int32))) : own_Az Z h a ty z (fun _ => (0 : Int32)) := by
  obtain ⟨c, A, -, S, M, H, -⟩ := V
  refine ⟨c, A, S, M, fun j h1 h2 => ?_⟩
  have hk : j.toNatClampNeg < c.slots.size := Nat.lt_of_not_le fun q => inb_of S ⟨h1, h2⟩ (Or.inr q)
  rw [H _ hk]
  rfl
theorem own_lz_of {k : ClassId} (V : Arv Z h a k .long z [] (.long (0 : Int64))) : own_Lz Z h a z (fun _ => (0 : Int64)) := by
  obtain ⟨c, A, -, S, M, H, -⟩ := V
  refine ⟨c, A, S, M, fun j h1 h2 => ?_⟩
  have hk : j.toNatClampNeg < c.slots.size := Nat.lt_of_not_le fun q => inb_of S ⟨h1, h2⟩ (Or.inr q)
  rw [H _ hk]
  rfl
def own_upd (f : Int32 → Int32) (j x : Int32) : Int32 → Int32 := fun i => if i = j then x else f i
theorem own_upd1 {f : Int32 → Int32} {j x i : Int32} (h : i = j) : own_upd f j x i = x := if_pos h
theorem own_upd0 {f : Int32 → Int32} {j x i : Int32} (h : ¬ i = j) : own_upd f j x i = f i := if_neg h
def own_updL (f : Int32 → Int64) (j : Int32) (x : Int64) : Int32 → Int64 := fun i => if i = j then x else f i
theorem own_updL1 {f : Int32 → Int64} {j i : Int32} {x : Int64} (h : i = j) : own_updL f j x i = x := if_pos h
theorem own_updL0 {f : Int32 → Int64} {j i : Int32} {x : Int64} (h : ¬ i = j) : own_updL f j x i = f i := if_neg h
theorem own_Az.set {j x : Int32} (B : own_Az Z h a ty z f) (hj : ¬ j < 0) (W : Wr h h' a j.toNatClampNeg (.int x)) : own_Az Z h' a ty z (own_upd f j x) := by
  obtain ⟨c, A, S, M, H⟩ := B
  refine ⟨_, A.same W, by rw [sz_set]; exact S, M, fun i h1 h2 => ?_⟩
  by_cases q : i = j
  · rw [own_upd1 q]
    refine get_hit ?_ q
    subst q
    exact inb_of S ⟨h1, h2⟩
  · rw [own_upd0 q, get_miss hj h1 q]
    exact H i h1 h2
theorem own_Lz.set {j : Int32} {x : Int64} (B : own_Lz Z h a z fl) (hj : ¬ j < 0) (W : Wr h h' a j.toNatClampNeg (.long x)) : own_Lz Z h' a z (own_updL fl j x) := by
  obtain ⟨c, A, S, M, H⟩ := B
  refine ⟨_, A.same W, by rw [sz_set]; exact S, M, fun i h1 h2 => ?_⟩
  by_cases q : i = j
  · rw [own_updL1 q]
    refine get_hit ?_ q
    subst q
    exact inb_of S ⟨h1, h2⟩
  · rw [own_updL0 q, get_miss hj h1 q]
    exact H i h1 h2
end OwnArrays
theorem own_inc {i p : Int32} (h : i < p) : (i + (1 : Int32)).toInt = i.toInt + 1 := by
  have h1 := c_iadd i (1 : Int32)
  have h2 := rng32 p
  have h3 := rng32 i
  have h4 := rng32 (i + (1 : Int32))
  have e1 : (1 : Int32).toInt = 1 := rfl
  rw [Int32.lt_iff_toInt_lt] at h
  omega

def own_w (j : Int32) : Int32 := if j < (64 : Int32) then (0 : Int32) else (1 : Int32)
def own_s (j : Int32) : Int32 := if j < (64 : Int32) then j else j - (64 : Int32)
theorem own_w0 {j : Int32} (h : j < (64 : Int32)) : own_w j = (0 : Int32) := if_pos h
theorem own_w1 {j : Int32} (h : ¬ j < (64 : Int32)) : own_w j = (1 : Int32) := if_neg h
theorem own_s0 {j : Int32} (h : j < (64 : Int32)) : own_s j = j := if_pos h
theorem own_s1 {j : Int32} (h : ¬ j < (64 : Int32)) : own_s j = j - (64 : Int32) := if_neg h
theorem own_lt64 {j : Int32} : j < (64 : Int32) ↔ j.toInt < 64 := by rw [Int32.lt_iff_toInt_lt, show (64 : Int32).toInt = 64 from rfl]
theorem own_ltz {j : Int32} : j < (0 : Int32) ↔ j.toInt < 0 := by rw [Int32.lt_iff_toInt_lt, show (0 : Int32).toInt = 0 from rfl]
theorem own_s1i {j : Int32} (h : ¬ j < (64 : Int32)) : (own_s j).toInt = j.toInt - 64 := by
  rw [own_s1 h]
  rw [own_lt64] at h
  have h1 := c_isub j (64 : Int32)
  have h2 := rng32 (j - (64 : Int32))
  have h3 := rng32 j
  rw [show (64 : Int32).toInt = 64 from rfl] at h1
  omega
/-- what the two counters hold when i places are laid -/
def own_inv (i at_ us : Int32) : Prop := (i.toInt ≤ 64 ∧ at_ = (0 : Int32) ∧ us = i) ∨ (64 < i.toInt ∧ at_ = (1 : Int32) ∧ us.toInt = i.toInt - 64)
theorem own_up {us : Int32} {k : Int} (h : us.toInt = k) (h0 : 0 ≤ k) (h1 : k ≤ 1000) : (us + (1 : Int32)).toInt = k + 1 := by
  have q1 := c_iadd us (1 : Int32)
  have q2 := rng32 (us + (1 : Int32))
  rw [show (1 : Int32).toInt = 1 from rfl] at q1
  omega
theorem own_big {i at_ us zl : Int32} (hi : ¬ i < 0) (hz : zl.toInt ≤ 128) (hlt : i < zl) (hv : own_inv i at_ us) (h : (64 : Int32) < (us + (1 : Int32))) : (at_ + (1 : Int32)) = own_w i ∧ (0 : Int32) = own_s i := by
  have h0 := own_nneg hi
  rw [Int32.lt_iff_toInt_lt] at hlt h
  rw [show (64 : Int32).toInt = 64 from rfl] at h
  rcases hv with ⟨q1, rfl, rfl⟩ | ⟨q1, q2, q3⟩
  · rw [own_up (k := us.toInt) rfl (by omega) (by omega)] at h
    have e : us = (64 : Int32) := Int32.toInt_inj.mp (by rw [show (64 : Int32).toInt = 64 from rfl]; omega)
    subst e
    exact ⟨by decide, by decide⟩
  · rw [own_up q3 (by omega) (by omega)] at h
    omega
theorem own_few {i at_ us zl : Int32} (hi : ¬ i < 0) (hz : zl.toInt ≤ 128) (hlt : i < zl) (hv : own_inv i at_ us) (h : ¬ (64 : Int32) < (us + (1 : Int32))) : at_ = own_w i ∧ us = own_s i := by
  have h0 := own_nneg hi
  rw [Int32.lt_iff_toInt_lt] at hlt h
  rw [show (64 : Int32).toInt = 64 from rfl] at h
  rcases hv with ⟨q1, rfl, rfl⟩ | ⟨q1, rfl, q3⟩
  · rw [own_up (k := us.toInt) rfl (by omega) (by omega)] at h
    have e : us < (64 : Int32) := own_lt64.mpr (by omega)
    rw [own_w0 e, own_s0 e]
    exact ⟨rfl, rfl⟩
  · have e : ¬ i < (64 : Int32) := fun q => by
      rw [own_lt64] at q
      omega
    rw [own_w1 e]
    refine ⟨rfl, Int32.toInt_inj.mp ?_⟩
    rw [own_s1i e]
    exact q3
theorem own_nxt {i zl : Int32} (hi : ¬ i < 0) (hz : zl.toInt ≤ 128) (hlt : i < zl) : own_inv (i + (1 : Int32)) (own_w i) (own_s i + (1 : Int32)) := by
  have h0 := own_nneg hi
  have h1 := own_inc hlt
  rw [Int32.lt_iff_toInt_lt] at hlt
  by_cases e : i < (64 : Int32)
  · rw [own_w0 e, own_s0 e]
    rw [own_lt64] at e
    exact Or.inl ⟨by omega, rfl, rfl⟩
  · rw [own_w1 e]
    have e2 := own_s1i e
    rw [own_lt64] at e
    exact Or.inr ⟨by omega, rfl, by rw [own_up e2 (by omega) (by omega)]; omega⟩
theorem own_ext {f g : Int32 → Int32} {i x : Int32} {zl : Int32} (hlt : i < zl) (h : ∀ j : Int32, ¬ j < 0 → j < i → f j = g j) (hx : x = g i) : ∀ j : Int32, ¬ j < 0 → j < (i + (1 : Int32)) → own_upd f i x j = g j := by
  intro j h1 h2
  by_cases e : j = i
  · rw [own_upd1 e, e]
    exact hx
  · rw [own_upd0 e]
    refine h j h1 ?_
    have h3 : ¬ j.toInt = i.toInt := fun q => e (Int32.toInt_inj.mp q)
    rw [Int32.lt_iff_toInt_lt, own_inc hlt] at h2
    rw [Int32.lt_iff_toInt_lt]
    omega
theorem own_extL {f g : Int32 → Int64} {i zl : Int32} {x : Int64} (hlt : i < zl) (h : ∀ j : Int32, ¬ j < 0 → j < i → f j = g j) (hx : x = g i) : ∀ j : Int32, ¬ j < 0 → j < (i + (1 : Int32)) → own_updL f i x j = g j := by
  intro j h1 h2
  by_cases e : j = i
  · rw [own_updL1 e, e]
    exact hx
  · rw [own_updL0 e]
    refine h j h1 ?_
    have h3 : ¬ j.toInt = i.toInt := fun q => e (Int32.toInt_inj.mp q)
    rw [Int32.lt_iff_toInt_lt, own_inc hlt] at h2
    rw [Int32.lt_iff_toInt_lt]
    omega
theorem own_l1 {i p2 : Int32} {n : Nat} (h : i < p2) (hm : (p2.toInt - i.toInt).toNat < n + 1) : (p2.toInt - (i + (1 : Int32)).toInt).toNat < n := by
  rw [own_inc h]
  rw [Int32.lt_iff_toInt_lt] at h
  omega
theorem own_i1 {i p2 : Int32} (h : i < p2) (hi : ¬ i < 0) : ¬ (i + (1 : Int32)) < 0 := by
  have h0 := own_nneg hi
  rw [own_ltz, own_inc h]
  omega
theorem own_le1 {i p2 : Int32} (h : i < p2) : (i + (1 : Int32)).toInt ≤ p2.toInt := by
  rw [own_inc h]
  rw [Int32.lt_iff_toInt_lt] at h
  omega
theorem own_done {i zl : Int32} (h : ¬ i < zl) {P : Int32 → Prop} (hP : ∀ j : Int32, ¬ j < 0 → j < i → P j) : ∀ j : Int32, ¬ j < 0 → j < zl → P j := by
  intro j h1 h2
  refine hP j h1 ?_
  rw [Int32.lt_iff_toInt_lt] at *
  omega
theorem own_cap {z : Int32} (h : z.toInt ≤ 128) : z.toNatClampNeg ≤ 128 := by
  simp only [Int32.toNatClampNeg]
  omega
theorem own_dec {i : Int32} (h : ¬ i < (0 : Int32)) : (i + (-1 : Int32)).toInt = i.toInt - 1 := by
  have h0 := own_nneg h
  have q1 := c_iadd i (-1 : Int32)
  have q2 := rng32 (i + (-1 : Int32))
  have q3 := rng32 i
  rw [show (-1 : Int32).toInt = -1 from rfl] at q1
  omega
theorem own_bw0 {i zl : Int32} (h : i < zl) (hz : zl.toInt ≤ 64) : ¬ own_w i < 0 ∧ own_w i < (1 : Int32) ∧ own_w i < (2 : Int32) := by
  rw [Int32.lt_iff_toInt_lt] at h
  rw [own_w0 (own_lt64.mpr (by omega))]
  exact ⟨by decide, by decide, by decide⟩
theorem own_bw1 (i : Int32) : ¬ own_w i < 0 ∧ own_w i < (2 : Int32) ∧ own_w i < (3 : Int32) := by
  by_cases e : i < (64 : Int32)
  · rw [own_w0 e]
    exact ⟨by decide, by decide, by decide⟩
  · rw [own_w1 e]
    exact ⟨by decide, by decide, by decide⟩

theorem own_pre {z : Int32} (h : ¬ z < 0) (h2 : z.toInt ≤ 128) : -1 ≤ (z - (1 : Int32)).toInt ∧ (z - (1 : Int32)).toInt < z.toInt := by
  have h0 := own_nneg h
  have h1 := c_isub z (1 : Int32)
  have h3 := rng32 (z - (1 : Int32))
  rw [show (1 : Int32).toInt = 1 from rfl] at h1
  omega
theorem own_mlt {m z : Int32} (h : m.toInt < z.toInt) : m < z := by
  rw [Int32.lt_iff_toInt_lt]
  exact h

theorem ef_rm3 (m : MethodId) (x0 : Addr) (x1 : Int32) : entryFrame m #[(.ref x0), (.int x1)] 4 = mkF m 0 #[.val (.ref x0), .val (.int x1), .unset, .unset] [] := by first | (simp [entryFrame, mkF, argsToLocals, Value.category]; done) | rfl
def Q3 (Z : State) (a0 : Addr) (p1 : Int32) (zl : Int32) (f : Int32 → Int32) (h0 : Heap) (n0 : Nat) (v : Option Value) (h : Heap) (L : List Loc) : Prop := ∃ g : Int32 → Int32, v = none ∧ Fr n0 L ∧ Keep h0 h [a0] ∧ own_Az Z h a0 .int zl g ∧ ∀ j : Int32, ¬ j < 0 → j < zl → g j = p1
set_option maxRecDepth 65536 in
set_option maxHeartbeats 40000000 in
theorem rm3 (l : Launch) (Z : State) (aw : Array Value) (hw : ∀ d ∈ tables_1, d.before aw Z = true) (ws : List Jvm.Cond) (a0 : Addr) (p1 : Int32) (zl : Int32) (f : Int32 → Int32) (h0 : Heap) (n0 : Nat) (Z0 : n0 ≤ h0.size) (A0 : own_Az Z h0 a0 .int zl f) (hz : ¬ zl < 0) (g_a0 : n0 ≤ a0) :
    MetFree l (⟨"java/util/Arrays", "fill", "([II)V"⟩ : MethodName) (head1 (Jvm.Cond.code (⟨"java/util/Arrays", "fill", "([II)V"⟩ : MethodName) jdk_65_method_103_code 4 none :: ws) ({ frames := 0, cells := 0, slots := 0, locals := 0 } : Room)) (fun a U => a = #[(.ref a0), (.int p1)] ∧ Z.Warmed39 U.vm ∧ U.heap = h0) (fun _ _ _ _ _ => True) (fun _ U o U' => ∃ v L, o = .returned v ∧ Q3 Z a0 p1 zl f h0 n0 v U'.heap L ∧ FrameEnd U o U' L ({ frames := 0, cells := 0, slots := 0, locals := 0 } : Room).cells ({ frames := 0, cells := 0, slots := 0, locals := 0 } : Room).slots) := by
  refine MetFree.of_bodySF (plainFor_of_name pn_java_util_Arrays) hisR ?_
  intro p e s m args below meth c s₁ Bd hml0 hP hK
  obtain ⟨rfl, hZ, hh⟩ := hP
  have hx := Bd.exec
  have hby := Bd.bytes
  have hml : c.maxLocals = 4 := hml0
  have hown : s.vm.findClass "java/util/Arrays" = some m.cls := findClass_of_methodNamed Bd.named
  have hnm := (name_of_methodNamed Bd.named Bd.method).1
  have X0 : Stand p l e ({ frames := 0, cells := 0, slots := 0, locals := 0 } : Room) s m #[(.ref a0), (.int p1)] below meth c s₁ [] 0 0 := Stand.of_body Bd
  have e0 : s₁.heap = h0 := by rw [← hh, Bd.state]; rfl
  have N0 := Fr.nil n0
  refine own_go (Q := Q3 Z a0 p1 zl f h0 n0) ?_
  refine Go.to (g' := (mkF m 0 #[.val (.ref a0), .val (.int p1), .unset, .unset] [])) (fun t k => castTop (ef_rm3 m a0 p1) k) ?_
  refine Go.to (g' := (mkF m 1 #[.val (.ref a0), .val (.int p1), .unset, .unset] [(.int (0 : Int32))])) (fun t k => XS.iconst X0.here hx rfl (hb hby d3_0) k) ?_
  refine Go.to (g' := (mkF m 2 #[.val (.ref a0), .val (.int p1), .val (.int (0 : Int32)), .unset] [])) (fun t k => XS.istoreN X0.here hx rfl (hb hby d3_1) rfl (l' := #[.val (.ref a0), .val (.int p1), .val (.int (0 : Int32)), .unset]) rfl k) ?_
  refine Go.to (g' := (mkF m 3 #[.val (.ref a0), .val (.int p1), .val (.int (0 : Int32)), .unset] [(.ref a0)])) (fun t k => XS.aloadN X0.here hx rfl (hb hby d3_2) rfl rfl k) ?_
  obtain ⟨cl1, Ar1, S1, M1, -⟩ := id A0
  refine Go.to (g' := (mkF m 4 #[.val (.ref a0), .val (.int p1), .val (.int (0 : Int32)), .unset] [(.int zl)])) (fun t k => X0.arraylength hx (by rw [e0]; exact Ar1.1) (State.isArrayOf_alike hZ.alike Ar1.2.1) (g := (mkF m 3 #[.val (.ref a0), .val (.int p1), .val (.int (0 : Int32)), .unset] [(.ref a0)])) rfl rfl (hb hby d3_3) _ (by rw [len_of S1 M1]; exact k)) ?_
  refine Go.to (g' := (mkF m 5 #[.val (.ref a0), .val (.int p1), .val (.int (0 : Int32)), .val (.int zl)] [])) (fun t k => XS.istoreN X0.here hx rfl (hb hby d3_4) rfl (l' := #[.val (.ref a0), .val (.int p1), .val (.int (0 : Int32)), .val (.int zl)]) rfl k) ?_
  suffices loop : ∀ (n : Nat) (T_loop : State) (lc_loop : List Loc) (h_loop : Heap) (i : Int32) (gi : Int32 → Int32) (hm : (zl.toInt - i.toInt).toNat < n) (X_loop : Stand p l e ({ frames := 0, cells := 0, slots := 0, locals := 0 } : Room) s m #[(.ref a0), (.int p1)] below meth c T_loop lc_loop 0 0) (e_loop : T_loop.heap = h_loop) (N_loop : Fr n0 lc_loop) (Z_loop : n0 ≤ h_loop.size) (K_loop : Keep h0 h_loop [a0]) (F_loop_0 : own_Az Z h_loop a0 .int zl gi) (hi : ¬ i < 0) (hle : i.toInt ≤ zl.toInt) (hg : ∀ j : Int32, ¬ j < 0 → j < i → gi j = p1), Go p e below s (Q3 Z a0 p1 zl f h0 n0) ({ frames := 0, cells := 0, slots := 0, locals := 0 } : Room).cells ({ frames := 0, cells := 0, slots := 0, locals := 0 } : Room).slots (T_loop.setTop (mkF m 5 #[.val (.ref a0), .val (.int p1), .val (.int i), .val (.int zl)] [])) from loop ((zl.toInt - (0 : Int32).toInt).toNat + 1) _ _ _ (0 : Int32) f (Nat.lt_succ_self _) X0 e0 N0 Z0 (Keep.refl h0 [a0]) A0 (by decide) (own_nneg hz) (fun j h1 h2 => absurd h2 h1)
  intro n
  induction n with
  | zero => intro T_loop lc_loop h_loop i gi hm X_loop e_loop N_loop Z_loop K_loop F_loop_0 hi hle hg; exact absurd hm (Nat.not_lt_zero _)
  | succ n ih =>
    intro T_loop lc_loop h_loop i gi hm X_loop e_loop N_loop Z_loop K_loop F_loop_0 hi hle hg
    refine Go.to (g' := (mkF m 6 #[.val (.ref a0), .val (.int p1), .val (.int i), .val (.int zl)] [(.int i)])) (fun t k => XS.iloadN X_loop.here hx rfl (hb hby d3_5) rfl k) ?_
    refine Go.to (g' := (mkF m 7 #[.val (.ref a0), .val (.int p1), .val (.int i), .val (.int zl)] [(.int zl), (.int i)])) (fun t k => XS.iloadN X_loop.here hx rfl (hb hby d3_6) rfl k) ?_
    by_cases c2 : i < zl
    · refine Go.to (g' := (mkF m 10 #[.val (.ref a0), .val (.int p1), .val (.int i), .val (.int zl)] [])) (fun t k => XS.icmpNo X_loop.here hx rfl (hb hby d3_7) rfl (tlt c2).2.1 k) ?_
      refine Go.to (g' := (mkF m 11 #[.val (.ref a0), .val (.int p1), .val (.int i), .val (.int zl)] [(.ref a0)])) (fun t k => XS.aloadN X_loop.here hx rfl (hb hby d3_10) rfl rfl k) ?_
      refine Go.to (g' := (mkF m 12 #[.val (.ref a0), .val (.int p1), .val (.int i), .val (.int zl)] [(.int i), (.ref a0)])) (fun t k => XS.iloadN X_loop.here hx rfl (hb hby d3_11) rfl k) ?_
      refine Go.to (g' := (mkF m 13 #[.val (.ref a0), .val (.int p1), .val (.int i), .val (.int zl)] [(.int p1), (.int i), (.ref a0)])) (fun t k => XS.iloadN X_loop.here hx rfl (hb hby d3_12) rfl k) ?_
      obtain ⟨cl3, Ar3, Sz3, Mz3, Hf3⟩ := id F_loop_0
      obtain ⟨T4, h4, X4, e4, W4, st4⟩ := stI X_loop hx hZ e_loop Ar3 (j := i) (inb_of Sz3 ⟨hi, c2⟩) (g := (mkF m 13 #[.val (.ref a0), .val (.int p1), .val (.int i), .val (.int zl)] [(.int p1), (.int i), (.ref a0)])) rfl rfl (hb hby d3_13)
      have Z4 : n0 ≤ h4.size := Nat.le_trans Z_loop (Keep.of_wr W4).1
      have K4 : Keep h0 h4 [a0] := K_loop.wr W4 (Or.inl (List.mem_of_getElem? (i := 0) rfl))
      have N4 := Fr.snoc X4 N_loop g_a0
      have B4 : own_Az Z h4 a0 .int zl (own_upd gi i p1) := F_loop_0.set hi W4
      refine Go.to (g' := (mkF m 14 #[.val (.ref a0), .val (.int p1), .val (.int i), .val (.int zl)] [])) st4 ?_
      refine Go.to (g' := (mkF m 17 #[.val (.ref a0), .val (.int p1), .val (.int (i + (1 : Int32))), .val (.int zl)] [])) (fun t k => XS.iinc X4.here hx rfl (hb hby d3_14) rfl (l' := #[.val (.ref a0), .val (.int p1), .val (.int (i + (1 : Int32))), .val (.int zl)]) rfl k) ?_
      refine Go.to (g' := (mkF m 5 #[.val (.ref a0), .val (.int p1), .val (.int (i + (1 : Int32))), .val (.int zl)] [])) (fun t k => XS.goto X4.here hx rfl (pc0 := 17) (pc' := 5) rfl (hb hby d3_17) (by decide) (by decide) k) ?_
      exact ih _ _ _ _ _ (own_l1 c2 hm) X4 e4 N4 Z4 K4 B4 (own_i1 c2 hi) (own_le1 c2) (own_ext (g := fun _ => p1) c2 hg rfl)
    · refine Go.to (g' := (mkF m 20 #[.val (.ref a0), .val (.int p1), .val (.int i), .val (.int zl)] [])) (fun t k => XS.icmpYes X_loop.here hx rfl (pc0 := 7) (pc' := 20) rfl (hb hby d3_7) rfl (flt c2).2.1 (by decide) (by decide) k) ?_
      exact Go.ret X_loop hx Bd.returns Bd.notSynchronized (hb hby d3_20) (by decide) (by decide) e_loop ⟨_, rfl, N_loop, K_loop, F_loop_0, own_done c2 hg⟩

theorem own_n (a : Int32) : 1 ≤ ((1 : Int32) + (a &&& (127 : Int32))).toInt ∧ ((1 : Int32) + (a &&& (127 : Int32))).toInt ≤ 128 := by
  have h1 := c_mask a (127 : Int32) 7 (by decide) (by decide)
  have h2 := c_iadd (1 : Int32) (a &&& (127 : Int32))
  have h3 := rng32 ((1 : Int32) + (a &&& (127 : Int32)))
  rw [show (1 : Int32).toInt = 1 from rfl] at h2
  omega
theorem own_pl (b : Int32) {nn : Int32} (h : 1 ≤ nn.toInt) : ¬ ((b &&& (2147483647 : Int32)) % nn) < 0 ∧ ((b &&& (2147483647 : Int32)) % nn) < nn := by
  have h1 := c_mask b (2147483647 : Int32) 31 (by decide) (by decide)
  have h2 := (c_iremV (b &&& (2147483647 : Int32)) nn).1 (by omega) (by omega)
  rw [own_ltz, Int32.lt_iff_toInt_lt]
  omega
theorem own_b1 (x : Int32) : 0 ≤ (x &&& (1 : Int32)).toInt ∧ (x &&& (1 : Int32)).toInt ≤ 1 := by
  have h1 := c_mask x (1 : Int32) 1 (by decide) (by decide)
  omega
theorem own_fi (pl : Int32) {fr : Int32} (h1 : 0 ≤ fr.toInt) (h2 : fr.toInt ≤ 1) : ¬ (fr + (own_w pl)) < 0 ∧ (fr + (own_w pl)) < (3 : Int32) := by
  have q : 0 ≤ (own_w pl).toInt ∧ (own_w pl).toInt ≤ 1 := by
    by_cases e : pl < (64 : Int32)
    · rw [own_w0 e]; decide
    · rw [own_w1 e]; decide
  have q1 := c_iadd fr (own_w pl)
  have q2 := rng32 (fr + own_w pl)
  rw [own_ltz, Int32.lt_iff_toInt_lt, show (3 : Int32).toInt = 3 from rfl]
  omega
def own_jv (v : Value) : Int64 := match v with
  | .long x => x
  | _ => 0
theorem own_lz3 {Z : State} {h : Heap} {a : Addr} {k : ClassId} {x0 x1 x2 : Int64} (V : Arv Z h a k .long (3 : Int32) [.long x0, .long x1, .long x2] (.long (0 : Int64))) : ∃ fx, own_Lz Z h a (3 : Int32) fx := by
  obtain ⟨c, A, -, S, M, H, G⟩ := V
  refine ⟨fun j => own_jv (([.long x0, .long x1, .long x2] : List Value).getD j.toNatClampNeg (.long (0 : Int64))), c, A, S, M, fun j h1 h2 => ?_⟩
  have hk : j.toNatClampNeg < c.slots.size := Nat.lt_of_not_le fun q => inb_of S ⟨h1, h2⟩ (Or.inr q)
  have e2 := G _ hk
  rw [H _ hk]
  show some (([.long x0, .long x1, .long x2] : List Value).getD j.toNatClampNeg (.long (0 : Int64))) = some (.long (own_jv (([.long x0, .long x1, .long x2] : List Value).getD j.toNatClampNeg (.long (0 : Int64)))))
  cases hv : ([.long x0, .long x1, .long x2] : List Value).getD j.toNatClampNeg (.long (0 : Int64)) with
  | long x => rfl
  | _ => rw [hv] at e2; simp [fits] at e2
theorem own_tb (x : Int64) (s : Int32) : ((((x.toUInt64 >>> (s &&& 0x3f).toInt64.toUInt64).toInt64) &&& (1 : Int64)).toInt32 = if (x &&& ((1 : Int64) <<< (s &&& 0x3f).toInt64)) = (0 : Int64) then (0 : Int32) else (1 : Int32)) := by
  obtain ⟨k, hk⟩ : ∃ k, s.toBitVec.toNat % 64 = k := ⟨_, rfl⟩
  obtain ⟨hb1, hlt⟩ := sm64 s k hk
  have hL : ((((x.toUInt64 >>> (s &&& 0x3f).toInt64.toUInt64).toInt64) &&& (1 : Int64)).toBitVec).toNat = x.toBitVec.toNat / 2 ^ k % 2 := by
    show ((x.toBitVec >>> ((s &&& 0x3f).toInt64.toBitVec % 64)) &&& (1 : Int64).toBitVec).toNat = _
    have h3 : (x.toBitVec >>> ((s &&& 0x3f).toInt64.toBitVec % 64)).toNat = x.toBitVec.toNat / 2 ^ k := by
      rw [BitVec.ushiftRight_eq', BitVec.toNat_ushiftRight, Nat.shiftRight_eq_div_pow, BitVec.toNat_umod, hb1, BitVec.toNat_ofNat]
      congr 2
      show k % 2 ^ 64 % 64 = k
      omega
    rw [BitVec.toNat_and, h3, show (1 : Int64).toBitVec.toNat = 1 from rfl, Nat.and_one_is_mod]
  have hR : (x &&& ((1 : Int64) <<< (s &&& 0x3f).toInt64)) = (0 : Int64) ↔ x.toBitVec.getLsbD k = false := by
    rw [← Int64.toBitVec_inj]
    show (x.toBitVec &&& ((1 : Int64).toBitVec <<< ((s &&& 0x3f).toInt64.toBitVec.smod 64))) = 0#64 ↔ _
    rw [BitVec.shiftLeft_eq', hb1, smod64 k hlt]
    show (x.toBitVec &&& (1#64 <<< k)) = 0#64 ↔ _
    constructor
    · intro h
      have h2 := congrArg (fun y => BitVec.getLsbD y k) h
      simpa [hlt] using h2
    · intro h
      apply BitVec.eq_of_getLsbD_eq
      intro i hi
      by_cases e : i = k
      · subst e
        simp [h]
      · simp only [BitVec.getLsbD_and, BitVec.getLsbD_shiftLeft, BitVec.getLsbD_one, BitVec.getLsbD_zero]
        by_cases e2 : i < k
        · simp [e2]
        · have : ¬ i - k = 0 := by omega
          simp [this]
  have hT : x.toBitVec.getLsbD k = decide (x.toBitVec.toNat / 2 ^ k % 2 = 1) := by
    rw [← BitVec.testBit_toNat, Nat.testBit_eq_decide_div_mod_eq]
  by_cases hz : x.toBitVec.toNat / 2 ^ k % 2 = 1
  · rw [if_neg (by rw [hR, hT]; simp [hz])]
    have e : (((x.toUInt64 >>> (s &&& 0x3f).toInt64.toUInt64).toInt64) &&& (1 : Int64)) = (1 : Int64) := Int64.toBitVec_inj.mp (BitVec.eq_of_toNat_eq (by rw [hL, hz]; rfl))
    rw [e]
    rfl
  · rw [if_pos (by rw [hR, hT]; simp [hz])]
    have e : (((x.toUInt64 >>> (s &&& 0x3f).toInt64.toUInt64).toInt64) &&& (1 : Int64)) = (0 : Int64) := Int64.toBitVec_inj.mp (BitVec.eq_of_toNat_eq (by rw [hL]; show _ = 0; omega))
    rw [e]
    rfl
theorem own_tk0 {x : Int64} {s : Int32} (h : (x &&& ((1 : Int64) <<< (s &&& 0x3f).toInt64)) = (0 : Int64)) : (((x.toUInt64 >>> (s &&& 0x3f).toInt64.toUInt64).toInt64) &&& (1 : Int64)).toInt32 = (0 : Int32) := by
  rw [own_tb, if_pos h]
theorem own_tk1 {x : Int64} {s : Int32} (h : ¬ (x &&& ((1 : Int64) <<< (s &&& 0x3f).toInt64)) = (0 : Int64)) : (((x.toUInt64 >>> (s &&& 0x3f).toInt64.toUInt64).toInt64) &&& (1 : Int64)).toInt32 = (1 : Int32) := by
  rw [own_tb, if_neg h]

theorem ef_rm6 (m : MethodId) (x0 : Addr) (x1 : Int32) : entryFrame m #[(.ref x0), (.int x1)] 4 = mkF m 0 #[.val (.ref x0), .val (.int x1), .unset, .unset] [] := by first | (simp [entryFrame, mkF, argsToLocals, Value.category]; done) | rfl
def Q6 (Z : State) (a0 : Addr) (p1 : Int32) (zl : Int32) (f : Int32 → Int32) (h0 : Heap) (n0 : Nat) (v : Option Value) (h : Heap) (L : List Loc) : Prop := ∃ g : Int32 → Int32, v = none ∧ Fr n0 L ∧ Keep h0 h [a0] ∧ own_Az Z h a0 .boolean zl g
set_option maxRecDepth 65536 in
set_option maxHeartbeats 40000000 in
theorem rm6 (l : Launch) (Z : State) (aw : Array Value) (hw : ∀ d ∈ tables_1, d.before aw Z = true) (ws : List Jvm.Cond) (a0 : Addr) (p1 : Int32) (zl : Int32) (f : Int32 → Int32) (h0 : Heap) (n0 : Nat) (Z0 : n0 ≤ h0.size) (A0 : own_Az Z h0 a0 .boolean zl f) (hz : ¬ zl < 0) (g_a0 : n0 ≤ a0) :
    MetFree l (⟨"java/util/Arrays", "fill", "([ZZ)V"⟩ : MethodName) (head1 (Jvm.Cond.code (⟨"java/util/Arrays", "fill", "([ZZ)V"⟩ : MethodName) jdk_65_method_111_code 4 none :: ws) ({ frames := 0, cells := 0, slots := 0, locals := 0 } : Room)) (fun a U => a = #[(.ref a0), (.int p1)] ∧ Z.Warmed39 U.vm ∧ U.heap = h0) (fun _ _ _ _ _ => True) (fun _ U o U' => ∃ v L, o = .returned v ∧ Q6 Z a0 p1 zl f h0 n0 v U'.heap L ∧ FrameEnd U o U' L ({ frames := 0, cells := 0, slots := 0, locals := 0 } : Room).cells ({ frames := 0, cells := 0, slots := 0, locals := 0 } : Room).slots) := by
  refine MetFree.of_bodySF (plainFor_of_name pn_java_util_Arrays) hisR ?_
  intro p e s m args below meth c s₁ Bd hml0 hP hK
  obtain ⟨rfl, hZ, hh⟩ := hP
  have hx := Bd.exec
  have hby := Bd.bytes
  have hml : c.maxLocals = 4 := hml0
  have hown : s.vm.findClass "java/util/Arrays" = some m.cls := findClass_of_methodNamed Bd.named
  have hnm := (name_of_methodNamed Bd.named Bd.method).1
  have X0 : Stand p l e ({ frames := 0, cells := 0, slots := 0, locals := 0 } : Room) s m #[(.ref a0), (.int p1)] below meth c s₁ [] 0 0 := Stand.of_body Bd
  have e0 : s₁.heap = h0 := by rw [← hh, Bd.state]; rfl
  have N0 := Fr.nil n0
  refine own_go (Q := Q6 Z a0 p1 zl f h0 n0) ?_
  refine Go.to (g' := (mkF m 0 #[.val (.ref a0), .val (.int p1), .unset, .unset] [])) (fun t k => castTop (ef_rm6 m a0 p1) k) ?_
  refine Go.to (g' := (mkF m 1 #[.val (.ref a0), .val (.int p1), .unset, .unset] [(.int (0 : Int32))])) (fun t k => XS.iconst X0.here hx rfl (hb hby d6_0) k) ?_
  refine Go.to (g' := (mkF m 2 #[.val (.ref a0), .val (.int p1), .val (.int (0 : Int32)), .unset] [])) (fun t k => XS.istoreN X0.here hx rfl (hb hby d6_1) rfl (l' := #[.val (.ref a0), .val (.int p1), .val (.int (0 : Int32)), .unset]) rfl k) ?_
  refine Go.to (g' := (mkF m 3 #[.val (.ref a0), .val (.int p1), .val (.int (0 : Int32)), .unset] [(.ref a0)])) (fun t k => XS.aloadN X0.here hx rfl (hb hby d6_2) rfl rfl k) ?_
  obtain ⟨cl1, Ar1, S1, M1, -⟩ := id A0
  refine Go.to (g' := (mkF m 4 #[.val (.ref a0), .val (.int p1), .val (.int (0 : Int32)), .unset] [(.int zl)])) (fun t k => X0.arraylength hx (by rw [e0]; exact Ar1.1) (State.isArrayOf_alike hZ.alike Ar1.2.1) (g := (mkF m 3 #[.val (.ref a0), .val (.int p1), .val (.int (0 : Int32)), .unset] [(.ref a0)])) rfl rfl (hb hby d6_3) _ (by rw [len_of S1 M1]; exact k)) ?_
  refine Go.to (g' := (mkF m 5 #[.val (.ref a0), .val (.int p1), .val (.int (0 : Int32)), .val (.int zl)] [])) (fun t k => XS.istoreN X0.here hx rfl (hb hby d6_4) rfl (l' := #[.val (.ref a0), .val (.int p1), .val (.int (0 : Int32)), .val (.int zl)]) rfl k) ?_
  suffices loop : ∀ (n : Nat) (T_loop : State) (lc_loop : List Loc) (h_loop : Heap) (i : Int32) (gi : Int32 → Int32) (hm : (zl.toInt - i.toInt).toNat < n) (X_loop : Stand p l e ({ frames := 0, cells := 0, slots := 0, locals := 0 } : Room) s m #[(.ref a0), (.int p1)] below meth c T_loop lc_loop 0 0) (e_loop : T_loop.heap = h_loop) (N_loop : Fr n0 lc_loop) (Z_loop : n0 ≤ h_loop.size) (K_loop : Keep h0 h_loop [a0]) (F_loop_0 : own_Az Z h_loop a0 .boolean zl gi) (hi : ¬ i < 0) (hle : i.toInt ≤ zl.toInt), Go p e below s (Q6 Z a0 p1 zl f h0 n0) ({ frames := 0, cells := 0, slots := 0, locals := 0 } : Room).cells ({ frames := 0, cells := 0, slots := 0, locals := 0 } : Room).slots (T_loop.setTop (mkF m 5 #[.val (.ref a0), .val (.int p1), .val (.int i), .val (.int zl)] [])) from loop ((zl.toInt - (0 : Int32).toInt).toNat + 1) _ _ _ (0 : Int32) f (Nat.lt_succ_self _) X0 e0 N0 Z0 (Keep.refl h0 [a0]) A0 (by decide) (own_nneg hz)
  intro n
  induction n with
  | zero => intro T_loop lc_loop h_loop i gi hm X_loop e_loop N_loop Z_loop K_loop F_loop_0 hi hle; exact absurd hm (Nat.not_lt_zero _)
  | succ n ih =>
    intro T_loop lc_loop h_loop i gi hm X_loop e_loop N_loop Z_loop K_loop F_loop_0 hi hle
    refine Go.to (g' := (mkF m 6 #[.val (.ref a0), .val (.int p1), .val (.int i), .val (.int zl)] [(.int i)])) (fun t k => XS.iloadN X_loop.here hx rfl (hb hby d6_5) rfl k) ?_
    refine Go.to (g' := (mkF m 7 #[.val (.ref a0), .val (.int p1), .val (.int i), .val (.int zl)] [(.int zl), (.int i)])) (fun t k => XS.iloadN X_loop.here hx rfl (hb hby d6_6) rfl k) ?_
    by_cases c2 : i < zl
    · refine Go.to (g' := (mkF m 10 #[.val (.ref a0), .val (.int p1), .val (.int i), .val (.int zl)] [])) (fun t k => XS.icmpNo X_loop.here hx rfl (hb hby d6_7) rfl (tlt c2).2.1 k) ?_
      refine Go.to (g' := (mkF m 11 #[.val (.ref a0), .val (.int p1), .val (.int i), .val (.int zl)] [(.ref a0)])) (fun t k => XS.aloadN X_loop.here hx rfl (hb hby d6_10) rfl rfl k) ?_
      refine Go.to (g' := (mkF m 12 #[.val (.ref a0), .val (.int p1), .val (.int i), .val (.int zl)] [(.int i), (.ref a0)])) (fun t k => XS.iloadN X_loop.here hx rfl (hb hby d6_11) rfl k) ?_
      refine Go.to (g' := (mkF m 13 #[.val (.ref a0), .val (.int p1), .val (.int i), .val (.int zl)] [(.int p1), (.int i), (.ref a0)])) (fun t k => XS.iloadN X_loop.here hx rfl (hb hby d6_12) rfl k) ?_
      obtain ⟨cl3, Ar3, Sz3, Mz3, Hf3⟩ := id F_loop_0
      obtain ⟨T4, h4, X4, e4, W4, st4⟩ := stZ X_loop hx hZ e_loop Ar3 (j := i) (inb_of Sz3 ⟨hi, c2⟩) (g := (mkF m 13 #[.val (.ref a0), .val (.int p1), .val (.int i), .val (.int zl)] [(.int p1), (.int i), (.ref a0)])) rfl rfl (hb hby d6_13)
      have Z4 : n0 ≤ h4.size := Nat.le_trans Z_loop (Keep.of_wr W4).1
      have K4 : Keep h0 h4 [a0] := K_loop.wr W4 (Or.inl (List.mem_of_getElem? (i := 0) rfl))
      have N4 := Fr.snoc X4 N_loop g_a0
      have B4 : own_Az Z h4 a0 .boolean zl (own_upd gi i ((p1) &&& 1)) := F_loop_0.set hi W4
      refine Go.to (g' := (mkF m 14 #[.val (.ref a0), .val (.int p1), .val (.int i), .val (.int zl)] [])) st4 ?_
      refine Go.to (g' := (mkF m 17 #[.val (.ref a0), .val (.int p1), .val (.int (i + (1 : Int32))), .val (.int zl)] [])) (fun t k => XS.iinc X4.here hx rfl (hb hby d6_14) rfl (l' := #[.val (.ref a0), .val (.int p1), .val (.int (i + (1 : Int32))), .val (.int zl)]) rfl k) ?_
      refine Go.to (g' := (mkF m 5 #[.val (.ref a0), .val (.int p1), .val (.int (i + (1 : Int32))), .val (.int zl)] [])) (fun t k => XS.goto X4.here hx rfl (pc0 := 17) (pc' := 5) rfl (hb hby d6_17) (by decide) (by decide) k) ?_
      exact ih _ _ _ _ _ (own_l1 c2 hm) X4 e4 N4 Z4 K4 B4 (own_i1 c2 hi) (own_le1 c2)
    · refine Go.to (g' := (mkF m 20 #[.val (.ref a0), .val (.int p1), .val (.int i), .val (.int zl)] [])) (fun t k => XS.icmpYes X_loop.here hx rfl (pc0 := 7) (pc' := 20) rfl (hb hby d6_7) rfl (flt c2).2.1 (by decide) (by decide) k) ?_
      exact Go.ret X_loop hx Bd.returns Bd.notSynchronized (hb hby d6_20) (by decide) (by decide) e_loop ⟨_, rfl, N_loop, K_loop, F_loop_0⟩

theorem ef_rm2 (m : MethodId) (x0 : Int32) (x1 : Int32) : entryFrame m #[(.int x0), (.int x1)] 3 = mkF m 0 #[.val (.int x0), .val (.int x1), .unset] [] := by first | (simp [entryFrame, mkF, argsToLocals, Value.category]; done) | rfl
def Q2 (Z : State) (p0 : Int32) (p1 : Int32) (h0 : Heap) (n0 : Nat) (v : Option Value) (h : Heap) (L : List Loc) : Prop := ∃ (b : Addr) (g : Int32 → Int32), v = some (.ref b) ∧ Fr n0 L ∧ n0 ≤ b ∧ h0.size ≤ b ∧ Keep h0 h [] ∧ own_Az Z h b .int p0 g ∧ ∀ j : Int32, ¬ j < 0 → j < p0 → g j = p1
set_option maxRecDepth 65536 in
set_option maxHeartbeats 40000000 in
theorem rm2 (l : Launch) (Z : State) (aw : Array Value) (hw : ∀ d ∈ tables_1, d.before aw Z = true) (ws : List Jvm.Cond) (p0 : Int32) (p1 : Int32) (h0 : Heap) (n0 : Nat) (Z0 : n0 ≤ h0.size) (hp : ¬ p0 < 0) (hc : p0.toInt ≤ 128) :
    MetFree l (⟨"com/example/skuld/skuld/analysis/Layout", "filled", "(II)[I"⟩ : MethodName) (head1 (Jvm.Cond.code (⟨"com/example/skuld/skuld/analysis/Layout", "filled", "(II)[I"⟩ : MethodName) prog_19_method_4_code 3 (some (.array .int)) :: ws) ({ frames := 1, cells := 1, slots := 128, locals := 15 } : Room)) (fun a U => a = #[(.int p0), (.int p1)] ∧ Z.Warmed39 U.vm ∧ U.heap = h0) (fun _ _ _ _ _ => True) (fun _ U o U' => ∃ v L, o = .returned v ∧ Q2 Z p0 p1 h0 n0 v U'.heap L ∧ FrameEnd U o U' L ({ frames := 1, cells := 1, slots := 128, locals := 15 } : Room).cells ({ frames := 1, cells := 1, slots := 128, locals := 15 } : Room).slots) := by
  refine MetFree.of_bodySF (plainFor_of_name pn_com_example_skuld_skuld_analysis_Layout) hisR ?_
  intro p e s m args below meth c s₁ Bd hml0 hP hK
  obtain ⟨rfl, hZ, hh⟩ := hP
  have hx := Bd.exec
  have hby := Bd.bytes
  have hml : c.maxLocals = 3 := hml0
  have hown : s.vm.findClass "com/example/skuld/skuld/analysis/Layout" = some m.cls := findClass_of_methodNamed Bd.named
  have hnm := (name_of_methodNamed Bd.named Bd.method).1
  have X0 : Stand p l e ({ frames := 1, cells := 1, slots := 128, locals := 15 } : Room) s m #[(.int p0), (.int p1)] below meth c s₁ [] 0 0 := Stand.of_body Bd
  have e0 : s₁.heap = h0 := by rw [← hh, Bd.state]; rfl
  have N0 := Fr.nil n0
  refine own_go (Q := Q2 Z p0 p1 h0 n0) ?_
  refine Go.to (g' := (mkF m 0 #[.val (.int p0), .val (.int p1), .unset] [])) (fun t k => castTop (ef_rm2 m p0 p1) k) ?_
  refine Go.to (g' := (mkF m 1 #[.val (.int p0), .val (.int p1), .unset] [(.int p0)])) (fun t k => XS.iloadN X0.here hx rfl (hb hby d2_0) rfl k) ?_
  obtain ⟨T1, h1, k1, X1, e1, E1, A1, st1⟩ := newP X0 hx hZ (hw _ (List.mem_of_getElem? (i := 11) rfl)) e0 (g := (mkF m 1 #[.val (.int p0), .val (.int p1), .unset] [(.int p0)])) rfl (hb hby d2_1) rfl hp (cap := 128) (own_cap hc) (by decide) (by decide) (by decide)
  obtain ⟨nb, g1⟩ : ∃ z, z = h0.size := ⟨_, rfl⟩
  rw [← g1] at A1 st1
  have g_nb : n0 ≤ nb := Nat.le_trans Z0 (Nat.le_of_eq g1.symm)
  have sz_nb : h0.size ≤ nb := Nat.le_trans (Keep.refl h0 []).1 (Nat.le_of_eq g1.symm)
  have Z1 : n0 ≤ h1.size := Nat.le_trans Z0 E1.1
  have K1 : Keep h0 h1 [] := (Keep.refl h0 []).ext E1
  have V_nb : Arv Z h1 nb k1 .int p0 [] (.int (0 : Int32)) := Arv.new A1 hp
  refine Go.to (g' := (mkF m 3 #[.val (.int p0), .val (.int p1), .unset] [(.ref nb)])) st1 ?_
  have A_nb := own_az_of V_nb
  refine Go.to (g' := (mkF m 4 #[.val (.int p0), .val (.int p1), .val (.ref nb)] [])) (fun t k => XS.astoreN X1.here hx rfl (hb hby d2_3) rfl rfl (l' := #[.val (.int p0), .val (.int p1), .val (.ref nb)]) rfl k) ?_
  refine Go.to (g' := (mkF m 5 #[.val (.int p0), .val (.int p1), .val (.ref nb)] [(.ref nb)])) (fun t k => XS.aloadN X1.here hx rfl (hb hby d2_4) rfl rfl k) ?_
  refine Go.to (g' := (mkF m 6 #[.val (.int p0), .val (.int p1), .val (.ref nb)] [(.int p1), (.ref nb)])) (fun t k => XS.iloadN X1.here hx rfl (hb hby d2_5) rfl k) ?_
  obtain ⟨v2, _, ⟨T2, L2, k2, n2⟩, -, X2, ⟨Lc2, hQ2, l2, y2, z2⟩, st2⟩ := Jvm.LawKit.callS X1 hx (y := (⟨"java/util/Arrays", "fill", "([II)V"⟩ : MethodName)) hown (mvT hZ (hw _ (List.mem_of_getElem? (i := 12) rfl))) (mvT hZ (hw _ (List.mem_of_getElem? (i := 13) rfl))) (mvT hZ (hw _ (List.mem_of_getElem? (i := 14) rfl))) (mvT hZ (hw _ (List.mem_of_getElem? (i := 15) rfl))) (by decide) (backOf (W := 0) (rm3 l Z aw hw [] nb p1 p0 (fun _ => (0 : Int32)) h1 n0 Z1 A_nb hp g_nb) hZ (hw _ (List.mem_of_getElem? (i := 15) rfl)) (hw _ (List.mem_of_getElem? (i := 14) rfl)) (by decide) (by decide)) (g := (mkF m 6 #[.val (.int p0), .val (.int p1), .val (.ref nb)] [(.int p1), (.ref nb)])) rfl (by rw [hml]; rfl) (argsL := [(.ref nb), (.int p1)]) (rest := []) (lenOf pd_285bII29V rfl) rfl (by show 2 * 0 + _ ≤ _; exact Nat.le_of_eq rfl) (hb hby d2_6) (fun _ _ => ⟨rfl, e1, (by decide : 1 + 0 ≤ _), (by decide : 128 + 0 ≤ _)⟩)
  dsimp only [Pt.U, Pt.locs, Pt.cells, Pt.slots] at X2 l2 y2 z2 st2 hQ2
  subst l2 y2 z2
  obtain ⟨h2, e2⟩ : ∃ z, T2.heap = z := ⟨_, rfl⟩
  rw [e2] at hQ2
  obtain ⟨g2, rfl, N2q, Kq2, A2, hg2⟩ := hQ2
  have N2 := Fr.app N0 N2q
  have Z2 : n0 ≤ h2.size := Nat.le_trans Z1 Kq2.1
  have K2 : Keep h0 h2 [] := K1.trans Kq2 (fun x hx => by cases List.mem_singleton.mp hx; exact Or.inr sz_nb)
  refine Go.to (g' := (mkF m 9 #[.val (.int p0), .val (.int p1), .val (.ref nb)] [])) st2 ?_
  refine Go.to (g' := (mkF m 10 #[.val (.int p0), .val (.int p1), .val (.ref nb)] [(.ref nb)])) (fun t k => XS.aloadN X2.here hx rfl (hb hby d2_9) rfl rfl k) ?_
  exact Go.retA X2 hx Bd.returns Bd.notSynchronized (by rfl) (hb hby d2_10) (by decide) (by decide) e2 ⟨nb, _, rfl, N2, g_nb, sz_nb, K2, A2, hg2⟩

theorem ef_rm4 (m : MethodId) (x0 : Addr) (x1 : Addr) : entryFrame m #[(.ref x0), (.ref x1)] 5 = mkF m 0 #[.val (.ref x0), .val (.ref x1), .unset, .unset, .unset] [] := by first | (simp [entryFrame, mkF, argsToLocals, Value.category]; done) | rfl
def Q4 (Z : State) (a0 : Addr) (a1 : Addr) (zl : Int32) (f : Int32 → Int32) (h0 : Heap) (n0 : Nat) (v : Option Value) (h : Heap) (L : List Loc) : Prop := ∃ (bw bs bl : Addr) (fw fs : Int32 → Int32) (fl : Int32 → Int64), v = none ∧ Fr n0 L ∧ Keep h0 h [a0] ∧ Fld Z h a0 "com/example/skuld/skuld/analysis/Layout" "word" "[I" (.ref bw) ∧ Fld Z h a0 "com/example/skuld/skuld/analysis/Layout" "shift" "[I" (.ref bs) ∧ Fld Z h a0 "com/example/skuld/skuld/analysis/Layout" "largest" "[J" (.ref bl) ∧ own_Az Z h bw .int zl fw ∧ own_Az Z h bs .int zl fs ∧ own_Lz Z h bl zl fl ∧ (∀ j : Int32, ¬ j < 0 → j < zl → fw j = own_w j) ∧ (∀ j : Int32, ¬ j < 0 → j < zl → fs j = own_s j) ∧ (∀ j : Int32, ¬ j < 0 → j < zl → fl j = (1 : Int64))
set_option maxRecDepth 65536 in
set_option maxHeartbeats 40000000 in
theorem rm4 (l : Launch) (Z : State) (aw : Array Value) (hw : ∀ d ∈ tables_1, d.before aw Z = true) (ws : List Jvm.Cond) (a0 : Addr) (a1 : Addr) (zl : Int32) (f : Int32 → Int32) (h0 : Heap) (n0 : Nat) (Z0 : n0 ≤ h0.size) (E_a0 : Exa Z h0 a0 "com/example/skuld/skuld/analysis/Layout") (F_widths : Fld Z h0 a0 "com/example/skuld/skuld/analysis/Layout" "widths" "[I" .null) (F_word : Fld Z h0 a0 "com/example/skuld/skuld/analysis/Layout" "word" "[I" .null) (F_shift : Fld Z h0 a0 "com/example/skuld/skuld/analysis/Layout" "shift" "[I" .null) (F_largest : Fld Z h0 a0 "com/example/skuld/skuld/analysis/Layout" "largest" "[J" .null) (F_words : Fld Z h0 a0 "com/example/skuld/skuld/analysis/Layout" "words" "I" (.int (0 : Int32))) (F_firstPlace : Fld Z h0 a0 "com/example/skuld/skuld/analysis/Layout" "firstPlace" "[I" .null) (F_oneBitFields : Fld Z h0 a0 "com/example/skuld/skuld/analysis/Layout" "oneBitFields" "[Z" .null) (g_a0 : n0 ≤ a0) (A1 : own_Az Z h0 a1 .int zl f) (hne : a0 ≠ a1) (hz : ¬ zl < 0) (hz2 : zl.toInt ≤ 128) (hf : ∀ j : Int32, ¬ j < 0 → j < zl → f j = (1 : Int32)) :
    MetFree l (⟨"com/example/skuld/skuld/analysis/Layout", "<init>", "([I)V"⟩ : MethodName) (head1 (Jvm.Cond.code (⟨"com/example/skuld/skuld/analysis/Layout", "<init>", "([I)V"⟩ : MethodName) prog_19_method_2_code 5 none :: ws) ({ frames := 1, cells := 5, slots := 389, locals := 15 } : Room)) (fun a U => a = #[(.ref a0), (.ref a1)] ∧ Z.Warmed39 U.vm ∧ U.heap = h0) (fun _ _ _ _ _ => True) (fun _ U o U' => ∃ v L, o = .returned v ∧ Q4 Z a0 a1 zl f h0 n0 v U'.heap L ∧ FrameEnd U o U' L ({ frames := 1, cells := 5, slots := 389, locals := 15 } : Room).cells ({ frames := 1, cells := 5, slots := 389, locals := 15 } : Room).slots) := by
  refine MetFree.of_bodySF (plainFor_of_name pn_com_example_skuld_skuld_analysis_Layout) hisR ?_
  intro p e s m args below meth c s₁ Bd hml0 hP hK
  obtain ⟨rfl, hZ, hh⟩ := hP
  have hx := Bd.exec
  have hby := Bd.bytes
  have hml : c.maxLocals = 5 := hml0
  have hown : s.vm.findClass "com/example/skuld/skuld/analysis/Layout" = some m.cls := findClass_of_methodNamed Bd.named
  have hnm := (name_of_methodNamed Bd.named Bd.method).1
  have X0 : Stand p l e ({ frames := 1, cells := 5, slots := 389, locals := 15 } : Room) s m #[(.ref a0), (.ref a1)] below meth c s₁ [] 0 0 := Stand.of_body Bd
  have e0 : s₁.heap = h0 := by rw [← hh, Bd.state]; rfl
  have N0 := Fr.nil n0
  refine own_go (Q := Q4 Z a0 a1 zl f h0 n0) ?_
  refine Go.to (g' := (mkF m 0 #[.val (.ref a0), .val (.ref a1), .unset, .unset, .unset] [])) (fun t k => castTop (ef_rm4 m a0 a1) k) ?_
  refine Go.to (g' := (mkF m 1 #[.val (.ref a0), .val (.ref a1), .unset, .unset, .unset] [(.ref a0)])) (fun t k => XS.aloadN X0.here hx rfl (hb hby d4_0) rfl rfl k) ?_
  obtain ⟨T1, X1, e1, st1⟩ := initO X0 hx hZ hown (hw _ (List.mem_of_getElem? (i := 19) rfl)) (hw _ (List.mem_of_getElem? (i := 20) rfl)) (hw _ (List.mem_of_getElem? (i := 21) rfl)) e0 (g := (mkF m 1 #[.val (.ref a0), .val (.ref a1), .unset, .unset, .unset] [(.ref a0)])) rfl (by rw [hml]; rfl) rfl (hb hby d4_1) (by decide) (W := 0) (by show 2 * 0 + _ ≤ _; exact Nat.le_of_eq rfl) (by decide)
  refine Go.to (g' := (mkF m 4 #[.val (.ref a0), .val (.ref a1), .unset, .unset, .unset] [])) st1 ?_
  refine Go.to (g' := (mkF m 5 #[.val (.ref a0), .val (.ref a1), .unset, .unset, .unset] [(.ref a0)])) (fun t k => XS.aloadN X1.here hx rfl (hb hby d4_4) rfl rfl k) ?_
  refine Go.to (g' := (mkF m 6 #[.val (.ref a0), .val (.ref a1), .unset, .unset, .unset] [(.ref a1), (.ref a0)])) (fun t k => XS.aloadN X1.here hx rfl (hb hby d4_5) rfl rfl k) ?_
  obtain ⟨T2, h2, X2, e2, W2, st2⟩ := putF X1 hx hZ hown (host := "") (Or.inl (hw _ (List.mem_of_getElem? (i := 22) rfl))) Via.refl e1 F_widths E_a0 (Or.inr ⟨(hw _ (List.mem_of_getElem? (i := 23) rfl)), rfl, hnm⟩) (hw _ (List.mem_of_getElem? (i := 3) rfl)) (ty := (.array .int)) (by decide) rfl rfl (g := (mkF m 6 #[.val (.ref a0), .val (.ref a1), .unset, .unset, .unset] [(.ref a1), (.ref a0)])) rfl rfl (hb hby d4_6)
  have Z2 : n0 ≤ h2.size := Nat.le_trans Z0 (Keep.of_wr W2).1
  have K2 : Keep h0 h2 [a0] := (Keep.refl h0 [a0]).wr W2 (Or.inl (List.mem_of_getElem? (i := 0) rfl))
  have N2 := Fr.snoc X2 N0 g_a0
  have Fw2 : Fld Z h2 a0 "com/example/skuld/skuld/analysis/Layout" "widths" "[I" (.ref a1) := F_widths.same W2
  refine Go.to (g' := (mkF m 9 #[.val (.ref a0), .val (.ref a1), .unset, .unset, .unset] [])) st2 ?_
  refine Go.to (g' := (mkF m 10 #[.val (.ref a0), .val (.ref a1), .unset, .unset, .unset] [(.ref a0)])) (fun t k => XS.aloadN X2.here hx rfl (hb hby d4_9) rfl rfl k) ?_
  refine Go.to (g' := (mkF m 11 #[.val (.ref a0), .val (.ref a1), .unset, .unset, .unset] [(.ref a1), (.ref a0)])) (fun t k => XS.aloadN X2.here hx rfl (hb hby d4_10) rfl rfl k) ?_
  have f3 : own_Az Z h2 a1 .int zl f := (A1.other W2 (Ne.symm hne))
  obtain ⟨cl4, Ar4, S4, M4, -⟩ := id f3
  refine Go.to (g' := (mkF m 12 #[.val (.ref a0), .val (.ref a1), .unset, .unset, .unset] [(.int zl), (.ref a0)])) (fun t k => X2.arraylength hx (by rw [e2]; exact Ar4.1) (State.isArrayOf_alike hZ.alike Ar4.2.1) (g := (mkF m 11 #[.val (.ref a0), .val (.ref a1), .unset, .unset, .unset] [(.ref a1), (.ref a0)])) rfl rfl (hb hby d4_11) _ (by rw [len_of S4 M4]; exact k)) ?_
  obtain ⟨T5, h5, k5, X5, e5, E5, A5, st5⟩ := newP X2 hx hZ (hw _ (List.mem_of_getElem? (i := 11) rfl)) e2 (g := (mkF m 12 #[.val (.ref a0), .val (.ref a1), .unset, .unset, .unset] [(.int zl), (.ref a0)])) rfl (hb hby d4_12) rfl hz (cap := 128) (own_cap hz2) (by decide) (by decide) (by decide)
  obtain ⟨bw, g5⟩ : ∃ z, z = h2.size := ⟨_, rfl⟩
  rw [← g5] at A5 st5
  have f6 : Exa Z h2 a0 "com/example/skuld/skuld/analysis/Layout" := (E_a0.wr W2)
  have ne_a0_bw : a0 ≠ bw := Nat.ne_of_lt (Nat.lt_of_lt_of_le f6.lt (Nat.le_of_eq g5.symm))
  have ne_a1_bw : a1 ≠ bw := Nat.ne_of_lt (Nat.lt_of_lt_of_le f3.lt (Nat.le_of_eq g5.symm))
  have g_bw : n0 ≤ bw := Nat.le_trans Z2 (Nat.le_of_eq g5.symm)
  have sz_bw : h0.size ≤ bw := Nat.le_trans K2.1 (Nat.le_of_eq g5.symm)
  have Z5 : n0 ≤ h5.size := Nat.le_trans Z2 E5.1
  have K5 : Keep h0 h5 [a0] := K2.ext E5
  have V_bw : Arv Z h5 bw k5 .int zl [] (.int (0 : Int32)) := Arv.new A5 hz
  refine Go.to (g' := (mkF m 14 #[.val (.ref a0), .val (.ref a1), .unset, .unset, .unset] [(.ref bw), (.ref a0)])) st5 ?_
  have A_bw := own_az_of V_bw
  have f7 : Fld Z h5 a0 "com/example/skuld/skuld/analysis/Layout" "word" "[I" .null := ((F_word.other W2 (Or.inr (slot_ne (Or.inr (hw _ (List.mem_of_getElem? (i := 25) rfl))) (Or.inr (hw _ (List.mem_of_getElem? (i := 23) rfl))) (by decide) (t := (.array .int)) (t' := (.array .int)) (by decide) (by decide)))).ext E5)
  have f8 : Exa Z h5 a0 "com/example/skuld/skuld/analysis/Layout" := (f6.ext E5)
  obtain ⟨T9, h9, X9, e9, W9, st9⟩ := putF X5 hx hZ hown (host := "") (Or.inl (hw _ (List.mem_of_getElem? (i := 24) rfl))) Via.refl e5 f7 f8 (Or.inr ⟨(hw _ (List.mem_of_getElem? (i := 25) rfl)), rfl, hnm⟩) (hw _ (List.mem_of_getElem? (i := 3) rfl)) (ty := (.array .int)) (by decide) rfl rfl (g := (mkF m 14 #[.val (.ref a0), .val (.ref a1), .unset, .unset, .unset] [(.ref bw), (.ref a0)])) rfl rfl (hb hby d4_14)
  have Z9 : n0 ≤ h9.size := Nat.le_trans Z5 (Keep.of_wr W9).1
  have K9 : Keep h0 h9 [a0] := K5.wr W9 (Or.inl (List.mem_of_getElem? (i := 0) rfl))
  have N9 := Fr.snoc X9 N2 g_a0
  have Fw9 : Fld Z h9 a0 "com/example/skuld/skuld/analysis/Layout" "word" "[I" (.ref bw) := f7.same W9
  refine Go.to (g' := (mkF m 17 #[.val (.ref a0), .val (.ref a1), .unset, .unset, .unset] [])) st9 ?_
  refine Go.to (g' := (mkF m 18 #[.val (.ref a0), .val (.ref a1), .unset, .unset, .unset] [(.ref a0)])) (fun t k => XS.aloadN X9.here hx rfl (hb hby d4_17) rfl rfl k) ?_
  refine Go.to (g' := (mkF m 19 #[.val (.ref a0), .val (.ref a1), .unset, .unset, .unset] [(.ref a1), (.ref a0)])) (fun t k => XS.aloadN X9.here hx rfl (hb hby d4_18) rfl rfl k) ?_
  have f10 : own_Az Z h9 a1 .int zl f := ((f3.ext E5).other W9 (Ne.symm hne))
  obtain ⟨cl11, Ar11, S11, M11, -⟩ := id f10
  refine Go.to (g' := (mkF m 20 #[.val (.ref a0), .val (.ref a1), .unset, .unset, .unset] [(.int zl), (.ref a0)])) (fun t k => X9.arraylength hx (by rw [e9]; exact Ar11.1) (State.isArrayOf_alike hZ.alike Ar11.2.1) (g := (mkF m 19 #[.val (.ref a0), .val (.ref a1), .unset, .unset, .unset] [(.ref a1), (.ref a0)])) rfl rfl (hb hby d4_19) _ (by rw [len_of S11 M11]; exact k)) ?_
  obtain ⟨T12, h12, k12, X12, e12, E12, A12, st12⟩ := newP X9 hx hZ (hw _ (List.mem_of_getElem? (i := 11) rfl)) e9 (g := (mkF m 20 #[.val (.ref a0), .val (.ref a1), .unset, .unset, .unset] [(.int zl), (.ref a0)])) rfl (hb hby d4_20) rfl hz (cap := 128) (own_cap hz2) (by decide) (by decide) (by decide)
  obtain ⟨bs, g12⟩ : ∃ z, z = h9.size := ⟨_, rfl⟩
  rw [← g12] at A12 st12
  have f13 : Exa Z h9 a0 "com/example/skuld/skuld/analysis/Layout" := (f8.wr W9)
  have ne_a0_bs : a0 ≠ bs := Nat.ne_of_lt (Nat.lt_of_lt_of_le f13.lt (Nat.le_of_eq g12.symm))
  have ne_a1_bs : a1 ≠ bs := Nat.ne_of_lt (Nat.lt_of_lt_of_le f10.lt (Nat.le_of_eq g12.symm))
  have f14 : own_Az Z h9 bw .int zl (fun _ => (0 : Int32)) := (A_bw.other W9 (Ne.symm ne_a0_bw))
  have ne_bw_bs : bw ≠ bs := Nat.ne_of_lt (Nat.lt_of_lt_of_le f14.lt (Nat.le_of_eq g12.symm))
  have g_bs : n0 ≤ bs := Nat.le_trans Z9 (Nat.le_of_eq g12.symm)
  have sz_bs : h0.size ≤ bs := Nat.le_trans K9.1 (Nat.le_of_eq g12.symm)
  have Z12 : n0 ≤ h12.size := Nat.le_trans Z9 E12.1
  have K12 : Keep h0 h12 [a0] := K9.ext E12
  have V_bs : Arv Z h12 bs k12 .int zl [] (.int (0 : Int32)) := Arv.new A12 hz
  refine Go.to (g' := (mkF m 22 #[.val (.ref a0), .val (.ref a1), .unset, .unset, .unset] [(.ref bs), (.ref a0)])) st12 ?_
  have A_bs := own_az_of V_bs
  have f15 : Fld Z h12 a0 "com/example/skuld/skuld/analysis/Layout" "shift" "[I" .null := ((((F_shift.other W2 (Or.inr (slot_ne (Or.inr (hw _ (List.mem_of_getElem? (i := 27) rfl))) (Or.inr (hw _ (List.mem_of_getElem? (i := 23) rfl))) (by decide) (t := (.array .int)) (t' := (.array .int)) (by decide) (by decide)))).ext E5).other W9 (Or.inr (slot_ne (Or.inr (hw _ (List.mem_of_getElem? (i := 27) rfl))) (Or.inr (hw _ (List.mem_of_getElem? (i := 25) rfl))) (by decide) (t := (.array .int)) (t' := (.array .int)) (by decide) (by decide)))).ext E12)
  have f16 : Exa Z h12 a0 "com/example/skuld/skuld/analysis/Layout" := (f13.ext E12)
  obtain ⟨T17, h17, X17, e17, W17, st17⟩ := putF X12 hx hZ hown (host := "") (Or.inl (hw _ (List.mem_of_getElem? (i := 26) rfl))) Via.refl e12 f15 f16 (Or.inr ⟨(hw _ (List.mem_of_getElem? (i := 27) rfl)), rfl, hnm⟩) (hw _ (List.mem_of_getElem? (i := 3) rfl)) (ty := (.array .int)) (by decide) rfl rfl (g := (mkF m 22 #[.val (.ref a0), .val (.ref a1), .unset, .unset, .unset] [(.ref bs), (.ref a0)])) rfl rfl (hb hby d4_22)
  have Z17 : n0 ≤ h17.size := Nat.le_trans Z12 (Keep.of_wr W17).1
  have K17 : Keep h0 h17 [a0] := K12.wr W17 (Or.inl (List.mem_of_getElem? (i := 0) rfl))
  have N17 := Fr.snoc X17 N9 g_a0
  have Fw17 : Fld Z h17 a0 "com/example/skuld/skuld/analysis/Layout" "shift" "[I" (.ref bs) := f15.same W17
  refine Go.to (g' := (mkF m 25 #[.val (.ref a0), .val (.ref a1), .unset, .unset, .unset] [])) st17 ?_
  refine Go.to (g' := (mkF m 26 #[.val (.ref a0), .val (.ref a1), .unset, .unset, .unset] [(.ref a0)])) (fun t k => XS.aloadN X17.here hx rfl (hb hby d4_25) rfl rfl k) ?_
  refine Go.to (g' := (mkF m 27 #[.val (.ref a0), .val (.ref a1), .unset, .unset, .unset] [(.ref a1), (.ref a0)])) (fun t k => XS.aloadN X17.here hx rfl (hb hby d4_26) rfl rfl k) ?_
  have f18 : own_Az Z h17 a1 .int zl f := ((f10.ext E12).other W17 (Ne.symm hne))
  obtain ⟨cl19, Ar19, S19, M19, -⟩ := id f18
  refine Go.to (g' := (mkF m 28 #[.val (.ref a0), .val (.ref a1), .unset, .unset, .unset] [(.int zl), (.ref a0)])) (fun t k => X17.arraylength hx (by rw [e17]; exact Ar19.1) (State.isArrayOf_alike hZ.alike Ar19.2.1) (g := (mkF m 27 #[.val (.ref a0), .val (.ref a1), .unset, .unset, .unset] [(.ref a1), (.ref a0)])) rfl rfl (hb hby d4_27) _ (by rw [len_of S19 M19]; exact k)) ?_
  obtain ⟨T20, h20, k20, X20, e20, E20, A20, st20⟩ := newP X17 hx hZ (hw _ (List.mem_of_getElem? (i := 1) rfl)) e17 (g := (mkF m 28 #[.val (.ref a0), .val (.ref a1), .unset, .unset, .unset] [(.int zl), (.ref a0)])) rfl (hb hby d4_28) rfl hz (cap := 128) (own_cap hz2) (by decide) (by decide) (by decide)
  obtain ⟨bl, g20⟩ : ∃ z, z = h17.size := ⟨_, rfl⟩
  rw [← g20] at A20 st20
  have f21 : Exa Z h17 a0 "com/example/skuld/skuld/analysis/Layout" := (f16.wr W17)
  have ne_a0_bl : a0 ≠ bl := Nat.ne_of_lt (Nat.lt_of_lt_of_le f21.lt (Nat.le_of_eq g20.symm))
  have ne_a1_bl : a1 ≠ bl := Nat.ne_of_lt (Nat.lt_of_lt_of_le f18.lt (Nat.le_of_eq g20.symm))
  have f22 : own_Az Z h17 bs .int zl (fun _ => (0 : Int32)) := (A_bs.other W17 (Ne.symm ne_a0_bs))
  have ne_bs_bl : bs ≠ bl := Nat.ne_of_lt (Nat.lt_of_lt_of_le f22.lt (Nat.le_of_eq g20.symm))
  have f23 : own_Az Z h17 bw .int zl (fun _ => (0 : Int32)) := ((f14.ext E12).other W17 (Ne.symm ne_a0_bw))
  have ne_bw_bl : bw ≠ bl := Nat.ne_of_lt (Nat.lt_of_lt_of_le f23.lt (Nat.le_of_eq g20.symm))
  have g_bl : n0 ≤ bl := Nat.le_trans Z17 (Nat.le_of_eq g20.symm)
  have sz_bl : h0.size ≤ bl := Nat.le_trans K17.1 (Nat.le_of_eq g20.symm)
  have Z20 : n0 ≤ h20.size := Nat.le_trans Z17 E20.1
  have K20 : Keep h0 h20 [a0] := K17.ext E20
  have V_bl : Arv Z h20 bl k20 .long zl [] (.long (0 : Int64)) := Arv.new A20 hz
  refine Go.to (g' := (mkF m 30 #[.val (.ref a0), .val (.ref a1), .unset, .unset, .unset] [(.ref bl), (.ref a0)])) st20 ?_
  have A_bl := own_lz_of V_bl
  have f24 : Fld Z h20 a0 "com/example/skuld/skuld/analysis/Layout" "largest" "[J" .null := ((((((F_largest.other W2 (Or.inr (slot_ne (Or.inr (hw _ (List.mem_of_getElem? (i := 29) rfl))) (Or.inr (hw _ (List.mem_of_getElem? (i := 23) rfl))) (by decide) (t := (.array .long)) (t' := (.array .int)) (by decide) (by decide)))).ext E5).other W9 (Or.inr (slot_ne (Or.inr (hw _ (List.mem_of_getElem? (i := 29) rfl))) (Or.inr (hw _ (List.mem_of_getElem? (i := 25) rfl))) (by decide) (t := (.array .long)) (t' := (.array .int)) (by decide) (by decide)))).ext E12).other W17 (Or.inr (slot_ne (Or.inr (hw _ (List.mem_of_getElem? (i := 29) rfl))) (Or.inr (hw _ (List.mem_of_getElem? (i := 27) rfl))) (by decide) (t := (.array .long)) (t' := (.array .int)) (by decide) (by decide)))).ext E20)
  have f25 : Exa Z h20 a0 "com/example/skuld/skuld/analysis/Layout" := (f21.ext E20)
  obtain ⟨T26, h26, X26, e26, W26, st26⟩ := putF X20 hx hZ hown (host := "") (Or.inl (hw _ (List.mem_of_getElem? (i := 28) rfl))) Via.refl e20 f24 f25 (Or.inr ⟨(hw _ (List.mem_of_getElem? (i := 29) rfl)), rfl, hnm⟩) (hw _ (List.mem_of_getElem? (i := 3) rfl)) (ty := (.array .long)) (by decide) rfl rfl (g := (mkF m 30 #[.val (.ref a0), .val (.ref a1), .unset, .unset, .unset] [(.ref bl), (.ref a0)])) rfl rfl (hb hby d4_30)
  have Z26 : n0 ≤ h26.size := Nat.le_trans Z20 (Keep.of_wr W26).1
  have K26 : Keep h0 h26 [a0] := K20.wr W26 (Or.inl (List.mem_of_getElem? (i := 0) rfl))
  have N26 := Fr.snoc X26 N17 g_a0
  have Fw26 : Fld Z h26 a0 "com/example/skuld/skuld/analysis/Layout" "largest" "[J" (.ref bl) := f24.same W26
  refine Go.to (g' := (mkF m 33 #[.val (.ref a0), .val (.ref a1), .unset, .unset, .unset] [])) st26 ?_
  refine Go.to (g' := (mkF m 34 #[.val (.ref a0), .val (.ref a1), .unset, .unset, .unset] [(.int (0 : Int32))])) (fun t k => XS.iconst X26.here hx rfl (hb hby d4_33) k) ?_
  refine Go.to (g' := (mkF m 35 #[.val (.ref a0), .val (.ref a1), .val (.int (0 : Int32)), .unset, .unset] [])) (fun t k => XS.istoreN X26.here hx rfl (hb hby d4_34) rfl (l' := #[.val (.ref a0), .val (.ref a1), .val (.int (0 : Int32)), .unset, .unset]) rfl k) ?_
  refine Go.to (g' := (mkF m 36 #[.val (.ref a0), .val (.ref a1), .val (.int (0 : Int32)), .unset, .unset] [(.int (0 : Int32))])) (fun t k => XS.iconst X26.here hx rfl (hb hby d4_35) k) ?_
  refine Go.to (g' := (mkF m 37 #[.val (.ref a0), .val (.ref a1), .val (.int (0 : Int32)), .val (.int (0 : Int32)), .unset] [])) (fun t k => XS.istoreN X26.here hx rfl (hb hby d4_36) rfl (l' := #[.val (.ref a0), .val (.ref a1), .val (.int (0 : Int32)), .val (.int (0 : Int32)), .unset]) rfl k) ?_
  refine Go.to (g' := (mkF m 38 #[.val (.ref a0), .val (.ref a1), .val (.int (0 : Int32)), .val (.int (0 : Int32)), .unset] [(.int (0 : Int32))])) (fun t k => XS.iconst X26.here hx rfl (hb hby d4_37) k) ?_
  refine Go.to (g' := (mkF m 40 #[.val (.ref a0), .val (.ref a1), .val (.int (0 : Int32)), .val (.int (0 : Int32)), .val (.int (0 : Int32))] [])) (fun t k => XS.istore X26.here hx rfl (hb hby d4_38) rfl (l' := #[.val (.ref a0), .val (.ref a1), .val (.int (0 : Int32)), .val (.int (0 : Int32)), .val (.int (0 : Int32))]) rfl k) ?_
  have f27 : Exa Z h26 a0 "com/example/skuld/skuld/analysis/Layout" := (f25.wr W26)
  have f28 : Fld Z h26 a0 "com/example/skuld/skuld/analysis/Layout" "widths" "[I" (.ref a1) := ((((((Fw2.ext E5).other W9 (Or.inr (slot_ne (Or.inr (hw _ (List.mem_of_getElem? (i := 23) rfl))) (Or.inr (hw _ (List.mem_of_getElem? (i := 25) rfl))) (by decide) (t := (.array .int)) (t' := (.array .int)) (by decide) (by decide)))).ext E12).other W17 (Or.inr (slot_ne (Or.inr (hw _ (List.mem_of_getElem? (i := 23) rfl))) (Or.inr (hw _ (List.mem_of_getElem? (i := 27) rfl))) (by decide) (t := (.array .int)) (t' := (.array .int)) (by decide) (by decide)))).ext E20).other W26 (Or.inr (slot_ne (Or.inr (hw _ (List.mem_of_getElem? (i := 23) rfl))) (Or.inr (hw _ (List.mem_of_getElem? (i := 29) rfl))) (by decide) (t := (.array .int)) (t' := (.array .long)) (by decide) (by decide))))
  have f29 : Fld Z h26 a0 "com/example/skuld/skuld/analysis/Layout" "word" "[I" (.ref bw) := ((((Fw9.ext E12).other W17 (Or.inr (slot_ne (Or.inr (hw _ (List.mem_of_getElem? (i := 25) rfl))) (Or.inr (hw _ (List.mem_of_getElem? (i := 27) rfl))) (by decide) (t := (.array .int)) (t' := (.array .int)) (by decide) (by decide)))).ext E20).other W26 (Or.inr (slot_ne (Or.inr (hw _ (List.mem_of_getElem? (i := 25) rfl))) (Or.inr (hw _ (List.mem_of_getElem? (i := 29) rfl))) (by decide) (t := (.array .int)) (t' := (.array .long)) (by decide) (by decide))))
  have f30 : Fld Z h26 a0 "com/example/skuld/skuld/analysis/Layout" "shift" "[I" (.ref bs) := ((Fw17.ext E20).other W26 (Or.inr (slot_ne (Or.inr (hw _ (List.mem_of_getElem? (i := 27) rfl))) (Or.inr (hw _ (List.mem_of_getElem? (i := 29) rfl))) (by decide) (t := (.array .int)) (t' := (.array .long)) (by decide) (by decide))))
  have f31 : Fld Z h26 a0 "com/example/skuld/skuld/analysis/Layout" "words" "I" (.int (0 : Int32)) := (((((((F_words.other W2 (Or.inr (slot_ne (Or.inr (hw _ (List.mem_of_getElem? (i := 31) rfl))) (Or.inr (hw _ (List.mem_of_getElem? (i := 23) rfl))) (by decide) (t := .int) (t' := (.array .int)) (by decide) (by decide)))).ext E5).other W9 (Or.inr (slot_ne (Or.inr (hw _ (List.mem_of_getElem? (i := 31) rfl))) (Or.inr (hw _ (List.mem_of_getElem? (i := 25) rfl))) (by decide) (t := .int) (t' := (.array .int)) (by decide) (by decide)))).ext E12).other W17 (Or.inr (slot_ne (Or.inr (hw _ (List.mem_of_getElem? (i := 31) rfl))) (Or.inr (hw _ (List.mem_of_getElem? (i := 27) rfl))) (by decide) (t := .int) (t' := (.array .int)) (by decide) (by decide)))).ext E20).other W26 (Or.inr (slot_ne (Or.inr (hw _ (List.mem_of_getElem? (i := 31) rfl))) (Or.inr (hw _ (List.mem_of_getElem? (i := 29) rfl))) (by decide) (t := .int) (t' := (.array .long)) (by decide) (by decide))))
  have f32 : Fld Z h26 a0 "com/example/skuld/skuld/analysis/Layout" "firstPlace" "[I" .null := (((((((F_firstPlace.other W2 (Or.inr (slot_ne (Or.inr (hw _ (List.mem_of_getElem? (i := 33) rfl))) (Or.inr (hw _ (List.mem_of_getElem? (i := 23) rfl))) (by decide) (t := (.array .int)) (t' := (.array .int)) (by decide) (by decide)))).ext E5).other W9 (Or.inr (slot_ne (Or.inr (hw _ (List.mem_of_getElem? (i := 33) rfl))) (Or.inr (hw _ (List.mem_of_getElem? (i := 25) rfl))) (by decide) (t := (.array .int)) (t' := (.array .int)) (by decide) (by decide)))).ext E12).other W17 (Or.inr (slot_ne (Or.inr (hw _ (List.mem_of_getElem? (i := 33) rfl))) (Or.inr (hw _ (List.mem_of_getElem? (i := 27) rfl))) (by decide) (t := (.array .int)) (t' := (.array .int)) (by decide) (by decide)))).ext E20).other W26 (Or.inr (slot_ne (Or.inr (hw _ (List.mem_of_getElem? (i := 33) rfl))) (Or.inr (hw _ (List.mem_of_getElem? (i := 29) rfl))) (by decide) (t := (.array .int)) (t' := (.array .long)) (by decide) (by decide))))
  have f33 : Fld Z h26 a0 "com/example/skuld/skuld/analysis/Layout" "oneBitFields" "[Z" .null := (((((((F_oneBitFields.other W2 (Or.inr (slot_ne (Or.inr (hw _ (List.mem_of_getElem? (i := 36) rfl))) (Or.inr (hw _ (List.mem_of_getElem? (i := 23) rfl))) (by decide) (t := (.array .boolean)) (t' := (.array .int)) (by decide) (by decide)))).ext E5).other W9 (Or.inr (slot_ne (Or.inr (hw _ (List.mem_of_getElem? (i := 36) rfl))) (Or.inr (hw _ (List.mem_of_getElem? (i := 25) rfl))) (by decide) (t := (.array .boolean)) (t' := (.array .int)) (by decide) (by decide)))).ext E12).other W17 (Or.inr (slot_ne (Or.inr (hw _ (List.mem_of_getElem? (i := 36) rfl))) (Or.inr (hw _ (List.mem_of_getElem? (i := 27) rfl))) (by decide) (t := (.array .boolean)) (t' := (.array .int)) (by decide) (by decide)))).ext E20).other W26 (Or.inr (slot_ne (Or.inr (hw _ (List.mem_of_getElem? (i := 36) rfl))) (Or.inr (hw _ (List.mem_of_getElem? (i := 29) rfl))) (by decide) (t := (.array .boolean)) (t' := (.array .long)) (by decide) (by decide))))
  have f34 : own_Az Z h26 a1 .int zl f := ((f18.ext E20).other W26 (Ne.symm hne))
  have f35 : own_Az Z h26 bw .int zl (fun _ => (0 : Int32)) := ((f23.ext E20).other W26 (Ne.symm ne_a0_bw))
  have f36 : own_Az Z h26 bs .int zl (fun _ => (0 : Int32)) := ((f22.ext E20).other W26 (Ne.symm ne_a0_bs))
  have f37 : own_Lz Z h26 bl zl (fun _ => (0 : Int64)) := (A_bl.other W26 (Ne.symm ne_a0_bl))
  suffices loop : ∀ (n : Nat) (T_loop : State) (lc_loop : List Loc) (h_loop : Heap) (i at_ us : Int32) (fw fs : Int32 → Int32) (fl : Int32 → Int64) (hm : (zl.toInt - i.toInt).toNat < n) (X_loop : Stand p l e ({ frames := 1, cells := 5, slots := 389, locals := 15 } : Room) s m #[(.ref a0), (.ref a1)] below meth c T_loop lc_loop 3 384) (e_loop : T_loop.heap = h_loop) (N_loop : Fr n0 lc_loop) (Z_loop : n0 ≤ h_loop.size) (K_loop : Keep h0 h_loop [a0]) (F_loop_0 : Exa Z h_loop a0 "com/example/skuld/skuld/analysis/Layout") (F_loop_1 : Fld Z h_loop a0 "com/example/skuld/skuld/analysis/Layout" "widths" "[I" (.ref a1)) (F_loop_2 : Fld Z h_loop a0 "com/example/skuld/skuld/analysis/Layout" "word" "[I" (.ref bw)) (F_loop_3 : Fld Z h_loop a0 "com/example/skuld/skuld/analysis/Layout" "shift" "[I" (.ref bs)) (F_loop_4 : Fld Z h_loop a0 "com/example/skuld/skuld/analysis/Layout" "largest" "[J" (.ref bl)) (F_loop_5 : Fld Z h_loop a0 "com/example/skuld/skuld/analysis/Layout" "words" "I" (.int (0 : Int32))) (F_loop_6 : Fld Z h_loop a0 "com/example/skuld/skuld/analysis/Layout" "firstPlace" "[I" .null) (F_loop_7 : Fld Z h_loop a0 "com/example/skuld/skuld/analysis/Layout" "oneBitFields" "[Z" .null) (F_loop_8 : own_Az Z h_loop a1 .int zl f) (F_loop_9 : own_Az Z h_loop bw .int zl fw) (F_loop_10 : own_Az Z h_loop bs .int zl fs) (F_loop_11 : own_Lz Z h_loop bl zl fl) (hi : ¬ i < 0) (hle : i.toInt ≤ zl.toInt) (hv : own_inv i at_ us) (hw1 : ∀ j : Int32, ¬ j < 0 → j < i → fw j = own_w j) (hs1 : ∀ j : Int32, ¬ j < 0 → j < i → fs j = own_s j) (hl1 : ∀ j : Int32, ¬ j < 0 → j < i → fl j = (1 : Int64)), Go p e below s (Q4 Z a0 a1 zl f h0 n0) ({ frames := 1, cells := 5, slots := 389, locals := 15 } : Room).cells ({ frames := 1, cells := 5, slots := 389, locals := 15 } : Room).slots (T_loop.setTop (mkF m 40 #[.val (.ref a0), .val (.ref a1), .val (.int at_), .val (.int us), .val (.int i)] [])) from loop ((zl.toInt - (0 : Int32).toInt).toNat + 1) _ _ _ (0 : Int32) (0 : Int32) (0 : Int32) _ _ _ (Nat.lt_succ_self _) X26 e26 N26 Z26 K26 f27 f28 f29 f30 Fw26 f31 f32 f33 f34 f35 f36 f37 (by decide) (own_nneg hz) (Or.inl ⟨by decide, rfl, rfl⟩) (fun j h1 h2 => absurd h2 h1) (fun j h1 h2 => absurd h2 h1) (fun j h1 h2 => absurd h2 h1)
  intro n
  induction n with
  | zero => intro T_loop lc_loop h_loop i at_ us fw fs fl hm X_loop e_loop N_loop Z_loop K_loop F_loop_0 F_loop_1 F_loop_2 F_loop_3 F_loop_4 F_loop_5 F_loop_6 F_loop_7 F_loop_8 F_loop_9 F_loop_10 F_loop_11 hi hle hv hw1 hs1 hl1; exact absurd hm (Nat.not_lt_zero _)
  | succ n ih =>
    intro T_loop lc_loop h_loop i at_ us fw fs fl hm X_loop e_loop N_loop Z_loop K_loop F_loop_0 F_loop_1 F_loop_2 F_loop_3 F_loop_4 F_loop_5 F_loop_6 F_loop_7 F_loop_8 F_loop_9 F_loop_10 F_loop_11 hi hle hv hw1 hs1 hl1
    refine Go.to (g' := (mkF m 42 #[.val (.ref a0), .val (.ref a1), .val (.int at_), .val (.int us), .val (.int i)] [(.int i)])) (fun t k => XS.iload X_loop.here hx rfl (hb hby d4_40) rfl k) ?_
    refine Go.to (g' := (mkF m 43 #[.val (.ref a0), .val (.ref a1), .val (.int at_), .val (.int us), .val (.int i)] [(.ref a1), (.int i)])) (fun t k => XS.aloadN X_loop.here hx rfl (hb hby d4_42) rfl rfl k) ?_
    obtain ⟨cl38, Ar38, S38, M38, -⟩ := id F_loop_8
    refine Go.to (g' := (mkF m 44 #[.val (.ref a0), .val (.ref a1), .val (.int at_), .val (.int us), .val (.int i)] [(.int zl), (.int i)])) (fun t k => X_loop.arraylength hx (by rw [e_loop]; exact Ar38.1) (State.isArrayOf_alike hZ.alike Ar38.2.1) (g := (mkF m 43 #[.val (.ref a0), .val (.ref a1), .val (.int at_), .val (.int us), .val (.int i)] [(.ref a1), (.int i)])) rfl rfl (hb hby d4_43) _ (by rw [len_of S38 M38]; exact k)) ?_
    by_cases c39 : i < zl
    · refine Go.to (g' := (mkF m 47 #[.val (.ref a0), .val (.ref a1), .val (.int at_), .val (.int us), .val (.int i)] [])) (fun t k => XS.icmpNo X_loop.here hx rfl (hb hby d4_44) rfl (tlt c39).2.1 k) ?_
      refine Go.to (g' := (mkF m 48 #[.val (.ref a0), .val (.ref a1), .val (.int at_), .val (.int us), .val (.int i)] [(.int us)])) (fun t k => XS.iloadN X_loop.here hx rfl (hb hby d4_47) rfl k) ?_
      refine Go.to (g' := (mkF m 49 #[.val (.ref a0), .val (.ref a1), .val (.int at_), .val (.int us), .val (.int i)] [(.ref a1), (.int us)])) (fun t k => XS.aloadN X_loop.here hx rfl (hb hby d4_48) rfl rfl k) ?_
      refine Go.to (g' := (mkF m 51 #[.val (.ref a0), .val (.ref a1), .val (.int at_), .val (.int us), .val (.int i)] [(.int i), (.ref a1), (.int us)])) (fun t k => XS.iload X_loop.here hx rfl (hb hby d4_49) rfl k) ?_
      obtain ⟨cl40, Ar40, Sz40, Mz40, Hf40⟩ := id F_loop_8
      refine Go.to (g' := (mkF m 52 #[.val (.ref a0), .val (.ref a1), .val (.int at_), .val (.int us), .val (.int i)] [(.int (f i)), (.int us)])) (fun t k => X_loop.iaload hx (j := i) (v := (.int (f i))) (by rw [e_loop]; exact Ar40.1) (State.isArrayOf_alike hZ.alike Ar40.2.1) Ar40.2.2 (inb_of Sz40 ⟨hi, c39⟩) (Hf40 _ hi c39) (g := (mkF m 51 #[.val (.ref a0), .val (.ref a1), .val (.int at_), .val (.int us), .val (.int i)] [(.int i), (.ref a1), (.int us)])) rfl rfl (hb hby d4_51) _ k) ?_
      rw [show (f i) = (1 : Int32) from hf _ hi c39]
      refine Go.to (g' := (mkF m 53 #[.val (.ref a0), .val (.ref a1), .val (.int at_), .val (.int us), .val (.int i)] [(.int (us + (1 : Int32)))])) (fun t k => XS.iadd X_loop.here hx rfl (hb hby d4_52) rfl k) ?_
      refine Go.to (g' := (mkF m 55 #[.val (.ref a0), .val (.ref a1), .val (.int at_), .val (.int us), .val (.int i)] [(.int (64 : Int32)), (.int (us + (1 : Int32)))])) (fun t k => XS.bipush X_loop.here hx rfl (hb hby d4_53) k) ?_
      suffices J63 : ∀ (a2 u2 : Int32) (ha2 : a2 = own_w i) (hu2 : u2 = own_s i), Go p e below s (Q4 Z a0 a1 zl f h0 n0) ({ frames := 1, cells := 5, slots := 389, locals := 15 } : Room).cells ({ frames := 1, cells := 5, slots := 389, locals := 15 } : Room).slots (T_loop.setTop (mkF m 63 #[.val (.ref a0), .val (.ref a1), .val (.int a2), .val (.int u2), .val (.int i)] [])) by
        by_cases c41 : (64 : Int32) < (us + (1 : Int32))
        · refine Go.to (g' := (mkF m 58 #[.val (.ref a0), .val (.ref a1), .val (.int at_), .val (.int us), .val (.int i)] [])) (fun t k => XS.icmpNo X_loop.here hx rfl (hb hby d4_55) rfl (tlt c41).2.2.2 k) ?_
          refine Go.to (g' := (mkF m 61 #[.val (.ref a0), .val (.ref a1), .val (.int (at_ + (1 : Int32))), .val (.int us), .val (.int i)] [])) (fun t k => XS.iinc X_loop.here hx rfl (hb hby d4_58) rfl (l' := #[.val (.ref a0), .val (.ref a1), .val (.int (at_ + (1 : Int32))), .val (.int us), .val (.int i)]) rfl k) ?_
          refine Go.to (g' := (mkF m 62 #[.val (.ref a0), .val (.ref a1), .val (.int (at_ + (1 : Int32))), .val (.int us), .val (.int i)] [(.int (0 : Int32))])) (fun t k => XS.iconst X_loop.here hx rfl (hb hby d4_61) k) ?_
          refine Go.to (g' := (mkF m 63 #[.val (.ref a0), .val (.ref a1), .val (.int (at_ + (1 : Int32))), .val (.int (0 : Int32)), .val (.int i)] [])) (fun t k => XS.istoreN X_loop.here hx rfl (hb hby d4_62) rfl (l' := #[.val (.ref a0), .val (.ref a1), .val (.int (at_ + (1 : Int32))), .val (.int (0 : Int32)), .val (.int i)]) rfl k) ?_
          exact J63 _ _ (own_big hi hz2 c39 hv c41).1 (own_big hi hz2 c39 hv c41).2
        · refine Go.to (g' := (mkF m 63 #[.val (.ref a0), .val (.ref a1), .val (.int at_), .val (.int us), .val (.int i)] [])) (fun t k => XS.icmpYes X_loop.here hx rfl (pc0 := 55) (pc' := 63) rfl (hb hby d4_55) rfl (flt c41).2.2.2 (by decide) (by decide) k) ?_
          exact J63 _ _ (own_few hi hz2 c39 hv c41).1 (own_few hi hz2 c39 hv c41).2
      intro a2 u2 ha2 hu2
      refine Go.to (g' := (mkF m 64 #[.val (.ref a0), .val (.ref a1), .val (.int a2), .val (.int u2), .val (.int i)] [(.ref a0)])) (fun t k => XS.aloadN X_loop.here hx rfl (hb hby d4_63) rfl rfl k) ?_
      obtain ⟨T42, X42, e42, st42⟩ := getF X_loop hx hZ hown (host := "") (Or.inl (hw _ (List.mem_of_getElem? (i := 24) rfl))) Via.refl e_loop F_loop_2 (g := (mkF m 64 #[.val (.ref a0), .val (.ref a1), .val (.int a2), .val (.int u2), .val (.int i)] [(.ref a0)])) rfl rfl (hb hby d4_64)
      refine Go.to (g' := (mkF m 67 #[.val (.ref a0), .val (.ref a1), .val (.int a2), .val (.int u2), .val (.int i)] [(.ref bw)])) st42 ?_
      refine Go.to (g' := (mkF m 69 #[.val (.ref a0), .val (.ref a1), .val (.int a2), .val (.int u2), .val (.int i)] [(.int i), (.ref bw)])) (fun t k => XS.iload X42.here hx rfl (hb hby d4_67) rfl k) ?_
      refine Go.to (g' := (mkF m 70 #[.val (.ref a0), .val (.ref a1), .val (.int a2), .val (.int u2), .val (.int i)] [(.int a2), (.int i), (.ref bw)])) (fun t k => XS.iloadN X42.here hx rfl (hb hby d4_69) rfl k) ?_
      obtain ⟨cl43, Ar43, Sz43, Mz43, Hf43⟩ := id F_loop_9
      obtain ⟨T44, h44, X44, e44, W44, st44⟩ := stI X42 hx hZ e42 Ar43 (j := i) (inb_of Sz43 ⟨hi, c39⟩) (g := (mkF m 70 #[.val (.ref a0), .val (.ref a1), .val (.int a2), .val (.int u2), .val (.int i)] [(.int a2), (.int i), (.ref bw)])) rfl rfl (hb hby d4_70)
      have Z44 : n0 ≤ h44.size := Nat.le_trans Z_loop (Keep.of_wr W44).1
      have K44 : Keep h0 h44 [a0] := K_loop.wr W44 (Or.inr sz_bw)
      have N44 := Fr.snoc X44 N_loop g_bw
      have B44 : own_Az Z h44 bw .int zl (own_upd fw i a2) := F_loop_9.set hi W44
      refine Go.to (g' := (mkF m 71 #[.val (.ref a0), .val (.ref a1), .val (.int a2), .val (.int u2), .val (.int i)] [])) st44 ?_
      refine Go.to (g' := (mkF m 72 #[.val (.ref a0), .val (.ref a1), .val (.int a2), .val (.int u2), .val (.int i)] [(.ref a0)])) (fun t k => XS.aloadN X44.here hx rfl (hb hby d4_71) rfl rfl k) ?_
      have f45 : Fld Z h44 a0 "com/example/skuld/skuld/analysis/Layout" "shift" "[I" (.ref bs) := (F_loop_3.other W44 (Or.inl ne_a0_bw))
      obtain ⟨T46, X46, e46, st46⟩ := getF X44 hx hZ hown (host := "") (Or.inl (hw _ (List.mem_of_getElem? (i := 26) rfl))) Via.refl e44 f45 (g := (mkF m 72 #[.val (.ref a0), .val (.ref a1), .val (.int a2), .val (.int u2), .val (.int i)] [(.ref a0)])) rfl rfl (hb hby d4_72)
      refine Go.to (g' := (mkF m 75 #[.val (.ref a0), .val (.ref a1), .val (.int a2), .val (.int u2), .val (.int i)] [(.ref bs)])) st46 ?_
      refine Go.to (g' := (mkF m 77 #[.val (.ref a0), .val (.ref a1), .val (.int a2), .val (.int u2), .val (.int i)] [(.int i), (.ref bs)])) (fun t k => XS.iload X46.here hx rfl (hb hby d4_75) rfl k) ?_
      refine Go.to (g' := (mkF m 78 #[.val (.ref a0), .val (.ref a1), .val (.int a2), .val (.int u2), .val (.int i)] [(.int u2), (.int i), (.ref bs)])) (fun t k => XS.iloadN X46.here hx rfl (hb hby d4_77) rfl k) ?_
      have f47 : own_Az Z h44 bs .int zl fs := (F_loop_10.other W44 (Ne.symm ne_bw_bs))
      obtain ⟨cl48, Ar48, Sz48, Mz48, Hf48⟩ := id f47
      obtain ⟨T49, h49, X49, e49, W49, st49⟩ := stI X46 hx hZ e46 Ar48 (j := i) (inb_of Sz48 ⟨hi, c39⟩) (g := (mkF m 78 #[.val (.ref a0), .val (.ref a1), .val (.int a2), .val (.int u2), .val (.int i)] [(.int u2), (.int i), (.ref bs)])) rfl rfl (hb hby d4_78)
      have Z49 : n0 ≤ h49.size := Nat.le_trans Z44 (Keep.of_wr W49).1
      have K49 : Keep h0 h49 [a0] := K44.wr W49 (Or.inr sz_bs)
      have N49 := Fr.snoc X49 N44 g_bs
      have B49 : own_Az Z h49 bs .int zl (own_upd fs i u2) := f47.set hi W49
      refine Go.to (g' := (mkF m 79 #[.val (.ref a0), .val (.ref a1), .val (.int a2), .val (.int u2), .val (.int i)] [])) st49 ?_
      refine Go.to (g' := (mkF m 80 #[.val (.ref a0), .val (.ref a1), .val (.int a2), .val (.int u2), .val (.int i)] [(.ref a0)])) (fun t k => XS.aloadN X49.here hx rfl (hb hby d4_79) rfl rfl k) ?_
      have f50 : Fld Z h49 a0 "com/example/skuld/skuld/analysis/Layout" "largest" "[J" (.ref bl) := ((F_loop_4.other W44 (Or.inl ne_a0_bw)).other W49 (Or.inl ne_a0_bs))
      obtain ⟨T51, X51, e51, st51⟩ := getF X49 hx hZ hown (host := "") (Or.inl (hw _ (List.mem_of_getElem? (i := 28) rfl))) Via.refl e49 f50 (g := (mkF m 80 #[.val (.ref a0), .val (.ref a1), .val (.int a2), .val (.int u2), .val (.int i)] [(.ref a0)])) rfl rfl (hb hby d4_80)
      refine Go.to (g' := (mkF m 83 #[.val (.ref a0), .val (.ref a1), .val (.int a2), .val (.int u2), .val (.int i)] [(.ref bl)])) st51 ?_
      refine Go.to (g' := (mkF m 85 #[.val (.ref a0), .val (.ref a1), .val (.int a2), .val (.int u2), .val (.int i)] [(.int i), (.ref bl)])) (fun t k => XS.iload X51.here hx rfl (hb hby d4_83) rfl k) ?_
      refine Go.to (g' := (mkF m 86 #[.val (.ref a0), .val (.ref a1), .val (.int a2), .val (.int u2), .val (.int i)] [(.long (1 : Int64)), (.int i), (.ref bl)])) (fun t k => XS.lconst X51.here hx rfl (hb hby d4_85) k) ?_
      refine Go.to (g' := (mkF m 87 #[.val (.ref a0), .val (.ref a1), .val (.int a2), .val (.int u2), .val (.int i)] [(.ref a1), (.long (1 : Int64)), (.int i), (.ref bl)])) (fun t k => XS.aloadN X51.here hx rfl (hb hby d4_86) rfl rfl k) ?_
      refine Go.to (g' := (mkF m 89 #[.val (.ref a0), .val (.ref a1), .val (.int a2), .val (.int u2), .val (.int i)] [(.int i), (.ref a1), (.long (1 : Int64)), (.int i), (.ref bl)])) (fun t k => XS.iload X51.here hx rfl (hb hby d4_87) rfl k) ?_
      have f52 : own_Az Z h49 a1 .int zl f := ((F_loop_8.other W44 ne_a1_bw).other W49 ne_a1_bs)
      obtain ⟨cl53, Ar53, Sz53, Mz53, Hf53⟩ := id f52
      refine Go.to (g' := (mkF m 90 #[.val (.ref a0), .val (.ref a1), .val (.int a2), .val (.int u2), .val (.int i)] [(.int (f i)), (.long (1 : Int64)), (.int i), (.ref bl)])) (fun t k => X51.iaload hx (j := i) (v := (.int (f i))) (by rw [e51]; exact Ar53.1) (State.isArrayOf_alike hZ.alike Ar53.2.1) Ar53.2.2 (inb_of Sz53 ⟨hi, c39⟩) (Hf53 _ hi c39) (g := (mkF m 89 #[.val (.ref a0), .val (.ref a1), .val (.int a2), .val (.int u2), .val (.int i)] [(.int i), (.ref a1), (.long (1 : Int64)), (.int i), (.ref bl)])) rfl rfl (hb hby d4_89) _ k) ?_
      rw [show (f i) = (1 : Int32) from hf _ hi c39]
      refine Go.to (g' := (mkF m 91 #[.val (.ref a0), .val (.ref a1), .val (.int a2), .val (.int u2), .val (.int i)] [(.long ((1 : Int64) <<< ((1 : Int32) &&& 0x3f).toInt64)), (.int i), (.ref bl)])) (fun t k => XS.lshl X51.here hx rfl (hb hby d4_90) rfl k) ?_
      refine Go.to (g' := (mkF m 92 #[.val (.ref a0), .val (.ref a1), .val (.int a2), .val (.int u2), .val (.int i)] [(.long (1 : Int64)), (.long ((1 : Int64) <<< ((1 : Int32) &&& 0x3f).toInt64)), (.int i), (.ref bl)])) (fun t k => XS.lconst X51.here hx rfl (hb hby d4_91) k) ?_
      refine Go.to (g' := (mkF m 93 #[.val (.ref a0), .val (.ref a1), .val (.int a2), .val (.int u2), .val (.int i)] [(.long (((1 : Int64) <<< ((1 : Int32) &&& 0x3f).toInt64) - (1 : Int64))), (.int i), (.ref bl)])) (fun t k => XS.lsub X51.here hx rfl (hb hby d4_92) rfl k) ?_
      rw [show (((1 : Int64) <<< ((1 : Int32) &&& 0x3f).toInt64) - (1 : Int64)) = (1 : Int64) from by decide]
      have f54 : own_Lz Z h49 bl zl fl := ((F_loop_11.other W44 (Ne.symm ne_bw_bl)).other W49 (Ne.symm ne_bs_bl))
      obtain ⟨cl55, Ar55, Sz55, Mz55, Hf55⟩ := id f54
      obtain ⟨T56, h56, X56, e56, W56, st56⟩ := stJ X51 hx hZ e51 Ar55 (j := i) (inb_of Sz55 ⟨hi, c39⟩) (g := (mkF m 93 #[.val (.ref a0), .val (.ref a1), .val (.int a2), .val (.int u2), .val (.int i)] [(.long (1 : Int64)), (.int i), (.ref bl)])) rfl rfl (hb hby d4_93)
      have Z56 : n0 ≤ h56.size := Nat.le_trans Z49 (Keep.of_wr W56).1
      have K56 : Keep h0 h56 [a0] := K49.wr W56 (Or.inr sz_bl)
      have N56 := Fr.snoc X56 N49 g_bl
      have B56 : own_Lz Z h56 bl zl (own_updL fl i (1 : Int64)) := f54.set hi W56
      refine Go.to (g' := (mkF m 94 #[.val (.ref a0), .val (.ref a1), .val (.int a2), .val (.int u2), .val (.int i)] [])) st56 ?_
      refine Go.to (g' := (mkF m 95 #[.val (.ref a0), .val (.ref a1), .val (.int a2), .val (.int u2), .val (.int i)] [(.int u2)])) (fun t k => XS.iloadN X56.here hx rfl (hb hby d4_94) rfl k) ?_
      refine Go.to (g' := (mkF m 96 #[.val (.ref a0), .val (.ref a1), .val (.int a2), .val (.int u2), .val (.int i)] [(.ref a1), (.int u2)])) (fun t k => XS.aloadN X56.here hx rfl (hb hby d4_95) rfl rfl k) ?_
      refine Go.to (g' := (mkF m 98 #[.val (.ref a0), .val (.ref a1), .val (.int a2), .val (.int u2), .val (.int i)] [(.int i), (.ref a1), (.int u2)])) (fun t k => XS.iload X56.here hx rfl (hb hby d4_96) rfl k) ?_
      have f57 : own_Az Z h56 a1 .int zl f := (f52.other W56 ne_a1_bl)
      obtain ⟨cl58, Ar58, Sz58, Mz58, Hf58⟩ := id f57
      refine Go.to (g' := (mkF m 99 #[.val (.ref a0), .val (.ref a1), .val (.int a2), .val (.int u2), .val (.int i)] [(.int (f i)), (.int u2)])) (fun t k => X56.iaload hx (j := i) (v := (.int (f i))) (by rw [e56]; exact Ar58.1) (State.isArrayOf_alike hZ.alike Ar58.2.1) Ar58.2.2 (inb_of Sz58 ⟨hi, c39⟩) (Hf58 _ hi c39) (g := (mkF m 98 #[.val (.ref a0), .val (.ref a1), .val (.int a2), .val (.int u2), .val (.int i)] [(.int i), (.ref a1), (.int u2)])) rfl rfl (hb hby d4_98) _ k) ?_
      rw [show (f i) = (1 : Int32) from hf _ hi c39]
      refine Go.to (g' := (mkF m 100 #[.val (.ref a0), .val (.ref a1), .val (.int a2), .val (.int u2), .val (.int i)] [(.int (u2 + (1 : Int32)))])) (fun t k => XS.iadd X56.here hx rfl (hb hby d4_99) rfl k) ?_
      refine Go.to (g' := (mkF m 101 #[.val (.ref a0), .val (.ref a1), .val (.int a2), .val (.int (u2 + (1 : Int32))), .val (.int i)] [])) (fun t k => XS.istoreN X56.here hx rfl (hb hby d4_100) rfl (l' := #[.val (.ref a0), .val (.ref a1), .val (.int a2), .val (.int (u2 + (1 : Int32))), .val (.int i)]) rfl k) ?_
      refine Go.to (g' := (mkF m 104 #[.val (.ref a0), .val (.ref a1), .val (.int a2), .val (.int (u2 + (1 : Int32))), .val (.int (i + (1 : Int32)))] [])) (fun t k => XS.iinc X56.here hx rfl (hb hby d4_101) rfl (l' := #[.val (.ref a0), .val (.ref a1), .val (.int a2), .val (.int (u2 + (1 : Int32))), .val (.int (i + (1 : Int32)))]) rfl k) ?_
      refine Go.to (g' := (mkF m 40 #[.val (.ref a0), .val (.ref a1), .val (.int a2), .val (.int (u2 + (1 : Int32))), .val (.int (i + (1 : Int32)))] [])) (fun t k => XS.goto X56.here hx rfl (pc0 := 104) (pc' := 40) rfl (hb hby d4_104) (by decide) (by decide) k) ?_
      have f59 : Exa Z h56 a0 "com/example/skuld/skuld/analysis/Layout" := (((F_loop_0.wr W44).wr W49).wr W56)
      have f60 : Fld Z h56 a0 "com/example/skuld/skuld/analysis/Layout" "widths" "[I" (.ref a1) := (((F_loop_1.other W44 (Or.inl ne_a0_bw)).other W49 (Or.inl ne_a0_bs)).other W56 (Or.inl ne_a0_bl))
      have f61 : Fld Z h56 a0 "com/example/skuld/skuld/analysis/Layout" "word" "[I" (.ref bw) := (((F_loop_2.other W44 (Or.inl ne_a0_bw)).other W49 (Or.inl ne_a0_bs)).other W56 (Or.inl ne_a0_bl))
      have f62 : Fld Z h56 a0 "com/example/skuld/skuld/analysis/Layout" "shift" "[I" (.ref bs) := ((f45.other W49 (Or.inl ne_a0_bs)).other W56 (Or.inl ne_a0_bl))
      have f63 : Fld Z h56 a0 "com/example/skuld/skuld/analysis/Layout" "largest" "[J" (.ref bl) := (f50.other W56 (Or.inl ne_a0_bl))
      have f64 : Fld Z h56 a0 "com/example/skuld/skuld/analysis/Layout" "words" "I" (.int (0 : Int32)) := (((F_loop_5.other W44 (Or.inl ne_a0_bw)).other W49 (Or.inl ne_a0_bs)).other W56 (Or.inl ne_a0_bl))
      have f65 : Fld Z h56 a0 "com/example/skuld/skuld/analysis/Layout" "firstPlace" "[I" .null := (((F_loop_6.other W44 (Or.inl ne_a0_bw)).other W49 (Or.inl ne_a0_bs)).other W56 (Or.inl ne_a0_bl))
      have f66 : Fld Z h56 a0 "com/example/skuld/skuld/analysis/Layout" "oneBitFields" "[Z" .null := (((F_loop_7.other W44 (Or.inl ne_a0_bw)).other W49 (Or.inl ne_a0_bs)).other W56 (Or.inl ne_a0_bl))
      have f67 : own_Az Z h56 bw .int zl (own_upd fw i a2) := ((B44.other W49 ne_bw_bs).other W56 ne_bw_bl)
      have f68 : own_Az Z h56 bs .int zl (own_upd fs i u2) := (B49.other W56 ne_bs_bl)
      exact ih _ _ _ _ _ _ _ _ _ (own_l1 c39 hm) X56 e56 N56 Z56 K56 f59 f60 f61 f62 f63 f64 f65 f66 f57 f67 f68 B56 (own_i1 c39 hi) (own_le1 c39) (by rw [ha2, hu2]; exact own_nxt hi hz2 c39) (own_ext c39 hw1 ha2) (own_ext c39 hs1 hu2) (own_extL (g := fun _ => (1 : Int64)) c39 hl1 rfl)
    · refine Go.to (g' := (mkF m 107 #[.val (.ref a0), .val (.ref a1), .val (.int at_), .val (.int us), .val (.int i)] [])) (fun t k => XS.icmpYes X_loop.here hx rfl (pc0 := 44) (pc' := 107) rfl (hb hby d4_44) rfl (flt c39).2.1 (by decide) (by decide) k) ?_
      have hwA := own_done c39 hw1
      have hsA := own_done c39 hs1
      have hlA := own_done c39 hl1
      have hiz : i.toInt = zl.toInt := by rw [Int32.lt_iff_toInt_lt] at c39; omega
      rcases hv with ⟨hq, rfl, hus⟩ | ⟨hq, rfl, hus⟩
      · have hk : zl.toInt ≤ 64 := by omega
        refine Go.to (g' := (mkF m 108 #[.val (.ref a0), .val (.ref a1), .val (.int (0 : Int32)), .val (.int us), .val (.int i)] [(.ref a0)])) (fun t k => XS.aloadN X_loop.here hx rfl (hb hby d4_107) rfl rfl k) ?_
        refine Go.to (g' := (mkF m 109 #[.val (.ref a0), .val (.ref a1), .val (.int (0 : Int32)), .val (.int us), .val (.int i)] [(.int (0 : Int32)), (.ref a0)])) (fun t k => XS.iloadN X_loop.here hx rfl (hb hby d4_108) rfl k) ?_
        refine Go.to (g' := (mkF m 110 #[.val (.ref a0), .val (.ref a1), .val (.int (0 : Int32)), .val (.int us), .val (.int i)] [(.int (1 : Int32)), (.int (0 : Int32)), (.ref a0)])) (fun t k => XS.iconst X_loop.here hx rfl (hb hby d4_109) k) ?_
        refine Go.to (g' := (mkF m 111 #[.val (.ref a0), .val (.ref a1), .val (.int (0 : Int32)), .val (.int us), .val (.int i)] [(.int (1 : Int32)), (.ref a0)])) (fun t k => XS.iadd X_loop.here hx rfl (hb hby d4_110) rfl k) ?_
        obtain ⟨T69, h69, X69, e69, W69, st69⟩ := putF X_loop hx hZ hown (host := "") (Or.inl (hw _ (List.mem_of_getElem? (i := 30) rfl))) Via.refl e_loop F_loop_5 F_loop_0 (Or.inr ⟨(hw _ (List.mem_of_getElem? (i := 31) rfl)), rfl, hnm⟩) (hw _ (List.mem_of_getElem? (i := 3) rfl)) (ty := .int) (by decide) rfl rfl (g := (mkF m 111 #[.val (.ref a0), .val (.ref a1), .val (.int (0 : Int32)), .val (.int us), .val (.int i)] [(.int (1 : Int32)), (.ref a0)])) rfl rfl (hb hby d4_111)
        have Z69 : n0 ≤ h69.size := Nat.le_trans Z_loop (Keep.of_wr W69).1
        have K69 : Keep h0 h69 [a0] := K_loop.wr W69 (Or.inl (List.mem_of_getElem? (i := 0) rfl))
        have N69 := Fr.snoc X69 N_loop g_a0
        have Fw69 : Fld Z h69 a0 "com/example/skuld/skuld/analysis/Layout" "words" "I" (.int (1 : Int32)) := F_loop_5.same W69
        refine Go.to (g' := (mkF m 114 #[.val (.ref a0), .val (.ref a1), .val (.int (0 : Int32)), .val (.int us), .val (.int i)] [])) st69 ?_
        refine Go.to (g' := (mkF m 115 #[.val (.ref a0), .val (.ref a1), .val (.int (0 : Int32)), .val (.int us), .val (.int i)] [(.ref a0)])) (fun t k => XS.aloadN X69.here hx rfl (hb hby d4_114) rfl rfl k) ?_
        refine Go.to (g' := (mkF m 116 #[.val (.ref a0), .val (.ref a1), .val (.int (0 : Int32)), .val (.int us), .val (.int i)] [(.ref a0), (.ref a0)])) (fun t k => XS.aloadN X69.here hx rfl (hb hby d4_115) rfl rfl k) ?_
        obtain ⟨T70, X70, e70, st70⟩ := getF X69 hx hZ hown (host := "") (Or.inl (hw _ (List.mem_of_getElem? (i := 30) rfl))) Via.refl e69 Fw69 (g := (mkF m 116 #[.val (.ref a0), .val (.ref a1), .val (.int (0 : Int32)), .val (.int us), .val (.int i)] [(.ref a0), (.ref a0)])) rfl rfl (hb hby d4_116)
        refine Go.to (g' := (mkF m 119 #[.val (.ref a0), .val (.ref a1), .val (.int (0 : Int32)), .val (.int us), .val (.int i)] [(.int (1 : Int32)), (.ref a0)])) st70 ?_
        refine Go.to (g' := (mkF m 120 #[.val (.ref a0), .val (.ref a1), .val (.int (0 : Int32)), .val (.int us), .val (.int i)] [(.int (1 : Int32)), (.int (1 : Int32)), (.ref a0)])) (fun t k => XS.iconst X70.here hx rfl (hb hby d4_119) k) ?_
        refine Go.to (g' := (mkF m 121 #[.val (.ref a0), .val (.ref a1), .val (.int (0 : Int32)), .val (.int us), .val (.int i)] [(.int (2 : Int32)), (.ref a0)])) (fun t k => XS.iadd X70.here hx rfl (hb hby d4_120) rfl k) ?_
        obtain ⟨T71, h71, k71, X71, e71, E71, A71, st71⟩ := newP X70 hx hZ (hw _ (List.mem_of_getElem? (i := 11) rfl)) e70 (g := (mkF m 121 #[.val (.ref a0), .val (.ref a1), .val (.int (0 : Int32)), .val (.int us), .val (.int i)] [(.int (2 : Int32)), (.ref a0)])) rfl (hb hby d4_121) rfl (by decide) (cap := 3) (by decide) (by decide) (by decide) (by decide)
        obtain ⟨bf, g71⟩ : ∃ z, z = h69.size := ⟨_, rfl⟩
        rw [← g71] at A71 st71
        have f72 : Exa Z h69 a0 "com/example/skuld/skuld/analysis/Layout" := (F_loop_0.wr W69)
        have ne_a0_bf : a0 ≠ bf := Nat.ne_of_lt (Nat.lt_of_lt_of_le f72.lt (Nat.le_of_eq g71.symm))
        have f73 : own_Az Z h69 a1 .int zl f := (F_loop_8.other W69 (Ne.symm hne))
        have ne_a1_bf : a1 ≠ bf := Nat.ne_of_lt (Nat.lt_of_lt_of_le f73.lt (Nat.le_of_eq g71.symm))
        have f74 : own_Lz Z h69 bl zl fl := (F_loop_11.other W69 (Ne.symm ne_a0_bl))
        have ne_bl_bf : bl ≠ bf := Nat.ne_of_lt (Nat.lt_of_lt_of_le f74.lt (Nat.le_of_eq g71.symm))
        have f75 : own_Az Z h69 bs .int zl fs := (F_loop_10.other W69 (Ne.symm ne_a0_bs))
        have ne_bs_bf : bs ≠ bf := Nat.ne_of_lt (Nat.lt_of_lt_of_le f75.lt (Nat.le_of_eq g71.symm))
        have f76 : own_Az Z h69 bw .int zl fw := (F_loop_9.other W69 (Ne.symm ne_a0_bw))
        have ne_bw_bf : bw ≠ bf := Nat.ne_of_lt (Nat.lt_of_lt_of_le f76.lt (Nat.le_of_eq g71.symm))
        have g_bf : n0 ≤ bf := Nat.le_trans Z69 (Nat.le_of_eq g71.symm)
        have sz_bf : h0.size ≤ bf := Nat.le_trans K69.1 (Nat.le_of_eq g71.symm)
        have Z71 : n0 ≤ h71.size := Nat.le_trans Z69 E71.1
        have K71 : Keep h0 h71 [a0] := K69.ext E71
        have V_bf : Arv Z h71 bf k71 .int (2 : Int32) [] (.int (0 : Int32)) := Arv.new A71 (by decide)
        refine Go.to (g' := (mkF m 123 #[.val (.ref a0), .val (.ref a1), .val (.int (0 : Int32)), .val (.int us), .val (.int i)] [(.ref bf), (.ref a0)])) st71 ?_
        have A_bf := own_az_of V_bf
        have f77 : Fld Z h71 a0 "com/example/skuld/skuld/analysis/Layout" "firstPlace" "[I" .null := ((F_loop_6.other W69 (Or.inr (slot_ne (Or.inr (hw _ (List.mem_of_getElem? (i := 33) rfl))) (Or.inr (hw _ (List.mem_of_getElem? (i := 31) rfl))) (by decide) (t := (.array .int)) (t' := .int) (by decide) (by decide)))).ext E71)
        have f78 : Exa Z h71 a0 "com/example/skuld/skuld/analysis/Layout" := (f72.ext E71)
        obtain ⟨T79, h79, X79, e79, W79, st79⟩ := putF X71 hx hZ hown (host := "") (Or.inl (hw _ (List.mem_of_getElem? (i := 32) rfl))) Via.refl e71 f77 f78 (Or.inr ⟨(hw _ (List.mem_of_getElem? (i := 33) rfl)), rfl, hnm⟩) (hw _ (List.mem_of_getElem? (i := 3) rfl)) (ty := (.array .int)) (by decide) rfl rfl (g := (mkF m 123 #[.val (.ref a0), .val (.ref a1), .val (.int (0 : Int32)), .val (.int us), .val (.int i)] [(.ref bf), (.ref a0)])) rfl rfl (hb hby d4_123)
        have Z79 : n0 ≤ h79.size := Nat.le_trans Z71 (Keep.of_wr W79).1
        have K79 : Keep h0 h79 [a0] := K71.wr W79 (Or.inl (List.mem_of_getElem? (i := 0) rfl))
        have N79 := Fr.snoc X79 N69 g_a0
        have Fw79 : Fld Z h79 a0 "com/example/skuld/skuld/analysis/Layout" "firstPlace" "[I" (.ref bf) := f77.same W79
        refine Go.to (g' := (mkF m 126 #[.val (.ref a0), .val (.ref a1), .val (.int (0 : Int32)), .val (.int us), .val (.int i)] [])) st79 ?_
        refine Go.to (g' := (mkF m 127 #[.val (.ref a0), .val (.ref a1), .val (.int (0 : Int32)), .val (.int us), .val (.int i)] [(.ref a0)])) (fun t k => XS.aloadN X79.here hx rfl (hb hby d4_126) rfl rfl k) ?_
        refine Go.to (g' := (mkF m 128 #[.val (.ref a0), .val (.ref a1), .val (.int (0 : Int32)), .val (.int us), .val (.int i)] [(.ref a0), (.ref a0)])) (fun t k => XS.aloadN X79.here hx rfl (hb hby d4_127) rfl rfl k) ?_
        have f80 : Fld Z h79 a0 "com/example/skuld/skuld/analysis/Layout" "words" "I" (.int (1 : Int32)) := ((Fw69.ext E71).other W79 (Or.inr (slot_ne (Or.inr (hw _ (List.mem_of_getElem? (i := 31) rfl))) (Or.inr (hw _ (List.mem_of_getElem? (i := 33) rfl))) (by decide) (t := .int) (t' := (.array .int)) (by decide) (by decide))))
        obtain ⟨T81, X81, e81, st81⟩ := getF X79 hx hZ hown (host := "") (Or.inl (hw _ (List.mem_of_getElem? (i := 30) rfl))) Via.refl e79 f80 (g := (mkF m 128 #[.val (.ref a0), .val (.ref a1), .val (.int (0 : Int32)), .val (.int us), .val (.int i)] [(.ref a0), (.ref a0)])) rfl rfl (hb hby d4_128)
        refine Go.to (g' := (mkF m 131 #[.val (.ref a0), .val (.ref a1), .val (.int (0 : Int32)), .val (.int us), .val (.int i)] [(.int (1 : Int32)), (.ref a0)])) st81 ?_
        obtain ⟨T82, h82, k82, X82, e82, E82, A82, st82⟩ := newP X81 hx hZ (hw _ (List.mem_of_getElem? (i := 34) rfl)) e81 (g := (mkF m 131 #[.val (.ref a0), .val (.ref a1), .val (.int (0 : Int32)), .val (.int us), .val (.int i)] [(.int (1 : Int32)), (.ref a0)])) rfl (hb hby d4_131) rfl (by decide) (cap := 2) (by decide) (by decide) (by decide) (by decide)
        obtain ⟨bo, g82⟩ : ∃ z, z = h79.size := ⟨_, rfl⟩
        rw [← g82] at A82 st82
        have f83 : Exa Z h79 a0 "com/example/skuld/skuld/analysis/Layout" := (f78.wr W79)
        have ne_a0_bo : a0 ≠ bo := Nat.ne_of_lt (Nat.lt_of_lt_of_le f83.lt (Nat.le_of_eq g82.symm))
        have f84 : own_Az Z h79 a1 .int zl f := ((f73.ext E71).other W79 (Ne.symm hne))
        have ne_a1_bo : a1 ≠ bo := Nat.ne_of_lt (Nat.lt_of_lt_of_le f84.lt (Nat.le_of_eq g82.symm))
        have f85 : own_Az Z h79 bf .int (2 : Int32) (fun _ => (0 : Int32)) := (A_bf.other W79 (Ne.symm ne_a0_bf))
        have ne_bf_bo : bf ≠ bo := Nat.ne_of_lt (Nat.lt_of_lt_of_le f85.lt (Nat.le_of_eq g82.symm))
        have f86 : own_Lz Z h79 bl zl fl := ((f74.ext E71).other W79 (Ne.symm ne_a0_bl))
        have ne_bl_bo : bl ≠ bo := Nat.ne_of_lt (Nat.lt_of_lt_of_le f86.lt (Nat.le_of_eq g82.symm))
        have f87 : own_Az Z h79 bs .int zl fs := ((f75.ext E71).other W79 (Ne.symm ne_a0_bs))
        have ne_bs_bo : bs ≠ bo := Nat.ne_of_lt (Nat.lt_of_lt_of_le f87.lt (Nat.le_of_eq g82.symm))
        have f88 : own_Az Z h79 bw .int zl fw := ((f76.ext E71).other W79 (Ne.symm ne_a0_bw))
        have ne_bw_bo : bw ≠ bo := Nat.ne_of_lt (Nat.lt_of_lt_of_le f88.lt (Nat.le_of_eq g82.symm))
        have g_bo : n0 ≤ bo := Nat.le_trans Z79 (Nat.le_of_eq g82.symm)
        have sz_bo : h0.size ≤ bo := Nat.le_trans K79.1 (Nat.le_of_eq g82.symm)
        have Z82 : n0 ≤ h82.size := Nat.le_trans Z79 E82.1
        have K82 : Keep h0 h82 [a0] := K79.ext E82
        have V_bo : Arv Z h82 bo k82 .boolean (1 : Int32) [] (.int (0 : Int32)) := Arv.new A82 (by decide)
        refine Go.to (g' := (mkF m 133 #[.val (.ref a0), .val (.ref a1), .val (.int (0 : Int32)), .val (.int us), .val (.int i)] [(.ref bo), (.ref a0)])) st82 ?_
        have A_bo := own_az_of V_bo
        have f89 : Fld Z h82 a0 "com/example/skuld/skuld/analysis/Layout" "oneBitFields" "[Z" .null := ((((F_loop_7.other W69 (Or.inr (slot_ne (Or.inr (hw _ (List.mem_of_getElem? (i := 36) rfl))) (Or.inr (hw _ (List.mem_of_getElem? (i := 31) rfl))) (by decide) (t := (.array .boolean)) (t' := .int) (by decide) (by decide)))).ext E71).other W79 (Or.inr (slot_ne (Or.inr (hw _ (List.mem_of_getElem? (i := 36) rfl))) (Or.inr (hw _ (List.mem_of_getElem? (i := 33) rfl))) (by decide) (t := (.array .boolean)) (t' := (.array .int)) (by decide) (by decide)))).ext E82)
        have f90 : Exa Z h82 a0 "com/example/skuld/skuld/analysis/Layout" := (f83.ext E82)
        obtain ⟨T91, h91, X91, e91, W91, st91⟩ := putF X82 hx hZ hown (host := "") (Or.inl (hw _ (List.mem_of_getElem? (i := 35) rfl))) Via.refl e82 f89 f90 (Or.inr ⟨(hw _ (List.mem_of_getElem? (i := 36) rfl)), rfl, hnm⟩) (hw _ (List.mem_of_getElem? (i := 3) rfl)) (ty := (.array .boolean)) (by decide) rfl rfl (g := (mkF m 133 #[.val (.ref a0), .val (.ref a1), .val (.int (0 : Int32)), .val (.int us), .val (.int i)] [(.ref bo), (.ref a0)])) rfl rfl (hb hby d4_133)
        have Z91 : n0 ≤ h91.size := Nat.le_trans Z82 (Keep.of_wr W91).1
        have K91 : Keep h0 h91 [a0] := K82.wr W91 (Or.inl (List.mem_of_getElem? (i := 0) rfl))
        have N91 := Fr.snoc X91 N79 g_a0
        have Fw91 : Fld Z h91 a0 "com/example/skuld/skuld/analysis/Layout" "oneBitFields" "[Z" (.ref bo) := f89.same W91
        refine Go.to (g' := (mkF m 136 #[.val (.ref a0), .val (.ref a1), .val (.int (0 : Int32)), .val (.int us), .val (.int i)] [])) st91 ?_
        refine Go.to (g' := (mkF m 137 #[.val (.ref a0), .val (.ref a1), .val (.int (0 : Int32)), .val (.int us), .val (.int i)] [(.ref a0)])) (fun t k => XS.aloadN X91.here hx rfl (hb hby d4_136) rfl rfl k) ?_
        obtain ⟨T92, X92, e92, st92⟩ := getF X91 hx hZ hown (host := "") (Or.inl (hw _ (List.mem_of_getElem? (i := 35) rfl))) Via.refl e91 Fw91 (g := (mkF m 137 #[.val (.ref a0), .val (.ref a1), .val (.int (0 : Int32)), .val (.int us), .val (.int i)] [(.ref a0)])) rfl rfl (hb hby d4_137)
        refine Go.to (g' := (mkF m 140 #[.val (.ref a0), .val (.ref a1), .val (.int (0 : Int32)), .val (.int us), .val (.int i)] [(.ref bo)])) st92 ?_
        refine Go.to (g' := (mkF m 141 #[.val (.ref a0), .val (.ref a1), .val (.int (0 : Int32)), .val (.int us), .val (.int i)] [(.int (1 : Int32)), (.ref bo)])) (fun t k => XS.iconst X92.here hx rfl (hb hby d4_140) k) ?_
        have f93 : own_Az Z h91 bo .boolean (1 : Int32) (fun _ => (0 : Int32)) := (A_bo.other W91 (Ne.symm ne_a0_bo))
        obtain ⟨v94, _, ⟨T94, L94, k94, n94⟩, -, X94, ⟨Lc94, hQ94, l94, y94, z94⟩, st94⟩ := Jvm.LawKit.callS X92 hx (y := (⟨"java/util/Arrays", "fill", "([ZZ)V"⟩ : MethodName)) hown (mvT hZ (hw _ (List.mem_of_getElem? (i := 37) rfl))) (mvT hZ (hw _ (List.mem_of_getElem? (i := 38) rfl))) (mvT hZ (hw _ (List.mem_of_getElem? (i := 14) rfl))) (mvT hZ (hw _ (List.mem_of_getElem? (i := 39) rfl))) (by decide) (backOf (W := 0) (rm6 l Z aw hw [] bo (1 : Int32) (1 : Int32) (fun _ => (0 : Int32)) h91 n0 Z91 f93 (by decide) g_bo) hZ (hw _ (List.mem_of_getElem? (i := 39) rfl)) (hw _ (List.mem_of_getElem? (i := 14) rfl)) (by decide) (by decide)) (g := (mkF m 141 #[.val (.ref a0), .val (.ref a1), .val (.int (0 : Int32)), .val (.int us), .val (.int i)] [(.int (1 : Int32)), (.ref bo)])) rfl (by rw [hml]; rfl) (argsL := [(.ref bo), (.int (1 : Int32))]) (rest := []) (lenOf pd_285bZZ29V rfl) rfl (by show 2 * 0 + _ ≤ _; exact Nat.le_of_eq rfl) (hb hby d4_141) (fun _ _ => ⟨rfl, e92, (by decide : 5 + 0 ≤ _), (by decide : 389 + 0 ≤ _)⟩)
        dsimp only [Pt.U, Pt.locs, Pt.cells, Pt.slots] at X94 l94 y94 z94 st94 hQ94
        subst l94 y94 z94
        obtain ⟨h94, e94⟩ : ∃ z, T94.heap = z := ⟨_, rfl⟩
        rw [e94] at hQ94
        obtain ⟨g94, rfl, N94q, Kq94, A94⟩ := hQ94
        have N94 := Fr.app N91 N94q
        have Z94 : n0 ≤ h94.size := Nat.le_trans Z91 Kq94.1
        have K94 : Keep h0 h94 [a0] := K91.trans Kq94 (fun x hx => by cases List.mem_singleton.mp hx; exact Or.inr sz_bo)
        refine Go.to (g' := (mkF m 144 #[.val (.ref a0), .val (.ref a1), .val (.int (0 : Int32)), .val (.int us), .val (.int i)] [])) st94 ?_
        refine Go.to (g' := (mkF m 145 #[.val (.ref a0), .val (.ref a1), .val (.int (0 : Int32)), .val (.int us), .val (.int i)] [(.ref a1)])) (fun t k => XS.aloadN X94.here hx rfl (hb hby d4_144) rfl rfl k) ?_
        have f95 : own_Az Z h94 a1 .int zl f := (((f84.ext E82).other W91 (Ne.symm hne)).keep Kq94 (fun q => ne_a1_bo (List.mem_singleton.mp q)))
        obtain ⟨cl96, Ar96, S96, M96, -⟩ := id f95
        refine Go.to (g' := (mkF m 146 #[.val (.ref a0), .val (.ref a1), .val (.int (0 : Int32)), .val (.int us), .val (.int i)] [(.int zl)])) (fun t k => X94.arraylength hx (by rw [e94]; exact Ar96.1) (State.isArrayOf_alike hZ.alike Ar96.2.1) (g := (mkF m 145 #[.val (.ref a0), .val (.ref a1), .val (.int (0 : Int32)), .val (.int us), .val (.int i)] [(.ref a1)])) rfl rfl (hb hby d4_145) _ (by rw [len_of S96 M96]; exact k)) ?_
        refine Go.to (g' := (mkF m 147 #[.val (.ref a0), .val (.ref a1), .val (.int (0 : Int32)), .val (.int us), .val (.int i)] [(.int (1 : Int32)), (.int zl)])) (fun t k => XS.iconst X94.here hx rfl (hb hby d4_146) k) ?_
        refine Go.to (g' := (mkF m 148 #[.val (.ref a0), .val (.ref a1), .val (.int (0 : Int32)), .val (.int us), .val (.int i)] [(.int (zl - (1 : Int32)))])) (fun t k => XS.isub X94.here hx rfl (hb hby d4_147) rfl k) ?_
        refine Go.to (g' := (mkF m 150 #[.val (.ref a0), .val (.ref a1), .val (.int (0 : Int32)), .val (.int us), .val (.int (zl - (1 : Int32)))] [])) (fun t k => XS.istore X94.here hx rfl (hb hby d4_148) rfl (l' := #[.val (.ref a0), .val (.ref a1), .val (.int (0 : Int32)), .val (.int us), .val (.int (zl - (1 : Int32)))]) rfl k) ?_
        have f97 : Exa Z h94 a0 "com/example/skuld/skuld/analysis/Layout" := ((f90.wr W91).keep Kq94)
        have f98 : Fld Z h94 a0 "com/example/skuld/skuld/analysis/Layout" "word" "[I" (.ref bw) := ((((((F_loop_2.other W69 (Or.inr (slot_ne (Or.inr (hw _ (List.mem_of_getElem? (i := 25) rfl))) (Or.inr (hw _ (List.mem_of_getElem? (i := 31) rfl))) (by decide) (t := (.array .int)) (t' := .int) (by decide) (by decide)))).ext E71).other W79 (Or.inr (slot_ne (Or.inr (hw _ (List.mem_of_getElem? (i := 25) rfl))) (Or.inr (hw _ (List.mem_of_getElem? (i := 33) rfl))) (by decide) (t := (.array .int)) (t' := (.array .int)) (by decide) (by decide)))).ext E82).other W91 (Or.inr (slot_ne (Or.inr (hw _ (List.mem_of_getElem? (i := 25) rfl))) (Or.inr (hw _ (List.mem_of_getElem? (i := 36) rfl))) (by decide) (t := (.array .int)) (t' := (.array .boolean)) (by decide) (by decide)))).keep Kq94 (fun q => ne_a0_bo (List.mem_singleton.mp q)))
        have f99 : Fld Z h94 a0 "com/example/skuld/skuld/analysis/Layout" "shift" "[I" (.ref bs) := ((((((F_loop_3.other W69 (Or.inr (slot_ne (Or.inr (hw _ (List.mem_of_getElem? (i := 27) rfl))) (Or.inr (hw _ (List.mem_of_getElem? (i := 31) rfl))) (by decide) (t := (.array .int)) (t' := .int) (by decide) (by decide)))).ext E71).other W79 (Or.inr (slot_ne (Or.inr (hw _ (List.mem_of_getElem? (i := 27) rfl))) (Or.inr (hw _ (List.mem_of_getElem? (i := 33) rfl))) (by decide) (t := (.array .int)) (t' := (.array .int)) (by decide) (by decide)))).ext E82).other W91 (Or.inr (slot_ne (Or.inr (hw _ (List.mem_of_getElem? (i := 27) rfl))) (Or.inr (hw _ (List.mem_of_getElem? (i := 36) rfl))) (by decide) (t := (.array .int)) (t' := (.array .boolean)) (by decide) (by decide)))).keep Kq94 (fun q => ne_a0_bo (List.mem_singleton.mp q)))
        have f100 : Fld Z h94 a0 "com/example/skuld/skuld/analysis/Layout" "largest" "[J" (.ref bl) := ((((((F_loop_4.other W69 (Or.inr (slot_ne (Or.inr (hw _ (List.mem_of_getElem? (i := 29) rfl))) (Or.inr (hw _ (List.mem_of_getElem? (i := 31) rfl))) (by decide) (t := (.array .long)) (t' := .int) (by decide) (by decide)))).ext E71).other W79 (Or.inr (slot_ne (Or.inr (hw _ (List.mem_of_getElem? (i := 29) rfl))) (Or.inr (hw _ (List.mem_of_getElem? (i := 33) rfl))) (by decide) (t := (.array .long)) (t' := (.array .int)) (by decide) (by decide)))).ext E82).other W91 (Or.inr (slot_ne (Or.inr (hw _ (List.mem_of_getElem? (i := 29) rfl))) (Or.inr (hw _ (List.mem_of_getElem? (i := 36) rfl))) (by decide) (t := (.array .long)) (t' := (.array .boolean)) (by decide) (by decide)))).keep Kq94 (fun q => ne_a0_bo (List.mem_singleton.mp q)))
        have f101 : Fld Z h94 a0 "com/example/skuld/skuld/analysis/Layout" "words" "I" (.int (1 : Int32)) := (((f80.ext E82).other W91 (Or.inr (slot_ne (Or.inr (hw _ (List.mem_of_getElem? (i := 31) rfl))) (Or.inr (hw _ (List.mem_of_getElem? (i := 36) rfl))) (by decide) (t := .int) (t' := (.array .boolean)) (by decide) (by decide)))).keep Kq94 (fun q => ne_a0_bo (List.mem_singleton.mp q)))
        have f102 : Fld Z h94 a0 "com/example/skuld/skuld/analysis/Layout" "firstPlace" "[I" (.ref bf) := (((Fw79.ext E82).other W91 (Or.inr (slot_ne (Or.inr (hw _ (List.mem_of_getElem? (i := 33) rfl))) (Or.inr (hw _ (List.mem_of_getElem? (i := 36) rfl))) (by decide) (t := (.array .int)) (t' := (.array .boolean)) (by decide) (by decide)))).keep Kq94 (fun q => ne_a0_bo (List.mem_singleton.mp q)))
        have f103 : Fld Z h94 a0 "com/example/skuld/skuld/analysis/Layout" "oneBitFields" "[Z" (.ref bo) := (Fw91.keep Kq94 (fun q => ne_a0_bo (List.mem_singleton.mp q)))
        have f104 : own_Az Z h94 bw .int zl fw := (((f88.ext E82).other W91 (Ne.symm ne_a0_bw)).keep Kq94 (fun q => ne_bw_bo (List.mem_singleton.mp q)))
        have f105 : own_Az Z h94 bs .int zl fs := (((f87.ext E82).other W91 (Ne.symm ne_a0_bs)).keep Kq94 (fun q => ne_bs_bo (List.mem_singleton.mp q)))
        have f106 : own_Lz Z h94 bl zl fl := (((f86.ext E82).other W91 (Ne.symm ne_a0_bl)).keep Kq94 (fun q => ne_bl_bo (List.mem_singleton.mp q)))
        have f107 : own_Az Z h94 bf .int (2 : Int32) (fun _ => (0 : Int32)) := (((f85.ext E82).other W91 (Ne.symm ne_a0_bf)).keep Kq94 (fun q => ne_bf_bo (List.mem_singleton.mp q)))
        suffices loop2 : ∀ (n : Nat) (T_loop2 : State) (lc_loop2 : List Loc) (h_loop2 : Heap) (m_ : Int32) (go gp : Int32 → Int32) (hm : (m_.toInt + 1).toNat < n) (X_loop2 : Stand p l e ({ frames := 1, cells := 5, slots := 389, locals := 15 } : Room) s m #[(.ref a0), (.ref a1)] below meth c T_loop2 lc_loop2 5 389) (e_loop2 : T_loop2.heap = h_loop2) (N_loop2 : Fr n0 lc_loop2) (Z_loop2 : n0 ≤ h_loop2.size) (K_loop2 : Keep h0 h_loop2 [a0]) (F_loop2_0 : Exa Z h_loop2 a0 "com/example/skuld/skuld/analysis/Layout") (F_loop2_1 : Fld Z h_loop2 a0 "com/example/skuld/skuld/analysis/Layout" "word" "[I" (.ref bw)) (F_loop2_2 : Fld Z h_loop2 a0 "com/example/skuld/skuld/analysis/Layout" "shift" "[I" (.ref bs)) (F_loop2_3 : Fld Z h_loop2 a0 "com/example/skuld/skuld/analysis/Layout" "largest" "[J" (.ref bl)) (F_loop2_4 : Fld Z h_loop2 a0 "com/example/skuld/skuld/analysis/Layout" "words" "I" (.int (1 : Int32))) (F_loop2_5 : Fld Z h_loop2 a0 "com/example/skuld/skuld/analysis/Layout" "firstPlace" "[I" (.ref bf)) (F_loop2_6 : Fld Z h_loop2 a0 "com/example/skuld/skuld/analysis/Layout" "oneBitFields" "[Z" (.ref bo)) (F_loop2_7 : own_Az Z h_loop2 a1 .int zl f) (F_loop2_8 : own_Az Z h_loop2 bw .int zl fw) (F_loop2_9 : own_Az Z h_loop2 bs .int zl fs) (F_loop2_10 : own_Lz Z h_loop2 bl zl fl) (F_loop2_11 : own_Az Z h_loop2 bo .boolean (1 : Int32) go) (F_loop2_12 : own_Az Z h_loop2 bf .int (2 : Int32) gp) (hm1 : -1 ≤ m_.toInt) (hm2 : m_.toInt < zl.toInt), Go p e below s (Q4 Z a0 a1 zl f h0 n0) ({ frames := 1, cells := 5, slots := 389, locals := 15 } : Room).cells ({ frames := 1, cells := 5, slots := 389, locals := 15 } : Room).slots (T_loop2.setTop (mkF m 150 #[.val (.ref a0), .val (.ref a1), .val (.int (0 : Int32)), .val (.int us), .val (.int m_)] [])) from loop2 (((zl - (1 : Int32)).toInt + 1).toNat + 1) _ _ _ (zl - (1 : Int32)) _ _ (Nat.lt_succ_self _) X94 e94 N94 Z94 K94 f97 f98 f99 f100 f101 f102 f103 f95 f104 f105 f106 A94 f107 (own_pre hz hz2).1 (own_pre hz hz2).2
        intro n
        induction n with
        | zero => intro T_loop2 lc_loop2 h_loop2 m_ go gp hm X_loop2 e_loop2 N_loop2 Z_loop2 K_loop2 F_loop2_0 F_loop2_1 F_loop2_2 F_loop2_3 F_loop2_4 F_loop2_5 F_loop2_6 F_loop2_7 F_loop2_8 F_loop2_9 F_loop2_10 F_loop2_11 F_loop2_12 hm1 hm2; exact absurd hm (Nat.not_lt_zero _)
        | succ n ih =>
          intro T_loop2 lc_loop2 h_loop2 m_ go gp hm X_loop2 e_loop2 N_loop2 Z_loop2 K_loop2 F_loop2_0 F_loop2_1 F_loop2_2 F_loop2_3 F_loop2_4 F_loop2_5 F_loop2_6 F_loop2_7 F_loop2_8 F_loop2_9 F_loop2_10 F_loop2_11 F_loop2_12 hm1 hm2
          refine Go.to (g' := (mkF m 152 #[.val (.ref a0), .val (.ref a1), .val (.int (0 : Int32)), .val (.int us), .val (.int m_)] [(.int m_)])) (fun t k => XS.iload X_loop2.here hx rfl (hb hby d4_150) rfl k) ?_
          by_cases c108 : m_ < (0 : Int32)
          · refine Go.to (g' := (mkF m 203 #[.val (.ref a0), .val (.ref a1), .val (.int (0 : Int32)), .val (.int us), .val (.int m_)] [])) (fun t k => XS.ifYes X_loop2.here hx rfl (pc0 := 152) (pc' := 203) rfl (hb hby d4_152) rfl ((if0 _ _).trans (tlt c108).1) (by decide) (by decide) k) ?_
            refine Go.to (g' := (mkF m 204 #[.val (.ref a0), .val (.ref a1), .val (.int (0 : Int32)), .val (.int us), .val (.int m_)] [(.ref a0)])) (fun t k => XS.aloadN X_loop2.here hx rfl (hb hby d4_203) rfl rfl k) ?_
            obtain ⟨T109, X109, e109, st109⟩ := getF X_loop2 hx hZ hown (host := "") (Or.inl (hw _ (List.mem_of_getElem? (i := 32) rfl))) Via.refl e_loop2 F_loop2_5 (g := (mkF m 204 #[.val (.ref a0), .val (.ref a1), .val (.int (0 : Int32)), .val (.int us), .val (.int m_)] [(.ref a0)])) rfl rfl (hb hby d4_204)
            refine Go.to (g' := (mkF m 207 #[.val (.ref a0), .val (.ref a1), .val (.int (0 : Int32)), .val (.int us), .val (.int m_)] [(.ref bf)])) st109 ?_
            refine Go.to (g' := (mkF m 208 #[.val (.ref a0), .val (.ref a1), .val (.int (0 : Int32)), .val (.int us), .val (.int m_)] [(.ref a0), (.ref bf)])) (fun t k => XS.aloadN X109.here hx rfl (hb hby d4_207) rfl rfl k) ?_
            obtain ⟨T110, X110, e110, st110⟩ := getF X109 hx hZ hown (host := "") (Or.inl (hw _ (List.mem_of_getElem? (i := 30) rfl))) Via.refl e109 F_loop2_4 (g := (mkF m 208 #[.val (.ref a0), .val (.ref a1), .val (.int (0 : Int32)), .val (.int us), .val (.int m_)] [(.ref a0), (.ref bf)])) rfl rfl (hb hby d4_208)
            refine Go.to (g' := (mkF m 211 #[.val (.ref a0), .val (.ref a1), .val (.int (0 : Int32)), .val (.int us), .val (.int m_)] [(.int (1 : Int32)), (.ref bf)])) st110 ?_
            refine Go.to (g' := (mkF m 212 #[.val (.ref a0), .val (.ref a1), .val (.int (0 : Int32)), .val (.int us), .val (.int m_)] [(.ref a1), (.int (1 : Int32)), (.ref bf)])) (fun t k => XS.aloadN X110.here hx rfl (hb hby d4_211) rfl rfl k) ?_
            obtain ⟨cl111, Ar111, S111, M111, -⟩ := id F_loop2_7
            refine Go.to (g' := (mkF m 213 #[.val (.ref a0), .val (.ref a1), .val (.int (0 : Int32)), .val (.int us), .val (.int m_)] [(.int zl), (.int (1 : Int32)), (.ref bf)])) (fun t k => X110.arraylength hx (by rw [e110]; exact Ar111.1) (State.isArrayOf_alike hZ.alike Ar111.2.1) (g := (mkF m 212 #[.val (.ref a0), .val (.ref a1), .val (.int (0 : Int32)), .val (.int us), .val (.int m_)] [(.ref a1), (.int (1 : Int32)), (.ref bf)])) rfl rfl (hb hby d4_212) _ (by rw [len_of S111 M111]; exact k)) ?_
            obtain ⟨cl112, Ar112, Sz112, Mz112, Hf112⟩ := id F_loop2_12
            obtain ⟨T113, h113, X113, e113, W113, st113⟩ := stI X110 hx hZ e110 Ar112 (j := (1 : Int32)) (inb_of Sz112 ⟨(by decide), (by decide)⟩) (g := (mkF m 213 #[.val (.ref a0), .val (.ref a1), .val (.int (0 : Int32)), .val (.int us), .val (.int m_)] [(.int zl), (.int (1 : Int32)), (.ref bf)])) rfl rfl (hb hby d4_213)
            have Z113 : n0 ≤ h113.size := Nat.le_trans Z_loop2 (Keep.of_wr W113).1
            have K113 : Keep h0 h113 [a0] := K_loop2.wr W113 (Or.inr sz_bf)
            have N113 := Fr.snoc X113 N_loop2 g_bf
            have B113 : own_Az Z h113 bf .int (2 : Int32) (own_upd gp (1 : Int32) zl) := F_loop2_12.set (by decide) W113
            refine Go.to (g' := (mkF m 214 #[.val (.ref a0), .val (.ref a1), .val (.int (0 : Int32)), .val (.int us), .val (.int m_)] [])) st113 ?_
            have f114 : Fld Z h113 a0 "com/example/skuld/skuld/analysis/Layout" "word" "[I" (.ref bw) := (F_loop2_1.other W113 (Or.inl ne_a0_bf))
            have f115 : Fld Z h113 a0 "com/example/skuld/skuld/analysis/Layout" "shift" "[I" (.ref bs) := (F_loop2_2.other W113 (Or.inl ne_a0_bf))
            have f116 : Fld Z h113 a0 "com/example/skuld/skuld/analysis/Layout" "largest" "[J" (.ref bl) := (F_loop2_3.other W113 (Or.inl ne_a0_bf))
            have f117 : own_Az Z h113 bw .int zl fw := (F_loop2_8.other W113 ne_bw_bf)
            have f118 : own_Az Z h113 bs .int zl fs := (F_loop2_9.other W113 ne_bs_bf)
            have f119 : own_Lz Z h113 bl zl fl := (F_loop2_10.other W113 ne_bl_bf)
            exact Go.ret X113 hx Bd.returns Bd.notSynchronized (hb hby d4_214) (by decide) (by decide) e113 ⟨bw, bs, bl, fw, fs, fl, rfl, N113, K113, f114, f115, f116, f117, f118, f119, hwA, hsA, hlA⟩
          · refine Go.to (g' := (mkF m 155 #[.val (.ref a0), .val (.ref a1), .val (.int (0 : Int32)), .val (.int us), .val (.int m_)] [])) (fun t k => XS.ifNo X_loop2.here hx rfl (hb hby d4_152) rfl ((if0 _ _).trans (flt c108).1) k) ?_
            refine Go.to (g' := (mkF m 156 #[.val (.ref a0), .val (.ref a1), .val (.int (0 : Int32)), .val (.int us), .val (.int m_)] [(.ref a0)])) (fun t k => XS.aloadN X_loop2.here hx rfl (hb hby d4_155) rfl rfl k) ?_
            obtain ⟨T120, X120, e120, st120⟩ := getF X_loop2 hx hZ hown (host := "") (Or.inl (hw _ (List.mem_of_getElem? (i := 32) rfl))) Via.refl e_loop2 F_loop2_5 (g := (mkF m 156 #[.val (.ref a0), .val (.ref a1), .val (.int (0 : Int32)), .val (.int us), .val (.int m_)] [(.ref a0)])) rfl rfl (hb hby d4_156)
            refine Go.to (g' := (mkF m 159 #[.val (.ref a0), .val (.ref a1), .val (.int (0 : Int32)), .val (.int us), .val (.int m_)] [(.ref bf)])) st120 ?_
            refine Go.to (g' := (mkF m 160 #[.val (.ref a0), .val (.ref a1), .val (.int (0 : Int32)), .val (.int us), .val (.int m_)] [(.ref a0), (.ref bf)])) (fun t k => XS.aloadN X120.here hx rfl (hb hby d4_159) rfl rfl k) ?_
            obtain ⟨T121, X121, e121, st121⟩ := getF X120 hx hZ hown (host := "") (Or.inl (hw _ (List.mem_of_getElem? (i := 24) rfl))) Via.refl e120 F_loop2_1 (g := (mkF m 160 #[.val (.ref a0), .val (.ref a1), .val (.int (0 : Int32)), .val (.int us), .val (.int m_)] [(.ref a0), (.ref bf)])) rfl rfl (hb hby d4_160)
            refine Go.to (g' := (mkF m 163 #[.val (.ref a0), .val (.ref a1), .val (.int (0 : Int32)), .val (.int us), .val (.int m_)] [(.ref bw), (.ref bf)])) st121 ?_
            refine Go.to (g' := (mkF m 165 #[.val (.ref a0), .val (.ref a1), .val (.int (0 : Int32)), .val (.int us), .val (.int m_)] [(.int m_), (.ref bw), (.ref bf)])) (fun t k => XS.iload X121.here hx rfl (hb hby d4_163) rfl k) ?_
            obtain ⟨cl122, Ar122, Sz122, Mz122, Hf122⟩ := id F_loop2_8
            refine Go.to (g' := (mkF m 166 #[.val (.ref a0), .val (.ref a1), .val (.int (0 : Int32)), .val (.int us), .val (.int m_)] [(.int (fw m_)), (.ref bf)])) (fun t k => X121.iaload hx (j := m_) (v := (.int (fw m_))) (by rw [e121]; exact Ar122.1) (State.isArrayOf_alike hZ.alike Ar122.2.1) Ar122.2.2 (inb_of Sz122 ⟨c108, (own_mlt hm2)⟩) (Hf122 _ c108 (own_mlt hm2)) (g := (mkF m 165 #[.val (.ref a0), .val (.ref a1), .val (.int (0 : Int32)), .val (.int us), .val (.int m_)] [(.int m_), (.ref bw), (.ref bf)])) rfl rfl (hb hby d4_165) _ k) ?_
            rw [show (fw m_) = (own_w m_) from hwA _ c108 (own_mlt hm2)]
            refine Go.to (g' := (mkF m 168 #[.val (.ref a0), .val (.ref a1), .val (.int (0 : Int32)), .val (.int us), .val (.int m_)] [(.int m_), (.int (own_w m_)), (.ref bf)])) (fun t k => XS.iload X121.here hx rfl (hb hby d4_166) rfl k) ?_
            obtain ⟨cl123, Ar123, Sz123, Mz123, Hf123⟩ := id F_loop2_12
            obtain ⟨T124, h124, X124, e124, W124, st124⟩ := stI X121 hx hZ e121 Ar123 (j := (own_w m_)) (inb_of Sz123 ⟨(own_bw0 (own_mlt hm2) hk).1, (own_bw0 (own_mlt hm2) hk).2.2⟩) (g := (mkF m 168 #[.val (.ref a0), .val (.ref a1), .val (.int (0 : Int32)), .val (.int us), .val (.int m_)] [(.int m_), (.int (own_w m_)), (.ref bf)])) rfl rfl (hb hby d4_168)
            have Z124 : n0 ≤ h124.size := Nat.le_trans Z_loop2 (Keep.of_wr W124).1
            have K124 : Keep h0 h124 [a0] := K_loop2.wr W124 (Or.inr sz_bf)
            have N124 := Fr.snoc X124 N_loop2 g_bf
            have B124 : own_Az Z h124 bf .int (2 : Int32) (own_upd gp (own_w m_) m_) := F_loop2_12.set (own_bw0 (own_mlt hm2) hk).1 W124
            refine Go.to (g' := (mkF m 169 #[.val (.ref a0), .val (.ref a1), .val (.int (0 : Int32)), .val (.int us), .val (.int m_)] [])) st124 ?_
            refine Go.to (g' := (mkF m 170 #[.val (.ref a0), .val (.ref a1), .val (.int (0 : Int32)), .val (.int us), .val (.int m_)] [(.ref a0)])) (fun t k => XS.aloadN X124.here hx rfl (hb hby d4_169) rfl rfl k) ?_
            have f125 : Fld Z h124 a0 "com/example/skuld/skuld/analysis/Layout" "oneBitFields" "[Z" (.ref bo) := (F_loop2_6.other W124 (Or.inl ne_a0_bf))
            obtain ⟨T126, X126, e126, st126⟩ := getF X124 hx hZ hown (host := "") (Or.inl (hw _ (List.mem_of_getElem? (i := 35) rfl))) Via.refl e124 f125 (g := (mkF m 170 #[.val (.ref a0), .val (.ref a1), .val (.int (0 : Int32)), .val (.int us), .val (.int m_)] [(.ref a0)])) rfl rfl (hb hby d4_170)
            refine Go.to (g' := (mkF m 173 #[.val (.ref a0), .val (.ref a1), .val (.int (0 : Int32)), .val (.int us), .val (.int m_)] [(.ref bo)])) st126 ?_
            refine Go.to (g' := (mkF m 174 #[.val (.ref a0), .val (.ref a1), .val (.int (0 : Int32)), .val (.int us), .val (.int m_)] [(.ref a0), (.ref bo)])) (fun t k => XS.aloadN X126.here hx rfl (hb hby d4_173) rfl rfl k) ?_
            have f127 : Fld Z h124 a0 "com/example/skuld/skuld/analysis/Layout" "word" "[I" (.ref bw) := (F_loop2_1.other W124 (Or.inl ne_a0_bf))
            obtain ⟨T128, X128, e128, st128⟩ := getF X126 hx hZ hown (host := "") (Or.inl (hw _ (List.mem_of_getElem? (i := 24) rfl))) Via.refl e126 f127 (g := (mkF m 174 #[.val (.ref a0), .val (.ref a1), .val (.int (0 : Int32)), .val (.int us), .val (.int m_)] [(.ref a0), (.ref bo)])) rfl rfl (hb hby d4_174)
            refine Go.to (g' := (mkF m 177 #[.val (.ref a0), .val (.ref a1), .val (.int (0 : Int32)), .val (.int us), .val (.int m_)] [(.ref bw), (.ref bo)])) st128 ?_
            refine Go.to (g' := (mkF m 179 #[.val (.ref a0), .val (.ref a1), .val (.int (0 : Int32)), .val (.int us), .val (.int m_)] [(.int m_), (.ref bw), (.ref bo)])) (fun t k => XS.iload X128.here hx rfl (hb hby d4_177) rfl k) ?_
            have f129 : own_Az Z h124 bw .int zl fw := (F_loop2_8.other W124 ne_bw_bf)
            obtain ⟨cl130, Ar130, Sz130, Mz130, Hf130⟩ := id f129
            refine Go.to (g' := (mkF m 180 #[.val (.ref a0), .val (.ref a1), .val (.int (0 : Int32)), .val (.int us), .val (.int m_)] [(.int (fw m_)), (.ref bo)])) (fun t k => X128.iaload hx (j := m_) (v := (.int (fw m_))) (by rw [e128]; exact Ar130.1) (State.isArrayOf_alike hZ.alike Ar130.2.1) Ar130.2.2 (inb_of Sz130 ⟨c108, (own_mlt hm2)⟩) (Hf130 _ c108 (own_mlt hm2)) (g := (mkF m 179 #[.val (.ref a0), .val (.ref a1), .val (.int (0 : Int32)), .val (.int us), .val (.int m_)] [(.int m_), (.ref bw), (.ref bo)])) rfl rfl (hb hby d4_179) _ k) ?_
            rw [show (fw m_) = (own_w m_) from hwA _ c108 (own_mlt hm2)]
            refine Go.to (g' := (mkF m 181 #[.val (.ref a0), .val (.ref a1), .val (.int (0 : Int32)), .val (.int us), .val (.int m_)] [(.int (own_w m_)), (.ref bo), (.int (own_w m_)), (.ref bo)])) (fun t k => XT.dup2 X128.here hx rfl (hb hby d4_180) rfl rfl rfl k) ?_
            have f131 : own_Az Z h124 bo .boolean (1 : Int32) go := (F_loop2_11.other W124 (Ne.symm ne_bf_bo))
            obtain ⟨cl132, Ar132, Sz132, Mz132, Hf132⟩ := id f131
            refine Go.to (g' := (mkF m 182 #[.val (.ref a0), .val (.ref a1), .val (.int (0 : Int32)), .val (.int us), .val (.int m_)] [(.int (go (own_w m_))), (.int (own_w m_)), (.ref bo)])) (fun t k => X128.baloadBooleans hx (j := (own_w m_)) (v := (.int (go (own_w m_)))) (by rw [e128]; exact Ar132.1) (State.isArrayOf_alike hZ.alike Ar132.2.1) Ar132.2.2 (inb_of Sz132 ⟨(own_bw0 (own_mlt hm2) hk).1, (own_bw0 (own_mlt hm2) hk).2.1⟩) (Hf132 _ (own_bw0 (own_mlt hm2) hk).1 (own_bw0 (own_mlt hm2) hk).2.1) (g := (mkF m 181 #[.val (.ref a0), .val (.ref a1), .val (.int (0 : Int32)), .val (.int us), .val (.int m_)] [(.int (own_w m_)), (.ref bo), (.int (own_w m_)), (.ref bo)])) rfl rfl (hb hby d4_181) _ k) ?_
            refine Go.to (g' := (mkF m 183 #[.val (.ref a0), .val (.ref a1), .val (.int (0 : Int32)), .val (.int us), .val (.int m_)] [(.ref a1), (.int (go (own_w m_))), (.int (own_w m_)), (.ref bo)])) (fun t k => XS.aloadN X128.here hx rfl (hb hby d4_182) rfl rfl k) ?_
            refine Go.to (g' := (mkF m 185 #[.val (.ref a0), .val (.ref a1), .val (.int (0 : Int32)), .val (.int us), .val (.int m_)] [(.int m_), (.ref a1), (.int (go (own_w m_))), (.int (own_w m_)), (.ref bo)])) (fun t k => XS.iload X128.here hx rfl (hb hby d4_183) rfl k) ?_
            have f133 : own_Az Z h124 a1 .int zl f := (F_loop2_7.other W124 ne_a1_bf)
            obtain ⟨cl134, Ar134, Sz134, Mz134, Hf134⟩ := id f133
            refine Go.to (g' := (mkF m 186 #[.val (.ref a0), .val (.ref a1), .val (.int (0 : Int32)), .val (.int us), .val (.int m_)] [(.int (f m_)), (.int (go (own_w m_))), (.int (own_w m_)), (.ref bo)])) (fun t k => X128.iaload hx (j := m_) (v := (.int (f m_))) (by rw [e128]; exact Ar134.1) (State.isArrayOf_alike hZ.alike Ar134.2.1) Ar134.2.2 (inb_of Sz134 ⟨c108, (own_mlt hm2)⟩) (Hf134 _ c108 (own_mlt hm2)) (g := (mkF m 185 #[.val (.ref a0), .val (.ref a1), .val (.int (0 : Int32)), .val (.int us), .val (.int m_)] [(.int m_), (.ref a1), (.int (go (own_w m_))), (.int (own_w m_)), (.ref bo)])) rfl rfl (hb hby d4_185) _ k) ?_
            rw [show (f m_) = (1 : Int32) from hf _ c108 (own_mlt hm2)]
            refine Go.to (g' := (mkF m 187 #[.val (.ref a0), .val (.ref a1), .val (.int (0 : Int32)), .val (.int us), .val (.int m_)] [(.int (1 : Int32)), (.int (1 : Int32)), (.int (go (own_w m_))), (.int (own_w m_)), (.ref bo)])) (fun t k => XS.iconst X128.here hx rfl (hb hby d4_186) k) ?_
            refine Go.to (g' := (mkF m 190 #[.val (.ref a0), .val (.ref a1), .val (.int (0 : Int32)), .val (.int us), .val (.int m_)] [(.int (go (own_w m_))), (.int (own_w m_)), (.ref bo)])) (fun t k => XS.icmpNo X128.here hx rfl (hb hby d4_187) rfl (teq (by decide)).2 k) ?_
            refine Go.to (g' := (mkF m 191 #[.val (.ref a0), .val (.ref a1), .val (.int (0 : Int32)), .val (.int us), .val (.int m_)] [(.int (1 : Int32)), (.int (go (own_w m_))), (.int (own_w m_)), (.ref bo)])) (fun t k => XS.iconst X128.here hx rfl (hb hby d4_190) k) ?_
            refine Go.to (g' := (mkF m 195 #[.val (.ref a0), .val (.ref a1), .val (.int (0 : Int32)), .val (.int us), .val (.int m_)] [(.int (1 : Int32)), (.int (go (own_w m_))), (.int (own_w m_)), (.ref bo)])) (fun t k => XS.goto X128.here hx rfl (pc0 := 191) (pc' := 195) rfl (hb hby d4_191) (by decide) (by decide) k) ?_
            refine Go.to (g' := (mkF m 196 #[.val (.ref a0), .val (.ref a1), .val (.int (0 : Int32)), .val (.int us), .val (.int m_)] [(.int ((go (own_w m_)) &&& (1 : Int32))), (.int (own_w m_)), (.ref bo)])) (fun t k => XS.iand X128.here hx rfl (hb hby d4_195) rfl k) ?_
            obtain ⟨cl135, Ar135, Sz135, Mz135, Hf135⟩ := id f131
            obtain ⟨T136, h136, X136, e136, W136, st136⟩ := stZ X128 hx hZ e128 Ar135 (j := (own_w m_)) (inb_of Sz135 ⟨(own_bw0 (own_mlt hm2) hk).1, (own_bw0 (own_mlt hm2) hk).2.1⟩) (g := (mkF m 196 #[.val (.ref a0), .val (.ref a1), .val (.int (0 : Int32)), .val (.int us), .val (.int m_)] [(.int ((go (own_w m_)) &&& (1 : Int32))), (.int (own_w m_)), (.ref bo)])) rfl rfl (hb hby d4_196)
            have Z136 : n0 ≤ h136.size := Nat.le_trans Z124 (Keep.of_wr W136).1
            have K136 : Keep h0 h136 [a0] := K124.wr W136 (Or.inr sz_bo)
            have N136 := Fr.snoc X136 N124 g_bo
            have B136 : own_Az Z h136 bo .boolean (1 : Int32) (own_upd go (own_w m_) ((((go (own_w m_)) &&& (1 : Int32))) &&& 1)) := f131.set (own_bw0 (own_mlt hm2) hk).1 W136
            refine Go.to (g' := (mkF m 197 #[.val (.ref a0), .val (.ref a1), .val (.int (0 : Int32)), .val (.int us), .val (.int m_)] [])) st136 ?_
            refine Go.to (g' := (mkF m 200 #[.val (.ref a0), .val (.ref a1), .val (.int (0 : Int32)), .val (.int us), .val (.int (m_ + (-1 : Int32)))] [])) (fun t k => XS.iinc X136.here hx rfl (hb hby d4_197) rfl (l' := #[.val (.ref a0), .val (.ref a1), .val (.int (0 : Int32)), .val (.int us), .val (.int (m_ + (-1 : Int32)))]) rfl k) ?_
            refine Go.to (g' := (mkF m 150 #[.val (.ref a0), .val (.ref a1), .val (.int (0 : Int32)), .val (.int us), .val (.int (m_ + (-1 : Int32)))] [])) (fun t k => XS.goto X136.here hx rfl (pc0 := 200) (pc' := 150) rfl (hb hby d4_200) (by decide) (by decide) k) ?_
            have f137 : Exa Z h136 a0 "com/example/skuld/skuld/analysis/Layout" := ((F_loop2_0.wr W124).wr W136)
            have f138 : Fld Z h136 a0 "com/example/skuld/skuld/analysis/Layout" "word" "[I" (.ref bw) := (f127.other W136 (Or.inl ne_a0_bo))
            have f139 : Fld Z h136 a0 "com/example/skuld/skuld/analysis/Layout" "shift" "[I" (.ref bs) := ((F_loop2_2.other W124 (Or.inl ne_a0_bf)).other W136 (Or.inl ne_a0_bo))
            have f140 : Fld Z h136 a0 "com/example/skuld/skuld/analysis/Layout" "largest" "[J" (.ref bl) := ((F_loop2_3.other W124 (Or.inl ne_a0_bf)).other W136 (Or.inl ne_a0_bo))
            have f141 : Fld Z h136 a0 "com/example/skuld/skuld/analysis/Layout" "words" "I" (.int (1 : Int32)) := ((F_loop2_4.other W124 (Or.inl ne_a0_bf)).other W136 (Or.inl ne_a0_bo))
            have f142 : Fld Z h136 a0 "com/example/skuld/skuld/analysis/Layout" "firstPlace" "[I" (.ref bf) := ((F_loop2_5.other W124 (Or.inl ne_a0_bf)).other W136 (Or.inl ne_a0_bo))
            have f143 : Fld Z h136 a0 "com/example/skuld/skuld/analysis/Layout" "oneBitFields" "[Z" (.ref bo) := (f125.other W136 (Or.inl ne_a0_bo))
            have f144 : own_Az Z h136 a1 .int zl f := (f133.other W136 ne_a1_bo)
            have f145 : own_Az Z h136 bw .int zl fw := (f129.other W136 ne_bw_bo)
            have f146 : own_Az Z h136 bs .int zl fs := ((F_loop2_9.other W124 ne_bs_bf).other W136 ne_bs_bo)
            have f147 : own_Lz Z h136 bl zl fl := ((F_loop2_10.other W124 ne_bl_bf).other W136 ne_bl_bo)
            have f148 : own_Az Z h136 bf .int (2 : Int32) (own_upd gp (own_w m_) m_) := (B124.other W136 ne_bf_bo)
            exact ih _ _ _ _ _ _ (by rw [own_dec c108]; have := own_nneg c108; omega) X136 e136 N136 Z136 K136 f137 f138 f139 f140 f141 f142 f143 f144 f145 f146 f147 B136 f148 (by rw [own_dec c108]; have := own_nneg c108; omega) (by rw [own_dec c108]; omega)
      · have hk : 64 < zl.toInt := by omega
        refine Go.to (g' := (mkF m 108 #[.val (.ref a0), .val (.ref a1), .val (.int (1 : Int32)), .val (.int us), .val (.int i)] [(.ref a0)])) (fun t k => XS.aloadN X_loop.here hx rfl (hb hby d4_107) rfl rfl k) ?_
        refine Go.to (g' := (mkF m 109 #[.val (.ref a0), .val (.ref a1), .val (.int (1 : Int32)), .val (.int us), .val (.int i)] [(.int (1 : Int32)), (.ref a0)])) (fun t k => XS.iloadN X_loop.here hx rfl (hb hby d4_108) rfl k) ?_
        refine Go.to (g' := (mkF m 110 #[.val (.ref a0), .val (.ref a1), .val (.int (1 : Int32)), .val (.int us), .val (.int i)] [(.int (1 : Int32)), (.int (1 : Int32)), (.ref a0)])) (fun t k => XS.iconst X_loop.here hx rfl (hb hby d4_109) k) ?_
        refine Go.to (g' := (mkF m 111 #[.val (.ref a0), .val (.ref a1), .val (.int (1 : Int32)), .val (.int us), .val (.int i)] [(.int (2 : Int32)), (.ref a0)])) (fun t k => XS.iadd X_loop.here hx rfl (hb hby d4_110) rfl k) ?_
        obtain ⟨T149, h149, X149, e149, W149, st149⟩ := putF X_loop hx hZ hown (host := "") (Or.inl (hw _ (List.mem_of_getElem? (i := 30) rfl))) Via.refl e_loop F_loop_5 F_loop_0 (Or.inr ⟨(hw _ (List.mem_of_getElem? (i := 31) rfl)), rfl, hnm⟩) (hw _ (List.mem_of_getElem? (i := 3) rfl)) (ty := .int) (by decide) rfl rfl (g := (mkF m 111 #[.val (.ref a0), .val (.ref a1), .val (.int (1 : Int32)), .val (.int us), .val (.int i)] [(.int (2 : Int32)), (.ref a0)])) rfl rfl (hb hby d4_111)
        have Z149 : n0 ≤ h149.size := Nat.le_trans Z_loop (Keep.of_wr W149).1
        have K149 : Keep h0 h149 [a0] := K_loop.wr W149 (Or.inl (List.mem_of_getElem? (i := 0) rfl))
        have N149 := Fr.snoc X149 N_loop g_a0
        have Fw149 : Fld Z h149 a0 "com/example/skuld/skuld/analysis/Layout" "words" "I" (.int (2 : Int32)) := F_loop_5.same W149
        refine Go.to (g' := (mkF m 114 #[.val (.ref a0), .val (.ref a1), .val (.int (1 : Int32)), .val (.int us), .val (.int i)] [])) st149 ?_
        refine Go.to (g' := (mkF m 115 #[.val (.ref a0), .val (.ref a1), .val (.int (1 : Int32)), .val (.int us), .val (.int i)] [(.ref a0)])) (fun t k => XS.aloadN X149.here hx rfl (hb hby d4_114) rfl rfl k) ?_
        refine Go.to (g' := (mkF m 116 #[.val (.ref a0), .val (.ref a1), .val (.int (1 : Int32)), .val (.int us), .val (.int i)] [(.ref a0), (.ref a0)])) (fun t k => XS.aloadN X149.here hx rfl (hb hby d4_115) rfl rfl k) ?_
        obtain ⟨T150, X150, e150, st150⟩ := getF X149 hx hZ hown (host := "") (Or.inl (hw _ (List.mem_of_getElem? (i := 30) rfl))) Via.refl e149 Fw149 (g := (mkF m 116 #[.val (.ref a0), .val (.ref a1), .val (.int (1 : Int32)), .val (.int us), .val (.int i)] [(.ref a0), (.ref a0)])) rfl rfl (hb hby d4_116)
        refine Go.to (g' := (mkF m 119 #[.val (.ref a0), .val (.ref a1), .val (.int (1 : Int32)), .val (.int us), .val (.int i)] [(.int (2 : Int32)), (.ref a0)])) st150 ?_
        refine Go.to (g' := (mkF m 120 #[.val (.ref a0), .val (.ref a1), .val (.int (1 : Int32)), .val (.int us), .val (.int i)] [(.int (1 : Int32)), (.int (2 : Int32)), (.ref a0)])) (fun t k => XS.iconst X150.here hx rfl (hb hby d4_119) k) ?_
        refine Go.to (g' := (mkF m 121 #[.val (.ref a0), .val (.ref a1), .val (.int (1 : Int32)), .val (.int us), .val (.int i)] [(.int (3 : Int32)), (.ref a0)])) (fun t k => XS.iadd X150.here hx rfl (hb hby d4_120) rfl k) ?_
        obtain ⟨T151, h151, k151, X151, e151, E151, A151, st151⟩ := newP X150 hx hZ (hw _ (List.mem_of_getElem? (i := 11) rfl)) e150 (g := (mkF m 121 #[.val (.ref a0), .val (.ref a1), .val (.int (1 : Int32)), .val (.int us), .val (.int i)] [(.int (3 : Int32)), (.ref a0)])) rfl (hb hby d4_121) rfl (by decide) (cap := 3) (by decide) (by decide) (by decide) (by decide)
        obtain ⟨bf, g151⟩ : ∃ z, z = h149.size := ⟨_, rfl⟩
        rw [← g151] at A151 st151
        have f152 : Exa Z h149 a0 "com/example/skuld/skuld/analysis/Layout" := (F_loop_0.wr W149)
        have ne_a0_bf : a0 ≠ bf := Nat.ne_of_lt (Nat.lt_of_lt_of_le f152.lt (Nat.le_of_eq g151.symm))
        have f153 : own_Az Z h149 a1 .int zl f := (F_loop_8.other W149 (Ne.symm hne))
        have ne_a1_bf : a1 ≠ bf := Nat.ne_of_lt (Nat.lt_of_lt_of_le f153.lt (Nat.le_of_eq g151.symm))
        have f154 : own_Lz Z h149 bl zl fl := (F_loop_11.other W149 (Ne.symm ne_a0_bl))
        have ne_bl_bf : bl ≠ bf := Nat.ne_of_lt (Nat.lt_of_lt_of_le f154.lt (Nat.le_of_eq g151.symm))
        have f155 : own_Az Z h149 bs .int zl fs := (F_loop_10.other W149 (Ne.symm ne_a0_bs))
        have ne_bs_bf : bs ≠ bf := Nat.ne_of_lt (Nat.lt_of_lt_of_le f155.lt (Nat.le_of_eq g151.symm))
        have f156 : own_Az Z h149 bw .int zl fw := (F_loop_9.other W149 (Ne.symm ne_a0_bw))
        have ne_bw_bf : bw ≠ bf := Nat.ne_of_lt (Nat.lt_of_lt_of_le f156.lt (Nat.le_of_eq g151.symm))
        have g_bf : n0 ≤ bf := Nat.le_trans Z149 (Nat.le_of_eq g151.symm)
        have sz_bf : h0.size ≤ bf := Nat.le_trans K149.1 (Nat.le_of_eq g151.symm)
        have Z151 : n0 ≤ h151.size := Nat.le_trans Z149 E151.1
        have K151 : Keep h0 h151 [a0] := K149.ext E151
        have V_bf : Arv Z h151 bf k151 .int (3 : Int32) [] (.int (0 : Int32)) := Arv.new A151 (by decide)
        refine Go.to (g' := (mkF m 123 #[.val (.ref a0), .val (.ref a1), .val (.int (1 : Int32)), .val (.int us), .val (.int i)] [(.ref bf), (.ref a0)])) st151 ?_
        have A_bf := own_az_of V_bf
        have f157 : Fld Z h151 a0 "com/example/skuld/skuld/analysis/Layout" "firstPlace" "[I" .null := ((F_loop_6.other W149 (Or.inr (slot_ne (Or.inr (hw _ (List.mem_of_getElem? (i := 33) rfl))) (Or.inr (hw _ (List.mem_of_getElem? (i := 31) rfl))) (by decide) (t := (.array .int)) (t' := .int) (by decide) (by decide)))).ext E151)
        have f158 : Exa Z h151 a0 "com/example/skuld/skuld/analysis/Layout" := (f152.ext E151)
        obtain ⟨T159, h159, X159, e159, W159, st159⟩ := putF X151 hx hZ hown (host := "") (Or.inl (hw _ (List.mem_of_getElem? (i := 32) rfl))) Via.refl e151 f157 f158 (Or.inr ⟨(hw _ (List.mem_of_getElem? (i := 33) rfl)), rfl, hnm⟩) (hw _ (List.mem_of_getElem? (i := 3) rfl)) (ty := (.array .int)) (by decide) rfl rfl (g := (mkF m 123 #[.val (.ref a0), .val (.ref a1), .val (.int (1 : Int32)), .val (.int us), .val (.int i)] [(.ref bf), (.ref a0)])) rfl rfl (hb hby d4_123)
        have Z159 : n0 ≤ h159.size := Nat.le_trans Z151 (Keep.of_wr W159).1
        have K159 : Keep h0 h159 [a0] := K151.wr W159 (Or.inl (List.mem_of_getElem? (i := 0) rfl))
        have N159 := Fr.snoc X159 N149 g_a0
        have Fw159 : Fld Z h159 a0 "com/example/skuld/skuld/analysis/Layout" "firstPlace" "[I" (.ref bf) := f157.same W159
        refine Go.to (g' := (mkF m 126 #[.val (.ref a0), .val (.ref a1), .val (.int (1 : Int32)), .val (.int us), .val (.int i)] [])) st159 ?_
        refine Go.to (g' := (mkF m 127 #[.val (.ref a0), .val (.ref a1), .val (.int (1 : Int32)), .val (.int us), .val (.int i)] [(.ref a0)])) (fun t k => XS.aloadN X159.here hx rfl (hb hby d4_126) rfl rfl k) ?_
        refine Go.to (g' := (mkF m 128 #[.val (.ref a0), .val (.ref a1), .val (.int (1 : Int32)), .val (.int us), .val (.int i)] [(.ref a0), (.ref a0)])) (fun t k => XS.aloadN X159.here hx rfl (hb hby d4_127) rfl rfl k) ?_
        have f160 : Fld Z h159 a0 "com/example/skuld/skuld/analysis/Layout" "words" "I" (.int (2 : Int32)) := ((Fw149.ext E151).other W159 (Or.inr (slot_ne (Or.inr (hw _ (List.mem_of_getElem? (i := 31) rfl))) (Or.inr (hw _ (List.mem_of_getElem? (i := 33) rfl))) (by decide) (t := .int) (t' := (.array .int)) (by decide) (by decide))))
        obtain ⟨T161, X161, e161, st161⟩ := getF X159 hx hZ hown (host := "") (Or.inl (hw _ (List.mem_of_getElem? (i := 30) rfl))) Via.refl e159 f160 (g := (mkF m 128 #[.val (.ref a0), .val (.ref a1), .val (.int (1 : Int32)), .val (.int us), .val (.int i)] [(.ref a0), (.ref a0)])) rfl rfl (hb hby d4_128)
        refine Go.to (g' := (mkF m 131 #[.val (.ref a0), .val (.ref a1), .val (.int (1 : Int32)), .val (.int us), .val (.int i)] [(.int (2 : Int32)), (.ref a0)])) st161 ?_
        obtain ⟨T162, h162, k162, X162, e162, E162, A162, st162⟩ := newP X161 hx hZ (hw _ (List.mem_of_getElem? (i := 34) rfl)) e161 (g := (mkF m 131 #[.val (.ref a0), .val (.ref a1), .val (.int (1 : Int32)), .val (.int us), .val (.int i)] [(.int (2 : Int32)), (.ref a0)])) rfl (hb hby d4_131) rfl (by decide) (cap := 2) (by decide) (by decide) (by decide) (by decide)
        obtain ⟨bo, g162⟩ : ∃ z, z = h159.size := ⟨_, rfl⟩
        rw [← g162] at A162 st162
        have f163 : Exa Z h159 a0 "com/example/skuld/skuld/analysis/Layout" := (f158.wr W159)
        have ne_a0_bo : a0 ≠ bo := Nat.ne_of_lt (Nat.lt_of_lt_of_le f163.lt (Nat.le_of_eq g162.symm))
        have f164 : own_Az Z h159 a1 .int zl f := ((f153.ext E151).other W159 (Ne.symm hne))
        have ne_a1_bo : a1 ≠ bo := Nat.ne_of_lt (Nat.lt_of_lt_of_le f164.lt (Nat.le_of_eq g162.symm))
        have f165 : own_Az Z h159 bf .int (3 : Int32) (fun _ => (0 : Int32)) := (A_bf.other W159 (Ne.symm ne_a0_bf))
        have ne_bf_bo : bf ≠ bo := Nat.ne_of_lt (Nat.lt_of_lt_of_le f165.lt (Nat.le_of_eq g162.symm))
        have f166 : own_Lz Z h159 bl zl fl := ((f154.ext E151).other W159 (Ne.symm ne_a0_bl))
        have ne_bl_bo : bl ≠ bo := Nat.ne_of_lt (Nat.lt_of_lt_of_le f166.lt (Nat.le_of_eq g162.symm))
        have f167 : own_Az Z h159 bs .int zl fs := ((f155.ext E151).other W159 (Ne.symm ne_a0_bs))
        have ne_bs_bo : bs ≠ bo := Nat.ne_of_lt (Nat.lt_of_lt_of_le f167.lt (Nat.le_of_eq g162.symm))
        have f168 : own_Az Z h159 bw .int zl fw := ((f156.ext E151).other W159 (Ne.symm ne_a0_bw))
        have ne_bw_bo : bw ≠ bo := Nat.ne_of_lt (Nat.lt_of_lt_of_le f168.lt (Nat.le_of_eq g162.symm))
        have g_bo : n0 ≤ bo := Nat.le_trans Z159 (Nat.le_of_eq g162.symm)
        have sz_bo : h0.size ≤ bo := Nat.le_trans K159.1 (Nat.le_of_eq g162.symm)
        have Z162 : n0 ≤ h162.size := Nat.le_trans Z159 E162.1
        have K162 : Keep h0 h162 [a0] := K159.ext E162
        have V_bo : Arv Z h162 bo k162 .boolean (2 : Int32) [] (.int (0 : Int32)) := Arv.new A162 (by decide)
        refine Go.to (g' := (mkF m 133 #[.val (.ref a0), .val (.ref a1), .val (.int (1 : Int32)), .val (.int us), .val (.int i)] [(.ref bo), (.ref a0)])) st162 ?_
        have A_bo := own_az_of V_bo
        have f169 : Fld Z h162 a0 "com/example/skuld/skuld/analysis/Layout" "oneBitFields" "[Z" .null := ((((F_loop_7.other W149 (Or.inr (slot_ne (Or.inr (hw _ (List.mem_of_getElem? (i := 36) rfl))) (Or.inr (hw _ (List.mem_of_getElem? (i := 31) rfl))) (by decide) (t := (.array .boolean)) (t' := .int) (by decide) (by decide)))).ext E151).other W159 (Or.inr (slot_ne (Or.inr (hw _ (List.mem_of_getElem? (i := 36) rfl))) (Or.inr (hw _ (List.mem_of_getElem? (i := 33) rfl))) (by decide) (t := (.array .boolean)) (t' := (.array .int)) (by decide) (by decide)))).ext E162)
        have f170 : Exa Z h162 a0 "com/example/skuld/skuld/analysis/Layout" := (f163.ext E162)
        obtain ⟨T171, h171, X171, e171, W171, st171⟩ := putF X162 hx hZ hown (host := "") (Or.inl (hw _ (List.mem_of_getElem? (i := 35) rfl))) Via.refl e162 f169 f170 (Or.inr ⟨(hw _ (List.mem_of_getElem? (i := 36) rfl)), rfl, hnm⟩) (hw _ (List.mem_of_getElem? (i := 3) rfl)) (ty := (.array .boolean)) (by decide) rfl rfl (g := (mkF m 133 #[.val (.ref a0), .val (.ref a1), .val (.int (1 : Int32)), .val (.int us), .val (.int i)] [(.ref bo), (.ref a0)])) rfl rfl (hb hby d4_133)
        have Z171 : n0 ≤ h171.size := Nat.le_trans Z162 (Keep.of_wr W171).1
        have K171 : Keep h0 h171 [a0] := K162.wr W171 (Or.inl (List.mem_of_getElem? (i := 0) rfl))
        have N171 := Fr.snoc X171 N159 g_a0
        have Fw171 : Fld Z h171 a0 "com/example/skuld/skuld/analysis/Layout" "oneBitFields" "[Z" (.ref bo) := f169.same W171
        refine Go.to (g' := (mkF m 136 #[.val (.ref a0), .val (.ref a1), .val (.int (1 : Int32)), .val (.int us), .val (.int i)] [])) st171 ?_
        refine Go.to (g' := (mkF m 137 #[.val (.ref a0), .val (.ref a1), .val (.int (1 : Int32)), .val (.int us), .val (.int i)] [(.ref a0)])) (fun t k => XS.aloadN X171.here hx rfl (hb hby d4_136) rfl rfl k) ?_
        obtain ⟨T172, X172, e172, st172⟩ := getF X171 hx hZ hown (host := "") (Or.inl (hw _ (List.mem_of_getElem? (i := 35) rfl))) Via.refl e171 Fw171 (g := (mkF m 137 #[.val (.ref a0), .val (.ref a1), .val (.int (1 : Int32)), .val (.int us), .val (.int i)] [(.ref a0)])) rfl rfl (hb hby d4_137)
        refine Go.to (g' := (mkF m 140 #[.val (.ref a0), .val (.ref a1), .val (.int (1 : Int32)), .val (.int us), .val (.int i)] [(.ref bo)])) st172 ?_
        refine Go.to (g' := (mkF m 141 #[.val (.ref a0), .val (.ref a1), .val (.int (1 : Int32)), .val (.int us), .val (.int i)] [(.int (1 : Int32)), (.ref bo)])) (fun t k => XS.iconst X172.here hx rfl (hb hby d4_140) k) ?_
        have f173 : own_Az Z h171 bo .boolean (2 : Int32) (fun _ => (0 : Int32)) := (A_bo.other W171 (Ne.symm ne_a0_bo))
        obtain ⟨v174, _, ⟨T174, L174, k174, n174⟩, -, X174, ⟨Lc174, hQ174, l174, y174, z174⟩, st174⟩ := Jvm.LawKit.callS X172 hx (y := (⟨"java/util/Arrays", "fill", "([ZZ)V"⟩ : MethodName)) hown (mvT hZ (hw _ (List.mem_of_getElem? (i := 37) rfl))) (mvT hZ (hw _ (List.mem_of_getElem? (i := 38) rfl))) (mvT hZ (hw _ (List.mem_of_getElem? (i := 14) rfl))) (mvT hZ (hw _ (List.mem_of_getElem? (i := 39) rfl))) (by decide) (backOf (W := 0) (rm6 l Z aw hw [] bo (1 : Int32) (2 : Int32) (fun _ => (0 : Int32)) h171 n0 Z171 f173 (by decide) g_bo) hZ (hw _ (List.mem_of_getElem? (i := 39) rfl)) (hw _ (List.mem_of_getElem? (i := 14) rfl)) (by decide) (by decide)) (g := (mkF m 141 #[.val (.ref a0), .val (.ref a1), .val (.int (1 : Int32)), .val (.int us), .val (.int i)] [(.int (1 : Int32)), (.ref bo)])) rfl (by rw [hml]; rfl) (argsL := [(.ref bo), (.int (1 : Int32))]) (rest := []) (lenOf pd_285bZZ29V rfl) rfl (by show 2 * 0 + _ ≤ _; exact Nat.le_of_eq rfl) (hb hby d4_141) (fun _ _ => ⟨rfl, e172, (by decide : 5 + 0 ≤ _), (by decide : 389 + 0 ≤ _)⟩)
        dsimp only [Pt.U, Pt.locs, Pt.cells, Pt.slots] at X174 l174 y174 z174 st174 hQ174
        subst l174 y174 z174
        obtain ⟨h174, e174⟩ : ∃ z, T174.heap = z := ⟨_, rfl⟩
        rw [e174] at hQ174
        obtain ⟨g174, rfl, N174q, Kq174, A174⟩ := hQ174
        have N174 := Fr.app N171 N174q
        have Z174 : n0 ≤ h174.size := Nat.le_trans Z171 Kq174.1
        have K174 : Keep h0 h174 [a0] := K171.trans Kq174 (fun x hx => by cases List.mem_singleton.mp hx; exact Or.inr sz_bo)
        refine Go.to (g' := (mkF m 144 #[.val (.ref a0), .val (.ref a1), .val (.int (1 : Int32)), .val (.int us), .val (.int i)] [])) st174 ?_
        refine Go.to (g' := (mkF m 145 #[.val (.ref a0), .val (.ref a1), .val (.int (1 : Int32)), .val (.int us), .val (.int i)] [(.ref a1)])) (fun t k => XS.aloadN X174.here hx rfl (hb hby d4_144) rfl rfl k) ?_
        have f175 : own_Az Z h174 a1 .int zl f := (((f164.ext E162).other W171 (Ne.symm hne)).keep Kq174 (fun q => ne_a1_bo (List.mem_singleton.mp q)))
        obtain ⟨cl176, Ar176, S176, M176, -⟩ := id f175
        refine Go.to (g' := (mkF m 146 #[.val (.ref a0), .val (.ref a1), .val (.int (1 : Int32)), .val (.int us), .val (.int i)] [(.int zl)])) (fun t k => X174.arraylength hx (by rw [e174]; exact Ar176.1) (State.isArrayOf_alike hZ.alike Ar176.2.1) (g := (mkF m 145 #[.val (.ref a0), .val (.ref a1), .val (.int (1 : Int32)), .val (.int us), .val (.int i)] [(.ref a1)])) rfl rfl (hb hby d4_145) _ (by rw [len_of S176 M176]; exact k)) ?_
        refine Go.to (g' := (mkF m 147 #[.val (.ref a0), .val (.ref a1), .val (.int (1 : Int32)), .val (.int us), .val (.int i)] [(.int (1 : Int32)), (.int zl)])) (fun t k => XS.iconst X174.here hx rfl (hb hby d4_146) k) ?_
        refine Go.to (g' := (mkF m 148 #[.val (.ref a0), .val (.ref a1), .val (.int (1 : Int32)), .val (.int us), .val (.int i)] [(.int (zl - (1 : Int32)))])) (fun t k => XS.isub X174.here hx rfl (hb hby d4_147) rfl k) ?_
        refine Go.to (g' := (mkF m 150 #[.val (.ref a0), .val (.ref a1), .val (.int (1 : Int32)), .val (.int us), .val (.int (zl - (1 : Int32)))] [])) (fun t k => XS.istore X174.here hx rfl (hb hby d4_148) rfl (l' := #[.val (.ref a0), .val (.ref a1), .val (.int (1 : Int32)), .val (.int us), .val (.int (zl - (1 : Int32)))]) rfl k) ?_
        have f177 : Exa Z h174 a0 "com/example/skuld/skuld/analysis/Layout" := ((f170.wr W171).keep Kq174)
        have f178 : Fld Z h174 a0 "com/example/skuld/skuld/analysis/Layout" "word" "[I" (.ref bw) := ((((((F_loop_2.other W149 (Or.inr (slot_ne (Or.inr (hw _ (List.mem_of_getElem? (i := 25) rfl))) (Or.inr (hw _ (List.mem_of_getElem? (i := 31) rfl))) (by decide) (t := (.array .int)) (t' := .int) (by decide) (by decide)))).ext E151).other W159 (Or.inr (slot_ne (Or.inr (hw _ (List.mem_of_getElem? (i := 25) rfl))) (Or.inr (hw _ (List.mem_of_getElem? (i := 33) rfl))) (by decide) (t := (.array .int)) (t' := (.array .int)) (by decide) (by decide)))).ext E162).other W171 (Or.inr (slot_ne (Or.inr (hw _ (List.mem_of_getElem? (i := 25) rfl))) (Or.inr (hw _ (List.mem_of_getElem? (i := 36) rfl))) (by decide) (t := (.array .int)) (t' := (.array .boolean)) (by decide) (by decide)))).keep Kq174 (fun q => ne_a0_bo (List.mem_singleton.mp q)))
        have f179 : Fld Z h174 a0 "com/example/skuld/skuld/analysis/Layout" "shift" "[I" (.ref bs) := ((((((F_loop_3.other W149 (Or.inr (slot_ne (Or.inr (hw _ (List.mem_of_getElem? (i := 27) rfl))) (Or.inr (hw _ (List.mem_of_getElem? (i := 31) rfl))) (by decide) (t := (.array .int)) (t' := .int) (by decide) (by decide)))).ext E151).other W159 (Or.inr (slot_ne (Or.inr (hw _ (List.mem_of_getElem? (i := 27) rfl))) (Or.inr (hw _ (List.mem_of_getElem? (i := 33) rfl))) (by decide) (t := (.array .int)) (t' := (.array .int)) (by decide) (by decide)))).ext E162).other W171 (Or.inr (slot_ne (Or.inr (hw _ (List.mem_of_getElem? (i := 27) rfl))) (Or.inr (hw _ (List.mem_of_getElem? (i := 36) rfl))) (by decide) (t := (.array .int)) (t' := (.array .boolean)) (by decide) (by decide)))).keep Kq174 (fun q => ne_a0_bo (List.mem_singleton.mp q)))
        have f180 : Fld Z h174 a0 "com/example/skuld/skuld/analysis/Layout" "largest" "[J" (.ref bl) := ((((((F_loop_4.other W149 (Or.inr (slot_ne (Or.inr (hw _ (List.mem_of_getElem? (i := 29) rfl))) (Or.inr (hw _ (List.mem_of_getElem? (i := 31) rfl))) (by decide) (t := (.array .long)) (t' := .int) (by decide) (by decide)))).ext E151).other W159 (Or.inr (slot_ne (Or.inr (hw _ (List.mem_of_getElem? (i := 29) rfl))) (Or.inr (hw _ (List.mem_of_getElem? (i := 33) rfl))) (by decide) (t := (.array .long)) (t' := (.array .int)) (by decide) (by decide)))).ext E162).other W171 (Or.inr (slot_ne (Or.inr (hw _ (List.mem_of_getElem? (i := 29) rfl))) (Or.inr (hw _ (List.mem_of_getElem? (i := 36) rfl))) (by decide) (t := (.array .long)) (t' := (.array .boolean)) (by decide) (by decide)))).keep Kq174 (fun q => ne_a0_bo (List.mem_singleton.mp q)))
        have f181 : Fld Z h174 a0 "com/example/skuld/skuld/analysis/Layout" "words" "I" (.int (2 : Int32)) := (((f160.ext E162).other W171 (Or.inr (slot_ne (Or.inr (hw _ (List.mem_of_getElem? (i := 31) rfl))) (Or.inr (hw _ (List.mem_of_getElem? (i := 36) rfl))) (by decide) (t := .int) (t' := (.array .boolean)) (by decide) (by decide)))).keep Kq174 (fun q => ne_a0_bo (List.mem_singleton.mp q)))
        have f182 : Fld Z h174 a0 "com/example/skuld/skuld/analysis/Layout" "firstPlace" "[I" (.ref bf) := (((Fw159.ext E162).other W171 (Or.inr (slot_ne (Or.inr (hw _ (List.mem_of_getElem? (i := 33) rfl))) (Or.inr (hw _ (List.mem_of_getElem? (i := 36) rfl))) (by decide) (t := (.array .int)) (t' := (.array .boolean)) (by decide) (by decide)))).keep Kq174 (fun q => ne_a0_bo (List.mem_singleton.mp q)))
        have f183 : Fld Z h174 a0 "com/example/skuld/skuld/analysis/Layout" "oneBitFields" "[Z" (.ref bo) := (Fw171.keep Kq174 (fun q => ne_a0_bo (List.mem_singleton.mp q)))
        have f184 : own_Az Z h174 bw .int zl fw := (((f168.ext E162).other W171 (Ne.symm ne_a0_bw)).keep Kq174 (fun q => ne_bw_bo (List.mem_singleton.mp q)))
        have f185 : own_Az Z h174 bs .int zl fs := (((f167.ext E162).other W171 (Ne.symm ne_a0_bs)).keep Kq174 (fun q => ne_bs_bo (List.mem_singleton.mp q)))
        have f186 : own_Lz Z h174 bl zl fl := (((f166.ext E162).other W171 (Ne.symm ne_a0_bl)).keep Kq174 (fun q => ne_bl_bo (List.mem_singleton.mp q)))
        have f187 : own_Az Z h174 bf .int (3 : Int32) (fun _ => (0 : Int32)) := (((f165.ext E162).other W171 (Ne.symm ne_a0_bf)).keep Kq174 (fun q => ne_bf_bo (List.mem_singleton.mp q)))
        suffices loop2 : ∀ (n : Nat) (T_loop2 : State) (lc_loop2 : List Loc) (h_loop2 : Heap) (m_ : Int32) (go gp : Int32 → Int32) (hm : (m_.toInt + 1).toNat < n) (X_loop2 : Stand p l e ({ frames := 1, cells := 5, slots := 389, locals := 15 } : Room) s m #[(.ref a0), (.ref a1)] below meth c T_loop2 lc_loop2 5 389) (e_loop2 : T_loop2.heap = h_loop2) (N_loop2 : Fr n0 lc_loop2) (Z_loop2 : n0 ≤ h_loop2.size) (K_loop2 : Keep h0 h_loop2 [a0]) (F_loop2_0 : Exa Z h_loop2 a0 "com/example/skuld/skuld/analysis/Layout") (F_loop2_1 : Fld Z h_loop2 a0 "com/example/skuld/skuld/analysis/Layout" "word" "[I" (.ref bw)) (F_loop2_2 : Fld Z h_loop2 a0 "com/example/skuld/skuld/analysis/Layout" "shift" "[I" (.ref bs)) (F_loop2_3 : Fld Z h_loop2 a0 "com/example/skuld/skuld/analysis/Layout" "largest" "[J" (.ref bl)) (F_loop2_4 : Fld Z h_loop2 a0 "com/example/skuld/skuld/analysis/Layout" "words" "I" (.int (2 : Int32))) (F_loop2_5 : Fld Z h_loop2 a0 "com/example/skuld/skuld/analysis/Layout" "firstPlace" "[I" (.ref bf)) (F_loop2_6 : Fld Z h_loop2 a0 "com/example/skuld/skuld/analysis/Layout" "oneBitFields" "[Z" (.ref bo)) (F_loop2_7 : own_Az Z h_loop2 a1 .int zl f) (F_loop2_8 : own_Az Z h_loop2 bw .int zl fw) (F_loop2_9 : own_Az Z h_loop2 bs .int zl fs) (F_loop2_10 : own_Lz Z h_loop2 bl zl fl) (F_loop2_11 : own_Az Z h_loop2 bo .boolean (2 : Int32) go) (F_loop2_12 : own_Az Z h_loop2 bf .int (3 : Int32) gp) (hm1 : -1 ≤ m_.toInt) (hm2 : m_.toInt < zl.toInt), Go p e below s (Q4 Z a0 a1 zl f h0 n0) ({ frames := 1, cells := 5, slots := 389, locals := 15 } : Room).cells ({ frames := 1, cells := 5, slots := 389, locals := 15 } : Room).slots (T_loop2.setTop (mkF m 150 #[.val (.ref a0), .val (.ref a1), .val (.int (1 : Int32)), .val (.int us), .val (.int m_)] [])) from loop2 (((zl - (1 : Int32)).toInt + 1).toNat + 1) _ _ _ (zl - (1 : Int32)) _ _ (Nat.lt_succ_self _) X174 e174 N174 Z174 K174 f177 f178 f179 f180 f181 f182 f183 f175 f184 f185 f186 A174 f187 (own_pre hz hz2).1 (own_pre hz hz2).2
        intro n
        induction n with
        | zero => intro T_loop2 lc_loop2 h_loop2 m_ go gp hm X_loop2 e_loop2 N_loop2 Z_loop2 K_loop2 F_loop2_0 F_loop2_1 F_loop2_2 F_loop2_3 F_loop2_4 F_loop2_5 F_loop2_6 F_loop2_7 F_loop2_8 F_loop2_9 F_loop2_10 F_loop2_11 F_loop2_12 hm1 hm2; exact absurd hm (Nat.not_lt_zero _)
        | succ n ih =>
          intro T_loop2 lc_loop2 h_loop2 m_ go gp hm X_loop2 e_loop2 N_loop2 Z_loop2 K_loop2 F_loop2_0 F_loop2_1 F_loop2_2 F_loop2_3 F_loop2_4 F_loop2_5 F_loop2_6 F_loop2_7 F_loop2_8 F_loop2_9 F_loop2_10 F_loop2_11 F_loop2_12 hm1 hm2
          refine Go.to (g' := (mkF m 152 #[.val (.ref a0), .val (.ref a1), .val (.int (1 : Int32)), .val (.int us), .val (.int m_)] [(.int m_)])) (fun t k => XS.iload X_loop2.here hx rfl (hb hby d4_150) rfl k) ?_
          by_cases c188 : m_ < (0 : Int32)
          · refine Go.to (g' := (mkF m 203 #[.val (.ref a0), .val (.ref a1), .val (.int (1 : Int32)), .val (.int us), .val (.int m_)] [])) (fun t k => XS.ifYes X_loop2.here hx rfl (pc0 := 152) (pc' := 203) rfl (hb hby d4_152) rfl ((if0 _ _).trans (tlt c188).1) (by decide) (by decide) k) ?_
            refine Go.to (g' := (mkF m 204 #[.val (.ref a0), .val (.ref a1), .val (.int (1 : Int32)), .val (.int us), .val (.int m_)] [(.ref a0)])) (fun t k => XS.aloadN X_loop2.here hx rfl (hb hby d4_203) rfl rfl k) ?_
            obtain ⟨T189, X189, e189, st189⟩ := getF X_loop2 hx hZ hown (host := "") (Or.inl (hw _ (List.mem_of_getElem? (i := 32) rfl))) Via.refl e_loop2 F_loop2_5 (g := (mkF m 204 #[.val (.ref a0), .val (.ref a1), .val (.int (1 : Int32)), .val (.int us), .val (.int m_)] [(.ref a0)])) rfl rfl (hb hby d4_204)
            refine Go.to (g' := (mkF m 207 #[.val (.ref a0), .val (.ref a1), .val (.int (1 : Int32)), .val (.int us), .val (.int m_)] [(.ref bf)])) st189 ?_
            refine Go.to (g' := (mkF m 208 #[.val (.ref a0), .val (.ref a1), .val (.int (1 : Int32)), .val (.int us), .val (.int m_)] [(.ref a0), (.ref bf)])) (fun t k => XS.aloadN X189.here hx rfl (hb hby d4_207) rfl rfl k) ?_
            obtain ⟨T190, X190, e190, st190⟩ := getF X189 hx hZ hown (host := "") (Or.inl (hw _ (List.mem_of_getElem? (i := 30) rfl))) Via.refl e189 F_loop2_4 (g := (mkF m 208 #[.val (.ref a0), .val (.ref a1), .val (.int (1 : Int32)), .val (.int us), .val (.int m_)] [(.ref a0), (.ref bf)])) rfl rfl (hb hby d4_208)
            refine Go.to (g' := (mkF m 211 #[.val (.ref a0), .val (.ref a1), .val (.int (1 : Int32)), .val (.int us), .val (.int m_)] [(.int (2 : Int32)), (.ref bf)])) st190 ?_
            refine Go.to (g' := (mkF m 212 #[.val (.ref a0), .val (.ref a1), .val (.int (1 : Int32)), .val (.int us), .val (.int m_)] [(.ref a1), (.int (2 : Int32)), (.ref bf)])) (fun t k => XS.aloadN X190.here hx rfl (hb hby d4_211) rfl rfl k) ?_
            obtain ⟨cl191, Ar191, S191, M191, -⟩ := id F_loop2_7
            refine Go.to (g' := (mkF m 213 #[.val (.ref a0), .val (.ref a1), .val (.int (1 : Int32)), .val (.int us), .val (.int m_)] [(.int zl), (.int (2 : Int32)), (.ref bf)])) (fun t k => X190.arraylength hx (by rw [e190]; exact Ar191.1) (State.isArrayOf_alike hZ.alike Ar191.2.1) (g := (mkF m 212 #[.val (.ref a0), .val (.ref a1), .val (.int (1 : Int32)), .val (.int us), .val (.int m_)] [(.ref a1), (.int (2 : Int32)), (.ref bf)])) rfl rfl (hb hby d4_212) _ (by rw [len_of S191 M191]; exact k)) ?_
            obtain ⟨cl192, Ar192, Sz192, Mz192, Hf192⟩ := id F_loop2_12
            obtain ⟨T193, h193, X193, e193, W193, st193⟩ := stI X190 hx hZ e190 Ar192 (j := (2 : Int32)) (inb_of Sz192 ⟨(by decide), (by decide)⟩) (g := (mkF m 213 #[.val (.ref a0), .val (.ref a1), .val (.int (1 : Int32)), .val (.int us), .val (.int m_)] [(.int zl), (.int (2 : Int32)), (.ref bf)])) rfl rfl (hb hby d4_213)
            have Z193 : n0 ≤ h193.size := Nat.le_trans Z_loop2 (Keep.of_wr W193).1
            have K193 : Keep h0 h193 [a0] := K_loop2.wr W193 (Or.inr sz_bf)
            have N193 := Fr.snoc X193 N_loop2 g_bf
            have B193 : own_Az Z h193 bf .int (3 : Int32) (own_upd gp (2 : Int32) zl) := F_loop2_12.set (by decide) W193
            refine Go.to (g' := (mkF m 214 #[.val (.ref a0), .val (.ref a1), .val (.int (1 : Int32)), .val (.int us), .val (.int m_)] [])) st193 ?_
            have f194 : Fld Z h193 a0 "com/example/skuld/skuld/analysis/Layout" "word" "[I" (.ref bw) := (F_loop2_1.other W193 (Or.inl ne_a0_bf))
            have f195 : Fld Z h193 a0 "com/example/skuld/skuld/analysis/Layout" "shift" "[I" (.ref bs) := (F_loop2_2.other W193 (Or.inl ne_a0_bf))
            have f196 : Fld Z h193 a0 "com/example/skuld/skuld/analysis/Layout" "largest" "[J" (.ref bl) := (F_loop2_3.other W193 (Or.inl ne_a0_bf))
            have f197 : own_Az Z h193 bw .int zl fw := (F_loop2_8.other W193 ne_bw_bf)
            have f198 : own_Az Z h193 bs .int zl fs := (F_loop2_9.other W193 ne_bs_bf)
            have f199 : own_Lz Z h193 bl zl fl := (F_loop2_10.other W193 ne_bl_bf)
            exact Go.ret X193 hx Bd.returns Bd.notSynchronized (hb hby d4_214) (by decide) (by decide) e193 ⟨bw, bs, bl, fw, fs, fl, rfl, N193, K193, f194, f195, f196, f197, f198, f199, hwA, hsA, hlA⟩
          · refine Go.to (g' := (mkF m 155 #[.val (.ref a0), .val (.ref a1), .val (.int (1 : Int32)), .val (.int us), .val (.int m_)] [])) (fun t k => XS.ifNo X_loop2.here hx rfl (hb hby d4_152) rfl ((if0 _ _).trans (flt c188).1) k) ?_
            refine Go.to (g' := (mkF m 156 #[.val (.ref a0), .val (.ref a1), .val (.int (1 : Int32)), .val (.int us), .val (.int m_)] [(.ref a0)])) (fun t k => XS.aloadN X_loop2.here hx rfl (hb hby d4_155) rfl rfl k) ?_
            obtain ⟨T200, X200, e200, st200⟩ := getF X_loop2 hx hZ hown (host := "") (Or.inl (hw _ (List.mem_of_getElem? (i := 32) rfl))) Via.refl e_loop2 F_loop2_5 (g := (mkF m 156 #[.val (.ref a0), .val (.ref a1), .val (.int (1 : Int32)), .val (.int us), .val (.int m_)] [(.ref a0)])) rfl rfl (hb hby d4_156)
            refine Go.to (g' := (mkF m 159 #[.val (.ref a0), .val (.ref a1), .val (.int (1 : Int32)), .val (.int us), .val (.int m_)] [(.ref bf)])) st200 ?_
            refine Go.to (g' := (mkF m 160 #[.val (.ref a0), .val (.ref a1), .val (.int (1 : Int32)), .val (.int us), .val (.int m_)] [(.ref a0), (.ref bf)])) (fun t k => XS.aloadN X200.here hx rfl (hb hby d4_159) rfl rfl k) ?_
            obtain ⟨T201, X201, e201, st201⟩ := getF X200 hx hZ hown (host := "") (Or.inl (hw _ (List.mem_of_getElem? (i := 24) rfl))) Via.refl e200 F_loop2_1 (g := (mkF m 160 #[.val (.ref a0), .val (.ref a1), .val (.int (1 : Int32)), .val (.int us), .val (.int m_)] [(.ref a0), (.ref bf)])) rfl rfl (hb hby d4_160)
            refine Go.to (g' := (mkF m 163 #[.val (.ref a0), .val (.ref a1), .val (.int (1 : Int32)), .val (.int us), .val (.int m_)] [(.ref bw), (.ref bf)])) st201 ?_
            refine Go.to (g' := (mkF m 165 #[.val (.ref a0), .val (.ref a1), .val (.int (1 : Int32)), .val (.int us), .val (.int m_)] [(.int m_), (.ref bw), (.ref bf)])) (fun t k => XS.iload X201.here hx rfl (hb hby d4_163) rfl k) ?_
            obtain ⟨cl202, Ar202, Sz202, Mz202, Hf202⟩ := id F_loop2_8
            refine Go.to (g' := (mkF m 166 #[.val (.ref a0), .val (.ref a1), .val (.int (1 : Int32)), .val (.int us), .val (.int m_)] [(.int (fw m_)), (.ref bf)])) (fun t k => X201.iaload hx (j := m_) (v := (.int (fw m_))) (by rw [e201]; exact Ar202.1) (State.isArrayOf_alike hZ.alike Ar202.2.1) Ar202.2.2 (inb_of Sz202 ⟨c188, (own_mlt hm2)⟩) (Hf202 _ c188 (own_mlt hm2)) (g := (mkF m 165 #[.val (.ref a0), .val (.ref a1), .val (.int (1 : Int32)), .val (.int us), .val (.int m_)] [(.int m_), (.ref bw), (.ref bf)])) rfl rfl (hb hby d4_165) _ k) ?_
            rw [show (fw m_) = (own_w m_) from hwA _ c188 (own_mlt hm2)]
            refine Go.to (g' := (mkF m 168 #[.val (.ref a0), .val (.ref a1), .val (.int (1 : Int32)), .val (.int us), .val (.int m_)] [(.int m_), (.int (own_w m_)), (.ref bf)])) (fun t k => XS.iload X201.here hx rfl (hb hby d4_166) rfl k) ?_
            obtain ⟨cl203, Ar203, Sz203, Mz203, Hf203⟩ := id F_loop2_12
            obtain ⟨T204, h204, X204, e204, W204, st204⟩ := stI X201 hx hZ e201 Ar203 (j := (own_w m_)) (inb_of Sz203 ⟨(own_bw1 m_).1, (own_bw1 m_).2.2⟩) (g := (mkF m 168 #[.val (.ref a0), .val (.ref a1), .val (.int (1 : Int32)), .val (.int us), .val (.int m_)] [(.int m_), (.int (own_w m_)), (.ref bf)])) rfl rfl (hb hby d4_168)
            have Z204 : n0 ≤ h204.size := Nat.le_trans Z_loop2 (Keep.of_wr W204).1
            have K204 : Keep h0 h204 [a0] := K_loop2.wr W204 (Or.inr sz_bf)
            have N204 := Fr.snoc X204 N_loop2 g_bf
            have B204 : own_Az Z h204 bf .int (3 : Int32) (own_upd gp (own_w m_) m_) := F_loop2_12.set (own_bw1 m_).1 W204
            refine Go.to (g' := (mkF m 169 #[.val (.ref a0), .val (.ref a1), .val (.int (1 : Int32)), .val (.int us), .val (.int m_)] [])) st204 ?_
            refine Go.to (g' := (mkF m 170 #[.val (.ref a0), .val (.ref a1), .val (.int (1 : Int32)), .val (.int us), .val (.int m_)] [(.ref a0)])) (fun t k => XS.aloadN X204.here hx rfl (hb hby d4_169) rfl rfl k) ?_
            have f205 : Fld Z h204 a0 "com/example/skuld/skuld/analysis/Layout" "oneBitFields" "[Z" (.ref bo) := (F_loop2_6.other W204 (Or.inl ne_a0_bf))
            obtain ⟨T206, X206, e206, st206⟩ := getF X204 hx hZ hown (host := "") (Or.inl (hw _ (List.mem_of_getElem? (i := 35) rfl))) Via.refl e204 f205 (g := (mkF m 170 #[.val (.ref a0), .val (.ref a1), .val (.int (1 : Int32)), .val (.int us), .val (.int m_)] [(.ref a0)])) rfl rfl (hb hby d4_170)
            refine Go.to (g' := (mkF m 173 #[.val (.ref a0), .val (.ref a1), .val (.int (1 : Int32)), .val (.int us), .val (.int m_)] [(.ref bo)])) st206 ?_
            refine Go.to (g' := (mkF m 174 #[.val (.ref a0), .val (.ref a1), .val (.int (1 : Int32)), .val (.int us), .val (.int m_)] [(.ref a0), (.ref bo)])) (fun t k => XS.aloadN X206.here hx rfl (hb hby d4_173) rfl rfl k) ?_
            have f207 : Fld Z h204 a0 "com/example/skuld/skuld/analysis/Layout" "word" "[I" (.ref bw) := (F_loop2_1.other W204 (Or.inl ne_a0_bf))
            obtain ⟨T208, X208, e208, st208⟩ := getF X206 hx hZ hown (host := "") (Or.inl (hw _ (List.mem_of_getElem? (i := 24) rfl))) Via.refl e206 f207 (g := (mkF m 174 #[.val (.ref a0), .val (.ref a1), .val (.int (1 : Int32)), .val (.int us), .val (.int m_)] [(.ref a0), (.ref bo)])) rfl rfl (hb hby d4_174)
            refine Go.to (g' := (mkF m 177 #[.val (.ref a0), .val (.ref a1), .val (.int (1 : Int32)), .val (.int us), .val (.int m_)] [(.ref bw), (.ref bo)])) st208 ?_
            refine Go.to (g' := (mkF m 179 #[.val (.ref a0), .val (.ref a1), .val (.int (1 : Int32)), .val (.int us), .val (.int m_)] [(.int m_), (.ref bw), (.ref bo)])) (fun t k => XS.iload X208.here hx rfl (hb hby d4_177) rfl k) ?_
            have f209 : own_Az Z h204 bw .int zl fw := (F_loop2_8.other W204 ne_bw_bf)
            obtain ⟨cl210, Ar210, Sz210, Mz210, Hf210⟩ := id f209
            refine Go.to (g' := (mkF m 180 #[.val (.ref a0), .val (.ref a1), .val (.int (1 : Int32)), .val (.int us), .val (.int m_)] [(.int (fw m_)), (.ref bo)])) (fun t k => X208.iaload hx (j := m_) (v := (.int (fw m_))) (by rw [e208]; exact Ar210.1) (State.isArrayOf_alike hZ.alike Ar210.2.1) Ar210.2.2 (inb_of Sz210 ⟨c188, (own_mlt hm2)⟩) (Hf210 _ c188 (own_mlt hm2)) (g := (mkF m 179 #[.val (.ref a0), .val (.ref a1), .val (.int (1 : Int32)), .val (.int us), .val (.int m_)] [(.int m_), (.ref bw), (.ref bo)])) rfl rfl (hb hby d4_179) _ k) ?_
            rw [show (fw m_) = (own_w m_) from hwA _ c188 (own_mlt hm2)]
            refine Go.to (g' := (mkF m 181 #[.val (.ref a0), .val (.ref a1), .val (.int (1 : Int32)), .val (.int us), .val (.int m_)] [(.int (own_w m_)), (.ref bo), (.int (own_w m_)), (.ref bo)])) (fun t k => XT.dup2 X208.here hx rfl (hb hby d4_180) rfl rfl rfl k) ?_
            have f211 : own_Az Z h204 bo .boolean (2 : Int32) go := (F_loop2_11.other W204 (Ne.symm ne_bf_bo))
            obtain ⟨cl212, Ar212, Sz212, Mz212, Hf212⟩ := id f211
            refine Go.to (g' := (mkF m 182 #[.val (.ref a0), .val (.ref a1), .val (.int (1 : Int32)), .val (.int us), .val (.int m_)] [(.int (go (own_w m_))), (.int (own_w m_)), (.ref bo)])) (fun t k => X208.baloadBooleans hx (j := (own_w m_)) (v := (.int (go (own_w m_)))) (by rw [e208]; exact Ar212.1) (State.isArrayOf_alike hZ.alike Ar212.2.1) Ar212.2.2 (inb_of Sz212 ⟨(own_bw1 m_).1, (own_bw1 m_).2.1⟩) (Hf212 _ (own_bw1 m_).1 (own_bw1 m_).2.1) (g := (mkF m 181 #[.val (.ref a0), .val (.ref a1), .val (.int (1 : Int32)), .val (.int us), .val (.int m_)] [(.int (own_w m_)), (.ref bo), (.int (own_w m_)), (.ref bo)])) rfl rfl (hb hby d4_181) _ k) ?_
            refine Go.to (g' := (mkF m 183 #[.val (.ref a0), .val (.ref a1), .val (.int (1 : Int32)), .val (.int us), .val (.int m_)] [(.ref a1), (.int (go (own_w m_))), (.int (own_w m_)), (.ref bo)])) (fun t k => XS.aloadN X208.here hx rfl (hb hby d4_182) rfl rfl k) ?_
            refine Go.to (g' := (mkF m 185 #[.val (.ref a0), .val (.ref a1), .val (.int (1 : Int32)), .val (.int us), .val (.int m_)] [(.int m_), (.ref a1), (.int (go (own_w m_))), (.int (own_w m_)), (.ref bo)])) (fun t k => XS.iload X208.here hx rfl (hb hby d4_183) rfl k) ?_
            have f213 : own_Az Z h204 a1 .int zl f := (F_loop2_7.other W204 ne_a1_bf)
            obtain ⟨cl214, Ar214, Sz214, Mz214, Hf214⟩ := id f213
            refine Go.to (g' := (mkF m 186 #[.val (.ref a0), .val (.ref a1), .val (.int (1 : Int32)), .val (.int us), .val (.int m_)] [(.int (f m_)), (.int (go (own_w m_))), (.int (own_w m_)), (.ref bo)])) (fun t k => X208.iaload hx (j := m_) (v := (.int (f m_))) (by rw [e208]; exact Ar214.1) (State.isArrayOf_alike hZ.alike Ar214.2.1) Ar214.2.2 (inb_of Sz214 ⟨c188, (own_mlt hm2)⟩) (Hf214 _ c188 (own_mlt hm2)) (g := (mkF m 185 #[.val (.ref a0), .val (.ref a1), .val (.int (1 : Int32)), .val (.int us), .val (.int m_)] [(.int m_), (.ref a1), (.int (go (own_w m_))), (.int (own_w m_)), (.ref bo)])) rfl rfl (hb hby d4_185) _ k) ?_
            rw [show (f m_) = (1 : Int32) from hf _ c188 (own_mlt hm2)]
            refine Go.to (g' := (mkF m 187 #[.val (.ref a0), .val (.ref a1), .val (.int (1 : Int32)), .val (.int us), .val (.int m_)] [(.int (1 : Int32)), (.int (1 : Int32)), (.int (go (own_w m_))), (.int (own_w m_)), (.ref bo)])) (fun t k => XS.iconst X208.here hx rfl (hb hby d4_186) k) ?_
            refine Go.to (g' := (mkF m 190 #[.val (.ref a0), .val (.ref a1), .val (.int (1 : Int32)), .val (.int us), .val (.int m_)] [(.int (go (own_w m_))), (.int (own_w m_)), (.ref bo)])) (fun t k => XS.icmpNo X208.here hx rfl (hb hby d4_187) rfl (teq (by decide)).2 k) ?_
            refine Go.to (g' := (mkF m 191 #[.val (.ref a0), .val (.ref a1), .val (.int (1 : Int32)), .val (.int us), .val (.int m_)] [(.int (1 : Int32)), (.int (go (own_w m_))), (.int (own_w m_)), (.ref bo)])) (fun t k => XS.iconst X208.here hx rfl (hb hby d4_190) k) ?_
            refine Go.to (g' := (mkF m 195 #[.val (.ref a0), .val (.ref a1), .val (.int (1 : Int32)), .val (.int us), .val (.int m_)] [(.int (1 : Int32)), (.int (go (own_w m_))), (.int (own_w m_)), (.ref bo)])) (fun t k => XS.goto X208.here hx rfl (pc0 := 191) (pc' := 195) rfl (hb hby d4_191) (by decide) (by decide) k) ?_
            refine Go.to (g' := (mkF m 196 #[.val (.ref a0), .val (.ref a1), .val (.int (1 : Int32)), .val (.int us), .val (.int m_)] [(.int ((go (own_w m_)) &&& (1 : Int32))), (.int (own_w m_)), (.ref bo)])) (fun t k => XS.iand X208.here hx rfl (hb hby d4_195) rfl k) ?_
            obtain ⟨cl215, Ar215, Sz215, Mz215, Hf215⟩ := id f211
            obtain ⟨T216, h216, X216, e216, W216, st216⟩ := stZ X208 hx hZ e208 Ar215 (j := (own_w m_)) (inb_of Sz215 ⟨(own_bw1 m_).1, (own_bw1 m_).2.1⟩) (g := (mkF m 196 #[.val (.ref a0), .val (.ref a1), .val (.int (1 : Int32)), .val (.int us), .val (.int m_)] [(.int ((go (own_w m_)) &&& (1 : Int32))), (.int (own_w m_)), (.ref bo)])) rfl rfl (hb hby d4_196)
            have Z216 : n0 ≤ h216.size := Nat.le_trans Z204 (Keep.of_wr W216).1
            have K216 : Keep h0 h216 [a0] := K204.wr W216 (Or.inr sz_bo)
            have N216 := Fr.snoc X216 N204 g_bo
            have B216 : own_Az Z h216 bo .boolean (2 : Int32) (own_upd go (own_w m_) ((((go (own_w m_)) &&& (1 : Int32))) &&& 1)) := f211.set (own_bw1 m_).1 W216
            refine Go.to (g' := (mkF m 197 #[.val (.ref a0), .val (.ref a1), .val (.int (1 : Int32)), .val (.int us), .val (.int m_)] [])) st216 ?_
            refine Go.to (g' := (mkF m 200 #[.val (.ref a0), .val (.ref a1), .val (.int (1 : Int32)), .val (.int us), .val (.int (m_ + (-1 : Int32)))] [])) (fun t k => XS.iinc X216.here hx rfl (hb hby d4_197) rfl (l' := #[.val (.ref a0), .val (.ref a1), .val (.int (1 : Int32)), .val (.int us), .val (.int (m_ + (-1 : Int32)))]) rfl k) ?_
            refine Go.to (g' := (mkF m 150 #[.val (.ref a0), .val (.ref a1), .val (.int (1 : Int32)), .val (.int us), .val (.int (m_ + (-1 : Int32)))] [])) (fun t k => XS.goto X216.here hx rfl (pc0 := 200) (pc' := 150) rfl (hb hby d4_200) (by decide) (by decide) k) ?_
            have f217 : Exa Z h216 a0 "com/example/skuld/skuld/analysis/Layout" := ((F_loop2_0.wr W204).wr W216)
            have f218 : Fld Z h216 a0 "com/example/skuld/skuld/analysis/Layout" "word" "[I" (.ref bw) := (f207.other W216 (Or.inl ne_a0_bo))
            have f219 : Fld Z h216 a0 "com/example/skuld/skuld/analysis/Layout" "shift" "[I" (.ref bs) := ((F_loop2_2.other W204 (Or.inl ne_a0_bf)).other W216 (Or.inl ne_a0_bo))
            have f220 : Fld Z h216 a0 "com/example/skuld/skuld/analysis/Layout" "largest" "[J" (.ref bl) := ((F_loop2_3.other W204 (Or.inl ne_a0_bf)).other W216 (Or.inl ne_a0_bo))
            have f221 : Fld Z h216 a0 "com/example/skuld/skuld/analysis/Layout" "words" "I" (.int (2 : Int32)) := ((F_loop2_4.other W204 (Or.inl ne_a0_bf)).other W216 (Or.inl ne_a0_bo))
            have f222 : Fld Z h216 a0 "com/example/skuld/skuld/analysis/Layout" "firstPlace" "[I" (.ref bf) := ((F_loop2_5.other W204 (Or.inl ne_a0_bf)).other W216 (Or.inl ne_a0_bo))
            have f223 : Fld Z h216 a0 "com/example/skuld/skuld/analysis/Layout" "oneBitFields" "[Z" (.ref bo) := (f205.other W216 (Or.inl ne_a0_bo))
            have f224 : own_Az Z h216 a1 .int zl f := (f213.other W216 ne_a1_bo)
            have f225 : own_Az Z h216 bw .int zl fw := (f209.other W216 ne_bw_bo)
            have f226 : own_Az Z h216 bs .int zl fs := ((F_loop2_9.other W204 ne_bs_bf).other W216 ne_bs_bo)
            have f227 : own_Lz Z h216 bl zl fl := ((F_loop2_10.other W204 ne_bl_bf).other W216 ne_bl_bo)
            have f228 : own_Az Z h216 bf .int (3 : Int32) (own_upd gp (own_w m_) m_) := (B204.other W216 ne_bf_bo)
            exact ih _ _ _ _ _ _ (by rw [own_dec c188]; have := own_nneg c188; omega) X216 e216 N216 Z216 K216 f217 f218 f219 f220 f221 f222 f223 f224 f225 f226 f227 B216 f228 (by rw [own_dec c188]; have := own_nneg c188; omega) (by rw [own_dec c188]; omega)

theorem ef_rm1 (m : MethodId) (x0 : Addr) (x1 : Int32) : entryFrame m #[(.ref x0), (.int x1)] 2 = mkF m 0 #[.val (.ref x0), .val (.int x1)] [] := by first | (simp [entryFrame, mkF, argsToLocals, Value.category]; done) | rfl
def Q1 (Z : State) (a0 : Addr) (p1 : Int32) (h0 : Heap) (n0 : Nat) (v : Option Value) (h : Heap) (L : List Loc) : Prop := ∃ (bw bs bl : Addr) (fw fs : Int32 → Int32) (fl : Int32 → Int64), v = none ∧ Fr n0 L ∧ Keep h0 h [a0] ∧ Fld Z h a0 "com/example/skuld/skuld/analysis/Layout" "word" "[I" (.ref bw) ∧ Fld Z h a0 "com/example/skuld/skuld/analysis/Layout" "shift" "[I" (.ref bs) ∧ Fld Z h a0 "com/example/skuld/skuld/analysis/Layout" "largest" "[J" (.ref bl) ∧ own_Az Z h bw .int p1 fw ∧ own_Az Z h bs .int p1 fs ∧ own_Lz Z h bl p1 fl ∧ (∀ j : Int32, ¬ j < 0 → j < p1 → fw j = own_w j) ∧ (∀ j : Int32, ¬ j < 0 → j < p1 → fs j = own_s j) ∧ (∀ j : Int32, ¬ j < 0 → j < p1 → fl j = (1 : Int64))
set_option maxRecDepth 65536 in
set_option maxHeartbeats 40000000 in
theorem rm1 (l : Launch) (Z : State) (aw : Array Value) (hw : ∀ d ∈ tables_1, d.before aw Z = true) (ws : List Jvm.Cond) (a0 : Addr) (p1 : Int32) (h0 : Heap) (n0 : Nat) (Z0 : n0 ≤ h0.size) (E_a0 : Exa Z h0 a0 "com/example/skuld/skuld/analysis/Layout") (F_widths : Fld Z h0 a0 "com/example/skuld/skuld/analysis/Layout" "widths" "[I" .null) (F_word : Fld Z h0 a0 "com/example/skuld/skuld/analysis/Layout" "word" "[I" .null) (F_shift : Fld Z h0 a0 "com/example/skuld/skuld/analysis/Layout" "shift" "[I" .null) (F_largest : Fld Z h0 a0 "com/example/skuld/skuld/analysis/Layout" "largest" "[J" .null) (F_words : Fld Z h0 a0 "com/example/skuld/skuld/analysis/Layout" "words" "I" (.int (0 : Int32))) (F_firstPlace : Fld Z h0 a0 "com/example/skuld/skuld/analysis/Layout" "firstPlace" "[I" .null) (F_oneBitFields : Fld Z h0 a0 "com/example/skuld/skuld/analysis/Layout" "oneBitFields" "[Z" .null) (g_a0 : n0 ≤ a0) (hp : ¬ p1 < 0) (hp2 : p1.toInt ≤ 128) :
    MetFree l (⟨"com/example/skuld/skuld/analysis/Layout", "<init>", "(I)V"⟩ : MethodName) (head1 (Jvm.Cond.code (⟨"com/example/skuld/skuld/analysis/Layout", "<init>", "(I)V"⟩ : MethodName) prog_19_method_1_code 2 none :: ws) ({ frames := 2, cells := 6, slots := 517, locals := 31 } : Room)) (fun a U => a = #[(.ref a0), (.int p1)] ∧ Z.Warmed39 U.vm ∧ U.heap = h0) (fun _ _ _ _ _ => True) (fun _ U o U' => ∃ v L, o = .returned v ∧ Q1 Z a0 p1 h0 n0 v U'.heap L ∧ FrameEnd U o U' L ({ frames := 2, cells := 6, slots := 517, locals := 31 } : Room).cells ({ frames := 2, cells := 6, slots := 517, locals := 31 } : Room).slots) := by
  refine MetFree.of_bodySF (plainFor_of_name pn_com_example_skuld_skuld_analysis_Layout) hisR ?_
  intro p e s m args below meth c s₁ Bd hml0 hP hK
  obtain ⟨rfl, hZ, hh⟩ := hP
  have hx := Bd.exec
  have hby := Bd.bytes
  have hml : c.maxLocals = 2 := hml0
  have hown : s.vm.findClass "com/example/skuld/skuld/analysis/Layout" = some m.cls := findClass_of_methodNamed Bd.named
  have hnm := (name_of_methodNamed Bd.named Bd.method).1
  have X0 : Stand p l e ({ frames := 2, cells := 6, slots := 517, locals := 31 } : Room) s m #[(.ref a0), (.int p1)] below meth c s₁ [] 0 0 := Stand.of_body Bd
  have e0 : s₁.heap = h0 := by rw [← hh, Bd.state]; rfl
  have N0 := Fr.nil n0
  refine own_go (Q := Q1 Z a0 p1 h0 n0) ?_
  refine Go.to (g' := (mkF m 0 #[.val (.ref a0), .val (.int p1)] [])) (fun t k => castTop (ef_rm1 m a0 p1) k) ?_
  refine Go.to (g' := (mkF m 1 #[.val (.ref a0), .val (.int p1)] [(.ref a0)])) (fun t k => XS.aloadN X0.here hx rfl (hb hby d1_0) rfl rfl k) ?_
  refine Go.to (g' := (mkF m 2 #[.val (.ref a0), .val (.int p1)] [(.int p1), (.ref a0)])) (fun t k => XS.iloadN X0.here hx rfl (hb hby d1_1) rfl k) ?_
  refine Go.to (g' := (mkF m 3 #[.val (.ref a0), .val (.int p1)] [(.int (1 : Int32)), (.int p1), (.ref a0)])) (fun t k => XS.iconst X0.here hx rfl (hb hby d1_2) k) ?_
  have lt1_a0 : a0 < h0.size := E_a0.lt
  obtain ⟨v1, _, ⟨T1, L1, k1, n1⟩, -, X1, ⟨Lc1, hQ1, l1, y1, z1⟩, st1⟩ := Jvm.LawKit.callS X0 hx (y := (⟨"com/example/skuld/skuld/analysis/Layout", "filled", "(II)[I"⟩ : MethodName)) hown (mvT hZ (hw _ (List.mem_of_getElem? (i := 8) rfl))) (mvT hZ (hw _ (List.mem_of_getElem? (i := 9) rfl))) (mvT hZ (hw _ (List.mem_of_getElem? (i := 4) rfl))) (mvT hZ (hw _ (List.mem_of_getElem? (i := 10) rfl))) (by decide) (backOf (W := 1) (rm2 l Z aw hw [] p1 (1 : Int32)  h0 n0 Z0 hp hp2) hZ (hw _ (List.mem_of_getElem? (i := 10) rfl)) (hw _ (List.mem_of_getElem? (i := 4) rfl)) (by decide) (by decide)) (g := (mkF m 3 #[.val (.ref a0), .val (.int p1)] [(.int (1 : Int32)), (.int p1), (.ref a0)])) rfl (by rw [hml]; rfl) (argsL := [(.int p1), (.int (1 : Int32))]) (rest := [(.ref a0)]) (lenOf pd_28II295bI rfl) rfl (by show 2 * 0 + _ ≤ _; exact Nat.le_of_eq rfl) (hb hby d1_3) (fun _ _ => ⟨rfl, e0, (by decide : 0 + 1 ≤ _), (by decide : 0 + 128 ≤ _)⟩)
  dsimp only [Pt.U, Pt.locs, Pt.cells, Pt.slots] at X1 l1 y1 z1 st1 hQ1
  subst l1 y1 z1
  obtain ⟨h1, e1⟩ : ∃ z, T1.heap = z := ⟨_, rfl⟩
  rw [e1] at hQ1
  obtain ⟨b1, g1, rfl, N1q, g_b1, s_b1, Kq1, A1, hg1⟩ := hQ1
  have N1 := Fr.app N0 N1q
  have Z1 : n0 ≤ h1.size := Nat.le_trans Z0 Kq1.1
  have K1 : Keep h0 h1 [a0] := (Keep.refl h0 [a0]).trans Kq1 (fun x hx => absurd hx List.not_mem_nil)
  have ne_a0_b1 : a0 ≠ b1 := Nat.ne_of_lt (Nat.lt_of_lt_of_le lt1_a0 s_b1)
  have sz_b1 : h0.size ≤ b1 := Nat.le_trans (Keep.refl h0 [a0]).1 s_b1
  refine Go.to (g' := (mkF m 6 #[.val (.ref a0), .val (.int p1)] [(.ref b1), (.ref a0)])) st1 ?_
  have f2 : Exa Z h1 a0 "com/example/skuld/skuld/analysis/Layout" := (E_a0.keep Kq1)
  have f3 : Fld Z h1 a0 "com/example/skuld/skuld/analysis/Layout" "widths" "[I" .null := (F_widths.keep Kq1 List.not_mem_nil)
  have f4 : Fld Z h1 a0 "com/example/skuld/skuld/analysis/Layout" "word" "[I" .null := (F_word.keep Kq1 List.not_mem_nil)
  have f5 : Fld Z h1 a0 "com/example/skuld/skuld/analysis/Layout" "shift" "[I" .null := (F_shift.keep Kq1 List.not_mem_nil)
  have f6 : Fld Z h1 a0 "com/example/skuld/skuld/analysis/Layout" "largest" "[J" .null := (F_largest.keep Kq1 List.not_mem_nil)
  have f7 : Fld Z h1 a0 "com/example/skuld/skuld/analysis/Layout" "words" "I" (.int (0 : Int32)) := (F_words.keep Kq1 List.not_mem_nil)
  have f8 : Fld Z h1 a0 "com/example/skuld/skuld/analysis/Layout" "firstPlace" "[I" .null := (F_firstPlace.keep Kq1 List.not_mem_nil)
  have f9 : Fld Z h1 a0 "com/example/skuld/skuld/analysis/Layout" "oneBitFields" "[Z" .null := (F_oneBitFields.keep Kq1 List.not_mem_nil)
  obtain ⟨v10, _, ⟨T10, L10, k10, n10⟩, -, X10, ⟨Lc10, hQ10, l10, y10, z10⟩, st10⟩ := X1.specialBack hx (y := (⟨"com/example/skuld/skuld/analysis/Layout", "<init>", "([I)V"⟩ : MethodName)) rfl hown (mvT hZ (hw _ (List.mem_of_getElem? (i := 16) rfl))) (mvT hZ (hw _ (List.mem_of_getElem? (i := 17) rfl))) (mvT hZ (hw _ (List.mem_of_getElem? (i := 18) rfl))) (by decide) (backOf (W := 0) (rm4 l Z aw hw [] a0 b1 p1 g1 h1 n0 Z1 f2 f3 f4 f5 f6 f7 f8 f9 g_a0 A1 ne_a0_b1 hp hp2 hg1) hZ (hw _ (List.mem_of_getElem? (i := 18) rfl)) (hw _ (List.mem_of_getElem? (i := 4) rfl)) (by decide) (by decide)) (g := (mkF m 6 #[.val (.ref a0), .val (.int p1)] [(.ref b1), (.ref a0)])) rfl (by rw [hml]; rfl) (Steps.refl _) (a := a0) (argsL := [(.ref b1)]) (rest := []) (lenOf pd_285bI29V rfl) rfl (by show 2 * 0 + _ ≤ _; exact Nat.le_of_eq rfl) (hb hby d1_6) (fun _ _ => ⟨rfl, e1, (by decide : 1 + 5 ≤ _), (by decide : 128 + 389 ≤ _)⟩)
  dsimp only [Pt.U, Pt.locs, Pt.cells, Pt.slots] at X10 l10 y10 z10 st10 hQ10
  subst l10 y10 z10
  obtain ⟨h10, e10⟩ : ∃ z, T10.heap = z := ⟨_, rfl⟩
  rw [e10] at hQ10
  obtain ⟨bw, bs, bl, fw, fs, fl, rfl, N10q, Kq10, G110, G210, G310, A110, A210, A310, w110, w210, w310⟩ := hQ10
  have N10 := Fr.app N1 N10q
  have Z10 : n0 ≤ h10.size := Nat.le_trans Z1 Kq10.1
  have K10 : Keep h0 h10 [a0] := K1.trans Kq10 (fun x hx => by cases List.mem_singleton.mp hx; exact Or.inl (List.mem_of_getElem? (i := 0) rfl))
  refine Go.to (g' := (mkF m 9 #[.val (.ref a0), .val (.int p1)] [])) (fun t k => st10.trans k) ?_
  exact Go.ret X10 hx Bd.returns Bd.notSynchronized (hb hby d1_9) (by decide) (by decide) e10 ⟨bw, bs, bl, fw, fs, fl, rfl, N10, K10, G110, G210, G310, A110, A210, A310, w110, w210, w310⟩

theorem ef_rm7 (m : MethodId) (x0 : Addr) (x1 : Addr) (x2 : Int32) (x3 : Int32) : entryFrame m #[(.ref x0), (.ref x1), (.int x2), (.int x3)] 4 = mkF m 0 #[.val (.ref x0), .val (.ref x1), .val (.int x2), .val (.int x3)] [] := by first | (simp [entryFrame, mkF, argsToLocals, Value.category]; done) | rfl
def Q7 (Z : State) (a0 : Addr) (a1 : Addr) (p2 : Int32) (p3 : Int32) (bw : Addr) (bs : Addr) (bl : Addr) (zl : Int32) (fw : Int32 → Int32) (fs : Int32 → Int32) (fl : Int32 → Int64) (fx : Int32 → Int64) (h0 : Heap) (n0 : Nat) (v : Option Value) (h : Heap) (L : List Loc) : Prop := v = some (.int (((((fx (p2 + (own_w p3))).toUInt64 >>> ((own_s p3) &&& 0x3f).toInt64.toUInt64).toInt64) &&& (1 : Int64)).toInt32)) ∧ Fr n0 L ∧ h = h0
set_option maxRecDepth 65536 in
set_option maxHeartbeats 40000000 in
theorem rm7 (l : Launch) (Z : State) (aw : Array Value) (hw : ∀ d ∈ tables_1, d.before aw Z = true) (ws : List Jvm.Cond) (a0 : Addr) (a1 : Addr) (p2 : Int32) (p3 : Int32) (bw : Addr) (bs : Addr) (bl : Addr) (zl : Int32) (fw : Int32 → Int32) (fs : Int32 → Int32) (fl : Int32 → Int64) (fx : Int32 → Int64) (h0 : Heap) (n0 : Nat) (Z0 : n0 ≤ h0.size) (F1 : Fld Z h0 a0 "com/example/skuld/skuld/analysis/Layout" "word" "[I" (.ref bw)) (F2 : Fld Z h0 a0 "com/example/skuld/skuld/analysis/Layout" "shift" "[I" (.ref bs)) (F3 : Fld Z h0 a0 "com/example/skuld/skuld/analysis/Layout" "largest" "[J" (.ref bl)) (A1 : own_Az Z h0 bw .int zl fw) (A2 : own_Az Z h0 bs .int zl fs) (A3 : own_Lz Z h0 bl zl fl) (A4 : own_Lz Z h0 a1 (3 : Int32) fx) (w1 : ∀ j : Int32, ¬ j < 0 → j < zl → fw j = own_w j) (w2 : ∀ j : Int32, ¬ j < 0 → j < zl → fs j = own_s j) (w3 : ∀ j : Int32, ¬ j < 0 → j < zl → fl j = (1 : Int64)) (hp : ¬ p3 < 0) (hlt : p3 < zl) (hx1 : ¬ (p2 + (own_w p3)) < 0) (hx2 : (p2 + (own_w p3)) < (3 : Int32)) :
    MetFree l (⟨"com/example/skuld/skuld/analysis/Layout", "tokens", "([JII)I"⟩ : MethodName) (head1 (Jvm.Cond.code (⟨"com/example/skuld/skuld/analysis/Layout", "tokens", "([JII)I"⟩ : MethodName) prog_19_method_9_code 4 (some .int) :: ws) ({ frames := 0, cells := 0, slots := 0, locals := 0 } : Room)) (fun a U => a = #[(.ref a0), (.ref a1), (.int p2), (.int p3)] ∧ Z.Warmed39 U.vm ∧ U.heap = h0) (fun _ _ _ _ _ => True) (fun _ U o U' => ∃ v L, o = .returned v ∧ Q7 Z a0 a1 p2 p3 bw bs bl zl fw fs fl fx h0 n0 v U'.heap L ∧ FrameEnd U o U' L ({ frames := 0, cells := 0, slots := 0, locals := 0 } : Room).cells ({ frames := 0, cells := 0, slots := 0, locals := 0 } : Room).slots) := by
  refine MetFree.of_bodySF (plainFor_of_name pn_com_example_skuld_skuld_analysis_Layout) hisR ?_
  intro p e s m args below meth c s₁ Bd hml0 hP hK
  obtain ⟨rfl, hZ, hh⟩ := hP
  have hx := Bd.exec
  have hby := Bd.bytes
  have hml : c.maxLocals = 4 := hml0
  have hown : s.vm.findClass "com/example/skuld/skuld/analysis/Layout" = some m.cls := findClass_of_methodNamed Bd.named
  have hnm := (name_of_methodNamed Bd.named Bd.method).1
  have X0 : Stand p l e ({ frames := 0, cells := 0, slots := 0, locals := 0 } : Room) s m #[(.ref a0), (.ref a1), (.int p2), (.int p3)] below meth c s₁ [] 0 0 := Stand.of_body Bd
  have e0 : s₁.heap = h0 := by rw [← hh, Bd.state]; rfl
  have N0 := Fr.nil n0
  refine own_go (Q := Q7 Z a0 a1 p2 p3 bw bs bl zl fw fs fl fx h0 n0) ?_
  refine Go.to (g' := (mkF m 0 #[.val (.ref a0), .val (.ref a1), .val (.int p2), .val (.int p3)] [])) (fun t k => castTop (ef_rm7 m a0 a1 p2 p3) k) ?_
  refine Go.to (g' := (mkF m 1 #[.val (.ref a0), .val (.ref a1), .val (.int p2), .val (.int p3)] [(.ref a1)])) (fun t k => XS.aloadN X0.here hx rfl (hb hby d7_0) rfl rfl k) ?_
  refine Go.to (g' := (mkF m 2 #[.val (.ref a0), .val (.ref a1), .val (.int p2), .val (.int p3)] [(.int p2), (.ref a1)])) (fun t k => XS.iloadN X0.here hx rfl (hb hby d7_1) rfl k) ?_
  refine Go.to (g' := (mkF m 3 #[.val (.ref a0), .val (.ref a1), .val (.int p2), .val (.int p3)] [(.ref a0), (.int p2), (.ref a1)])) (fun t k => XS.aloadN X0.here hx rfl (hb hby d7_2) rfl rfl k) ?_
  obtain ⟨T1, X1, e1, st1⟩ := getF X0 hx hZ hown (host := "") (Or.inl (hw _ (List.mem_of_getElem? (i := 24) rfl))) Via.refl e0 F1 (g := (mkF m 3 #[.val (.ref a0), .val (.ref a1), .val (.int p2), .val (.int p3)] [(.ref a0), (.int p2), (.ref a1)])) rfl rfl (hb hby d7_3)
  refine Go.to (g' := (mkF m 6 #[.val (.ref a0), .val (.ref a1), .val (.int p2), .val (.int p3)] [(.ref bw), (.int p2), (.ref a1)])) st1 ?_
  refine Go.to (g' := (mkF m 7 #[.val (.ref a0), .val (.ref a1), .val (.int p2), .val (.int p3)] [(.int p3), (.ref bw), (.int p2), (.ref a1)])) (fun t k => XS.iloadN X1.here hx rfl (hb hby d7_6) rfl k) ?_
  obtain ⟨cl2, Ar2, Sz2, Mz2, Hf2⟩ := id A1
  refine Go.to (g' := (mkF m 8 #[.val (.ref a0), .val (.ref a1), .val (.int p2), .val (.int p3)] [(.int (fw p3)), (.int p2), (.ref a1)])) (fun t k => X1.iaload hx (j := p3) (v := (.int (fw p3))) (by rw [e1]; exact Ar2.1) (State.isArrayOf_alike hZ.alike Ar2.2.1) Ar2.2.2 (inb_of Sz2 ⟨hp, hlt⟩) (Hf2 _ hp hlt) (g := (mkF m 7 #[.val (.ref a0), .val (.ref a1), .val (.int p2), .val (.int p3)] [(.int p3), (.ref bw), (.int p2), (.ref a1)])) rfl rfl (hb hby d7_7) _ k) ?_
  rw [show (fw p3) = (own_w p3) from w1 _ hp hlt]
  refine Go.to (g' := (mkF m 9 #[.val (.ref a0), .val (.ref a1), .val (.int p2), .val (.int p3)] [(.int (p2 + (own_w p3))), (.ref a1)])) (fun t k => XS.iadd X1.here hx rfl (hb hby d7_8) rfl k) ?_
  obtain ⟨cl3, Ar3, Sz3, Mz3, Hf3⟩ := id A4
  refine Go.to (g' := (mkF m 10 #[.val (.ref a0), .val (.ref a1), .val (.int p2), .val (.int p3)] [(.long (fx (p2 + (own_w p3))))])) (fun t k => X1.laload hx (j := (p2 + (own_w p3))) (v := (.long (fx (p2 + (own_w p3))))) (by rw [e1]; exact Ar3.1) (State.isArrayOf_alike hZ.alike Ar3.2.1) Ar3.2.2 (inb_of Sz3 ⟨hx1, hx2⟩) (Hf3 _ hx1 hx2) (g := (mkF m 9 #[.val (.ref a0), .val (.ref a1), .val (.int p2), .val (.int p3)] [(.int (p2 + (own_w p3))), (.ref a1)])) rfl rfl (hb hby d7_9) _ k) ?_
  refine Go.to (g' := (mkF m 11 #[.val (.ref a0), .val (.ref a1), .val (.int p2), .val (.int p3)] [(.ref a0), (.long (fx (p2 + (own_w p3))))])) (fun t k => XS.aloadN X1.here hx rfl (hb hby d7_10) rfl rfl k) ?_
  obtain ⟨T4, X4, e4, st4⟩ := getF X1 hx hZ hown (host := "") (Or.inl (hw _ (List.mem_of_getElem? (i := 26) rfl))) Via.refl e1 F2 (g := (mkF m 11 #[.val (.ref a0), .val (.ref a1), .val (.int p2), .val (.int p3)] [(.ref a0), (.long (fx (p2 + (own_w p3))))])) rfl rfl (hb hby d7_11)
  refine Go.to (g' := (mkF m 14 #[.val (.ref a0), .val (.ref a1), .val (.int p2), .val (.int p3)] [(.ref bs), (.long (fx (p2 + (own_w p3))))])) st4 ?_
  refine Go.to (g' := (mkF m 15 #[.val (.ref a0), .val (.ref a1), .val (.int p2), .val (.int p3)] [(.int p3), (.ref bs), (.long (fx (p2 + (own_w p3))))])) (fun t k => XS.iloadN X4.here hx rfl (hb hby d7_14) rfl k) ?_
  obtain ⟨cl5, Ar5, Sz5, Mz5, Hf5⟩ := id A2
  refine Go.to (g' := (mkF m 16 #[.val (.ref a0), .val (.ref a1), .val (.int p2), .val (.int p3)] [(.int (fs p3)), (.long (fx (p2 + (own_w p3))))])) (fun t k => X4.iaload hx (j := p3) (v := (.int (fs p3))) (by rw [e4]; exact Ar5.1) (State.isArrayOf_alike hZ.alike Ar5.2.1) Ar5.2.2 (inb_of Sz5 ⟨hp, hlt⟩) (Hf5 _ hp hlt) (g := (mkF m 15 #[.val (.ref a0), .val (.ref a1), .val (.int p2), .val (.int p3)] [(.int p3), (.ref bs), (.long (fx (p2 + (own_w p3))))])) rfl rfl (hb hby d7_15) _ k) ?_
  rw [show (fs p3) = (own_s p3) from w2 _ hp hlt]
  refine Go.to (g' := (mkF m 17 #[.val (.ref a0), .val (.ref a1), .val (.int p2), .val (.int p3)] [(.long (((fx (p2 + (own_w p3))).toUInt64 >>> ((own_s p3) &&& 0x3f).toInt64.toUInt64).toInt64))])) (fun t k => XS.lushr X4.here hx rfl (hb hby d7_16) rfl k) ?_
  refine Go.to (g' := (mkF m 18 #[.val (.ref a0), .val (.ref a1), .val (.int p2), .val (.int p3)] [(.ref a0), (.long (((fx (p2 + (own_w p3))).toUInt64 >>> ((own_s p3) &&& 0x3f).toInt64.toUInt64).toInt64))])) (fun t k => XS.aloadN X4.here hx rfl (hb hby d7_17) rfl rfl k) ?_
  obtain ⟨T6, X6, e6, st6⟩ := getF X4 hx hZ hown (host := "") (Or.inl (hw _ (List.mem_of_getElem? (i := 28) rfl))) Via.refl e4 F3 (g := (mkF m 18 #[.val (.ref a0), .val (.ref a1), .val (.int p2), .val (.int p3)] [(.ref a0), (.long (((fx (p2 + (own_w p3))).toUInt64 >>> ((own_s p3) &&& 0x3f).toInt64.toUInt64).toInt64))])) rfl rfl (hb hby d7_18)
  refine Go.to (g' := (mkF m 21 #[.val (.ref a0), .val (.ref a1), .val (.int p2), .val (.int p3)] [(.ref bl), (.long (((fx (p2 + (own_w p3))).toUInt64 >>> ((own_s p3) &&& 0x3f).toInt64.toUInt64).toInt64))])) st6 ?_
  refine Go.to (g' := (mkF m 22 #[.val (.ref a0), .val (.ref a1), .val (.int p2), .val (.int p3)] [(.int p3), (.ref bl), (.long (((fx (p2 + (own_w p3))).toUInt64 >>> ((own_s p3) &&& 0x3f).toInt64.toUInt64).toInt64))])) (fun t k => XS.iloadN X6.here hx rfl (hb hby d7_21) rfl k) ?_
  obtain ⟨cl7, Ar7, Sz7, Mz7, Hf7⟩ := id A3
  refine Go.to (g' := (mkF m 23 #[.val (.ref a0), .val (.ref a1), .val (.int p2), .val (.int p3)] [(.long (fl p3)), (.long (((fx (p2 + (own_w p3))).toUInt64 >>> ((own_s p3) &&& 0x3f).toInt64.toUInt64).toInt64))])) (fun t k => X6.laload hx (j := p3) (v := (.long (fl p3))) (by rw [e6]; exact Ar7.1) (State.isArrayOf_alike hZ.alike Ar7.2.1) Ar7.2.2 (inb_of Sz7 ⟨hp, hlt⟩) (Hf7 _ hp hlt) (g := (mkF m 22 #[.val (.ref a0), .val (.ref a1), .val (.int p2), .val (.int p3)] [(.int p3), (.ref bl), (.long (((fx (p2 + (own_w p3))).toUInt64 >>> ((own_s p3) &&& 0x3f).toInt64.toUInt64).toInt64))])) rfl rfl (hb hby d7_22) _ k) ?_
  rw [show (fl p3) = (1 : Int64) from w3 _ hp hlt]
  refine Go.to (g' := (mkF m 24 #[.val (.ref a0), .val (.ref a1), .val (.int p2), .val (.int p3)] [(.long ((((fx (p2 + (own_w p3))).toUInt64 >>> ((own_s p3) &&& 0x3f).toInt64.toUInt64).toInt64) &&& (1 : Int64)))])) (fun t k => XS.land X6.here hx rfl (hb hby d7_23) rfl k) ?_
  refine Go.to (g' := (mkF m 25 #[.val (.ref a0), .val (.ref a1), .val (.int p2), .val (.int p3)] [(.int (((((fx (p2 + (own_w p3))).toUInt64 >>> ((own_s p3) &&& 0x3f).toInt64.toUInt64).toInt64) &&& (1 : Int64)).toInt32))])) (fun t k => XS.l2i X6.here hx rfl (hb hby d7_24) rfl k) ?_
  exact Go.retI X6 hx Bd.returns Bd.notSynchronized (hb hby d7_25) (by decide) (by decide) e6 ⟨rfl, N0, rfl⟩

theorem ef_rm0 (m : MethodId) (x0 : Int32) (x1 : Int32) (x2 : Int32) (x3 : Int64) (x4 : Int64) (x5 : Int64) : entryFrame m #[(.int x0), (.int x1), (.int x2), (.long x3), (.long x4), (.long x5)] maxLocals = mkF m 0 #[.val (.int x0), .val (.int x1), .val (.int x2), .val (.long x3), .second, .val (.long x4), .second, .val (.long x5), .second, .unset, .unset, .unset, .unset, .unset, .unset, .unset, .unset, .unset, .unset, .unset, .unset, .unset] [] := by first | (simp [entryFrame, mkF, argsToLocals, Value.category, maxLocals]; done) | rfl
def Q0 (Z : State) (p0 : Int32) (p1 : Int32) (p2 : Int32) (q3 : Int64) (q4 : Int64) (q5 : Int64) (h0 : Heap) (n0 : Nat) (v : Option Value) (h : Heap) (L : List Loc) : Prop := v = some (.int (1 : Int32)) ∧ Fr n0 L
set_option maxRecDepth 65536 in
set_option maxHeartbeats 40000000 in
theorem rm0 (l : Launch) (Z : State) (aw : Array Value) (hw : ∀ d ∈ tables_1, d.before aw Z = true) (ws : List Jvm.Cond) (p0 : Int32) (p1 : Int32) (p2 : Int32) (q3 : Int64) (q4 : Int64) (q5 : Int64) (h0 : Heap) (n0 : Nat) (Z0 : n0 ≤ h0.size) :
    MetFree l x (head1 (Jvm.Cond.code x code maxLocals ret :: ws) room_1) (fun a U => a = #[(.int p0), (.int p1), (.int p2), (.long q3), (.long q4), (.long q5)] ∧ Z.Warmed39 U.vm ∧ U.heap = h0) (fun _ _ _ _ _ => True) (fun _ U o U' => ∃ v L, o = .returned v ∧ Q0 Z p0 p1 p2 q3 q4 q5 h0 n0 v U'.heap L ∧ FrameEnd U o U' L room_1.cells room_1.slots) := by
  refine MetFree.of_bodySF (plainFor_of_name pn_com_example_skuld_skuld_analysis_LayoutTokensPinLaw) hisR ?_
  intro p e s m args below meth c s₁ Bd hml0 hP hK
  obtain ⟨rfl, hZ, hh⟩ := hP
  have hx := Bd.exec
  have hby := Bd.bytes
  have hml : c.maxLocals = 22 := hml0
  have hown : s.vm.findClass "com/example/skuld/skuld/analysis/LayoutTokensPinLaw" = some m.cls := findClass_of_methodNamed Bd.named
  have hnm := (name_of_methodNamed Bd.named Bd.method).1
  have X0 : Stand p l e room_1 s m #[(.int p0), (.int p1), (.int p2), (.long q3), (.long q4), (.long q5)] below meth c s₁ [] 0 0 := Stand.of_body Bd
  have e0 : s₁.heap = h0 := by rw [← hh, Bd.state]; rfl
  have N0 := Fr.nil n0
  refine own_go (Q := Q0 Z p0 p1 p2 q3 q4 q5 h0 n0) ?_
  refine Go.to (g' := (mkF m 0 #[.val (.int p0), .val (.int p1), .val (.int p2), .val (.long q3), .second, .val (.long q4), .second, .val (.long q5), .second, .unset, .unset, .unset, .unset, .unset, .unset, .unset, .unset, .unset, .unset, .unset, .unset, .unset] [])) (fun t k => castTop (ef_rm0 m p0 p1 p2 q3 q4 q5) k) ?_
  refine Go.to (g' := (mkF m 1 #[.val (.int p0), .val (.int p1), .val (.int p2), .val (.long q3), .second, .val (.long q4), .second, .val (.long q5), .second, .unset, .unset, .unset, .unset, .unset, .unset, .unset, .unset, .unset, .unset, .unset, .unset, .unset] [(.int (1 : Int32))])) (fun t k => XS.iconst X0.here hx rfl (hb hby at_0) k) ?_
  refine Go.to (g' := (mkF m 2 #[.val (.int p0), .val (.int p1), .val (.int p2), .val (.long q3), .second, .val (.long q4), .second, .val (.long q5), .second, .unset, .unset, .unset, .unset, .unset, .unset, .unset, .unset, .unset, .unset, .unset, .unset, .unset] [(.int p0), (.int (1 : Int32))])) (fun t k => XS.iloadN X0.here hx rfl (hb hby at_1) rfl k) ?_
  refine Go.to (g' := (mkF m 4 #[.val (.int p0), .val (.int p1), .val (.int p2), .val (.long q3), .second, .val (.long q4), .second, .val (.long q5), .second, .unset, .unset, .unset, .unset, .unset, .unset, .unset, .unset, .unset, .unset, .unset, .unset, .unset] [(.int (127 : Int32)), (.int p0), (.int (1 : Int32))])) (fun t k => XS.bipush X0.here hx rfl (hb hby at_2) k) ?_
  refine Go.to (g' := (mkF m 5 #[.val (.int p0), .val (.int p1), .val (.int p2), .val (.long q3), .second, .val (.long q4), .second, .val (.long q5), .second, .unset, .unset, .unset, .unset, .unset, .unset, .unset, .unset, .unset, .unset, .unset, .unset, .unset] [(.int (p0 &&& (127 : Int32))), (.int (1 : Int32))])) (fun t k => XS.iand X0.here hx rfl (hb hby at_4) rfl k) ?_
  refine Go.to (g' := (mkF m 6 #[.val (.int p0), .val (.int p1), .val (.int p2), .val (.long q3), .second, .val (.long q4), .second, .val (.long q5), .second, .unset, .unset, .unset, .unset, .unset, .unset, .unset, .unset, .unset, .unset, .unset, .unset, .unset] [(.int ((1 : Int32) + (p0 &&& (127 : Int32))))])) (fun t k => XS.iadd X0.here hx rfl (hb hby at_5) rfl k) ?_
  obtain ⟨nn, hv_nn⟩ : ∃ z : Int32, z = ((1 : Int32) + (p0 &&& (127 : Int32))) := ⟨_, rfl⟩
  rw [← hv_nn]
  obtain ⟨hn1, hn2⟩ : 1 ≤ nn.toInt ∧ nn.toInt ≤ 128 := by rw [hv_nn]; exact own_n _
  have hnz : nn ≠ 0 := fun q => by rw [q] at hn1; exact absurd hn1 (by decide)
  have hnn : ¬ nn < 0 := fun q => by rw [own_ltz] at q; omega
  refine Go.to (g' := (mkF m 8 #[.val (.int p0), .val (.int p1), .val (.int p2), .val (.long q3), .second, .val (.long q4), .second, .val (.long q5), .second, .val (.int nn), .unset, .unset, .unset, .unset, .unset, .unset, .unset, .unset, .unset, .unset, .unset, .unset] [])) (fun t k => XS.istore X0.here hx rfl (hb hby at_6) rfl (l' := #[.val (.int p0), .val (.int p1), .val (.int p2), .val (.long q3), .second, .val (.long q4), .second, .val (.long q5), .second, .val (.int nn), .unset, .unset, .unset, .unset, .unset, .unset, .unset, .unset, .unset, .unset, .unset, .unset]) rfl k) ?_
  refine Go.to (g' := (mkF m 9 #[.val (.int p0), .val (.int p1), .val (.int p2), .val (.long q3), .second, .val (.long q4), .second, .val (.long q5), .second, .val (.int nn), .unset, .unset, .unset, .unset, .unset, .unset, .unset, .unset, .unset, .unset, .unset, .unset] [(.int p1)])) (fun t k => XS.iloadN X0.here hx rfl (hb hby at_8) rfl k) ?_
  refine Go.to (g' := (mkF m 11 #[.val (.int p0), .val (.int p1), .val (.int p2), .val (.long q3), .second, .val (.long q4), .second, .val (.long q5), .second, .val (.int nn), .unset, .unset, .unset, .unset, .unset, .unset, .unset, .unset, .unset, .unset, .unset, .unset] [(.int (2147483647 : Int32)), (.int p1)])) (fun t k => X0.ldcInt hx hown (mvT hZ (hw _ (List.mem_of_getElem? (i := 0) rfl))) (g := (mkF m 9 #[.val (.int p0), .val (.int p1), .val (.int p2), .val (.long q3), .second, .val (.long q4), .second, .val (.long q5), .second, .val (.int nn), .unset, .unset, .unset, .unset, .unset, .unset, .unset, .unset, .unset, .unset, .unset, .unset] [(.int p1)])) rfl (hb hby at_9) _ k) ?_
  refine Go.to (g' := (mkF m 12 #[.val (.int p0), .val (.int p1), .val (.int p2), .val (.long q3), .second, .val (.long q4), .second, .val (.long q5), .second, .val (.int nn), .unset, .unset, .unset, .unset, .unset, .unset, .unset, .unset, .unset, .unset, .unset, .unset] [(.int (p1 &&& (2147483647 : Int32)))])) (fun t k => XS.iand X0.here hx rfl (hb hby at_11) rfl k) ?_
  refine Go.to (g' := (mkF m 14 #[.val (.int p0), .val (.int p1), .val (.int p2), .val (.long q3), .second, .val (.long q4), .second, .val (.long q5), .second, .val (.int nn), .unset, .unset, .unset, .unset, .unset, .unset, .unset, .unset, .unset, .unset, .unset, .unset] [(.int nn), (.int (p1 &&& (2147483647 : Int32)))])) (fun t k => XS.iload X0.here hx rfl (hb hby at_12) rfl k) ?_
  refine Go.to (g' := (mkF m 15 #[.val (.int p0), .val (.int p1), .val (.int p2), .val (.long q3), .second, .val (.long q4), .second, .val (.long q5), .second, .val (.int nn), .unset, .unset, .unset, .unset, .unset, .unset, .unset, .unset, .unset, .unset, .unset, .unset] [(.int ((p1 &&& (2147483647 : Int32)) % nn))])) (fun t k => iremM X0 hx rfl (hb hby at_14) rfl hnz k) ?_
  obtain ⟨pl, hv_pl⟩ : ∃ z : Int32, z = ((p1 &&& (2147483647 : Int32)) % nn) := ⟨_, rfl⟩
  rw [← hv_pl]
  obtain ⟨hp1, hp2⟩ : ¬ pl < 0 ∧ pl < nn := by rw [hv_pl]; exact own_pl _ hn1
  refine Go.to (g' := (mkF m 17 #[.val (.int p0), .val (.int p1), .val (.int p2), .val (.long q3), .second, .val (.long q4), .second, .val (.long q5), .second, .val (.int nn), .val (.int pl), .unset, .unset, .unset, .unset, .unset, .unset, .unset, .unset, .unset, .unset, .unset] [])) (fun t k => XS.istore X0.here hx rfl (hb hby at_15) rfl (l' := #[.val (.int p0), .val (.int p1), .val (.int p2), .val (.long q3), .second, .val (.long q4), .second, .val (.long q5), .second, .val (.int nn), .val (.int pl), .unset, .unset, .unset, .unset, .unset, .unset, .unset, .unset, .unset, .unset, .unset]) rfl k) ?_
  refine Go.to (g' := (mkF m 18 #[.val (.int p0), .val (.int p1), .val (.int p2), .val (.long q3), .second, .val (.long q4), .second, .val (.long q5), .second, .val (.int nn), .val (.int pl), .unset, .unset, .unset, .unset, .unset, .unset, .unset, .unset, .unset, .unset, .unset] [(.int p2)])) (fun t k => XS.iloadN X0.here hx rfl (hb hby at_17) rfl k) ?_
  refine Go.to (g' := (mkF m 19 #[.val (.int p0), .val (.int p1), .val (.int p2), .val (.long q3), .second, .val (.long q4), .second, .val (.long q5), .second, .val (.int nn), .val (.int pl), .unset, .unset, .unset, .unset, .unset, .unset, .unset, .unset, .unset, .unset, .unset] [(.int (1 : Int32)), (.int p2)])) (fun t k => XS.iconst X0.here hx rfl (hb hby at_18) k) ?_
  refine Go.to (g' := (mkF m 20 #[.val (.int p0), .val (.int p1), .val (.int p2), .val (.long q3), .second, .val (.long q4), .second, .val (.long q5), .second, .val (.int nn), .val (.int pl), .unset, .unset, .unset, .unset, .unset, .unset, .unset, .unset, .unset, .unset, .unset] [(.int (p2 &&& (1 : Int32)))])) (fun t k => XS.iand X0.here hx rfl (hb hby at_19) rfl k) ?_
  obtain ⟨fr, hv_fr⟩ : ∃ z : Int32, z = (p2 &&& (1 : Int32)) := ⟨_, rfl⟩
  rw [← hv_fr]
  obtain ⟨hf1, hf2⟩ : 0 ≤ fr.toInt ∧ fr.toInt ≤ 1 := by rw [hv_fr]; exact own_b1 _
  refine Go.to (g' := (mkF m 22 #[.val (.int p0), .val (.int p1), .val (.int p2), .val (.long q3), .second, .val (.long q4), .second, .val (.long q5), .second, .val (.int nn), .val (.int pl), .val (.int fr), .unset, .unset, .unset, .unset, .unset, .unset, .unset, .unset, .unset, .unset] [])) (fun t k => XS.istore X0.here hx rfl (hb hby at_20) rfl (l' := #[.val (.int p0), .val (.int p1), .val (.int p2), .val (.long q3), .second, .val (.long q4), .second, .val (.long q5), .second, .val (.int nn), .val (.int pl), .val (.int fr), .unset, .unset, .unset, .unset, .unset, .unset, .unset, .unset, .unset, .unset]) rfl k) ?_
  refine Go.to (g' := (mkF m 23 #[.val (.int p0), .val (.int p1), .val (.int p2), .val (.long q3), .second, .val (.long q4), .second, .val (.long q5), .second, .val (.int nn), .val (.int pl), .val (.int fr), .unset, .unset, .unset, .unset, .unset, .unset, .unset, .unset, .unset, .unset] [(.int (3 : Int32))])) (fun t k => XS.iconst X0.here hx rfl (hb hby at_22) k) ?_
  obtain ⟨T2, h2, k2, X2, e2, E2, A2, st2⟩ := newP X0 hx hZ (hw _ (List.mem_of_getElem? (i := 1) rfl)) e0 (g := (mkF m 23 #[.val (.int p0), .val (.int p1), .val (.int p2), .val (.long q3), .second, .val (.long q4), .second, .val (.long q5), .second, .val (.int nn), .val (.int pl), .val (.int fr), .unset, .unset, .unset, .unset, .unset, .unset, .unset, .unset, .unset, .unset] [(.int (3 : Int32))])) rfl (hb hby at_23) rfl (by decide) (cap := 3) (by decide) (by decide) (by decide) (by decide)
  obtain ⟨b1, g2⟩ : ∃ z, z = h0.size := ⟨_, rfl⟩
  rw [← g2] at A2 st2
  have g_b1 : n0 ≤ b1 := Nat.le_trans Z0 (Nat.le_of_eq g2.symm)
  have sz_b1 : h0.size ≤ b1 := Nat.le_trans (Keep.refl h0 []).1 (Nat.le_of_eq g2.symm)
  have Z2 : n0 ≤ h2.size := Nat.le_trans Z0 E2.1
  have K2 : Keep h0 h2 [] := (Keep.refl h0 []).ext E2
  have V_b1 : Arv Z h2 b1 k2 .long (3 : Int32) [(.long (0 : Int64)), (.long (0 : Int64)), (.long (0 : Int64))] (.long (0 : Int64)) := (Arv.new A2 (by decide)).pad (pad_rep [] (.long (0 : Int64)) 3)
  refine Go.to (g' := (mkF m 25 #[.val (.int p0), .val (.int p1), .val (.int p2), .val (.long q3), .second, .val (.long q4), .second, .val (.long q5), .second, .val (.int nn), .val (.int pl), .val (.int fr), .unset, .unset, .unset, .unset, .unset, .unset, .unset, .unset, .unset, .unset] [(.ref b1)])) st2 ?_
  refine Go.to (g' := (mkF m 27 #[.val (.int p0), .val (.int p1), .val (.int p2), .val (.long q3), .second, .val (.long q4), .second, .val (.long q5), .second, .val (.int nn), .val (.int pl), .val (.int fr), .val (.ref b1), .unset, .unset, .unset, .unset, .unset, .unset, .unset, .unset, .unset] [])) (fun t k => XS.astore X2.here hx rfl (hb hby at_25) rfl rfl (l' := #[.val (.int p0), .val (.int p1), .val (.int p2), .val (.long q3), .second, .val (.long q4), .second, .val (.long q5), .second, .val (.int nn), .val (.int pl), .val (.int fr), .val (.ref b1), .unset, .unset, .unset, .unset, .unset, .unset, .unset, .unset, .unset]) rfl k) ?_
  refine Go.to (g' := (mkF m 29 #[.val (.int p0), .val (.int p1), .val (.int p2), .val (.long q3), .second, .val (.long q4), .second, .val (.long q5), .second, .val (.int nn), .val (.int pl), .val (.int fr), .val (.ref b1), .unset, .unset, .unset, .unset, .unset, .unset, .unset, .unset, .unset] [(.ref b1)])) (fun t k => XS.aload X2.here hx rfl (hb hby at_27) rfl rfl k) ?_
  refine Go.to (g' := (mkF m 30 #[.val (.int p0), .val (.int p1), .val (.int p2), .val (.long q3), .second, .val (.long q4), .second, .val (.long q5), .second, .val (.int nn), .val (.int pl), .val (.int fr), .val (.ref b1), .unset, .unset, .unset, .unset, .unset, .unset, .unset, .unset, .unset] [(.int (0 : Int32)), (.ref b1)])) (fun t k => XS.iconst X2.here hx rfl (hb hby at_29) k) ?_
  refine Go.to (g' := (mkF m 31 #[.val (.int p0), .val (.int p1), .val (.int p2), .val (.long q3), .second, .val (.long q4), .second, .val (.long q5), .second, .val (.int nn), .val (.int pl), .val (.int fr), .val (.ref b1), .unset, .unset, .unset, .unset, .unset, .unset, .unset, .unset, .unset] [(.long q3), (.int (0 : Int32)), (.ref b1)])) (fun t k => XS.lloadN X2.here hx rfl (hb hby at_30) rfl k) ?_
  obtain ⟨cl3, Ar3, kc3, S3, M3, H3, G3⟩ := V_b1
  have hin3 : ¬ ((0 : Int32) < 0 ∨ cl3.slots.size ≤ ((0 : Int32)).toNatClampNeg) := inb_of S3 ⟨by decide, by decide⟩
  obtain ⟨T4, h4, X4, e4, W4, st4⟩ := stJ X2 hx hZ e2 Ar3 (j := (0 : Int32)) hin3 (g := (mkF m 31 #[.val (.int p0), .val (.int p1), .val (.int p2), .val (.long q3), .second, .val (.long q4), .second, .val (.long q5), .second, .val (.int nn), .val (.int pl), .val (.int fr), .val (.ref b1), .unset, .unset, .unset, .unset, .unset, .unset, .unset, .unset, .unset] [(.long q3), (.int (0 : Int32)), (.ref b1)])) rfl rfl (hb hby at_31)
  have Z4 : n0 ≤ h4.size := Nat.le_trans Z2 (Keep.of_wr W4).1
  have K4 : Keep h0 h4 [] := K2.wr W4 (Or.inr sz_b1)
  have N4 := Fr.snoc X4 N0 g_b1
  have V4 : Arv Z h4 b1 k2 .long (3 : Int32) [(.long q3), (.long (0 : Int64)), (.long (0 : Int64))] (.long (0 : Int64)) := Arv.set Ar3 kc3 S3 M3 H3 G3 rfl W4 0 rfl (Nat.le_of_ble_eq_true rfl)
  refine Go.to (g' := (mkF m 32 #[.val (.int p0), .val (.int p1), .val (.int p2), .val (.long q3), .second, .val (.long q4), .second, .val (.long q5), .second, .val (.int nn), .val (.int pl), .val (.int fr), .val (.ref b1), .unset, .unset, .unset, .unset, .unset, .unset, .unset, .unset, .unset] [])) st4 ?_
  refine Go.to (g' := (mkF m 34 #[.val (.int p0), .val (.int p1), .val (.int p2), .val (.long q3), .second, .val (.long q4), .second, .val (.long q5), .second, .val (.int nn), .val (.int pl), .val (.int fr), .val (.ref b1), .unset, .unset, .unset, .unset, .unset, .unset, .unset, .unset, .unset] [(.ref b1)])) (fun t k => XS.aload X4.here hx rfl (hb hby at_32) rfl rfl k) ?_
  refine Go.to (g' := (mkF m 35 #[.val (.int p0), .val (.int p1), .val (.int p2), .val (.long q3), .second, .val (.long q4), .second, .val (.long q5), .second, .val (.int nn), .val (.int pl), .val (.int fr), .val (.ref b1), .unset, .unset, .unset, .unset, .unset, .unset, .unset, .unset, .unset] [(.int (1 : Int32)), (.ref b1)])) (fun t k => XS.iconst X4.here hx rfl (hb hby at_34) k) ?_
  refine Go.to (g' := (mkF m 37 #[.val (.int p0), .val (.int p1), .val (.int p2), .val (.long q3), .second, .val (.long q4), .second, .val (.long q5), .second, .val (.int nn), .val (.int pl), .val (.int fr), .val (.ref b1), .unset, .unset, .unset, .unset, .unset, .unset, .unset, .unset, .unset] [(.long q4), (.int (1 : Int32)), (.ref b1)])) (fun t k => XS.lload X4.here hx rfl (hb hby at_35) rfl k) ?_
  obtain ⟨cl5, Ar5, kc5, S5, M5, H5, G5⟩ := V4
  have hin5 : ¬ ((1 : Int32) < 0 ∨ cl5.slots.size ≤ ((1 : Int32)).toNatClampNeg) := inb_of S5 ⟨by decide, by decide⟩
  obtain ⟨T6, h6, X6, e6, W6, st6⟩ := stJ X4 hx hZ e4 Ar5 (j := (1 : Int32)) hin5 (g := (mkF m 37 #[.val (.int p0), .val (.int p1), .val (.int p2), .val (.long q3), .second, .val (.long q4), .second, .val (.long q5), .second, .val (.int nn), .val (.int pl), .val (.int fr), .val (.ref b1), .unset, .unset, .unset, .unset, .unset, .unset, .unset, .unset, .unset] [(.long q4), (.int (1 : Int32)), (.ref b1)])) rfl rfl (hb hby at_37)
  have Z6 : n0 ≤ h6.size := Nat.le_trans Z4 (Keep.of_wr W6).1
  have K6 : Keep h0 h6 [] := K4.wr W6 (Or.inr sz_b1)
  have N6 := Fr.snoc X6 N4 g_b1
  have V6 : Arv Z h6 b1 k2 .long (3 : Int32) [(.long q3), (.long q4), (.long (0 : Int64))] (.long (0 : Int64)) := Arv.set Ar5 kc5 S5 M5 H5 G5 rfl W6 1 rfl (Nat.le_of_ble_eq_true rfl)
  refine Go.to (g' := (mkF m 38 #[.val (.int p0), .val (.int p1), .val (.int p2), .val (.long q3), .second, .val (.long q4), .second, .val (.long q5), .second, .val (.int nn), .val (.int pl), .val (.int fr), .val (.ref b1), .unset, .unset, .unset, .unset, .unset, .unset, .unset, .unset, .unset] [])) st6 ?_
  refine Go.to (g' := (mkF m 40 #[.val (.int p0), .val (.int p1), .val (.int p2), .val (.long q3), .second, .val (.long q4), .second, .val (.long q5), .second, .val (.int nn), .val (.int pl), .val (.int fr), .val (.ref b1), .unset, .unset, .unset, .unset, .unset, .unset, .unset, .unset, .unset] [(.ref b1)])) (fun t k => XS.aload X6.here hx rfl (hb hby at_38) rfl rfl k) ?_
  refine Go.to (g' := (mkF m 41 #[.val (.int p0), .val (.int p1), .val (.int p2), .val (.long q3), .second, .val (.long q4), .second, .val (.long q5), .second, .val (.int nn), .val (.int pl), .val (.int fr), .val (.ref b1), .unset, .unset, .unset, .unset, .unset, .unset, .unset, .unset, .unset] [(.int (2 : Int32)), (.ref b1)])) (fun t k => XS.iconst X6.here hx rfl (hb hby at_40) k) ?_
  refine Go.to (g' := (mkF m 43 #[.val (.int p0), .val (.int p1), .val (.int p2), .val (.long q3), .second, .val (.long q4), .second, .val (.long q5), .second, .val (.int nn), .val (.int pl), .val (.int fr), .val (.ref b1), .unset, .unset, .unset, .unset, .unset, .unset, .unset, .unset, .unset] [(.long q5), (.int (2 : Int32)), (.ref b1)])) (fun t k => XS.lload X6.here hx rfl (hb hby at_41) rfl k) ?_
  obtain ⟨cl7, Ar7, kc7, S7, M7, H7, G7⟩ := V6
  have hin7 : ¬ ((2 : Int32) < 0 ∨ cl7.slots.size ≤ ((2 : Int32)).toNatClampNeg) := inb_of S7 ⟨by decide, by decide⟩
  obtain ⟨T8, h8, X8, e8, W8, st8⟩ := stJ X6 hx hZ e6 Ar7 (j := (2 : Int32)) hin7 (g := (mkF m 43 #[.val (.int p0), .val (.int p1), .val (.int p2), .val (.long q3), .second, .val (.long q4), .second, .val (.long q5), .second, .val (.int nn), .val (.int pl), .val (.int fr), .val (.ref b1), .unset, .unset, .unset, .unset, .unset, .unset, .unset, .unset, .unset] [(.long q5), (.int (2 : Int32)), (.ref b1)])) rfl rfl (hb hby at_43)
  have Z8 : n0 ≤ h8.size := Nat.le_trans Z6 (Keep.of_wr W8).1
  have K8 : Keep h0 h8 [] := K6.wr W8 (Or.inr sz_b1)
  have N8 := Fr.snoc X8 N6 g_b1
  have V8 : Arv Z h8 b1 k2 .long (3 : Int32) [(.long q3), (.long q4), (.long q5)] (.long (0 : Int64)) := Arv.set Ar7 kc7 S7 M7 H7 G7 rfl W8 2 rfl (Nat.le_of_ble_eq_true rfl)
  refine Go.to (g' := (mkF m 44 #[.val (.int p0), .val (.int p1), .val (.int p2), .val (.long q3), .second, .val (.long q4), .second, .val (.long q5), .second, .val (.int nn), .val (.int pl), .val (.int fr), .val (.ref b1), .unset, .unset, .unset, .unset, .unset, .unset, .unset, .unset, .unset] [])) st8 ?_
  obtain ⟨fx, A3_⟩ := own_lz3 V8
  obtain ⟨T10, h10, X10, e10, E10, A10, D10, -, st10⟩ := newO X8 hx hZ hown (hw _ (List.mem_of_getElem? (i := 2) rfl)) (hw _ (List.mem_of_getElem? (i := 3) rfl)) (hw _ (List.mem_of_getElem? (i := 4) rfl)) e8 (g := (mkF m 44 #[.val (.int p0), .val (.int p1), .val (.int p2), .val (.long q3), .second, .val (.long q4), .second, .val (.long q5), .second, .val (.int nn), .val (.int pl), .val (.int fr), .val (.ref b1), .unset, .unset, .unset, .unset, .unset, .unset, .unset, .unset, .unset] [])) rfl (hb hby at_44) (by decide) (by decide)
  obtain ⟨o9, g10⟩ : ∃ z, z = h8.size := ⟨_, rfl⟩
  rw [← g10] at A10 D10 st10
  have ne_b1_o9 : b1 ≠ o9 := Nat.ne_of_lt (Nat.lt_of_lt_of_le A3_.lt (Nat.le_of_eq g10.symm))
  have g_o9 : n0 ≤ o9 := Nat.le_trans Z8 (Nat.le_of_eq g10.symm)
  have sz_o9 : h0.size ≤ o9 := Nat.le_trans K8.1 (Nat.le_of_eq g10.symm)
  have Z10 : n0 ≤ h10.size := Nat.le_trans Z8 E10.1
  have K10 : Keep h0 h10 [] := K8.ext E10
  have F_widths_o9 : Fld Z h10 o9 "com/example/skuld/skuld/analysis/Layout" "widths" "[I" .null := D10 (Or.inr (hw _ (List.mem_of_getElem? (i := 23) rfl))) (ty := (.array .int)) (by decide)
  have F_word_o9 : Fld Z h10 o9 "com/example/skuld/skuld/analysis/Layout" "word" "[I" .null := D10 (Or.inr (hw _ (List.mem_of_getElem? (i := 25) rfl))) (ty := (.array .int)) (by decide)
  have F_shift_o9 : Fld Z h10 o9 "com/example/skuld/skuld/analysis/Layout" "shift" "[I" .null := D10 (Or.inr (hw _ (List.mem_of_getElem? (i := 27) rfl))) (ty := (.array .int)) (by decide)
  have F_largest_o9 : Fld Z h10 o9 "com/example/skuld/skuld/analysis/Layout" "largest" "[J" .null := D10 (Or.inr (hw _ (List.mem_of_getElem? (i := 29) rfl))) (ty := (.array .long)) (by decide)
  have F_words_o9 : Fld Z h10 o9 "com/example/skuld/skuld/analysis/Layout" "words" "I" (.int (0 : Int32)) := D10 (Or.inr (hw _ (List.mem_of_getElem? (i := 31) rfl))) (ty := .int) (by decide)
  have F_firstPlace_o9 : Fld Z h10 o9 "com/example/skuld/skuld/analysis/Layout" "firstPlace" "[I" .null := D10 (Or.inr (hw _ (List.mem_of_getElem? (i := 33) rfl))) (ty := (.array .int)) (by decide)
  have F_oneBitFields_o9 : Fld Z h10 o9 "com/example/skuld/skuld/analysis/Layout" "oneBitFields" "[Z" .null := D10 (Or.inr (hw _ (List.mem_of_getElem? (i := 36) rfl))) (ty := (.array .boolean)) (by decide)
  refine Go.to (g' := (mkF m 47 #[.val (.int p0), .val (.int p1), .val (.int p2), .val (.long q3), .second, .val (.long q4), .second, .val (.long q5), .second, .val (.int nn), .val (.int pl), .val (.int fr), .val (.ref b1), .unset, .unset, .unset, .unset, .unset, .unset, .unset, .unset, .unset] [(.ref o9)])) st10 ?_
  refine Go.to (g' := (mkF m 48 #[.val (.int p0), .val (.int p1), .val (.int p2), .val (.long q3), .second, .val (.long q4), .second, .val (.long q5), .second, .val (.int nn), .val (.int pl), .val (.int fr), .val (.ref b1), .unset, .unset, .unset, .unset, .unset, .unset, .unset, .unset, .unset] [(.ref o9), (.ref o9)])) (fun t k => XS.dup X10.here hx rfl (hb hby at_47) rfl rfl k) ?_
  refine Go.to (g' := (mkF m 50 #[.val (.int p0), .val (.int p1), .val (.int p2), .val (.long q3), .second, .val (.long q4), .second, .val (.long q5), .second, .val (.int nn), .val (.int pl), .val (.int fr), .val (.ref b1), .unset, .unset, .unset, .unset, .unset, .unset, .unset, .unset, .unset] [(.int nn), (.ref o9), (.ref o9)])) (fun t k => XS.iload X10.here hx rfl (hb hby at_48) rfl k) ?_
  obtain ⟨v11, _, ⟨T11, L11, k11, n11⟩, -, X11, ⟨Lc11, hQ11, l11, y11, z11⟩, st11⟩ := X10.specialBack hx (y := (⟨"com/example/skuld/skuld/analysis/Layout", "<init>", "(I)V"⟩ : MethodName)) rfl hown (mvT hZ (hw _ (List.mem_of_getElem? (i := 5) rfl))) (mvT hZ (hw _ (List.mem_of_getElem? (i := 6) rfl))) (mvT hZ (hw _ (List.mem_of_getElem? (i := 7) rfl))) (by decide) (backOf (W := 1) (rm1 l Z aw hw [] o9 nn  h10 n0 Z10 A10 F_widths_o9 F_word_o9 F_shift_o9 F_largest_o9 F_words_o9 F_firstPlace_o9 F_oneBitFields_o9 g_o9 hnn hn2) hZ (hw _ (List.mem_of_getElem? (i := 7) rfl)) (hw _ (List.mem_of_getElem? (i := 4) rfl)) (by decide) (by decide)) (g := (mkF m 50 #[.val (.int p0), .val (.int p1), .val (.int p2), .val (.long q3), .second, .val (.long q4), .second, .val (.long q5), .second, .val (.int nn), .val (.int pl), .val (.int fr), .val (.ref b1), .unset, .unset, .unset, .unset, .unset, .unset, .unset, .unset, .unset] [(.int nn), (.ref o9), (.ref o9)])) rfl (by rw [hml]; rfl) (Steps.refl _) (a := o9) (argsL := [(.int nn)]) (rest := [(.ref o9)]) (lenOf pd_28I29V rfl) rfl (by show 2 * 0 + _ ≤ _; exact Nat.le_of_eq rfl) (hb hby at_50) (fun _ _ => ⟨rfl, e10, (by decide : 2 + 6 ≤ _), (by decide : 10 + 517 ≤ _)⟩)
  dsimp only [Pt.U, Pt.locs, Pt.cells, Pt.slots] at X11 l11 y11 z11 st11 hQ11
  subst l11 y11 z11
  obtain ⟨h11, e11⟩ : ∃ z, T11.heap = z := ⟨_, rfl⟩
  rw [e11] at hQ11
  obtain ⟨bw, bs, bl, fw, fs, fl, rfl, N11q, Kq11, G111, G211, G311, A111, A211, A311, w111, w211, w311⟩ := hQ11
  have N11 := Fr.app N8 N11q
  have Z11 : n0 ≤ h11.size := Nat.le_trans Z10 Kq11.1
  have K11 : Keep h0 h11 [] := K10.trans Kq11 (fun x hx => by cases List.mem_singleton.mp hx; exact Or.inr sz_o9)
  refine Go.to (g' := (mkF m 53 #[.val (.int p0), .val (.int p1), .val (.int p2), .val (.long q3), .second, .val (.long q4), .second, .val (.long q5), .second, .val (.int nn), .val (.int pl), .val (.int fr), .val (.ref b1), .unset, .unset, .unset, .unset, .unset, .unset, .unset, .unset, .unset] [(.ref o9)])) (fun t k => st11.trans k) ?_
  refine Go.to (g' := (mkF m 55 #[.val (.int p0), .val (.int p1), .val (.int p2), .val (.long q3), .second, .val (.long q4), .second, .val (.long q5), .second, .val (.int nn), .val (.int pl), .val (.int fr), .val (.ref b1), .val (.ref o9), .unset, .unset, .unset, .unset, .unset, .unset, .unset, .unset] [])) (fun t k => XS.astore X11.here hx rfl (hb hby at_53) rfl rfl (l' := #[.val (.int p0), .val (.int p1), .val (.int p2), .val (.long q3), .second, .val (.long q4), .second, .val (.long q5), .second, .val (.int nn), .val (.int pl), .val (.int fr), .val (.ref b1), .val (.ref o9), .unset, .unset, .unset, .unset, .unset, .unset, .unset, .unset]) rfl k) ?_
  refine Go.to (g' := (mkF m 57 #[.val (.int p0), .val (.int p1), .val (.int p2), .val (.long q3), .second, .val (.long q4), .second, .val (.long q5), .second, .val (.int nn), .val (.int pl), .val (.int fr), .val (.ref b1), .val (.ref o9), .unset, .unset, .unset, .unset, .unset, .unset, .unset, .unset] [(.ref o9)])) (fun t k => XS.aload X11.here hx rfl (hb hby at_55) rfl rfl k) ?_
  refine Go.to (g' := (mkF m 59 #[.val (.int p0), .val (.int p1), .val (.int p2), .val (.long q3), .second, .val (.long q4), .second, .val (.long q5), .second, .val (.int nn), .val (.int pl), .val (.int fr), .val (.ref b1), .val (.ref o9), .unset, .unset, .unset, .unset, .unset, .unset, .unset, .unset] [(.ref b1), (.ref o9)])) (fun t k => XS.aload X11.here hx rfl (hb hby at_57) rfl rfl k) ?_
  refine Go.to (g' := (mkF m 61 #[.val (.int p0), .val (.int p1), .val (.int p2), .val (.long q3), .second, .val (.long q4), .second, .val (.long q5), .second, .val (.int nn), .val (.int pl), .val (.int fr), .val (.ref b1), .val (.ref o9), .unset, .unset, .unset, .unset, .unset, .unset, .unset, .unset] [(.int fr), (.ref b1), (.ref o9)])) (fun t k => XS.iload X11.here hx rfl (hb hby at_59) rfl k) ?_
  refine Go.to (g' := (mkF m 63 #[.val (.int p0), .val (.int p1), .val (.int p2), .val (.long q3), .second, .val (.long q4), .second, .val (.long q5), .second, .val (.int nn), .val (.int pl), .val (.int fr), .val (.ref b1), .val (.ref o9), .unset, .unset, .unset, .unset, .unset, .unset, .unset, .unset] [(.int pl), (.int fr), (.ref b1), (.ref o9)])) (fun t k => XS.iload X11.here hx rfl (hb hby at_61) rfl k) ?_
  have f12 : own_Lz Z h11 b1 (3 : Int32) fx := ((A3_.ext E10).keep Kq11 (fun q => ne_b1_o9 (List.mem_singleton.mp q)))
  have f13 : Exa Z h11 o9 "com/example/skuld/skuld/analysis/Layout" := (A10.keep Kq11)
  obtain ⟨cq14, kq14, qa14, qb14, qc14⟩ := isOf hZ e11 f13
  obtain ⟨v14, _, ⟨T14, L14, k14, n14⟩, -, X14, ⟨Lc14, hQ14, l14, y14, z14⟩, st14⟩ := X11.virtualBack hx (y := (⟨"com/example/skuld/skuld/analysis/Layout", "tokens", "([JII)I"⟩ : MethodName)) (z := (⟨"com/example/skuld/skuld/analysis/Layout", "tokens", "([JII)I"⟩ : MethodName)) hown (mvT hZ (hw _ (List.mem_of_getElem? (i := 40) rfl))) (mvT hZ (hw _ (List.mem_of_getElem? (i := 41) rfl))) (notFace_of_selects (args := #[]) (mvT hZ (hw _ (List.mem_of_getElem? (i := 43) rfl)))) (mvT hZ (hw _ (List.mem_of_getElem? (i := 43) rfl))) (mvT hZ (hw _ (List.mem_of_getElem? (i := 42) rfl))) (by decide) (backOf (W := 0) (rm7 l Z aw hw [] o9 b1 fr pl bw bs bl nn fw fs fl fx h11 n0 Z11 G111 G211 G311 A111 A211 A311 f12 w111 w211 w311 hp1 hp2 (own_fi pl hf1 hf2).1 (own_fi pl hf1 hf2).2) hZ (hw _ (List.mem_of_getElem? (i := 44) rfl)) (hw _ (List.mem_of_getElem? (i := 4) rfl)) (by decide) (by decide)) qa14 qc14 (g := (mkF m 63 #[.val (.int p0), .val (.int p1), .val (.int p2), .val (.long q3), .second, .val (.long q4), .second, .val (.long q5), .second, .val (.int nn), .val (.int pl), .val (.int fr), .val (.ref b1), .val (.ref o9), .unset, .unset, .unset, .unset, .unset, .unset, .unset, .unset] [(.int pl), (.int fr), (.ref b1), (.ref o9)])) rfl (by rw [hml]; rfl) (Steps.refl _) (argsL := [(.ref b1), (.int fr), (.int pl)]) (rest := []) (lenOf pd_285bJII29I rfl) rfl (by show 2 * 0 + _ ≤ _; exact Nat.le_of_eq rfl) (hb hby at_63) (fun _ _ => ⟨rfl, e11, (by decide : 8 + 0 ≤ _), (by decide : 527 + 0 ≤ _)⟩)
  dsimp only [Pt.U, Pt.locs, Pt.cells, Pt.slots] at X14 l14 y14 z14 st14 hQ14
  subst l14 y14 z14
  obtain ⟨rfl, N14q, e14⟩ := hQ14
  have N14 := Fr.app N11 N14q
  refine Go.to (g' := (mkF m 66 #[.val (.int p0), .val (.int p1), .val (.int p2), .val (.long q3), .second, .val (.long q4), .second, .val (.long q5), .second, .val (.int nn), .val (.int pl), .val (.int fr), .val (.ref b1), .val (.ref o9), .unset, .unset, .unset, .unset, .unset, .unset, .unset, .unset] [(.int (((((fx (fr + (own_w pl))).toUInt64 >>> ((own_s pl) &&& 0x3f).toInt64.toUInt64).toInt64) &&& (1 : Int64)).toInt32))])) (fun t k => st14.trans k) ?_
  refine Go.to (g' := (mkF m 68 #[.val (.int p0), .val (.int p1), .val (.int p2), .val (.long q3), .second, .val (.long q4), .second, .val (.long q5), .second, .val (.int nn), .val (.int pl), .val (.int fr), .val (.ref b1), .val (.ref o9), .val (.int (((((fx (fr + (own_w pl))).toUInt64 >>> ((own_s pl) &&& 0x3f).toInt64.toUInt64).toInt64) &&& (1 : Int64)).toInt32)), .unset, .unset, .unset, .unset, .unset, .unset, .unset] [])) (fun t k => XS.istore X14.here hx rfl (hb hby at_66) rfl (l' := #[.val (.int p0), .val (.int p1), .val (.int p2), .val (.long q3), .second, .val (.long q4), .second, .val (.long q5), .second, .val (.int nn), .val (.int pl), .val (.int fr), .val (.ref b1), .val (.ref o9), .val (.int (((((fx (fr + (own_w pl))).toUInt64 >>> ((own_s pl) &&& 0x3f).toInt64.toUInt64).toInt64) &&& (1 : Int64)).toInt32)), .unset, .unset, .unset, .unset, .unset, .unset, .unset]) rfl k) ?_
  refine Go.to (g' := (mkF m 70 #[.val (.int p0), .val (.int p1), .val (.int p2), .val (.long q3), .second, .val (.long q4), .second, .val (.long q5), .second, .val (.int nn), .val (.int pl), .val (.int fr), .val (.ref b1), .val (.ref o9), .val (.int (((((fx (fr + (own_w pl))).toUInt64 >>> ((own_s pl) &&& 0x3f).toInt64.toUInt64).toInt64) &&& (1 : Int64)).toInt32)), .unset, .unset, .unset, .unset, .unset, .unset, .unset] [(.int pl)])) (fun t k => XS.iload X14.here hx rfl (hb hby at_68) rfl k) ?_
  refine Go.to (g' := (mkF m 72 #[.val (.int p0), .val (.int p1), .val (.int p2), .val (.long q3), .second, .val (.long q4), .second, .val (.long q5), .second, .val (.int nn), .val (.int pl), .val (.int fr), .val (.ref b1), .val (.ref o9), .val (.int (((((fx (fr + (own_w pl))).toUInt64 >>> ((own_s pl) &&& 0x3f).toInt64.toUInt64).toInt64) &&& (1 : Int64)).toInt32)), .unset, .unset, .unset, .unset, .unset, .unset, .unset] [(.int (64 : Int32)), (.int pl)])) (fun t k => XS.bipush X14.here hx rfl (hb hby at_70) k) ?_
  by_cases c15 : pl < (64 : Int32)
  · refine Go.to (g' := (mkF m 75 #[.val (.int p0), .val (.int p1), .val (.int p2), .val (.long q3), .second, .val (.long q4), .second, .val (.long q5), .second, .val (.int nn), .val (.int pl), .val (.int fr), .val (.ref b1), .val (.ref o9), .val (.int (((((fx (fr + (own_w pl))).toUInt64 >>> ((own_s pl) &&& 0x3f).toInt64.toUInt64).toInt64) &&& (1 : Int64)).toInt32)), .unset, .unset, .unset, .unset, .unset, .unset, .unset] [])) (fun t k => XS.icmpNo X14.here hx rfl (hb hby at_72) rfl (tlt c15).2.1 k) ?_
    refine Go.to (g' := (mkF m 76 #[.val (.int p0), .val (.int p1), .val (.int p2), .val (.long q3), .second, .val (.long q4), .second, .val (.long q5), .second, .val (.int nn), .val (.int pl), .val (.int fr), .val (.ref b1), .val (.ref o9), .val (.int (((((fx (fr + (own_w pl))).toUInt64 >>> ((own_s pl) &&& 0x3f).toInt64.toUInt64).toInt64) &&& (1 : Int64)).toInt32)), .unset, .unset, .unset, .unset, .unset, .unset, .unset] [(.int (0 : Int32))])) (fun t k => XS.iconst X14.here hx rfl (hb hby at_75) k) ?_
    refine Go.to (g' := (mkF m 80 #[.val (.int p0), .val (.int p1), .val (.int p2), .val (.long q3), .second, .val (.long q4), .second, .val (.long q5), .second, .val (.int nn), .val (.int pl), .val (.int fr), .val (.ref b1), .val (.ref o9), .val (.int (((((fx (fr + (own_w pl))).toUInt64 >>> ((own_s pl) &&& 0x3f).toInt64.toUInt64).toInt64) &&& (1 : Int64)).toInt32)), .unset, .unset, .unset, .unset, .unset, .unset, .unset] [(.int (0 : Int32))])) (fun t k => XS.goto X14.here hx rfl (pc0 := 76) (pc' := 80) rfl (hb hby at_76) (by decide) (by decide) k) ?_
    refine Go.to (g' := (mkF m 82 #[.val (.int p0), .val (.int p1), .val (.int p2), .val (.long q3), .second, .val (.long q4), .second, .val (.long q5), .second, .val (.int nn), .val (.int pl), .val (.int fr), .val (.ref b1), .val (.ref o9), .val (.int (((((fx (fr + (own_w pl))).toUInt64 >>> ((own_s pl) &&& 0x3f).toInt64.toUInt64).toInt64) &&& (1 : Int64)).toInt32)), .val (.int (0 : Int32)), .unset, .unset, .unset, .unset, .unset, .unset] [])) (fun t k => XS.istore X14.here hx rfl (hb hby at_80) rfl (l' := #[.val (.int p0), .val (.int p1), .val (.int p2), .val (.long q3), .second, .val (.long q4), .second, .val (.long q5), .second, .val (.int nn), .val (.int pl), .val (.int fr), .val (.ref b1), .val (.ref o9), .val (.int (((((fx (fr + (own_w pl))).toUInt64 >>> ((own_s pl) &&& 0x3f).toInt64.toUInt64).toInt64) &&& (1 : Int64)).toInt32)), .val (.int (0 : Int32)), .unset, .unset, .unset, .unset, .unset, .unset]) rfl k) ?_
    refine Go.to (g' := (mkF m 84 #[.val (.int p0), .val (.int p1), .val (.int p2), .val (.long q3), .second, .val (.long q4), .second, .val (.long q5), .second, .val (.int nn), .val (.int pl), .val (.int fr), .val (.ref b1), .val (.ref o9), .val (.int (((((fx (fr + (own_w pl))).toUInt64 >>> ((own_s pl) &&& 0x3f).toInt64.toUInt64).toInt64) &&& (1 : Int64)).toInt32)), .val (.int (0 : Int32)), .unset, .unset, .unset, .unset, .unset, .unset] [(.int pl)])) (fun t k => XS.iload X14.here hx rfl (hb hby at_82) rfl k) ?_
    refine Go.to (g' := (mkF m 86 #[.val (.int p0), .val (.int p1), .val (.int p2), .val (.long q3), .second, .val (.long q4), .second, .val (.long q5), .second, .val (.int nn), .val (.int pl), .val (.int fr), .val (.ref b1), .val (.ref o9), .val (.int (((((fx (fr + (own_w pl))).toUInt64 >>> ((own_s pl) &&& 0x3f).toInt64.toUInt64).toInt64) &&& (1 : Int64)).toInt32)), .val (.int (0 : Int32)), .unset, .unset, .unset, .unset, .unset, .unset] [(.int (64 : Int32)), (.int pl)])) (fun t k => XS.bipush X14.here hx rfl (hb hby at_84) k) ?_
    refine Go.to (g' := (mkF m 89 #[.val (.int p0), .val (.int p1), .val (.int p2), .val (.long q3), .second, .val (.long q4), .second, .val (.long q5), .second, .val (.int nn), .val (.int pl), .val (.int fr), .val (.ref b1), .val (.ref o9), .val (.int (((((fx (fr + (own_w pl))).toUInt64 >>> ((own_s pl) &&& 0x3f).toInt64.toUInt64).toInt64) &&& (1 : Int64)).toInt32)), .val (.int (0 : Int32)), .unset, .unset, .unset, .unset, .unset, .unset] [])) (fun t k => XS.icmpNo X14.here hx rfl (hb hby at_86) rfl (tlt c15).2.1 k) ?_
    refine Go.to (g' := (mkF m 91 #[.val (.int p0), .val (.int p1), .val (.int p2), .val (.long q3), .second, .val (.long q4), .second, .val (.long q5), .second, .val (.int nn), .val (.int pl), .val (.int fr), .val (.ref b1), .val (.ref o9), .val (.int (((((fx (fr + (own_w pl))).toUInt64 >>> ((own_s pl) &&& 0x3f).toInt64.toUInt64).toInt64) &&& (1 : Int64)).toInt32)), .val (.int (0 : Int32)), .unset, .unset, .unset, .unset, .unset, .unset] [(.int pl)])) (fun t k => XS.iload X14.here hx rfl (hb hby at_89) rfl k) ?_
    refine Go.to (g' := (mkF m 99 #[.val (.int p0), .val (.int p1), .val (.int p2), .val (.long q3), .second, .val (.long q4), .second, .val (.long q5), .second, .val (.int nn), .val (.int pl), .val (.int fr), .val (.ref b1), .val (.ref o9), .val (.int (((((fx (fr + (own_w pl))).toUInt64 >>> ((own_s pl) &&& 0x3f).toInt64.toUInt64).toInt64) &&& (1 : Int64)).toInt32)), .val (.int (0 : Int32)), .unset, .unset, .unset, .unset, .unset, .unset] [(.int pl)])) (fun t k => XS.goto X14.here hx rfl (pc0 := 91) (pc' := 99) rfl (hb hby at_91) (by decide) (by decide) k) ?_
    refine Go.to (g' := (mkF m 101 #[.val (.int p0), .val (.int p1), .val (.int p2), .val (.long q3), .second, .val (.long q4), .second, .val (.long q5), .second, .val (.int nn), .val (.int pl), .val (.int fr), .val (.ref b1), .val (.ref o9), .val (.int (((((fx (fr + (own_w pl))).toUInt64 >>> ((own_s pl) &&& 0x3f).toInt64.toUInt64).toInt64) &&& (1 : Int64)).toInt32)), .val (.int (0 : Int32)), .val (.int pl), .unset, .unset, .unset, .unset, .unset] [])) (fun t k => XS.istore X14.here hx rfl (hb hby at_99) rfl (l' := #[.val (.int p0), .val (.int p1), .val (.int p2), .val (.long q3), .second, .val (.long q4), .second, .val (.long q5), .second, .val (.int nn), .val (.int pl), .val (.int fr), .val (.ref b1), .val (.ref o9), .val (.int (((((fx (fr + (own_w pl))).toUInt64 >>> ((own_s pl) &&& 0x3f).toInt64.toUInt64).toInt64) &&& (1 : Int64)).toInt32)), .val (.int (0 : Int32)), .val (.int pl), .unset, .unset, .unset, .unset, .unset]) rfl k) ?_
    refine Go.to (g' := (mkF m 103 #[.val (.int p0), .val (.int p1), .val (.int p2), .val (.long q3), .second, .val (.long q4), .second, .val (.long q5), .second, .val (.int nn), .val (.int pl), .val (.int fr), .val (.ref b1), .val (.ref o9), .val (.int (((((fx (fr + (own_w pl))).toUInt64 >>> ((own_s pl) &&& 0x3f).toInt64.toUInt64).toInt64) &&& (1 : Int64)).toInt32)), .val (.int (0 : Int32)), .val (.int pl), .unset, .unset, .unset, .unset, .unset] [(.ref b1)])) (fun t k => XS.aload X14.here hx rfl (hb hby at_101) rfl rfl k) ?_
    refine Go.to (g' := (mkF m 105 #[.val (.int p0), .val (.int p1), .val (.int p2), .val (.long q3), .second, .val (.long q4), .second, .val (.long q5), .second, .val (.int nn), .val (.int pl), .val (.int fr), .val (.ref b1), .val (.ref o9), .val (.int (((((fx (fr + (own_w pl))).toUInt64 >>> ((own_s pl) &&& 0x3f).toInt64.toUInt64).toInt64) &&& (1 : Int64)).toInt32)), .val (.int (0 : Int32)), .val (.int pl), .unset, .unset, .unset, .unset, .unset] [(.int fr), (.ref b1)])) (fun t k => XS.iload X14.here hx rfl (hb hby at_103) rfl k) ?_
    refine Go.to (g' := (mkF m 107 #[.val (.int p0), .val (.int p1), .val (.int p2), .val (.long q3), .second, .val (.long q4), .second, .val (.long q5), .second, .val (.int nn), .val (.int pl), .val (.int fr), .val (.ref b1), .val (.ref o9), .val (.int (((((fx (fr + (own_w pl))).toUInt64 >>> ((own_s pl) &&& 0x3f).toInt64.toUInt64).toInt64) &&& (1 : Int64)).toInt32)), .val (.int (0 : Int32)), .val (.int pl), .unset, .unset, .unset, .unset, .unset] [(.int (0 : Int32)), (.int fr), (.ref b1)])) (fun t k => XS.iload X14.here hx rfl (hb hby at_105) rfl k) ?_
    refine Go.to (g' := (mkF m 108 #[.val (.int p0), .val (.int p1), .val (.int p2), .val (.long q3), .second, .val (.long q4), .second, .val (.long q5), .second, .val (.int nn), .val (.int pl), .val (.int fr), .val (.ref b1), .val (.ref o9), .val (.int (((((fx (fr + (own_w pl))).toUInt64 >>> ((own_s pl) &&& 0x3f).toInt64.toUInt64).toInt64) &&& (1 : Int64)).toInt32)), .val (.int (0 : Int32)), .val (.int pl), .unset, .unset, .unset, .unset, .unset] [(.int (fr + (0 : Int32))), (.ref b1)])) (fun t k => XS.iadd X14.here hx rfl (hb hby at_107) rfl k) ?_
    obtain ⟨cl16, Ar16, Sz16, Mz16, Hf16⟩ := id f12
    refine Go.to (g' := (mkF m 109 #[.val (.int p0), .val (.int p1), .val (.int p2), .val (.long q3), .second, .val (.long q4), .second, .val (.long q5), .second, .val (.int nn), .val (.int pl), .val (.int fr), .val (.ref b1), .val (.ref o9), .val (.int (((((fx (fr + (own_w pl))).toUInt64 >>> ((own_s pl) &&& 0x3f).toInt64.toUInt64).toInt64) &&& (1 : Int64)).toInt32)), .val (.int (0 : Int32)), .val (.int pl), .unset, .unset, .unset, .unset, .unset] [(.long (fx (fr + (0 : Int32))))])) (fun t k => X14.laload hx (j := (fr + (0 : Int32))) (v := (.long (fx (fr + (0 : Int32))))) (by rw [e14]; exact Ar16.1) (State.isArrayOf_alike hZ.alike Ar16.2.1) Ar16.2.2 (inb_of Sz16 ⟨(by have := (own_fi pl hf1 hf2).1; rw [(own_w0 c15)] at this; exact this), (by have := (own_fi pl hf1 hf2).2; rw [(own_w0 c15)] at this; exact this)⟩) (Hf16 _ (by have := (own_fi pl hf1 hf2).1; rw [(own_w0 c15)] at this; exact this) (by have := (own_fi pl hf1 hf2).2; rw [(own_w0 c15)] at this; exact this)) (g := (mkF m 108 #[.val (.int p0), .val (.int p1), .val (.int p2), .val (.long q3), .second, .val (.long q4), .second, .val (.long q5), .second, .val (.int nn), .val (.int pl), .val (.int fr), .val (.ref b1), .val (.ref o9), .val (.int (((((fx (fr + (own_w pl))).toUInt64 >>> ((own_s pl) &&& 0x3f).toInt64.toUInt64).toInt64) &&& (1 : Int64)).toInt32)), .val (.int (0 : Int32)), .val (.int pl), .unset, .unset, .unset, .unset, .unset] [(.int (fr + (0 : Int32))), (.ref b1)])) rfl rfl (hb hby at_108) _ k) ?_
    refine Go.to (g' := (mkF m 111 #[.val (.int p0), .val (.int p1), .val (.int p2), .val (.long q3), .second, .val (.long q4), .second, .val (.long q5), .second, .val (.int nn), .val (.int pl), .val (.int fr), .val (.ref b1), .val (.ref o9), .val (.int (((((fx (fr + (own_w pl))).toUInt64 >>> ((own_s pl) &&& 0x3f).toInt64.toUInt64).toInt64) &&& (1 : Int64)).toInt32)), .val (.int (0 : Int32)), .val (.int pl), .val (.long (fx (fr + (0 : Int32)))), .second, .unset, .unset, .unset] [])) (fun t k => XS.lstore X14.here hx rfl (hb hby at_109) rfl (l' := #[.val (.int p0), .val (.int p1), .val (.int p2), .val (.long q3), .second, .val (.long q4), .second, .val (.long q5), .second, .val (.int nn), .val (.int pl), .val (.int fr), .val (.ref b1), .val (.ref o9), .val (.int (((((fx (fr + (own_w pl))).toUInt64 >>> ((own_s pl) &&& 0x3f).toInt64.toUInt64).toInt64) &&& (1 : Int64)).toInt32)), .val (.int (0 : Int32)), .val (.int pl), .val (.long (fx (fr + (0 : Int32)))), .second, .unset, .unset, .unset]) rfl k) ?_
    refine Go.to (g' := (mkF m 112 #[.val (.int p0), .val (.int p1), .val (.int p2), .val (.long q3), .second, .val (.long q4), .second, .val (.long q5), .second, .val (.int nn), .val (.int pl), .val (.int fr), .val (.ref b1), .val (.ref o9), .val (.int (((((fx (fr + (own_w pl))).toUInt64 >>> ((own_s pl) &&& 0x3f).toInt64.toUInt64).toInt64) &&& (1 : Int64)).toInt32)), .val (.int (0 : Int32)), .val (.int pl), .val (.long (fx (fr + (0 : Int32)))), .second, .unset, .unset, .unset] [(.long (1 : Int64))])) (fun t k => XS.lconst X14.here hx rfl (hb hby at_111) k) ?_
    refine Go.to (g' := (mkF m 114 #[.val (.int p0), .val (.int p1), .val (.int p2), .val (.long q3), .second, .val (.long q4), .second, .val (.long q5), .second, .val (.int nn), .val (.int pl), .val (.int fr), .val (.ref b1), .val (.ref o9), .val (.int (((((fx (fr + (own_w pl))).toUInt64 >>> ((own_s pl) &&& 0x3f).toInt64.toUInt64).toInt64) &&& (1 : Int64)).toInt32)), .val (.int (0 : Int32)), .val (.int pl), .val (.long (fx (fr + (0 : Int32)))), .second, .unset, .unset, .unset] [(.int pl), (.long (1 : Int64))])) (fun t k => XS.iload X14.here hx rfl (hb hby at_112) rfl k) ?_
    refine Go.to (g' := (mkF m 115 #[.val (.int p0), .val (.int p1), .val (.int p2), .val (.long q3), .second, .val (.long q4), .second, .val (.long q5), .second, .val (.int nn), .val (.int pl), .val (.int fr), .val (.ref b1), .val (.ref o9), .val (.int (((((fx (fr + (own_w pl))).toUInt64 >>> ((own_s pl) &&& 0x3f).toInt64.toUInt64).toInt64) &&& (1 : Int64)).toInt32)), .val (.int (0 : Int32)), .val (.int pl), .val (.long (fx (fr + (0 : Int32)))), .second, .unset, .unset, .unset] [(.long ((1 : Int64) <<< (pl &&& 0x3f).toInt64))])) (fun t k => XS.lshl X14.here hx rfl (hb hby at_114) rfl k) ?_
    refine Go.to (g' := (mkF m 117 #[.val (.int p0), .val (.int p1), .val (.int p2), .val (.long q3), .second, .val (.long q4), .second, .val (.long q5), .second, .val (.int nn), .val (.int pl), .val (.int fr), .val (.ref b1), .val (.ref o9), .val (.int (((((fx (fr + (own_w pl))).toUInt64 >>> ((own_s pl) &&& 0x3f).toInt64.toUInt64).toInt64) &&& (1 : Int64)).toInt32)), .val (.int (0 : Int32)), .val (.int pl), .val (.long (fx (fr + (0 : Int32)))), .second, .val (.long ((1 : Int64) <<< (pl &&& 0x3f).toInt64)), .second, .unset] [])) (fun t k => XS.lstore X14.here hx rfl (hb hby at_115) rfl (l' := #[.val (.int p0), .val (.int p1), .val (.int p2), .val (.long q3), .second, .val (.long q4), .second, .val (.long q5), .second, .val (.int nn), .val (.int pl), .val (.int fr), .val (.ref b1), .val (.ref o9), .val (.int (((((fx (fr + (own_w pl))).toUInt64 >>> ((own_s pl) &&& 0x3f).toInt64.toUInt64).toInt64) &&& (1 : Int64)).toInt32)), .val (.int (0 : Int32)), .val (.int pl), .val (.long (fx (fr + (0 : Int32)))), .second, .val (.long ((1 : Int64) <<< (pl &&& 0x3f).toInt64)), .second, .unset]) rfl k) ?_
    refine Go.to (g' := (mkF m 119 #[.val (.int p0), .val (.int p1), .val (.int p2), .val (.long q3), .second, .val (.long q4), .second, .val (.long q5), .second, .val (.int nn), .val (.int pl), .val (.int fr), .val (.ref b1), .val (.ref o9), .val (.int (((((fx (fr + (own_w pl))).toUInt64 >>> ((own_s pl) &&& 0x3f).toInt64.toUInt64).toInt64) &&& (1 : Int64)).toInt32)), .val (.int (0 : Int32)), .val (.int pl), .val (.long (fx (fr + (0 : Int32)))), .second, .val (.long ((1 : Int64) <<< (pl &&& 0x3f).toInt64)), .second, .unset] [(.long (fx (fr + (0 : Int32))))])) (fun t k => XS.lload X14.here hx rfl (hb hby at_117) rfl k) ?_
    refine Go.to (g' := (mkF m 121 #[.val (.int p0), .val (.int p1), .val (.int p2), .val (.long q3), .second, .val (.long q4), .second, .val (.long q5), .second, .val (.int nn), .val (.int pl), .val (.int fr), .val (.ref b1), .val (.ref o9), .val (.int (((((fx (fr + (own_w pl))).toUInt64 >>> ((own_s pl) &&& 0x3f).toInt64.toUInt64).toInt64) &&& (1 : Int64)).toInt32)), .val (.int (0 : Int32)), .val (.int pl), .val (.long (fx (fr + (0 : Int32)))), .second, .val (.long ((1 : Int64) <<< (pl &&& 0x3f).toInt64)), .second, .unset] [(.long ((1 : Int64) <<< (pl &&& 0x3f).toInt64)), (.long (fx (fr + (0 : Int32))))])) (fun t k => XS.lload X14.here hx rfl (hb hby at_119) rfl k) ?_
    refine Go.to (g' := (mkF m 122 #[.val (.int p0), .val (.int p1), .val (.int p2), .val (.long q3), .second, .val (.long q4), .second, .val (.long q5), .second, .val (.int nn), .val (.int pl), .val (.int fr), .val (.ref b1), .val (.ref o9), .val (.int (((((fx (fr + (own_w pl))).toUInt64 >>> ((own_s pl) &&& 0x3f).toInt64.toUInt64).toInt64) &&& (1 : Int64)).toInt32)), .val (.int (0 : Int32)), .val (.int pl), .val (.long (fx (fr + (0 : Int32)))), .second, .val (.long ((1 : Int64) <<< (pl &&& 0x3f).toInt64)), .second, .unset] [(.long ((fx (fr + (0 : Int32))) &&& ((1 : Int64) <<< (pl &&& 0x3f).toInt64)))])) (fun t k => XS.land X14.here hx rfl (hb hby at_121) rfl k) ?_
    refine Go.to (g' := (mkF m 123 #[.val (.int p0), .val (.int p1), .val (.int p2), .val (.long q3), .second, .val (.long q4), .second, .val (.long q5), .second, .val (.int nn), .val (.int pl), .val (.int fr), .val (.ref b1), .val (.ref o9), .val (.int (((((fx (fr + (own_w pl))).toUInt64 >>> ((own_s pl) &&& 0x3f).toInt64.toUInt64).toInt64) &&& (1 : Int64)).toInt32)), .val (.int (0 : Int32)), .val (.int pl), .val (.long (fx (fr + (0 : Int32)))), .second, .val (.long ((1 : Int64) <<< (pl &&& 0x3f).toInt64)), .second, .unset] [(.long (0 : Int64)), (.long ((fx (fr + (0 : Int32))) &&& ((1 : Int64) <<< (pl &&& 0x3f).toInt64)))])) (fun t k => XS.lconst X14.here hx rfl (hb hby at_122) k) ?_
    refine Go.to (g' := (mkF m 124 #[.val (.int p0), .val (.int p1), .val (.int p2), .val (.long q3), .second, .val (.long q4), .second, .val (.long q5), .second, .val (.int nn), .val (.int pl), .val (.int fr), .val (.ref b1), .val (.ref o9), .val (.int (((((fx (fr + (own_w pl))).toUInt64 >>> ((own_s pl) &&& 0x3f).toInt64.toUInt64).toInt64) &&& (1 : Int64)).toInt32)), .val (.int (0 : Int32)), .val (.int pl), .val (.long (fx (fr + (0 : Int32)))), .second, .val (.long ((1 : Int64) <<< (pl &&& 0x3f).toInt64)), .second, .unset] [(.int (lcmpW ((fx (fr + (0 : Int32))) &&& ((1 : Int64) <<< (pl &&& 0x3f).toInt64)) (0 : Int64)))])) (fun t k => XS.lcmp X14.here hx rfl (hb hby at_123) rfl k) ?_
    by_cases c17 : ((fx (fr + (0 : Int32))) &&& ((1 : Int64) <<< (pl &&& 0x3f).toInt64)) = (0 : Int64)
    · refine Go.to (g' := (mkF m 131 #[.val (.int p0), .val (.int p1), .val (.int p2), .val (.long q3), .second, .val (.long q4), .second, .val (.long q5), .second, .val (.int nn), .val (.int pl), .val (.int fr), .val (.ref b1), .val (.ref o9), .val (.int (((((fx (fr + (own_w pl))).toUInt64 >>> ((own_s pl) &&& 0x3f).toInt64.toUInt64).toInt64) &&& (1 : Int64)).toInt32)), .val (.int (0 : Int32)), .val (.int pl), .val (.long (fx (fr + (0 : Int32)))), .second, .val (.long ((1 : Int64) <<< (pl &&& 0x3f).toInt64)), .second, .unset] [])) (fun t k => XS.ifYes X14.here hx rfl (pc0 := 124) (pc' := 131) rfl (hb hby at_124) rfl ((if0 _ _).trans (teq ((lw_eq ((fx (fr + (0 : Int32))) &&& ((1 : Int64) <<< (pl &&& 0x3f).toInt64)) (0 : Int64)).mpr c17)).1) (by decide) (by decide) k) ?_
      refine Go.to (g' := (mkF m 132 #[.val (.int p0), .val (.int p1), .val (.int p2), .val (.long q3), .second, .val (.long q4), .second, .val (.long q5), .second, .val (.int nn), .val (.int pl), .val (.int fr), .val (.ref b1), .val (.ref o9), .val (.int (((((fx (fr + (own_w pl))).toUInt64 >>> ((own_s pl) &&& 0x3f).toInt64.toUInt64).toInt64) &&& (1 : Int64)).toInt32)), .val (.int (0 : Int32)), .val (.int pl), .val (.long (fx (fr + (0 : Int32)))), .second, .val (.long ((1 : Int64) <<< (pl &&& 0x3f).toInt64)), .second, .unset] [(.int (0 : Int32))])) (fun t k => XS.iconst X14.here hx rfl (hb hby at_131) k) ?_
      refine Go.to (g' := (mkF m 134 #[.val (.int p0), .val (.int p1), .val (.int p2), .val (.long q3), .second, .val (.long q4), .second, .val (.long q5), .second, .val (.int nn), .val (.int pl), .val (.int fr), .val (.ref b1), .val (.ref o9), .val (.int (((((fx (fr + (own_w pl))).toUInt64 >>> ((own_s pl) &&& 0x3f).toInt64.toUInt64).toInt64) &&& (1 : Int64)).toInt32)), .val (.int (0 : Int32)), .val (.int pl), .val (.long (fx (fr + (0 : Int32)))), .second, .val (.long ((1 : Int64) <<< (pl &&& 0x3f).toInt64)), .second, .val (.int (0 : Int32))] [])) (fun t k => XS.istore X14.here hx rfl (hb hby at_132) rfl (l' := #[.val (.int p0), .val (.int p1), .val (.int p2), .val (.long q3), .second, .val (.long q4), .second, .val (.long q5), .second, .val (.int nn), .val (.int pl), .val (.int fr), .val (.ref b1), .val (.ref o9), .val (.int (((((fx (fr + (own_w pl))).toUInt64 >>> ((own_s pl) &&& 0x3f).toInt64.toUInt64).toInt64) &&& (1 : Int64)).toInt32)), .val (.int (0 : Int32)), .val (.int pl), .val (.long (fx (fr + (0 : Int32)))), .second, .val (.long ((1 : Int64) <<< (pl &&& 0x3f).toInt64)), .second, .val (.int (0 : Int32))]) rfl k) ?_
      refine Go.to (g' := (mkF m 136 #[.val (.int p0), .val (.int p1), .val (.int p2), .val (.long q3), .second, .val (.long q4), .second, .val (.long q5), .second, .val (.int nn), .val (.int pl), .val (.int fr), .val (.ref b1), .val (.ref o9), .val (.int (((((fx (fr + (own_w pl))).toUInt64 >>> ((own_s pl) &&& 0x3f).toInt64.toUInt64).toInt64) &&& (1 : Int64)).toInt32)), .val (.int (0 : Int32)), .val (.int pl), .val (.long (fx (fr + (0 : Int32)))), .second, .val (.long ((1 : Int64) <<< (pl &&& 0x3f).toInt64)), .second, .val (.int (0 : Int32))] [(.int (((((fx (fr + (own_w pl))).toUInt64 >>> ((own_s pl) &&& 0x3f).toInt64.toUInt64).toInt64) &&& (1 : Int64)).toInt32))])) (fun t k => XS.iload X14.here hx rfl (hb hby at_134) rfl k) ?_
      refine Go.to (g' := (mkF m 138 #[.val (.int p0), .val (.int p1), .val (.int p2), .val (.long q3), .second, .val (.long q4), .second, .val (.long q5), .second, .val (.int nn), .val (.int pl), .val (.int fr), .val (.ref b1), .val (.ref o9), .val (.int (((((fx (fr + (own_w pl))).toUInt64 >>> ((own_s pl) &&& 0x3f).toInt64.toUInt64).toInt64) &&& (1 : Int64)).toInt32)), .val (.int (0 : Int32)), .val (.int pl), .val (.long (fx (fr + (0 : Int32)))), .second, .val (.long ((1 : Int64) <<< (pl &&& 0x3f).toInt64)), .second, .val (.int (0 : Int32))] [(.int (0 : Int32)), (.int (((((fx (fr + (own_w pl))).toUInt64 >>> ((own_s pl) &&& 0x3f).toInt64.toUInt64).toInt64) &&& (1 : Int64)).toInt32))])) (fun t k => XS.iload X14.here hx rfl (hb hby at_136) rfl k) ?_
      refine Go.to (g' := (mkF m 141 #[.val (.int p0), .val (.int p1), .val (.int p2), .val (.long q3), .second, .val (.long q4), .second, .val (.long q5), .second, .val (.int nn), .val (.int pl), .val (.int fr), .val (.ref b1), .val (.ref o9), .val (.int (((((fx (fr + (own_w pl))).toUInt64 >>> ((own_s pl) &&& 0x3f).toInt64.toUInt64).toInt64) &&& (1 : Int64)).toInt32)), .val (.int (0 : Int32)), .val (.int pl), .val (.long (fx (fr + (0 : Int32)))), .second, .val (.long ((1 : Int64) <<< (pl &&& 0x3f).toInt64)), .second, .val (.int (0 : Int32))] [])) (fun t k => XS.icmpNo X14.here hx rfl (hb hby at_138) rfl (teq (by rw [own_w0 c15, own_s0 c15]; exact own_tk0 c17)).2 k) ?_
      refine Go.to (g' := (mkF m 142 #[.val (.int p0), .val (.int p1), .val (.int p2), .val (.long q3), .second, .val (.long q4), .second, .val (.long q5), .second, .val (.int nn), .val (.int pl), .val (.int fr), .val (.ref b1), .val (.ref o9), .val (.int (((((fx (fr + (own_w pl))).toUInt64 >>> ((own_s pl) &&& 0x3f).toInt64.toUInt64).toInt64) &&& (1 : Int64)).toInt32)), .val (.int (0 : Int32)), .val (.int pl), .val (.long (fx (fr + (0 : Int32)))), .second, .val (.long ((1 : Int64) <<< (pl &&& 0x3f).toInt64)), .second, .val (.int (0 : Int32))] [(.int (1 : Int32))])) (fun t k => XS.iconst X14.here hx rfl (hb hby at_141) k) ?_
      refine Go.to (g' := (mkF m 146 #[.val (.int p0), .val (.int p1), .val (.int p2), .val (.long q3), .second, .val (.long q4), .second, .val (.long q5), .second, .val (.int nn), .val (.int pl), .val (.int fr), .val (.ref b1), .val (.ref o9), .val (.int (((((fx (fr + (own_w pl))).toUInt64 >>> ((own_s pl) &&& 0x3f).toInt64.toUInt64).toInt64) &&& (1 : Int64)).toInt32)), .val (.int (0 : Int32)), .val (.int pl), .val (.long (fx (fr + (0 : Int32)))), .second, .val (.long ((1 : Int64) <<< (pl &&& 0x3f).toInt64)), .second, .val (.int (0 : Int32))] [(.int (1 : Int32))])) (fun t k => XS.goto X14.here hx rfl (pc0 := 142) (pc' := 146) rfl (hb hby at_142) (by decide) (by decide) k) ?_
      exact Go.retN X14 hx (t := .boolean) Bd.returns Bd.notSynchronized (by simp) (hb hby at_146) (by decide) (by decide) e14 ⟨rfl, N14⟩
    · refine Go.to (g' := (mkF m 127 #[.val (.int p0), .val (.int p1), .val (.int p2), .val (.long q3), .second, .val (.long q4), .second, .val (.long q5), .second, .val (.int nn), .val (.int pl), .val (.int fr), .val (.ref b1), .val (.ref o9), .val (.int (((((fx (fr + (own_w pl))).toUInt64 >>> ((own_s pl) &&& 0x3f).toInt64.toUInt64).toInt64) &&& (1 : Int64)).toInt32)), .val (.int (0 : Int32)), .val (.int pl), .val (.long (fx (fr + (0 : Int32)))), .second, .val (.long ((1 : Int64) <<< (pl &&& 0x3f).toInt64)), .second, .unset] [])) (fun t k => XS.ifNo X14.here hx rfl (hb hby at_124) rfl ((if0 _ _).trans (feq (fun q => c17 ((lw_eq ((fx (fr + (0 : Int32))) &&& ((1 : Int64) <<< (pl &&& 0x3f).toInt64)) (0 : Int64)).mp q))).1) k) ?_
      refine Go.to (g' := (mkF m 128 #[.val (.int p0), .val (.int p1), .val (.int p2), .val (.long q3), .second, .val (.long q4), .second, .val (.long q5), .second, .val (.int nn), .val (.int pl), .val (.int fr), .val (.ref b1), .val (.ref o9), .val (.int (((((fx (fr + (own_w pl))).toUInt64 >>> ((own_s pl) &&& 0x3f).toInt64.toUInt64).toInt64) &&& (1 : Int64)).toInt32)), .val (.int (0 : Int32)), .val (.int pl), .val (.long (fx (fr + (0 : Int32)))), .second, .val (.long ((1 : Int64) <<< (pl &&& 0x3f).toInt64)), .second, .unset] [(.int (1 : Int32))])) (fun t k => XS.iconst X14.here hx rfl (hb hby at_127) k) ?_
      refine Go.to (g' := (mkF m 132 #[.val (.int p0), .val (.int p1), .val (.int p2), .val (.long q3), .second, .val (.long q4), .second, .val (.long q5), .second, .val (.int nn), .val (.int pl), .val (.int fr), .val (.ref b1), .val (.ref o9), .val (.int (((((fx (fr + (own_w pl))).toUInt64 >>> ((own_s pl) &&& 0x3f).toInt64.toUInt64).toInt64) &&& (1 : Int64)).toInt32)), .val (.int (0 : Int32)), .val (.int pl), .val (.long (fx (fr + (0 : Int32)))), .second, .val (.long ((1 : Int64) <<< (pl &&& 0x3f).toInt64)), .second, .unset] [(.int (1 : Int32))])) (fun t k => XS.goto X14.here hx rfl (pc0 := 128) (pc' := 132) rfl (hb hby at_128) (by decide) (by decide) k) ?_
      refine Go.to (g' := (mkF m 134 #[.val (.int p0), .val (.int p1), .val (.int p2), .val (.long q3), .second, .val (.long q4), .second, .val (.long q5), .second, .val (.int nn), .val (.int pl), .val (.int fr), .val (.ref b1), .val (.ref o9), .val (.int (((((fx (fr + (own_w pl))).toUInt64 >>> ((own_s pl) &&& 0x3f).toInt64.toUInt64).toInt64) &&& (1 : Int64)).toInt32)), .val (.int (0 : Int32)), .val (.int pl), .val (.long (fx (fr + (0 : Int32)))), .second, .val (.long ((1 : Int64) <<< (pl &&& 0x3f).toInt64)), .second, .val (.int (1 : Int32))] [])) (fun t k => XS.istore X14.here hx rfl (hb hby at_132) rfl (l' := #[.val (.int p0), .val (.int p1), .val (.int p2), .val (.long q3), .second, .val (.long q4), .second, .val (.long q5), .second, .val (.int nn), .val (.int pl), .val (.int fr), .val (.ref b1), .val (.ref o9), .val (.int (((((fx (fr + (own_w pl))).toUInt64 >>> ((own_s pl) &&& 0x3f).toInt64.toUInt64).toInt64) &&& (1 : Int64)).toInt32)), .val (.int (0 : Int32)), .val (.int pl), .val (.long (fx (fr + (0 : Int32)))), .second, .val (.long ((1 : Int64) <<< (pl &&& 0x3f).toInt64)), .second, .val (.int (1 : Int32))]) rfl k) ?_
      refine Go.to (g' := (mkF m 136 #[.val (.int p0), .val (.int p1), .val (.int p2), .val (.long q3), .second, .val (.long q4), .second, .val (.long q5), .second, .val (.int nn), .val (.int pl), .val (.int fr), .val (.ref b1), .val (.ref o9), .val (.int (((((fx (fr + (own_w pl))).toUInt64 >>> ((own_s pl) &&& 0x3f).toInt64.toUInt64).toInt64) &&& (1 : Int64)).toInt32)), .val (.int (0 : Int32)), .val (.int pl), .val (.long (fx (fr + (0 : Int32)))), .second, .val (.long ((1 : Int64) <<< (pl &&& 0x3f).toInt64)), .second, .val (.int (1 : Int32))] [(.int (((((fx (fr + (own_w pl))).toUInt64 >>> ((own_s pl) &&& 0x3f).toInt64.toUInt64).toInt64) &&& (1 : Int64)).toInt32))])) (fun t k => XS.iload X14.here hx rfl (hb hby at_134) rfl k) ?_
      refine Go.to (g' := (mkF m 138 #[.val (.int p0), .val (.int p1), .val (.int p2), .val (.long q3), .second, .val (.long q4), .second, .val (.long q5), .second, .val (.int nn), .val (.int pl), .val (.int fr), .val (.ref b1), .val (.ref o9), .val (.int (((((fx (fr + (own_w pl))).toUInt64 >>> ((own_s pl) &&& 0x3f).toInt64.toUInt64).toInt64) &&& (1 : Int64)).toInt32)), .val (.int (0 : Int32)), .val (.int pl), .val (.long (fx (fr + (0 : Int32)))), .second, .val (.long ((1 : Int64) <<< (pl &&& 0x3f).toInt64)), .second, .val (.int (1 : Int32))] [(.int (1 : Int32)), (.int (((((fx (fr + (own_w pl))).toUInt64 >>> ((own_s pl) &&& 0x3f).toInt64.toUInt64).toInt64) &&& (1 : Int64)).toInt32))])) (fun t k => XS.iload X14.here hx rfl (hb hby at_136) rfl k) ?_
      refine Go.to (g' := (mkF m 141 #[.val (.int p0), .val (.int p1), .val (.int p2), .val (.long q3), .second, .val (.long q4), .second, .val (.long q5), .second, .val (.int nn), .val (.int pl), .val (.int fr), .val (.ref b1), .val (.ref o9), .val (.int (((((fx (fr + (own_w pl))).toUInt64 >>> ((own_s pl) &&& 0x3f).toInt64.toUInt64).toInt64) &&& (1 : Int64)).toInt32)), .val (.int (0 : Int32)), .val (.int pl), .val (.long (fx (fr + (0 : Int32)))), .second, .val (.long ((1 : Int64) <<< (pl &&& 0x3f).toInt64)), .second, .val (.int (1 : Int32))] [])) (fun t k => XS.icmpNo X14.here hx rfl (hb hby at_138) rfl (teq (by rw [own_w0 c15, own_s0 c15]; exact own_tk1 c17)).2 k) ?_
      refine Go.to (g' := (mkF m 142 #[.val (.int p0), .val (.int p1), .val (.int p2), .val (.long q3), .second, .val (.long q4), .second, .val (.long q5), .second, .val (.int nn), .val (.int pl), .val (.int fr), .val (.ref b1), .val (.ref o9), .val (.int (((((fx (fr + (own_w pl))).toUInt64 >>> ((own_s pl) &&& 0x3f).toInt64.toUInt64).toInt64) &&& (1 : Int64)).toInt32)), .val (.int (0 : Int32)), .val (.int pl), .val (.long (fx (fr + (0 : Int32)))), .second, .val (.long ((1 : Int64) <<< (pl &&& 0x3f).toInt64)), .second, .val (.int (1 : Int32))] [(.int (1 : Int32))])) (fun t k => XS.iconst X14.here hx rfl (hb hby at_141) k) ?_
      refine Go.to (g' := (mkF m 146 #[.val (.int p0), .val (.int p1), .val (.int p2), .val (.long q3), .second, .val (.long q4), .second, .val (.long q5), .second, .val (.int nn), .val (.int pl), .val (.int fr), .val (.ref b1), .val (.ref o9), .val (.int (((((fx (fr + (own_w pl))).toUInt64 >>> ((own_s pl) &&& 0x3f).toInt64.toUInt64).toInt64) &&& (1 : Int64)).toInt32)), .val (.int (0 : Int32)), .val (.int pl), .val (.long (fx (fr + (0 : Int32)))), .second, .val (.long ((1 : Int64) <<< (pl &&& 0x3f).toInt64)), .second, .val (.int (1 : Int32))] [(.int (1 : Int32))])) (fun t k => XS.goto X14.here hx rfl (pc0 := 142) (pc' := 146) rfl (hb hby at_142) (by decide) (by decide) k) ?_
      exact Go.retN X14 hx (t := .boolean) Bd.returns Bd.notSynchronized (by simp) (hb hby at_146) (by decide) (by decide) e14 ⟨rfl, N14⟩
  · refine Go.to (g' := (mkF m 79 #[.val (.int p0), .val (.int p1), .val (.int p2), .val (.long q3), .second, .val (.long q4), .second, .val (.long q5), .second, .val (.int nn), .val (.int pl), .val (.int fr), .val (.ref b1), .val (.ref o9), .val (.int (((((fx (fr + (own_w pl))).toUInt64 >>> ((own_s pl) &&& 0x3f).toInt64.toUInt64).toInt64) &&& (1 : Int64)).toInt32)), .unset, .unset, .unset, .unset, .unset, .unset, .unset] [])) (fun t k => XS.icmpYes X14.here hx rfl (pc0 := 72) (pc' := 79) rfl (hb hby at_72) rfl (flt c15).2.1 (by decide) (by decide) k) ?_
    refine Go.to (g' := (mkF m 80 #[.val (.int p0), .val (.int p1), .val (.int p2), .val (.long q3), .second, .val (.long q4), .second, .val (.long q5), .second, .val (.int nn), .val (.int pl), .val (.int fr), .val (.ref b1), .val (.ref o9), .val (.int (((((fx (fr + (own_w pl))).toUInt64 >>> ((own_s pl) &&& 0x3f).toInt64.toUInt64).toInt64) &&& (1 : Int64)).toInt32)), .unset, .unset, .unset, .unset, .unset, .unset, .unset] [(.int (1 : Int32))])) (fun t k => XS.iconst X14.here hx rfl (hb hby at_79) k) ?_
    refine Go.to (g' := (mkF m 82 #[.val (.int p0), .val (.int p1), .val (.int p2), .val (.long q3), .second, .val (.long q4), .second, .val (.long q5), .second, .val (.int nn), .val (.int pl), .val (.int fr), .val (.ref b1), .val (.ref o9), .val (.int (((((fx (fr + (own_w pl))).toUInt64 >>> ((own_s pl) &&& 0x3f).toInt64.toUInt64).toInt64) &&& (1 : Int64)).toInt32)), .val (.int (1 : Int32)), .unset, .unset, .unset, .unset, .unset, .unset] [])) (fun t k => XS.istore X14.here hx rfl (hb hby at_80) rfl (l' := #[.val (.int p0), .val (.int p1), .val (.int p2), .val (.long q3), .second, .val (.long q4), .second, .val (.long q5), .second, .val (.int nn), .val (.int pl), .val (.int fr), .val (.ref b1), .val (.ref o9), .val (.int (((((fx (fr + (own_w pl))).toUInt64 >>> ((own_s pl) &&& 0x3f).toInt64.toUInt64).toInt64) &&& (1 : Int64)).toInt32)), .val (.int (1 : Int32)), .unset, .unset, .unset, .unset, .unset, .unset]) rfl k) ?_
    refine Go.to (g' := (mkF m 84 #[.val (.int p0), .val (.int p1), .val (.int p2), .val (.long q3), .second, .val (.long q4), .second, .val (.long q5), .second, .val (.int nn), .val (.int pl), .val (.int fr), .val (.ref b1), .val (.ref o9), .val (.int (((((fx (fr + (own_w pl))).toUInt64 >>> ((own_s pl) &&& 0x3f).toInt64.toUInt64).toInt64) &&& (1 : Int64)).toInt32)), .val (.int (1 : Int32)), .unset, .unset, .unset, .unset, .unset, .unset] [(.int pl)])) (fun t k => XS.iload X14.here hx rfl (hb hby at_82) rfl k) ?_
    refine Go.to (g' := (mkF m 86 #[.val (.int p0), .val (.int p1), .val (.int p2), .val (.long q3), .second, .val (.long q4), .second, .val (.long q5), .second, .val (.int nn), .val (.int pl), .val (.int fr), .val (.ref b1), .val (.ref o9), .val (.int (((((fx (fr + (own_w pl))).toUInt64 >>> ((own_s pl) &&& 0x3f).toInt64.toUInt64).toInt64) &&& (1 : Int64)).toInt32)), .val (.int (1 : Int32)), .unset, .unset, .unset, .unset, .unset, .unset] [(.int (64 : Int32)), (.int pl)])) (fun t k => XS.bipush X14.here hx rfl (hb hby at_84) k) ?_
    refine Go.to (g' := (mkF m 94 #[.val (.int p0), .val (.int p1), .val (.int p2), .val (.long q3), .second, .val (.long q4), .second, .val (.long q5), .second, .val (.int nn), .val (.int pl), .val (.int fr), .val (.ref b1), .val (.ref o9), .val (.int (((((fx (fr + (own_w pl))).toUInt64 >>> ((own_s pl) &&& 0x3f).toInt64.toUInt64).toInt64) &&& (1 : Int64)).toInt32)), .val (.int (1 : Int32)), .unset, .unset, .unset, .unset, .unset, .unset] [])) (fun t k => XS.icmpYes X14.here hx rfl (pc0 := 86) (pc' := 94) rfl (hb hby at_86) rfl (flt c15).2.1 (by decide) (by decide) k) ?_
    refine Go.to (g' := (mkF m 96 #[.val (.int p0), .val (.int p1), .val (.int p2), .val (.long q3), .second, .val (.long q4), .second, .val (.long q5), .second, .val (.int nn), .val (.int pl), .val (.int fr), .val (.ref b1), .val (.ref o9), .val (.int (((((fx (fr + (own_w pl))).toUInt64 >>> ((own_s pl) &&& 0x3f).toInt64.toUInt64).toInt64) &&& (1 : Int64)).toInt32)), .val (.int (1 : Int32)), .unset, .unset, .unset, .unset, .unset, .unset] [(.int pl)])) (fun t k => XS.iload X14.here hx rfl (hb hby at_94) rfl k) ?_
    refine Go.to (g' := (mkF m 98 #[.val (.int p0), .val (.int p1), .val (.int p2), .val (.long q3), .second, .val (.long q4), .second, .val (.long q5), .second, .val (.int nn), .val (.int pl), .val (.int fr), .val (.ref b1), .val (.ref o9), .val (.int (((((fx (fr + (own_w pl))).toUInt64 >>> ((own_s pl) &&& 0x3f).toInt64.toUInt64).toInt64) &&& (1 : Int64)).toInt32)), .val (.int (1 : Int32)), .unset, .unset, .unset, .unset, .unset, .unset] [(.int (64 : Int32)), (.int pl)])) (fun t k => XS.bipush X14.here hx rfl (hb hby at_96) k) ?_
    refine Go.to (g' := (mkF m 99 #[.val (.int p0), .val (.int p1), .val (.int p2), .val (.long q3), .second, .val (.long q4), .second, .val (.long q5), .second, .val (.int nn), .val (.int pl), .val (.int fr), .val (.ref b1), .val (.ref o9), .val (.int (((((fx (fr + (own_w pl))).toUInt64 >>> ((own_s pl) &&& 0x3f).toInt64.toUInt64).toInt64) &&& (1 : Int64)).toInt32)), .val (.int (1 : Int32)), .unset, .unset, .unset, .unset, .unset, .unset] [(.int (pl - (64 : Int32)))])) (fun t k => XS.isub X14.here hx rfl (hb hby at_98) rfl k) ?_
    refine Go.to (g' := (mkF m 101 #[.val (.int p0), .val (.int p1), .val (.int p2), .val (.long q3), .second, .val (.long q4), .second, .val (.long q5), .second, .val (.int nn), .val (.int pl), .val (.int fr), .val (.ref b1), .val (.ref o9), .val (.int (((((fx (fr + (own_w pl))).toUInt64 >>> ((own_s pl) &&& 0x3f).toInt64.toUInt64).toInt64) &&& (1 : Int64)).toInt32)), .val (.int (1 : Int32)), .val (.int (pl - (64 : Int32))), .unset, .unset, .unset, .unset, .unset] [])) (fun t k => XS.istore X14.here hx rfl (hb hby at_99) rfl (l' := #[.val (.int p0), .val (.int p1), .val (.int p2), .val (.long q3), .second, .val (.long q4), .second, .val (.long q5), .second, .val (.int nn), .val (.int pl), .val (.int fr), .val (.ref b1), .val (.ref o9), .val (.int (((((fx (fr + (own_w pl))).toUInt64 >>> ((own_s pl) &&& 0x3f).toInt64.toUInt64).toInt64) &&& (1 : Int64)).toInt32)), .val (.int (1 : Int32)), .val (.int (pl - (64 : Int32))), .unset, .unset, .unset, .unset, .unset]) rfl k) ?_
    refine Go.to (g' := (mkF m 103 #[.val (.int p0), .val (.int p1), .val (.int p2), .val (.long q3), .second, .val (.long q4), .second, .val (.long q5), .second, .val (.int nn), .val (.int pl), .val (.int fr), .val (.ref b1), .val (.ref o9), .val (.int (((((fx (fr + (own_w pl))).toUInt64 >>> ((own_s pl) &&& 0x3f).toInt64.toUInt64).toInt64) &&& (1 : Int64)).toInt32)), .val (.int (1 : Int32)), .val (.int (pl - (64 : Int32))), .unset, .unset, .unset, .unset, .unset] [(.ref b1)])) (fun t k => XS.aload X14.here hx rfl (hb hby at_101) rfl rfl k) ?_
    refine Go.to (g' := (mkF m 105 #[.val (.int p0), .val (.int p1), .val (.int p2), .val (.long q3), .second, .val (.long q4), .second, .val (.long q5), .second, .val (.int nn), .val (.int pl), .val (.int fr), .val (.ref b1), .val (.ref o9), .val (.int (((((fx (fr + (own_w pl))).toUInt64 >>> ((own_s pl) &&& 0x3f).toInt64.toUInt64).toInt64) &&& (1 : Int64)).toInt32)), .val (.int (1 : Int32)), .val (.int (pl - (64 : Int32))), .unset, .unset, .unset, .unset, .unset] [(.int fr), (.ref b1)])) (fun t k => XS.iload X14.here hx rfl (hb hby at_103) rfl k) ?_
    refine Go.to (g' := (mkF m 107 #[.val (.int p0), .val (.int p1), .val (.int p2), .val (.long q3), .second, .val (.long q4), .second, .val (.long q5), .second, .val (.int nn), .val (.int pl), .val (.int fr), .val (.ref b1), .val (.ref o9), .val (.int (((((fx (fr + (own_w pl))).toUInt64 >>> ((own_s pl) &&& 0x3f).toInt64.toUInt64).toInt64) &&& (1 : Int64)).toInt32)), .val (.int (1 : Int32)), .val (.int (pl - (64 : Int32))), .unset, .unset, .unset, .unset, .unset] [(.int (1 : Int32)), (.int fr), (.ref b1)])) (fun t k => XS.iload X14.here hx rfl (hb hby at_105) rfl k) ?_
    refine Go.to (g' := (mkF m 108 #[.val (.int p0), .val (.int p1), .val (.int p2), .val (.long q3), .second, .val (.long q4), .second, .val (.long q5), .second, .val (.int nn), .val (.int pl), .val (.int fr), .val (.ref b1), .val (.ref o9), .val (.int (((((fx (fr + (own_w pl))).toUInt64 >>> ((own_s pl) &&& 0x3f).toInt64.toUInt64).toInt64) &&& (1 : Int64)).toInt32)), .val (.int (1 : Int32)), .val (.int (pl - (64 : Int32))), .unset, .unset, .unset, .unset, .unset] [(.int (fr + (1 : Int32))), (.ref b1)])) (fun t k => XS.iadd X14.here hx rfl (hb hby at_107) rfl k) ?_
    obtain ⟨cl18, Ar18, Sz18, Mz18, Hf18⟩ := id f12
    refine Go.to (g' := (mkF m 109 #[.val (.int p0), .val (.int p1), .val (.int p2), .val (.long q3), .second, .val (.long q4), .second, .val (.long q5), .second, .val (.int nn), .val (.int pl), .val (.int fr), .val (.ref b1), .val (.ref o9), .val (.int (((((fx (fr + (own_w pl))).toUInt64 >>> ((own_s pl) &&& 0x3f).toInt64.toUInt64).toInt64) &&& (1 : Int64)).toInt32)), .val (.int (1 : Int32)), .val (.int (pl - (64 : Int32))), .unset, .unset, .unset, .unset, .unset] [(.long (fx (fr + (1 : Int32))))])) (fun t k => X14.laload hx (j := (fr + (1 : Int32))) (v := (.long (fx (fr + (1 : Int32))))) (by rw [e14]; exact Ar18.1) (State.isArrayOf_alike hZ.alike Ar18.2.1) Ar18.2.2 (inb_of Sz18 ⟨(by have := (own_fi pl hf1 hf2).1; rw [(own_w1 c15)] at this; exact this), (by have := (own_fi pl hf1 hf2).2; rw [(own_w1 c15)] at this; exact this)⟩) (Hf18 _ (by have := (own_fi pl hf1 hf2).1; rw [(own_w1 c15)] at this; exact this) (by have := (own_fi pl hf1 hf2).2; rw [(own_w1 c15)] at this; exact this)) (g := (mkF m 108 #[.val (.int p0), .val (.int p1), .val (.int p2), .val (.long q3), .second, .val (.long q4), .second, .val (.long q5), .second, .val (.int nn), .val (.int pl), .val (.int fr), .val (.ref b1), .val (.ref o9), .val (.int (((((fx (fr + (own_w pl))).toUInt64 >>> ((own_s pl) &&& 0x3f).toInt64.toUInt64).toInt64) &&& (1 : Int64)).toInt32)), .val (.int (1 : Int32)), .val (.int (pl - (64 : Int32))), .unset, .unset, .unset, .unset, .unset] [(.int (fr + (1 : Int32))), (.ref b1)])) rfl rfl (hb hby at_108) _ k) ?_
    refine Go.to (g' := (mkF m 111 #[.val (.int p0), .val (.int p1), .val (.int p2), .val (.long q3), .second, .val (.long q4), .second, .val (.long q5), .second, .val (.int nn), .val (.int pl), .val (.int fr), .val (.ref b1), .val (.ref o9), .val (.int (((((fx (fr + (own_w pl))).toUInt64 >>> ((own_s pl) &&& 0x3f).toInt64.toUInt64).toInt64) &&& (1 : Int64)).toInt32)), .val (.int (1 : Int32)), .val (.int (pl - (64 : Int32))), .val (.long (fx (fr + (1 : Int32)))), .second, .unset, .unset, .unset] [])) (fun t k => XS.lstore X14.here hx rfl (hb hby at_109) rfl (l' := #[.val (.int p0), .val (.int p1), .val (.int p2), .val (.long q3), .second, .val (.long q4), .second, .val (.long q5), .second, .val (.int nn), .val (.int pl), .val (.int fr), .val (.ref b1), .val (.ref o9), .val (.int (((((fx (fr + (own_w pl))).toUInt64 >>> ((own_s pl) &&& 0x3f).toInt64.toUInt64).toInt64) &&& (1 : Int64)).toInt32)), .val (.int (1 : Int32)), .val (.int (pl - (64 : Int32))), .val (.long (fx (fr + (1 : Int32)))), .second, .unset, .unset, .unset]) rfl k) ?_
    refine Go.to (g' := (mkF m 112 #[.val (.int p0), .val (.int p1), .val (.int p2), .val (.long q3), .second, .val (.long q4), .second, .val (.long q5), .second, .val (.int nn), .val (.int pl), .val (.int fr), .val (.ref b1), .val (.ref o9), .val (.int (((((fx (fr + (own_w pl))).toUInt64 >>> ((own_s pl) &&& 0x3f).toInt64.toUInt64).toInt64) &&& (1 : Int64)).toInt32)), .val (.int (1 : Int32)), .val (.int (pl - (64 : Int32))), .val (.long (fx (fr + (1 : Int32)))), .second, .unset, .unset, .unset] [(.long (1 : Int64))])) (fun t k => XS.lconst X14.here hx rfl (hb hby at_111) k) ?_
    refine Go.to (g' := (mkF m 114 #[.val (.int p0), .val (.int p1), .val (.int p2), .val (.long q3), .second, .val (.long q4), .second, .val (.long q5), .second, .val (.int nn), .val (.int pl), .val (.int fr), .val (.ref b1), .val (.ref o9), .val (.int (((((fx (fr + (own_w pl))).toUInt64 >>> ((own_s pl) &&& 0x3f).toInt64.toUInt64).toInt64) &&& (1 : Int64)).toInt32)), .val (.int (1 : Int32)), .val (.int (pl - (64 : Int32))), .val (.long (fx (fr + (1 : Int32)))), .second, .unset, .unset, .unset] [(.int (pl - (64 : Int32))), (.long (1 : Int64))])) (fun t k => XS.iload X14.here hx rfl (hb hby at_112) rfl k) ?_
    refine Go.to (g' := (mkF m 115 #[.val (.int p0), .val (.int p1), .val (.int p2), .val (.long q3), .second, .val (.long q4), .second, .val (.long q5), .second, .val (.int nn), .val (.int pl), .val (.int fr), .val (.ref b1), .val (.ref o9), .val (.int (((((fx (fr + (own_w pl))).toUInt64 >>> ((own_s pl) &&& 0x3f).toInt64.toUInt64).toInt64) &&& (1 : Int64)).toInt32)), .val (.int (1 : Int32)), .val (.int (pl - (64 : Int32))), .val (.long (fx (fr + (1 : Int32)))), .second, .unset, .unset, .unset] [(.long ((1 : Int64) <<< ((pl - (64 : Int32)) &&& 0x3f).toInt64))])) (fun t k => XS.lshl X14.here hx rfl (hb hby at_114) rfl k) ?_
    refine Go.to (g' := (mkF m 117 #[.val (.int p0), .val (.int p1), .val (.int p2), .val (.long q3), .second, .val (.long q4), .second, .val (.long q5), .second, .val (.int nn), .val (.int pl), .val (.int fr), .val (.ref b1), .val (.ref o9), .val (.int (((((fx (fr + (own_w pl))).toUInt64 >>> ((own_s pl) &&& 0x3f).toInt64.toUInt64).toInt64) &&& (1 : Int64)).toInt32)), .val (.int (1 : Int32)), .val (.int (pl - (64 : Int32))), .val (.long (fx (fr + (1 : Int32)))), .second, .val (.long ((1 : Int64) <<< ((pl - (64 : Int32)) &&& 0x3f).toInt64)), .second, .unset] [])) (fun t k => XS.lstore X14.here hx rfl (hb hby at_115) rfl (l' := #[.val (.int p0), .val (.int p1), .val (.int p2), .val (.long q3), .second, .val (.long q4), .second, .val (.long q5), .second, .val (.int nn), .val (.int pl), .val (.int fr), .val (.ref b1), .val (.ref o9), .val (.int (((((fx (fr + (own_w pl))).toUInt64 >>> ((own_s pl) &&& 0x3f).toInt64.toUInt64).toInt64) &&& (1 : Int64)).toInt32)), .val (.int (1 : Int32)), .val (.int (pl - (64 : Int32))), .val (.long (fx (fr + (1 : Int32)))), .second, .val (.long ((1 : Int64) <<< ((pl - (64 : Int32)) &&& 0x3f).toInt64)), .second, .unset]) rfl k) ?_
    refine Go.to (g' := (mkF m 119 #[.val (.int p0), .val (.int p1), .val (.int p2), .val (.long q3), .second, .val (.long q4), .second, .val (.long q5), .second, .val (.int nn), .val (.int pl), .val (.int fr), .val (.ref b1), .val (.ref o9), .val (.int (((((fx (fr + (own_w pl))).toUInt64 >>> ((own_s pl) &&& 0x3f).toInt64.toUInt64).toInt64) &&& (1 : Int64)).toInt32)), .val (.int (1 : Int32)), .val (.int (pl - (64 : Int32))), .val (.long (fx (fr + (1 : Int32)))), .second, .val (.long ((1 : Int64) <<< ((pl - (64 : Int32)) &&& 0x3f).toInt64)), .second, .unset] [(.long (fx (fr + (1 : Int32))))])) (fun t k => XS.lload X14.here hx rfl (hb hby at_117) rfl k) ?_
    refine Go.to (g' := (mkF m 121 #[.val (.int p0), .val (.int p1), .val (.int p2), .val (.long q3), .second, .val (.long q4), .second, .val (.long q5), .second, .val (.int nn), .val (.int pl), .val (.int fr), .val (.ref b1), .val (.ref o9), .val (.int (((((fx (fr + (own_w pl))).toUInt64 >>> ((own_s pl) &&& 0x3f).toInt64.toUInt64).toInt64) &&& (1 : Int64)).toInt32)), .val (.int (1 : Int32)), .val (.int (pl - (64 : Int32))), .val (.long (fx (fr + (1 : Int32)))), .second, .val (.long ((1 : Int64) <<< ((pl - (64 : Int32)) &&& 0x3f).toInt64)), .second, .unset] [(.long ((1 : Int64) <<< ((pl - (64 : Int32)) &&& 0x3f).toInt64)), (.long (fx (fr + (1 : Int32))))])) (fun t k => XS.lload X14.here hx rfl (hb hby at_119) rfl k) ?_
    refine Go.to (g' := (mkF m 122 #[.val (.int p0), .val (.int p1), .val (.int p2), .val (.long q3), .second, .val (.long q4), .second, .val (.long q5), .second, .val (.int nn), .val (.int pl), .val (.int fr), .val (.ref b1), .val (.ref o9), .val (.int (((((fx (fr + (own_w pl))).toUInt64 >>> ((own_s pl) &&& 0x3f).toInt64.toUInt64).toInt64) &&& (1 : Int64)).toInt32)), .val (.int (1 : Int32)), .val (.int (pl - (64 : Int32))), .val (.long (fx (fr + (1 : Int32)))), .second, .val (.long ((1 : Int64) <<< ((pl - (64 : Int32)) &&& 0x3f).toInt64)), .second, .unset] [(.long ((fx (fr + (1 : Int32))) &&& ((1 : Int64) <<< ((pl - (64 : Int32)) &&& 0x3f).toInt64)))])) (fun t k => XS.land X14.here hx rfl (hb hby at_121) rfl k) ?_
    refine Go.to (g' := (mkF m 123 #[.val (.int p0), .val (.int p1), .val (.int p2), .val (.long q3), .second, .val (.long q4), .second, .val (.long q5), .second, .val (.int nn), .val (.int pl), .val (.int fr), .val (.ref b1), .val (.ref o9), .val (.int (((((fx (fr + (own_w pl))).toUInt64 >>> ((own_s pl) &&& 0x3f).toInt64.toUInt64).toInt64) &&& (1 : Int64)).toInt32)), .val (.int (1 : Int32)), .val (.int (pl - (64 : Int32))), .val (.long (fx (fr + (1 : Int32)))), .second, .val (.long ((1 : Int64) <<< ((pl - (64 : Int32)) &&& 0x3f).toInt64)), .second, .unset] [(.long (0 : Int64)), (.long ((fx (fr + (1 : Int32))) &&& ((1 : Int64) <<< ((pl - (64 : Int32)) &&& 0x3f).toInt64)))])) (fun t k => XS.lconst X14.here hx rfl (hb hby at_122) k) ?_
    refine Go.to (g' := (mkF m 124 #[.val (.int p0), .val (.int p1), .val (.int p2), .val (.long q3), .second, .val (.long q4), .second, .val (.long q5), .second, .val (.int nn), .val (.int pl), .val (.int fr), .val (.ref b1), .val (.ref o9), .val (.int (((((fx (fr + (own_w pl))).toUInt64 >>> ((own_s pl) &&& 0x3f).toInt64.toUInt64).toInt64) &&& (1 : Int64)).toInt32)), .val (.int (1 : Int32)), .val (.int (pl - (64 : Int32))), .val (.long (fx (fr + (1 : Int32)))), .second, .val (.long ((1 : Int64) <<< ((pl - (64 : Int32)) &&& 0x3f).toInt64)), .second, .unset] [(.int (lcmpW ((fx (fr + (1 : Int32))) &&& ((1 : Int64) <<< ((pl - (64 : Int32)) &&& 0x3f).toInt64)) (0 : Int64)))])) (fun t k => XS.lcmp X14.here hx rfl (hb hby at_123) rfl k) ?_
    by_cases c19 : ((fx (fr + (1 : Int32))) &&& ((1 : Int64) <<< ((pl - (64 : Int32)) &&& 0x3f).toInt64)) = (0 : Int64)
    · refine Go.to (g' := (mkF m 131 #[.val (.int p0), .val (.int p1), .val (.int p2), .val (.long q3), .second, .val (.long q4), .second, .val (.long q5), .second, .val (.int nn), .val (.int pl), .val (.int fr), .val (.ref b1), .val (.ref o9), .val (.int (((((fx (fr + (own_w pl))).toUInt64 >>> ((own_s pl) &&& 0x3f).toInt64.toUInt64).toInt64) &&& (1 : Int64)).toInt32)), .val (.int (1 : Int32)), .val (.int (pl - (64 : Int32))), .val (.long (fx (fr + (1 : Int32)))), .second, .val (.long ((1 : Int64) <<< ((pl - (64 : Int32)) &&& 0x3f).toInt64)), .second, .unset] [])) (fun t k => XS.ifYes X14.here hx rfl (pc0 := 124) (pc' := 131) rfl (hb hby at_124) rfl ((if0 _ _).trans (teq ((lw_eq ((fx (fr + (1 : Int32))) &&& ((1 : Int64) <<< ((pl - (64 : Int32)) &&& 0x3f).toInt64)) (0 : Int64)).mpr c19)).1) (by decide) (by decide) k) ?_
      refine Go.to (g' := (mkF m 132 #[.val (.int p0), .val (.int p1), .val (.int p2), .val (.long q3), .second, .val (.long q4), .second, .val (.long q5), .second, .val (.int nn), .val (.int pl), .val (.int fr), .val (.ref b1), .val (.ref o9), .val (.int (((((fx (fr + (own_w pl))).toUInt64 >>> ((own_s pl) &&& 0x3f).toInt64.toUInt64).toInt64) &&& (1 : Int64)).toInt32)), .val (.int (1 : Int32)), .val (.int (pl - (64 : Int32))), .val (.long (fx (fr + (1 : Int32)))), .second, .val (.long ((1 : Int64) <<< ((pl - (64 : Int32)) &&& 0x3f).toInt64)), .second, .unset] [(.int (0 : Int32))])) (fun t k => XS.iconst X14.here hx rfl (hb hby at_131) k) ?_
      refine Go.to (g' := (mkF m 134 #[.val (.int p0), .val (.int p1), .val (.int p2), .val (.long q3), .second, .val (.long q4), .second, .val (.long q5), .second, .val (.int nn), .val (.int pl), .val (.int fr), .val (.ref b1), .val (.ref o9), .val (.int (((((fx (fr + (own_w pl))).toUInt64 >>> ((own_s pl) &&& 0x3f).toInt64.toUInt64).toInt64) &&& (1 : Int64)).toInt32)), .val (.int (1 : Int32)), .val (.int (pl - (64 : Int32))), .val (.long (fx (fr + (1 : Int32)))), .second, .val (.long ((1 : Int64) <<< ((pl - (64 : Int32)) &&& 0x3f).toInt64)), .second, .val (.int (0 : Int32))] [])) (fun t k => XS.istore X14.here hx rfl (hb hby at_132) rfl (l' := #[.val (.int p0), .val (.int p1), .val (.int p2), .val (.long q3), .second, .val (.long q4), .second, .val (.long q5), .second, .val (.int nn), .val (.int pl), .val (.int fr), .val (.ref b1), .val (.ref o9), .val (.int (((((fx (fr + (own_w pl))).toUInt64 >>> ((own_s pl) &&& 0x3f).toInt64.toUInt64).toInt64) &&& (1 : Int64)).toInt32)), .val (.int (1 : Int32)), .val (.int (pl - (64 : Int32))), .val (.long (fx (fr + (1 : Int32)))), .second, .val (.long ((1 : Int64) <<< ((pl - (64 : Int32)) &&& 0x3f).toInt64)), .second, .val (.int (0 : Int32))]) rfl k) ?_
      refine Go.to (g' := (mkF m 136 #[.val (.int p0), .val (.int p1), .val (.int p2), .val (.long q3), .second, .val (.long q4), .second, .val (.long q5), .second, .val (.int nn), .val (.int pl), .val (.int fr), .val (.ref b1), .val (.ref o9), .val (.int (((((fx (fr + (own_w pl))).toUInt64 >>> ((own_s pl) &&& 0x3f).toInt64.toUInt64).toInt64) &&& (1 : Int64)).toInt32)), .val (.int (1 : Int32)), .val (.int (pl - (64 : Int32))), .val (.long (fx (fr + (1 : Int32)))), .second, .val (.long ((1 : Int64) <<< ((pl - (64 : Int32)) &&& 0x3f).toInt64)), .second, .val (.int (0 : Int32))] [(.int (((((fx (fr + (own_w pl))).toUInt64 >>> ((own_s pl) &&& 0x3f).toInt64.toUInt64).toInt64) &&& (1 : Int64)).toInt32))])) (fun t k => XS.iload X14.here hx rfl (hb hby at_134) rfl k) ?_
      refine Go.to (g' := (mkF m 138 #[.val (.int p0), .val (.int p1), .val (.int p2), .val (.long q3), .second, .val (.long q4), .second, .val (.long q5), .second, .val (.int nn), .val (.int pl), .val (.int fr), .val (.ref b1), .val (.ref o9), .val (.int (((((fx (fr + (own_w pl))).toUInt64 >>> ((own_s pl) &&& 0x3f).toInt64.toUInt64).toInt64) &&& (1 : Int64)).toInt32)), .val (.int (1 : Int32)), .val (.int (pl - (64 : Int32))), .val (.long (fx (fr + (1 : Int32)))), .second, .val (.long ((1 : Int64) <<< ((pl - (64 : Int32)) &&& 0x3f).toInt64)), .second, .val (.int (0 : Int32))] [(.int (0 : Int32)), (.int (((((fx (fr + (own_w pl))).toUInt64 >>> ((own_s pl) &&& 0x3f).toInt64.toUInt64).toInt64) &&& (1 : Int64)).toInt32))])) (fun t k => XS.iload X14.here hx rfl (hb hby at_136) rfl k) ?_
      refine Go.to (g' := (mkF m 141 #[.val (.int p0), .val (.int p1), .val (.int p2), .val (.long q3), .second, .val (.long q4), .second, .val (.long q5), .second, .val (.int nn), .val (.int pl), .val (.int fr), .val (.ref b1), .val (.ref o9), .val (.int (((((fx (fr + (own_w pl))).toUInt64 >>> ((own_s pl) &&& 0x3f).toInt64.toUInt64).toInt64) &&& (1 : Int64)).toInt32)), .val (.int (1 : Int32)), .val (.int (pl - (64 : Int32))), .val (.long (fx (fr + (1 : Int32)))), .second, .val (.long ((1 : Int64) <<< ((pl - (64 : Int32)) &&& 0x3f).toInt64)), .second, .val (.int (0 : Int32))] [])) (fun t k => XS.icmpNo X14.here hx rfl (hb hby at_138) rfl (teq (by rw [own_w1 c15, own_s1 c15]; exact own_tk0 c19)).2 k) ?_
      refine Go.to (g' := (mkF m 142 #[.val (.int p0), .val (.int p1), .val (.int p2), .val (.long q3), .second, .val (.long q4), .second, .val (.long q5), .second, .val (.int nn), .val (.int pl), .val (.int fr), .val (.ref b1), .val (.ref o9), .val (.int (((((fx (fr + (own_w pl))).toUInt64 >>> ((own_s pl) &&& 0x3f).toInt64.toUInt64).toInt64) &&& (1 : Int64)).toInt32)), .val (.int (1 : Int32)), .val (.int (pl - (64 : Int32))), .val (.long (fx (fr + (1 : Int32)))), .second, .val (.long ((1 : Int64) <<< ((pl - (64 : Int32)) &&& 0x3f).toInt64)), .second, .val (.int (0 : Int32))] [(.int (1 : Int32))])) (fun t k => XS.iconst X14.here hx rfl (hb hby at_141) k) ?_
      refine Go.to (g' := (mkF m 146 #[.val (.int p0), .val (.int p1), .val (.int p2), .val (.long q3), .second, .val (.long q4), .second, .val (.long q5), .second, .val (.int nn), .val (.int pl), .val (.int fr), .val (.ref b1), .val (.ref o9), .val (.int (((((fx (fr + (own_w pl))).toUInt64 >>> ((own_s pl) &&& 0x3f).toInt64.toUInt64).toInt64) &&& (1 : Int64)).toInt32)), .val (.int (1 : Int32)), .val (.int (pl - (64 : Int32))), .val (.long (fx (fr + (1 : Int32)))), .second, .val (.long ((1 : Int64) <<< ((pl - (64 : Int32)) &&& 0x3f).toInt64)), .second, .val (.int (0 : Int32))] [(.int (1 : Int32))])) (fun t k => XS.goto X14.here hx rfl (pc0 := 142) (pc' := 146) rfl (hb hby at_142) (by decide) (by decide) k) ?_
      exact Go.retN X14 hx (t := .boolean) Bd.returns Bd.notSynchronized (by simp) (hb hby at_146) (by decide) (by decide) e14 ⟨rfl, N14⟩
    · refine Go.to (g' := (mkF m 127 #[.val (.int p0), .val (.int p1), .val (.int p2), .val (.long q3), .second, .val (.long q4), .second, .val (.long q5), .second, .val (.int nn), .val (.int pl), .val (.int fr), .val (.ref b1), .val (.ref o9), .val (.int (((((fx (fr + (own_w pl))).toUInt64 >>> ((own_s pl) &&& 0x3f).toInt64.toUInt64).toInt64) &&& (1 : Int64)).toInt32)), .val (.int (1 : Int32)), .val (.int (pl - (64 : Int32))), .val (.long (fx (fr + (1 : Int32)))), .second, .val (.long ((1 : Int64) <<< ((pl - (64 : Int32)) &&& 0x3f).toInt64)), .second, .unset] [])) (fun t k => XS.ifNo X14.here hx rfl (hb hby at_124) rfl ((if0 _ _).trans (feq (fun q => c19 ((lw_eq ((fx (fr + (1 : Int32))) &&& ((1 : Int64) <<< ((pl - (64 : Int32)) &&& 0x3f).toInt64)) (0 : Int64)).mp q))).1) k) ?_
      refine Go.to (g' := (mkF m 128 #[.val (.int p0), .val (.int p1), .val (.int p2), .val (.long q3), .second, .val (.long q4), .second, .val (.long q5), .second, .val (.int nn), .val (.int pl), .val (.int fr), .val (.ref b1), .val (.ref o9), .val (.int (((((fx (fr + (own_w pl))).toUInt64 >>> ((own_s pl) &&& 0x3f).toInt64.toUInt64).toInt64) &&& (1 : Int64)).toInt32)), .val (.int (1 : Int32)), .val (.int (pl - (64 : Int32))), .val (.long (fx (fr + (1 : Int32)))), .second, .val (.long ((1 : Int64) <<< ((pl - (64 : Int32)) &&& 0x3f).toInt64)), .second, .unset] [(.int (1 : Int32))])) (fun t k => XS.iconst X14.here hx rfl (hb hby at_127) k) ?_
      refine Go.to (g' := (mkF m 132 #[.val (.int p0), .val (.int p1), .val (.int p2), .val (.long q3), .second, .val (.long q4), .second, .val (.long q5), .second, .val (.int nn), .val (.int pl), .val (.int fr), .val (.ref b1), .val (.ref o9), .val (.int (((((fx (fr + (own_w pl))).toUInt64 >>> ((own_s pl) &&& 0x3f).toInt64.toUInt64).toInt64) &&& (1 : Int64)).toInt32)), .val (.int (1 : Int32)), .val (.int (pl - (64 : Int32))), .val (.long (fx (fr + (1 : Int32)))), .second, .val (.long ((1 : Int64) <<< ((pl - (64 : Int32)) &&& 0x3f).toInt64)), .second, .unset] [(.int (1 : Int32))])) (fun t k => XS.goto X14.here hx rfl (pc0 := 128) (pc' := 132) rfl (hb hby at_128) (by decide) (by decide) k) ?_
      refine Go.to (g' := (mkF m 134 #[.val (.int p0), .val (.int p1), .val (.int p2), .val (.long q3), .second, .val (.long q4), .second, .val (.long q5), .second, .val (.int nn), .val (.int pl), .val (.int fr), .val (.ref b1), .val (.ref o9), .val (.int (((((fx (fr + (own_w pl))).toUInt64 >>> ((own_s pl) &&& 0x3f).toInt64.toUInt64).toInt64) &&& (1 : Int64)).toInt32)), .val (.int (1 : Int32)), .val (.int (pl - (64 : Int32))), .val (.long (fx (fr + (1 : Int32)))), .second, .val (.long ((1 : Int64) <<< ((pl - (64 : Int32)) &&& 0x3f).toInt64)), .second, .val (.int (1 : Int32))] [])) (fun t k => XS.istore X14.here hx rfl (hb hby at_132) rfl (l' := #[.val (.int p0), .val (.int p1), .val (.int p2), .val (.long q3), .second, .val (.long q4), .second, .val (.long q5), .second, .val (.int nn), .val (.int pl), .val (.int fr), .val (.ref b1), .val (.ref o9), .val (.int (((((fx (fr + (own_w pl))).toUInt64 >>> ((own_s pl) &&& 0x3f).toInt64.toUInt64).toInt64) &&& (1 : Int64)).toInt32)), .val (.int (1 : Int32)), .val (.int (pl - (64 : Int32))), .val (.long (fx (fr + (1 : Int32)))), .second, .val (.long ((1 : Int64) <<< ((pl - (64 : Int32)) &&& 0x3f).toInt64)), .second, .val (.int (1 : Int32))]) rfl k) ?_
      refine Go.to (g' := (mkF m 136 #[.val (.int p0), .val (.int p1), .val (.int p2), .val (.long q3), .second, .val (.long q4), .second, .val (.long q5), .second, .val (.int nn), .val (.int pl), .val (.int fr), .val (.ref b1), .val (.ref o9), .val (.int (((((fx (fr + (own_w pl))).toUInt64 >>> ((own_s pl) &&& 0x3f).toInt64.toUInt64).toInt64) &&& (1 : Int64)).toInt32)), .val (.int (1 : Int32)), .val (.int (pl - (64 : Int32))), .val (.long (fx (fr + (1 : Int32)))), .second, .val (.long ((1 : Int64) <<< ((pl - (64 : Int32)) &&& 0x3f).toInt64)), .second, .val (.int (1 : Int32))] [(.int (((((fx (fr + (own_w pl))).toUInt64 >>> ((own_s pl) &&& 0x3f).toInt64.toUInt64).toInt64) &&& (1 : Int64)).toInt32))])) (fun t k => XS.iload X14.here hx rfl (hb hby at_134) rfl k) ?_
      refine Go.to (g' := (mkF m 138 #[.val (.int p0), .val (.int p1), .val (.int p2), .val (.long q3), .second, .val (.long q4), .second, .val (.long q5), .second, .val (.int nn), .val (.int pl), .val (.int fr), .val (.ref b1), .val (.ref o9), .val (.int (((((fx (fr + (own_w pl))).toUInt64 >>> ((own_s pl) &&& 0x3f).toInt64.toUInt64).toInt64) &&& (1 : Int64)).toInt32)), .val (.int (1 : Int32)), .val (.int (pl - (64 : Int32))), .val (.long (fx (fr + (1 : Int32)))), .second, .val (.long ((1 : Int64) <<< ((pl - (64 : Int32)) &&& 0x3f).toInt64)), .second, .val (.int (1 : Int32))] [(.int (1 : Int32)), (.int (((((fx (fr + (own_w pl))).toUInt64 >>> ((own_s pl) &&& 0x3f).toInt64.toUInt64).toInt64) &&& (1 : Int64)).toInt32))])) (fun t k => XS.iload X14.here hx rfl (hb hby at_136) rfl k) ?_
      refine Go.to (g' := (mkF m 141 #[.val (.int p0), .val (.int p1), .val (.int p2), .val (.long q3), .second, .val (.long q4), .second, .val (.long q5), .second, .val (.int nn), .val (.int pl), .val (.int fr), .val (.ref b1), .val (.ref o9), .val (.int (((((fx (fr + (own_w pl))).toUInt64 >>> ((own_s pl) &&& 0x3f).toInt64.toUInt64).toInt64) &&& (1 : Int64)).toInt32)), .val (.int (1 : Int32)), .val (.int (pl - (64 : Int32))), .val (.long (fx (fr + (1 : Int32)))), .second, .val (.long ((1 : Int64) <<< ((pl - (64 : Int32)) &&& 0x3f).toInt64)), .second, .val (.int (1 : Int32))] [])) (fun t k => XS.icmpNo X14.here hx rfl (hb hby at_138) rfl (teq (by rw [own_w1 c15, own_s1 c15]; exact own_tk1 c19)).2 k) ?_
      refine Go.to (g' := (mkF m 142 #[.val (.int p0), .val (.int p1), .val (.int p2), .val (.long q3), .second, .val (.long q4), .second, .val (.long q5), .second, .val (.int nn), .val (.int pl), .val (.int fr), .val (.ref b1), .val (.ref o9), .val (.int (((((fx (fr + (own_w pl))).toUInt64 >>> ((own_s pl) &&& 0x3f).toInt64.toUInt64).toInt64) &&& (1 : Int64)).toInt32)), .val (.int (1 : Int32)), .val (.int (pl - (64 : Int32))), .val (.long (fx (fr + (1 : Int32)))), .second, .val (.long ((1 : Int64) <<< ((pl - (64 : Int32)) &&& 0x3f).toInt64)), .second, .val (.int (1 : Int32))] [(.int (1 : Int32))])) (fun t k => XS.iconst X14.here hx rfl (hb hby at_141) k) ?_
      refine Go.to (g' := (mkF m 146 #[.val (.int p0), .val (.int p1), .val (.int p2), .val (.long q3), .second, .val (.long q4), .second, .val (.long q5), .second, .val (.int nn), .val (.int pl), .val (.int fr), .val (.ref b1), .val (.ref o9), .val (.int (((((fx (fr + (own_w pl))).toUInt64 >>> ((own_s pl) &&& 0x3f).toInt64.toUInt64).toInt64) &&& (1 : Int64)).toInt32)), .val (.int (1 : Int32)), .val (.int (pl - (64 : Int32))), .val (.long (fx (fr + (1 : Int32)))), .second, .val (.long ((1 : Int64) <<< ((pl - (64 : Int32)) &&& 0x3f).toInt64)), .second, .val (.int (1 : Int32))] [(.int (1 : Int32))])) (fun t k => XS.goto X14.here hx rfl (pc0 := 142) (pc' := 146) rfl (hb hby at_142) (by decide) (by decide) k) ?_
      exact Go.retN X14 hx (t := .boolean) Bd.returns Bd.notSynchronized (by simp) (hb hby at_146) (by decide) (by decide) e14 ⟨rfl, N14⟩

set_option maxRecDepth 65536 in
set_option maxHeartbeats 40000000 in
theorem comes_1 {Post : Tables → Env → Array Value → State → Outcome → State → Prop} (hpost : ∀ tb e args s v u, (limb_1_1.after args s (.returned v) u = true ∧ limb_1_2.after args s (.returned v) u = true ∧ True) → FrameEnd s (.returned v) u (Jvm.fieldLocs frame_1_writes args s ++ Jvm.arrayLocs frame_1_arrays args s ++ Jvm.staticLocs frame_1_statics s) 24 1152 → Post tb e args s (.returned v) u) :
    ArmFor flags0 classFile x code maxLocals ret World_1 tables_1 room_1 Calls_1 rest_1 Pre_1 Post := by
  intro l hfl _ _ p e ha hc hk s m args below hf hA hF happ hP
  obtain ⟨hcalls, hrest, hpre⟩ := hP
  obtain ⟨-, -, -, hnamed, -, -, -, hat⟩ := (Spec.applies_iff hf).mp happ
  obtain ⟨hg, hn⟩ := and_e (Cond.before_iff.mp (show (Jvm.Cond.and given_1 narrow_1).before args s = true from hpre))
  obtain ⟨ga0, gb0⟩ := and_e hg
  obtain ⟨ga1, gb1⟩ := and_e gb0
  obtain ⟨ga2, gb2⟩ := and_e gb1
  obtain ⟨ga3, gb3⟩ := and_e gb2
  obtain ⟨ga4, gb4⟩ := and_e gb3
  obtain ⟨ga5, gb5⟩ := and_e gb4
  obtain ⟨w0, w1, w2, w3, w4, w5, rfl⟩ : ∃ w0 w1 w2 w3 w4 w5 : Value, args = #[w0, w1, w2, w3, w4, w5] := by
    have hs : args.size = 6 := by simpa [Cond.value, given_1] using ga0
    obtain ⟨L⟩ := args
    match L, hs with
    | [w0, w1, w2, w3, w4, w5], _ => exact ⟨w0, w1, w2, w3, w4, w5, rfl⟩
  have hw := fun d (hd : d ∈ tables_1) => atoms_spec (ws := Jvm.Cond.code x code maxLocals ret :: tables_1) hat d (List.mem_cons_of_mem _ hd)
  obtain ⟨i0, ei0⟩ := is_v ga1
  obtain rfl : w0 = (.int i0) := Option.some.inj ei0
  obtain ⟨i1, ei1⟩ := is_v ga2
  obtain rfl : w1 = (.int i1) := Option.some.inj ei1
  obtain ⟨i2, ei2⟩ := is_v ga3
  obtain rfl : w2 = (.int i2) := Option.some.inj ei2
  obtain ⟨i3, ei3⟩ := isL_v ga4
  obtain rfl : w3 = (.long i3) := Option.some.inj ei3
  obtain ⟨i4, ei4⟩ := isL_v ga5
  obtain rfl : w4 = (.long i4) := Option.some.inj ei4
  obtain ⟨i5, ei5⟩ := isL_v gb5
  obtain rfl : w5 = (.long i5) := Option.some.inj ei5
  obtain ⟨n, o, h1, h2, h3, _, L, rfl, ⟨rfl, N⟩, hq⟩ := rm0 l s _ hw tables_1 i0 i1 i2 i3 i4 i5 s.heap s.heap.size (Nat.le_refl _)  p e ha hc hk s m _ below hf ((Spec.applies_iff_loose hf).mp happ).1 ⟨rfl, State.Warmed39.refl s, rfl⟩ trivial
  refine ⟨n, _, h1, h2, h3, hpost _ _ _ _ _ _ ⟨Cond.after_iff.mpr rfl, Cond.after_iff.mpr (eq_i res_at (Term.int_eval (1)) rfl), trivial⟩ ⟨hq.1, hq.2.1, (hq.2.2.sift fun y hy => Or.inr (N y hy)).mono (by decide) (by decide)⟩⟩
theorem main_1_1 : Claimed_1_1 := comes_1 fun _ _ _ _ _ _ h hF => ⟨h.1, hF⟩
theorem main_1_2 : Claimed_1_2 := comes_1 fun _ _ _ _ _ _ h hF => ⟨h.2.1, hF⟩

end Jvm.Pilot.@@N@@
namespace Jvm.Pilot.@@N@@
open Jvm Jvm.ClassFile Sem Op Lib Jvm.Free Jvm.Stand Jvm.Pilot.@@N@@.Jvm.D
/-! MADE BY PROGRAM (witnessworld.py) out of the Statement's table words and the real class files: 14 classes; the members and pool entries that the words name. The judged class is class 1, her method 1. -/
namespace start1
open Jvm.ClassFile
def u (s : String) : CpInfo := .utf8 (stringToUtf16 s)
/-- a pool by its gaps: so many unusable entries, then the entry; so many at the end -/
def gap : Nat → List CpInfo → List CpInfo
  | 0, r => r
  | n + 1, r => .unusable :: gap n r
def poolList (es : List (Nat × CpInfo)) (last : Nat) : List CpInfo := es.foldr (fun e r => gap e.1 (e.2 :: r)) (gap last [])
def pool (es : List (Nat × CpInfo)) (last : Nat) : Array CpInfo := ⟨poolList es last⟩
def fileOf (pool : Array CpInfo) (this : Nat) (attrs : Array Attribute := #[]) (ms : Array MethodInfo := #[]) (fl : Nat := 33) (sup : Nat := 0) (ifs : Array Nat := #[]) (fds : Array FieldInfo := #[]) : ClassFile where
  minorVersion := 0
  majorVersion := 65
  constantPool := pool
  accessFlags := fl
  thisClass := this
  superClass := sup
  interfaces := ifs
  fields := fds
  methods := ms
  attributes := attrs
def plain (name : String) (sup : Option ClassId) : Class where
  name := name
  kind := .ordinary
  loader := none
  accessFlags := 33
  super := sup
  interfaces := #[]
  cf := none
  fields := #[]
  methods := #[]
  instanceTypes := #[]
  staticTypes := #[]
  resolved := #[]
  callSites := []
  init := .initialized
  statics := none
  mirror := none

def pool0 : Array CpInfo := pool [(5, u "<init>"), (0, u "()V"), (1, .class_ 10), (1, u "java/lang/Object")] 113

def k0c0 : Code := { maxStack := 0, maxLocals := 1, code := object_method_1_code, exceptionTable := #[], attributes := #[] }
def k0m0 : Method := { name := "<init>", desc := "()V", sig := { parameters := [], returnType := none }, accessFlags := 1, code := some k0c0 }
/-- java/lang/Object -/
def k0 : Class := { plain "java/lang/Object" none with
  accessFlags := 33
  interfaces := #[]
  cf := some (fileOf pool0 8 #[] #[{ accessFlags := 1, nameIndex := 5, descriptorIndex := 6, attributes := #[] }] 33 0 #[] #[])
  fields := #[]
  methods := #[k0m0]
  instanceTypes := #[]
  staticTypes := #[]
  resolved := Array.replicate 124 none
  statics := none }

def pool1 : Array CpInfo := pool [(2, .class_ 4), (1, u "java/lang/Object"), (0, u "<init>"), (0, u "()V"), (0, .integer 2147483647), (0, .class_ 9), (0, u "com/example/skuld/skuld/analysis/Layout"), (0, .methodref 8 11), (0, .nameAndType 5 12), (0, u "(I)V"), (0, .methodref 8 14), (0, .nameAndType 15 16), (0, u "tokens"), (0, u "([JII)I"), (0, .class_ 18), (0, u "com/example/skuld/skuld/analysis/LayoutTokensPinLaw"), (2, u "law"), (0, u "(IIIJJJ)Z")] 5

def k1m0 : Method := { name := "<init>", desc := "()V", sig := { parameters := [], returnType := none }, accessFlags := 1, code := none }
def k1c1 : Code := { maxStack := 4, maxLocals := 22, code := code, exceptionTable := #[], attributes := #[] }
def k1m1 : Method := { name := "law", desc := "(IIIJJJ)Z", sig := { parameters := [.int, .int, .int, .long, .long, .long], returnType := some .boolean }, accessFlags := 9, code := some k1c1 }
/-- com/example/skuld/skuld/analysis/LayoutTokensPinLaw -/
def k1 : Class := { plain "com/example/skuld/skuld/analysis/LayoutTokensPinLaw" (some 0) with
  accessFlags := 49
  interfaces := #[]
  cf := some (fileOf pool1 17 #[] #[{ accessFlags := 1, nameIndex := 5, descriptorIndex := 6, attributes := #[] }, { accessFlags := 9, nameIndex := 21, descriptorIndex := 22, attributes := #[] }] 49 2 #[] #[])
  fields := #[]
  methods := #[k1m0, k1m1]
  instanceTypes := #[]
  staticTypes := #[]
  resolved := Array.replicate 28 none
  statics := none }

def pool2 : Array CpInfo := pool [(1, .methodref 2 3), (0, .class_ 4), (0, .nameAndType 5 6), (0, u "com/example/skuld/skuld/analysis/Layout"), (0, u "filled"), (0, u "(II)[I"), (0, .methodref 2 8), (0, .nameAndType 9 10), (0, u "<init>"), (0, u "([I)V"), (0, .methodref 12 13), (0, .class_ 14), (0, .nameAndType 9 15), (0, u "java/lang/Object"), (0, u "()V"), (0, .fieldref 2 17), (0, .nameAndType 18 19), (0, u "widths"), (0, u "[I"), (0, .fieldref 2 21), (0, .nameAndType 22 19), (0, u "word"), (0, .fieldref 2 24), (0, .nameAndType 25 19), (0, u "shift"), (0, .fieldref 2 27), (0, .nameAndType 28 29), (0, u "largest"), (0, u "[J"), (2, .fieldref 2 33), (0, .nameAndType 34 35), (0, u "words"), (0, u "I"), (0, .fieldref 2 37), (0, .nameAndType 38 19), (0, u "firstPlace"), (0, .fieldref 2 40), (0, .nameAndType 41 42), (0, u "oneBitFields"), (0, u "[Z"), (0, .methodref 44 45), (0, .class_ 46), (0, .nameAndType 47 48), (0, u "java/util/Arrays"), (0, u "fill"), (0, u "([ZZ)V"), (5, .methodref 44 55), (0, .nameAndType 47 56), (0, u "([II)V"), (6, u "tokens"), (0, u "([JII)I"), (18, u "WIDEST"), (2, u "(I)V")] 21

def k2c0 : Code := { maxStack := 3, maxLocals := 2, code := prog_19_method_1_code, exceptionTable := #[], attributes := #[] }
def k2m0 : Method := { name := "<init>", desc := "(I)V", sig := { parameters := [.int], returnType := none }, accessFlags := 0, code := some k2c0 }
def k2c1 : Code := { maxStack := 6, maxLocals := 5, code := prog_19_method_2_code, exceptionTable := #[], attributes := #[] }
def k2m1 : Method := { name := "<init>", desc := "([I)V", sig := { parameters := [(.array .int)], returnType := none }, accessFlags := 2, code := some k2c1 }
def k2c2 : Code := { maxStack := 2, maxLocals := 3, code := prog_19_method_4_code, exceptionTable := #[], attributes := #[] }
def k2m2 : Method := { name := "filled", desc := "(II)[I", sig := { parameters := [.int, .int], returnType := some (.array .int) }, accessFlags := 10, code := some k2c2 }
def k2c3 : Code := { maxStack := 4, maxLocals := 4, code := prog_19_method_9_code, exceptionTable := #[], attributes := #[] }
def k2m3 : Method := { name := "tokens", desc := "([JII)I", sig := { parameters := [(.array .long), .int, .int], returnType := some .int }, accessFlags := 0, code := some k2c3 }
/-- com/example/skuld/skuld/analysis/Layout -/
def k2 : Class := { plain "com/example/skuld/skuld/analysis/Layout" (some 0) with
  accessFlags := 48
  interfaces := #[]
  cf := some (fileOf pool2 2 #[] #[{ accessFlags := 0, nameIndex := 9, descriptorIndex := 86, attributes := #[] }, { accessFlags := 2, nameIndex := 9, descriptorIndex := 10, attributes := #[] }, { accessFlags := 10, nameIndex := 5, descriptorIndex := 6, attributes := #[] }, { accessFlags := 0, nameIndex := 63, descriptorIndex := 64, attributes := #[] }] 48 12 #[] #[{ accessFlags := 26, nameIndex := 83, descriptorIndex := 35, attributes := #[] }, { accessFlags := 18, nameIndex := 18, descriptorIndex := 19, attributes := #[] }, { accessFlags := 18, nameIndex := 22, descriptorIndex := 19, attributes := #[] }, { accessFlags := 18, nameIndex := 25, descriptorIndex := 19, attributes := #[] }, { accessFlags := 18, nameIndex := 28, descriptorIndex := 29, attributes := #[] }, { accessFlags := 18, nameIndex := 38, descriptorIndex := 19, attributes := #[] }, { accessFlags := 18, nameIndex := 41, descriptorIndex := 42, attributes := #[] }, { accessFlags := 16, nameIndex := 34, descriptorIndex := 35, attributes := #[] }])
  fields := #[{ name := "WIDEST", type := .int, accessFlags := 26, slot := 0, constantValue := 0 }, { name := "widths", type := (.array .int), accessFlags := 18, slot := 0, constantValue := 0 }, { name := "word", type := (.array .int), accessFlags := 18, slot := 1, constantValue := 0 }, { name := "shift", type := (.array .int), accessFlags := 18, slot := 2, constantValue := 0 }, { name := "largest", type := (.array .long), accessFlags := 18, slot := 3, constantValue := 0 }, { name := "firstPlace", type := (.array .int), accessFlags := 18, slot := 4, constantValue := 0 }, { name := "oneBitFields", type := (.array .boolean), accessFlags := 18, slot := 5, constantValue := 0 }, { name := "words", type := .int, accessFlags := 16, slot := 6, constantValue := 0 }]
  methods := #[k2m0, k2m1, k2m2, k2m3]
  instanceTypes := #[(.array .int), (.array .int), (.array .int), (.array .long), (.array .int), (.array .boolean), .int]
  staticTypes := #[.int]
  resolved := Array.replicate 108 none
  statics := none }

def pool3 : Array CpInfo := pool [(2, .class_ 4), (1, u "java/lang/Object"), (0, u "<init>"), (0, u "()V"), (7, .class_ 16), (1, u "java/util/Arrays"), (57, .class_ 76), (1, u "java/util/Arrays$NaturalOrder"), (36, .class_ 115), (1, u "java/util/Arrays$LegacyMergeSort"), (1, u "Z"), (257, .class_ 376), (0, u "java/util/Arrays$ArrayList"), (68, u "$assertionsDisabled"), (269, u "MIN_ARRAY_SORT_GRAN"), (0, u "I"), (2, u "INSERTIONSORT_THRESHOLD"), (120, u "fill"), (4, u "([II)V"), (6, u "([ZZ)V"), (122, .class_ 976), (0, u "java/util/Arrays$ArrayItr")] 52

def k3m0 : Method := { name := "<init>", desc := "()V", sig := { parameters := [], returnType := none }, accessFlags := 2, code := none }
def k3c1 : Code := { maxStack := 3, maxLocals := 4, code := jdk_65_method_103_code, exceptionTable := #[], attributes := #[] }
def k3m1 : Method := { name := "fill", desc := "([II)V", sig := { parameters := [(.array .int), .int], returnType := none }, accessFlags := 9, code := some k3c1 }
def k3c2 : Code := { maxStack := 3, maxLocals := 4, code := jdk_65_method_111_code, exceptionTable := #[], attributes := #[] }
def k3m2 : Method := { name := "fill", desc := "([ZZ)V", sig := { parameters := [(.array .boolean), .boolean], returnType := none }, accessFlags := 9, code := some k3c2 }
/-- java/util/Arrays -/
def k3 : Class := { plain "java/util/Arrays" (some 0) with
  accessFlags := 49
  interfaces := #[]
  cf := some (fileOf pool3 14 #[.nestMembers #[975, 375, 113, 74]] #[{ accessFlags := 2, nameIndex := 5, descriptorIndex := 6, attributes := #[] }, { accessFlags := 9, nameIndex := 840, descriptorIndex := 845, attributes := #[] }, { accessFlags := 9, nameIndex := 840, descriptorIndex := 852, attributes := #[] }] 49 2 #[] #[{ accessFlags := 26, nameIndex := 715, descriptorIndex := 716, attributes := #[] }, { accessFlags := 26, nameIndex := 719, descriptorIndex := 716, attributes := #[] }, { accessFlags := 4120, nameIndex := 445, descriptorIndex := 117, attributes := #[] }])
  fields := #[{ name := "MIN_ARRAY_SORT_GRAN", type := .int, accessFlags := 26, slot := 0, constantValue := 0 }, { name := "INSERTIONSORT_THRESHOLD", type := .int, accessFlags := 26, slot := 1, constantValue := 0 }, { name := "$assertionsDisabled", type := .boolean, accessFlags := 4120, slot := 2, constantValue := 0 }]
  methods := #[k3m0, k3m1, k3m2]
  instanceTypes := #[]
  staticTypes := #[.int, .int, .boolean]
  resolved := Array.replicate 1029 none
  statics := none }

def pool4 : Array CpInfo := pool [(1, u "java/lang/Cloneable"), (0, .class_ 1), (0, u "java/lang/Object"), (0, .class_ 3)] 3

/-- java/lang/Cloneable -/
def k4 : Class := { plain "java/lang/Cloneable" (some 0) with
  accessFlags := 1537
  interfaces := #[]
  cf := some (fileOf pool4 2 #[] #[] 1537 4 #[] #[])
  fields := #[]
  methods := #[]
  instanceTypes := #[]
  staticTypes := #[]
  resolved := Array.replicate 8 none
  statics := none }

def pool5 : Array CpInfo := pool [(1, u "java/io/Serializable"), (0, .class_ 1), (0, u "java/lang/Object"), (0, .class_ 3)] 3

/-- java/io/Serializable -/
def k5 : Class := { plain "java/io/Serializable" (some 0) with
  accessFlags := 1537
  interfaces := #[]
  cf := some (fileOf pool5 2 #[] #[] 1537 4 #[] #[])
  fields := #[]
  methods := #[]
  instanceTypes := #[]
  staticTypes := #[]
  resolved := Array.replicate 8 none
  statics := none }

/-- the primitive boolean -/
def k6 : Class := { plain "boolean" none with kind := .primitive 'Z', accessFlags := 0x411 }
/-- [Z -/
def k7 : Class := { plain "[Z" (some 0) with kind := .array 6 .boolean, interfaces := #[4, 5], accessFlags := 1041 }

/-- the primitive byte -/
def k8 : Class := { plain "byte" none with kind := .primitive 'B', accessFlags := 0x411 }
/-- [B -/
def k9 : Class := { plain "[B" (some 0) with kind := .array 8 .byte, interfaces := #[4, 5], accessFlags := 1041 }

/-- the primitive int -/
def k10 : Class := { plain "int" none with kind := .primitive 'I', accessFlags := 0x411 }
/-- [I -/
def k11 : Class := { plain "[I" (some 0) with kind := .array 10 .int, interfaces := #[4, 5], accessFlags := 1041 }

/-- the primitive long -/
def k12 : Class := { plain "long" none with kind := .primitive 'J', accessFlags := 0x411 }
/-- [J -/
def k13 : Class := { plain "[J" (some 0) with kind := .array 12 .long, interfaces := #[4, 5], accessFlags := 1041 }

def heap : Heap := #[]
def classes : Array Class := #[k0, k1, k2, k3, k4, k5, k6, k7, k8, k9, k10, k11, k12, k13]
def interned : List (Array UInt16 × Addr) := []
def slotsUsed : Nat := 0
def theMethod : MethodId := ⟨1, 1⟩
def args0 : Array Value := #[.int 9, .int 8, .int 5, .long 2, .long 3, .long 4]
def aboutOver (below : List Frame) : State where
  vm := { classes := classes, interned := interned.toArray }
  heap := heap
  slotsUsed := slotsUsed
  threads := #[{ frames := .invoking theMethod args0 :: below }]
def below0 : List Frame := [.native { method := ⟨0, 0⟩, args := #[] }]
def about1 : State := aboutOver below0
def p0 : Program := .bare "" "" ""
def e0 : Env := launch0.env 0 0 0
theorem w_frames : about1.frames = Frame.invoking theMethod args0 :: below0 := rfl
set_option maxRecDepth 65536 in
theorem w_args : argsFit about1.vm theMethod args0 = true := by decide +kernel
set_option maxRecDepth 65536 in
theorem w_heap : heapFits about1 = true := by decide +kernel
set_option maxRecDepth 65536 in
theorem w_runnable : about1.curStatus? = some .runnable := by decide +kernel
set_option maxRecDepth 65536 in
theorem w_alone : about1.alone = true := by decide +kernel
set_option maxRecDepth 65536 in
theorem w_named : about1.methodNamed? x = some theMethod := by decide +kernel
set_option maxRecDepth 65536 in
theorem w_hears : about1.hears theMethod below0 = true := by decide +kernel
set_option maxRecDepth 65536 in
theorem w_ripe : about1.ripe theMethod args0 below0 = true := by decide +kernel
theorem w_running : about1.status = .running := rfl
set_option maxRecDepth 65536 in
theorem w_room : about1.hasRoom e0.platform room_1 = true :=
  launch0.hasRoom_least _ room_1 (by decide +kernel) (by decide +kernel) (by decide +kernel) (by decide +kernel) (by decide +kernel) (by decide +kernel)
theorem allAtoms_all (ts : List Jvm.Cond) (a : Array Jvm.Value) (st : Jvm.State) : (allAtoms ts).before a st = ts.all (fun c => c.before a st) := by
  induction ts with
  | nil => rfl
  | cons c t ih =>
    show (Jvm.Cond.and c (allAtoms t)).before a st = _
    rw [Jvm.Cond.before_and, ih, List.all_cons]
def words1 : List Jvm.Cond := Jvm.Cond.code x code maxLocals ret :: tables_1
/-- a 'code' word, met by the world's own term for the bytes: nothing is compared byte by byte -/
theorem code_word {y : MethodName} {bytes : ByteArray} {mx : Nat} {rt : Option FieldType} {a : Array Value} {s : State} {m : MethodId} {meth : Method} {c : Code} (h1 : s.methodNamed? y = some m) (h2 : s.vm.method? m = some meth) (h3 : meth.code = some c) (h4 : c.code = bytes)
    (h5 : (c.maxLocals == mx && c.exceptionTable.isEmpty && decide (c.maxStack ≤ mostOperands) && decide (meth.sig.returnType = rt) && !meth.locks && decide (parseMethodDescriptor y.desc = some meth.sig)) = true) : (Jvm.Cond.code y bytes mx rt).before a s = true := by
  simp only [Bool.and_eq_true, beq_iff_eq, Bool.not_eq_true', decide_eq_true_eq] at h5
  obtain ⟨⟨⟨⟨⟨g1, g2⟩, g3⟩, g4⟩, g5⟩, g6⟩ := h5
  simp [Cond.before, Cond.holds, Cond.value, h1, h2, h3, h4, g1, g2, g3, g4, g5, g6]
def isCode : Jvm.Cond → Bool
  | .code _ _ _ _ => true
  | _ => false
theorem all_split {L : List Jvm.Cond} {P : Jvm.Cond → Bool} (h1 : L.all (fun c => isCode c || P c) = true) (h2 : ∀ c ∈ L.filter isCode, P c = true) : L.all P = true := by
  refine List.all_eq_true.mpr fun c hc => ?_
  have h := List.all_eq_true.mp h1 c hc
  rcases Bool.eq_false_or_eq_true (isCode c) with hi | hi
  · exact h2 c (List.mem_filter.mpr ⟨hc, hi⟩)
  · simpa [hi] using h
set_option maxRecDepth 65536 in
theorem w_c0 : (Jvm.Cond.code x code maxLocals ret).before args0 about1 = true := code_word (m := ⟨1, 1⟩) (meth := k1m1) (c := k1c1) (by decide +kernel) rfl rfl rfl (by decide +kernel)
set_option maxRecDepth 65536 in
theorem w_c1 : (Jvm.Cond.code ({ cls := "com/example/skuld/skuld/analysis/Layout", name := "<init>", desc := "(I)V" } : Jvm.MethodName) prog_19_method_1_code (2 : Nat) (Option.none : Option Jvm.ClassFile.FieldType)).before args0 about1 = true := code_word (m := ⟨2, 0⟩) (meth := k2m0) (c := k2c0) (by decide +kernel) rfl rfl rfl (by decide +kernel)
set_option maxRecDepth 65536 in
theorem w_c2 : (Jvm.Cond.code ({ cls := "com/example/skuld/skuld/analysis/Layout", name := "filled", desc := "(II)[I" } : Jvm.MethodName) prog_19_method_4_code (3 : Nat) (Option.some (Jvm.ClassFile.FieldType.array Jvm.ClassFile.FieldType.int))).before args0 about1 = true := code_word (m := ⟨2, 2⟩) (meth := k2m2) (c := k2c2) (by decide +kernel) rfl rfl rfl (by decide +kernel)
set_option maxRecDepth 65536 in
theorem w_c3 : (Jvm.Cond.code ({ cls := "java/util/Arrays", name := "fill", desc := "([II)V" } : Jvm.MethodName) jdk_65_method_103_code (4 : Nat) (Option.none : Option Jvm.ClassFile.FieldType)).before args0 about1 = true := code_word (m := ⟨3, 1⟩) (meth := k3m1) (c := k3c1) (by decide +kernel) rfl rfl rfl (by decide +kernel)
set_option maxRecDepth 65536 in
theorem w_c4 : (Jvm.Cond.code ({ cls := "com/example/skuld/skuld/analysis/Layout", name := "<init>", desc := "([I)V" } : Jvm.MethodName) prog_19_method_2_code (5 : Nat) (Option.none : Option Jvm.ClassFile.FieldType)).before args0 about1 = true := code_word (m := ⟨2, 1⟩) (meth := k2m1) (c := k2c1) (by decide +kernel) rfl rfl rfl (by decide +kernel)
set_option maxRecDepth 65536 in
theorem w_c5 : (Jvm.Cond.code ({ cls := "java/lang/Object", name := "<init>", desc := "()V" } : Jvm.MethodName) object_method_1_code (1 : Nat) (Option.none : Option Jvm.ClassFile.FieldType)).before args0 about1 = true := code_word (m := ⟨0, 0⟩) (meth := k0m0) (c := k0c0) (by decide +kernel) rfl rfl rfl (by decide +kernel)
set_option maxRecDepth 65536 in
theorem w_c6 : (Jvm.Cond.code ({ cls := "java/util/Arrays", name := "fill", desc := "([ZZ)V" } : Jvm.MethodName) jdk_65_method_111_code (4 : Nat) (Option.none : Option Jvm.ClassFile.FieldType)).before args0 about1 = true := code_word (m := ⟨3, 2⟩) (meth := k3m2) (c := k3c2) (by decide +kernel) rfl rfl rfl (by decide +kernel)
set_option maxRecDepth 65536 in
theorem w_c7 : (Jvm.Cond.code ({ cls := "com/example/skuld/skuld/analysis/Layout", name := "tokens", desc := "([JII)I" } : Jvm.MethodName) prog_19_method_9_code (4 : Nat) (Option.some Jvm.ClassFile.FieldType.int)).before args0 about1 = true := code_word (m := ⟨2, 3⟩) (meth := k2m3) (c := k2c3) (by decide +kernel) rfl rfl rfl (by decide +kernel)
def codes1 : List Jvm.Cond := [Jvm.Cond.code x code maxLocals ret, Jvm.Cond.code ({ cls := "com/example/skuld/skuld/analysis/Layout", name := "<init>", desc := "(I)V" } : Jvm.MethodName) prog_19_method_1_code (2 : Nat) (Option.none : Option Jvm.ClassFile.FieldType), Jvm.Cond.code ({ cls := "com/example/skuld/skuld/analysis/Layout", name := "filled", desc := "(II)[I" } : Jvm.MethodName) prog_19_method_4_code (3 : Nat) (Option.some (Jvm.ClassFile.FieldType.array Jvm.ClassFile.FieldType.int)), Jvm.Cond.code ({ cls := "java/util/Arrays", name := "fill", desc := "([II)V" } : Jvm.MethodName) jdk_65_method_103_code (4 : Nat) (Option.none : Option Jvm.ClassFile.FieldType), Jvm.Cond.code ({ cls := "com/example/skuld/skuld/analysis/Layout", name := "<init>", desc := "([I)V" } : Jvm.MethodName) prog_19_method_2_code (5 : Nat) (Option.none : Option Jvm.ClassFile.FieldType), Jvm.Cond.code ({ cls := "java/lang/Object", name := "<init>", desc := "()V" } : Jvm.MethodName) object_method_1_code (1 : Nat) (Option.none : Option Jvm.ClassFile.FieldType), Jvm.Cond.code ({ cls := "java/util/Arrays", name := "fill", desc := "([ZZ)V" } : Jvm.MethodName) jdk_65_method_111_code (4 : Nat) (Option.none : Option Jvm.ClassFile.FieldType), Jvm.Cond.code ({ cls := "com/example/skuld/skuld/analysis/Layout", name := "tokens", desc := "([JII)I" } : Jvm.MethodName) prog_19_method_9_code (4 : Nat) (Option.some Jvm.ClassFile.FieldType.int)]
set_option maxRecDepth 65536 in
theorem codes_eq : words1.filter isCode = codes1 := rfl
theorem w_codes : ∀ c ∈ words1.filter isCode, c.before args0 about1 = true := by
  rw [codes_eq]
  intro c hc
  simp only [codes1, List.mem_cons, List.not_mem_nil, or_false] at hc
  rcases hc with rfl | rfl | rfl | rfl | rfl | rfl | rfl | rfl
  · exact w_c0
  · exact w_c1
  · exact w_c2
  · exact w_c3
  · exact w_c4
  · exact w_c5
  · exact w_c6
  · exact w_c7
set_option maxRecDepth 65536 in
theorem w_t1 : (words1.take 24).all (fun c => isCode c || c.before args0 about1) = true := by decide +kernel
set_option maxRecDepth 65536 in
theorem w_t2 : (words1.drop 24).all (fun c => isCode c || c.before args0 about1) = true := by decide +kernel
theorem w_tables : (allAtoms (Jvm.Cond.code x code maxLocals ret :: tables_1)).before args0 about1 = true := by
  rw [allAtoms_all]
  show words1.all (fun c => c.before args0 about1) = true
  refine all_split ?_ w_codes
  rw [← List.take_append_drop 24 words1, List.all_append, w_t1, w_t2]
  rfl
set_option maxRecDepth 65536 in
theorem w_case : (Jvm.Cond.and given_1 narrow_1).before args0 about1 = true := by decide +kernel
theorem w_applies : (headSpec (Jvm.Cond.code x code maxLocals ret :: tables_1) room_1).applies x e0.platform about1 = true :=
  (Spec.applies_iff w_frames).mpr ⟨w_running, w_runnable, w_alone, w_named, w_hears, w_ripe, w_room, w_tables⟩
theorem atStart : AtStart classFile x code maxLocals ret World_1 tables_1 room_1 Calls_1 rest_1 Pre_1 launch0 p0 e0 about1 theMethod args0 below0 :=
  ⟨lists_1, trivial, launch0.admits_env _ _ _, launch0.least_env, fairChoices_fair.cas, fairChoices_fair.clock, w_frames, w_args, w_heap, w_applies, trivial, trivial, w_case⟩
end start1
theorem witness_1 : WitnessClaimed_1 := ⟨start1.p0, start1.e0, start1.about1, start1.theMethod, start1.args0, start1.below0, start1.atStart⟩
end Jvm.Pilot.@@N@@
