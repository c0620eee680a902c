import JvmDerived
import JvmDerived.Pilot.@@N@@Statement
import JvmDerived.Pilot.@@N@@Code
set_option linter.unusedVariables false
set_option linter.unusedSimpArgs false
namespace Jvm.RoadKit
open Sem ClassFile Op Lib Jvm.Stand Jvm.Free Jvm.LawKit
section New
variable {p : Program} {l : Launch} {e : Env} {R : Room} {s : State} {m : MethodId} {args : Array Value} {below : List Frame} {meth : Method} {c : Code} {T : State} {locs : List Loc} {cells slots : Nat}
theorem retI (X : Stand p l e R s m args below meth c T locs cells slots) (hx : p.tables.exec = Jvm.exec) {pc : Nat} {Ls : Array Slot} {z : Int32} {rest : List Value} (hret : meth.sig.returnType = some .int) (hd : decode c.code pc = .ok (.ireturn, 1)) {fs : List Frame}
    (hl : ∀ (f : JFrame) (acts : List Action), f.method = m → f.locked = none → f.entered = [] → (doReturn e (T.setTop f) acts (some (.int z))).1 = T.setFrames fs) : Steps p.tables e below (T.setTop (mkF m pc Ls (.int z :: rest))) (T.setFrames fs) := by
  have hm' : T.vm.method? m = some meth := X.method'
  have hn : narrow .int (.int z) = .int z := rfl
  show Steps p.tables e below (T.setTop { method := m, pc := pc, locals := Ls, stack := _ :: rest, locked := none }) _
  jvm_step X.here [X.here.top, hx, hd, hm', hret, hn]
  first | (intro acts; rw [hl _ acts rfl rfl rfl]) | rw [hl _ _ rfl rfl rfl]
  exact Steps.refl _
end New
end Jvm.RoadKit
namespace Jvm.Pilot.@@N@@
open Jvm Jvm.ClassFile Sem Op Lib Jvm.Free Jvm.Stand Jvm.LawKit Jvm.RoadKit Bundle Jvm.Pilot.@@N@@.Jvm.D
section OwnGo
variable {p : Program} {l : Launch} {e : Env} {R : Room} {s : State} {m : MethodId} {args : Array Value} {below : List Frame} {meth : Method} {c : Code} {T T' : State} {locs : List Loc} {cells slots : Nat} {C S : Nat} {Q : Option Value → Heap → List Loc → Prop} {h : Heap}
/-- from here the run comes to a return of which Q holds -/
def Go (p : Program) (e : Env) (below : List Frame) (s : State) (Q : Option Value → Heap → List Loc → Prop) (C S : Nat) (S0 : State) : Prop :=
  ∃ s₂ o, Steps p.tables e below S0 s₂ ∧ s₂.status = .running ∧ Ended s₂ below o ∧ ∃ v L, o = .returned v ∧ Q v s₂.heap L ∧ FrameEnd s o s₂ L C S
theorem own_go {S0 : State} (k : Go p e below s Q C S S0) : ∃ s₂ o, Steps p.tables e below S0 s₂ ∧ s₂.status = .running ∧ Ended s₂ below o ∧ ∃ v L, o = .returned v ∧ Q v s₂.heap L ∧ FrameEnd s o s₂ L C S := k
theorem Go.to {g g' : JFrame} (st : ∀ t, Steps p.tables e below (T'.setTop g') t → Steps p.tables e below (T.setTop g) t) (k : Go p e below s Q C S (T'.setTop g')) : Go p e below s Q C S (T.setTop g) := by
  obtain ⟨s₂, o, h1, r⟩ := k
  exact ⟨s₂, o, st _ h1, r⟩
theorem Go.retI (X : Stand p l e R s m args below meth c T locs cells slots) (hx : p.tables.exec = Jvm.exec) {pc : Nat} {Ls : Array Slot} {z : Int32} {rest : List Value} (hret : meth.sig.returnType = some .int) (hlk : meth.locks = false) (hd : decode c.code pc = .ok (.ireturn, 1)) (hC : cells ≤ C) (hS : slots ≤ S) (eT : T.heap = h) (hQ : Q (some (.int z)) h locs) :
    Go p e below s Q C S (T.setTop (mkF m pc Ls (.int z :: rest))) := by
  obtain ⟨fs, hr, hrun, hended, hW, hsame⟩ := X.leave (v := some (.int z)) (fun h => by rw [hret] at h; cases h) hlk
  exact ⟨_, _, Jvm.RoadKit.retI X hx hret hd hr, hrun, hended, _, _, rfl, (show Q (some (.int z)) T.heap locs from eT ▸ hQ), ⟨_, rfl⟩, hW, hsame.mono hC hS⟩
theorem Go.retN (X : Stand p l e R s m args below meth c T locs cells slots) (hx : p.tables.exec = Jvm.exec) {pc : Nat} {Ls : Array Slot} {z : Int32} {t : FieldType} {rest : List Value} (hret : meth.sig.returnType = some t) (hlk : meth.locks = false) (ht : t = .boolean ∨ t = .byte ∨ t = .char ∨ t = .short) (hd : decode c.code pc = .ok (.ireturn, 1)) (hC : cells ≤ C) (hS : slots ≤ S) (eT : T.heap = h) (hQ : Q (some (.int (nar t z))) h locs) :
    Go p e below s Q C S (T.setTop (mkF m pc Ls (.int z :: rest))) := by
  obtain ⟨fs, hr, hrun, hended, hW, hsame⟩ := X.leave (v := some (.int (nar t z))) (fun h => by rw [hret] at h; cases h) hlk
  exact ⟨_, _, Jvm.RoadKit.retN X hx hret ht hd hr, hrun, hended, _, _, rfl, (show Q (some (.int (nar t z))) T.heap locs from eT ▸ hQ), ⟨_, rfl⟩, hW, hsame.mono hC hS⟩
theorem Go.ret (X : Stand p l e R s m args below meth c T locs cells slots) (hx : p.tables.exec = Jvm.exec) {pc : Nat} {Ls : Array Slot} (hret : meth.sig.returnType = none) (hlk : meth.locks = false) (hd : decode c.code pc = .ok (.return_, 1)) (hC : cells ≤ C) (hS : slots ≤ S) (eT : T.heap = h) (hQ : Q none h locs) :
    Go p e below s Q C S (T.setTop (mkF m pc Ls [])) := by
  obtain ⟨fs, hr, hrun, hended, hW, hsame⟩ := X.leave (v := none) (fun _ => rfl) hlk
  exact ⟨_, _, X.returnOut hx hret hd hr, hrun, hended, _, _, rfl, (show Q none T.heap locs from eT ▸ hQ), ⟨_, rfl⟩, hW, hsame.mono hC hS⟩
theorem Go.retJ (X : Stand p l e R s m args below meth c T locs cells slots) (hx : p.tables.exec = Jvm.exec) {pc : Nat} {Ls : Array Slot} {z : Int64} {rest : List Value} (hret : meth.sig.returnType = some .long) (hlk : meth.locks = false) (hd : decode c.code pc = .ok (.lreturn, 1)) (hC : cells ≤ C) (hS : slots ≤ S) (eT : T.heap = h) (hQ : Q (some (.long z)) h locs) :
    Go p e below s Q C S (T.setTop (mkF m pc Ls (.long z :: rest))) := by
  obtain ⟨fs, hr, hrun, hended, hW, hsame⟩ := X.leave (v := some (.long z)) (fun h => by rw [hret] at h; cases h) hlk
  exact ⟨_, _, retOut X hx hret rfl (Or.inr (Or.inl ⟨rfl, rfl, _, rfl⟩)) hd hr, hrun, hended, _, _, rfl, (show Q (some (.long z)) T.heap locs from eT ▸ hQ), ⟨_, rfl⟩, hW, hsame.mono hC hS⟩
theorem Go.retA (X : Stand p l e R s m args below meth c T locs cells slots) (hx : p.tables.exec = Jvm.exec) {pc : Nat} {Ls : Array Slot} {z : Addr} {t : FieldType} {rest : List Value} (hret : meth.sig.returnType = some t) (hlk : meth.locks = false) (ht : t.isReference = true) (hd : decode c.code pc = .ok (.areturn, 1)) (hC : cells ≤ C) (hS : slots ≤ S) (eT : T.heap = h) (hQ : Q (some (.ref z)) h locs) :
    Go p e below s Q C S (T.setTop (mkF m pc Ls (.ref z :: rest))) := by
  obtain ⟨fs, hr, hrun, hended, hW, hsame⟩ := X.leave (v := some (.ref z)) (fun h => by rw [hret] at h; cases h) hlk
  exact ⟨_, _, retOut X hx hret (by cases t <;> first | rfl | cases ht) (Or.inr (Or.inr (Or.inr (Or.inr ⟨rfl, ht, rfl⟩)))) hd hr, hrun, hended, _, _, rfl, (show Q (some (.ref z)) T.heap locs from eT ▸ hQ), ⟨_, rfl⟩, hW, hsame.mono hC hS⟩
end OwnGo
theorem own_irr (x : Int32) : ¬ x < x := by rw [Int32.lt_iff_toInt_lt]; omega
theorem own_irrL (x : Int64) : ¬ x < x := by rw [Int64.lt_iff_toInt_lt]; omega
theorem own_lrem {p : Program} {l : Launch} {e : Env} {R : Room} {s : State} {m : MethodId} {args : Array Value} {below : List Frame} {meth : Method} {c : Code} {T target : State} {locs : List Loc} {cells slots : Nat} {g : JFrame} (X : Stand p l e R s m args below meth c T locs cells slots) (hx : p.tables.exec = Jvm.exec) (hg : g.method = m) {x y : Int64} {rest : List Value} (hd : decode c.code g.pc = .ok (.lrem, 1)) (hs : g.stack = .long y :: .long x :: rest) (hy : y ≠ 0)
    (hr : Steps p.tables e below (T.setTop { g with pc := g.pc + 1, stack := .long (x % y) :: rest }) target) : Steps p.tables e below (T.setTop g) target :=
  XS.lrem X.here hx hg hd hs hy (by rw [lrem_mod]; exact hr)
theorem own_int {c : Cell} {vs : List Value} {d : Value} {j z : Int32} (H : Has c vs d) (G : ∀ i, i < c.slots.size → fits .int (vs.getD i d) = true) (hin : ¬ (j < 0 ∨ c.slots.size ≤ j.toNatClampNeg)) : ∃ x : Int32, c.slots[j.toNatClampNeg]? = some (.int x) := by
  have hk : j.toNatClampNeg < c.slots.size := Nat.lt_of_not_le fun q => hin (Or.inr q)
  have h1 := H _ hk
  have h2 := G _ hk
  cases hv : vs.getD j.toNatClampNeg d with
  | int x => exact ⟨x, by rw [h1, hv]⟩
  | _ => rw [hv] at h2; simp [fits] at h2
theorem d1_0 : decode prog_7_method_2_code 0 = .ok (.iload_n 0, 1) := by decide +kernel
theorem d1_1 : decode prog_7_method_2_code 1 = .ok (.lookupswitch 107 #[(40, 101), (100, 101), (103, 91), (110, 96), (113, 96), (116, 101), (118, 91), (120, 101), (121, 91), (123, 101)], 91) := by decide +kernel
theorem d1_102 : decode prog_7_method_2_code 102 = .ok (.bipush 8, 2) := by decide +kernel
theorem d1_104 : decode prog_7_method_2_code 104 = .ok (.istore_n 1, 1) := by decide +kernel
theorem d1_105 : decode prog_7_method_2_code 105 = .ok (.goto 5, 3) := by decide +kernel
theorem d1_110 : decode prog_7_method_2_code 110 = .ok (.iload_n 1, 1) := by decide +kernel
theorem d1_111 : decode prog_7_method_2_code 111 = .ok (.ireturn, 1) := by decide +kernel
theorem d1_92 : decode prog_7_method_2_code 92 = .ok (.iconst 1, 1) := by decide +kernel
theorem d1_93 : decode prog_7_method_2_code 93 = .ok (.istore_n 1, 1) := by decide +kernel
theorem d1_94 : decode prog_7_method_2_code 94 = .ok (.goto 16, 3) := by decide +kernel
theorem d1_97 : decode prog_7_method_2_code 97 = .ok (.iconst 2, 1) := by decide +kernel
theorem d1_98 : decode prog_7_method_2_code 98 = .ok (.istore_n 1, 1) := by decide +kernel
theorem d1_99 : decode prog_7_method_2_code 99 = .ok (.goto 11, 3) := by decide +kernel
theorem d1_108 : decode prog_7_method_2_code 108 = .ok (.iconst 4, 1) := by decide +kernel
theorem d1_109 : decode prog_7_method_2_code 109 = .ok (.istore_n 1, 1) := by decide +kernel
theorem pn_com_example_nidra_nidra_dbus_Unmarshaller : plainName "com/example/nidra/nidra/dbus/Unmarshaller" = true := by first | (simp [plainName, overriddenIn]; done) | decide +kernel
theorem d7_0 : decode jdk_41_method_11_code 0 = .ok (.iload_n 0, 1) := by decide +kernel
theorem d7_1 : decode jdk_41_method_11_code 1 = .ok (.ifCond .lt 8, 3) := by decide +kernel
theorem d7_4 : decode jdk_41_method_11_code 4 = .ok (.iload_n 0, 1) := by decide +kernel
theorem d7_5 : decode jdk_41_method_11_code 5 = .ok (.iload_n 1, 1) := by decide +kernel
theorem d7_6 : decode jdk_41_method_11_code 6 = .ok (.if_icmp .lt 10, 3) := by decide +kernel
theorem d7_16 : decode jdk_41_method_11_code 16 = .ok (.iload_n 0, 1) := by decide +kernel
theorem d7_17 : decode jdk_41_method_11_code 17 = .ok (.ireturn, 1) := by decide +kernel
theorem pn_jdk_internal_util_Preconditions : plainName "jdk/internal/util/Preconditions" = true := by first | (simp [plainName, overriddenIn]; done) | decide +kernel
theorem d6_0 : decode jdk_42_method_155_code 0 = .ok (.iload_n 0, 1) := by decide +kernel
theorem d6_1 : decode jdk_42_method_155_code 1 = .ok (.iload_n 1, 1) := by decide +kernel
theorem d6_2 : decode jdk_42_method_155_code 2 = .ok (.getstatic 1053, 3) := by decide +kernel
theorem d6_5 : decode jdk_42_method_155_code 5 = .ok (.invokestatic 1059, 3) := by decide +kernel
theorem pd_28IILjava2futil2ffunction2fBiFunction3b29I : parseMethodDescriptor "(IILjava/util/function/BiFunction;)I" = some ⟨[.int, .int, (.object "java/util/function/BiFunction")], some .int⟩ := by decide +kernel
theorem d6_8 : decode jdk_42_method_155_code 8 = .ok (.pop, 1) := by decide +kernel
theorem d6_9 : decode jdk_42_method_155_code 9 = .ok (.return_, 1) := by decide +kernel
theorem pn_java_lang_String : plainName "java/lang/String" = true := by first | (simp [plainName, overriddenIn]; done) | decide +kernel
theorem d5_0 : decode jdk_43_method_2_code 0 = .ok (.iload_n 1, 1) := by decide +kernel
theorem d5_1 : decode jdk_43_method_2_code 1 = .ok (.aload_n 0, 1) := by decide +kernel
theorem d5_2 : decode jdk_43_method_2_code 2 = .ok (.arraylength, 1) := by decide +kernel
theorem d5_3 : decode jdk_43_method_2_code 3 = .ok (.invokestatic 9, 3) := by decide +kernel
theorem pd_28II29V : parseMethodDescriptor "(II)V" = some ⟨[.int, .int], none⟩ := by decide +kernel
theorem d5_6 : decode jdk_43_method_2_code 6 = .ok (.aload_n 0, 1) := by decide +kernel
theorem d5_7 : decode jdk_43_method_2_code 7 = .ok (.iload_n 1, 1) := by decide +kernel
theorem d5_8 : decode jdk_43_method_2_code 8 = .ok (.baload, 1) := by decide +kernel
theorem d5_9 : decode jdk_43_method_2_code 9 = .ok (.sipush 255, 3) := by decide +kernel
theorem d5_12 : decode jdk_43_method_2_code 12 = .ok (.iand, 1) := by decide +kernel
theorem d5_13 : decode jdk_43_method_2_code 13 = .ok (.i2c, 1) := by decide +kernel
theorem d5_14 : decode jdk_43_method_2_code 14 = .ok (.ireturn, 1) := by decide +kernel
theorem pn_java_lang_StringLatin1 : plainName "java/lang/StringLatin1" = true := by first | (simp [plainName, overriddenIn]; done) | decide +kernel
theorem d4_0 : decode jdk_42_method_154_code 0 = .ok (.getstatic 38, 3) := by decide +kernel
theorem d4_3 : decode jdk_42_method_154_code 3 = .ok (.ifCond .eq 14, 3) := by decide +kernel
theorem d4_6 : decode jdk_42_method_154_code 6 = .ok (.aload_n 0, 1) := by decide +kernel
theorem d4_7 : decode jdk_42_method_154_code 7 = .ok (.getfield 15, 3) := by decide +kernel
theorem d4_10 : decode jdk_42_method_154_code 10 = .ok (.ifCond .ne 7, 3) := by decide +kernel
theorem d4_13 : decode jdk_42_method_154_code 13 = .ok (.iconst 1, 1) := by decide +kernel
theorem d4_14 : decode jdk_42_method_154_code 14 = .ok (.goto 4, 3) := by decide +kernel
theorem d4_18 : decode jdk_42_method_154_code 18 = .ok (.ireturn, 1) := by decide +kernel
theorem d3_0 : decode jdk_42_method_56_code 0 = .ok (.aload_n 0, 1) := by decide +kernel
theorem d3_1 : decode jdk_42_method_56_code 1 = .ok (.invokevirtual 492, 3) := by decide +kernel
theorem pd_2829Z : parseMethodDescriptor "()Z" = some ⟨[], some .boolean⟩ := by decide +kernel
theorem d3_4 : decode jdk_42_method_56_code 4 = .ok (.ifCond .eq 12, 3) := by decide +kernel
theorem d3_7 : decode jdk_42_method_56_code 7 = .ok (.aload_n 0, 1) := by decide +kernel
theorem d3_8 : decode jdk_42_method_56_code 8 = .ok (.getfield 9, 3) := by decide +kernel
theorem d3_11 : decode jdk_42_method_56_code 11 = .ok (.iload_n 1, 1) := by decide +kernel
theorem d3_12 : decode jdk_42_method_56_code 12 = .ok (.invokestatic 495, 3) := by decide +kernel
theorem pd_285bBI29C : parseMethodDescriptor "([BI)C" = some ⟨[(.array .byte), .int], some .char⟩ := by decide +kernel
theorem d3_15 : decode jdk_42_method_56_code 15 = .ok (.ireturn, 1) := by decide +kernel
theorem d2_0 : decode method_2_code 0 = .ok (.iconst 4, 1) := by decide +kernel
theorem d2_1 : decode method_2_code 1 = .ok (.istore_n 1, 1) := by decide +kernel
theorem d2_2 : decode method_2_code 2 = .ok (.iload_n 0, 1) := by decide +kernel
theorem d2_3 : decode method_2_code 3 = .ok (.ifCond .lt 105, 3) := by decide +kernel
theorem d2_108 : decode method_2_code 108 = .ok (.iload_n 1, 1) := by decide +kernel
theorem d2_109 : decode method_2_code 109 = .ok (.ireturn, 1) := by decide +kernel
theorem d2_6 : decode method_2_code 6 = .ok (.iload_n 0, 1) := by decide +kernel
theorem d2_7 : decode method_2_code 7 = .ok (.sipush 128, 3) := by decide +kernel
theorem d2_10 : decode method_2_code 10 = .ok (.if_icmp .ge 98, 3) := by decide +kernel
theorem d2_13 : decode method_2_code 13 = .ok (.bipush 13, 2) := by decide +kernel
theorem d2_15 : decode method_2_code 15 = .ok (.anewarray 7, 3) := by decide +kernel
theorem d2_18 : decode method_2_code 18 = .ok (.dup, 1) := by decide +kernel
theorem d2_19 : decode method_2_code 19 = .ok (.iconst 0, 1) := by decide +kernel
theorem d2_20 : decode method_2_code 20 = .ok (.ldc 9, 2) := by decide +kernel
theorem d2_22 : decode method_2_code 22 = .ok (.aastore, 1) := by decide +kernel
theorem d2_23 : decode method_2_code 23 = .ok (.dup, 1) := by decide +kernel
theorem d2_24 : decode method_2_code 24 = .ok (.iconst 1, 1) := by decide +kernel
theorem d2_25 : decode method_2_code 25 = .ok (.ldc 9, 2) := by decide +kernel
theorem d2_27 : decode method_2_code 27 = .ok (.aastore, 1) := by decide +kernel
theorem d2_28 : decode method_2_code 28 = .ok (.dup, 1) := by decide +kernel
theorem d2_29 : decode method_2_code 29 = .ok (.iconst 2, 1) := by decide +kernel
theorem d2_30 : decode method_2_code 30 = .ok (.ldc 9, 2) := by decide +kernel
theorem d2_32 : decode method_2_code 32 = .ok (.aastore, 1) := by decide +kernel
theorem d2_33 : decode method_2_code 33 = .ok (.dup, 1) := by decide +kernel
theorem d2_34 : decode method_2_code 34 = .ok (.iconst 3, 1) := by decide +kernel
theorem d2_35 : decode method_2_code 35 = .ok (.ldc 9, 2) := by decide +kernel
theorem d2_37 : decode method_2_code 37 = .ok (.aastore, 1) := by decide +kernel
theorem d2_38 : decode method_2_code 38 = .ok (.dup, 1) := by decide +kernel
theorem d2_39 : decode method_2_code 39 = .ok (.iconst 4, 1) := by decide +kernel
theorem d2_40 : decode method_2_code 40 = .ok (.ldc 11, 2) := by decide +kernel
theorem d2_42 : decode method_2_code 42 = .ok (.aastore, 1) := by decide +kernel
theorem d2_43 : decode method_2_code 43 = .ok (.dup, 1) := by decide +kernel
theorem d2_44 : decode method_2_code 44 = .ok (.iconst 5, 1) := by decide +kernel
theorem d2_45 : decode method_2_code 45 = .ok (.ldc 9, 2) := by decide +kernel
theorem d2_47 : decode method_2_code 47 = .ok (.aastore, 1) := by decide +kernel
theorem d2_48 : decode method_2_code 48 = .ok (.dup, 1) := by decide +kernel
theorem d2_49 : decode method_2_code 49 = .ok (.bipush 6, 2) := by decide +kernel
theorem d2_51 : decode method_2_code 51 = .ok (.ldc 9, 2) := by decide +kernel
theorem d2_53 : decode method_2_code 53 = .ok (.aastore, 1) := by decide +kernel
theorem d2_54 : decode method_2_code 54 = .ok (.dup, 1) := by decide +kernel
theorem d2_55 : decode method_2_code 55 = .ok (.bipush 7, 2) := by decide +kernel
theorem d2_57 : decode method_2_code 57 = .ok (.ldc 9, 2) := by decide +kernel
theorem d2_59 : decode method_2_code 59 = .ok (.aastore, 1) := by decide +kernel
theorem d2_60 : decode method_2_code 60 = .ok (.dup, 1) := by decide +kernel
theorem d2_61 : decode method_2_code 61 = .ok (.bipush 8, 2) := by decide +kernel
theorem d2_63 : decode method_2_code 63 = .ok (.ldc 9, 2) := by decide +kernel
theorem d2_65 : decode method_2_code 65 = .ok (.aastore, 1) := by decide +kernel
theorem d2_66 : decode method_2_code 66 = .ok (.dup, 1) := by decide +kernel
theorem d2_67 : decode method_2_code 67 = .ok (.bipush 9, 2) := by decide +kernel
theorem d2_69 : decode method_2_code 69 = .ok (.ldc 9, 2) := by decide +kernel
theorem d2_71 : decode method_2_code 71 = .ok (.aastore, 1) := by decide +kernel
theorem d2_72 : decode method_2_code 72 = .ok (.dup, 1) := by decide +kernel
theorem d2_73 : decode method_2_code 73 = .ok (.bipush 10, 2) := by decide +kernel
theorem d2_75 : decode method_2_code 75 = .ok (.ldc 13, 2) := by decide +kernel
theorem d2_77 : decode method_2_code 77 = .ok (.aastore, 1) := by decide +kernel
theorem d2_78 : decode method_2_code 78 = .ok (.dup, 1) := by decide +kernel
theorem d2_79 : decode method_2_code 79 = .ok (.bipush 11, 2) := by decide +kernel
theorem d2_81 : decode method_2_code 81 = .ok (.ldc 15, 2) := by decide +kernel
theorem d2_83 : decode method_2_code 83 = .ok (.aastore, 1) := by decide +kernel
theorem d2_84 : decode method_2_code 84 = .ok (.dup, 1) := by decide +kernel
theorem d2_85 : decode method_2_code 85 = .ok (.bipush 12, 2) := by decide +kernel
theorem d2_87 : decode method_2_code 87 = .ok (.ldc 17, 2) := by decide +kernel
theorem d2_89 : decode method_2_code 89 = .ok (.aastore, 1) := by decide +kernel
theorem d2_90 : decode method_2_code 90 = .ok (.astore_n 2, 1) := by decide +kernel
theorem d2_91 : decode method_2_code 91 = .ok (.aload_n 2, 1) := by decide +kernel
theorem d2_92 : decode method_2_code 92 = .ok (.iload_n 0, 1) := by decide +kernel
theorem d2_93 : decode method_2_code 93 = .ok (.bipush 10, 2) := by decide +kernel
theorem d2_95 : decode method_2_code 95 = .ok (.idiv, 1) := by decide +kernel
theorem d2_96 : decode method_2_code 96 = .ok (.aaload, 1) := by decide +kernel
theorem d2_97 : decode method_2_code 97 = .ok (.iload_n 0, 1) := by decide +kernel
theorem d2_98 : decode method_2_code 98 = .ok (.bipush 10, 2) := by decide +kernel
theorem d2_100 : decode method_2_code 100 = .ok (.irem, 1) := by decide +kernel
theorem d2_101 : decode method_2_code 101 = .ok (.invokevirtual 19, 3) := by decide +kernel
theorem pd_28I29C : parseMethodDescriptor "(I)C" = some ⟨[.int], some .char⟩ := by decide +kernel
theorem d2_104 : decode method_2_code 104 = .ok (.bipush 48, 2) := by decide +kernel
theorem d2_106 : decode method_2_code 106 = .ok (.isub, 1) := by decide +kernel
theorem d2_107 : decode method_2_code 107 = .ok (.istore_n 1, 1) := by decide +kernel
theorem pn_com_example_nidra_nidra_dbus_UnmarshallerAlignmentPinLaw : plainName "com/example/nidra/nidra/dbus/UnmarshallerAlignmentPinLaw" = true := by first | (simp [plainName, overriddenIn]; done) | decide +kernel
theorem pd_28I29I : parseMethodDescriptor "(I)I" = some ⟨[.int], some .int⟩ := by decide +kernel
section OwnArrays
variable {Z : State} {h h' : Heap} {a b : Addr} {ty : FieldType} {z : Int32} {f : Int32 → Int32} {fl : Int32 → Int64} {ws : List Addr} {sl : Nat} {v : Value}
theorem own_nneg {j : Int32} (h : ¬ j < 0) : 0 ≤ j.toInt := by
  rw [Int32.lt_iff_toInt_lt] at h
  have e0 : (0 : Int32).toInt = 0 := rfl
  omega
/-- at a lies an array of ty with z places; place j holds the int f j -/
def own_Az (Z : State) (h : Heap) (a : Addr) (ty : FieldType) (z : Int32) (f : Int32 → Int32) : Prop := ∃ c : Cell, Arr Z h a c ty ∧ c.slots.size = z.toNatClampNeg ∧ ¬ z < 0 ∧ ∀ j : Int32, ¬ j < 0 → j < z → c.slots[j.toNatClampNeg]? = some (.int (f j))
/-- at a lies an array of longs with z places; place j holds fl j -/
def own_Lz (Z : State) (h : Heap) (a : Addr) (z : Int32) (fl : Int32 → Int64) : Prop := ∃ c : Cell, Arr Z h a c .long ∧ c.slots.size = z.toNatClampNeg ∧ ¬ z < 0 ∧ ∀ j : Int32, ¬ j < 0 → j < z → c.slots[j.toNatClampNeg]? = some (.long (fl j))
theorem own_Az.ext (B : own_Az Z h a ty z f) (E : Ext h h') : own_Az Z h' a ty z f := by
  obtain ⟨c, A, r⟩ := B
  exact ⟨c, A.ext E, r⟩
theorem own_Az.other (B : own_Az Z h b ty z f) (W : Wr h h' a sl v) (q : b ≠ a) : own_Az Z h' b ty z f := by
  obtain ⟨c, A, r⟩ := B
  exact ⟨c, A.other W q, r⟩
theorem own_Az.keep (B : own_Az Z h a ty z f) (K : Keep h h' ws) (q : a ∉ ws) : own_Az Z h' a ty z f := by
  obtain ⟨c, A, r⟩ := B
  exact ⟨c, ⟨K.2.1 a c A.1 q, A.2⟩, r⟩
theorem own_Az.lt (B : own_Az Z h a ty z f) : a < h.size := by
  obtain ⟨c, A, r⟩ := B
  exact A.lt
theorem own_Lz.ext (B : own_Lz Z h a z fl) (E : Ext h h') : own_Lz Z h' a z fl := by
  obtain ⟨c, A, r⟩ := B
  exact ⟨c, A.ext E, r⟩
theorem own_Lz.other (B : own_Lz Z h b z fl) (W : Wr h h' a sl v) (q : b ≠ a) : own_Lz Z h' b z fl := by
  obtain ⟨c, A, r⟩ := B
  exact ⟨c, A.other W q, r⟩
theorem own_Lz.keep (B : own_Lz Z h a z fl) (K : Keep h h' ws) (q : a ∉ ws) : own_Lz Z h' a z fl := by
  obtain ⟨c, A, r⟩ := B
  exact ⟨c, ⟨K.2.1 a c A.1 q, A.2⟩, r⟩
theorem own_Lz.lt (B : own_Lz Z h a z fl) : a < h.size := by
  obtain ⟨c, A, r⟩ := B
  exact A.lt
theorem own_az_of {k : ClassId} (V : Arv Z h a k ty z [] (.int (0 : Int32))) : own_Az Z h a ty z (fun _ => (0 : Int32)) := by
  obtain ⟨c, A, -, S, M, H, -⟩ := V
  refine ⟨c, A, S, M, fun j h1 h2 => ?_⟩
  have hk : j.toNatClampNeg < c.slots.size := Nat.lt_of_not_le fun q => inb_of S ⟨h1, h2⟩ (Or.inr q)
  rw [H _ hk]
  rfl
theorem own_lz_of {k : ClassId} (V : Arv Z h a k .long z [] (.long (0 : Int64))) : own_Lz Z h a z (fun _ => (0 : Int64)) := by
  obtain ⟨c, A, -, S, M, H, -⟩ := V
  refine ⟨c, A, S, M, fun j h1 h2 => ?_⟩
  have hk : j.toNatClampNeg < c.slots.size := Nat.lt_of_not_le fun q => inb_of S ⟨h1, h2⟩ (Or.inr q)
  rw [H _ hk]
  rfl
def own_upd (f : Int32 → Int32) (j x : Int32) : Int32 → Int32 := fun i => if i = j then x else f i
theorem own_upd1 {f : Int32 → Int32} {j x i : Int32} (h : i = j) : own_upd f j x i = x := if_pos h
theorem own_upd0 {f : Int32 → Int32} {j x i : Int32} (h : ¬ i = j) : own_upd f j x i = f i := if_neg h
def own_updL (f : Int32 → Int64) (j : Int32) (x : Int64) : Int32 → Int64 := fun i => if i = j then x else f i
theorem own_updL1 {f : Int32 → Int64} {j i : Int32} {x : Int64} (h : i = j) : own_updL f j x i = x := if_pos h
theorem own_updL0 {f : Int32 → Int64} {j i : Int32} {x : Int64} (h : ¬ i = j) : own_updL f j x i = f i := if_neg h
theorem own_Az.set {j x : Int32} (B : own_Az Z h a ty z f) (hj : ¬ j < 0) (W : Wr h h' a j.toNatClampNeg (.int x)) : own_Az Z h' a ty z (own_upd f j x) := by
  obtain ⟨c, A, S, M, H⟩ := B
  refine ⟨_, A.same W, by rw [sz_set]; exact S, M, fun i h1 h2 => ?_⟩
  by_cases q : i = j
  · rw [own_upd1 q]
    refine get_hit ?_ q
    subst q
    exact inb_of S ⟨h1, h2⟩
  · rw [own_upd0 q, get_miss hj h1 q]
    exact H i h1 h2
theorem own_Lz.set {j : Int32} {x : Int64} (B : own_Lz Z h a z fl) (hj : ¬ j < 0) (W : Wr h h' a j.toNatClampNeg (.long x)) : own_Lz Z h' a z (own_updL fl j x) := by
  obtain ⟨c, A, S, M, H⟩ := B
  refine ⟨_, A.same W, by rw [sz_set]; exact S, M, fun i h1 h2 => ?_⟩
  by_cases q : i = j
  · rw [own_updL1 q]
    refine get_hit ?_ q
    subst q
    exact inb_of S ⟨h1, h2⟩
  · rw [own_updL0 q, get_miss hj h1 q]
    exact H i h1 h2
end OwnArrays
theorem own_inc {i p : Int32} (h : i < p) : (i + (1 : Int32)).toInt = i.toInt + 1 := by
  have h1 := c_iadd i (1 : Int32)
  have h2 := rng32 p
  have h3 := rng32 i
  have h4 := rng32 (i + (1 : Int32))
  have e1 : (1 : Int32).toInt = 1 := rfl
  rw [Int32.lt_iff_toInt_lt] at h
  omega

def own_al (c : Int32) : Int32 := if c = (40 : Int32) then (8 : Int32) else if c = (100 : Int32) then (8 : Int32) else if c = (103 : Int32) then (1 : Int32) else if c = (110 : Int32) then (2 : Int32) else if c = (113 : Int32) then (2 : Int32) else if c = (116 : Int32) then (8 : Int32) else if c = (118 : Int32) then (1 : Int32) else if c = (120 : Int32) then (8 : Int32) else if c = (121 : Int32) then (1 : Int32) else if c = (123 : Int32) then (8 : Int32) else (4 : Int32)
theorem own_al4 {c : Int32} (n40 : ¬ c = (40 : Int32)) (n100 : ¬ c = (100 : Int32)) (n103 : ¬ c = (103 : Int32)) (n110 : ¬ c = (110 : Int32)) (n113 : ¬ c = (113 : Int32)) (n116 : ¬ c = (116 : Int32)) (n118 : ¬ c = (118 : Int32)) (n120 : ¬ c = (120 : Int32)) (n121 : ¬ c = (121 : Int32)) (n123 : ¬ c = (123 : Int32)) : own_al c = (4 : Int32) := by
  unfold own_al
  rw [if_neg n40, if_neg n100, if_neg n103, if_neg n110, if_neg n113, if_neg n116, if_neg n118, if_neg n120, if_neg n121, if_neg n123]
def own_ch (x : Int32) : Int32 := nar .char ((x &&& (255 : Int32)).toUInt32.toUInt16.toUInt32.toInt32)
def own_ls (l : List Int32) (j : Int32) : Int32 := l.getD j.toNatClampNeg 0
theorem own_az_ls {Z : State} {h : Heap} {a : Addr} {k : ClassId} {z : Int32} {l : List Int32} (V : Arv Z h a k .byte z (l.map Value.int) (.int (0 : Int32))) : own_Az Z h a .byte z (own_ls l) := by
  obtain ⟨c, A, -, S, M, H, -⟩ := V
  refine ⟨c, A, S, M, fun j h1 h2 => ?_⟩
  have hk : j.toNatClampNeg < c.slots.size := Nat.lt_of_not_le fun q => inb_of S ⟨h1, h2⟩ (Or.inr q)
  rw [H _ hk]
  simp only [own_ls, List.getD_eq_getElem?_getD, List.getElem?_map]
  cases l[j.toNatClampNeg]? <;> rfl
section OwnW
variable {p : Program} {l : Launch} {e : Env} {R : Room} {s : State} {m : MethodId} {args : Array Value} {below : List Frame} {meth : Method} {c : Code} {T T' : State} {locs : List Loc} {cells slots : Nat} {C S n : Nat} {Q : Option Value → State → List Loc → Prop} {h : Heap} {vm1 : Vm}
def GoW (p : Program) (e : Env) (below : List Frame) (s : State) (Q : Option Value → State → List Loc → Prop) (C S : Nat) (S0 : State) : Prop :=
  ∃ s₂ o, Steps p.tables e below S0 s₂ ∧ s₂.status = .running ∧ Ended s₂ below o ∧ ∃ v L, o = .returned v ∧ Q v s₂ L ∧ ReturnedEndW s o s₂ L C S
theorem own_gow {S0 : State} (k : GoW p e below s Q C S S0) : ∃ s₂ o, Steps p.tables e below S0 s₂ ∧ s₂.status = .running ∧ Ended s₂ below o ∧ ∃ v L, o = .returned v ∧ Q v s₂ L ∧ ReturnedEndW s o s₂ L C S := k
theorem GoW.to {g g' : JFrame} (st : ∀ t, Steps p.tables e below (T'.setTop g') t → Steps p.tables e below (T.setTop g) t) (k : GoW p e below s Q C S (T'.setTop g')) : GoW p e below s Q C S (T.setTop g) := by
  obtain ⟨s₂, o, h1, r⟩ := k
  exact ⟨s₂, o, st _ h1, r⟩
theorem GoW.retI (X : Stand p l e R (s.setVm vm1) m args below meth c T locs cells slots) (hSi : s.Since vm1 n) (hn : n ≤ T.heap.size) (hx : p.tables.exec = Jvm.exec) {pc : Nat} {Ls : Array Slot} {z : Int32} {rest : List Value} (hret : meth.sig.returnType = some .int) (hlk : meth.locks = false) (hd : decode c.code pc = .ok (.ireturn, 1)) (hC : cells ≤ C) (hS : slots ≤ S) (hQ : ∀ fs, Q (some (.int z)) (T.setFrames fs) locs) :
    GoW p e below s Q C S (T.setTop (mkF m pc Ls (.int z :: rest))) := by
  obtain ⟨fs, hr, hrun, hended, hend⟩ := X.leaveW hSi hn (v := some (.int z)) (fun h => by rw [hret] at h; cases h) hlk
  exact ⟨_, _, Jvm.RoadKit.retI X hx hret hd hr, hrun, hended, _, _, rfl, hQ fs, hend.1, hend.2.1, hend.2.2.1, hend.2.2.2.mono hC hS⟩
theorem GoW.retN (X : Stand p l e R (s.setVm vm1) m args below meth c T locs cells slots) (hSi : s.Since vm1 n) (hn : n ≤ T.heap.size) (hx : p.tables.exec = Jvm.exec) {pc : Nat} {Ls : Array Slot} {z : Int32} {t : FieldType} {rest : List Value} (hret : meth.sig.returnType = some t) (hlk : meth.locks = false) (ht : t = .boolean ∨ t = .byte ∨ t = .char ∨ t = .short) (hd : decode c.code pc = .ok (.ireturn, 1)) (hC : cells ≤ C) (hS : slots ≤ S) (hQ : ∀ fs, Q (some (.int (nar t z))) (T.setFrames fs) locs) :
    GoW p e below s Q C S (T.setTop (mkF m pc Ls (.int z :: rest))) := by
  obtain ⟨fs, hr, hrun, hended, hend⟩ := X.leaveW hSi hn (v := some (.int (nar t z))) (fun h => by rw [hret] at h; cases h) hlk
  exact ⟨_, _, Jvm.RoadKit.retN X hx hret ht hd hr, hrun, hended, _, _, rfl, hQ fs, hend.1, hend.2.1, hend.2.2.1, hend.2.2.2.mono hC hS⟩
theorem own_ldcA {Z : State} {vm0 : Vm} {aw : Array Value} (X : Stand p l e R (s.setVm vm0) m args below meth c T locs cells slots) (hx : p.tables.exec = Jvm.exec) (hZ : Z.Warmed39 vm0) {own text : String} {index : Nat} {a : Addr} (hown : vm0.findClass own = some m.cls)
    (w : (Cond.stringLink own index text).before aw Z = true) (L : Lit (s.setVm vm0) own index a) {g : JFrame} (hg : g.method = m) (hd : decode c.code g.pc = .ok (.ldc index, 2)) :
    ∀ target, Steps p.tables e below (T.setTop { g with pc := g.pc + 2, stack := .ref a :: g.stack }) target → Steps p.tables e below (T.setTop g) target := by
  have q : (Cond.stringLink own index text).before args (s.setVm vm0) = true := mvS hZ w
  have r : (s.setVm vm0).resolvedAt? own index = some (.string a) := L
  refine X.ldcString hx (text := text) hown ?_ ?_ hg hd
  · simp only [Cond.before, Cond.holds, Cond.value] at q ⊢
    cases h1 : (s.setVm vm0).vm.findClass own with
    | none => exact absurd (h1.symm.trans hown) (by simp)
    | some cc =>
      simp only [h1, Option.map_some, r] at q ⊢
      simp at q ⊢
      exact q.1
  · simp only [State.resolvedAt?, Option.bind_eq_bind] at r
    simp only [Term.eval, Option.bind_eq_bind]
    cases h1 : (s.setVm vm0).vm.findClass own with
    | none => exact absurd (h1.symm.trans hown) (by simp)
    | some cc =>
      cases h2 : (s.setVm vm0).vm.classes[cc]? with
      | none => simp only [h1, h2, Option.bind_some, Option.bind_none] at r <;> cases r
      | some kk => simp only [h1, h2, Option.bind_some] at r ⊢; rw [r]; rfl
end OwnW

theorem own_nar2 (x : Int32) : some (Value.int (nar .char (own_ch x))) = some (.int (own_ch x)) := by
  have h := c_i2c ((x &&& (255 : Int32)).toUInt32.toUInt16.toUInt32.toInt32)
  have h2 := c_i2c (own_ch x)
  have h3 : own_ch x = ((x &&& (255 : Int32)).toUInt32.toUInt16.toUInt32.toInt32).toUInt32.toUInt16.toUInt32.toInt32 := rfl
  have h4 : nar .char (own_ch x) = (own_ch x).toUInt32.toUInt16.toUInt32.toInt32 := rfl
  have e : nar .char (own_ch x) = own_ch x := by
    apply Int32.toInt_inj.mp
    rw [h4]
    rw [← h3] at h
    omega
  rw [e]

theorem own_f128 {c : Int32} (h0 : ¬ c < (0 : Int32)) (h1 : c < (128 : Int32)) : ∃ k : Fin 128, c = Int32.ofNat k.val := by
  rw [Int32.lt_iff_toInt_lt] at h0 h1
  have e0 : (0 : Int32).toInt = 0 := rfl
  have e1 : (128 : Int32).toInt = 128 := rfl
  refine ⟨⟨c.toInt.toNat, by omega⟩, Int32.toInt_inj.mp ?_⟩
  rw [Int32.toInt_ofNat_of_lt (by show c.toInt.toNat < 2 ^ 31; omega)]
  show c.toInt = ((c.toInt.toNat : Nat) : Int)
  omega
def own_e (c : Int32) : Int32 := if c < (0 : Int32) ∨ ¬ c < (128 : Int32) then (4 : Int32) else own_al c
theorem own_e4 {c : Int32} (h : c < (0 : Int32) ∨ ¬ c < (128 : Int32)) : own_e c = (4 : Int32) := if_pos h
theorem own_eal (c : Int32) : own_al c = own_e c := by
  by_cases h : c < (0 : Int32) ∨ ¬ c < (128 : Int32)
  · rw [own_e4 h]
    exact own_al4 (fun q => by rw [q] at h; exact absurd h (by decide)) (fun q => by rw [q] at h; exact absurd h (by decide)) (fun q => by rw [q] at h; exact absurd h (by decide)) (fun q => by rw [q] at h; exact absurd h (by decide)) (fun q => by rw [q] at h; exact absurd h (by decide)) (fun q => by rw [q] at h; exact absurd h (by decide)) (fun q => by rw [q] at h; exact absurd h (by decide)) (fun q => by rw [q] at h; exact absurd h (by decide)) (fun q => by rw [q] at h; exact absurd h (by decide)) (fun q => by rw [q] at h; exact absurd h (by decide))
  · rw [own_e, if_neg h]
theorem own_q {c : Int32} (h0 : ¬ c < (0 : Int32)) (h1 : c < (128 : Int32)) : (c / (10 : Int32)) = (0 : Int32) ∨ (c / (10 : Int32)) = (1 : Int32) ∨ (c / (10 : Int32)) = (2 : Int32) ∨ (c / (10 : Int32)) = (3 : Int32) ∨ (c / (10 : Int32)) = (4 : Int32) ∨ (c / (10 : Int32)) = (5 : Int32) ∨ (c / (10 : Int32)) = (6 : Int32) ∨ (c / (10 : Int32)) = (7 : Int32) ∨ (c / (10 : Int32)) = (8 : Int32) ∨ (c / (10 : Int32)) = (9 : Int32) ∨ (c / (10 : Int32)) = (10 : Int32) ∨ (c / (10 : Int32)) = (11 : Int32) ∨ (c / (10 : Int32)) = (12 : Int32) := by
  obtain ⟨k, rfl⟩ := own_f128 h0 h1
  exact (show ∀ k : Fin 128, ((Int32.ofNat k.val) / (10 : Int32)) = (0 : Int32) ∨ ((Int32.ofNat k.val) / (10 : Int32)) = (1 : Int32) ∨ ((Int32.ofNat k.val) / (10 : Int32)) = (2 : Int32) ∨ ((Int32.ofNat k.val) / (10 : Int32)) = (3 : Int32) ∨ ((Int32.ofNat k.val) / (10 : Int32)) = (4 : Int32) ∨ ((Int32.ofNat k.val) / (10 : Int32)) = (5 : Int32) ∨ ((Int32.ofNat k.val) / (10 : Int32)) = (6 : Int32) ∨ ((Int32.ofNat k.val) / (10 : Int32)) = (7 : Int32) ∨ ((Int32.ofNat k.val) / (10 : Int32)) = (8 : Int32) ∨ ((Int32.ofNat k.val) / (10 : Int32)) = (9 : Int32) ∨ ((Int32.ofNat k.val) / (10 : Int32)) = (10 : Int32) ∨ ((Int32.ofNat k.val) / (10 : Int32)) = (11 : Int32) ∨ ((Int32.ofNat k.val) / (10 : Int32)) = (12 : Int32) from by decide +kernel) k
theorem own_r {c : Int32} (h0 : ¬ c < (0 : Int32)) (h1 : c < (128 : Int32)) : ¬ (c % (10 : Int32)) < (0 : Int32) ∧ (c % (10 : Int32)) < (10 : Int32) := by
  obtain ⟨k, rfl⟩ := own_f128 h0 h1
  exact (show ∀ k : Fin 128, ¬ ((Int32.ofNat k.val) % (10 : Int32)) < (0 : Int32) ∧ ((Int32.ofNat k.val) % (10 : Int32)) < (10 : Int32) from by decide +kernel) k
def own_row (k : Int32) : List Int32 := if k = (0 : Int32) then [(52 : Int32), (52 : Int32), (52 : Int32), (52 : Int32), (52 : Int32), (52 : Int32), (52 : Int32), (52 : Int32), (52 : Int32), (52 : Int32)] else if k = (1 : Int32) then [(52 : Int32), (52 : Int32), (52 : Int32), (52 : Int32), (52 : Int32), (52 : Int32), (52 : Int32), (52 : Int32), (52 : Int32), (52 : Int32)] else if k = (2 : Int32) then [(52 : Int32), (52 : Int32), (52 : Int32), (52 : Int32), (52 : Int32), (52 : Int32), (52 : Int32), (52 : Int32), (52 : Int32), (52 : Int32)] else if k = (3 : Int32) then [(52 : Int32), (52 : Int32), (52 : Int32), (52 : Int32), (52 : Int32), (52 : Int32), (52 : Int32), (52 : Int32), (52 : Int32), (52 : Int32)] else if k = (4 : Int32) then [(56 : Int32), (52 : Int32), (52 : Int32), (52 : Int32), (52 : Int32), (52 : Int32), (52 : Int32), (52 : Int32), (52 : Int32), (52 : Int32)] else if k = (5 : Int32) then [(52 : Int32), (52 : Int32), (52 : Int32), (52 : Int32), (52 : Int32), (52 : Int32), (52 : Int32), (52 : Int32), (52 : Int32), (52 : Int32)] else if k = (6 : Int32) then [(52 : Int32), (52 : Int32), (52 : Int32), (52 : Int32), (52 : Int32), (52 : Int32), (52 : Int32), (52 : Int32), (52 : Int32), (52 : Int32)] else if k = (7 : Int32) then [(52 : Int32), (52 : Int32), (52 : Int32), (52 : Int32), (52 : Int32), (52 : Int32), (52 : Int32), (52 : Int32), (52 : Int32), (52 : Int32)] else if k = (8 : Int32) then [(52 : Int32), (52 : Int32), (52 : Int32), (52 : Int32), (52 : Int32), (52 : Int32), (52 : Int32), (52 : Int32), (52 : Int32), (52 : Int32)] else if k = (9 : Int32) then [(52 : Int32), (52 : Int32), (52 : Int32), (52 : Int32), (52 : Int32), (52 : Int32), (52 : Int32), (52 : Int32), (52 : Int32), (52 : Int32)] else if k = (10 : Int32) then [(56 : Int32), (52 : Int32), (52 : Int32), (49 : Int32), (52 : Int32), (52 : Int32), (52 : Int32), (52 : Int32), (52 : Int32), (52 : Int32)] else if k = (11 : Int32) then [(50 : Int32), (52 : Int32), (52 : Int32), (50 : Int32), (52 : Int32), (52 : Int32), (56 : Int32), (52 : Int32), (49 : Int32), (52 : Int32)] else if k = (12 : Int32) then [(56 : Int32), (49 : Int32), (52 : Int32), (56 : Int32), (52 : Int32), (52 : Int32), (52 : Int32), (52 : Int32), (52 : Int32), (52 : Int32)] else []
theorem own_e1 {c k : Int32} {l : List Int32} (h0 : ¬ c < (0 : Int32)) (h1 : c < (128 : Int32)) (hq : (c / (10 : Int32)) = k) (hl : own_row k = l) : (own_ch (own_ls l (c % (10 : Int32))) - (48 : Int32)) = own_e c := by
  subst hl
  subst hq
  obtain ⟨k, rfl⟩ := own_f128 h0 h1
  exact (show ∀ k : Fin 128, (own_ch (own_ls (own_row ((Int32.ofNat k.val) / (10 : Int32))) ((Int32.ofNat k.val) % (10 : Int32))) - (48 : Int32)) = own_e (Int32.ofNat k.val) from by decide +kernel) k

theorem own_miss {c : Int32} (n40 : ¬ c = (40 : Int32)) (n100 : ¬ c = (100 : Int32)) (n103 : ¬ c = (103 : Int32)) (n110 : ¬ c = (110 : Int32)) (n113 : ¬ c = (113 : Int32)) (n116 : ¬ c = (116 : Int32)) (n118 : ¬ c = (118 : Int32)) (n120 : ¬ c = (120 : Int32)) (n121 : ¬ c = (121 : Int32)) (n123 : ¬ c = (123 : Int32)) : (#[(40, 101), (100, 101), (103, 91), (110, 96), (113, 96), (116, 101), (118, 91), (120, 101), (121, 91), (123, 101)] : Array (Int × Int)).find? (·.1 == c.toInt) = none := by
  refine find_miss fun p hp => ?_
  simp only [List.mem_cons, List.not_mem_nil, or_false] at hp
  rcases hp with rfl | rfl | rfl | rfl | rfl | rfl | rfl | rfl | rfl | rfl
  · exact fun q => n40 (Int32.toInt_inj.mp (q.symm.trans rfl))
  · exact fun q => n100 (Int32.toInt_inj.mp (q.symm.trans rfl))
  · exact fun q => n103 (Int32.toInt_inj.mp (q.symm.trans rfl))
  · exact fun q => n110 (Int32.toInt_inj.mp (q.symm.trans rfl))
  · exact fun q => n113 (Int32.toInt_inj.mp (q.symm.trans rfl))
  · exact fun q => n116 (Int32.toInt_inj.mp (q.symm.trans rfl))
  · exact fun q => n118 (Int32.toInt_inj.mp (q.symm.trans rfl))
  · exact fun q => n120 (Int32.toInt_inj.mp (q.symm.trans rfl))
  · exact fun q => n121 (Int32.toInt_inj.mp (q.symm.trans rfl))
  · exact fun q => n123 (Int32.toInt_inj.mp (q.symm.trans rfl))

theorem ef_rm1 (m : MethodId) (x0 : Int32) : entryFrame m #[(.int x0)] 2 = mkF m 0 #[.val (.int x0), .unset] [] := by first | (simp [entryFrame, mkF, argsToLocals, Value.category]; done) | rfl
def Q1 (Z : State) (p0 : Int32) (h0 : Heap) (n0 : Nat) (v : Option Value) (h : Heap) (L : List Loc) : Prop := v = some (.int (own_al p0)) ∧ Fr n0 L ∧ h = h0
set_option maxRecDepth 65536 in
set_option maxHeartbeats 40000000 in
theorem rm1 (l : Launch) (Z : State) (aw : Array Value) (hw : ∀ d ∈ tables_1, d.before aw Z = true) (ws : List Jvm.Cond) (p0 : Int32) (h0 : Heap) (n0 : Nat) (Z0 : n0 ≤ h0.size) :
    MetFree l (⟨"com/example/nidra/nidra/dbus/Unmarshaller", "alignment", "(I)I"⟩ : MethodName) (head1 (Jvm.Cond.code (⟨"com/example/nidra/nidra/dbus/Unmarshaller", "alignment", "(I)I"⟩ : MethodName) prog_7_method_2_code 2 (some .int) :: ws) ({ frames := 0, cells := 0, slots := 0, locals := 0 } : Room)) (fun a U => a = #[(.int p0)] ∧ Z.Warmed39 U.vm ∧ U.heap = h0) (fun _ _ _ _ _ => True) (fun _ U o U' => ∃ v L, o = .returned v ∧ Q1 Z p0 h0 n0 v U'.heap L ∧ FrameEnd U o U' L ({ frames := 0, cells := 0, slots := 0, locals := 0 } : Room).cells ({ frames := 0, cells := 0, slots := 0, locals := 0 } : Room).slots) := by
  refine MetFree.of_bodySF (plainFor_of_name pn_com_example_nidra_nidra_dbus_Unmarshaller) hisR ?_
  intro p e s m args below meth c s₁ Bd hml0 hP hK
  obtain ⟨rfl, hZ, hh⟩ := hP
  have hx := Bd.exec
  have hby := Bd.bytes
  have hml : c.maxLocals = 2 := hml0
  have hown : s.vm.findClass "com/example/nidra/nidra/dbus/Unmarshaller" = some m.cls := findClass_of_methodNamed Bd.named
  have hnm := (name_of_methodNamed Bd.named Bd.method).1
  have X0 : Stand p l e ({ frames := 0, cells := 0, slots := 0, locals := 0 } : Room) s m #[(.int p0)] below meth c s₁ [] 0 0 := Stand.of_body Bd
  have e0 : s₁.heap = h0 := by rw [← hh, Bd.state]; rfl
  have N0 := Fr.nil n0
  refine own_go (Q := Q1 Z p0 h0 n0) ?_
  refine Go.to (g' := (mkF m 0 #[.val (.int p0), .unset] [])) (fun t k => castTop (ef_rm1 m p0) k) ?_
  refine Go.to (g' := (mkF m 1 #[.val (.int p0), .unset] [(.int p0)])) (fun t k => XS.iloadN X0.here hx rfl (hb hby d1_0) rfl k) ?_
  by_cases k40 : p0 = (40 : Int32)
  · refine Go.to (g' := (mkF m 102 #[.val (.int p0), .unset] [])) (fun t k => X0.lookupswitchHit hx (g := (mkF m 1 #[.val (.int p0), .unset] [(.int p0)])) rfl (k := p0) (rest := []) rfl (hb hby d1_1) (by decide) (a := 40) (off := 101) (by rw [k40]; decide) (by show (0 : Int) ≤ ((1 : Nat) : Int) + 101; decide) _ k) ?_
    refine Go.to (g' := (mkF m 104 #[.val (.int p0), .unset] [(.int (8 : Int32))])) (fun t k => XS.bipush X0.here hx rfl (hb hby d1_102) k) ?_
    refine Go.to (g' := (mkF m 105 #[.val (.int p0), .val (.int (8 : Int32))] [])) (fun t k => XS.istoreN X0.here hx rfl (hb hby d1_104) rfl (l' := #[.val (.int p0), .val (.int (8 : Int32))]) rfl k) ?_
    refine Go.to (g' := (mkF m 110 #[.val (.int p0), .val (.int (8 : Int32))] [])) (fun t k => XS.goto X0.here hx rfl (pc0 := 105) (pc' := 110) rfl (hb hby d1_105) (by decide) (by decide) k) ?_
    refine Go.to (g' := (mkF m 111 #[.val (.int p0), .val (.int (8 : Int32))] [(.int (8 : Int32))])) (fun t k => XS.iloadN X0.here hx rfl (hb hby d1_110) rfl k) ?_
    exact Go.retI X0 hx Bd.returns Bd.notSynchronized (hb hby d1_111) (by decide) (by decide) e0 ⟨by rw [k40]; rfl, N0, rfl⟩
  · by_cases k100 : p0 = (100 : Int32)
    · refine Go.to (g' := (mkF m 102 #[.val (.int p0), .unset] [])) (fun t k => X0.lookupswitchHit hx (g := (mkF m 1 #[.val (.int p0), .unset] [(.int p0)])) rfl (k := p0) (rest := []) rfl (hb hby d1_1) (by decide) (a := 100) (off := 101) (by rw [k100]; decide) (by show (0 : Int) ≤ ((1 : Nat) : Int) + 101; decide) _ k) ?_
      refine Go.to (g' := (mkF m 104 #[.val (.int p0), .unset] [(.int (8 : Int32))])) (fun t k => XS.bipush X0.here hx rfl (hb hby d1_102) k) ?_
      refine Go.to (g' := (mkF m 105 #[.val (.int p0), .val (.int (8 : Int32))] [])) (fun t k => XS.istoreN X0.here hx rfl (hb hby d1_104) rfl (l' := #[.val (.int p0), .val (.int (8 : Int32))]) rfl k) ?_
      refine Go.to (g' := (mkF m 110 #[.val (.int p0), .val (.int (8 : Int32))] [])) (fun t k => XS.goto X0.here hx rfl (pc0 := 105) (pc' := 110) rfl (hb hby d1_105) (by decide) (by decide) k) ?_
      refine Go.to (g' := (mkF m 111 #[.val (.int p0), .val (.int (8 : Int32))] [(.int (8 : Int32))])) (fun t k => XS.iloadN X0.here hx rfl (hb hby d1_110) rfl k) ?_
      exact Go.retI X0 hx Bd.returns Bd.notSynchronized (hb hby d1_111) (by decide) (by decide) e0 ⟨by rw [k100]; rfl, N0, rfl⟩
    · by_cases k103 : p0 = (103 : Int32)
      · refine Go.to (g' := (mkF m 92 #[.val (.int p0), .unset] [])) (fun t k => X0.lookupswitchHit hx (g := (mkF m 1 #[.val (.int p0), .unset] [(.int p0)])) rfl (k := p0) (rest := []) rfl (hb hby d1_1) (by decide) (a := 103) (off := 91) (by rw [k103]; decide) (by show (0 : Int) ≤ ((1 : Nat) : Int) + 91; decide) _ k) ?_
        refine Go.to (g' := (mkF m 93 #[.val (.int p0), .unset] [(.int (1 : Int32))])) (fun t k => XS.iconst X0.here hx rfl (hb hby d1_92) k) ?_
        refine Go.to (g' := (mkF m 94 #[.val (.int p0), .val (.int (1 : Int32))] [])) (fun t k => XS.istoreN X0.here hx rfl (hb hby d1_93) rfl (l' := #[.val (.int p0), .val (.int (1 : Int32))]) rfl k) ?_
        refine Go.to (g' := (mkF m 110 #[.val (.int p0), .val (.int (1 : Int32))] [])) (fun t k => XS.goto X0.here hx rfl (pc0 := 94) (pc' := 110) rfl (hb hby d1_94) (by decide) (by decide) k) ?_
        refine Go.to (g' := (mkF m 111 #[.val (.int p0), .val (.int (1 : Int32))] [(.int (1 : Int32))])) (fun t k => XS.iloadN X0.here hx rfl (hb hby d1_110) rfl k) ?_
        exact Go.retI X0 hx Bd.returns Bd.notSynchronized (hb hby d1_111) (by decide) (by decide) e0 ⟨by rw [k103]; rfl, N0, rfl⟩
      · by_cases k110 : p0 = (110 : Int32)
        · refine Go.to (g' := (mkF m 97 #[.val (.int p0), .unset] [])) (fun t k => X0.lookupswitchHit hx (g := (mkF m 1 #[.val (.int p0), .unset] [(.int p0)])) rfl (k := p0) (rest := []) rfl (hb hby d1_1) (by decide) (a := 110) (off := 96) (by rw [k110]; decide) (by show (0 : Int) ≤ ((1 : Nat) : Int) + 96; decide) _ k) ?_
          refine Go.to (g' := (mkF m 98 #[.val (.int p0), .unset] [(.int (2 : Int32))])) (fun t k => XS.iconst X0.here hx rfl (hb hby d1_97) k) ?_
          refine Go.to (g' := (mkF m 99 #[.val (.int p0), .val (.int (2 : Int32))] [])) (fun t k => XS.istoreN X0.here hx rfl (hb hby d1_98) rfl (l' := #[.val (.int p0), .val (.int (2 : Int32))]) rfl k) ?_
          refine Go.to (g' := (mkF m 110 #[.val (.int p0), .val (.int (2 : Int32))] [])) (fun t k => XS.goto X0.here hx rfl (pc0 := 99) (pc' := 110) rfl (hb hby d1_99) (by decide) (by decide) k) ?_
          refine Go.to (g' := (mkF m 111 #[.val (.int p0), .val (.int (2 : Int32))] [(.int (2 : Int32))])) (fun t k => XS.iloadN X0.here hx rfl (hb hby d1_110) rfl k) ?_
          exact Go.retI X0 hx Bd.returns Bd.notSynchronized (hb hby d1_111) (by decide) (by decide) e0 ⟨by rw [k110]; rfl, N0, rfl⟩
        · by_cases k113 : p0 = (113 : Int32)
          · refine Go.to (g' := (mkF m 97 #[.val (.int p0), .unset] [])) (fun t k => X0.lookupswitchHit hx (g := (mkF m 1 #[.val (.int p0), .unset] [(.int p0)])) rfl (k := p0) (rest := []) rfl (hb hby d1_1) (by decide) (a := 113) (off := 96) (by rw [k113]; decide) (by show (0 : Int) ≤ ((1 : Nat) : Int) + 96; decide) _ k) ?_
            refine Go.to (g' := (mkF m 98 #[.val (.int p0), .unset] [(.int (2 : Int32))])) (fun t k => XS.iconst X0.here hx rfl (hb hby d1_97) k) ?_
            refine Go.to (g' := (mkF m 99 #[.val (.int p0), .val (.int (2 : Int32))] [])) (fun t k => XS.istoreN X0.here hx rfl (hb hby d1_98) rfl (l' := #[.val (.int p0), .val (.int (2 : Int32))]) rfl k) ?_
            refine Go.to (g' := (mkF m 110 #[.val (.int p0), .val (.int (2 : Int32))] [])) (fun t k => XS.goto X0.here hx rfl (pc0 := 99) (pc' := 110) rfl (hb hby d1_99) (by decide) (by decide) k) ?_
            refine Go.to (g' := (mkF m 111 #[.val (.int p0), .val (.int (2 : Int32))] [(.int (2 : Int32))])) (fun t k => XS.iloadN X0.here hx rfl (hb hby d1_110) rfl k) ?_
            exact Go.retI X0 hx Bd.returns Bd.notSynchronized (hb hby d1_111) (by decide) (by decide) e0 ⟨by rw [k113]; rfl, N0, rfl⟩
          · by_cases k116 : p0 = (116 : Int32)
            · refine Go.to (g' := (mkF m 102 #[.val (.int p0), .unset] [])) (fun t k => X0.lookupswitchHit hx (g := (mkF m 1 #[.val (.int p0), .unset] [(.int p0)])) rfl (k := p0) (rest := []) rfl (hb hby d1_1) (by decide) (a := 116) (off := 101) (by rw [k116]; decide) (by show (0 : Int) ≤ ((1 : Nat) : Int) + 101; decide) _ k) ?_
              refine Go.to (g' := (mkF m 104 #[.val (.int p0), .unset] [(.int (8 : Int32))])) (fun t k => XS.bipush X0.here hx rfl (hb hby d1_102) k) ?_
              refine Go.to (g' := (mkF m 105 #[.val (.int p0), .val (.int (8 : Int32))] [])) (fun t k => XS.istoreN X0.here hx rfl (hb hby d1_104) rfl (l' := #[.val (.int p0), .val (.int (8 : Int32))]) rfl k) ?_
              refine Go.to (g' := (mkF m 110 #[.val (.int p0), .val (.int (8 : Int32))] [])) (fun t k => XS.goto X0.here hx rfl (pc0 := 105) (pc' := 110) rfl (hb hby d1_105) (by decide) (by decide) k) ?_
              refine Go.to (g' := (mkF m 111 #[.val (.int p0), .val (.int (8 : Int32))] [(.int (8 : Int32))])) (fun t k => XS.iloadN X0.here hx rfl (hb hby d1_110) rfl k) ?_
              exact Go.retI X0 hx Bd.returns Bd.notSynchronized (hb hby d1_111) (by decide) (by decide) e0 ⟨by rw [k116]; rfl, N0, rfl⟩
            · by_cases k118 : p0 = (118 : Int32)
              · refine Go.to (g' := (mkF m 92 #[.val (.int p0), .unset] [])) (fun t k => X0.lookupswitchHit hx (g := (mkF m 1 #[.val (.int p0), .unset] [(.int p0)])) rfl (k := p0) (rest := []) rfl (hb hby d1_1) (by decide) (a := 118) (off := 91) (by rw [k118]; decide) (by show (0 : Int) ≤ ((1 : Nat) : Int) + 91; decide) _ k) ?_
                refine Go.to (g' := (mkF m 93 #[.val (.int p0), .unset] [(.int (1 : Int32))])) (fun t k => XS.iconst X0.here hx rfl (hb hby d1_92) k) ?_
                refine Go.to (g' := (mkF m 94 #[.val (.int p0), .val (.int (1 : Int32))] [])) (fun t k => XS.istoreN X0.here hx rfl (hb hby d1_93) rfl (l' := #[.val (.int p0), .val (.int (1 : Int32))]) rfl k) ?_
                refine Go.to (g' := (mkF m 110 #[.val (.int p0), .val (.int (1 : Int32))] [])) (fun t k => XS.goto X0.here hx rfl (pc0 := 94) (pc' := 110) rfl (hb hby d1_94) (by decide) (by decide) k) ?_
                refine Go.to (g' := (mkF m 111 #[.val (.int p0), .val (.int (1 : Int32))] [(.int (1 : Int32))])) (fun t k => XS.iloadN X0.here hx rfl (hb hby d1_110) rfl k) ?_
                exact Go.retI X0 hx Bd.returns Bd.notSynchronized (hb hby d1_111) (by decide) (by decide) e0 ⟨by rw [k118]; rfl, N0, rfl⟩
              · by_cases k120 : p0 = (120 : Int32)
                · refine Go.to (g' := (mkF m 102 #[.val (.int p0), .unset] [])) (fun t k => X0.lookupswitchHit hx (g := (mkF m 1 #[.val (.int p0), .unset] [(.int p0)])) rfl (k := p0) (rest := []) rfl (hb hby d1_1) (by decide) (a := 120) (off := 101) (by rw [k120]; decide) (by show (0 : Int) ≤ ((1 : Nat) : Int) + 101; decide) _ k) ?_
                  refine Go.to (g' := (mkF m 104 #[.val (.int p0), .unset] [(.int (8 : Int32))])) (fun t k => XS.bipush X0.here hx rfl (hb hby d1_102) k) ?_
                  refine Go.to (g' := (mkF m 105 #[.val (.int p0), .val (.int (8 : Int32))] [])) (fun t k => XS.istoreN X0.here hx rfl (hb hby d1_104) rfl (l' := #[.val (.int p0), .val (.int (8 : Int32))]) rfl k) ?_
                  refine Go.to (g' := (mkF m 110 #[.val (.int p0), .val (.int (8 : Int32))] [])) (fun t k => XS.goto X0.here hx rfl (pc0 := 105) (pc' := 110) rfl (hb hby d1_105) (by decide) (by decide) k) ?_
                  refine Go.to (g' := (mkF m 111 #[.val (.int p0), .val (.int (8 : Int32))] [(.int (8 : Int32))])) (fun t k => XS.iloadN X0.here hx rfl (hb hby d1_110) rfl k) ?_
                  exact Go.retI X0 hx Bd.returns Bd.notSynchronized (hb hby d1_111) (by decide) (by decide) e0 ⟨by rw [k120]; rfl, N0, rfl⟩
                · by_cases k121 : p0 = (121 : Int32)
                  · refine Go.to (g' := (mkF m 92 #[.val (.int p0), .unset] [])) (fun t k => X0.lookupswitchHit hx (g := (mkF m 1 #[.val (.int p0), .unset] [(.int p0)])) rfl (k := p0) (rest := []) rfl (hb hby d1_1) (by decide) (a := 121) (off := 91) (by rw [k121]; decide) (by show (0 : Int) ≤ ((1 : Nat) : Int) + 91; decide) _ k) ?_
                    refine Go.to (g' := (mkF m 93 #[.val (.int p0), .unset] [(.int (1 : Int32))])) (fun t k => XS.iconst X0.here hx rfl (hb hby d1_92) k) ?_
                    refine Go.to (g' := (mkF m 94 #[.val (.int p0), .val (.int (1 : Int32))] [])) (fun t k => XS.istoreN X0.here hx rfl (hb hby d1_93) rfl (l' := #[.val (.int p0), .val (.int (1 : Int32))]) rfl k) ?_
                    refine Go.to (g' := (mkF m 110 #[.val (.int p0), .val (.int (1 : Int32))] [])) (fun t k => XS.goto X0.here hx rfl (pc0 := 94) (pc' := 110) rfl (hb hby d1_94) (by decide) (by decide) k) ?_
                    refine Go.to (g' := (mkF m 111 #[.val (.int p0), .val (.int (1 : Int32))] [(.int (1 : Int32))])) (fun t k => XS.iloadN X0.here hx rfl (hb hby d1_110) rfl k) ?_
                    exact Go.retI X0 hx Bd.returns Bd.notSynchronized (hb hby d1_111) (by decide) (by decide) e0 ⟨by rw [k121]; rfl, N0, rfl⟩
                  · by_cases k123 : p0 = (123 : Int32)
                    · refine Go.to (g' := (mkF m 102 #[.val (.int p0), .unset] [])) (fun t k => X0.lookupswitchHit hx (g := (mkF m 1 #[.val (.int p0), .unset] [(.int p0)])) rfl (k := p0) (rest := []) rfl (hb hby d1_1) (by decide) (a := 123) (off := 101) (by rw [k123]; decide) (by show (0 : Int) ≤ ((1 : Nat) : Int) + 101; decide) _ k) ?_
                      refine Go.to (g' := (mkF m 104 #[.val (.int p0), .unset] [(.int (8 : Int32))])) (fun t k => XS.bipush X0.here hx rfl (hb hby d1_102) k) ?_
                      refine Go.to (g' := (mkF m 105 #[.val (.int p0), .val (.int (8 : Int32))] [])) (fun t k => XS.istoreN X0.here hx rfl (hb hby d1_104) rfl (l' := #[.val (.int p0), .val (.int (8 : Int32))]) rfl k) ?_
                      refine Go.to (g' := (mkF m 110 #[.val (.int p0), .val (.int (8 : Int32))] [])) (fun t k => XS.goto X0.here hx rfl (pc0 := 105) (pc' := 110) rfl (hb hby d1_105) (by decide) (by decide) k) ?_
                      refine Go.to (g' := (mkF m 111 #[.val (.int p0), .val (.int (8 : Int32))] [(.int (8 : Int32))])) (fun t k => XS.iloadN X0.here hx rfl (hb hby d1_110) rfl k) ?_
                      exact Go.retI X0 hx Bd.returns Bd.notSynchronized (hb hby d1_111) (by decide) (by decide) e0 ⟨by rw [k123]; rfl, N0, rfl⟩
                    · refine Go.to (g' := (mkF m 108 #[.val (.int p0), .unset] [])) (fun t k => X0.lookupswitchMiss hx (g := (mkF m 1 #[.val (.int p0), .unset] [(.int p0)])) rfl (k := p0) (rest := []) rfl (hb hby d1_1) (by decide) (own_miss k40 k100 k103 k110 k113 k116 k118 k120 k121 k123) (by show (0 : Int) ≤ ((1 : Nat) : Int) + 107; decide) _ k) ?_
                      refine Go.to (g' := (mkF m 109 #[.val (.int p0), .unset] [(.int (4 : Int32))])) (fun t k => XS.iconst X0.here hx rfl (hb hby d1_108) k) ?_
                      refine Go.to (g' := (mkF m 110 #[.val (.int p0), .val (.int (4 : Int32))] [])) (fun t k => XS.istoreN X0.here hx rfl (hb hby d1_109) rfl (l' := #[.val (.int p0), .val (.int (4 : Int32))]) rfl k) ?_
                      refine Go.to (g' := (mkF m 111 #[.val (.int p0), .val (.int (4 : Int32))] [(.int (4 : Int32))])) (fun t k => XS.iloadN X0.here hx rfl (hb hby d1_110) rfl k) ?_
                      exact Go.retI X0 hx Bd.returns Bd.notSynchronized (hb hby d1_111) (by decide) (by decide) e0 ⟨by rw [own_al4 k40 k100 k103 k110 k113 k116 k118 k120 k121 k123], N0, rfl⟩

theorem ef_rm9n (m : MethodId) (x0 : Int32) (x1 : Int32) : entryFrame m #[(.int x0), (.int x1), .null] 3 = mkF m 0 #[.val (.int x0), .val (.int x1), .val .null] [] := by first | (simp [entryFrame, mkF, argsToLocals, Value.category]; done) | rfl
def Q9n (Z : State) (p0 : Int32) (p1 : Int32) (h0 : Heap) (n0 : Nat) (v : Option Value) (h : Heap) (L : List Loc) : Prop := v = some (.int p0) ∧ Fr n0 L ∧ h = h0
set_option maxRecDepth 65536 in
set_option maxHeartbeats 40000000 in
theorem rm9n (l : Launch) (Z : State) (aw : Array Value) (hw : ∀ d ∈ tables_1, d.before aw Z = true) (ws : List Jvm.Cond) (p0 : Int32) (p1 : Int32) (h0 : Heap) (n0 : Nat) (Z0 : n0 ≤ h0.size) (h1 : ¬ p0 < (0 : Int32)) (h2 : p0 < p1) :
    MetFree l (⟨"jdk/internal/util/Preconditions", "checkIndex", "(IILjava/util/function/BiFunction;)I"⟩ : MethodName) (head1 (Jvm.Cond.code (⟨"jdk/internal/util/Preconditions", "checkIndex", "(IILjava/util/function/BiFunction;)I"⟩ : MethodName) jdk_41_method_11_code 3 (some .int) :: ws) ({ frames := 0, cells := 0, slots := 0, locals := 0 } : Room)) (fun a U => a = #[(.int p0), (.int p1), .null] ∧ Z.Warmed39 U.vm ∧ U.heap = h0) (fun _ _ _ _ _ => True) (fun _ U o U' => ∃ v L, o = .returned v ∧ Q9n Z p0 p1 h0 n0 v U'.heap L ∧ FrameEnd U o U' L ({ frames := 0, cells := 0, slots := 0, locals := 0 } : Room).cells ({ frames := 0, cells := 0, slots := 0, locals := 0 } : Room).slots) := by
  refine MetFree.of_bodySF (plainFor_of_name pn_jdk_internal_util_Preconditions) hisR ?_
  intro p e s m args below meth c s₁ Bd hml0 hP hK
  obtain ⟨rfl, hZ, hh⟩ := hP
  have hx := Bd.exec
  have hby := Bd.bytes
  have hml : c.maxLocals = 3 := hml0
  have hown : s.vm.findClass "jdk/internal/util/Preconditions" = some m.cls := findClass_of_methodNamed Bd.named
  have hnm := (name_of_methodNamed Bd.named Bd.method).1
  have X0 : Stand p l e ({ frames := 0, cells := 0, slots := 0, locals := 0 } : Room) s m #[(.int p0), (.int p1), .null] below meth c s₁ [] 0 0 := Stand.of_body Bd
  have e0 : s₁.heap = h0 := by rw [← hh, Bd.state]; rfl
  have N0 := Fr.nil n0
  refine own_go (Q := Q9n Z p0 p1 h0 n0) ?_
  refine Go.to (g' := (mkF m 0 #[.val (.int p0), .val (.int p1), .val .null] [])) (fun t k => castTop (ef_rm9n m p0 p1) k) ?_
  refine Go.to (g' := (mkF m 1 #[.val (.int p0), .val (.int p1), .val .null] [(.int p0)])) (fun t k => XS.iloadN X0.here hx rfl (hb hby d7_0) rfl k) ?_
  refine Go.to (g' := (mkF m 4 #[.val (.int p0), .val (.int p1), .val .null] [])) (fun t k => XS.ifNo X0.here hx rfl (hb hby d7_1) rfl ((if0 _ _).trans (flt h1).1) k) ?_
  refine Go.to (g' := (mkF m 5 #[.val (.int p0), .val (.int p1), .val .null] [(.int p0)])) (fun t k => XS.iloadN X0.here hx rfl (hb hby d7_4) rfl k) ?_
  refine Go.to (g' := (mkF m 6 #[.val (.int p0), .val (.int p1), .val .null] [(.int p1), (.int p0)])) (fun t k => XS.iloadN X0.here hx rfl (hb hby d7_5) rfl k) ?_
  refine Go.to (g' := (mkF m 16 #[.val (.int p0), .val (.int p1), .val .null] [])) (fun t k => XS.icmpYes X0.here hx rfl (pc0 := 6) (pc' := 16) rfl (hb hby d7_6) rfl (tlt h2).1 (by decide) (by decide) k) ?_
  refine Go.to (g' := (mkF m 17 #[.val (.int p0), .val (.int p1), .val .null] [(.int p0)])) (fun t k => XS.iloadN X0.here hx rfl (hb hby d7_16) rfl k) ?_
  exact Go.retI X0 hx Bd.returns Bd.notSynchronized (hb hby d7_17) (by decide) (by decide) e0 ⟨rfl, N0, rfl⟩

theorem ef_rm9r (m : MethodId) (x0 : Int32) (x1 : Int32) (x2 : Addr) : entryFrame m #[(.int x0), (.int x1), (.ref x2)] 3 = mkF m 0 #[.val (.int x0), .val (.int x1), .val (.ref x2)] [] := by first | (simp [entryFrame, mkF, argsToLocals, Value.category]; done) | rfl
def Q9r (Z : State) (p0 : Int32) (p1 : Int32) (a2 : Addr) (h0 : Heap) (n0 : Nat) (v : Option Value) (h : Heap) (L : List Loc) : Prop := v = some (.int p0) ∧ Fr n0 L ∧ h = h0
set_option maxRecDepth 65536 in
set_option maxHeartbeats 40000000 in
theorem rm9r (l : Launch) (Z : State) (aw : Array Value) (hw : ∀ d ∈ tables_1, d.before aw Z = true) (ws : List Jvm.Cond) (p0 : Int32) (p1 : Int32) (a2 : Addr) (h0 : Heap) (n0 : Nat) (Z0 : n0 ≤ h0.size) (h1 : ¬ p0 < (0 : Int32)) (h2 : p0 < p1) :
    MetFree l (⟨"jdk/internal/util/Preconditions", "checkIndex", "(IILjava/util/function/BiFunction;)I"⟩ : MethodName) (head1 (Jvm.Cond.code (⟨"jdk/internal/util/Preconditions", "checkIndex", "(IILjava/util/function/BiFunction;)I"⟩ : MethodName) jdk_41_method_11_code 3 (some .int) :: ws) ({ frames := 0, cells := 0, slots := 0, locals := 0 } : Room)) (fun a U => a = #[(.int p0), (.int p1), (.ref a2)] ∧ Z.Warmed39 U.vm ∧ U.heap = h0) (fun _ _ _ _ _ => True) (fun _ U o U' => ∃ v L, o = .returned v ∧ Q9r Z p0 p1 a2 h0 n0 v U'.heap L ∧ FrameEnd U o U' L ({ frames := 0, cells := 0, slots := 0, locals := 0 } : Room).cells ({ frames := 0, cells := 0, slots := 0, locals := 0 } : Room).slots) := by
  refine MetFree.of_bodySF (plainFor_of_name pn_jdk_internal_util_Preconditions) hisR ?_
  intro p e s m args below meth c s₁ Bd hml0 hP hK
  obtain ⟨rfl, hZ, hh⟩ := hP
  have hx := Bd.exec
  have hby := Bd.bytes
  have hml : c.maxLocals = 3 := hml0
  have hown : s.vm.findClass "jdk/internal/util/Preconditions" = some m.cls := findClass_of_methodNamed Bd.named
  have hnm := (name_of_methodNamed Bd.named Bd.method).1
  have X0 : Stand p l e ({ frames := 0, cells := 0, slots := 0, locals := 0 } : Room) s m #[(.int p0), (.int p1), (.ref a2)] below meth c s₁ [] 0 0 := Stand.of_body Bd
  have e0 : s₁.heap = h0 := by rw [← hh, Bd.state]; rfl
  have N0 := Fr.nil n0
  refine own_go (Q := Q9r Z p0 p1 a2 h0 n0) ?_
  refine Go.to (g' := (mkF m 0 #[.val (.int p0), .val (.int p1), .val (.ref a2)] [])) (fun t k => castTop (ef_rm9r m p0 p1 a2) k) ?_
  refine Go.to (g' := (mkF m 1 #[.val (.int p0), .val (.int p1), .val (.ref a2)] [(.int p0)])) (fun t k => XS.iloadN X0.here hx rfl (hb hby d7_0) rfl k) ?_
  refine Go.to (g' := (mkF m 4 #[.val (.int p0), .val (.int p1), .val (.ref a2)] [])) (fun t k => XS.ifNo X0.here hx rfl (hb hby d7_1) rfl ((if0 _ _).trans (flt h1).1) k) ?_
  refine Go.to (g' := (mkF m 5 #[.val (.int p0), .val (.int p1), .val (.ref a2)] [(.int p0)])) (fun t k => XS.iloadN X0.here hx rfl (hb hby d7_4) rfl k) ?_
  refine Go.to (g' := (mkF m 6 #[.val (.int p0), .val (.int p1), .val (.ref a2)] [(.int p1), (.int p0)])) (fun t k => XS.iloadN X0.here hx rfl (hb hby d7_5) rfl k) ?_
  refine Go.to (g' := (mkF m 16 #[.val (.int p0), .val (.int p1), .val (.ref a2)] [])) (fun t k => XS.icmpYes X0.here hx rfl (pc0 := 6) (pc' := 16) rfl (hb hby d7_6) rfl (tlt h2).1 (by decide) (by decide) k) ?_
  refine Go.to (g' := (mkF m 17 #[.val (.int p0), .val (.int p1), .val (.ref a2)] [(.int p0)])) (fun t k => XS.iloadN X0.here hx rfl (hb hby d7_16) rfl k) ?_
  exact Go.retI X0 hx Bd.returns Bd.notSynchronized (hb hby d7_17) (by decide) (by decide) e0 ⟨rfl, N0, rfl⟩

theorem ef_rm6 (m : MethodId) (x0 : Int32) (x1 : Int32) : entryFrame m #[(.int x0), (.int x1)] 2 = mkF m 0 #[.val (.int x0), .val (.int x1)] [] := by first | (simp [entryFrame, mkF, argsToLocals, Value.category]; done) | rfl
def Q6 (Z : State) (p0 : Int32) (p1 : Int32) (cs : Int32) (sv : Value) (h0 : Heap) (n0 : Nat) (v : Option Value) (h : Heap) (L : List Loc) : Prop := v = none ∧ Fr n0 L ∧ h = h0
set_option maxRecDepth 65536 in
set_option maxHeartbeats 40000000 in
theorem rm6 (l : Launch) (Z : State) (aw : Array Value) (hw : ∀ d ∈ tables_1, d.before aw Z = true) (ws : List Jvm.Cond) (p0 : Int32) (p1 : Int32) (cs : Int32) (sv : Value) (h0 : Heap) (n0 : Nat) (Z0 : n0 ≤ h0.size) (Sa1 : Sta Z h0 "java/lang/String" "COMPACT_STRINGS" "Z" (.int cs)) (Sa2 : Sta Z h0 "jdk/internal/util/Preconditions" "SIOOBE_FORMATTER" "Ljava/util/function/BiFunction;" sv) (hcs : ¬ cs = (0 : Int32)) (hsv : sv.isRef = true) (h1 : ¬ p0 < (0 : Int32)) (h2 : p0 < p1) :
    MetFree l (⟨"java/lang/String", "checkIndex", "(II)V"⟩ : MethodName) (head1 (Jvm.Cond.code (⟨"java/lang/String", "checkIndex", "(II)V"⟩ : MethodName) jdk_42_method_155_code 2 none :: ws) ({ frames := 1, cells := 0, slots := 0, locals := 14 } : Room)) (fun a U => a = #[(.int p0), (.int p1)] ∧ Z.Warmed39 U.vm ∧ U.heap = h0) (fun _ _ _ _ _ => True) (fun _ U o U' => ∃ v L, o = .returned v ∧ Q6 Z p0 p1 cs sv h0 n0 v U'.heap L ∧ FrameEnd U o U' L ({ frames := 1, cells := 0, slots := 0, locals := 14 } : Room).cells ({ frames := 1, cells := 0, slots := 0, locals := 14 } : Room).slots) := by
  refine MetFree.of_bodySF (plainFor_of_name pn_java_lang_String) hisR ?_
  intro p e s m args below meth c s₁ Bd hml0 hP hK
  obtain ⟨rfl, hZ, hh⟩ := hP
  have hx := Bd.exec
  have hby := Bd.bytes
  have hml : c.maxLocals = 2 := hml0
  have hown : s.vm.findClass "java/lang/String" = some m.cls := findClass_of_methodNamed Bd.named
  have hnm := (name_of_methodNamed Bd.named Bd.method).1
  have X0 : Stand p l e ({ frames := 1, cells := 0, slots := 0, locals := 14 } : Room) s m #[(.int p0), (.int p1)] below meth c s₁ [] 0 0 := Stand.of_body Bd
  have e0 : s₁.heap = h0 := by rw [← hh, Bd.state]; rfl
  have N0 := Fr.nil n0
  refine own_go (Q := Q6 Z p0 p1 cs sv h0 n0) ?_
  refine Go.to (g' := (mkF m 0 #[.val (.int p0), .val (.int p1)] [])) (fun t k => castTop (ef_rm6 m p0 p1) k) ?_
  rcases ref_cases hsv with rfl | ⟨sa, rfl⟩
  · refine Go.to (g' := (mkF m 1 #[.val (.int p0), .val (.int p1)] [(.int p0)])) (fun t k => XS.iloadN X0.here hx rfl (hb hby d6_0) rfl k) ?_
    refine Go.to (g' := (mkF m 2 #[.val (.int p0), .val (.int p1)] [(.int p1), (.int p0)])) (fun t k => XS.iloadN X0.here hx rfl (hb hby d6_1) rfl k) ?_
    obtain ⟨T1, X1, e1, st1⟩ := getS2 X0 hx hZ hown (host := "") (Or.inl (hw _ (List.mem_of_getElem? (i := 43) rfl))) Via.refl e0 Sa2 (g := (mkF m 2 #[.val (.int p0), .val (.int p1)] [(.int p1), (.int p0)])) rfl (hb hby d6_2)
    refine Go.to (g' := (mkF m 5 #[.val (.int p0), .val (.int p1)] [.null, (.int p1), (.int p0)])) st1 ?_
    obtain ⟨v2, _, ⟨T2, L2, k2, n2⟩, -, X2, ⟨Lc2, hQ2, l2, y2, z2⟩, st2⟩ := Jvm.LawKit.callS X1 hx (y := (⟨"jdk/internal/util/Preconditions", "checkIndex", "(IILjava/util/function/BiFunction;)I"⟩ : MethodName)) hown (mvT hZ (hw _ (List.mem_of_getElem? (i := 45) rfl))) (mvT hZ (hw _ (List.mem_of_getElem? (i := 46) rfl))) (mvT hZ (hw _ (List.mem_of_getElem? (i := 44) rfl))) (mvT hZ (hw _ (List.mem_of_getElem? (i := 47) rfl))) (by decide) (backOf (W := 0) (rm9n l Z aw hw [] p0 p1  h0 n0 Z0 h1 h2) hZ (hw _ (List.mem_of_getElem? (i := 47) rfl)) (hw _ (List.mem_of_getElem? (i := 44) rfl)) (by decide) (by decide)) (g := (mkF m 5 #[.val (.int p0), .val (.int p1)] [.null, (.int p1), (.int p0)])) rfl (by rw [hml]; rfl) (argsL := [(.int p0), (.int p1), .null]) (rest := []) (lenOf pd_28IILjava2futil2ffunction2fBiFunction3b29I rfl) rfl (by show 2 * 0 + _ ≤ _; exact Nat.le_of_eq rfl) (hb hby d6_5) (fun _ _ => ⟨rfl, e1, (by decide : 0 + 0 ≤ _), (by decide : 0 + 0 ≤ _)⟩)
    dsimp only [Pt.U, Pt.locs, Pt.cells, Pt.slots] at X2 l2 y2 z2 st2 hQ2
    subst l2 y2 z2
    obtain ⟨rfl, N2q, e2⟩ := hQ2
    have N2 := Fr.app N0 N2q
    refine Go.to (g' := (mkF m 8 #[.val (.int p0), .val (.int p1)] [(.int p0)])) st2 ?_
    refine Go.to (g' := (mkF m 9 #[.val (.int p0), .val (.int p1)] [])) (fun t k => XS.pop X2.here hx rfl (hb hby d6_8) rfl rfl k) ?_
    exact Go.ret X2 hx Bd.returns Bd.notSynchronized (hb hby d6_9) (by decide) (by decide) e2 ⟨rfl, N2, rfl⟩
  · refine Go.to (g' := (mkF m 1 #[.val (.int p0), .val (.int p1)] [(.int p0)])) (fun t k => XS.iloadN X0.here hx rfl (hb hby d6_0) rfl k) ?_
    refine Go.to (g' := (mkF m 2 #[.val (.int p0), .val (.int p1)] [(.int p1), (.int p0)])) (fun t k => XS.iloadN X0.here hx rfl (hb hby d6_1) rfl k) ?_
    obtain ⟨T3, X3, e3, st3⟩ := getS2 X0 hx hZ hown (host := "") (Or.inl (hw _ (List.mem_of_getElem? (i := 43) rfl))) Via.refl e0 Sa2 (g := (mkF m 2 #[.val (.int p0), .val (.int p1)] [(.int p1), (.int p0)])) rfl (hb hby d6_2)
    refine Go.to (g' := (mkF m 5 #[.val (.int p0), .val (.int p1)] [(.ref sa), (.int p1), (.int p0)])) st3 ?_
    obtain ⟨v4, _, ⟨T4, L4, k4, n4⟩, -, X4, ⟨Lc4, hQ4, l4, y4, z4⟩, st4⟩ := Jvm.LawKit.callS X3 hx (y := (⟨"jdk/internal/util/Preconditions", "checkIndex", "(IILjava/util/function/BiFunction;)I"⟩ : MethodName)) hown (mvT hZ (hw _ (List.mem_of_getElem? (i := 45) rfl))) (mvT hZ (hw _ (List.mem_of_getElem? (i := 46) rfl))) (mvT hZ (hw _ (List.mem_of_getElem? (i := 44) rfl))) (mvT hZ (hw _ (List.mem_of_getElem? (i := 47) rfl))) (by decide) (backOf (W := 0) (rm9r l Z aw hw [] p0 p1 sa  h0 n0 Z0 h1 h2) hZ (hw _ (List.mem_of_getElem? (i := 47) rfl)) (hw _ (List.mem_of_getElem? (i := 44) rfl)) (by decide) (by decide)) (g := (mkF m 5 #[.val (.int p0), .val (.int p1)] [(.ref sa), (.int p1), (.int p0)])) rfl (by rw [hml]; rfl) (argsL := [(.int p0), (.int p1), (.ref sa)]) (rest := []) (lenOf pd_28IILjava2futil2ffunction2fBiFunction3b29I rfl) rfl (by show 2 * 0 + _ ≤ _; exact Nat.le_of_eq rfl) (hb hby d6_5) (fun _ _ => ⟨rfl, e3, (by decide : 0 + 0 ≤ _), (by decide : 0 + 0 ≤ _)⟩)
    dsimp only [Pt.U, Pt.locs, Pt.cells, Pt.slots] at X4 l4 y4 z4 st4 hQ4
    subst l4 y4 z4
    obtain ⟨rfl, N4q, e4⟩ := hQ4
    have N4 := Fr.app N0 N4q
    refine Go.to (g' := (mkF m 8 #[.val (.int p0), .val (.int p1)] [(.int p0)])) st4 ?_
    refine Go.to (g' := (mkF m 9 #[.val (.int p0), .val (.int p1)] [])) (fun t k => XS.pop X4.here hx rfl (hb hby d6_8) rfl rfl k) ?_
    exact Go.ret X4 hx Bd.returns Bd.notSynchronized (hb hby d6_9) (by decide) (by decide) e4 ⟨rfl, N4, rfl⟩

theorem ef_rm5 (m : MethodId) (x0 : Addr) (x1 : Int32) : entryFrame m #[(.ref x0), (.int x1)] 2 = mkF m 0 #[.val (.ref x0), .val (.int x1)] [] := by first | (simp [entryFrame, mkF, argsToLocals, Value.category]; done) | rfl
def Q5 (Z : State) (a0 : Addr) (p1 : Int32) (zl : Int32) (f : Int32 → Int32) (cs : Int32) (sv : Value) (h0 : Heap) (n0 : Nat) (v : Option Value) (h : Heap) (L : List Loc) : Prop := v = some (.int (own_ch (f p1))) ∧ Fr n0 L ∧ h = h0
set_option maxRecDepth 65536 in
set_option maxHeartbeats 40000000 in
theorem rm5 (l : Launch) (Z : State) (aw : Array Value) (hw : ∀ d ∈ tables_1, d.before aw Z = true) (ws : List Jvm.Cond) (a0 : Addr) (p1 : Int32) (zl : Int32) (f : Int32 → Int32) (cs : Int32) (sv : Value) (h0 : Heap) (n0 : Nat) (Z0 : n0 ≤ h0.size) (A0 : own_Az Z h0 a0 .byte zl f) (Sa1 : Sta Z h0 "java/lang/String" "COMPACT_STRINGS" "Z" (.int cs)) (Sa2 : Sta Z h0 "jdk/internal/util/Preconditions" "SIOOBE_FORMATTER" "Ljava/util/function/BiFunction;" sv) (hcs : ¬ cs = (0 : Int32)) (hsv : sv.isRef = true) (h1 : ¬ p1 < (0 : Int32)) (h2 : p1 < zl) :
    MetFree l (⟨"java/lang/StringLatin1", "charAt", "([BI)C"⟩ : MethodName) (head1 (Jvm.Cond.code (⟨"java/lang/StringLatin1", "charAt", "([BI)C"⟩ : MethodName) jdk_43_method_2_code 2 (some .char) :: ws) ({ frames := 2, cells := 0, slots := 0, locals := 27 } : Room)) (fun a U => a = #[(.ref a0), (.int p1)] ∧ Z.Warmed39 U.vm ∧ U.heap = h0) (fun _ _ _ _ _ => True) (fun _ U o U' => ∃ v L, o = .returned v ∧ Q5 Z a0 p1 zl f cs sv h0 n0 v U'.heap L ∧ FrameEnd U o U' L ({ frames := 2, cells := 0, slots := 0, locals := 27 } : Room).cells ({ frames := 2, cells := 0, slots := 0, locals := 27 } : Room).slots) := by
  refine MetFree.of_bodySF (plainFor_of_name pn_java_lang_StringLatin1) hisR ?_
  intro p e s m args below meth c s₁ Bd hml0 hP hK
  obtain ⟨rfl, hZ, hh⟩ := hP
  have hx := Bd.exec
  have hby := Bd.bytes
  have hml : c.maxLocals = 2 := hml0
  have hown : s.vm.findClass "java/lang/StringLatin1" = some m.cls := findClass_of_methodNamed Bd.named
  have hnm := (name_of_methodNamed Bd.named Bd.method).1
  have X0 : Stand p l e ({ frames := 2, cells := 0, slots := 0, locals := 27 } : Room) s m #[(.ref a0), (.int p1)] below meth c s₁ [] 0 0 := Stand.of_body Bd
  have e0 : s₁.heap = h0 := by rw [← hh, Bd.state]; rfl
  have N0 := Fr.nil n0
  refine own_go (Q := Q5 Z a0 p1 zl f cs sv h0 n0) ?_
  refine Go.to (g' := (mkF m 0 #[.val (.ref a0), .val (.int p1)] [])) (fun t k => castTop (ef_rm5 m a0 p1) k) ?_
  refine Go.to (g' := (mkF m 1 #[.val (.ref a0), .val (.int p1)] [(.int p1)])) (fun t k => XS.iloadN X0.here hx rfl (hb hby d5_0) rfl k) ?_
  refine Go.to (g' := (mkF m 2 #[.val (.ref a0), .val (.int p1)] [(.ref a0), (.int p1)])) (fun t k => XS.aloadN X0.here hx rfl (hb hby d5_1) rfl rfl k) ?_
  obtain ⟨cl1, Ar1, S1, M1, -⟩ := id A0
  refine Go.to (g' := (mkF m 3 #[.val (.ref a0), .val (.int p1)] [(.int zl), (.int p1)])) (fun t k => X0.arraylength hx (by rw [e0]; exact Ar1.1) (State.isArrayOf_alike hZ.alike Ar1.2.1) (g := (mkF m 2 #[.val (.ref a0), .val (.int p1)] [(.ref a0), (.int p1)])) rfl rfl (hb hby d5_2) _ (by rw [len_of S1 M1]; exact k)) ?_
  obtain ⟨v2, _, ⟨T2, L2, k2, n2⟩, -, X2, ⟨Lc2, hQ2, l2, y2, z2⟩, st2⟩ := Jvm.LawKit.callS X0 hx (y := (⟨"java/lang/String", "checkIndex", "(II)V"⟩ : MethodName)) hown (mvT hZ (hw _ (List.mem_of_getElem? (i := 40) rfl))) (mvT hZ (hw _ (List.mem_of_getElem? (i := 41) rfl))) (mvT hZ (hw _ (List.mem_of_getElem? (i := 11) rfl))) (mvT hZ (hw _ (List.mem_of_getElem? (i := 42) rfl))) (by decide) (backOf (W := 0) (rm6 l Z aw hw [] p1 zl cs sv h0 n0 Z0 Sa1 Sa2 hcs hsv h1 h2) hZ (hw _ (List.mem_of_getElem? (i := 42) rfl)) (hw _ (List.mem_of_getElem? (i := 11) rfl)) (by decide) (by decide)) (g := (mkF m 3 #[.val (.ref a0), .val (.int p1)] [(.int zl), (.int p1)])) rfl (by rw [hml]; rfl) (argsL := [(.int p1), (.int zl)]) (rest := []) (lenOf pd_28II29V rfl) rfl (by show 2 * 0 + _ ≤ _; exact Nat.le_of_eq rfl) (hb hby d5_3) (fun _ _ => ⟨rfl, e0, (by decide : 0 + 0 ≤ _), (by decide : 0 + 0 ≤ _)⟩)
  dsimp only [Pt.U, Pt.locs, Pt.cells, Pt.slots] at X2 l2 y2 z2 st2 hQ2
  subst l2 y2 z2
  obtain ⟨rfl, N2q, e2⟩ := hQ2
  have N2 := Fr.app N0 N2q
  refine Go.to (g' := (mkF m 6 #[.val (.ref a0), .val (.int p1)] [])) st2 ?_
  refine Go.to (g' := (mkF m 7 #[.val (.ref a0), .val (.int p1)] [(.ref a0)])) (fun t k => XS.aloadN X2.here hx rfl (hb hby d5_6) rfl rfl k) ?_
  refine Go.to (g' := (mkF m 8 #[.val (.ref a0), .val (.int p1)] [(.int p1), (.ref a0)])) (fun t k => XS.iloadN X2.here hx rfl (hb hby d5_7) rfl k) ?_
  obtain ⟨cl3, Ar3, Sz3, Mz3, Hf3⟩ := id A0
  refine Go.to (g' := (mkF m 9 #[.val (.ref a0), .val (.int p1)] [(.int (f p1))])) (fun t k => X2.baloadBytes hx (j := p1) (v := (.int (f p1))) (by rw [e2]; exact Ar3.1) (State.isArrayOf_alike hZ.alike Ar3.2.1) Ar3.2.2 (inb_of Sz3 ⟨h1, h2⟩) (Hf3 _ h1 h2) (g := (mkF m 8 #[.val (.ref a0), .val (.int p1)] [(.int p1), (.ref a0)])) rfl rfl (hb hby d5_8) _ k) ?_
  refine Go.to (g' := (mkF m 12 #[.val (.ref a0), .val (.int p1)] [(.int (255 : Int32)), (.int (f p1))])) (fun t k => XS.sipush X2.here hx rfl (hb hby d5_9) k) ?_
  refine Go.to (g' := (mkF m 13 #[.val (.ref a0), .val (.int p1)] [(.int ((f p1) &&& (255 : Int32)))])) (fun t k => XS.iand X2.here hx rfl (hb hby d5_12) rfl k) ?_
  refine Go.to (g' := (mkF m 14 #[.val (.ref a0), .val (.int p1)] [(.int (((f p1) &&& (255 : Int32)).toUInt32.toUInt16.toUInt32.toInt32))])) (fun t k => XS.i2c X2.here hx rfl (hb hby d5_13) rfl k) ?_
  exact Go.retN X2 hx (t := .char) Bd.returns Bd.notSynchronized (by simp) (hb hby d5_14) (by decide) (by decide) e2 ⟨rfl, N2, rfl⟩

theorem ef_rm4 (m : MethodId) (x0 : Addr) : entryFrame m #[(.ref x0)] 1 = mkF m 0 #[.val (.ref x0)] [] := by first | (simp [entryFrame, mkF, argsToLocals, Value.category]; done) | rfl
def Q4 (Z : State) (a0 : Addr) (cs : Int32) (sv : Value) (h0 : Heap) (n0 : Nat) (v : Option Value) (h : Heap) (L : List Loc) : Prop := v = some (.int (1 : Int32)) ∧ Fr n0 L ∧ h = h0
set_option maxRecDepth 65536 in
set_option maxHeartbeats 40000000 in
theorem rm4 (l : Launch) (Z : State) (aw : Array Value) (hw : ∀ d ∈ tables_1, d.before aw Z = true) (ws : List Jvm.Cond) (a0 : Addr) (cs : Int32) (sv : Value) (h0 : Heap) (n0 : Nat) (Z0 : n0 ≤ h0.size) (Sa1 : Sta Z h0 "java/lang/String" "COMPACT_STRINGS" "Z" (.int cs)) (Sa2 : Sta Z h0 "jdk/internal/util/Preconditions" "SIOOBE_FORMATTER" "Ljava/util/function/BiFunction;" sv) (hcs : ¬ cs = (0 : Int32)) (hsv : sv.isRef = true) (F1 : Fld Z h0 a0 "java/lang/String" "coder" "B" (.int (0 : Int32))) :
    MetFree l (⟨"java/lang/String", "isLatin1", "()Z"⟩ : MethodName) (head1 (Jvm.Cond.code (⟨"java/lang/String", "isLatin1", "()Z"⟩ : MethodName) jdk_42_method_154_code 1 (some .boolean) :: ws) ({ frames := 0, cells := 0, slots := 0, locals := 0 } : Room)) (fun a U => a = #[(.ref a0)] ∧ Z.Warmed39 U.vm ∧ U.heap = h0) (fun _ _ _ _ _ => True) (fun _ U o U' => ∃ v L, o = .returned v ∧ Q4 Z a0 cs sv h0 n0 v U'.heap L ∧ FrameEnd U o U' L ({ frames := 0, cells := 0, slots := 0, locals := 0 } : Room).cells ({ frames := 0, cells := 0, slots := 0, locals := 0 } : Room).slots) := by
  refine MetFree.of_bodySF (plainFor_of_name pn_java_lang_String) hisR ?_
  intro p e s m args below meth c s₁ Bd hml0 hP hK
  obtain ⟨rfl, hZ, hh⟩ := hP
  have hx := Bd.exec
  have hby := Bd.bytes
  have hml : c.maxLocals = 1 := hml0
  have hown : s.vm.findClass "java/lang/String" = some m.cls := findClass_of_methodNamed Bd.named
  have hnm := (name_of_methodNamed Bd.named Bd.method).1
  have X0 : Stand p l e ({ frames := 0, cells := 0, slots := 0, locals := 0 } : Room) s m #[(.ref a0)] below meth c s₁ [] 0 0 := Stand.of_body Bd
  have e0 : s₁.heap = h0 := by rw [← hh, Bd.state]; rfl
  have N0 := Fr.nil n0
  refine own_go (Q := Q4 Z a0 cs sv h0 n0) ?_
  refine Go.to (g' := (mkF m 0 #[.val (.ref a0)] [])) (fun t k => castTop (ef_rm4 m a0) k) ?_
  obtain ⟨T1, X1, e1, st1⟩ := getS2 X0 hx hZ hown (host := "") (Or.inl (hw _ (List.mem_of_getElem? (i := 33) rfl))) Via.refl e0 Sa1 (g := (mkF m 0 #[.val (.ref a0)] [])) rfl (hb hby d4_0)
  refine Go.to (g' := (mkF m 3 #[.val (.ref a0)] [(.int cs)])) st1 ?_
  refine Go.to (g' := (mkF m 6 #[.val (.ref a0)] [])) (fun t k => XS.ifNo X1.here hx rfl (hb hby d4_3) rfl ((if0 _ _).trans (feq hcs).1) k) ?_
  refine Go.to (g' := (mkF m 7 #[.val (.ref a0)] [(.ref a0)])) (fun t k => XS.aloadN X1.here hx rfl (hb hby d4_6) rfl rfl k) ?_
  obtain ⟨T2, X2, e2, st2⟩ := getF X1 hx hZ hown (host := "") (Or.inl (hw _ (List.mem_of_getElem? (i := 34) rfl))) Via.refl e1 F1 (g := (mkF m 7 #[.val (.ref a0)] [(.ref a0)])) rfl rfl (hb hby d4_7)
  refine Go.to (g' := (mkF m 10 #[.val (.ref a0)] [(.int (0 : Int32))])) st2 ?_
  refine Go.to (g' := (mkF m 13 #[.val (.ref a0)] [])) (fun t k => XS.ifNo X2.here hx rfl (hb hby d4_10) rfl ((if0 _ _).trans (teq (by decide)).2) k) ?_
  refine Go.to (g' := (mkF m 14 #[.val (.ref a0)] [(.int (1 : Int32))])) (fun t k => XS.iconst X2.here hx rfl (hb hby d4_13) k) ?_
  refine Go.to (g' := (mkF m 18 #[.val (.ref a0)] [(.int (1 : Int32))])) (fun t k => XS.goto X2.here hx rfl (pc0 := 14) (pc' := 18) rfl (hb hby d4_14) (by decide) (by decide) k) ?_
  exact Go.retN X2 hx (t := .boolean) Bd.returns Bd.notSynchronized (by simp) (hb hby d4_18) (by decide) (by decide) e2 ⟨rfl, N0, rfl⟩

theorem ef_rm3 (m : MethodId) (x0 : Addr) (x1 : Int32) : entryFrame m #[(.ref x0), (.int x1)] 2 = mkF m 0 #[.val (.ref x0), .val (.int x1)] [] := by first | (simp [entryFrame, mkF, argsToLocals, Value.category]; done) | rfl
def Q3 (Z : State) (a0 : Addr) (p1 : Int32) (bb : Addr) (zl : Int32) (f : Int32 → Int32) (cs : Int32) (sv : Value) (h0 : Heap) (n0 : Nat) (v : Option Value) (h : Heap) (L : List Loc) : Prop := v = some (.int (own_ch (f p1))) ∧ Fr n0 L ∧ h = h0
set_option maxRecDepth 65536 in
set_option maxHeartbeats 40000000 in
theorem rm3 (l : Launch) (Z : State) (aw : Array Value) (hw : ∀ d ∈ tables_1, d.before aw Z = true) (ws : List Jvm.Cond) (a0 : Addr) (p1 : Int32) (bb : Addr) (zl : Int32) (f : Int32 → Int32) (cs : Int32) (sv : Value) (h0 : Heap) (n0 : Nat) (Z0 : n0 ≤ h0.size) (E0 : Exa Z h0 a0 "java/lang/String") (F1 : Fld Z h0 a0 "java/lang/String" "coder" "B" (.int (0 : Int32))) (F2 : Fld Z h0 a0 "java/lang/String" "value" "[B" (.ref bb)) (A0 : own_Az Z h0 bb .byte zl f) (Sa1 : Sta Z h0 "java/lang/String" "COMPACT_STRINGS" "Z" (.int cs)) (Sa2 : Sta Z h0 "jdk/internal/util/Preconditions" "SIOOBE_FORMATTER" "Ljava/util/function/BiFunction;" sv) (hcs : ¬ cs = (0 : Int32)) (hsv : sv.isRef = true) (h1 : ¬ p1 < (0 : Int32)) (h2 : p1 < zl) :
    MetFree l (⟨"java/lang/String", "charAt", "(I)C"⟩ : MethodName) (head1 (Jvm.Cond.code (⟨"java/lang/String", "charAt", "(I)C"⟩ : MethodName) jdk_42_method_56_code 2 (some .char) :: ws) ({ frames := 3, cells := 0, slots := 0, locals := 40 } : Room)) (fun a U => a = #[(.ref a0), (.int p1)] ∧ Z.Warmed39 U.vm ∧ U.heap = h0) (fun _ _ _ _ _ => True) (fun _ U o U' => ∃ v L, o = .returned v ∧ Q3 Z a0 p1 bb zl f cs sv h0 n0 v U'.heap L ∧ FrameEnd U o U' L ({ frames := 3, cells := 0, slots := 0, locals := 40 } : Room).cells ({ frames := 3, cells := 0, slots := 0, locals := 40 } : Room).slots) := by
  refine MetFree.of_bodySF (plainFor_of_name pn_java_lang_String) hisR ?_
  intro p e s m args below meth c s₁ Bd hml0 hP hK
  obtain ⟨rfl, hZ, hh⟩ := hP
  have hx := Bd.exec
  have hby := Bd.bytes
  have hml : c.maxLocals = 2 := hml0
  have hown : s.vm.findClass "java/lang/String" = some m.cls := findClass_of_methodNamed Bd.named
  have hnm := (name_of_methodNamed Bd.named Bd.method).1
  have X0 : Stand p l e ({ frames := 3, cells := 0, slots := 0, locals := 40 } : Room) s m #[(.ref a0), (.int p1)] below meth c s₁ [] 0 0 := Stand.of_body Bd
  have e0 : s₁.heap = h0 := by rw [← hh, Bd.state]; rfl
  have N0 := Fr.nil n0
  refine own_go (Q := Q3 Z a0 p1 bb zl f cs sv h0 n0) ?_
  refine Go.to (g' := (mkF m 0 #[.val (.ref a0), .val (.int p1)] [])) (fun t k => castTop (ef_rm3 m a0 p1) k) ?_
  refine Go.to (g' := (mkF m 1 #[.val (.ref a0), .val (.int p1)] [(.ref a0)])) (fun t k => XS.aloadN X0.here hx rfl (hb hby d3_0) rfl rfl k) ?_
  obtain ⟨cq1, kq1, qa1, qb1, qc1⟩ := isOf hZ e0 E0
  obtain ⟨v1, _, ⟨T1, L1, k1, n1⟩, -, X1, ⟨Lc1, hQ1, l1, y1, z1⟩, st1⟩ := X0.virtualBack hx (y := (⟨"java/lang/String", "isLatin1", "()Z"⟩ : MethodName)) (z := (⟨"java/lang/String", "isLatin1", "()Z"⟩ : MethodName)) hown (mvT hZ (hw _ (List.mem_of_getElem? (i := 28) rfl))) (mvT hZ (hw _ (List.mem_of_getElem? (i := 29) rfl))) (notFace_of_selects (args := #[]) (mvT hZ (hw _ (List.mem_of_getElem? (i := 31) rfl)))) (mvT hZ (hw _ (List.mem_of_getElem? (i := 31) rfl))) (mvT hZ (hw _ (List.mem_of_getElem? (i := 30) rfl))) (by decide) (backOf (W := 0) (rm4 l Z aw hw [] a0 cs sv h0 n0 Z0 Sa1 Sa2 hcs hsv F1) hZ (hw _ (List.mem_of_getElem? (i := 32) rfl)) (hw _ (List.mem_of_getElem? (i := 11) rfl)) (by decide) (by decide)) qa1 qc1 (g := (mkF m 1 #[.val (.ref a0), .val (.int p1)] [(.ref a0)])) rfl (by rw [hml]; rfl) (Steps.refl _) (argsL := []) (rest := []) (lenOf pd_2829Z rfl) rfl (by show 2 * 0 + _ ≤ _; exact Nat.le_of_eq rfl) (hb hby d3_1) (fun _ _ => ⟨rfl, e0, (by decide : 0 + 0 ≤ _), (by decide : 0 + 0 ≤ _)⟩)
  dsimp only [Pt.U, Pt.locs, Pt.cells, Pt.slots] at X1 l1 y1 z1 st1 hQ1
  subst l1 y1 z1
  obtain ⟨rfl, N1q, e1⟩ := hQ1
  have N1 := Fr.app N0 N1q
  refine Go.to (g' := (mkF m 4 #[.val (.ref a0), .val (.int p1)] [(.int (1 : Int32))])) (fun t k => st1.trans k) ?_
  refine Go.to (g' := (mkF m 7 #[.val (.ref a0), .val (.int p1)] [])) (fun t k => XS.ifNo X1.here hx rfl (hb hby d3_4) rfl ((if0 _ _).trans (feq (by decide)).1) k) ?_
  refine Go.to (g' := (mkF m 8 #[.val (.ref a0), .val (.int p1)] [(.ref a0)])) (fun t k => XS.aloadN X1.here hx rfl (hb hby d3_7) rfl rfl k) ?_
  obtain ⟨T2, X2, e2, st2⟩ := getF X1 hx hZ hown (host := "") (Or.inl (hw _ (List.mem_of_getElem? (i := 35) rfl))) Via.refl e1 F2 (g := (mkF m 8 #[.val (.ref a0), .val (.int p1)] [(.ref a0)])) rfl rfl (hb hby d3_8)
  refine Go.to (g' := (mkF m 11 #[.val (.ref a0), .val (.int p1)] [(.ref bb)])) st2 ?_
  refine Go.to (g' := (mkF m 12 #[.val (.ref a0), .val (.int p1)] [(.int p1), (.ref bb)])) (fun t k => XS.iloadN X2.here hx rfl (hb hby d3_11) rfl k) ?_
  obtain ⟨v3, _, ⟨T3, L3, k3, n3⟩, -, X3, ⟨Lc3, hQ3, l3, y3, z3⟩, st3⟩ := Jvm.LawKit.callS X2 hx (y := (⟨"java/lang/StringLatin1", "charAt", "([BI)C"⟩ : MethodName)) hown (mvT hZ (hw _ (List.mem_of_getElem? (i := 36) rfl))) (mvT hZ (hw _ (List.mem_of_getElem? (i := 37) rfl))) (mvT hZ (hw _ (List.mem_of_getElem? (i := 38) rfl))) (mvT hZ (hw _ (List.mem_of_getElem? (i := 39) rfl))) (by decide) (backOf (W := 0) (rm5 l Z aw hw [] bb p1 zl f cs sv h0 n0 Z0 A0 Sa1 Sa2 hcs hsv h1 h2) hZ (hw _ (List.mem_of_getElem? (i := 39) rfl)) (hw _ (List.mem_of_getElem? (i := 38) rfl)) (by decide) (by decide)) (g := (mkF m 12 #[.val (.ref a0), .val (.int p1)] [(.int p1), (.ref bb)])) rfl (by rw [hml]; rfl) (argsL := [(.ref bb), (.int p1)]) (rest := []) (lenOf pd_285bBI29C rfl) rfl (by show 2 * 0 + _ ≤ _; exact Nat.le_of_eq rfl) (hb hby d3_12) (fun _ _ => ⟨rfl, e2, (by decide : 0 + 0 ≤ _), (by decide : 0 + 0 ≤ _)⟩)
  dsimp only [Pt.U, Pt.locs, Pt.cells, Pt.slots] at X3 l3 y3 z3 st3 hQ3
  subst l3 y3 z3
  obtain ⟨rfl, N3q, e3⟩ := hQ3
  have N3 := Fr.app N1 N3q
  refine Go.to (g' := (mkF m 15 #[.val (.ref a0), .val (.int p1)] [(.int (own_ch (f p1)))])) st3 ?_
  exact Go.retN X3 hx (t := .char) Bd.returns Bd.notSynchronized (by simp) (hb hby d3_15) (by decide) (by decide) e3 ⟨own_nar2 _, N3, rfl⟩

theorem ef_rm2 (m : MethodId) (x0 : Int32) : entryFrame m #[(.int x0)] 3 = mkF m 0 #[.val (.int x0), .unset, .unset] [] := by first | (simp [entryFrame, mkF, argsToLocals, Value.category]; done) | rfl
def Q2 (Z : State) (p0 : Int32) (cs : Int32) (sv : Value) (h0 : Heap) (n0 : Nat) (v : Option Value) (h : Heap) (L : List Loc) : Prop := v = some (.int (own_e p0)) ∧ Fr n0 L
set_option maxRecDepth 65536 in
set_option maxHeartbeats 40000000 in
theorem rm2 (l : Launch) (Z : State) (aw : Array Value) (hw : ∀ d ∈ tables_1, d.before aw Z = true) (hwS : ∀ a ∈ Bundle.stringAtoms, a.before aw Z = true) (hEL : EW Z aw consts_1) (ws : List Jvm.Cond) (p0 : Int32) (cs : Int32) (sv : Value) (h0 : Heap) (n0 : Nat) (Z0 : n0 ≤ h0.size) (Sa1 : Sta Z h0 "java/lang/String" "COMPACT_STRINGS" "Z" (.int cs)) (Sa2 : Sta Z h0 "jdk/internal/util/Preconditions" "SIOOBE_FORMATTER" "Ljava/util/function/BiFunction;" sv) (hcs : ¬ cs = (0 : Int32)) (hsv : sv.isRef = true) :
    MetFree l (⟨"com/example/nidra/nidra/dbus/UnmarshallerAlignmentPinLaw", "expected", "(I)I"⟩ : MethodName) (head1 (Jvm.Cond.code (⟨"com/example/nidra/nidra/dbus/UnmarshallerAlignmentPinLaw", "expected", "(I)I"⟩ : MethodName) method_2_code 3 (some .int) :: ws) ({ frames := 4, cells := 13, slots := 277, locals := 53 } : Room)) (fun a U => a = #[(.int p0)] ∧ Z.Warmed39 U.vm ∧ U.heap = h0 ∧ CHv Z consts_1 U.vm h0) (fun _ _ _ _ _ => True) (fun _ U o U' => ∃ v L, o = .returned v ∧ Q2 Z p0 cs sv h0 n0 v U'.heap L ∧ CHr Z consts_1 U.vm U.heap U'.vm U'.heap ∧ ReturnedEndW U o U' L ({ frames := 4, cells := 13, slots := 277, locals := 53 } : Room).cells ({ frames := 4, cells := 13, slots := 277, locals := 53 } : Room).slots) := by
  refine MetFree.of_bodySF (plainFor_of_name pn_com_example_nidra_nidra_dbus_UnmarshallerAlignmentPinLaw) hisR ?_
  intro p e s m args below meth c s₁ Bd hml0 hP hK
  obtain ⟨rfl, hZ, hh, hCH⟩ := hP
  have hx := Bd.exec
  have hby := Bd.bytes
  have hml : c.maxLocals = 3 := hml0
  have hown : s.vm.findClass "com/example/nidra/nidra/dbus/UnmarshallerAlignmentPinLaw" = some m.cls := findClass_of_methodNamed Bd.named
  have hnm := (name_of_methodNamed Bd.named Bd.method).1
  have X0 : Stand p l e ({ frames := 4, cells := 13, slots := 277, locals := 53 } : Room) s m #[(.int p0)] below meth c s₁ [] 0 0 := Stand.of_body Bd
  have e0 : s₁.heap = h0 := by rw [← hh, Bd.state]; rfl
  have N0 := Fr.nil n0
  have C0 : CHr Z consts_1 s.vm h0 s.vm h0 := CHr.refl hCH
  have hS0 : s.Since s.vm h0.size := (State.WarmedH.refl s).since h0.size
  suffices hgo : GoW p e below s (fun v t L => Q2 Z p0 cs sv h0 n0 v t.heap L ∧ CHr Z consts_1 s.vm h0 t.vm t.heap) ({ frames := 4, cells := 13, slots := 277, locals := 53 } : Room).cells ({ frames := 4, cells := 13, slots := 277, locals := 53 } : Room).slots (s₁.setTop (entryFrame m #[(.int p0)] 3)) by
    obtain ⟨s₂, o, h1, h2, h3, v, L, h4, h5, h6⟩ := hgo
    exact ⟨s₂, o, h1, h2, h3, v, L, h4, h5.1, by rw [hh]; exact h5.2, h6⟩
  refine GoW.to (g' := (mkF m 0 #[.val (.int p0), .unset, .unset] [])) (fun t k => castTop (ef_rm2 m p0) k) ?_
  refine GoW.to (g' := (mkF m 1 #[.val (.int p0), .unset, .unset] [(.int (4 : Int32))])) (fun t k => XS.iconst X0.here hx rfl (hb hby d2_0) k) ?_
  refine GoW.to (g' := (mkF m 2 #[.val (.int p0), .val (.int (4 : Int32)), .unset] [])) (fun t k => XS.istoreN X0.here hx rfl (hb hby d2_1) rfl (l' := #[.val (.int p0), .val (.int (4 : Int32)), .unset]) rfl k) ?_
  refine GoW.to (g' := (mkF m 3 #[.val (.int p0), .val (.int (4 : Int32)), .unset] [(.int p0)])) (fun t k => XS.iloadN X0.here hx rfl (hb hby d2_2) rfl k) ?_
  by_cases c1 : p0 < (0 : Int32)
  · refine GoW.to (g' := (mkF m 108 #[.val (.int p0), .val (.int (4 : Int32)), .unset] [])) (fun t k => XS.ifYes X0.here hx rfl (pc0 := 3) (pc' := 108) rfl (hb hby d2_3) rfl ((if0 _ _).trans (tlt c1).1) (by decide) (by decide) k) ?_
    refine GoW.to (g' := (mkF m 109 #[.val (.int p0), .val (.int (4 : Int32)), .unset] [(.int (4 : Int32))])) (fun t k => XS.iloadN X0.here hx rfl (hb hby d2_108) rfl k) ?_
    exact GoW.retI (s := s) (vm1 := s.vm) X0 hS0 (by rw [e0]; exact (Nat.le_refl h0.size)) hx Bd.returns Bd.notSynchronized (hb hby d2_109) (by decide) (by decide) (fun fs => ⟨⟨by rw [own_e4 (Or.inl c1)], N0⟩, (show CHr Z consts_1 s.vm h0 s₁.vm s₁.heap from by rw [e0]; exact C0.trans (CHv.at (s := s) (vm0 := s.vm) X0 hZ hEL C0.1))⟩)
  · refine GoW.to (g' := (mkF m 6 #[.val (.int p0), .val (.int (4 : Int32)), .unset] [])) (fun t k => XS.ifNo X0.here hx rfl (hb hby d2_3) rfl ((if0 _ _).trans (flt c1).1) k) ?_
    refine GoW.to (g' := (mkF m 7 #[.val (.int p0), .val (.int (4 : Int32)), .unset] [(.int p0)])) (fun t k => XS.iloadN X0.here hx rfl (hb hby d2_6) rfl k) ?_
    refine GoW.to (g' := (mkF m 10 #[.val (.int p0), .val (.int (4 : Int32)), .unset] [(.int (128 : Int32)), (.int p0)])) (fun t k => XS.sipush X0.here hx rfl (hb hby d2_7) k) ?_
    by_cases c2 : p0 < (128 : Int32)
    · refine GoW.to (g' := (mkF m 13 #[.val (.int p0), .val (.int (4 : Int32)), .unset] [])) (fun t k => XS.icmpNo X0.here hx rfl (hb hby d2_10) rfl (tlt c2).2.1 k) ?_
      refine GoW.to (g' := (mkF m 15 #[.val (.int p0), .val (.int (4 : Int32)), .unset] [(.int (13 : Int32))])) (fun t k => XS.bipush X0.here hx rfl (hb hby d2_13) k) ?_
      obtain ⟨T4, h4, k4, X4, e4, E4, A4, O4, st4⟩ := newR X0 hx hZ hown (hw _ (List.mem_of_getElem? (i := 8) rfl)) (hw _ (List.mem_of_getElem? (i := 9) rfl)) e0 (g := (mkF m 15 #[.val (.int p0), .val (.int (4 : Int32)), .unset] [(.int (13 : Int32))])) rfl (hb hby d2_15) rfl (by decide) (cap := 13) (by decide) (by decide) (by decide) (by decide)
      obtain ⟨rows, g4⟩ : ∃ z, z = h0.size := ⟨_, rfl⟩
      rw [← g4] at A4 st4
      have g_rows : n0 ≤ rows := Nat.le_trans Z0 (Nat.le_of_eq g4.symm)
      have sz_rows : h0.size ≤ rows := Nat.le_trans (Keep.refl h0 []).1 (Nat.le_of_eq g4.symm)
      have Z4 : n0 ≤ h4.size := Nat.le_trans Z0 E4.1
      have K4 : Keep h0 h4 [] := (Keep.refl h0 []).ext E4
      have sk4 := Nat.le_trans (Nat.le_refl h0.size) E4.1
      have V_rows : Arv Z h4 rows k4 (.object "java/lang/String") (13 : Int32) [.null, .null, .null, .null, .null, .null, .null, .null, .null, .null, .null, .null, .null] .null := (Arv.new A4 (by decide)).pad (pad_rep [] .null 13)
      have C4 := C0.trans (CHr.ext E4 C0.1)
      refine GoW.to (g' := (mkF m 18 #[.val (.int p0), .val (.int (4 : Int32)), .unset] [(.ref rows)])) st4 ?_
      refine GoW.to (g' := (mkF m 19 #[.val (.int p0), .val (.int (4 : Int32)), .unset] [(.ref rows), (.ref rows)])) (fun t k => XS.dup X4.here hx rfl (hb hby d2_18) rfl rfl k) ?_
      refine GoW.to (g' := (mkF m 20 #[.val (.int p0), .val (.int (4 : Int32)), .unset] [(.int (0 : Int32)), (.ref rows), (.ref rows)])) (fun t k => XS.iconst X4.here hx rfl (hb hby d2_19) k) ?_
      obtain ⟨a5, T5, h5, ks5, b5, kb5, X5, e5, E5, hS5, hks5, hZ_5, hown_5, Ea5, Fc5, Fv5, Vb5, la5, lb5, hC5, L5, hne5, st5⟩ := ldcCH (s := s) (vm0 := s.vm) X4 hx hZ hown (hw _ (List.mem_of_getElem? (i := 10) rfl)) hwS e4 hS0 sk4 hEL (List.mem_of_getElem? (i := 0) rfl) C4.1 (vs := [(.int (52 : Int32)), (.int (52 : Int32)), (.int (52 : Int32)), (.int (52 : Int32)), (.int (52 : Int32)), (.int (52 : Int32)), (.int (52 : Int32)), (.int (52 : Int32)), (.int (52 : Int32)), (.int (52 : Int32))]) (z := (10 : Int32)) ⟨by decide, by rfl⟩ (by decide) (by rfl) (g := (mkF m 20 #[.val (.int p0), .val (.int (4 : Int32)), .unset] [(.int (0 : Int32)), (.ref rows), (.ref rows)])) rfl (hb hby d2_20) (n := 40) (by decide) (by decide) (by decide) (by decide)
      have C5 := C4.trans hC5
      have Z5 : n0 ≤ h5.size := Nat.le_trans Z4 E5.1
      have K5 : Keep h0 h5 [] := K4.ext E5
      have sk5 := Nat.le_trans sk4 E5.1
      have f6 : Arv Z h5 rows k4 (.object "java/lang/String") (13 : Int32) [.null, .null, .null, .null, .null, .null, .null, .null, .null, .null, .null, .null, .null] .null := (V_rows.ext E5)
      obtain ⟨na5, nb5⟩ := hne5 rows (by obtain ⟨cl_, Ar_, -⟩ := id f6; exact Safe.arr (hZ_5 : Z.Warmed39 _).alike Ar_ (by decide))
      refine GoW.to (g' := (mkF m 22 #[.val (.int p0), .val (.int (4 : Int32)), .unset] [(.ref a5), (.int (0 : Int32)), (.ref rows), (.ref rows)])) st5 ?_
      obtain ⟨cl7, Ar7, kc7, S7, M7, H7, G7⟩ := f6
      obtain ⟨T8, h8, X8, e8, W8, st8⟩ := stR X5 hx hZ_5 e5 Ar7 (j := (0 : Int32)) (inb_of S7 ⟨by decide, by decide⟩) rfl (Sto.of Ar7 (by rw [kc7]; exact O4) (Ins.self Ea5)) (g := (mkF m 22 #[.val (.int p0), .val (.int (4 : Int32)), .unset] [(.ref a5), (.int (0 : Int32)), (.ref rows), (.ref rows)])) rfl rfl (hb hby d2_22)
      have C8 := C5.trans (CHr.wr W8 (Safe.arr (hZ_5 : Z.Warmed39 _).alike Ar7 (by decide)) C5.1)
      have Z8 : n0 ≤ h8.size := Nat.le_trans Z5 (Keep.of_wr W8).1
      have K8 : Keep h0 h8 [] := K5.wr W8 (Or.inr sz_rows)
      have N8 := Fr.snoc X8 N0 g_rows
      have sk8 := Nat.le_trans hks5 (Keep.of_wr W8).1
      have V8 : Arv Z h8 rows k4 (.object "java/lang/String") (13 : Int32) [(.ref a5), .null, .null, .null, .null, .null, .null, .null, .null, .null, .null, .null, .null] .null := Arv.set Ar7 kc7 S7 M7 H7 G7 rfl W8 0 rfl (Nat.le_of_ble_eq_true rfl)
      refine GoW.to (g' := (mkF m 23 #[.val (.int p0), .val (.int (4 : Int32)), .unset] [(.ref rows)])) st8 ?_
      refine GoW.to (g' := (mkF m 24 #[.val (.int p0), .val (.int (4 : Int32)), .unset] [(.ref rows), (.ref rows)])) (fun t k => XS.dup X8.here hx rfl (hb hby d2_23) rfl rfl k) ?_
      refine GoW.to (g' := (mkF m 25 #[.val (.int p0), .val (.int (4 : Int32)), .unset] [(.int (1 : Int32)), (.ref rows), (.ref rows)])) (fun t k => XS.iconst X8.here hx rfl (hb hby d2_24) k) ?_
      refine GoW.to (g' := (mkF m 27 #[.val (.int p0), .val (.int (4 : Int32)), .unset] [(.ref a5), (.int (1 : Int32)), (.ref rows), (.ref rows)])) (own_ldcA X8 hx hZ_5 hown_5 (hw _ (List.mem_of_getElem? (i := 10) rfl)) L5 (g := (mkF m 25 #[.val (.int p0), .val (.int (4 : Int32)), .unset] [(.int (1 : Int32)), (.ref rows), (.ref rows)])) rfl (hb hby d2_25)) ?_
      have f9 : Exa Z h8 a5 "java/lang/String" := (Ea5.wr W8)
      obtain ⟨cl10, Ar10, kc10, S10, M10, H10, G10⟩ := V8
      obtain ⟨T11, h11, X11, e11, W11, st11⟩ := stR X8 hx hZ_5 e8 Ar10 (j := (1 : Int32)) (inb_of S10 ⟨by decide, by decide⟩) rfl (Sto.of Ar10 (by rw [kc10]; exact O4) (Ins.self f9)) (g := (mkF m 27 #[.val (.int p0), .val (.int (4 : Int32)), .unset] [(.ref a5), (.int (1 : Int32)), (.ref rows), (.ref rows)])) rfl rfl (hb hby d2_27)
      have C11 := C8.trans (CHr.wr W11 (Safe.arr (hZ_5 : Z.Warmed39 _).alike Ar10 (by decide)) C8.1)
      have Z11 : n0 ≤ h11.size := Nat.le_trans Z8 (Keep.of_wr W11).1
      have K11 : Keep h0 h11 [] := K8.wr W11 (Or.inr sz_rows)
      have N11 := Fr.snoc X11 N8 g_rows
      have sk11 := Nat.le_trans sk8 (Keep.of_wr W11).1
      have V11 : Arv Z h11 rows k4 (.object "java/lang/String") (13 : Int32) [(.ref a5), (.ref a5), .null, .null, .null, .null, .null, .null, .null, .null, .null, .null, .null] .null := Arv.set Ar10 kc10 S10 M10 H10 G10 rfl W11 1 rfl (Nat.le_of_ble_eq_true rfl)
      refine GoW.to (g' := (mkF m 28 #[.val (.int p0), .val (.int (4 : Int32)), .unset] [(.ref rows)])) st11 ?_
      refine GoW.to (g' := (mkF m 29 #[.val (.int p0), .val (.int (4 : Int32)), .unset] [(.ref rows), (.ref rows)])) (fun t k => XS.dup X11.here hx rfl (hb hby d2_28) rfl rfl k) ?_
      refine GoW.to (g' := (mkF m 30 #[.val (.int p0), .val (.int (4 : Int32)), .unset] [(.int (2 : Int32)), (.ref rows), (.ref rows)])) (fun t k => XS.iconst X11.here hx rfl (hb hby d2_29) k) ?_
      refine GoW.to (g' := (mkF m 32 #[.val (.int p0), .val (.int (4 : Int32)), .unset] [(.ref a5), (.int (2 : Int32)), (.ref rows), (.ref rows)])) (own_ldcA X11 hx hZ_5 hown_5 (hw _ (List.mem_of_getElem? (i := 10) rfl)) L5 (g := (mkF m 30 #[.val (.int p0), .val (.int (4 : Int32)), .unset] [(.int (2 : Int32)), (.ref rows), (.ref rows)])) rfl (hb hby d2_30)) ?_
      have f12 : Exa Z h11 a5 "java/lang/String" := (f9.wr W11)
      obtain ⟨cl13, Ar13, kc13, S13, M13, H13, G13⟩ := V11
      obtain ⟨T14, h14, X14, e14, W14, st14⟩ := stR X11 hx hZ_5 e11 Ar13 (j := (2 : Int32)) (inb_of S13 ⟨by decide, by decide⟩) rfl (Sto.of Ar13 (by rw [kc13]; exact O4) (Ins.self f12)) (g := (mkF m 32 #[.val (.int p0), .val (.int (4 : Int32)), .unset] [(.ref a5), (.int (2 : Int32)), (.ref rows), (.ref rows)])) rfl rfl (hb hby d2_32)
      have C14 := C11.trans (CHr.wr W14 (Safe.arr (hZ_5 : Z.Warmed39 _).alike Ar13 (by decide)) C11.1)
      have Z14 : n0 ≤ h14.size := Nat.le_trans Z11 (Keep.of_wr W14).1
      have K14 : Keep h0 h14 [] := K11.wr W14 (Or.inr sz_rows)
      have N14 := Fr.snoc X14 N11 g_rows
      have sk14 := Nat.le_trans sk11 (Keep.of_wr W14).1
      have V14 : Arv Z h14 rows k4 (.object "java/lang/String") (13 : Int32) [(.ref a5), (.ref a5), (.ref a5), .null, .null, .null, .null, .null, .null, .null, .null, .null, .null] .null := Arv.set Ar13 kc13 S13 M13 H13 G13 rfl W14 2 rfl (Nat.le_of_ble_eq_true rfl)
      refine GoW.to (g' := (mkF m 33 #[.val (.int p0), .val (.int (4 : Int32)), .unset] [(.ref rows)])) st14 ?_
      refine GoW.to (g' := (mkF m 34 #[.val (.int p0), .val (.int (4 : Int32)), .unset] [(.ref rows), (.ref rows)])) (fun t k => XS.dup X14.here hx rfl (hb hby d2_33) rfl rfl k) ?_
      refine GoW.to (g' := (mkF m 35 #[.val (.int p0), .val (.int (4 : Int32)), .unset] [(.int (3 : Int32)), (.ref rows), (.ref rows)])) (fun t k => XS.iconst X14.here hx rfl (hb hby d2_34) k) ?_
      refine GoW.to (g' := (mkF m 37 #[.val (.int p0), .val (.int (4 : Int32)), .unset] [(.ref a5), (.int (3 : Int32)), (.ref rows), (.ref rows)])) (own_ldcA X14 hx hZ_5 hown_5 (hw _ (List.mem_of_getElem? (i := 10) rfl)) L5 (g := (mkF m 35 #[.val (.int p0), .val (.int (4 : Int32)), .unset] [(.int (3 : Int32)), (.ref rows), (.ref rows)])) rfl (hb hby d2_35)) ?_
      have f15 : Exa Z h14 a5 "java/lang/String" := (f12.wr W14)
      obtain ⟨cl16, Ar16, kc16, S16, M16, H16, G16⟩ := V14
      obtain ⟨T17, h17, X17, e17, W17, st17⟩ := stR X14 hx hZ_5 e14 Ar16 (j := (3 : Int32)) (inb_of S16 ⟨by decide, by decide⟩) rfl (Sto.of Ar16 (by rw [kc16]; exact O4) (Ins.self f15)) (g := (mkF m 37 #[.val (.int p0), .val (.int (4 : Int32)), .unset] [(.ref a5), (.int (3 : Int32)), (.ref rows), (.ref rows)])) rfl rfl (hb hby d2_37)
      have C17 := C14.trans (CHr.wr W17 (Safe.arr (hZ_5 : Z.Warmed39 _).alike Ar16 (by decide)) C14.1)
      have Z17 : n0 ≤ h17.size := Nat.le_trans Z14 (Keep.of_wr W17).1
      have K17 : Keep h0 h17 [] := K14.wr W17 (Or.inr sz_rows)
      have N17 := Fr.snoc X17 N14 g_rows
      have sk17 := Nat.le_trans sk14 (Keep.of_wr W17).1
      have V17 : Arv Z h17 rows k4 (.object "java/lang/String") (13 : Int32) [(.ref a5), (.ref a5), (.ref a5), (.ref a5), .null, .null, .null, .null, .null, .null, .null, .null, .null] .null := Arv.set Ar16 kc16 S16 M16 H16 G16 rfl W17 3 rfl (Nat.le_of_ble_eq_true rfl)
      refine GoW.to (g' := (mkF m 38 #[.val (.int p0), .val (.int (4 : Int32)), .unset] [(.ref rows)])) st17 ?_
      refine GoW.to (g' := (mkF m 39 #[.val (.int p0), .val (.int (4 : Int32)), .unset] [(.ref rows), (.ref rows)])) (fun t k => XS.dup X17.here hx rfl (hb hby d2_38) rfl rfl k) ?_
      refine GoW.to (g' := (mkF m 40 #[.val (.int p0), .val (.int (4 : Int32)), .unset] [(.int (4 : Int32)), (.ref rows), (.ref rows)])) (fun t k => XS.iconst X17.here hx rfl (hb hby d2_39) k) ?_
      obtain ⟨a18, T18, h18, ks18, b18, kb18, X18, e18, E18, hS18, hks18, hZ_18, hown_18, Ea18, Fc18, Fv18, Vb18, la18, lb18, hC18, L18, hne18, st18⟩ := ldcCH (s := s) (vm0 := T5.vm) X17 hx hZ_5 hown_5 (hw _ (List.mem_of_getElem? (i := 19) rfl)) hwS e17 hS5 sk17 hEL (List.mem_of_getElem? (i := 1) rfl) C17.1 (vs := [(.int (56 : Int32)), (.int (52 : Int32)), (.int (52 : Int32)), (.int (52 : Int32)), (.int (52 : Int32)), (.int (52 : Int32)), (.int (52 : Int32)), (.int (52 : Int32)), (.int (52 : Int32)), (.int (52 : Int32))]) (z := (10 : Int32)) ⟨by decide, by rfl⟩ (by decide) (by rfl) (g := (mkF m 40 #[.val (.int p0), .val (.int (4 : Int32)), .unset] [(.int (4 : Int32)), (.ref rows), (.ref rows)])) rfl (hb hby d2_40) (n := 40) (by decide) (by decide) (by decide) (by decide)
      have C18 := C17.trans hC18
      have Z18 : n0 ≤ h18.size := Nat.le_trans Z17 E18.1
      have K18 : Keep h0 h18 [] := K17.ext E18
      have sk18 := Nat.le_trans sk17 E18.1
      have f19 : Arv Z h18 rows k4 (.object "java/lang/String") (13 : Int32) [(.ref a5), (.ref a5), (.ref a5), (.ref a5), .null, .null, .null, .null, .null, .null, .null, .null, .null] .null := (V17.ext E18)
      obtain ⟨na18, nb18⟩ := hne18 rows (by obtain ⟨cl_, Ar_, -⟩ := id f19; exact Safe.arr (hZ_18 : Z.Warmed39 _).alike Ar_ (by decide))
      refine GoW.to (g' := (mkF m 42 #[.val (.int p0), .val (.int (4 : Int32)), .unset] [(.ref a18), (.int (4 : Int32)), (.ref rows), (.ref rows)])) st18 ?_
      obtain ⟨cl20, Ar20, kc20, S20, M20, H20, G20⟩ := f19
      obtain ⟨T21, h21, X21, e21, W21, st21⟩ := stR X18 hx hZ_18 e18 Ar20 (j := (4 : Int32)) (inb_of S20 ⟨by decide, by decide⟩) rfl (Sto.of Ar20 (by rw [kc20]; exact O4) (Ins.self Ea18)) (g := (mkF m 42 #[.val (.int p0), .val (.int (4 : Int32)), .unset] [(.ref a18), (.int (4 : Int32)), (.ref rows), (.ref rows)])) rfl rfl (hb hby d2_42)
      have C21 := C18.trans (CHr.wr W21 (Safe.arr (hZ_18 : Z.Warmed39 _).alike Ar20 (by decide)) C18.1)
      have Z21 : n0 ≤ h21.size := Nat.le_trans Z18 (Keep.of_wr W21).1
      have K21 : Keep h0 h21 [] := K18.wr W21 (Or.inr sz_rows)
      have N21 := Fr.snoc X21 N17 g_rows
      have sk21 := Nat.le_trans hks18 (Keep.of_wr W21).1
      have V21 : Arv Z h21 rows k4 (.object "java/lang/String") (13 : Int32) [(.ref a5), (.ref a5), (.ref a5), (.ref a5), (.ref a18), .null, .null, .null, .null, .null, .null, .null, .null] .null := Arv.set Ar20 kc20 S20 M20 H20 G20 rfl W21 4 rfl (Nat.le_of_ble_eq_true rfl)
      refine GoW.to (g' := (mkF m 43 #[.val (.int p0), .val (.int (4 : Int32)), .unset] [(.ref rows)])) st21 ?_
      refine GoW.to (g' := (mkF m 44 #[.val (.int p0), .val (.int (4 : Int32)), .unset] [(.ref rows), (.ref rows)])) (fun t k => XS.dup X21.here hx rfl (hb hby d2_43) rfl rfl k) ?_
      refine GoW.to (g' := (mkF m 45 #[.val (.int p0), .val (.int (4 : Int32)), .unset] [(.int (5 : Int32)), (.ref rows), (.ref rows)])) (fun t k => XS.iconst X21.here hx rfl (hb hby d2_44) k) ?_
      obtain ⟨a22, T22, h22, ks22, b22, kb22, X22, e22, E22, hS22, hks22, hZ_22, hown_22, Ea22, Fc22, Fv22, Vb22, la22, lb22, hC22, L22, hne22, st22⟩ := ldcCH (s := s) (vm0 := T18.vm) X21 hx hZ_18 hown_18 (hw _ (List.mem_of_getElem? (i := 10) rfl)) hwS e21 hS18 sk21 hEL (List.mem_of_getElem? (i := 0) rfl) C21.1 (vs := [(.int (52 : Int32)), (.int (52 : Int32)), (.int (52 : Int32)), (.int (52 : Int32)), (.int (52 : Int32)), (.int (52 : Int32)), (.int (52 : Int32)), (.int (52 : Int32)), (.int (52 : Int32)), (.int (52 : Int32))]) (z := (10 : Int32)) ⟨by decide, by rfl⟩ (by decide) (by rfl) (g := (mkF m 45 #[.val (.int p0), .val (.int (4 : Int32)), .unset] [(.int (5 : Int32)), (.ref rows), (.ref rows)])) rfl (hb hby d2_45) (n := 40) (by decide) (by decide) (by decide) (by decide)
      have C22 := C21.trans hC22
      have Z22 : n0 ≤ h22.size := Nat.le_trans Z21 E22.1
      have K22 : Keep h0 h22 [] := K21.ext E22
      have sk22 := Nat.le_trans sk21 E22.1
      have f23 : Arv Z h22 rows k4 (.object "java/lang/String") (13 : Int32) [(.ref a5), (.ref a5), (.ref a5), (.ref a5), (.ref a18), .null, .null, .null, .null, .null, .null, .null, .null] .null := (V21.ext E22)
      obtain ⟨na22, nb22⟩ := hne22 rows (by obtain ⟨cl_, Ar_, -⟩ := id f23; exact Safe.arr (hZ_22 : Z.Warmed39 _).alike Ar_ (by decide))
      refine GoW.to (g' := (mkF m 47 #[.val (.int p0), .val (.int (4 : Int32)), .unset] [(.ref a22), (.int (5 : Int32)), (.ref rows), (.ref rows)])) st22 ?_
      obtain ⟨cl24, Ar24, kc24, S24, M24, H24, G24⟩ := f23
      obtain ⟨T25, h25, X25, e25, W25, st25⟩ := stR X22 hx hZ_22 e22 Ar24 (j := (5 : Int32)) (inb_of S24 ⟨by decide, by decide⟩) rfl (Sto.of Ar24 (by rw [kc24]; exact O4) (Ins.self Ea22)) (g := (mkF m 47 #[.val (.int p0), .val (.int (4 : Int32)), .unset] [(.ref a22), (.int (5 : Int32)), (.ref rows), (.ref rows)])) rfl rfl (hb hby d2_47)
      have C25 := C22.trans (CHr.wr W25 (Safe.arr (hZ_22 : Z.Warmed39 _).alike Ar24 (by decide)) C22.1)
      have Z25 : n0 ≤ h25.size := Nat.le_trans Z22 (Keep.of_wr W25).1
      have K25 : Keep h0 h25 [] := K22.wr W25 (Or.inr sz_rows)
      have N25 := Fr.snoc X25 N21 g_rows
      have sk25 := Nat.le_trans hks22 (Keep.of_wr W25).1
      have V25 : Arv Z h25 rows k4 (.object "java/lang/String") (13 : Int32) [(.ref a5), (.ref a5), (.ref a5), (.ref a5), (.ref a18), (.ref a22), .null, .null, .null, .null, .null, .null, .null] .null := Arv.set Ar24 kc24 S24 M24 H24 G24 rfl W25 5 rfl (Nat.le_of_ble_eq_true rfl)
      refine GoW.to (g' := (mkF m 48 #[.val (.int p0), .val (.int (4 : Int32)), .unset] [(.ref rows)])) st25 ?_
      refine GoW.to (g' := (mkF m 49 #[.val (.int p0), .val (.int (4 : Int32)), .unset] [(.ref rows), (.ref rows)])) (fun t k => XS.dup X25.here hx rfl (hb hby d2_48) rfl rfl k) ?_
      refine GoW.to (g' := (mkF m 51 #[.val (.int p0), .val (.int (4 : Int32)), .unset] [(.int (6 : Int32)), (.ref rows), (.ref rows)])) (fun t k => XS.bipush X25.here hx rfl (hb hby d2_49) k) ?_
      refine GoW.to (g' := (mkF m 53 #[.val (.int p0), .val (.int (4 : Int32)), .unset] [(.ref a22), (.int (6 : Int32)), (.ref rows), (.ref rows)])) (own_ldcA X25 hx hZ_22 hown_22 (hw _ (List.mem_of_getElem? (i := 10) rfl)) L22 (g := (mkF m 51 #[.val (.int p0), .val (.int (4 : Int32)), .unset] [(.int (6 : Int32)), (.ref rows), (.ref rows)])) rfl (hb hby d2_51)) ?_
      have f26 : Exa Z h25 a22 "java/lang/String" := (Ea22.wr W25)
      obtain ⟨cl27, Ar27, kc27, S27, M27, H27, G27⟩ := V25
      obtain ⟨T28, h28, X28, e28, W28, st28⟩ := stR X25 hx hZ_22 e25 Ar27 (j := (6 : Int32)) (inb_of S27 ⟨by decide, by decide⟩) rfl (Sto.of Ar27 (by rw [kc27]; exact O4) (Ins.self f26)) (g := (mkF m 53 #[.val (.int p0), .val (.int (4 : Int32)), .unset] [(.ref a22), (.int (6 : Int32)), (.ref rows), (.ref rows)])) rfl rfl (hb hby d2_53)
      have C28 := C25.trans (CHr.wr W28 (Safe.arr (hZ_22 : Z.Warmed39 _).alike Ar27 (by decide)) C25.1)
      have Z28 : n0 ≤ h28.size := Nat.le_trans Z25 (Keep.of_wr W28).1
      have K28 : Keep h0 h28 [] := K25.wr W28 (Or.inr sz_rows)
      have N28 := Fr.snoc X28 N25 g_rows
      have sk28 := Nat.le_trans sk25 (Keep.of_wr W28).1
      have V28 : Arv Z h28 rows k4 (.object "java/lang/String") (13 : Int32) [(.ref a5), (.ref a5), (.ref a5), (.ref a5), (.ref a18), (.ref a22), (.ref a22), .null, .null, .null, .null, .null, .null] .null := Arv.set Ar27 kc27 S27 M27 H27 G27 rfl W28 6 rfl (Nat.le_of_ble_eq_true rfl)
      refine GoW.to (g' := (mkF m 54 #[.val (.int p0), .val (.int (4 : Int32)), .unset] [(.ref rows)])) st28 ?_
      refine GoW.to (g' := (mkF m 55 #[.val (.int p0), .val (.int (4 : Int32)), .unset] [(.ref rows), (.ref rows)])) (fun t k => XS.dup X28.here hx rfl (hb hby d2_54) rfl rfl k) ?_
      refine GoW.to (g' := (mkF m 57 #[.val (.int p0), .val (.int (4 : Int32)), .unset] [(.int (7 : Int32)), (.ref rows), (.ref rows)])) (fun t k => XS.bipush X28.here hx rfl (hb hby d2_55) k) ?_
      refine GoW.to (g' := (mkF m 59 #[.val (.int p0), .val (.int (4 : Int32)), .unset] [(.ref a22), (.int (7 : Int32)), (.ref rows), (.ref rows)])) (own_ldcA X28 hx hZ_22 hown_22 (hw _ (List.mem_of_getElem? (i := 10) rfl)) L22 (g := (mkF m 57 #[.val (.int p0), .val (.int (4 : Int32)), .unset] [(.int (7 : Int32)), (.ref rows), (.ref rows)])) rfl (hb hby d2_57)) ?_
      have f29 : Exa Z h28 a22 "java/lang/String" := (f26.wr W28)
      obtain ⟨cl30, Ar30, kc30, S30, M30, H30, G30⟩ := V28
      obtain ⟨T31, h31, X31, e31, W31, st31⟩ := stR X28 hx hZ_22 e28 Ar30 (j := (7 : Int32)) (inb_of S30 ⟨by decide, by decide⟩) rfl (Sto.of Ar30 (by rw [kc30]; exact O4) (Ins.self f29)) (g := (mkF m 59 #[.val (.int p0), .val (.int (4 : Int32)), .unset] [(.ref a22), (.int (7 : Int32)), (.ref rows), (.ref rows)])) rfl rfl (hb hby d2_59)
      have C31 := C28.trans (CHr.wr W31 (Safe.arr (hZ_22 : Z.Warmed39 _).alike Ar30 (by decide)) C28.1)
      have Z31 : n0 ≤ h31.size := Nat.le_trans Z28 (Keep.of_wr W31).1
      have K31 : Keep h0 h31 [] := K28.wr W31 (Or.inr sz_rows)
      have N31 := Fr.snoc X31 N28 g_rows
      have sk31 := Nat.le_trans sk28 (Keep.of_wr W31).1
      have V31 : Arv Z h31 rows k4 (.object "java/lang/String") (13 : Int32) [(.ref a5), (.ref a5), (.ref a5), (.ref a5), (.ref a18), (.ref a22), (.ref a22), (.ref a22), .null, .null, .null, .null, .null] .null := Arv.set Ar30 kc30 S30 M30 H30 G30 rfl W31 7 rfl (Nat.le_of_ble_eq_true rfl)
      refine GoW.to (g' := (mkF m 60 #[.val (.int p0), .val (.int (4 : Int32)), .unset] [(.ref rows)])) st31 ?_
      refine GoW.to (g' := (mkF m 61 #[.val (.int p0), .val (.int (4 : Int32)), .unset] [(.ref rows), (.ref rows)])) (fun t k => XS.dup X31.here hx rfl (hb hby d2_60) rfl rfl k) ?_
      refine GoW.to (g' := (mkF m 63 #[.val (.int p0), .val (.int (4 : Int32)), .unset] [(.int (8 : Int32)), (.ref rows), (.ref rows)])) (fun t k => XS.bipush X31.here hx rfl (hb hby d2_61) k) ?_
      refine GoW.to (g' := (mkF m 65 #[.val (.int p0), .val (.int (4 : Int32)), .unset] [(.ref a22), (.int (8 : Int32)), (.ref rows), (.ref rows)])) (own_ldcA X31 hx hZ_22 hown_22 (hw _ (List.mem_of_getElem? (i := 10) rfl)) L22 (g := (mkF m 63 #[.val (.int p0), .val (.int (4 : Int32)), .unset] [(.int (8 : Int32)), (.ref rows), (.ref rows)])) rfl (hb hby d2_63)) ?_
      have f32 : Exa Z h31 a22 "java/lang/String" := (f29.wr W31)
      obtain ⟨cl33, Ar33, kc33, S33, M33, H33, G33⟩ := V31
      obtain ⟨T34, h34, X34, e34, W34, st34⟩ := stR X31 hx hZ_22 e31 Ar33 (j := (8 : Int32)) (inb_of S33 ⟨by decide, by decide⟩) rfl (Sto.of Ar33 (by rw [kc33]; exact O4) (Ins.self f32)) (g := (mkF m 65 #[.val (.int p0), .val (.int (4 : Int32)), .unset] [(.ref a22), (.int (8 : Int32)), (.ref rows), (.ref rows)])) rfl rfl (hb hby d2_65)
      have C34 := C31.trans (CHr.wr W34 (Safe.arr (hZ_22 : Z.Warmed39 _).alike Ar33 (by decide)) C31.1)
      have Z34 : n0 ≤ h34.size := Nat.le_trans Z31 (Keep.of_wr W34).1
      have K34 : Keep h0 h34 [] := K31.wr W34 (Or.inr sz_rows)
      have N34 := Fr.snoc X34 N31 g_rows
      have sk34 := Nat.le_trans sk31 (Keep.of_wr W34).1
      have V34 : Arv Z h34 rows k4 (.object "java/lang/String") (13 : Int32) [(.ref a5), (.ref a5), (.ref a5), (.ref a5), (.ref a18), (.ref a22), (.ref a22), (.ref a22), (.ref a22), .null, .null, .null, .null] .null := Arv.set Ar33 kc33 S33 M33 H33 G33 rfl W34 8 rfl (Nat.le_of_ble_eq_true rfl)
      refine GoW.to (g' := (mkF m 66 #[.val (.int p0), .val (.int (4 : Int32)), .unset] [(.ref rows)])) st34 ?_
      refine GoW.to (g' := (mkF m 67 #[.val (.int p0), .val (.int (4 : Int32)), .unset] [(.ref rows), (.ref rows)])) (fun t k => XS.dup X34.here hx rfl (hb hby d2_66) rfl rfl k) ?_
      refine GoW.to (g' := (mkF m 69 #[.val (.int p0), .val (.int (4 : Int32)), .unset] [(.int (9 : Int32)), (.ref rows), (.ref rows)])) (fun t k => XS.bipush X34.here hx rfl (hb hby d2_67) k) ?_
      refine GoW.to (g' := (mkF m 71 #[.val (.int p0), .val (.int (4 : Int32)), .unset] [(.ref a22), (.int (9 : Int32)), (.ref rows), (.ref rows)])) (own_ldcA X34 hx hZ_22 hown_22 (hw _ (List.mem_of_getElem? (i := 10) rfl)) L22 (g := (mkF m 69 #[.val (.int p0), .val (.int (4 : Int32)), .unset] [(.int (9 : Int32)), (.ref rows), (.ref rows)])) rfl (hb hby d2_69)) ?_
      have f35 : Exa Z h34 a22 "java/lang/String" := (f32.wr W34)
      obtain ⟨cl36, Ar36, kc36, S36, M36, H36, G36⟩ := V34
      obtain ⟨T37, h37, X37, e37, W37, st37⟩ := stR X34 hx hZ_22 e34 Ar36 (j := (9 : Int32)) (inb_of S36 ⟨by decide, by decide⟩) rfl (Sto.of Ar36 (by rw [kc36]; exact O4) (Ins.self f35)) (g := (mkF m 71 #[.val (.int p0), .val (.int (4 : Int32)), .unset] [(.ref a22), (.int (9 : Int32)), (.ref rows), (.ref rows)])) rfl rfl (hb hby d2_71)
      have C37 := C34.trans (CHr.wr W37 (Safe.arr (hZ_22 : Z.Warmed39 _).alike Ar36 (by decide)) C34.1)
      have Z37 : n0 ≤ h37.size := Nat.le_trans Z34 (Keep.of_wr W37).1
      have K37 : Keep h0 h37 [] := K34.wr W37 (Or.inr sz_rows)
      have N37 := Fr.snoc X37 N34 g_rows
      have sk37 := Nat.le_trans sk34 (Keep.of_wr W37).1
      have V37 : Arv Z h37 rows k4 (.object "java/lang/String") (13 : Int32) [(.ref a5), (.ref a5), (.ref a5), (.ref a5), (.ref a18), (.ref a22), (.ref a22), (.ref a22), (.ref a22), (.ref a22), .null, .null, .null] .null := Arv.set Ar36 kc36 S36 M36 H36 G36 rfl W37 9 rfl (Nat.le_of_ble_eq_true rfl)
      refine GoW.to (g' := (mkF m 72 #[.val (.int p0), .val (.int (4 : Int32)), .unset] [(.ref rows)])) st37 ?_
      refine GoW.to (g' := (mkF m 73 #[.val (.int p0), .val (.int (4 : Int32)), .unset] [(.ref rows), (.ref rows)])) (fun t k => XS.dup X37.here hx rfl (hb hby d2_72) rfl rfl k) ?_
      refine GoW.to (g' := (mkF m 75 #[.val (.int p0), .val (.int (4 : Int32)), .unset] [(.int (10 : Int32)), (.ref rows), (.ref rows)])) (fun t k => XS.bipush X37.here hx rfl (hb hby d2_73) k) ?_
      obtain ⟨a38, T38, h38, ks38, b38, kb38, X38, e38, E38, hS38, hks38, hZ_38, hown_38, Ea38, Fc38, Fv38, Vb38, la38, lb38, hC38, L38, hne38, st38⟩ := ldcCH (s := s) (vm0 := T22.vm) X37 hx hZ_22 hown_22 (hw _ (List.mem_of_getElem? (i := 20) rfl)) hwS e37 hS22 sk37 hEL (List.mem_of_getElem? (i := 2) rfl) C37.1 (vs := [(.int (56 : Int32)), (.int (52 : Int32)), (.int (52 : Int32)), (.int (49 : Int32)), (.int (52 : Int32)), (.int (52 : Int32)), (.int (52 : Int32)), (.int (52 : Int32)), (.int (52 : Int32)), (.int (52 : Int32))]) (z := (10 : Int32)) ⟨by decide, by rfl⟩ (by decide) (by rfl) (g := (mkF m 75 #[.val (.int p0), .val (.int (4 : Int32)), .unset] [(.int (10 : Int32)), (.ref rows), (.ref rows)])) rfl (hb hby d2_75) (n := 40) (by decide) (by decide) (by decide) (by decide)
      have C38 := C37.trans hC38
      have Z38 : n0 ≤ h38.size := Nat.le_trans Z37 E38.1
      have K38 : Keep h0 h38 [] := K37.ext E38
      have sk38 := Nat.le_trans sk37 E38.1
      have f39 : Arv Z h38 rows k4 (.object "java/lang/String") (13 : Int32) [(.ref a5), (.ref a5), (.ref a5), (.ref a5), (.ref a18), (.ref a22), (.ref a22), (.ref a22), (.ref a22), (.ref a22), .null, .null, .null] .null := (V37.ext E38)
      obtain ⟨na38, nb38⟩ := hne38 rows (by obtain ⟨cl_, Ar_, -⟩ := id f39; exact Safe.arr (hZ_38 : Z.Warmed39 _).alike Ar_ (by decide))
      refine GoW.to (g' := (mkF m 77 #[.val (.int p0), .val (.int (4 : Int32)), .unset] [(.ref a38), (.int (10 : Int32)), (.ref rows), (.ref rows)])) st38 ?_
      obtain ⟨cl40, Ar40, kc40, S40, M40, H40, G40⟩ := f39
      obtain ⟨T41, h41, X41, e41, W41, st41⟩ := stR X38 hx hZ_38 e38 Ar40 (j := (10 : Int32)) (inb_of S40 ⟨by decide, by decide⟩) rfl (Sto.of Ar40 (by rw [kc40]; exact O4) (Ins.self Ea38)) (g := (mkF m 77 #[.val (.int p0), .val (.int (4 : Int32)), .unset] [(.ref a38), (.int (10 : Int32)), (.ref rows), (.ref rows)])) rfl rfl (hb hby d2_77)
      have C41 := C38.trans (CHr.wr W41 (Safe.arr (hZ_38 : Z.Warmed39 _).alike Ar40 (by decide)) C38.1)
      have Z41 : n0 ≤ h41.size := Nat.le_trans Z38 (Keep.of_wr W41).1
      have K41 : Keep h0 h41 [] := K38.wr W41 (Or.inr sz_rows)
      have N41 := Fr.snoc X41 N37 g_rows
      have sk41 := Nat.le_trans hks38 (Keep.of_wr W41).1
      have V41 : Arv Z h41 rows k4 (.object "java/lang/String") (13 : Int32) [(.ref a5), (.ref a5), (.ref a5), (.ref a5), (.ref a18), (.ref a22), (.ref a22), (.ref a22), (.ref a22), (.ref a22), (.ref a38), .null, .null] .null := Arv.set Ar40 kc40 S40 M40 H40 G40 rfl W41 10 rfl (Nat.le_of_ble_eq_true rfl)
      refine GoW.to (g' := (mkF m 78 #[.val (.int p0), .val (.int (4 : Int32)), .unset] [(.ref rows)])) st41 ?_
      refine GoW.to (g' := (mkF m 79 #[.val (.int p0), .val (.int (4 : Int32)), .unset] [(.ref rows), (.ref rows)])) (fun t k => XS.dup X41.here hx rfl (hb hby d2_78) rfl rfl k) ?_
      refine GoW.to (g' := (mkF m 81 #[.val (.int p0), .val (.int (4 : Int32)), .unset] [(.int (11 : Int32)), (.ref rows), (.ref rows)])) (fun t k => XS.bipush X41.here hx rfl (hb hby d2_79) k) ?_
      obtain ⟨a42, T42, h42, ks42, b42, kb42, X42, e42, E42, hS42, hks42, hZ_42, hown_42, Ea42, Fc42, Fv42, Vb42, la42, lb42, hC42, L42, hne42, st42⟩ := ldcCH (s := s) (vm0 := T38.vm) X41 hx hZ_38 hown_38 (hw _ (List.mem_of_getElem? (i := 21) rfl)) hwS e41 hS38 sk41 hEL (List.mem_of_getElem? (i := 3) rfl) C41.1 (vs := [(.int (50 : Int32)), (.int (52 : Int32)), (.int (52 : Int32)), (.int (50 : Int32)), (.int (52 : Int32)), (.int (52 : Int32)), (.int (56 : Int32)), (.int (52 : Int32)), (.int (49 : Int32)), (.int (52 : Int32))]) (z := (10 : Int32)) ⟨by decide, by rfl⟩ (by decide) (by rfl) (g := (mkF m 81 #[.val (.int p0), .val (.int (4 : Int32)), .unset] [(.int (11 : Int32)), (.ref rows), (.ref rows)])) rfl (hb hby d2_81) (n := 40) (by decide) (by decide) (by decide) (by decide)
      have C42 := C41.trans hC42
      have Z42 : n0 ≤ h42.size := Nat.le_trans Z41 E42.1
      have K42 : Keep h0 h42 [] := K41.ext E42
      have sk42 := Nat.le_trans sk41 E42.1
      have f43 : Arv Z h42 rows k4 (.object "java/lang/String") (13 : Int32) [(.ref a5), (.ref a5), (.ref a5), (.ref a5), (.ref a18), (.ref a22), (.ref a22), (.ref a22), (.ref a22), (.ref a22), (.ref a38), .null, .null] .null := (V41.ext E42)
      obtain ⟨na42, nb42⟩ := hne42 rows (by obtain ⟨cl_, Ar_, -⟩ := id f43; exact Safe.arr (hZ_42 : Z.Warmed39 _).alike Ar_ (by decide))
      refine GoW.to (g' := (mkF m 83 #[.val (.int p0), .val (.int (4 : Int32)), .unset] [(.ref a42), (.int (11 : Int32)), (.ref rows), (.ref rows)])) st42 ?_
      obtain ⟨cl44, Ar44, kc44, S44, M44, H44, G44⟩ := f43
      obtain ⟨T45, h45, X45, e45, W45, st45⟩ := stR X42 hx hZ_42 e42 Ar44 (j := (11 : Int32)) (inb_of S44 ⟨by decide, by decide⟩) rfl (Sto.of Ar44 (by rw [kc44]; exact O4) (Ins.self Ea42)) (g := (mkF m 83 #[.val (.int p0), .val (.int (4 : Int32)), .unset] [(.ref a42), (.int (11 : Int32)), (.ref rows), (.ref rows)])) rfl rfl (hb hby d2_83)
      have C45 := C42.trans (CHr.wr W45 (Safe.arr (hZ_42 : Z.Warmed39 _).alike Ar44 (by decide)) C42.1)
      have Z45 : n0 ≤ h45.size := Nat.le_trans Z42 (Keep.of_wr W45).1
      have K45 : Keep h0 h45 [] := K42.wr W45 (Or.inr sz_rows)
      have N45 := Fr.snoc X45 N41 g_rows
      have sk45 := Nat.le_trans hks42 (Keep.of_wr W45).1
      have V45 : Arv Z h45 rows k4 (.object "java/lang/String") (13 : Int32) [(.ref a5), (.ref a5), (.ref a5), (.ref a5), (.ref a18), (.ref a22), (.ref a22), (.ref a22), (.ref a22), (.ref a22), (.ref a38), (.ref a42), .null] .null := Arv.set Ar44 kc44 S44 M44 H44 G44 rfl W45 11 rfl (Nat.le_of_ble_eq_true rfl)
      refine GoW.to (g' := (mkF m 84 #[.val (.int p0), .val (.int (4 : Int32)), .unset] [(.ref rows)])) st45 ?_
      refine GoW.to (g' := (mkF m 85 #[.val (.int p0), .val (.int (4 : Int32)), .unset] [(.ref rows), (.ref rows)])) (fun t k => XS.dup X45.here hx rfl (hb hby d2_84) rfl rfl k) ?_
      refine GoW.to (g' := (mkF m 87 #[.val (.int p0), .val (.int (4 : Int32)), .unset] [(.int (12 : Int32)), (.ref rows), (.ref rows)])) (fun t k => XS.bipush X45.here hx rfl (hb hby d2_85) k) ?_
      obtain ⟨a46, T46, h46, ks46, b46, kb46, X46, e46, E46, hS46, hks46, hZ_46, hown_46, Ea46, Fc46, Fv46, Vb46, la46, lb46, hC46, L46, hne46, st46⟩ := ldcCH (s := s) (vm0 := T42.vm) X45 hx hZ_42 hown_42 (hw _ (List.mem_of_getElem? (i := 22) rfl)) hwS e45 hS42 sk45 hEL (List.mem_of_getElem? (i := 4) rfl) C45.1 (vs := [(.int (56 : Int32)), (.int (49 : Int32)), (.int (52 : Int32)), (.int (56 : Int32)), (.int (52 : Int32)), (.int (52 : Int32)), (.int (52 : Int32)), (.int (52 : Int32)), (.int (52 : Int32)), (.int (52 : Int32))]) (z := (10 : Int32)) ⟨by decide, by rfl⟩ (by decide) (by rfl) (g := (mkF m 87 #[.val (.int p0), .val (.int (4 : Int32)), .unset] [(.int (12 : Int32)), (.ref rows), (.ref rows)])) rfl (hb hby d2_87) (n := 40) (by decide) (by decide) (by decide) (by decide)
      have C46 := C45.trans hC46
      have Z46 : n0 ≤ h46.size := Nat.le_trans Z45 E46.1
      have K46 : Keep h0 h46 [] := K45.ext E46
      have sk46 := Nat.le_trans sk45 E46.1
      have f47 : Arv Z h46 rows k4 (.object "java/lang/String") (13 : Int32) [(.ref a5), (.ref a5), (.ref a5), (.ref a5), (.ref a18), (.ref a22), (.ref a22), (.ref a22), (.ref a22), (.ref a22), (.ref a38), (.ref a42), .null] .null := (V45.ext E46)
      obtain ⟨na46, nb46⟩ := hne46 rows (by obtain ⟨cl_, Ar_, -⟩ := id f47; exact Safe.arr (hZ_46 : Z.Warmed39 _).alike Ar_ (by decide))
      refine GoW.to (g' := (mkF m 89 #[.val (.int p0), .val (.int (4 : Int32)), .unset] [(.ref a46), (.int (12 : Int32)), (.ref rows), (.ref rows)])) st46 ?_
      obtain ⟨cl48, Ar48, kc48, S48, M48, H48, G48⟩ := f47
      obtain ⟨T49, h49, X49, e49, W49, st49⟩ := stR X46 hx hZ_46 e46 Ar48 (j := (12 : Int32)) (inb_of S48 ⟨by decide, by decide⟩) rfl (Sto.of Ar48 (by rw [kc48]; exact O4) (Ins.self Ea46)) (g := (mkF m 89 #[.val (.int p0), .val (.int (4 : Int32)), .unset] [(.ref a46), (.int (12 : Int32)), (.ref rows), (.ref rows)])) rfl rfl (hb hby d2_89)
      have C49 := C46.trans (CHr.wr W49 (Safe.arr (hZ_46 : Z.Warmed39 _).alike Ar48 (by decide)) C46.1)
      have Z49 : n0 ≤ h49.size := Nat.le_trans Z46 (Keep.of_wr W49).1
      have K49 : Keep h0 h49 [] := K46.wr W49 (Or.inr sz_rows)
      have N49 := Fr.snoc X49 N45 g_rows
      have sk49 := Nat.le_trans hks46 (Keep.of_wr W49).1
      have V49 : Arv Z h49 rows k4 (.object "java/lang/String") (13 : Int32) [(.ref a5), (.ref a5), (.ref a5), (.ref a5), (.ref a18), (.ref a22), (.ref a22), (.ref a22), (.ref a22), (.ref a22), (.ref a38), (.ref a42), (.ref a46)] .null := Arv.set Ar48 kc48 S48 M48 H48 G48 rfl W49 12 rfl (Nat.le_of_ble_eq_true rfl)
      refine GoW.to (g' := (mkF m 90 #[.val (.int p0), .val (.int (4 : Int32)), .unset] [(.ref rows)])) st49 ?_
      refine GoW.to (g' := (mkF m 91 #[.val (.int p0), .val (.int (4 : Int32)), .val (.ref rows)] [])) (fun t k => XS.astoreN X49.here hx rfl (hb hby d2_90) rfl rfl (l' := #[.val (.int p0), .val (.int (4 : Int32)), .val (.ref rows)]) rfl k) ?_
      refine GoW.to (g' := (mkF m 92 #[.val (.int p0), .val (.int (4 : Int32)), .val (.ref rows)] [(.ref rows)])) (fun t k => XS.aloadN X49.here hx rfl (hb hby d2_91) rfl rfl k) ?_
      refine GoW.to (g' := (mkF m 93 #[.val (.int p0), .val (.int (4 : Int32)), .val (.ref rows)] [(.int p0), (.ref rows)])) (fun t k => XS.iloadN X49.here hx rfl (hb hby d2_92) rfl k) ?_
      refine GoW.to (g' := (mkF m 95 #[.val (.int p0), .val (.int (4 : Int32)), .val (.ref rows)] [(.int (10 : Int32)), (.int p0), (.ref rows)])) (fun t k => XS.bipush X49.here hx rfl (hb hby d2_93) k) ?_
      refine GoW.to (g' := (mkF m 96 #[.val (.int p0), .val (.int (4 : Int32)), .val (.ref rows)] [(.int (p0 / (10 : Int32))), (.ref rows)])) (fun t k => XS.idiv X49.here hx rfl (hb hby d2_95) rfl (by decide) k) ?_
      rcases own_q c1 c2 with hq | hq | hq | hq | hq | hq | hq | hq | hq | hq | hq | hq | hq
      · rw [show (p0 / (10 : Int32)) = (0 : Int32) from hq]
        obtain ⟨cl50, Ar50, kc50, S50, M50, H50, G50⟩ := id V49
        have hin50 : ¬ ((0 : Int32) < 0 ∨ cl50.slots.size ≤ ((0 : Int32)).toNatClampNeg) := inb_of S50 ⟨by decide, by decide⟩
        refine GoW.to (g' := (mkF m 97 #[.val (.int p0), .val (.int (4 : Int32)), .val (.ref rows)] [(.ref a5)])) (fun t k => X49.aaload hx (j := (0 : Int32)) (v := (.ref a5)) (by rw [e49]; exact Ar50.1) (State.isArrayOf_alike hZ_46.alike Ar50.2.1) rfl Ar50.2.2 hin50 (H50 _ (Nat.lt_of_not_le fun q => hin50 (Or.inr q))) (g := (mkF m 96 #[.val (.int p0), .val (.int (4 : Int32)), .val (.ref rows)] [(.int (0 : Int32)), (.ref rows)])) rfl rfl (hb hby d2_96) _ k) ?_
        refine GoW.to (g' := (mkF m 98 #[.val (.int p0), .val (.int (4 : Int32)), .val (.ref rows)] [(.int p0), (.ref a5)])) (fun t k => XS.iloadN X49.here hx rfl (hb hby d2_97) rfl k) ?_
        refine GoW.to (g' := (mkF m 100 #[.val (.int p0), .val (.int (4 : Int32)), .val (.ref rows)] [(.int (10 : Int32)), (.int p0), (.ref a5)])) (fun t k => XS.bipush X49.here hx rfl (hb hby d2_98) k) ?_
        refine GoW.to (g' := (mkF m 101 #[.val (.int p0), .val (.int (4 : Int32)), .val (.ref rows)] [(.int (p0 % (10 : Int32))), (.ref a5)])) (fun t k => iremM X49 hx rfl (hb hby d2_100) rfl (by decide) k) ?_
        have f51 : Arv Z h49 b5 kb5 .byte (10 : Int32) [(.int (52 : Int32)), (.int (52 : Int32)), (.int (52 : Int32)), (.int (52 : Int32)), (.int (52 : Int32)), (.int (52 : Int32)), (.int (52 : Int32)), (.int (52 : Int32)), (.int (52 : Int32)), (.int (52 : Int32))] (.int (0 : Int32)) := ((((((((((((((((((Vb5.other W8 (Ne.symm nb5)).other W11 (Ne.symm nb5)).other W14 (Ne.symm nb5)).other W17 (Ne.symm nb5)).ext E18).other W21 (Ne.symm nb5)).ext E22).other W25 (Ne.symm nb5)).other W28 (Ne.symm nb5)).other W31 (Ne.symm nb5)).other W34 (Ne.symm nb5)).other W37 (Ne.symm nb5)).ext E38).other W41 (Ne.symm nb5)).ext E42).other W45 (Ne.symm nb5)).ext E46).other W49 (Ne.symm nb5))
        have A_52 : own_Az Z h49 b5 .byte (10 : Int32) (own_ls [(52 : Int32), (52 : Int32), (52 : Int32), (52 : Int32), (52 : Int32), (52 : Int32), (52 : Int32), (52 : Int32), (52 : Int32), (52 : Int32)]) := own_az_ls (l := [(52 : Int32), (52 : Int32), (52 : Int32), (52 : Int32), (52 : Int32), (52 : Int32), (52 : Int32), (52 : Int32), (52 : Int32), (52 : Int32)]) f51
        have f53 : Exa Z h49 a5 "java/lang/String" := (((((((((((((((f15.wr W17).ext E18).wr W21).ext E22).wr W25).wr W28).wr W31).wr W34).wr W37).ext E38).wr W41).ext E42).wr W45).ext E46).wr W49)
        have f54 : Fld Z h49 a5 "java/lang/String" "coder" "B" (.int (0 : Int32)) := ((((((((((((((((((Fc5.other W8 (Or.inl (Ne.symm na5))).other W11 (Or.inl (Ne.symm na5))).other W14 (Or.inl (Ne.symm na5))).other W17 (Or.inl (Ne.symm na5))).ext E18).other W21 (Or.inl (Ne.symm na5))).ext E22).other W25 (Or.inl (Ne.symm na5))).other W28 (Or.inl (Ne.symm na5))).other W31 (Or.inl (Ne.symm na5))).other W34 (Or.inl (Ne.symm na5))).other W37 (Or.inl (Ne.symm na5))).ext E38).other W41 (Or.inl (Ne.symm na5))).ext E42).other W45 (Or.inl (Ne.symm na5))).ext E46).other W49 (Or.inl (Ne.symm na5)))
        have f55 : Fld Z h49 a5 "java/lang/String" "value" "[B" (.ref b5) := ((((((((((((((((((Fv5.other W8 (Or.inl (Ne.symm na5))).other W11 (Or.inl (Ne.symm na5))).other W14 (Or.inl (Ne.symm na5))).other W17 (Or.inl (Ne.symm na5))).ext E18).other W21 (Or.inl (Ne.symm na5))).ext E22).other W25 (Or.inl (Ne.symm na5))).other W28 (Or.inl (Ne.symm na5))).other W31 (Or.inl (Ne.symm na5))).other W34 (Or.inl (Ne.symm na5))).other W37 (Or.inl (Ne.symm na5))).ext E38).other W41 (Or.inl (Ne.symm na5))).ext E42).other W45 (Or.inl (Ne.symm na5))).ext E46).other W49 (Or.inl (Ne.symm na5)))
        have f56 : Sta Z h49 "java/lang/String" "COMPACT_STRINGS" "Z" (.int cs) := ((((((((((((((((((((Sa1.ext E4).ext E5).wr W8).wr W11).wr W14).wr W17).ext E18).wr W21).ext E22).wr W25).wr W28).wr W31).wr W34).wr W37).ext E38).wr W41).ext E42).wr W45).ext E46).wr W49)
        have f57 : Sta Z h49 "jdk/internal/util/Preconditions" "SIOOBE_FORMATTER" "Ljava/util/function/BiFunction;" sv := ((((((((((((((((((((Sa2.ext E4).ext E5).wr W8).wr W11).wr W14).wr W17).ext E18).wr W21).ext E22).wr W25).wr W28).wr W31).wr W34).wr W37).ext E38).wr W41).ext E42).wr W45).ext E46).wr W49)
        obtain ⟨cq58, kq58, qa58, qb58, qc58⟩ := isOf hZ_46 e49 f53
        obtain ⟨v58, _, ⟨T58, L58, k58, n58⟩, -, X58, ⟨Lc58, hQ58, l58, y58, z58⟩, st58⟩ := X49.virtualBack hx (y := (⟨"java/lang/String", "charAt", "(I)C"⟩ : MethodName)) (z := (⟨"java/lang/String", "charAt", "(I)C"⟩ : MethodName)) hown_46 (mvT hZ_46 (hw _ (List.mem_of_getElem? (i := 23) rfl))) (mvT hZ_46 (hw _ (List.mem_of_getElem? (i := 24) rfl))) (notFace_of_selects (args := #[]) (mvT hZ_46 (hw _ (List.mem_of_getElem? (i := 26) rfl)))) (mvT hZ_46 (hw _ (List.mem_of_getElem? (i := 26) rfl))) (mvT hZ_46 (hw _ (List.mem_of_getElem? (i := 25) rfl))) (by decide) (backOf (W := 0) (rm3 l Z aw hw [] a5 (p0 % (10 : Int32)) b5 (10 : Int32) (own_ls [(52 : Int32), (52 : Int32), (52 : Int32), (52 : Int32), (52 : Int32), (52 : Int32), (52 : Int32), (52 : Int32), (52 : Int32), (52 : Int32)]) cs sv h49 n0 Z49 f53 f54 f55 A_52 f56 f57 hcs hsv (own_r c1 c2).1 (own_r c1 c2).2) hZ_46 (hw _ (List.mem_of_getElem? (i := 27) rfl)) (hw _ (List.mem_of_getElem? (i := 11) rfl)) (by decide) (by decide)) qa58 qc58 (g := (mkF m 101 #[.val (.int p0), .val (.int (4 : Int32)), .val (.ref rows)] [(.int (p0 % (10 : Int32))), (.ref a5)])) rfl (by rw [hml]; rfl) (Steps.refl _) (argsL := [(.int (p0 % (10 : Int32)))]) (rest := []) (lenOf pd_28I29C rfl) rfl (by show 2 * 0 + _ ≤ _; exact Nat.le_of_eq rfl) (hb hby d2_101) (fun _ _ => ⟨rfl, e49, (by decide : 13 + 0 ≤ _), (by decide : 277 + 0 ≤ _)⟩)
        dsimp only [Pt.U, Pt.locs, Pt.cells, Pt.slots] at X58 l58 y58 z58 st58 hQ58
        subst l58 y58 z58
        obtain ⟨rfl, N58q, e58⟩ := hQ58
        have N58 := Fr.app N49 N58q
        refine GoW.to (g' := (mkF m 104 #[.val (.int p0), .val (.int (4 : Int32)), .val (.ref rows)] [(.int (own_ch ((own_ls [(52 : Int32), (52 : Int32), (52 : Int32), (52 : Int32), (52 : Int32), (52 : Int32), (52 : Int32), (52 : Int32), (52 : Int32), (52 : Int32)]) (p0 % (10 : Int32)))))])) (fun t k => st58.trans k) ?_
        refine GoW.to (g' := (mkF m 106 #[.val (.int p0), .val (.int (4 : Int32)), .val (.ref rows)] [(.int (48 : Int32)), (.int (own_ch ((own_ls [(52 : Int32), (52 : Int32), (52 : Int32), (52 : Int32), (52 : Int32), (52 : Int32), (52 : Int32), (52 : Int32), (52 : Int32), (52 : Int32)]) (p0 % (10 : Int32)))))])) (fun t k => XS.bipush X58.here hx rfl (hb hby d2_104) k) ?_
        refine GoW.to (g' := (mkF m 107 #[.val (.int p0), .val (.int (4 : Int32)), .val (.ref rows)] [(.int ((own_ch ((own_ls [(52 : Int32), (52 : Int32), (52 : Int32), (52 : Int32), (52 : Int32), (52 : Int32), (52 : Int32), (52 : Int32), (52 : Int32), (52 : Int32)]) (p0 % (10 : Int32)))) - (48 : Int32)))])) (fun t k => XS.isub X58.here hx rfl (hb hby d2_106) rfl k) ?_
        refine GoW.to (g' := (mkF m 108 #[.val (.int p0), .val (.int ((own_ch ((own_ls [(52 : Int32), (52 : Int32), (52 : Int32), (52 : Int32), (52 : Int32), (52 : Int32), (52 : Int32), (52 : Int32), (52 : Int32), (52 : Int32)]) (p0 % (10 : Int32)))) - (48 : Int32))), .val (.ref rows)] [])) (fun t k => XS.istoreN X58.here hx rfl (hb hby d2_107) rfl (l' := #[.val (.int p0), .val (.int ((own_ch ((own_ls [(52 : Int32), (52 : Int32), (52 : Int32), (52 : Int32), (52 : Int32), (52 : Int32), (52 : Int32), (52 : Int32), (52 : Int32), (52 : Int32)]) (p0 % (10 : Int32)))) - (48 : Int32))), .val (.ref rows)]) rfl k) ?_
        refine GoW.to (g' := (mkF m 109 #[.val (.int p0), .val (.int ((own_ch ((own_ls [(52 : Int32), (52 : Int32), (52 : Int32), (52 : Int32), (52 : Int32), (52 : Int32), (52 : Int32), (52 : Int32), (52 : Int32), (52 : Int32)]) (p0 % (10 : Int32)))) - (48 : Int32))), .val (.ref rows)] [(.int ((own_ch ((own_ls [(52 : Int32), (52 : Int32), (52 : Int32), (52 : Int32), (52 : Int32), (52 : Int32), (52 : Int32), (52 : Int32), (52 : Int32), (52 : Int32)]) (p0 % (10 : Int32)))) - (48 : Int32)))])) (fun t k => XS.iloadN X58.here hx rfl (hb hby d2_108) rfl k) ?_
        exact GoW.retI (s := s) (vm1 := T46.vm) X58 hS46 (by rw [e58]; exact sk49) hx Bd.returns Bd.notSynchronized (hb hby d2_109) (by decide) (by decide) (fun fs => ⟨⟨congrArg (fun z => some (Value.int z)) (own_e1 (l := [(52 : Int32), (52 : Int32), (52 : Int32), (52 : Int32), (52 : Int32), (52 : Int32), (52 : Int32), (52 : Int32), (52 : Int32), (52 : Int32)]) c1 c2 hq (by decide +kernel)), N58⟩, (show CHr Z consts_1 s.vm h0 T58.vm T58.heap from by rw [e58]; exact C49.trans (CHv.at (s := s) (vm0 := T46.vm) X58 hZ_46 hEL C49.1))⟩)
      · rw [show (p0 / (10 : Int32)) = (1 : Int32) from hq]
        obtain ⟨cl59, Ar59, kc59, S59, M59, H59, G59⟩ := id V49
        have hin59 : ¬ ((1 : Int32) < 0 ∨ cl59.slots.size ≤ ((1 : Int32)).toNatClampNeg) := inb_of S59 ⟨by decide, by decide⟩
        refine GoW.to (g' := (mkF m 97 #[.val (.int p0), .val (.int (4 : Int32)), .val (.ref rows)] [(.ref a5)])) (fun t k => X49.aaload hx (j := (1 : Int32)) (v := (.ref a5)) (by rw [e49]; exact Ar59.1) (State.isArrayOf_alike hZ_46.alike Ar59.2.1) rfl Ar59.2.2 hin59 (H59 _ (Nat.lt_of_not_le fun q => hin59 (Or.inr q))) (g := (mkF m 96 #[.val (.int p0), .val (.int (4 : Int32)), .val (.ref rows)] [(.int (1 : Int32)), (.ref rows)])) rfl rfl (hb hby d2_96) _ k) ?_
        refine GoW.to (g' := (mkF m 98 #[.val (.int p0), .val (.int (4 : Int32)), .val (.ref rows)] [(.int p0), (.ref a5)])) (fun t k => XS.iloadN X49.here hx rfl (hb hby d2_97) rfl k) ?_
        refine GoW.to (g' := (mkF m 100 #[.val (.int p0), .val (.int (4 : Int32)), .val (.ref rows)] [(.int (10 : Int32)), (.int p0), (.ref a5)])) (fun t k => XS.bipush X49.here hx rfl (hb hby d2_98) k) ?_
        refine GoW.to (g' := (mkF m 101 #[.val (.int p0), .val (.int (4 : Int32)), .val (.ref rows)] [(.int (p0 % (10 : Int32))), (.ref a5)])) (fun t k => iremM X49 hx rfl (hb hby d2_100) rfl (by decide) k) ?_
        have f60 : Arv Z h49 b5 kb5 .byte (10 : Int32) [(.int (52 : Int32)), (.int (52 : Int32)), (.int (52 : Int32)), (.int (52 : Int32)), (.int (52 : Int32)), (.int (52 : Int32)), (.int (52 : Int32)), (.int (52 : Int32)), (.int (52 : Int32)), (.int (52 : Int32))] (.int (0 : Int32)) := ((((((((((((((((((Vb5.other W8 (Ne.symm nb5)).other W11 (Ne.symm nb5)).other W14 (Ne.symm nb5)).other W17 (Ne.symm nb5)).ext E18).other W21 (Ne.symm nb5)).ext E22).other W25 (Ne.symm nb5)).other W28 (Ne.symm nb5)).other W31 (Ne.symm nb5)).other W34 (Ne.symm nb5)).other W37 (Ne.symm nb5)).ext E38).other W41 (Ne.symm nb5)).ext E42).other W45 (Ne.symm nb5)).ext E46).other W49 (Ne.symm nb5))
        have A_61 : own_Az Z h49 b5 .byte (10 : Int32) (own_ls [(52 : Int32), (52 : Int32), (52 : Int32), (52 : Int32), (52 : Int32), (52 : Int32), (52 : Int32), (52 : Int32), (52 : Int32), (52 : Int32)]) := own_az_ls (l := [(52 : Int32), (52 : Int32), (52 : Int32), (52 : Int32), (52 : Int32), (52 : Int32), (52 : Int32), (52 : Int32), (52 : Int32), (52 : Int32)]) f60
        have f62 : Exa Z h49 a5 "java/lang/String" := (((((((((((((((f15.wr W17).ext E18).wr W21).ext E22).wr W25).wr W28).wr W31).wr W34).wr W37).ext E38).wr W41).ext E42).wr W45).ext E46).wr W49)
        have f63 : Fld Z h49 a5 "java/lang/String" "coder" "B" (.int (0 : Int32)) := ((((((((((((((((((Fc5.other W8 (Or.inl (Ne.symm na5))).other W11 (Or.inl (Ne.symm na5))).other W14 (Or.inl (Ne.symm na5))).other W17 (Or.inl (Ne.symm na5))).ext E18).other W21 (Or.inl (Ne.symm na5))).ext E22).other W25 (Or.inl (Ne.symm na5))).other W28 (Or.inl (Ne.symm na5))).other W31 (Or.inl (Ne.symm na5))).other W34 (Or.inl (Ne.symm na5))).other W37 (Or.inl (Ne.symm na5))).ext E38).other W41 (Or.inl (Ne.symm na5))).ext E42).other W45 (Or.inl (Ne.symm na5))).ext E46).other W49 (Or.inl (Ne.symm na5)))
        have f64 : Fld Z h49 a5 "java/lang/String" "value" "[B" (.ref b5) := ((((((((((((((((((Fv5.other W8 (Or.inl (Ne.symm na5))).other W11 (Or.inl (Ne.symm na5))).other W14 (Or.inl (Ne.symm na5))).other W17 (Or.inl (Ne.symm na5))).ext E18).other W21 (Or.inl (Ne.symm na5))).ext E22).other W25 (Or.inl (Ne.symm na5))).other W28 (Or.inl (Ne.symm na5))).other W31 (Or.inl (Ne.symm na5))).other W34 (Or.inl (Ne.symm na5))).other W37 (Or.inl (Ne.symm na5))).ext E38).other W41 (Or.inl (Ne.symm na5))).ext E42).other W45 (Or.inl (Ne.symm na5))).ext E46).other W49 (Or.inl (Ne.symm na5)))
        have f65 : Sta Z h49 "java/lang/String" "COMPACT_STRINGS" "Z" (.int cs) := ((((((((((((((((((((Sa1.ext E4).ext E5).wr W8).wr W11).wr W14).wr W17).ext E18).wr W21).ext E22).wr W25).wr W28).wr W31).wr W34).wr W37).ext E38).wr W41).ext E42).wr W45).ext E46).wr W49)
        have f66 : Sta Z h49 "jdk/internal/util/Preconditions" "SIOOBE_FORMATTER" "Ljava/util/function/BiFunction;" sv := ((((((((((((((((((((Sa2.ext E4).ext E5).wr W8).wr W11).wr W14).wr W17).ext E18).wr W21).ext E22).wr W25).wr W28).wr W31).wr W34).wr W37).ext E38).wr W41).ext E42).wr W45).ext E46).wr W49)
        obtain ⟨cq67, kq67, qa67, qb67, qc67⟩ := isOf hZ_46 e49 f62
        obtain ⟨v67, _, ⟨T67, L67, k67, n67⟩, -, X67, ⟨Lc67, hQ67, l67, y67, z67⟩, st67⟩ := X49.virtualBack hx (y := (⟨"java/lang/String", "charAt", "(I)C"⟩ : MethodName)) (z := (⟨"java/lang/String", "charAt", "(I)C"⟩ : MethodName)) hown_46 (mvT hZ_46 (hw _ (List.mem_of_getElem? (i := 23) rfl))) (mvT hZ_46 (hw _ (List.mem_of_getElem? (i := 24) rfl))) (notFace_of_selects (args := #[]) (mvT hZ_46 (hw _ (List.mem_of_getElem? (i := 26) rfl)))) (mvT hZ_46 (hw _ (List.mem_of_getElem? (i := 26) rfl))) (mvT hZ_46 (hw _ (List.mem_of_getElem? (i := 25) rfl))) (by decide) (backOf (W := 0) (rm3 l Z aw hw [] a5 (p0 % (10 : Int32)) b5 (10 : Int32) (own_ls [(52 : Int32), (52 : Int32), (52 : Int32), (52 : Int32), (52 : Int32), (52 : Int32), (52 : Int32), (52 : Int32), (52 : Int32), (52 : Int32)]) cs sv h49 n0 Z49 f62 f63 f64 A_61 f65 f66 hcs hsv (own_r c1 c2).1 (own_r c1 c2).2) hZ_46 (hw _ (List.mem_of_getElem? (i := 27) rfl)) (hw _ (List.mem_of_getElem? (i := 11) rfl)) (by decide) (by decide)) qa67 qc67 (g := (mkF m 101 #[.val (.int p0), .val (.int (4 : Int32)), .val (.ref rows)] [(.int (p0 % (10 : Int32))), (.ref a5)])) rfl (by rw [hml]; rfl) (Steps.refl _) (argsL := [(.int (p0 % (10 : Int32)))]) (rest := []) (lenOf pd_28I29C rfl) rfl (by show 2 * 0 + _ ≤ _; exact Nat.le_of_eq rfl) (hb hby d2_101) (fun _ _ => ⟨rfl, e49, (by decide : 13 + 0 ≤ _), (by decide : 277 + 0 ≤ _)⟩)
        dsimp only [Pt.U, Pt.locs, Pt.cells, Pt.slots] at X67 l67 y67 z67 st67 hQ67
        subst l67 y67 z67
        obtain ⟨rfl, N67q, e67⟩ := hQ67
        have N67 := Fr.app N49 N67q
        refine GoW.to (g' := (mkF m 104 #[.val (.int p0), .val (.int (4 : Int32)), .val (.ref rows)] [(.int (own_ch ((own_ls [(52 : Int32), (52 : Int32), (52 : Int32), (52 : Int32), (52 : Int32), (52 : Int32), (52 : Int32), (52 : Int32), (52 : Int32), (52 : Int32)]) (p0 % (10 : Int32)))))])) (fun t k => st67.trans k) ?_
        refine GoW.to (g' := (mkF m 106 #[.val (.int p0), .val (.int (4 : Int32)), .val (.ref rows)] [(.int (48 : Int32)), (.int (own_ch ((own_ls [(52 : Int32), (52 : Int32), (52 : Int32), (52 : Int32), (52 : Int32), (52 : Int32), (52 : Int32), (52 : Int32), (52 : Int32), (52 : Int32)]) (p0 % (10 : Int32)))))])) (fun t k => XS.bipush X67.here hx rfl (hb hby d2_104) k) ?_
        refine GoW.to (g' := (mkF m 107 #[.val (.int p0), .val (.int (4 : Int32)), .val (.ref rows)] [(.int ((own_ch ((own_ls [(52 : Int32), (52 : Int32), (52 : Int32), (52 : Int32), (52 : Int32), (52 : Int32), (52 : Int32), (52 : Int32), (52 : Int32), (52 : Int32)]) (p0 % (10 : Int32)))) - (48 : Int32)))])) (fun t k => XS.isub X67.here hx rfl (hb hby d2_106) rfl k) ?_
        refine GoW.to (g' := (mkF m 108 #[.val (.int p0), .val (.int ((own_ch ((own_ls [(52 : Int32), (52 : Int32), (52 : Int32), (52 : Int32), (52 : Int32), (52 : Int32), (52 : Int32), (52 : Int32), (52 : Int32), (52 : Int32)]) (p0 % (10 : Int32)))) - (48 : Int32))), .val (.ref rows)] [])) (fun t k => XS.istoreN X67.here hx rfl (hb hby d2_107) rfl (l' := #[.val (.int p0), .val (.int ((own_ch ((own_ls [(52 : Int32), (52 : Int32), (52 : Int32), (52 : Int32), (52 : Int32), (52 : Int32), (52 : Int32), (52 : Int32), (52 : Int32), (52 : Int32)]) (p0 % (10 : Int32)))) - (48 : Int32))), .val (.ref rows)]) rfl k) ?_
        refine GoW.to (g' := (mkF m 109 #[.val (.int p0), .val (.int ((own_ch ((own_ls [(52 : Int32), (52 : Int32), (52 : Int32), (52 : Int32), (52 : Int32), (52 : Int32), (52 : Int32), (52 : Int32), (52 : Int32), (52 : Int32)]) (p0 % (10 : Int32)))) - (48 : Int32))), .val (.ref rows)] [(.int ((own_ch ((own_ls [(52 : Int32), (52 : Int32), (52 : Int32), (52 : Int32), (52 : Int32), (52 : Int32), (52 : Int32), (52 : Int32), (52 : Int32), (52 : Int32)]) (p0 % (10 : Int32)))) - (48 : Int32)))])) (fun t k => XS.iloadN X67.here hx rfl (hb hby d2_108) rfl k) ?_
        exact GoW.retI (s := s) (vm1 := T46.vm) X67 hS46 (by rw [e67]; exact sk49) hx Bd.returns Bd.notSynchronized (hb hby d2_109) (by decide) (by decide) (fun fs => ⟨⟨congrArg (fun z => some (Value.int z)) (own_e1 (l := [(52 : Int32), (52 : Int32), (52 : Int32), (52 : Int32), (52 : Int32), (52 : Int32), (52 : Int32), (52 : Int32), (52 : Int32), (52 : Int32)]) c1 c2 hq (by decide +kernel)), N67⟩, (show CHr Z consts_1 s.vm h0 T67.vm T67.heap from by rw [e67]; exact C49.trans (CHv.at (s := s) (vm0 := T46.vm) X67 hZ_46 hEL C49.1))⟩)
      · rw [show (p0 / (10 : Int32)) = (2 : Int32) from hq]
        obtain ⟨cl68, Ar68, kc68, S68, M68, H68, G68⟩ := id V49
        have hin68 : ¬ ((2 : Int32) < 0 ∨ cl68.slots.size ≤ ((2 : Int32)).toNatClampNeg) := inb_of S68 ⟨by decide, by decide⟩
        refine GoW.to (g' := (mkF m 97 #[.val (.int p0), .val (.int (4 : Int32)), .val (.ref rows)] [(.ref a5)])) (fun t k => X49.aaload hx (j := (2 : Int32)) (v := (.ref a5)) (by rw [e49]; exact Ar68.1) (State.isArrayOf_alike hZ_46.alike Ar68.2.1) rfl Ar68.2.2 hin68 (H68 _ (Nat.lt_of_not_le fun q => hin68 (Or.inr q))) (g := (mkF m 96 #[.val (.int p0), .val (.int (4 : Int32)), .val (.ref rows)] [(.int (2 : Int32)), (.ref rows)])) rfl rfl (hb hby d2_96) _ k) ?_
        refine GoW.to (g' := (mkF m 98 #[.val (.int p0), .val (.int (4 : Int32)), .val (.ref rows)] [(.int p0), (.ref a5)])) (fun t k => XS.iloadN X49.here hx rfl (hb hby d2_97) rfl k) ?_
        refine GoW.to (g' := (mkF m 100 #[.val (.int p0), .val (.int (4 : Int32)), .val (.ref rows)] [(.int (10 : Int32)), (.int p0), (.ref a5)])) (fun t k => XS.bipush X49.here hx rfl (hb hby d2_98) k) ?_
        refine GoW.to (g' := (mkF m 101 #[.val (.int p0), .val (.int (4 : Int32)), .val (.ref rows)] [(.int (p0 % (10 : Int32))), (.ref a5)])) (fun t k => iremM X49 hx rfl (hb hby d2_100) rfl (by decide) k) ?_
        have f69 : Arv Z h49 b5 kb5 .byte (10 : Int32) [(.int (52 : Int32)), (.int (52 : Int32)), (.int (52 : Int32)), (.int (52 : Int32)), (.int (52 : Int32)), (.int (52 : Int32)), (.int (52 : Int32)), (.int (52 : Int32)), (.int (52 : Int32)), (.int (52 : Int32))] (.int (0 : Int32)) := ((((((((((((((((((Vb5.other W8 (Ne.symm nb5)).other W11 (Ne.symm nb5)).other W14 (Ne.symm nb5)).other W17 (Ne.symm nb5)).ext E18).other W21 (Ne.symm nb5)).ext E22).other W25 (Ne.symm nb5)).other W28 (Ne.symm nb5)).other W31 (Ne.symm nb5)).other W34 (Ne.symm nb5)).other W37 (Ne.symm nb5)).ext E38).other W41 (Ne.symm nb5)).ext E42).other W45 (Ne.symm nb5)).ext E46).other W49 (Ne.symm nb5))
        have A_70 : own_Az Z h49 b5 .byte (10 : Int32) (own_ls [(52 : Int32), (52 : Int32), (52 : Int32), (52 : Int32), (52 : Int32), (52 : Int32), (52 : Int32), (52 : Int32), (52 : Int32), (52 : Int32)]) := own_az_ls (l := [(52 : Int32), (52 : Int32), (52 : Int32), (52 : Int32), (52 : Int32), (52 : Int32), (52 : Int32), (52 : Int32), (52 : Int32), (52 : Int32)]) f69
        have f71 : Exa Z h49 a5 "java/lang/String" := (((((((((((((((f15.wr W17).ext E18).wr W21).ext E22).wr W25).wr W28).wr W31).wr W34).wr W37).ext E38).wr W41).ext E42).wr W45).ext E46).wr W49)
        have f72 : Fld Z h49 a5 "java/lang/String" "coder" "B" (.int (0 : Int32)) := ((((((((((((((((((Fc5.other W8 (Or.inl (Ne.symm na5))).other W11 (Or.inl (Ne.symm na5))).other W14 (Or.inl (Ne.symm na5))).other W17 (Or.inl (Ne.symm na5))).ext E18).other W21 (Or.inl (Ne.symm na5))).ext E22).other W25 (Or.inl (Ne.symm na5))).other W28 (Or.inl (Ne.symm na5))).other W31 (Or.inl (Ne.symm na5))).other W34 (Or.inl (Ne.symm na5))).other W37 (Or.inl (Ne.symm na5))).ext E38).other W41 (Or.inl (Ne.symm na5))).ext E42).other W45 (Or.inl (Ne.symm na5))).ext E46).other W49 (Or.inl (Ne.symm na5)))
        have f73 : Fld Z h49 a5 "java/lang/String" "value" "[B" (.ref b5) := ((((((((((((((((((Fv5.other W8 (Or.inl (Ne.symm na5))).other W11 (Or.inl (Ne.symm na5))).other W14 (Or.inl (Ne.symm na5))).other W17 (Or.inl (Ne.symm na5))).ext E18).other W21 (Or.inl (Ne.symm na5))).ext E22).other W25 (Or.inl (Ne.symm na5))).other W28 (Or.inl (Ne.symm na5))).other W31 (Or.inl (Ne.symm na5))).other W34 (Or.inl (Ne.symm na5))).other W37 (Or.inl (Ne.symm na5))).ext E38).other W41 (Or.inl (Ne.symm na5))).ext E42).other W45 (Or.inl (Ne.symm na5))).ext E46).other W49 (Or.inl (Ne.symm na5)))
        have f74 : Sta Z h49 "java/lang/String" "COMPACT_STRINGS" "Z" (.int cs) := ((((((((((((((((((((Sa1.ext E4).ext E5).wr W8).wr W11).wr W14).wr W17).ext E18).wr W21).ext E22).wr W25).wr W28).wr W31).wr W34).wr W37).ext E38).wr W41).ext E42).wr W45).ext E46).wr W49)
        have f75 : Sta Z h49 "jdk/internal/util/Preconditions" "SIOOBE_FORMATTER" "Ljava/util/function/BiFunction;" sv := ((((((((((((((((((((Sa2.ext E4).ext E5).wr W8).wr W11).wr W14).wr W17).ext E18).wr W21).ext E22).wr W25).wr W28).wr W31).wr W34).wr W37).ext E38).wr W41).ext E42).wr W45).ext E46).wr W49)
        obtain ⟨cq76, kq76, qa76, qb76, qc76⟩ := isOf hZ_46 e49 f71
        obtain ⟨v76, _, ⟨T76, L76, k76, n76⟩, -, X76, ⟨Lc76, hQ76, l76, y76, z76⟩, st76⟩ := X49.virtualBack hx (y := (⟨"java/lang/String", "charAt", "(I)C"⟩ : MethodName)) (z := (⟨"java/lang/String", "charAt", "(I)C"⟩ : MethodName)) hown_46 (mvT hZ_46 (hw _ (List.mem_of_getElem? (i := 23) rfl))) (mvT hZ_46 (hw _ (List.mem_of_getElem? (i := 24) rfl))) (notFace_of_selects (args := #[]) (mvT hZ_46 (hw _ (List.mem_of_getElem? (i := 26) rfl)))) (mvT hZ_46 (hw _ (List.mem_of_getElem? (i := 26) rfl))) (mvT hZ_46 (hw _ (List.mem_of_getElem? (i := 25) rfl))) (by decide) (backOf (W := 0) (rm3 l Z aw hw [] a5 (p0 % (10 : Int32)) b5 (10 : Int32) (own_ls [(52 : Int32), (52 : Int32), (52 : Int32), (52 : Int32), (52 : Int32), (52 : Int32), (52 : Int32), (52 : Int32), (52 : Int32), (52 : Int32)]) cs sv h49 n0 Z49 f71 f72 f73 A_70 f74 f75 hcs hsv (own_r c1 c2).1 (own_r c1 c2).2) hZ_46 (hw _ (List.mem_of_getElem? (i := 27) rfl)) (hw _ (List.mem_of_getElem? (i := 11) rfl)) (by decide) (by decide)) qa76 qc76 (g := (mkF m 101 #[.val (.int p0), .val (.int (4 : Int32)), .val (.ref rows)] [(.int (p0 % (10 : Int32))), (.ref a5)])) rfl (by rw [hml]; rfl) (Steps.refl _) (argsL := [(.int (p0 % (10 : Int32)))]) (rest := []) (lenOf pd_28I29C rfl) rfl (by show 2 * 0 + _ ≤ _; exact Nat.le_of_eq rfl) (hb hby d2_101) (fun _ _ => ⟨rfl, e49, (by decide : 13 + 0 ≤ _), (by decide : 277 + 0 ≤ _)⟩)
        dsimp only [Pt.U, Pt.locs, Pt.cells, Pt.slots] at X76 l76 y76 z76 st76 hQ76
        subst l76 y76 z76
        obtain ⟨rfl, N76q, e76⟩ := hQ76
        have N76 := Fr.app N49 N76q
        refine GoW.to (g' := (mkF m 104 #[.val (.int p0), .val (.int (4 : Int32)), .val (.ref rows)] [(.int (own_ch ((own_ls [(52 : Int32), (52 : Int32), (52 : Int32), (52 : Int32), (52 : Int32), (52 : Int32), (52 : Int32), (52 : Int32), (52 : Int32), (52 : Int32)]) (p0 % (10 : Int32)))))])) (fun t k => st76.trans k) ?_
        refine GoW.to (g' := (mkF m 106 #[.val (.int p0), .val (.int (4 : Int32)), .val (.ref rows)] [(.int (48 : Int32)), (.int (own_ch ((own_ls [(52 : Int32), (52 : Int32), (52 : Int32), (52 : Int32), (52 : Int32), (52 : Int32), (52 : Int32), (52 : Int32), (52 : Int32), (52 : Int32)]) (p0 % (10 : Int32)))))])) (fun t k => XS.bipush X76.here hx rfl (hb hby d2_104) k) ?_
        refine GoW.to (g' := (mkF m 107 #[.val (.int p0), .val (.int (4 : Int32)), .val (.ref rows)] [(.int ((own_ch ((own_ls [(52 : Int32), (52 : Int32), (52 : Int32), (52 : Int32), (52 : Int32), (52 : Int32), (52 : Int32), (52 : Int32), (52 : Int32), (52 : Int32)]) (p0 % (10 : Int32)))) - (48 : Int32)))])) (fun t k => XS.isub X76.here hx rfl (hb hby d2_106) rfl k) ?_
        refine GoW.to (g' := (mkF m 108 #[.val (.int p0), .val (.int ((own_ch ((own_ls [(52 : Int32), (52 : Int32), (52 : Int32), (52 : Int32), (52 : Int32), (52 : Int32), (52 : Int32), (52 : Int32), (52 : Int32), (52 : Int32)]) (p0 % (10 : Int32)))) - (48 : Int32))), .val (.ref rows)] [])) (fun t k => XS.istoreN X76.here hx rfl (hb hby d2_107) rfl (l' := #[.val (.int p0), .val (.int ((own_ch ((own_ls [(52 : Int32), (52 : Int32), (52 : Int32), (52 : Int32), (52 : Int32), (52 : Int32), (52 : Int32), (52 : Int32), (52 : Int32), (52 : Int32)]) (p0 % (10 : Int32)))) - (48 : Int32))), .val (.ref rows)]) rfl k) ?_
        refine GoW.to (g' := (mkF m 109 #[.val (.int p0), .val (.int ((own_ch ((own_ls [(52 : Int32), (52 : Int32), (52 : Int32), (52 : Int32), (52 : Int32), (52 : Int32), (52 : Int32), (52 : Int32), (52 : Int32), (52 : Int32)]) (p0 % (10 : Int32)))) - (48 : Int32))), .val (.ref rows)] [(.int ((own_ch ((own_ls [(52 : Int32), (52 : Int32), (52 : Int32), (52 : Int32), (52 : Int32), (52 : Int32), (52 : Int32), (52 : Int32), (52 : Int32), (52 : Int32)]) (p0 % (10 : Int32)))) - (48 : Int32)))])) (fun t k => XS.iloadN X76.here hx rfl (hb hby d2_108) rfl k) ?_
        exact GoW.retI (s := s) (vm1 := T46.vm) X76 hS46 (by rw [e76]; exact sk49) hx Bd.returns Bd.notSynchronized (hb hby d2_109) (by decide) (by decide) (fun fs => ⟨⟨congrArg (fun z => some (Value.int z)) (own_e1 (l := [(52 : Int32), (52 : Int32), (52 : Int32), (52 : Int32), (52 : Int32), (52 : Int32), (52 : Int32), (52 : Int32), (52 : Int32), (52 : Int32)]) c1 c2 hq (by decide +kernel)), N76⟩, (show CHr Z consts_1 s.vm h0 T76.vm T76.heap from by rw [e76]; exact C49.trans (CHv.at (s := s) (vm0 := T46.vm) X76 hZ_46 hEL C49.1))⟩)
      · rw [show (p0 / (10 : Int32)) = (3 : Int32) from hq]
        obtain ⟨cl77, Ar77, kc77, S77, M77, H77, G77⟩ := id V49
        have hin77 : ¬ ((3 : Int32) < 0 ∨ cl77.slots.size ≤ ((3 : Int32)).toNatClampNeg) := inb_of S77 ⟨by decide, by decide⟩
        refine GoW.to (g' := (mkF m 97 #[.val (.int p0), .val (.int (4 : Int32)), .val (.ref rows)] [(.ref a5)])) (fun t k => X49.aaload hx (j := (3 : Int32)) (v := (.ref a5)) (by rw [e49]; exact Ar77.1) (State.isArrayOf_alike hZ_46.alike Ar77.2.1) rfl Ar77.2.2 hin77 (H77 _ (Nat.lt_of_not_le fun q => hin77 (Or.inr q))) (g := (mkF m 96 #[.val (.int p0), .val (.int (4 : Int32)), .val (.ref rows)] [(.int (3 : Int32)), (.ref rows)])) rfl rfl (hb hby d2_96) _ k) ?_
        refine GoW.to (g' := (mkF m 98 #[.val (.int p0), .val (.int (4 : Int32)), .val (.ref rows)] [(.int p0), (.ref a5)])) (fun t k => XS.iloadN X49.here hx rfl (hb hby d2_97) rfl k) ?_
        refine GoW.to (g' := (mkF m 100 #[.val (.int p0), .val (.int (4 : Int32)), .val (.ref rows)] [(.int (10 : Int32)), (.int p0), (.ref a5)])) (fun t k => XS.bipush X49.here hx rfl (hb hby d2_98) k) ?_
        refine GoW.to (g' := (mkF m 101 #[.val (.int p0), .val (.int (4 : Int32)), .val (.ref rows)] [(.int (p0 % (10 : Int32))), (.ref a5)])) (fun t k => iremM X49 hx rfl (hb hby d2_100) rfl (by decide) k) ?_
        have f78 : Arv Z h49 b5 kb5 .byte (10 : Int32) [(.int (52 : Int32)), (.int (52 : Int32)), (.int (52 : Int32)), (.int (52 : Int32)), (.int (52 : Int32)), (.int (52 : Int32)), (.int (52 : Int32)), (.int (52 : Int32)), (.int (52 : Int32)), (.int (52 : Int32))] (.int (0 : Int32)) := ((((((((((((((((((Vb5.other W8 (Ne.symm nb5)).other W11 (Ne.symm nb5)).other W14 (Ne.symm nb5)).other W17 (Ne.symm nb5)).ext E18).other W21 (Ne.symm nb5)).ext E22).other W25 (Ne.symm nb5)).other W28 (Ne.symm nb5)).other W31 (Ne.symm nb5)).other W34 (Ne.symm nb5)).other W37 (Ne.symm nb5)).ext E38).other W41 (Ne.symm nb5)).ext E42).other W45 (Ne.symm nb5)).ext E46).other W49 (Ne.symm nb5))
        have A_79 : own_Az Z h49 b5 .byte (10 : Int32) (own_ls [(52 : Int32), (52 : Int32), (52 : Int32), (52 : Int32), (52 : Int32), (52 : Int32), (52 : Int32), (52 : Int32), (52 : Int32), (52 : Int32)]) := own_az_ls (l := [(52 : Int32), (52 : Int32), (52 : Int32), (52 : Int32), (52 : Int32), (52 : Int32), (52 : Int32), (52 : Int32), (52 : Int32), (52 : Int32)]) f78
        have f80 : Exa Z h49 a5 "java/lang/String" := (((((((((((((((f15.wr W17).ext E18).wr W21).ext E22).wr W25).wr W28).wr W31).wr W34).wr W37).ext E38).wr W41).ext E42).wr W45).ext E46).wr W49)
        have f81 : Fld Z h49 a5 "java/lang/String" "coder" "B" (.int (0 : Int32)) := ((((((((((((((((((Fc5.other W8 (Or.inl (Ne.symm na5))).other W11 (Or.inl (Ne.symm na5))).other W14 (Or.inl (Ne.symm na5))).other W17 (Or.inl (Ne.symm na5))).ext E18).other W21 (Or.inl (Ne.symm na5))).ext E22).other W25 (Or.inl (Ne.symm na5))).other W28 (Or.inl (Ne.symm na5))).other W31 (Or.inl (Ne.symm na5))).other W34 (Or.inl (Ne.symm na5))).other W37 (Or.inl (Ne.symm na5))).ext E38).other W41 (Or.inl (Ne.symm na5))).ext E42).other W45 (Or.inl (Ne.symm na5))).ext E46).other W49 (Or.inl (Ne.symm na5)))
        have f82 : Fld Z h49 a5 "java/lang/String" "value" "[B" (.ref b5) := ((((((((((((((((((Fv5.other W8 (Or.inl (Ne.symm na5))).other W11 (Or.inl (Ne.symm na5))).other W14 (Or.inl (Ne.symm na5))).other W17 (Or.inl (Ne.symm na5))).ext E18).other W21 (Or.inl (Ne.symm na5))).ext E22).other W25 (Or.inl (Ne.symm na5))).other W28 (Or.inl (Ne.symm na5))).other W31 (Or.inl (Ne.symm na5))).other W34 (Or.inl (Ne.symm na5))).other W37 (Or.inl (Ne.symm na5))).ext E38).other W41 (Or.inl (Ne.symm na5))).ext E42).other W45 (Or.inl (Ne.symm na5))).ext E46).other W49 (Or.inl (Ne.symm na5)))
        have f83 : Sta Z h49 "java/lang/String" "COMPACT_STRINGS" "Z" (.int cs) := ((((((((((((((((((((Sa1.ext E4).ext E5).wr W8).wr W11).wr W14).wr W17).ext E18).wr W21).ext E22).wr W25).wr W28).wr W31).wr W34).wr W37).ext E38).wr W41).ext E42).wr W45).ext E46).wr W49)
        have f84 : Sta Z h49 "jdk/internal/util/Preconditions" "SIOOBE_FORMATTER" "Ljava/util/function/BiFunction;" sv := ((((((((((((((((((((Sa2.ext E4).ext E5).wr W8).wr W11).wr W14).wr W17).ext E18).wr W21).ext E22).wr W25).wr W28).wr W31).wr W34).wr W37).ext E38).wr W41).ext E42).wr W45).ext E46).wr W49)
        obtain ⟨cq85, kq85, qa85, qb85, qc85⟩ := isOf hZ_46 e49 f80
        obtain ⟨v85, _, ⟨T85, L85, k85, n85⟩, -, X85, ⟨Lc85, hQ85, l85, y85, z85⟩, st85⟩ := X49.virtualBack hx (y := (⟨"java/lang/String", "charAt", "(I)C"⟩ : MethodName)) (z := (⟨"java/lang/String", "charAt", "(I)C"⟩ : MethodName)) hown_46 (mvT hZ_46 (hw _ (List.mem_of_getElem? (i := 23) rfl))) (mvT hZ_46 (hw _ (List.mem_of_getElem? (i := 24) rfl))) (notFace_of_selects (args := #[]) (mvT hZ_46 (hw _ (List.mem_of_getElem? (i := 26) rfl)))) (mvT hZ_46 (hw _ (List.mem_of_getElem? (i := 26) rfl))) (mvT hZ_46 (hw _ (List.mem_of_getElem? (i := 25) rfl))) (by decide) (backOf (W := 0) (rm3 l Z aw hw [] a5 (p0 % (10 : Int32)) b5 (10 : Int32) (own_ls [(52 : Int32), (52 : Int32), (52 : Int32), (52 : Int32), (52 : Int32), (52 : Int32), (52 : Int32), (52 : Int32), (52 : Int32), (52 : Int32)]) cs sv h49 n0 Z49 f80 f81 f82 A_79 f83 f84 hcs hsv (own_r c1 c2).1 (own_r c1 c2).2) hZ_46 (hw _ (List.mem_of_getElem? (i := 27) rfl)) (hw _ (List.mem_of_getElem? (i := 11) rfl)) (by decide) (by decide)) qa85 qc85 (g := (mkF m 101 #[.val (.int p0), .val (.int (4 : Int32)), .val (.ref rows)] [(.int (p0 % (10 : Int32))), (.ref a5)])) rfl (by rw [hml]; rfl) (Steps.refl _) (argsL := [(.int (p0 % (10 : Int32)))]) (rest := []) (lenOf pd_28I29C rfl) rfl (by show 2 * 0 + _ ≤ _; exact Nat.le_of_eq rfl) (hb hby d2_101) (fun _ _ => ⟨rfl, e49, (by decide : 13 + 0 ≤ _), (by decide : 277 + 0 ≤ _)⟩)
        dsimp only [Pt.U, Pt.locs, Pt.cells, Pt.slots] at X85 l85 y85 z85 st85 hQ85
        subst l85 y85 z85
        obtain ⟨rfl, N85q, e85⟩ := hQ85
        have N85 := Fr.app N49 N85q
        refine GoW.to (g' := (mkF m 104 #[.val (.int p0), .val (.int (4 : Int32)), .val (.ref rows)] [(.int (own_ch ((own_ls [(52 : Int32), (52 : Int32), (52 : Int32), (52 : Int32), (52 : Int32), (52 : Int32), (52 : Int32), (52 : Int32), (52 : Int32), (52 : Int32)]) (p0 % (10 : Int32)))))])) (fun t k => st85.trans k) ?_
        refine GoW.to (g' := (mkF m 106 #[.val (.int p0), .val (.int (4 : Int32)), .val (.ref rows)] [(.int (48 : Int32)), (.int (own_ch ((own_ls [(52 : Int32), (52 : Int32), (52 : Int32), (52 : Int32), (52 : Int32), (52 : Int32), (52 : Int32), (52 : Int32), (52 : Int32), (52 : Int32)]) (p0 % (10 : Int32)))))])) (fun t k => XS.bipush X85.here hx rfl (hb hby d2_104) k) ?_
        refine GoW.to (g' := (mkF m 107 #[.val (.int p0), .val (.int (4 : Int32)), .val (.ref rows)] [(.int ((own_ch ((own_ls [(52 : Int32), (52 : Int32), (52 : Int32), (52 : Int32), (52 : Int32), (52 : Int32), (52 : Int32), (52 : Int32), (52 : Int32), (52 : Int32)]) (p0 % (10 : Int32)))) - (48 : Int32)))])) (fun t k => XS.isub X85.here hx rfl (hb hby d2_106) rfl k) ?_
        refine GoW.to (g' := (mkF m 108 #[.val (.int p0), .val (.int ((own_ch ((own_ls [(52 : Int32), (52 : Int32), (52 : Int32), (52 : Int32), (52 : Int32), (52 : Int32), (52 : Int32), (52 : Int32), (52 : Int32), (52 : Int32)]) (p0 % (10 : Int32)))) - (48 : Int32))), .val (.ref rows)] [])) (fun t k => XS.istoreN X85.here hx rfl (hb hby d2_107) rfl (l' := #[.val (.int p0), .val (.int ((own_ch ((own_ls [(52 : Int32), (52 : Int32), (52 : Int32), (52 : Int32), (52 : Int32), (52 : Int32), (52 : Int32), (52 : Int32), (52 : Int32), (52 : Int32)]) (p0 % (10 : Int32)))) - (48 : Int32))), .val (.ref rows)]) rfl k) ?_
        refine GoW.to (g' := (mkF m 109 #[.val (.int p0), .val (.int ((own_ch ((own_ls [(52 : Int32), (52 : Int32), (52 : Int32), (52 : Int32), (52 : Int32), (52 : Int32), (52 : Int32), (52 : Int32), (52 : Int32), (52 : Int32)]) (p0 % (10 : Int32)))) - (48 : Int32))), .val (.ref rows)] [(.int ((own_ch ((own_ls [(52 : Int32), (52 : Int32), (52 : Int32), (52 : Int32), (52 : Int32), (52 : Int32), (52 : Int32), (52 : Int32), (52 : Int32), (52 : Int32)]) (p0 % (10 : Int32)))) - (48 : Int32)))])) (fun t k => XS.iloadN X85.here hx rfl (hb hby d2_108) rfl k) ?_
        exact GoW.retI (s := s) (vm1 := T46.vm) X85 hS46 (by rw [e85]; exact sk49) hx Bd.returns Bd.notSynchronized (hb hby d2_109) (by decide) (by decide) (fun fs => ⟨⟨congrArg (fun z => some (Value.int z)) (own_e1 (l := [(52 : Int32), (52 : Int32), (52 : Int32), (52 : Int32), (52 : Int32), (52 : Int32), (52 : Int32), (52 : Int32), (52 : Int32), (52 : Int32)]) c1 c2 hq (by decide +kernel)), N85⟩, (show CHr Z consts_1 s.vm h0 T85.vm T85.heap from by rw [e85]; exact C49.trans (CHv.at (s := s) (vm0 := T46.vm) X85 hZ_46 hEL C49.1))⟩)
      · rw [show (p0 / (10 : Int32)) = (4 : Int32) from hq]
        obtain ⟨cl86, Ar86, kc86, S86, M86, H86, G86⟩ := id V49
        have hin86 : ¬ ((4 : Int32) < 0 ∨ cl86.slots.size ≤ ((4 : Int32)).toNatClampNeg) := inb_of S86 ⟨by decide, by decide⟩
        refine GoW.to (g' := (mkF m 97 #[.val (.int p0), .val (.int (4 : Int32)), .val (.ref rows)] [(.ref a18)])) (fun t k => X49.aaload hx (j := (4 : Int32)) (v := (.ref a18)) (by rw [e49]; exact Ar86.1) (State.isArrayOf_alike hZ_46.alike Ar86.2.1) rfl Ar86.2.2 hin86 (H86 _ (Nat.lt_of_not_le fun q => hin86 (Or.inr q))) (g := (mkF m 96 #[.val (.int p0), .val (.int (4 : Int32)), .val (.ref rows)] [(.int (4 : Int32)), (.ref rows)])) rfl rfl (hb hby d2_96) _ k) ?_
        refine GoW.to (g' := (mkF m 98 #[.val (.int p0), .val (.int (4 : Int32)), .val (.ref rows)] [(.int p0), (.ref a18)])) (fun t k => XS.iloadN X49.here hx rfl (hb hby d2_97) rfl k) ?_
        refine GoW.to (g' := (mkF m 100 #[.val (.int p0), .val (.int (4 : Int32)), .val (.ref rows)] [(.int (10 : Int32)), (.int p0), (.ref a18)])) (fun t k => XS.bipush X49.here hx rfl (hb hby d2_98) k) ?_
        refine GoW.to (g' := (mkF m 101 #[.val (.int p0), .val (.int (4 : Int32)), .val (.ref rows)] [(.int (p0 % (10 : Int32))), (.ref a18)])) (fun t k => iremM X49 hx rfl (hb hby d2_100) rfl (by decide) k) ?_
        have f87 : Arv Z h49 b18 kb18 .byte (10 : Int32) [(.int (56 : Int32)), (.int (52 : Int32)), (.int (52 : Int32)), (.int (52 : Int32)), (.int (52 : Int32)), (.int (52 : Int32)), (.int (52 : Int32)), (.int (52 : Int32)), (.int (52 : Int32)), (.int (52 : Int32))] (.int (0 : Int32)) := (((((((((((((Vb18.other W21 (Ne.symm nb18)).ext E22).other W25 (Ne.symm nb18)).other W28 (Ne.symm nb18)).other W31 (Ne.symm nb18)).other W34 (Ne.symm nb18)).other W37 (Ne.symm nb18)).ext E38).other W41 (Ne.symm nb18)).ext E42).other W45 (Ne.symm nb18)).ext E46).other W49 (Ne.symm nb18))
        have A_88 : own_Az Z h49 b18 .byte (10 : Int32) (own_ls [(56 : Int32), (52 : Int32), (52 : Int32), (52 : Int32), (52 : Int32), (52 : Int32), (52 : Int32), (52 : Int32), (52 : Int32), (52 : Int32)]) := own_az_ls (l := [(56 : Int32), (52 : Int32), (52 : Int32), (52 : Int32), (52 : Int32), (52 : Int32), (52 : Int32), (52 : Int32), (52 : Int32), (52 : Int32)]) f87
        have f89 : Exa Z h49 a18 "java/lang/String" := (((((((((((((Ea18.wr W21).ext E22).wr W25).wr W28).wr W31).wr W34).wr W37).ext E38).wr W41).ext E42).wr W45).ext E46).wr W49)
        have f90 : Fld Z h49 a18 "java/lang/String" "coder" "B" (.int (0 : Int32)) := (((((((((((((Fc18.other W21 (Or.inl (Ne.symm na18))).ext E22).other W25 (Or.inl (Ne.symm na18))).other W28 (Or.inl (Ne.symm na18))).other W31 (Or.inl (Ne.symm na18))).other W34 (Or.inl (Ne.symm na18))).other W37 (Or.inl (Ne.symm na18))).ext E38).other W41 (Or.inl (Ne.symm na18))).ext E42).other W45 (Or.inl (Ne.symm na18))).ext E46).other W49 (Or.inl (Ne.symm na18)))
        have f91 : Fld Z h49 a18 "java/lang/String" "value" "[B" (.ref b18) := (((((((((((((Fv18.other W21 (Or.inl (Ne.symm na18))).ext E22).other W25 (Or.inl (Ne.symm na18))).other W28 (Or.inl (Ne.symm na18))).other W31 (Or.inl (Ne.symm na18))).other W34 (Or.inl (Ne.symm na18))).other W37 (Or.inl (Ne.symm na18))).ext E38).other W41 (Or.inl (Ne.symm na18))).ext E42).other W45 (Or.inl (Ne.symm na18))).ext E46).other W49 (Or.inl (Ne.symm na18)))
        have f92 : Sta Z h49 "java/lang/String" "COMPACT_STRINGS" "Z" (.int cs) := ((((((((((((((((((((Sa1.ext E4).ext E5).wr W8).wr W11).wr W14).wr W17).ext E18).wr W21).ext E22).wr W25).wr W28).wr W31).wr W34).wr W37).ext E38).wr W41).ext E42).wr W45).ext E46).wr W49)
        have f93 : Sta Z h49 "jdk/internal/util/Preconditions" "SIOOBE_FORMATTER" "Ljava/util/function/BiFunction;" sv := ((((((((((((((((((((Sa2.ext E4).ext E5).wr W8).wr W11).wr W14).wr W17).ext E18).wr W21).ext E22).wr W25).wr W28).wr W31).wr W34).wr W37).ext E38).wr W41).ext E42).wr W45).ext E46).wr W49)
        obtain ⟨cq94, kq94, qa94, qb94, qc94⟩ := isOf hZ_46 e49 f89
        obtain ⟨v94, _, ⟨T94, L94, k94, n94⟩, -, X94, ⟨Lc94, hQ94, l94, y94, z94⟩, st94⟩ := X49.virtualBack hx (y := (⟨"java/lang/String", "charAt", "(I)C"⟩ : MethodName)) (z := (⟨"java/lang/String", "charAt", "(I)C"⟩ : MethodName)) hown_46 (mvT hZ_46 (hw _ (List.mem_of_getElem? (i := 23) rfl))) (mvT hZ_46 (hw _ (List.mem_of_getElem? (i := 24) rfl))) (notFace_of_selects (args := #[]) (mvT hZ_46 (hw _ (List.mem_of_getElem? (i := 26) rfl)))) (mvT hZ_46 (hw _ (List.mem_of_getElem? (i := 26) rfl))) (mvT hZ_46 (hw _ (List.mem_of_getElem? (i := 25) rfl))) (by decide) (backOf (W := 0) (rm3 l Z aw hw [] a18 (p0 % (10 : Int32)) b18 (10 : Int32) (own_ls [(56 : Int32), (52 : Int32), (52 : Int32), (52 : Int32), (52 : Int32), (52 : Int32), (52 : Int32), (52 : Int32), (52 : Int32), (52 : Int32)]) cs sv h49 n0 Z49 f89 f90 f91 A_88 f92 f93 hcs hsv (own_r c1 c2).1 (own_r c1 c2).2) hZ_46 (hw _ (List.mem_of_getElem? (i := 27) rfl)) (hw _ (List.mem_of_getElem? (i := 11) rfl)) (by decide) (by decide)) qa94 qc94 (g := (mkF m 101 #[.val (.int p0), .val (.int (4 : Int32)), .val (.ref rows)] [(.int (p0 % (10 : Int32))), (.ref a18)])) rfl (by rw [hml]; rfl) (Steps.refl _) (argsL := [(.int (p0 % (10 : Int32)))]) (rest := []) (lenOf pd_28I29C rfl) rfl (by show 2 * 0 + _ ≤ _; exact Nat.le_of_eq rfl) (hb hby d2_101) (fun _ _ => ⟨rfl, e49, (by decide : 13 + 0 ≤ _), (by decide : 277 + 0 ≤ _)⟩)
        dsimp only [Pt.U, Pt.locs, Pt.cells, Pt.slots] at X94 l94 y94 z94 st94 hQ94
        subst l94 y94 z94
        obtain ⟨rfl, N94q, e94⟩ := hQ94
        have N94 := Fr.app N49 N94q
        refine GoW.to (g' := (mkF m 104 #[.val (.int p0), .val (.int (4 : Int32)), .val (.ref rows)] [(.int (own_ch ((own_ls [(56 : Int32), (52 : Int32), (52 : Int32), (52 : Int32), (52 : Int32), (52 : Int32), (52 : Int32), (52 : Int32), (52 : Int32), (52 : Int32)]) (p0 % (10 : Int32)))))])) (fun t k => st94.trans k) ?_
        refine GoW.to (g' := (mkF m 106 #[.val (.int p0), .val (.int (4 : Int32)), .val (.ref rows)] [(.int (48 : Int32)), (.int (own_ch ((own_ls [(56 : Int32), (52 : Int32), (52 : Int32), (52 : Int32), (52 : Int32), (52 : Int32), (52 : Int32), (52 : Int32), (52 : Int32), (52 : Int32)]) (p0 % (10 : Int32)))))])) (fun t k => XS.bipush X94.here hx rfl (hb hby d2_104) k) ?_
        refine GoW.to (g' := (mkF m 107 #[.val (.int p0), .val (.int (4 : Int32)), .val (.ref rows)] [(.int ((own_ch ((own_ls [(56 : Int32), (52 : Int32), (52 : Int32), (52 : Int32), (52 : Int32), (52 : Int32), (52 : Int32), (52 : Int32), (52 : Int32), (52 : Int32)]) (p0 % (10 : Int32)))) - (48 : Int32)))])) (fun t k => XS.isub X94.here hx rfl (hb hby d2_106) rfl k) ?_
        refine GoW.to (g' := (mkF m 108 #[.val (.int p0), .val (.int ((own_ch ((own_ls [(56 : Int32), (52 : Int32), (52 : Int32), (52 : Int32), (52 : Int32), (52 : Int32), (52 : Int32), (52 : Int32), (52 : Int32), (52 : Int32)]) (p0 % (10 : Int32)))) - (48 : Int32))), .val (.ref rows)] [])) (fun t k => XS.istoreN X94.here hx rfl (hb hby d2_107) rfl (l' := #[.val (.int p0), .val (.int ((own_ch ((own_ls [(56 : Int32), (52 : Int32), (52 : Int32), (52 : Int32), (52 : Int32), (52 : Int32), (52 : Int32), (52 : Int32), (52 : Int32), (52 : Int32)]) (p0 % (10 : Int32)))) - (48 : Int32))), .val (.ref rows)]) rfl k) ?_
        refine GoW.to (g' := (mkF m 109 #[.val (.int p0), .val (.int ((own_ch ((own_ls [(56 : Int32), (52 : Int32), (52 : Int32), (52 : Int32), (52 : Int32), (52 : Int32), (52 : Int32), (52 : Int32), (52 : Int32), (52 : Int32)]) (p0 % (10 : Int32)))) - (48 : Int32))), .val (.ref rows)] [(.int ((own_ch ((own_ls [(56 : Int32), (52 : Int32), (52 : Int32), (52 : Int32), (52 : Int32), (52 : Int32), (52 : Int32), (52 : Int32), (52 : Int32), (52 : Int32)]) (p0 % (10 : Int32)))) - (48 : Int32)))])) (fun t k => XS.iloadN X94.here hx rfl (hb hby d2_108) rfl k) ?_
        exact GoW.retI (s := s) (vm1 := T46.vm) X94 hS46 (by rw [e94]; exact sk49) hx Bd.returns Bd.notSynchronized (hb hby d2_109) (by decide) (by decide) (fun fs => ⟨⟨congrArg (fun z => some (Value.int z)) (own_e1 (l := [(56 : Int32), (52 : Int32), (52 : Int32), (52 : Int32), (52 : Int32), (52 : Int32), (52 : Int32), (52 : Int32), (52 : Int32), (52 : Int32)]) c1 c2 hq (by decide +kernel)), N94⟩, (show CHr Z consts_1 s.vm h0 T94.vm T94.heap from by rw [e94]; exact C49.trans (CHv.at (s := s) (vm0 := T46.vm) X94 hZ_46 hEL C49.1))⟩)
      · rw [show (p0 / (10 : Int32)) = (5 : Int32) from hq]
        obtain ⟨cl95, Ar95, kc95, S95, M95, H95, G95⟩ := id V49
        have hin95 : ¬ ((5 : Int32) < 0 ∨ cl95.slots.size ≤ ((5 : Int32)).toNatClampNeg) := inb_of S95 ⟨by decide, by decide⟩
        refine GoW.to (g' := (mkF m 97 #[.val (.int p0), .val (.int (4 : Int32)), .val (.ref rows)] [(.ref a22)])) (fun t k => X49.aaload hx (j := (5 : Int32)) (v := (.ref a22)) (by rw [e49]; exact Ar95.1) (State.isArrayOf_alike hZ_46.alike Ar95.2.1) rfl Ar95.2.2 hin95 (H95 _ (Nat.lt_of_not_le fun q => hin95 (Or.inr q))) (g := (mkF m 96 #[.val (.int p0), .val (.int (4 : Int32)), .val (.ref rows)] [(.int (5 : Int32)), (.ref rows)])) rfl rfl (hb hby d2_96) _ k) ?_
        refine GoW.to (g' := (mkF m 98 #[.val (.int p0), .val (.int (4 : Int32)), .val (.ref rows)] [(.int p0), (.ref a22)])) (fun t k => XS.iloadN X49.here hx rfl (hb hby d2_97) rfl k) ?_
        refine GoW.to (g' := (mkF m 100 #[.val (.int p0), .val (.int (4 : Int32)), .val (.ref rows)] [(.int (10 : Int32)), (.int p0), (.ref a22)])) (fun t k => XS.bipush X49.here hx rfl (hb hby d2_98) k) ?_
        refine GoW.to (g' := (mkF m 101 #[.val (.int p0), .val (.int (4 : Int32)), .val (.ref rows)] [(.int (p0 % (10 : Int32))), (.ref a22)])) (fun t k => iremM X49 hx rfl (hb hby d2_100) rfl (by decide) k) ?_
        have f96 : Arv Z h49 b22 kb22 .byte (10 : Int32) [(.int (52 : Int32)), (.int (52 : Int32)), (.int (52 : Int32)), (.int (52 : Int32)), (.int (52 : Int32)), (.int (52 : Int32)), (.int (52 : Int32)), (.int (52 : Int32)), (.int (52 : Int32)), (.int (52 : Int32))] (.int (0 : Int32)) := (((((((((((Vb22.other W25 (Ne.symm nb22)).other W28 (Ne.symm nb22)).other W31 (Ne.symm nb22)).other W34 (Ne.symm nb22)).other W37 (Ne.symm nb22)).ext E38).other W41 (Ne.symm nb22)).ext E42).other W45 (Ne.symm nb22)).ext E46).other W49 (Ne.symm nb22))
        have A_97 : own_Az Z h49 b22 .byte (10 : Int32) (own_ls [(52 : Int32), (52 : Int32), (52 : Int32), (52 : Int32), (52 : Int32), (52 : Int32), (52 : Int32), (52 : Int32), (52 : Int32), (52 : Int32)]) := own_az_ls (l := [(52 : Int32), (52 : Int32), (52 : Int32), (52 : Int32), (52 : Int32), (52 : Int32), (52 : Int32), (52 : Int32), (52 : Int32), (52 : Int32)]) f96
        have f98 : Exa Z h49 a22 "java/lang/String" := (((((((f35.wr W37).ext E38).wr W41).ext E42).wr W45).ext E46).wr W49)
        have f99 : Fld Z h49 a22 "java/lang/String" "coder" "B" (.int (0 : Int32)) := (((((((((((Fc22.other W25 (Or.inl (Ne.symm na22))).other W28 (Or.inl (Ne.symm na22))).other W31 (Or.inl (Ne.symm na22))).other W34 (Or.inl (Ne.symm na22))).other W37 (Or.inl (Ne.symm na22))).ext E38).other W41 (Or.inl (Ne.symm na22))).ext E42).other W45 (Or.inl (Ne.symm na22))).ext E46).other W49 (Or.inl (Ne.symm na22)))
        have f100 : Fld Z h49 a22 "java/lang/String" "value" "[B" (.ref b22) := (((((((((((Fv22.other W25 (Or.inl (Ne.symm na22))).other W28 (Or.inl (Ne.symm na22))).other W31 (Or.inl (Ne.symm na22))).other W34 (Or.inl (Ne.symm na22))).other W37 (Or.inl (Ne.symm na22))).ext E38).other W41 (Or.inl (Ne.symm na22))).ext E42).other W45 (Or.inl (Ne.symm na22))).ext E46).other W49 (Or.inl (Ne.symm na22)))
        have f101 : Sta Z h49 "java/lang/String" "COMPACT_STRINGS" "Z" (.int cs) := ((((((((((((((((((((Sa1.ext E4).ext E5).wr W8).wr W11).wr W14).wr W17).ext E18).wr W21).ext E22).wr W25).wr W28).wr W31).wr W34).wr W37).ext E38).wr W41).ext E42).wr W45).ext E46).wr W49)
        have f102 : Sta Z h49 "jdk/internal/util/Preconditions" "SIOOBE_FORMATTER" "Ljava/util/function/BiFunction;" sv := ((((((((((((((((((((Sa2.ext E4).ext E5).wr W8).wr W11).wr W14).wr W17).ext E18).wr W21).ext E22).wr W25).wr W28).wr W31).wr W34).wr W37).ext E38).wr W41).ext E42).wr W45).ext E46).wr W49)
        obtain ⟨cq103, kq103, qa103, qb103, qc103⟩ := isOf hZ_46 e49 f98
        obtain ⟨v103, _, ⟨T103, L103, k103, n103⟩, -, X103, ⟨Lc103, hQ103, l103, y103, z103⟩, st103⟩ := X49.virtualBack hx (y := (⟨"java/lang/String", "charAt", "(I)C"⟩ : MethodName)) (z := (⟨"java/lang/String", "charAt", "(I)C"⟩ : MethodName)) hown_46 (mvT hZ_46 (hw _ (List.mem_of_getElem? (i := 23) rfl))) (mvT hZ_46 (hw _ (List.mem_of_getElem? (i := 24) rfl))) (notFace_of_selects (args := #[]) (mvT hZ_46 (hw _ (List.mem_of_getElem? (i := 26) rfl)))) (mvT hZ_46 (hw _ (List.mem_of_getElem? (i := 26) rfl))) (mvT hZ_46 (hw _ (List.mem_of_getElem? (i := 25) rfl))) (by decide) (backOf (W := 0) (rm3 l Z aw hw [] a22 (p0 % (10 : Int32)) b22 (10 : Int32) (own_ls [(52 : Int32), (52 : Int32), (52 : Int32), (52 : Int32), (52 : Int32), (52 : Int32), (52 : Int32), (52 : Int32), (52 : Int32), (52 : Int32)]) cs sv h49 n0 Z49 f98 f99 f100 A_97 f101 f102 hcs hsv (own_r c1 c2).1 (own_r c1 c2).2) hZ_46 (hw _ (List.mem_of_getElem? (i := 27) rfl)) (hw _ (List.mem_of_getElem? (i := 11) rfl)) (by decide) (by decide)) qa103 qc103 (g := (mkF m 101 #[.val (.int p0), .val (.int (4 : Int32)), .val (.ref rows)] [(.int (p0 % (10 : Int32))), (.ref a22)])) rfl (by rw [hml]; rfl) (Steps.refl _) (argsL := [(.int (p0 % (10 : Int32)))]) (rest := []) (lenOf pd_28I29C rfl) rfl (by show 2 * 0 + _ ≤ _; exact Nat.le_of_eq rfl) (hb hby d2_101) (fun _ _ => ⟨rfl, e49, (by decide : 13 + 0 ≤ _), (by decide : 277 + 0 ≤ _)⟩)
        dsimp only [Pt.U, Pt.locs, Pt.cells, Pt.slots] at X103 l103 y103 z103 st103 hQ103
        subst l103 y103 z103
        obtain ⟨rfl, N103q, e103⟩ := hQ103
        have N103 := Fr.app N49 N103q
        refine GoW.to (g' := (mkF m 104 #[.val (.int p0), .val (.int (4 : Int32)), .val (.ref rows)] [(.int (own_ch ((own_ls [(52 : Int32), (52 : Int32), (52 : Int32), (52 : Int32), (52 : Int32), (52 : Int32), (52 : Int32), (52 : Int32), (52 : Int32), (52 : Int32)]) (p0 % (10 : Int32)))))])) (fun t k => st103.trans k) ?_
        refine GoW.to (g' := (mkF m 106 #[.val (.int p0), .val (.int (4 : Int32)), .val (.ref rows)] [(.int (48 : Int32)), (.int (own_ch ((own_ls [(52 : Int32), (52 : Int32), (52 : Int32), (52 : Int32), (52 : Int32), (52 : Int32), (52 : Int32), (52 : Int32), (52 : Int32), (52 : Int32)]) (p0 % (10 : Int32)))))])) (fun t k => XS.bipush X103.here hx rfl (hb hby d2_104) k) ?_
        refine GoW.to (g' := (mkF m 107 #[.val (.int p0), .val (.int (4 : Int32)), .val (.ref rows)] [(.int ((own_ch ((own_ls [(52 : Int32), (52 : Int32), (52 : Int32), (52 : Int32), (52 : Int32), (52 : Int32), (52 : Int32), (52 : Int32), (52 : Int32), (52 : Int32)]) (p0 % (10 : Int32)))) - (48 : Int32)))])) (fun t k => XS.isub X103.here hx rfl (hb hby d2_106) rfl k) ?_
        refine GoW.to (g' := (mkF m 108 #[.val (.int p0), .val (.int ((own_ch ((own_ls [(52 : Int32), (52 : Int32), (52 : Int32), (52 : Int32), (52 : Int32), (52 : Int32), (52 : Int32), (52 : Int32), (52 : Int32), (52 : Int32)]) (p0 % (10 : Int32)))) - (48 : Int32))), .val (.ref rows)] [])) (fun t k => XS.istoreN X103.here hx rfl (hb hby d2_107) rfl (l' := #[.val (.int p0), .val (.int ((own_ch ((own_ls [(52 : Int32), (52 : Int32), (52 : Int32), (52 : Int32), (52 : Int32), (52 : Int32), (52 : Int32), (52 : Int32), (52 : Int32), (52 : Int32)]) (p0 % (10 : Int32)))) - (48 : Int32))), .val (.ref rows)]) rfl k) ?_
        refine GoW.to (g' := (mkF m 109 #[.val (.int p0), .val (.int ((own_ch ((own_ls [(52 : Int32), (52 : Int32), (52 : Int32), (52 : Int32), (52 : Int32), (52 : Int32), (52 : Int32), (52 : Int32), (52 : Int32), (52 : Int32)]) (p0 % (10 : Int32)))) - (48 : Int32))), .val (.ref rows)] [(.int ((own_ch ((own_ls [(52 : Int32), (52 : Int32), (52 : Int32), (52 : Int32), (52 : Int32), (52 : Int32), (52 : Int32), (52 : Int32), (52 : Int32), (52 : Int32)]) (p0 % (10 : Int32)))) - (48 : Int32)))])) (fun t k => XS.iloadN X103.here hx rfl (hb hby d2_108) rfl k) ?_
        exact GoW.retI (s := s) (vm1 := T46.vm) X103 hS46 (by rw [e103]; exact sk49) hx Bd.returns Bd.notSynchronized (hb hby d2_109) (by decide) (by decide) (fun fs => ⟨⟨congrArg (fun z => some (Value.int z)) (own_e1 (l := [(52 : Int32), (52 : Int32), (52 : Int32), (52 : Int32), (52 : Int32), (52 : Int32), (52 : Int32), (52 : Int32), (52 : Int32), (52 : Int32)]) c1 c2 hq (by decide +kernel)), N103⟩, (show CHr Z consts_1 s.vm h0 T103.vm T103.heap from by rw [e103]; exact C49.trans (CHv.at (s := s) (vm0 := T46.vm) X103 hZ_46 hEL C49.1))⟩)
      · rw [show (p0 / (10 : Int32)) = (6 : Int32) from hq]
        obtain ⟨cl104, Ar104, kc104, S104, M104, H104, G104⟩ := id V49
        have hin104 : ¬ ((6 : Int32) < 0 ∨ cl104.slots.size ≤ ((6 : Int32)).toNatClampNeg) := inb_of S104 ⟨by decide, by decide⟩
        refine GoW.to (g' := (mkF m 97 #[.val (.int p0), .val (.int (4 : Int32)), .val (.ref rows)] [(.ref a22)])) (fun t k => X49.aaload hx (j := (6 : Int32)) (v := (.ref a22)) (by rw [e49]; exact Ar104.1) (State.isArrayOf_alike hZ_46.alike Ar104.2.1) rfl Ar104.2.2 hin104 (H104 _ (Nat.lt_of_not_le fun q => hin104 (Or.inr q))) (g := (mkF m 96 #[.val (.int p0), .val (.int (4 : Int32)), .val (.ref rows)] [(.int (6 : Int32)), (.ref rows)])) rfl rfl (hb hby d2_96) _ k) ?_
        refine GoW.to (g' := (mkF m 98 #[.val (.int p0), .val (.int (4 : Int32)), .val (.ref rows)] [(.int p0), (.ref a22)])) (fun t k => XS.iloadN X49.here hx rfl (hb hby d2_97) rfl k) ?_
        refine GoW.to (g' := (mkF m 100 #[.val (.int p0), .val (.int (4 : Int32)), .val (.ref rows)] [(.int (10 : Int32)), (.int p0), (.ref a22)])) (fun t k => XS.bipush X49.here hx rfl (hb hby d2_98) k) ?_
        refine GoW.to (g' := (mkF m 101 #[.val (.int p0), .val (.int (4 : Int32)), .val (.ref rows)] [(.int (p0 % (10 : Int32))), (.ref a22)])) (fun t k => iremM X49 hx rfl (hb hby d2_100) rfl (by decide) k) ?_
        have f105 : Arv Z h49 b22 kb22 .byte (10 : Int32) [(.int (52 : Int32)), (.int (52 : Int32)), (.int (52 : Int32)), (.int (52 : Int32)), (.int (52 : Int32)), (.int (52 : Int32)), (.int (52 : Int32)), (.int (52 : Int32)), (.int (52 : Int32)), (.int (52 : Int32))] (.int (0 : Int32)) := (((((((((((Vb22.other W25 (Ne.symm nb22)).other W28 (Ne.symm nb22)).other W31 (Ne.symm nb22)).other W34 (Ne.symm nb22)).other W37 (Ne.symm nb22)).ext E38).other W41 (Ne.symm nb22)).ext E42).other W45 (Ne.symm nb22)).ext E46).other W49 (Ne.symm nb22))
        have A_106 : own_Az Z h49 b22 .byte (10 : Int32) (own_ls [(52 : Int32), (52 : Int32), (52 : Int32), (52 : Int32), (52 : Int32), (52 : Int32), (52 : Int32), (52 : Int32), (52 : Int32), (52 : Int32)]) := own_az_ls (l := [(52 : Int32), (52 : Int32), (52 : Int32), (52 : Int32), (52 : Int32), (52 : Int32), (52 : Int32), (52 : Int32), (52 : Int32), (52 : Int32)]) f105
        have f107 : Exa Z h49 a22 "java/lang/String" := (((((((f35.wr W37).ext E38).wr W41).ext E42).wr W45).ext E46).wr W49)
        have f108 : Fld Z h49 a22 "java/lang/String" "coder" "B" (.int (0 : Int32)) := (((((((((((Fc22.other W25 (Or.inl (Ne.symm na22))).other W28 (Or.inl (Ne.symm na22))).other W31 (Or.inl (Ne.symm na22))).other W34 (Or.inl (Ne.symm na22))).other W37 (Or.inl (Ne.symm na22))).ext E38).other W41 (Or.inl (Ne.symm na22))).ext E42).other W45 (Or.inl (Ne.symm na22))).ext E46).other W49 (Or.inl (Ne.symm na22)))
        have f109 : Fld Z h49 a22 "java/lang/String" "value" "[B" (.ref b22) := (((((((((((Fv22.other W25 (Or.inl (Ne.symm na22))).other W28 (Or.inl (Ne.symm na22))).other W31 (Or.inl (Ne.symm na22))).other W34 (Or.inl (Ne.symm na22))).other W37 (Or.inl (Ne.symm na22))).ext E38).other W41 (Or.inl (Ne.symm na22))).ext E42).other W45 (Or.inl (Ne.symm na22))).ext E46).other W49 (Or.inl (Ne.symm na22)))
        have f110 : Sta Z h49 "java/lang/String" "COMPACT_STRINGS" "Z" (.int cs) := ((((((((((((((((((((Sa1.ext E4).ext E5).wr W8).wr W11).wr W14).wr W17).ext E18).wr W21).ext E22).wr W25).wr W28).wr W31).wr W34).wr W37).ext E38).wr W41).ext E42).wr W45).ext E46).wr W49)
        have f111 : Sta Z h49 "jdk/internal/util/Preconditions" "SIOOBE_FORMATTER" "Ljava/util/function/BiFunction;" sv := ((((((((((((((((((((Sa2.ext E4).ext E5).wr W8).wr W11).wr W14).wr W17).ext E18).wr W21).ext E22).wr W25).wr W28).wr W31).wr W34).wr W37).ext E38).wr W41).ext E42).wr W45).ext E46).wr W49)
        obtain ⟨cq112, kq112, qa112, qb112, qc112⟩ := isOf hZ_46 e49 f107
        obtain ⟨v112, _, ⟨T112, L112, k112, n112⟩, -, X112, ⟨Lc112, hQ112, l112, y112, z112⟩, st112⟩ := X49.virtualBack hx (y := (⟨"java/lang/String", "charAt", "(I)C"⟩ : MethodName)) (z := (⟨"java/lang/String", "charAt", "(I)C"⟩ : MethodName)) hown_46 (mvT hZ_46 (hw _ (List.mem_of_getElem? (i := 23) rfl))) (mvT hZ_46 (hw _ (List.mem_of_getElem? (i := 24) rfl))) (notFace_of_selects (args := #[]) (mvT hZ_46 (hw _ (List.mem_of_getElem? (i := 26) rfl)))) (mvT hZ_46 (hw _ (List.mem_of_getElem? (i := 26) rfl))) (mvT hZ_46 (hw _ (List.mem_of_getElem? (i := 25) rfl))) (by decide) (backOf (W := 0) (rm3 l Z aw hw [] a22 (p0 % (10 : Int32)) b22 (10 : Int32) (own_ls [(52 : Int32), (52 : Int32), (52 : Int32), (52 : Int32), (52 : Int32), (52 : Int32), (52 : Int32), (52 : Int32), (52 : Int32), (52 : Int32)]) cs sv h49 n0 Z49 f107 f108 f109 A_106 f110 f111 hcs hsv (own_r c1 c2).1 (own_r c1 c2).2) hZ_46 (hw _ (List.mem_of_getElem? (i := 27) rfl)) (hw _ (List.mem_of_getElem? (i := 11) rfl)) (by decide) (by decide)) qa112 qc112 (g := (mkF m 101 #[.val (.int p0), .val (.int (4 : Int32)), .val (.ref rows)] [(.int (p0 % (10 : Int32))), (.ref a22)])) rfl (by rw [hml]; rfl) (Steps.refl _) (argsL := [(.int (p0 % (10 : Int32)))]) (rest := []) (lenOf pd_28I29C rfl) rfl (by show 2 * 0 + _ ≤ _; exact Nat.le_of_eq rfl) (hb hby d2_101) (fun _ _ => ⟨rfl, e49, (by decide : 13 + 0 ≤ _), (by decide : 277 + 0 ≤ _)⟩)
        dsimp only [Pt.U, Pt.locs, Pt.cells, Pt.slots] at X112 l112 y112 z112 st112 hQ112
        subst l112 y112 z112
        obtain ⟨rfl, N112q, e112⟩ := hQ112
        have N112 := Fr.app N49 N112q
        refine GoW.to (g' := (mkF m 104 #[.val (.int p0), .val (.int (4 : Int32)), .val (.ref rows)] [(.int (own_ch ((own_ls [(52 : Int32), (52 : Int32), (52 : Int32), (52 : Int32), (52 : Int32), (52 : Int32), (52 : Int32), (52 : Int32), (52 : Int32), (52 : Int32)]) (p0 % (10 : Int32)))))])) (fun t k => st112.trans k) ?_
        refine GoW.to (g' := (mkF m 106 #[.val (.int p0), .val (.int (4 : Int32)), .val (.ref rows)] [(.int (48 : Int32)), (.int (own_ch ((own_ls [(52 : Int32), (52 : Int32), (52 : Int32), (52 : Int32), (52 : Int32), (52 : Int32), (52 : Int32), (52 : Int32), (52 : Int32), (52 : Int32)]) (p0 % (10 : Int32)))))])) (fun t k => XS.bipush X112.here hx rfl (hb hby d2_104) k) ?_
        refine GoW.to (g' := (mkF m 107 #[.val (.int p0), .val (.int (4 : Int32)), .val (.ref rows)] [(.int ((own_ch ((own_ls [(52 : Int32), (52 : Int32), (52 : Int32), (52 : Int32), (52 : Int32), (52 : Int32), (52 : Int32), (52 : Int32), (52 : Int32), (52 : Int32)]) (p0 % (10 : Int32)))) - (48 : Int32)))])) (fun t k => XS.isub X112.here hx rfl (hb hby d2_106) rfl k) ?_
        refine GoW.to (g' := (mkF m 108 #[.val (.int p0), .val (.int ((own_ch ((own_ls [(52 : Int32), (52 : Int32), (52 : Int32), (52 : Int32), (52 : Int32), (52 : Int32), (52 : Int32), (52 : Int32), (52 : Int32), (52 : Int32)]) (p0 % (10 : Int32)))) - (48 : Int32))), .val (.ref rows)] [])) (fun t k => XS.istoreN X112.here hx rfl (hb hby d2_107) rfl (l' := #[.val (.int p0), .val (.int ((own_ch ((own_ls [(52 : Int32), (52 : Int32), (52 : Int32), (52 : Int32), (52 : Int32), (52 : Int32), (52 : Int32), (52 : Int32), (52 : Int32), (52 : Int32)]) (p0 % (10 : Int32)))) - (48 : Int32))), .val (.ref rows)]) rfl k) ?_
        refine GoW.to (g' := (mkF m 109 #[.val (.int p0), .val (.int ((own_ch ((own_ls [(52 : Int32), (52 : Int32), (52 : Int32), (52 : Int32), (52 : Int32), (52 : Int32), (52 : Int32), (52 : Int32), (52 : Int32), (52 : Int32)]) (p0 % (10 : Int32)))) - (48 : Int32))), .val (.ref rows)] [(.int ((own_ch ((own_ls [(52 : Int32), (52 : Int32), (52 : Int32), (52 : Int32), (52 : Int32), (52 : Int32), (52 : Int32), (52 : Int32), (52 : Int32), (52 : Int32)]) (p0 % (10 : Int32)))) - (48 : Int32)))])) (fun t k => XS.iloadN X112.here hx rfl (hb hby d2_108) rfl k) ?_
        exact GoW.retI (s := s) (vm1 := T46.vm) X112 hS46 (by rw [e112]; exact sk49) hx Bd.returns Bd.notSynchronized (hb hby d2_109) (by decide) (by decide) (fun fs => ⟨⟨congrArg (fun z => some (Value.int z)) (own_e1 (l := [(52 : Int32), (52 : Int32), (52 : Int32), (52 : Int32), (52 : Int32), (52 : Int32), (52 : Int32), (52 : Int32), (52 : Int32), (52 : Int32)]) c1 c2 hq (by decide +kernel)), N112⟩, (show CHr Z consts_1 s.vm h0 T112.vm T112.heap from by rw [e112]; exact C49.trans (CHv.at (s := s) (vm0 := T46.vm) X112 hZ_46 hEL C49.1))⟩)
      · rw [show (p0 / (10 : Int32)) = (7 : Int32) from hq]
        obtain ⟨cl113, Ar113, kc113, S113, M113, H113, G113⟩ := id V49
        have hin113 : ¬ ((7 : Int32) < 0 ∨ cl113.slots.size ≤ ((7 : Int32)).toNatClampNeg) := inb_of S113 ⟨by decide, by decide⟩
        refine GoW.to (g' := (mkF m 97 #[.val (.int p0), .val (.int (4 : Int32)), .val (.ref rows)] [(.ref a22)])) (fun t k => X49.aaload hx (j := (7 : Int32)) (v := (.ref a22)) (by rw [e49]; exact Ar113.1) (State.isArrayOf_alike hZ_46.alike Ar113.2.1) rfl Ar113.2.2 hin113 (H113 _ (Nat.lt_of_not_le fun q => hin113 (Or.inr q))) (g := (mkF m 96 #[.val (.int p0), .val (.int (4 : Int32)), .val (.ref rows)] [(.int (7 : Int32)), (.ref rows)])) rfl rfl (hb hby d2_96) _ k) ?_
        refine GoW.to (g' := (mkF m 98 #[.val (.int p0), .val (.int (4 : Int32)), .val (.ref rows)] [(.int p0), (.ref a22)])) (fun t k => XS.iloadN X49.here hx rfl (hb hby d2_97) rfl k) ?_
        refine GoW.to (g' := (mkF m 100 #[.val (.int p0), .val (.int (4 : Int32)), .val (.ref rows)] [(.int (10 : Int32)), (.int p0), (.ref a22)])) (fun t k => XS.bipush X49.here hx rfl (hb hby d2_98) k) ?_
        refine GoW.to (g' := (mkF m 101 #[.val (.int p0), .val (.int (4 : Int32)), .val (.ref rows)] [(.int (p0 % (10 : Int32))), (.ref a22)])) (fun t k => iremM X49 hx rfl (hb hby d2_100) rfl (by decide) k) ?_
        have f114 : Arv Z h49 b22 kb22 .byte (10 : Int32) [(.int (52 : Int32)), (.int (52 : Int32)), (.int (52 : Int32)), (.int (52 : Int32)), (.int (52 : Int32)), (.int (52 : Int32)), (.int (52 : Int32)), (.int (52 : Int32)), (.int (52 : Int32)), (.int (52 : Int32))] (.int (0 : Int32)) := (((((((((((Vb22.other W25 (Ne.symm nb22)).other W28 (Ne.symm nb22)).other W31 (Ne.symm nb22)).other W34 (Ne.symm nb22)).other W37 (Ne.symm nb22)).ext E38).other W41 (Ne.symm nb22)).ext E42).other W45 (Ne.symm nb22)).ext E46).other W49 (Ne.symm nb22))
        have A_115 : own_Az Z h49 b22 .byte (10 : Int32) (own_ls [(52 : Int32), (52 : Int32), (52 : Int32), (52 : Int32), (52 : Int32), (52 : Int32), (52 : Int32), (52 : Int32), (52 : Int32), (52 : Int32)]) := own_az_ls (l := [(52 : Int32), (52 : Int32), (52 : Int32), (52 : Int32), (52 : Int32), (52 : Int32), (52 : Int32), (52 : Int32), (52 : Int32), (52 : Int32)]) f114
        have f116 : Exa Z h49 a22 "java/lang/String" := (((((((f35.wr W37).ext E38).wr W41).ext E42).wr W45).ext E46).wr W49)
        have f117 : Fld Z h49 a22 "java/lang/String" "coder" "B" (.int (0 : Int32)) := (((((((((((Fc22.other W25 (Or.inl (Ne.symm na22))).other W28 (Or.inl (Ne.symm na22))).other W31 (Or.inl (Ne.symm na22))).other W34 (Or.inl (Ne.symm na22))).other W37 (Or.inl (Ne.symm na22))).ext E38).other W41 (Or.inl (Ne.symm na22))).ext E42).other W45 (Or.inl (Ne.symm na22))).ext E46).other W49 (Or.inl (Ne.symm na22)))
        have f118 : Fld Z h49 a22 "java/lang/String" "value" "[B" (.ref b22) := (((((((((((Fv22.other W25 (Or.inl (Ne.symm na22))).other W28 (Or.inl (Ne.symm na22))).other W31 (Or.inl (Ne.symm na22))).other W34 (Or.inl (Ne.symm na22))).other W37 (Or.inl (Ne.symm na22))).ext E38).other W41 (Or.inl (Ne.symm na22))).ext E42).other W45 (Or.inl (Ne.symm na22))).ext E46).other W49 (Or.inl (Ne.symm na22)))
        have f119 : Sta Z h49 "java/lang/String" "COMPACT_STRINGS" "Z" (.int cs) := ((((((((((((((((((((Sa1.ext E4).ext E5).wr W8).wr W11).wr W14).wr W17).ext E18).wr W21).ext E22).wr W25).wr W28).wr W31).wr W34).wr W37).ext E38).wr W41).ext E42).wr W45).ext E46).wr W49)
        have f120 : Sta Z h49 "jdk/internal/util/Preconditions" "SIOOBE_FORMATTER" "Ljava/util/function/BiFunction;" sv := ((((((((((((((((((((Sa2.ext E4).ext E5).wr W8).wr W11).wr W14).wr W17).ext E18).wr W21).ext E22).wr W25).wr W28).wr W31).wr W34).wr W37).ext E38).wr W41).ext E42).wr W45).ext E46).wr W49)
        obtain ⟨cq121, kq121, qa121, qb121, qc121⟩ := isOf hZ_46 e49 f116
        obtain ⟨v121, _, ⟨T121, L121, k121, n121⟩, -, X121, ⟨Lc121, hQ121, l121, y121, z121⟩, st121⟩ := X49.virtualBack hx (y := (⟨"java/lang/String", "charAt", "(I)C"⟩ : MethodName)) (z := (⟨"java/lang/String", "charAt", "(I)C"⟩ : MethodName)) hown_46 (mvT hZ_46 (hw _ (List.mem_of_getElem? (i := 23) rfl))) (mvT hZ_46 (hw _ (List.mem_of_getElem? (i := 24) rfl))) (notFace_of_selects (args := #[]) (mvT hZ_46 (hw _ (List.mem_of_getElem? (i := 26) rfl)))) (mvT hZ_46 (hw _ (List.mem_of_getElem? (i := 26) rfl))) (mvT hZ_46 (hw _ (List.mem_of_getElem? (i := 25) rfl))) (by decide) (backOf (W := 0) (rm3 l Z aw hw [] a22 (p0 % (10 : Int32)) b22 (10 : Int32) (own_ls [(52 : Int32), (52 : Int32), (52 : Int32), (52 : Int32), (52 : Int32), (52 : Int32), (52 : Int32), (52 : Int32), (52 : Int32), (52 : Int32)]) cs sv h49 n0 Z49 f116 f117 f118 A_115 f119 f120 hcs hsv (own_r c1 c2).1 (own_r c1 c2).2) hZ_46 (hw _ (List.mem_of_getElem? (i := 27) rfl)) (hw _ (List.mem_of_getElem? (i := 11) rfl)) (by decide) (by decide)) qa121 qc121 (g := (mkF m 101 #[.val (.int p0), .val (.int (4 : Int32)), .val (.ref rows)] [(.int (p0 % (10 : Int32))), (.ref a22)])) rfl (by rw [hml]; rfl) (Steps.refl _) (argsL := [(.int (p0 % (10 : Int32)))]) (rest := []) (lenOf pd_28I29C rfl) rfl (by show 2 * 0 + _ ≤ _; exact Nat.le_of_eq rfl) (hb hby d2_101) (fun _ _ => ⟨rfl, e49, (by decide : 13 + 0 ≤ _), (by decide : 277 + 0 ≤ _)⟩)
        dsimp only [Pt.U, Pt.locs, Pt.cells, Pt.slots] at X121 l121 y121 z121 st121 hQ121
        subst l121 y121 z121
        obtain ⟨rfl, N121q, e121⟩ := hQ121
        have N121 := Fr.app N49 N121q
        refine GoW.to (g' := (mkF m 104 #[.val (.int p0), .val (.int (4 : Int32)), .val (.ref rows)] [(.int (own_ch ((own_ls [(52 : Int32), (52 : Int32), (52 : Int32), (52 : Int32), (52 : Int32), (52 : Int32), (52 : Int32), (52 : Int32), (52 : Int32), (52 : Int32)]) (p0 % (10 : Int32)))))])) (fun t k => st121.trans k) ?_
        refine GoW.to (g' := (mkF m 106 #[.val (.int p0), .val (.int (4 : Int32)), .val (.ref rows)] [(.int (48 : Int32)), (.int (own_ch ((own_ls [(52 : Int32), (52 : Int32), (52 : Int32), (52 : Int32), (52 : Int32), (52 : Int32), (52 : Int32), (52 : Int32), (52 : Int32), (52 : Int32)]) (p0 % (10 : Int32)))))])) (fun t k => XS.bipush X121.here hx rfl (hb hby d2_104) k) ?_
        refine GoW.to (g' := (mkF m 107 #[.val (.int p0), .val (.int (4 : Int32)), .val (.ref rows)] [(.int ((own_ch ((own_ls [(52 : Int32), (52 : Int32), (52 : Int32), (52 : Int32), (52 : Int32), (52 : Int32), (52 : Int32), (52 : Int32), (52 : Int32), (52 : Int32)]) (p0 % (10 : Int32)))) - (48 : Int32)))])) (fun t k => XS.isub X121.here hx rfl (hb hby d2_106) rfl k) ?_
        refine GoW.to (g' := (mkF m 108 #[.val (.int p0), .val (.int ((own_ch ((own_ls [(52 : Int32), (52 : Int32), (52 : Int32), (52 : Int32), (52 : Int32), (52 : Int32), (52 : Int32), (52 : Int32), (52 : Int32), (52 : Int32)]) (p0 % (10 : Int32)))) - (48 : Int32))), .val (.ref rows)] [])) (fun t k => XS.istoreN X121.here hx rfl (hb hby d2_107) rfl (l' := #[.val (.int p0), .val (.int ((own_ch ((own_ls [(52 : Int32), (52 : Int32), (52 : Int32), (52 : Int32), (52 : Int32), (52 : Int32), (52 : Int32), (52 : Int32), (52 : Int32), (52 : Int32)]) (p0 % (10 : Int32)))) - (48 : Int32))), .val (.ref rows)]) rfl k) ?_
        refine GoW.to (g' := (mkF m 109 #[.val (.int p0), .val (.int ((own_ch ((own_ls [(52 : Int32), (52 : Int32), (52 : Int32), (52 : Int32), (52 : Int32), (52 : Int32), (52 : Int32), (52 : Int32), (52 : Int32), (52 : Int32)]) (p0 % (10 : Int32)))) - (48 : Int32))), .val (.ref rows)] [(.int ((own_ch ((own_ls [(52 : Int32), (52 : Int32), (52 : Int32), (52 : Int32), (52 : Int32), (52 : Int32), (52 : Int32), (52 : Int32), (52 : Int32), (52 : Int32)]) (p0 % (10 : Int32)))) - (48 : Int32)))])) (fun t k => XS.iloadN X121.here hx rfl (hb hby d2_108) rfl k) ?_
        exact GoW.retI (s := s) (vm1 := T46.vm) X121 hS46 (by rw [e121]; exact sk49) hx Bd.returns Bd.notSynchronized (hb hby d2_109) (by decide) (by decide) (fun fs => ⟨⟨congrArg (fun z => some (Value.int z)) (own_e1 (l := [(52 : Int32), (52 : Int32), (52 : Int32), (52 : Int32), (52 : Int32), (52 : Int32), (52 : Int32), (52 : Int32), (52 : Int32), (52 : Int32)]) c1 c2 hq (by decide +kernel)), N121⟩, (show CHr Z consts_1 s.vm h0 T121.vm T121.heap from by rw [e121]; exact C49.trans (CHv.at (s := s) (vm0 := T46.vm) X121 hZ_46 hEL C49.1))⟩)
      · rw [show (p0 / (10 : Int32)) = (8 : Int32) from hq]
        obtain ⟨cl122, Ar122, kc122, S122, M122, H122, G122⟩ := id V49
        have hin122 : ¬ ((8 : Int32) < 0 ∨ cl122.slots.size ≤ ((8 : Int32)).toNatClampNeg) := inb_of S122 ⟨by decide, by decide⟩
        refine GoW.to (g' := (mkF m 97 #[.val (.int p0), .val (.int (4 : Int32)), .val (.ref rows)] [(.ref a22)])) (fun t k => X49.aaload hx (j := (8 : Int32)) (v := (.ref a22)) (by rw [e49]; exact Ar122.1) (State.isArrayOf_alike hZ_46.alike Ar122.2.1) rfl Ar122.2.2 hin122 (H122 _ (Nat.lt_of_not_le fun q => hin122 (Or.inr q))) (g := (mkF m 96 #[.val (.int p0), .val (.int (4 : Int32)), .val (.ref rows)] [(.int (8 : Int32)), (.ref rows)])) rfl rfl (hb hby d2_96) _ k) ?_
        refine GoW.to (g' := (mkF m 98 #[.val (.int p0), .val (.int (4 : Int32)), .val (.ref rows)] [(.int p0), (.ref a22)])) (fun t k => XS.iloadN X49.here hx rfl (hb hby d2_97) rfl k) ?_
        refine GoW.to (g' := (mkF m 100 #[.val (.int p0), .val (.int (4 : Int32)), .val (.ref rows)] [(.int (10 : Int32)), (.int p0), (.ref a22)])) (fun t k => XS.bipush X49.here hx rfl (hb hby d2_98) k) ?_
        refine GoW.to (g' := (mkF m 101 #[.val (.int p0), .val (.int (4 : Int32)), .val (.ref rows)] [(.int (p0 % (10 : Int32))), (.ref a22)])) (fun t k => iremM X49 hx rfl (hb hby d2_100) rfl (by decide) k) ?_
        have f123 : Arv Z h49 b22 kb22 .byte (10 : Int32) [(.int (52 : Int32)), (.int (52 : Int32)), (.int (52 : Int32)), (.int (52 : Int32)), (.int (52 : Int32)), (.int (52 : Int32)), (.int (52 : Int32)), (.int (52 : Int32)), (.int (52 : Int32)), (.int (52 : Int32))] (.int (0 : Int32)) := (((((((((((Vb22.other W25 (Ne.symm nb22)).other W28 (Ne.symm nb22)).other W31 (Ne.symm nb22)).other W34 (Ne.symm nb22)).other W37 (Ne.symm nb22)).ext E38).other W41 (Ne.symm nb22)).ext E42).other W45 (Ne.symm nb22)).ext E46).other W49 (Ne.symm nb22))
        have A_124 : own_Az Z h49 b22 .byte (10 : Int32) (own_ls [(52 : Int32), (52 : Int32), (52 : Int32), (52 : Int32), (52 : Int32), (52 : Int32), (52 : Int32), (52 : Int32), (52 : Int32), (52 : Int32)]) := own_az_ls (l := [(52 : Int32), (52 : Int32), (52 : Int32), (52 : Int32), (52 : Int32), (52 : Int32), (52 : Int32), (52 : Int32), (52 : Int32), (52 : Int32)]) f123
        have f125 : Exa Z h49 a22 "java/lang/String" := (((((((f35.wr W37).ext E38).wr W41).ext E42).wr W45).ext E46).wr W49)
        have f126 : Fld Z h49 a22 "java/lang/String" "coder" "B" (.int (0 : Int32)) := (((((((((((Fc22.other W25 (Or.inl (Ne.symm na22))).other W28 (Or.inl (Ne.symm na22))).other W31 (Or.inl (Ne.symm na22))).other W34 (Or.inl (Ne.symm na22))).other W37 (Or.inl (Ne.symm na22))).ext E38).other W41 (Or.inl (Ne.symm na22))).ext E42).other W45 (Or.inl (Ne.symm na22))).ext E46).other W49 (Or.inl (Ne.symm na22)))
        have f127 : Fld Z h49 a22 "java/lang/String" "value" "[B" (.ref b22) := (((((((((((Fv22.other W25 (Or.inl (Ne.symm na22))).other W28 (Or.inl (Ne.symm na22))).other W31 (Or.inl (Ne.symm na22))).other W34 (Or.inl (Ne.symm na22))).other W37 (Or.inl (Ne.symm na22))).ext E38).other W41 (Or.inl (Ne.symm na22))).ext E42).other W45 (Or.inl (Ne.symm na22))).ext E46).other W49 (Or.inl (Ne.symm na22)))
        have f128 : Sta Z h49 "java/lang/String" "COMPACT_STRINGS" "Z" (.int cs) := ((((((((((((((((((((Sa1.ext E4).ext E5).wr W8).wr W11).wr W14).wr W17).ext E18).wr W21).ext E22).wr W25).wr W28).wr W31).wr W34).wr W37).ext E38).wr W41).ext E42).wr W45).ext E46).wr W49)
        have f129 : Sta Z h49 "jdk/internal/util/Preconditions" "SIOOBE_FORMATTER" "Ljava/util/function/BiFunction;" sv := ((((((((((((((((((((Sa2.ext E4).ext E5).wr W8).wr W11).wr W14).wr W17).ext E18).wr W21).ext E22).wr W25).wr W28).wr W31).wr W34).wr W37).ext E38).wr W41).ext E42).wr W45).ext E46).wr W49)
        obtain ⟨cq130, kq130, qa130, qb130, qc130⟩ := isOf hZ_46 e49 f125
        obtain ⟨v130, _, ⟨T130, L130, k130, n130⟩, -, X130, ⟨Lc130, hQ130, l130, y130, z130⟩, st130⟩ := X49.virtualBack hx (y := (⟨"java/lang/String", "charAt", "(I)C"⟩ : MethodName)) (z := (⟨"java/lang/String", "charAt", "(I)C"⟩ : MethodName)) hown_46 (mvT hZ_46 (hw _ (List.mem_of_getElem? (i := 23) rfl))) (mvT hZ_46 (hw _ (List.mem_of_getElem? (i := 24) rfl))) (notFace_of_selects (args := #[]) (mvT hZ_46 (hw _ (List.mem_of_getElem? (i := 26) rfl)))) (mvT hZ_46 (hw _ (List.mem_of_getElem? (i := 26) rfl))) (mvT hZ_46 (hw _ (List.mem_of_getElem? (i := 25) rfl))) (by decide) (backOf (W := 0) (rm3 l Z aw hw [] a22 (p0 % (10 : Int32)) b22 (10 : Int32) (own_ls [(52 : Int32), (52 : Int32), (52 : Int32), (52 : Int32), (52 : Int32), (52 : Int32), (52 : Int32), (52 : Int32), (52 : Int32), (52 : Int32)]) cs sv h49 n0 Z49 f125 f126 f127 A_124 f128 f129 hcs hsv (own_r c1 c2).1 (own_r c1 c2).2) hZ_46 (hw _ (List.mem_of_getElem? (i := 27) rfl)) (hw _ (List.mem_of_getElem? (i := 11) rfl)) (by decide) (by decide)) qa130 qc130 (g := (mkF m 101 #[.val (.int p0), .val (.int (4 : Int32)), .val (.ref rows)] [(.int (p0 % (10 : Int32))), (.ref a22)])) rfl (by rw [hml]; rfl) (Steps.refl _) (argsL := [(.int (p0 % (10 : Int32)))]) (rest := []) (lenOf pd_28I29C rfl) rfl (by show 2 * 0 + _ ≤ _; exact Nat.le_of_eq rfl) (hb hby d2_101) (fun _ _ => ⟨rfl, e49, (by decide : 13 + 0 ≤ _), (by decide : 277 + 0 ≤ _)⟩)
        dsimp only [Pt.U, Pt.locs, Pt.cells, Pt.slots] at X130 l130 y130 z130 st130 hQ130
        subst l130 y130 z130
        obtain ⟨rfl, N130q, e130⟩ := hQ130
        have N130 := Fr.app N49 N130q
        refine GoW.to (g' := (mkF m 104 #[.val (.int p0), .val (.int (4 : Int32)), .val (.ref rows)] [(.int (own_ch ((own_ls [(52 : Int32), (52 : Int32), (52 : Int32), (52 : Int32), (52 : Int32), (52 : Int32), (52 : Int32), (52 : Int32), (52 : Int32), (52 : Int32)]) (p0 % (10 : Int32)))))])) (fun t k => st130.trans k) ?_
        refine GoW.to (g' := (mkF m 106 #[.val (.int p0), .val (.int (4 : Int32)), .val (.ref rows)] [(.int (48 : Int32)), (.int (own_ch ((own_ls [(52 : Int32), (52 : Int32), (52 : Int32), (52 : Int32), (52 : Int32), (52 : Int32), (52 : Int32), (52 : Int32), (52 : Int32), (52 : Int32)]) (p0 % (10 : Int32)))))])) (fun t k => XS.bipush X130.here hx rfl (hb hby d2_104) k) ?_
        refine GoW.to (g' := (mkF m 107 #[.val (.int p0), .val (.int (4 : Int32)), .val (.ref rows)] [(.int ((own_ch ((own_ls [(52 : Int32), (52 : Int32), (52 : Int32), (52 : Int32), (52 : Int32), (52 : Int32), (52 : Int32), (52 : Int32), (52 : Int32), (52 : Int32)]) (p0 % (10 : Int32)))) - (48 : Int32)))])) (fun t k => XS.isub X130.here hx rfl (hb hby d2_106) rfl k) ?_
        refine GoW.to (g' := (mkF m 108 #[.val (.int p0), .val (.int ((own_ch ((own_ls [(52 : Int32), (52 : Int32), (52 : Int32), (52 : Int32), (52 : Int32), (52 : Int32), (52 : Int32), (52 : Int32), (52 : Int32), (52 : Int32)]) (p0 % (10 : Int32)))) - (48 : Int32))), .val (.ref rows)] [])) (fun t k => XS.istoreN X130.here hx rfl (hb hby d2_107) rfl (l' := #[.val (.int p0), .val (.int ((own_ch ((own_ls [(52 : Int32), (52 : Int32), (52 : Int32), (52 : Int32), (52 : Int32), (52 : Int32), (52 : Int32), (52 : Int32), (52 : Int32), (52 : Int32)]) (p0 % (10 : Int32)))) - (48 : Int32))), .val (.ref rows)]) rfl k) ?_
        refine GoW.to (g' := (mkF m 109 #[.val (.int p0), .val (.int ((own_ch ((own_ls [(52 : Int32), (52 : Int32), (52 : Int32), (52 : Int32), (52 : Int32), (52 : Int32), (52 : Int32), (52 : Int32), (52 : Int32), (52 : Int32)]) (p0 % (10 : Int32)))) - (48 : Int32))), .val (.ref rows)] [(.int ((own_ch ((own_ls [(52 : Int32), (52 : Int32), (52 : Int32), (52 : Int32), (52 : Int32), (52 : Int32), (52 : Int32), (52 : Int32), (52 : Int32), (52 : Int32)]) (p0 % (10 : Int32)))) - (48 : Int32)))])) (fun t k => XS.iloadN X130.here hx rfl (hb hby d2_108) rfl k) ?_
        exact GoW.retI (s := s) (vm1 := T46.vm) X130 hS46 (by rw [e130]; exact sk49) hx Bd.returns Bd.notSynchronized (hb hby d2_109) (by decide) (by decide) (fun fs => ⟨⟨congrArg (fun z => some (Value.int z)) (own_e1 (l := [(52 : Int32), (52 : Int32), (52 : Int32), (52 : Int32), (52 : Int32), (52 : Int32), (52 : Int32), (52 : Int32), (52 : Int32), (52 : Int32)]) c1 c2 hq (by decide +kernel)), N130⟩, (show CHr Z consts_1 s.vm h0 T130.vm T130.heap from by rw [e130]; exact C49.trans (CHv.at (s := s) (vm0 := T46.vm) X130 hZ_46 hEL C49.1))⟩)
      · rw [show (p0 / (10 : Int32)) = (9 : Int32) from hq]
        obtain ⟨cl131, Ar131, kc131, S131, M131, H131, G131⟩ := id V49
        have hin131 : ¬ ((9 : Int32) < 0 ∨ cl131.slots.size ≤ ((9 : Int32)).toNatClampNeg) := inb_of S131 ⟨by decide, by decide⟩
        refine GoW.to (g' := (mkF m 97 #[.val (.int p0), .val (.int (4 : Int32)), .val (.ref rows)] [(.ref a22)])) (fun t k => X49.aaload hx (j := (9 : Int32)) (v := (.ref a22)) (by rw [e49]; exact Ar131.1) (State.isArrayOf_alike hZ_46.alike Ar131.2.1) rfl Ar131.2.2 hin131 (H131 _ (Nat.lt_of_not_le fun q => hin131 (Or.inr q))) (g := (mkF m 96 #[.val (.int p0), .val (.int (4 : Int32)), .val (.ref rows)] [(.int (9 : Int32)), (.ref rows)])) rfl rfl (hb hby d2_96) _ k) ?_
        refine GoW.to (g' := (mkF m 98 #[.val (.int p0), .val (.int (4 : Int32)), .val (.ref rows)] [(.int p0), (.ref a22)])) (fun t k => XS.iloadN X49.here hx rfl (hb hby d2_97) rfl k) ?_
        refine GoW.to (g' := (mkF m 100 #[.val (.int p0), .val (.int (4 : Int32)), .val (.ref rows)] [(.int (10 : Int32)), (.int p0), (.ref a22)])) (fun t k => XS.bipush X49.here hx rfl (hb hby d2_98) k) ?_
        refine GoW.to (g' := (mkF m 101 #[.val (.int p0), .val (.int (4 : Int32)), .val (.ref rows)] [(.int (p0 % (10 : Int32))), (.ref a22)])) (fun t k => iremM X49 hx rfl (hb hby d2_100) rfl (by decide) k) ?_
        have f132 : Arv Z h49 b22 kb22 .byte (10 : Int32) [(.int (52 : Int32)), (.int (52 : Int32)), (.int (52 : Int32)), (.int (52 : Int32)), (.int (52 : Int32)), (.int (52 : Int32)), (.int (52 : Int32)), (.int (52 : Int32)), (.int (52 : Int32)), (.int (52 : Int32))] (.int (0 : Int32)) := (((((((((((Vb22.other W25 (Ne.symm nb22)).other W28 (Ne.symm nb22)).other W31 (Ne.symm nb22)).other W34 (Ne.symm nb22)).other W37 (Ne.symm nb22)).ext E38).other W41 (Ne.symm nb22)).ext E42).other W45 (Ne.symm nb22)).ext E46).other W49 (Ne.symm nb22))
        have A_133 : own_Az Z h49 b22 .byte (10 : Int32) (own_ls [(52 : Int32), (52 : Int32), (52 : Int32), (52 : Int32), (52 : Int32), (52 : Int32), (52 : Int32), (52 : Int32), (52 : Int32), (52 : Int32)]) := own_az_ls (l := [(52 : Int32), (52 : Int32), (52 : Int32), (52 : Int32), (52 : Int32), (52 : Int32), (52 : Int32), (52 : Int32), (52 : Int32), (52 : Int32)]) f132
        have f134 : Exa Z h49 a22 "java/lang/String" := (((((((f35.wr W37).ext E38).wr W41).ext E42).wr W45).ext E46).wr W49)
        have f135 : Fld Z h49 a22 "java/lang/String" "coder" "B" (.int (0 : Int32)) := (((((((((((Fc22.other W25 (Or.inl (Ne.symm na22))).other W28 (Or.inl (Ne.symm na22))).other W31 (Or.inl (Ne.symm na22))).other W34 (Or.inl (Ne.symm na22))).other W37 (Or.inl (Ne.symm na22))).ext E38).other W41 (Or.inl (Ne.symm na22))).ext E42).other W45 (Or.inl (Ne.symm na22))).ext E46).other W49 (Or.inl (Ne.symm na22)))
        have f136 : Fld Z h49 a22 "java/lang/String" "value" "[B" (.ref b22) := (((((((((((Fv22.other W25 (Or.inl (Ne.symm na22))).other W28 (Or.inl (Ne.symm na22))).other W31 (Or.inl (Ne.symm na22))).other W34 (Or.inl (Ne.symm na22))).other W37 (Or.inl (Ne.symm na22))).ext E38).other W41 (Or.inl (Ne.symm na22))).ext E42).other W45 (Or.inl (Ne.symm na22))).ext E46).other W49 (Or.inl (Ne.symm na22)))
        have f137 : Sta Z h49 "java/lang/String" "COMPACT_STRINGS" "Z" (.int cs) := ((((((((((((((((((((Sa1.ext E4).ext E5).wr W8).wr W11).wr W14).wr W17).ext E18).wr W21).ext E22).wr W25).wr W28).wr W31).wr W34).wr W37).ext E38).wr W41).ext E42).wr W45).ext E46).wr W49)
        have f138 : Sta Z h49 "jdk/internal/util/Preconditions" "SIOOBE_FORMATTER" "Ljava/util/function/BiFunction;" sv := ((((((((((((((((((((Sa2.ext E4).ext E5).wr W8).wr W11).wr W14).wr W17).ext E18).wr W21).ext E22).wr W25).wr W28).wr W31).wr W34).wr W37).ext E38).wr W41).ext E42).wr W45).ext E46).wr W49)
        obtain ⟨cq139, kq139, qa139, qb139, qc139⟩ := isOf hZ_46 e49 f134
        obtain ⟨v139, _, ⟨T139, L139, k139, n139⟩, -, X139, ⟨Lc139, hQ139, l139, y139, z139⟩, st139⟩ := X49.virtualBack hx (y := (⟨"java/lang/String", "charAt", "(I)C"⟩ : MethodName)) (z := (⟨"java/lang/String", "charAt", "(I)C"⟩ : MethodName)) hown_46 (mvT hZ_46 (hw _ (List.mem_of_getElem? (i := 23) rfl))) (mvT hZ_46 (hw _ (List.mem_of_getElem? (i := 24) rfl))) (notFace_of_selects (args := #[]) (mvT hZ_46 (hw _ (List.mem_of_getElem? (i := 26) rfl)))) (mvT hZ_46 (hw _ (List.mem_of_getElem? (i := 26) rfl))) (mvT hZ_46 (hw _ (List.mem_of_getElem? (i := 25) rfl))) (by decide) (backOf (W := 0) (rm3 l Z aw hw [] a22 (p0 % (10 : Int32)) b22 (10 : Int32) (own_ls [(52 : Int32), (52 : Int32), (52 : Int32), (52 : Int32), (52 : Int32), (52 : Int32), (52 : Int32), (52 : Int32), (52 : Int32), (52 : Int32)]) cs sv h49 n0 Z49 f134 f135 f136 A_133 f137 f138 hcs hsv (own_r c1 c2).1 (own_r c1 c2).2) hZ_46 (hw _ (List.mem_of_getElem? (i := 27) rfl)) (hw _ (List.mem_of_getElem? (i := 11) rfl)) (by decide) (by decide)) qa139 qc139 (g := (mkF m 101 #[.val (.int p0), .val (.int (4 : Int32)), .val (.ref rows)] [(.int (p0 % (10 : Int32))), (.ref a22)])) rfl (by rw [hml]; rfl) (Steps.refl _) (argsL := [(.int (p0 % (10 : Int32)))]) (rest := []) (lenOf pd_28I29C rfl) rfl (by show 2 * 0 + _ ≤ _; exact Nat.le_of_eq rfl) (hb hby d2_101) (fun _ _ => ⟨rfl, e49, (by decide : 13 + 0 ≤ _), (by decide : 277 + 0 ≤ _)⟩)
        dsimp only [Pt.U, Pt.locs, Pt.cells, Pt.slots] at X139 l139 y139 z139 st139 hQ139
        subst l139 y139 z139
        obtain ⟨rfl, N139q, e139⟩ := hQ139
        have N139 := Fr.app N49 N139q
        refine GoW.to (g' := (mkF m 104 #[.val (.int p0), .val (.int (4 : Int32)), .val (.ref rows)] [(.int (own_ch ((own_ls [(52 : Int32), (52 : Int32), (52 : Int32), (52 : Int32), (52 : Int32), (52 : Int32), (52 : Int32), (52 : Int32), (52 : Int32), (52 : Int32)]) (p0 % (10 : Int32)))))])) (fun t k => st139.trans k) ?_
        refine GoW.to (g' := (mkF m 106 #[.val (.int p0), .val (.int (4 : Int32)), .val (.ref rows)] [(.int (48 : Int32)), (.int (own_ch ((own_ls [(52 : Int32), (52 : Int32), (52 : Int32), (52 : Int32), (52 : Int32), (52 : Int32), (52 : Int32), (52 : Int32), (52 : Int32), (52 : Int32)]) (p0 % (10 : Int32)))))])) (fun t k => XS.bipush X139.here hx rfl (hb hby d2_104) k) ?_
        refine GoW.to (g' := (mkF m 107 #[.val (.int p0), .val (.int (4 : Int32)), .val (.ref rows)] [(.int ((own_ch ((own_ls [(52 : Int32), (52 : Int32), (52 : Int32), (52 : Int32), (52 : Int32), (52 : Int32), (52 : Int32), (52 : Int32), (52 : Int32), (52 : Int32)]) (p0 % (10 : Int32)))) - (48 : Int32)))])) (fun t k => XS.isub X139.here hx rfl (hb hby d2_106) rfl k) ?_
        refine GoW.to (g' := (mkF m 108 #[.val (.int p0), .val (.int ((own_ch ((own_ls [(52 : Int32), (52 : Int32), (52 : Int32), (52 : Int32), (52 : Int32), (52 : Int32), (52 : Int32), (52 : Int32), (52 : Int32), (52 : Int32)]) (p0 % (10 : Int32)))) - (48 : Int32))), .val (.ref rows)] [])) (fun t k => XS.istoreN X139.here hx rfl (hb hby d2_107) rfl (l' := #[.val (.int p0), .val (.int ((own_ch ((own_ls [(52 : Int32), (52 : Int32), (52 : Int32), (52 : Int32), (52 : Int32), (52 : Int32), (52 : Int32), (52 : Int32), (52 : Int32), (52 : Int32)]) (p0 % (10 : Int32)))) - (48 : Int32))), .val (.ref rows)]) rfl k) ?_
        refine GoW.to (g' := (mkF m 109 #[.val (.int p0), .val (.int ((own_ch ((own_ls [(52 : Int32), (52 : Int32), (52 : Int32), (52 : Int32), (52 : Int32), (52 : Int32), (52 : Int32), (52 : Int32), (52 : Int32), (52 : Int32)]) (p0 % (10 : Int32)))) - (48 : Int32))), .val (.ref rows)] [(.int ((own_ch ((own_ls [(52 : Int32), (52 : Int32), (52 : Int32), (52 : Int32), (52 : Int32), (52 : Int32), (52 : Int32), (52 : Int32), (52 : Int32), (52 : Int32)]) (p0 % (10 : Int32)))) - (48 : Int32)))])) (fun t k => XS.iloadN X139.here hx rfl (hb hby d2_108) rfl k) ?_
        exact GoW.retI (s := s) (vm1 := T46.vm) X139 hS46 (by rw [e139]; exact sk49) hx Bd.returns Bd.notSynchronized (hb hby d2_109) (by decide) (by decide) (fun fs => ⟨⟨congrArg (fun z => some (Value.int z)) (own_e1 (l := [(52 : Int32), (52 : Int32), (52 : Int32), (52 : Int32), (52 : Int32), (52 : Int32), (52 : Int32), (52 : Int32), (52 : Int32), (52 : Int32)]) c1 c2 hq (by decide +kernel)), N139⟩, (show CHr Z consts_1 s.vm h0 T139.vm T139.heap from by rw [e139]; exact C49.trans (CHv.at (s := s) (vm0 := T46.vm) X139 hZ_46 hEL C49.1))⟩)
      · rw [show (p0 / (10 : Int32)) = (10 : Int32) from hq]
        obtain ⟨cl140, Ar140, kc140, S140, M140, H140, G140⟩ := id V49
        have hin140 : ¬ ((10 : Int32) < 0 ∨ cl140.slots.size ≤ ((10 : Int32)).toNatClampNeg) := inb_of S140 ⟨by decide, by decide⟩
        refine GoW.to (g' := (mkF m 97 #[.val (.int p0), .val (.int (4 : Int32)), .val (.ref rows)] [(.ref a38)])) (fun t k => X49.aaload hx (j := (10 : Int32)) (v := (.ref a38)) (by rw [e49]; exact Ar140.1) (State.isArrayOf_alike hZ_46.alike Ar140.2.1) rfl Ar140.2.2 hin140 (H140 _ (Nat.lt_of_not_le fun q => hin140 (Or.inr q))) (g := (mkF m 96 #[.val (.int p0), .val (.int (4 : Int32)), .val (.ref rows)] [(.int (10 : Int32)), (.ref rows)])) rfl rfl (hb hby d2_96) _ k) ?_
        refine GoW.to (g' := (mkF m 98 #[.val (.int p0), .val (.int (4 : Int32)), .val (.ref rows)] [(.int p0), (.ref a38)])) (fun t k => XS.iloadN X49.here hx rfl (hb hby d2_97) rfl k) ?_
        refine GoW.to (g' := (mkF m 100 #[.val (.int p0), .val (.int (4 : Int32)), .val (.ref rows)] [(.int (10 : Int32)), (.int p0), (.ref a38)])) (fun t k => XS.bipush X49.here hx rfl (hb hby d2_98) k) ?_
        refine GoW.to (g' := (mkF m 101 #[.val (.int p0), .val (.int (4 : Int32)), .val (.ref rows)] [(.int (p0 % (10 : Int32))), (.ref a38)])) (fun t k => iremM X49 hx rfl (hb hby d2_100) rfl (by decide) k) ?_
        have f141 : Arv Z h49 b38 kb38 .byte (10 : Int32) [(.int (56 : Int32)), (.int (52 : Int32)), (.int (52 : Int32)), (.int (49 : Int32)), (.int (52 : Int32)), (.int (52 : Int32)), (.int (52 : Int32)), (.int (52 : Int32)), (.int (52 : Int32)), (.int (52 : Int32))] (.int (0 : Int32)) := (((((Vb38.other W41 (Ne.symm nb38)).ext E42).other W45 (Ne.symm nb38)).ext E46).other W49 (Ne.symm nb38))
        have A_142 : own_Az Z h49 b38 .byte (10 : Int32) (own_ls [(56 : Int32), (52 : Int32), (52 : Int32), (49 : Int32), (52 : Int32), (52 : Int32), (52 : Int32), (52 : Int32), (52 : Int32), (52 : Int32)]) := own_az_ls (l := [(56 : Int32), (52 : Int32), (52 : Int32), (49 : Int32), (52 : Int32), (52 : Int32), (52 : Int32), (52 : Int32), (52 : Int32), (52 : Int32)]) f141
        have f143 : Exa Z h49 a38 "java/lang/String" := (((((Ea38.wr W41).ext E42).wr W45).ext E46).wr W49)
        have f144 : Fld Z h49 a38 "java/lang/String" "coder" "B" (.int (0 : Int32)) := (((((Fc38.other W41 (Or.inl (Ne.symm na38))).ext E42).other W45 (Or.inl (Ne.symm na38))).ext E46).other W49 (Or.inl (Ne.symm na38)))
        have f145 : Fld Z h49 a38 "java/lang/String" "value" "[B" (.ref b38) := (((((Fv38.other W41 (Or.inl (Ne.symm na38))).ext E42).other W45 (Or.inl (Ne.symm na38))).ext E46).other W49 (Or.inl (Ne.symm na38)))
        have f146 : Sta Z h49 "java/lang/String" "COMPACT_STRINGS" "Z" (.int cs) := ((((((((((((((((((((Sa1.ext E4).ext E5).wr W8).wr W11).wr W14).wr W17).ext E18).wr W21).ext E22).wr W25).wr W28).wr W31).wr W34).wr W37).ext E38).wr W41).ext E42).wr W45).ext E46).wr W49)
        have f147 : Sta Z h49 "jdk/internal/util/Preconditions" "SIOOBE_FORMATTER" "Ljava/util/function/BiFunction;" sv := ((((((((((((((((((((Sa2.ext E4).ext E5).wr W8).wr W11).wr W14).wr W17).ext E18).wr W21).ext E22).wr W25).wr W28).wr W31).wr W34).wr W37).ext E38).wr W41).ext E42).wr W45).ext E46).wr W49)
        obtain ⟨cq148, kq148, qa148, qb148, qc148⟩ := isOf hZ_46 e49 f143
        obtain ⟨v148, _, ⟨T148, L148, k148, n148⟩, -, X148, ⟨Lc148, hQ148, l148, y148, z148⟩, st148⟩ := X49.virtualBack hx (y := (⟨"java/lang/String", "charAt", "(I)C"⟩ : MethodName)) (z := (⟨"java/lang/String", "charAt", "(I)C"⟩ : MethodName)) hown_46 (mvT hZ_46 (hw _ (List.mem_of_getElem? (i := 23) rfl))) (mvT hZ_46 (hw _ (List.mem_of_getElem? (i := 24) rfl))) (notFace_of_selects (args := #[]) (mvT hZ_46 (hw _ (List.mem_of_getElem? (i := 26) rfl)))) (mvT hZ_46 (hw _ (List.mem_of_getElem? (i := 26) rfl))) (mvT hZ_46 (hw _ (List.mem_of_getElem? (i := 25) rfl))) (by decide) (backOf (W := 0) (rm3 l Z aw hw [] a38 (p0 % (10 : Int32)) b38 (10 : Int32) (own_ls [(56 : Int32), (52 : Int32), (52 : Int32), (49 : Int32), (52 : Int32), (52 : Int32), (52 : Int32), (52 : Int32), (52 : Int32), (52 : Int32)]) cs sv h49 n0 Z49 f143 f144 f145 A_142 f146 f147 hcs hsv (own_r c1 c2).1 (own_r c1 c2).2) hZ_46 (hw _ (List.mem_of_getElem? (i := 27) rfl)) (hw _ (List.mem_of_getElem? (i := 11) rfl)) (by decide) (by decide)) qa148 qc148 (g := (mkF m 101 #[.val (.int p0), .val (.int (4 : Int32)), .val (.ref rows)] [(.int (p0 % (10 : Int32))), (.ref a38)])) rfl (by rw [hml]; rfl) (Steps.refl _) (argsL := [(.int (p0 % (10 : Int32)))]) (rest := []) (lenOf pd_28I29C rfl) rfl (by show 2 * 0 + _ ≤ _; exact Nat.le_of_eq rfl) (hb hby d2_101) (fun _ _ => ⟨rfl, e49, (by decide : 13 + 0 ≤ _), (by decide : 277 + 0 ≤ _)⟩)
        dsimp only [Pt.U, Pt.locs, Pt.cells, Pt.slots] at X148 l148 y148 z148 st148 hQ148
        subst l148 y148 z148
        obtain ⟨rfl, N148q, e148⟩ := hQ148
        have N148 := Fr.app N49 N148q
        refine GoW.to (g' := (mkF m 104 #[.val (.int p0), .val (.int (4 : Int32)), .val (.ref rows)] [(.int (own_ch ((own_ls [(56 : Int32), (52 : Int32), (52 : Int32), (49 : Int32), (52 : Int32), (52 : Int32), (52 : Int32), (52 : Int32), (52 : Int32), (52 : Int32)]) (p0 % (10 : Int32)))))])) (fun t k => st148.trans k) ?_
        refine GoW.to (g' := (mkF m 106 #[.val (.int p0), .val (.int (4 : Int32)), .val (.ref rows)] [(.int (48 : Int32)), (.int (own_ch ((own_ls [(56 : Int32), (52 : Int32), (52 : Int32), (49 : Int32), (52 : Int32), (52 : Int32), (52 : Int32), (52 : Int32), (52 : Int32), (52 : Int32)]) (p0 % (10 : Int32)))))])) (fun t k => XS.bipush X148.here hx rfl (hb hby d2_104) k) ?_
        refine GoW.to (g' := (mkF m 107 #[.val (.int p0), .val (.int (4 : Int32)), .val (.ref rows)] [(.int ((own_ch ((own_ls [(56 : Int32), (52 : Int32), (52 : Int32), (49 : Int32), (52 : Int32), (52 : Int32), (52 : Int32), (52 : Int32), (52 : Int32), (52 : Int32)]) (p0 % (10 : Int32)))) - (48 : Int32)))])) (fun t k => XS.isub X148.here hx rfl (hb hby d2_106) rfl k) ?_
        refine GoW.to (g' := (mkF m 108 #[.val (.int p0), .val (.int ((own_ch ((own_ls [(56 : Int32), (52 : Int32), (52 : Int32), (49 : Int32), (52 : Int32), (52 : Int32), (52 : Int32), (52 : Int32), (52 : Int32), (52 : Int32)]) (p0 % (10 : Int32)))) - (48 : Int32))), .val (.ref rows)] [])) (fun t k => XS.istoreN X148.here hx rfl (hb hby d2_107) rfl (l' := #[.val (.int p0), .val (.int ((own_ch ((own_ls [(56 : Int32), (52 : Int32), (52 : Int32), (49 : Int32), (52 : Int32), (52 : Int32), (52 : Int32), (52 : Int32), (52 : Int32), (52 : Int32)]) (p0 % (10 : Int32)))) - (48 : Int32))), .val (.ref rows)]) rfl k) ?_
        refine GoW.to (g' := (mkF m 109 #[.val (.int p0), .val (.int ((own_ch ((own_ls [(56 : Int32), (52 : Int32), (52 : Int32), (49 : Int32), (52 : Int32), (52 : Int32), (52 : Int32), (52 : Int32), (52 : Int32), (52 : Int32)]) (p0 % (10 : Int32)))) - (48 : Int32))), .val (.ref rows)] [(.int ((own_ch ((own_ls [(56 : Int32), (52 : Int32), (52 : Int32), (49 : Int32), (52 : Int32), (52 : Int32), (52 : Int32), (52 : Int32), (52 : Int32), (52 : Int32)]) (p0 % (10 : Int32)))) - (48 : Int32)))])) (fun t k => XS.iloadN X148.here hx rfl (hb hby d2_108) rfl k) ?_
        exact GoW.retI (s := s) (vm1 := T46.vm) X148 hS46 (by rw [e148]; exact sk49) hx Bd.returns Bd.notSynchronized (hb hby d2_109) (by decide) (by decide) (fun fs => ⟨⟨congrArg (fun z => some (Value.int z)) (own_e1 (l := [(56 : Int32), (52 : Int32), (52 : Int32), (49 : Int32), (52 : Int32), (52 : Int32), (52 : Int32), (52 : Int32), (52 : Int32), (52 : Int32)]) c1 c2 hq (by decide +kernel)), N148⟩, (show CHr Z consts_1 s.vm h0 T148.vm T148.heap from by rw [e148]; exact C49.trans (CHv.at (s := s) (vm0 := T46.vm) X148 hZ_46 hEL C49.1))⟩)
      · rw [show (p0 / (10 : Int32)) = (11 : Int32) from hq]
        obtain ⟨cl149, Ar149, kc149, S149, M149, H149, G149⟩ := id V49
        have hin149 : ¬ ((11 : Int32) < 0 ∨ cl149.slots.size ≤ ((11 : Int32)).toNatClampNeg) := inb_of S149 ⟨by decide, by decide⟩
        refine GoW.to (g' := (mkF m 97 #[.val (.int p0), .val (.int (4 : Int32)), .val (.ref rows)] [(.ref a42)])) (fun t k => X49.aaload hx (j := (11 : Int32)) (v := (.ref a42)) (by rw [e49]; exact Ar149.1) (State.isArrayOf_alike hZ_46.alike Ar149.2.1) rfl Ar149.2.2 hin149 (H149 _ (Nat.lt_of_not_le fun q => hin149 (Or.inr q))) (g := (mkF m 96 #[.val (.int p0), .val (.int (4 : Int32)), .val (.ref rows)] [(.int (11 : Int32)), (.ref rows)])) rfl rfl (hb hby d2_96) _ k) ?_
        refine GoW.to (g' := (mkF m 98 #[.val (.int p0), .val (.int (4 : Int32)), .val (.ref rows)] [(.int p0), (.ref a42)])) (fun t k => XS.iloadN X49.here hx rfl (hb hby d2_97) rfl k) ?_
        refine GoW.to (g' := (mkF m 100 #[.val (.int p0), .val (.int (4 : Int32)), .val (.ref rows)] [(.int (10 : Int32)), (.int p0), (.ref a42)])) (fun t k => XS.bipush X49.here hx rfl (hb hby d2_98) k) ?_
        refine GoW.to (g' := (mkF m 101 #[.val (.int p0), .val (.int (4 : Int32)), .val (.ref rows)] [(.int (p0 % (10 : Int32))), (.ref a42)])) (fun t k => iremM X49 hx rfl (hb hby d2_100) rfl (by decide) k) ?_
        have f150 : Arv Z h49 b42 kb42 .byte (10 : Int32) [(.int (50 : Int32)), (.int (52 : Int32)), (.int (52 : Int32)), (.int (50 : Int32)), (.int (52 : Int32)), (.int (52 : Int32)), (.int (56 : Int32)), (.int (52 : Int32)), (.int (49 : Int32)), (.int (52 : Int32))] (.int (0 : Int32)) := (((Vb42.other W45 (Ne.symm nb42)).ext E46).other W49 (Ne.symm nb42))
        have A_151 : own_Az Z h49 b42 .byte (10 : Int32) (own_ls [(50 : Int32), (52 : Int32), (52 : Int32), (50 : Int32), (52 : Int32), (52 : Int32), (56 : Int32), (52 : Int32), (49 : Int32), (52 : Int32)]) := own_az_ls (l := [(50 : Int32), (52 : Int32), (52 : Int32), (50 : Int32), (52 : Int32), (52 : Int32), (56 : Int32), (52 : Int32), (49 : Int32), (52 : Int32)]) f150
        have f152 : Exa Z h49 a42 "java/lang/String" := (((Ea42.wr W45).ext E46).wr W49)
        have f153 : Fld Z h49 a42 "java/lang/String" "coder" "B" (.int (0 : Int32)) := (((Fc42.other W45 (Or.inl (Ne.symm na42))).ext E46).other W49 (Or.inl (Ne.symm na42)))
        have f154 : Fld Z h49 a42 "java/lang/String" "value" "[B" (.ref b42) := (((Fv42.other W45 (Or.inl (Ne.symm na42))).ext E46).other W49 (Or.inl (Ne.symm na42)))
        have f155 : Sta Z h49 "java/lang/String" "COMPACT_STRINGS" "Z" (.int cs) := ((((((((((((((((((((Sa1.ext E4).ext E5).wr W8).wr W11).wr W14).wr W17).ext E18).wr W21).ext E22).wr W25).wr W28).wr W31).wr W34).wr W37).ext E38).wr W41).ext E42).wr W45).ext E46).wr W49)
        have f156 : Sta Z h49 "jdk/internal/util/Preconditions" "SIOOBE_FORMATTER" "Ljava/util/function/BiFunction;" sv := ((((((((((((((((((((Sa2.ext E4).ext E5).wr W8).wr W11).wr W14).wr W17).ext E18).wr W21).ext E22).wr W25).wr W28).wr W31).wr W34).wr W37).ext E38).wr W41).ext E42).wr W45).ext E46).wr W49)
        obtain ⟨cq157, kq157, qa157, qb157, qc157⟩ := isOf hZ_46 e49 f152
        obtain ⟨v157, _, ⟨T157, L157, k157, n157⟩, -, X157, ⟨Lc157, hQ157, l157, y157, z157⟩, st157⟩ := X49.virtualBack hx (y := (⟨"java/lang/String", "charAt", "(I)C"⟩ : MethodName)) (z := (⟨"java/lang/String", "charAt", "(I)C"⟩ : MethodName)) hown_46 (mvT hZ_46 (hw _ (List.mem_of_getElem? (i := 23) rfl))) (mvT hZ_46 (hw _ (List.mem_of_getElem? (i := 24) rfl))) (notFace_of_selects (args := #[]) (mvT hZ_46 (hw _ (List.mem_of_getElem? (i := 26) rfl)))) (mvT hZ_46 (hw _ (List.mem_of_getElem? (i := 26) rfl))) (mvT hZ_46 (hw _ (List.mem_of_getElem? (i := 25) rfl))) (by decide) (backOf (W := 0) (rm3 l Z aw hw [] a42 (p0 % (10 : Int32)) b42 (10 : Int32) (own_ls [(50 : Int32), (52 : Int32), (52 : Int32), (50 : Int32), (52 : Int32), (52 : Int32), (56 : Int32), (52 : Int32), (49 : Int32), (52 : Int32)]) cs sv h49 n0 Z49 f152 f153 f154 A_151 f155 f156 hcs hsv (own_r c1 c2).1 (own_r c1 c2).2) hZ_46 (hw _ (List.mem_of_getElem? (i := 27) rfl)) (hw _ (List.mem_of_getElem? (i := 11) rfl)) (by decide) (by decide)) qa157 qc157 (g := (mkF m 101 #[.val (.int p0), .val (.int (4 : Int32)), .val (.ref rows)] [(.int (p0 % (10 : Int32))), (.ref a42)])) rfl (by rw [hml]; rfl) (Steps.refl _) (argsL := [(.int (p0 % (10 : Int32)))]) (rest := []) (lenOf pd_28I29C rfl) rfl (by show 2 * 0 + _ ≤ _; exact Nat.le_of_eq rfl) (hb hby d2_101) (fun _ _ => ⟨rfl, e49, (by decide : 13 + 0 ≤ _), (by decide : 277 + 0 ≤ _)⟩)
        dsimp only [Pt.U, Pt.locs, Pt.cells, Pt.slots] at X157 l157 y157 z157 st157 hQ157
        subst l157 y157 z157
        obtain ⟨rfl, N157q, e157⟩ := hQ157
        have N157 := Fr.app N49 N157q
        refine GoW.to (g' := (mkF m 104 #[.val (.int p0), .val (.int (4 : Int32)), .val (.ref rows)] [(.int (own_ch ((own_ls [(50 : Int32), (52 : Int32), (52 : Int32), (50 : Int32), (52 : Int32), (52 : Int32), (56 : Int32), (52 : Int32), (49 : Int32), (52 : Int32)]) (p0 % (10 : Int32)))))])) (fun t k => st157.trans k) ?_
        refine GoW.to (g' := (mkF m 106 #[.val (.int p0), .val (.int (4 : Int32)), .val (.ref rows)] [(.int (48 : Int32)), (.int (own_ch ((own_ls [(50 : Int32), (52 : Int32), (52 : Int32), (50 : Int32), (52 : Int32), (52 : Int32), (56 : Int32), (52 : Int32), (49 : Int32), (52 : Int32)]) (p0 % (10 : Int32)))))])) (fun t k => XS.bipush X157.here hx rfl (hb hby d2_104) k) ?_
        refine GoW.to (g' := (mkF m 107 #[.val (.int p0), .val (.int (4 : Int32)), .val (.ref rows)] [(.int ((own_ch ((own_ls [(50 : Int32), (52 : Int32), (52 : Int32), (50 : Int32), (52 : Int32), (52 : Int32), (56 : Int32), (52 : Int32), (49 : Int32), (52 : Int32)]) (p0 % (10 : Int32)))) - (48 : Int32)))])) (fun t k => XS.isub X157.here hx rfl (hb hby d2_106) rfl k) ?_
        refine GoW.to (g' := (mkF m 108 #[.val (.int p0), .val (.int ((own_ch ((own_ls [(50 : Int32), (52 : Int32), (52 : Int32), (50 : Int32), (52 : Int32), (52 : Int32), (56 : Int32), (52 : Int32), (49 : Int32), (52 : Int32)]) (p0 % (10 : Int32)))) - (48 : Int32))), .val (.ref rows)] [])) (fun t k => XS.istoreN X157.here hx rfl (hb hby d2_107) rfl (l' := #[.val (.int p0), .val (.int ((own_ch ((own_ls [(50 : Int32), (52 : Int32), (52 : Int32), (50 : Int32), (52 : Int32), (52 : Int32), (56 : Int32), (52 : Int32), (49 : Int32), (52 : Int32)]) (p0 % (10 : Int32)))) - (48 : Int32))), .val (.ref rows)]) rfl k) ?_
        refine GoW.to (g' := (mkF m 109 #[.val (.int p0), .val (.int ((own_ch ((own_ls [(50 : Int32), (52 : Int32), (52 : Int32), (50 : Int32), (52 : Int32), (52 : Int32), (56 : Int32), (52 : Int32), (49 : Int32), (52 : Int32)]) (p0 % (10 : Int32)))) - (48 : Int32))), .val (.ref rows)] [(.int ((own_ch ((own_ls [(50 : Int32), (52 : Int32), (52 : Int32), (50 : Int32), (52 : Int32), (52 : Int32), (56 : Int32), (52 : Int32), (49 : Int32), (52 : Int32)]) (p0 % (10 : Int32)))) - (48 : Int32)))])) (fun t k => XS.iloadN X157.here hx rfl (hb hby d2_108) rfl k) ?_
        exact GoW.retI (s := s) (vm1 := T46.vm) X157 hS46 (by rw [e157]; exact sk49) hx Bd.returns Bd.notSynchronized (hb hby d2_109) (by decide) (by decide) (fun fs => ⟨⟨congrArg (fun z => some (Value.int z)) (own_e1 (l := [(50 : Int32), (52 : Int32), (52 : Int32), (50 : Int32), (52 : Int32), (52 : Int32), (56 : Int32), (52 : Int32), (49 : Int32), (52 : Int32)]) c1 c2 hq (by decide +kernel)), N157⟩, (show CHr Z consts_1 s.vm h0 T157.vm T157.heap from by rw [e157]; exact C49.trans (CHv.at (s := s) (vm0 := T46.vm) X157 hZ_46 hEL C49.1))⟩)
      · rw [show (p0 / (10 : Int32)) = (12 : Int32) from hq]
        obtain ⟨cl158, Ar158, kc158, S158, M158, H158, G158⟩ := id V49
        have hin158 : ¬ ((12 : Int32) < 0 ∨ cl158.slots.size ≤ ((12 : Int32)).toNatClampNeg) := inb_of S158 ⟨by decide, by decide⟩
        refine GoW.to (g' := (mkF m 97 #[.val (.int p0), .val (.int (4 : Int32)), .val (.ref rows)] [(.ref a46)])) (fun t k => X49.aaload hx (j := (12 : Int32)) (v := (.ref a46)) (by rw [e49]; exact Ar158.1) (State.isArrayOf_alike hZ_46.alike Ar158.2.1) rfl Ar158.2.2 hin158 (H158 _ (Nat.lt_of_not_le fun q => hin158 (Or.inr q))) (g := (mkF m 96 #[.val (.int p0), .val (.int (4 : Int32)), .val (.ref rows)] [(.int (12 : Int32)), (.ref rows)])) rfl rfl (hb hby d2_96) _ k) ?_
        refine GoW.to (g' := (mkF m 98 #[.val (.int p0), .val (.int (4 : Int32)), .val (.ref rows)] [(.int p0), (.ref a46)])) (fun t k => XS.iloadN X49.here hx rfl (hb hby d2_97) rfl k) ?_
        refine GoW.to (g' := (mkF m 100 #[.val (.int p0), .val (.int (4 : Int32)), .val (.ref rows)] [(.int (10 : Int32)), (.int p0), (.ref a46)])) (fun t k => XS.bipush X49.here hx rfl (hb hby d2_98) k) ?_
        refine GoW.to (g' := (mkF m 101 #[.val (.int p0), .val (.int (4 : Int32)), .val (.ref rows)] [(.int (p0 % (10 : Int32))), (.ref a46)])) (fun t k => iremM X49 hx rfl (hb hby d2_100) rfl (by decide) k) ?_
        have f159 : Arv Z h49 b46 kb46 .byte (10 : Int32) [(.int (56 : Int32)), (.int (49 : Int32)), (.int (52 : Int32)), (.int (56 : Int32)), (.int (52 : Int32)), (.int (52 : Int32)), (.int (52 : Int32)), (.int (52 : Int32)), (.int (52 : Int32)), (.int (52 : Int32))] (.int (0 : Int32)) := (Vb46.other W49 (Ne.symm nb46))
        have A_160 : own_Az Z h49 b46 .byte (10 : Int32) (own_ls [(56 : Int32), (49 : Int32), (52 : Int32), (56 : Int32), (52 : Int32), (52 : Int32), (52 : Int32), (52 : Int32), (52 : Int32), (52 : Int32)]) := own_az_ls (l := [(56 : Int32), (49 : Int32), (52 : Int32), (56 : Int32), (52 : Int32), (52 : Int32), (52 : Int32), (52 : Int32), (52 : Int32), (52 : Int32)]) f159
        have f161 : Exa Z h49 a46 "java/lang/String" := (Ea46.wr W49)
        have f162 : Fld Z h49 a46 "java/lang/String" "coder" "B" (.int (0 : Int32)) := (Fc46.other W49 (Or.inl (Ne.symm na46)))
        have f163 : Fld Z h49 a46 "java/lang/String" "value" "[B" (.ref b46) := (Fv46.other W49 (Or.inl (Ne.symm na46)))
        have f164 : Sta Z h49 "java/lang/String" "COMPACT_STRINGS" "Z" (.int cs) := ((((((((((((((((((((Sa1.ext E4).ext E5).wr W8).wr W11).wr W14).wr W17).ext E18).wr W21).ext E22).wr W25).wr W28).wr W31).wr W34).wr W37).ext E38).wr W41).ext E42).wr W45).ext E46).wr W49)
        have f165 : Sta Z h49 "jdk/internal/util/Preconditions" "SIOOBE_FORMATTER" "Ljava/util/function/BiFunction;" sv := ((((((((((((((((((((Sa2.ext E4).ext E5).wr W8).wr W11).wr W14).wr W17).ext E18).wr W21).ext E22).wr W25).wr W28).wr W31).wr W34).wr W37).ext E38).wr W41).ext E42).wr W45).ext E46).wr W49)
        obtain ⟨cq166, kq166, qa166, qb166, qc166⟩ := isOf hZ_46 e49 f161
        obtain ⟨v166, _, ⟨T166, L166, k166, n166⟩, -, X166, ⟨Lc166, hQ166, l166, y166, z166⟩, st166⟩ := X49.virtualBack hx (y := (⟨"java/lang/String", "charAt", "(I)C"⟩ : MethodName)) (z := (⟨"java/lang/String", "charAt", "(I)C"⟩ : MethodName)) hown_46 (mvT hZ_46 (hw _ (List.mem_of_getElem? (i := 23) rfl))) (mvT hZ_46 (hw _ (List.mem_of_getElem? (i := 24) rfl))) (notFace_of_selects (args := #[]) (mvT hZ_46 (hw _ (List.mem_of_getElem? (i := 26) rfl)))) (mvT hZ_46 (hw _ (List.mem_of_getElem? (i := 26) rfl))) (mvT hZ_46 (hw _ (List.mem_of_getElem? (i := 25) rfl))) (by decide) (backOf (W := 0) (rm3 l Z aw hw [] a46 (p0 % (10 : Int32)) b46 (10 : Int32) (own_ls [(56 : Int32), (49 : Int32), (52 : Int32), (56 : Int32), (52 : Int32), (52 : Int32), (52 : Int32), (52 : Int32), (52 : Int32), (52 : Int32)]) cs sv h49 n0 Z49 f161 f162 f163 A_160 f164 f165 hcs hsv (own_r c1 c2).1 (own_r c1 c2).2) hZ_46 (hw _ (List.mem_of_getElem? (i := 27) rfl)) (hw _ (List.mem_of_getElem? (i := 11) rfl)) (by decide) (by decide)) qa166 qc166 (g := (mkF m 101 #[.val (.int p0), .val (.int (4 : Int32)), .val (.ref rows)] [(.int (p0 % (10 : Int32))), (.ref a46)])) rfl (by rw [hml]; rfl) (Steps.refl _) (argsL := [(.int (p0 % (10 : Int32)))]) (rest := []) (lenOf pd_28I29C rfl) rfl (by show 2 * 0 + _ ≤ _; exact Nat.le_of_eq rfl) (hb hby d2_101) (fun _ _ => ⟨rfl, e49, (by decide : 13 + 0 ≤ _), (by decide : 277 + 0 ≤ _)⟩)
        dsimp only [Pt.U, Pt.locs, Pt.cells, Pt.slots] at X166 l166 y166 z166 st166 hQ166
        subst l166 y166 z166
        obtain ⟨rfl, N166q, e166⟩ := hQ166
        have N166 := Fr.app N49 N166q
        refine GoW.to (g' := (mkF m 104 #[.val (.int p0), .val (.int (4 : Int32)), .val (.ref rows)] [(.int (own_ch ((own_ls [(56 : Int32), (49 : Int32), (52 : Int32), (56 : Int32), (52 : Int32), (52 : Int32), (52 : Int32), (52 : Int32), (52 : Int32), (52 : Int32)]) (p0 % (10 : Int32)))))])) (fun t k => st166.trans k) ?_
        refine GoW.to (g' := (mkF m 106 #[.val (.int p0), .val (.int (4 : Int32)), .val (.ref rows)] [(.int (48 : Int32)), (.int (own_ch ((own_ls [(56 : Int32), (49 : Int32), (52 : Int32), (56 : Int32), (52 : Int32), (52 : Int32), (52 : Int32), (52 : Int32), (52 : Int32), (52 : Int32)]) (p0 % (10 : Int32)))))])) (fun t k => XS.bipush X166.here hx rfl (hb hby d2_104) k) ?_
        refine GoW.to (g' := (mkF m 107 #[.val (.int p0), .val (.int (4 : Int32)), .val (.ref rows)] [(.int ((own_ch ((own_ls [(56 : Int32), (49 : Int32), (52 : Int32), (56 : Int32), (52 : Int32), (52 : Int32), (52 : Int32), (52 : Int32), (52 : Int32), (52 : Int32)]) (p0 % (10 : Int32)))) - (48 : Int32)))])) (fun t k => XS.isub X166.here hx rfl (hb hby d2_106) rfl k) ?_
        refine GoW.to (g' := (mkF m 108 #[.val (.int p0), .val (.int ((own_ch ((own_ls [(56 : Int32), (49 : Int32), (52 : Int32), (56 : Int32), (52 : Int32), (52 : Int32), (52 : Int32), (52 : Int32), (52 : Int32), (52 : Int32)]) (p0 % (10 : Int32)))) - (48 : Int32))), .val (.ref rows)] [])) (fun t k => XS.istoreN X166.here hx rfl (hb hby d2_107) rfl (l' := #[.val (.int p0), .val (.int ((own_ch ((own_ls [(56 : Int32), (49 : Int32), (52 : Int32), (56 : Int32), (52 : Int32), (52 : Int32), (52 : Int32), (52 : Int32), (52 : Int32), (52 : Int32)]) (p0 % (10 : Int32)))) - (48 : Int32))), .val (.ref rows)]) rfl k) ?_
        refine GoW.to (g' := (mkF m 109 #[.val (.int p0), .val (.int ((own_ch ((own_ls [(56 : Int32), (49 : Int32), (52 : Int32), (56 : Int32), (52 : Int32), (52 : Int32), (52 : Int32), (52 : Int32), (52 : Int32), (52 : Int32)]) (p0 % (10 : Int32)))) - (48 : Int32))), .val (.ref rows)] [(.int ((own_ch ((own_ls [(56 : Int32), (49 : Int32), (52 : Int32), (56 : Int32), (52 : Int32), (52 : Int32), (52 : Int32), (52 : Int32), (52 : Int32), (52 : Int32)]) (p0 % (10 : Int32)))) - (48 : Int32)))])) (fun t k => XS.iloadN X166.here hx rfl (hb hby d2_108) rfl k) ?_
        exact GoW.retI (s := s) (vm1 := T46.vm) X166 hS46 (by rw [e166]; exact sk49) hx Bd.returns Bd.notSynchronized (hb hby d2_109) (by decide) (by decide) (fun fs => ⟨⟨congrArg (fun z => some (Value.int z)) (own_e1 (l := [(56 : Int32), (49 : Int32), (52 : Int32), (56 : Int32), (52 : Int32), (52 : Int32), (52 : Int32), (52 : Int32), (52 : Int32), (52 : Int32)]) c1 c2 hq (by decide +kernel)), N166⟩, (show CHr Z consts_1 s.vm h0 T166.vm T166.heap from by rw [e166]; exact C49.trans (CHv.at (s := s) (vm0 := T46.vm) X166 hZ_46 hEL C49.1))⟩)
    · refine GoW.to (g' := (mkF m 108 #[.val (.int p0), .val (.int (4 : Int32)), .unset] [])) (fun t k => XS.icmpYes X0.here hx rfl (pc0 := 10) (pc' := 108) rfl (hb hby d2_10) rfl (flt c2).2.1 (by decide) (by decide) k) ?_
      refine GoW.to (g' := (mkF m 109 #[.val (.int p0), .val (.int (4 : Int32)), .unset] [(.int (4 : Int32))])) (fun t k => XS.iloadN X0.here hx rfl (hb hby d2_108) rfl k) ?_
      exact GoW.retI (s := s) (vm1 := s.vm) X0 hS0 (by rw [e0]; exact (Nat.le_refl h0.size)) hx Bd.returns Bd.notSynchronized (hb hby d2_109) (by decide) (by decide) (fun fs => ⟨⟨by rw [own_e4 (Or.inr c2)], N0⟩, (show CHr Z consts_1 s.vm h0 s₁.vm s₁.heap from by rw [e0]; exact C0.trans (CHv.at (s := s) (vm0 := s.vm) X0 hZ hEL C0.1))⟩)

theorem ef_rm0 (m : MethodId) (x0 : Int32) (x1 : Int32) : entryFrame m #[(.int x0), (.int x1)] maxLocals = mkF m 0 #[.val (.int x0), .val (.int x1), .unset] [] := by first | (simp [entryFrame, mkF, argsToLocals, Value.category, maxLocals]; done) | rfl
def Q0 (v : Option Value) (t : State) (n0 : Nat) (L : List Loc) : Prop := v = some (.int (1 : Int32)) ∧ Fr n0 L
set_option maxRecDepth 65536 in
set_option maxHeartbeats 40000000 in
theorem rm0 (l : Launch) (Z : State) (aw : Array Value) (hw : ∀ d ∈ tables_1, d.before aw Z = true) (hwS : ∀ a ∈ Bundle.stringAtoms, a.before aw Z = true) (hEL : EW Z aw consts_1) (ws : List Jvm.Cond) (p0 p1 : Int32) (cs : Int32) (sv : Value) (h0 : Heap) (n0 : Nat) (Z0 : n0 ≤ h0.size) (Sa1 : Sta Z h0 "java/lang/String" "COMPACT_STRINGS" "Z" (.int cs)) (Sa2 : Sta Z h0 "jdk/internal/util/Preconditions" "SIOOBE_FORMATTER" "Ljava/util/function/BiFunction;" sv) (hcs : ¬ cs = (0 : Int32)) (hsv : sv.isRef = true) :
    MetFree l x (head1 (Jvm.Cond.code x code maxLocals ret :: ws) room_1) (fun a U => a = #[(.int p0), (.int p1)] ∧ Z.Warmed39 U.vm ∧ U.heap = h0 ∧ CHv Z consts_1 U.vm h0) (fun _ _ _ _ _ => True) (fun _ U o U' => ∃ v L, o = .returned v ∧ Q0 v U' n0 L ∧ ReturnedEndW U o U' L room_1.cells room_1.slots) := by
  refine MetFree.of_bodySF (plainFor_of_name pn_com_example_nidra_nidra_dbus_UnmarshallerAlignmentPinLaw) hisR ?_
  intro p e s m args below meth c s₁ Bd hml0 hP hK
  obtain ⟨rfl, hZ, hh, hCH⟩ := hP
  have hx := Bd.exec
  have hby := Bd.bytes
  have hml : c.maxLocals = 3 := hml0
  have hown : s.vm.findClass "com/example/nidra/nidra/dbus/UnmarshallerAlignmentPinLaw" = some m.cls := findClass_of_methodNamed Bd.named
  have X0 : Stand p l e room_1 s m #[(.int p0), (.int p1)] below meth c s₁ [] 0 0 := Stand.of_body Bd
  have e0 : s₁.heap = h0 := by rw [← hh, Bd.state]; rfl
  have N0 := Fr.nil n0
  refine own_gow (Q := fun v t L => Q0 v t n0 L) ?_
  refine GoW.to (g' := (mkF m 0 #[.val (.int p0), .val (.int p1), .unset] [])) (fun t k => castTop (ef_rm0 m p0 p1) k) ?_
  refine GoW.to (g' := (mkF m 1 #[.val (.int p0), .val (.int p1), .unset] [(.int p1)])) (fun t k => XS.iloadN X0.here hx rfl (hb hby at_0) rfl k) ?_
  refine GoW.to (g' := (mkF m 2 #[.val (.int p0), .val (.int p1), .unset] [(.int (1 : Int32)), (.int p1)])) (fun t k => XS.iconst X0.here hx rfl (hb hby at_1) k) ?_
  refine GoW.to (g' := (mkF m 3 #[.val (.int p0), .val (.int p1), .unset] [(.int (p1 &&& (1 : Int32)))])) (fun t k => XS.iand X0.here hx rfl (hb hby at_2) rfl k) ?_
  by_cases c1 : (p1 &&& (1 : Int32)) = (0 : Int32)
  · refine GoW.to (g' := (mkF m 10 #[.val (.int p0), .val (.int p1), .unset] [])) (fun t k => XS.ifYes X0.here hx rfl (pc0 := 3) (pc' := 10) rfl (hb hby at_3) rfl ((if0 _ _).trans (teq c1).1) (by decide) (by decide) k) ?_
    refine GoW.to (g' := (mkF m 11 #[.val (.int p0), .val (.int p1), .unset] [(.int p0)])) (fun t k => XS.iloadN X0.here hx rfl (hb hby at_10) rfl k) ?_
    refine GoW.to (g' := (mkF m 13 #[.val (.int p0), .val (.int p1), .unset] [(.int (127 : Int32)), (.int p0)])) (fun t k => XS.bipush X0.here hx rfl (hb hby at_11) k) ?_
    refine GoW.to (g' := (mkF m 14 #[.val (.int p0), .val (.int p1), .unset] [(.int (p0 &&& (127 : Int32)))])) (fun t k => XS.iand X0.here hx rfl (hb hby at_13) rfl k) ?_
    obtain ⟨ch, hv_ch⟩ : ∃ z : Int32, z = (p0 &&& (127 : Int32)) := ⟨_, rfl⟩
    rw [← hv_ch]
    refine GoW.to (g' := (mkF m 15 #[.val (.int p0), .val (.int p1), .val (.int ch)] [])) (fun t k => XS.istoreN X0.here hx rfl (hb hby at_14) rfl (l' := #[.val (.int p0), .val (.int p1), .val (.int ch)]) rfl k) ?_
    refine GoW.to (g' := (mkF m 16 #[.val (.int p0), .val (.int p1), .val (.int ch)] [(.int ch)])) (fun t k => XS.iloadN X0.here hx rfl (hb hby at_15) rfl k) ?_
    obtain ⟨v2, _, ⟨T2, L2, k2, n2⟩, -, X2, ⟨Lc2, hQ2, l2, y2, z2⟩, st2⟩ := Jvm.LawKit.callS X0 hx (y := (⟨"com/example/nidra/nidra/dbus/Unmarshaller", "alignment", "(I)I"⟩ : MethodName)) hown (mvT hZ (hw _ (List.mem_of_getElem? (i := 0) rfl))) (mvT hZ (hw _ (List.mem_of_getElem? (i := 1) rfl))) (mvT hZ (hw _ (List.mem_of_getElem? (i := 2) rfl))) (mvT hZ (hw _ (List.mem_of_getElem? (i := 3) rfl))) (by decide) (backOf (W := 0) (rm1 l Z aw hw [] ch  h0 n0 Z0 ) hZ (hw _ (List.mem_of_getElem? (i := 3) rfl)) (hw _ (List.mem_of_getElem? (i := 2) rfl)) (by decide) (by decide)) (g := (mkF m 16 #[.val (.int p0), .val (.int p1), .val (.int ch)] [(.int ch)])) rfl (by rw [hml]; rfl) (argsL := [(.int ch)]) (rest := []) (lenOf pd_28I29I rfl) rfl (by show 2 * 0 + _ ≤ _; exact Nat.le_of_eq rfl) (hb hby at_16) (fun _ _ => ⟨rfl, e0, (by decide : 0 + 0 ≤ _), (by decide : 0 + 0 ≤ _)⟩)
    dsimp only [Pt.U, Pt.locs, Pt.cells, Pt.slots] at X2 l2 y2 z2 st2 hQ2
    subst l2 y2 z2
    obtain ⟨rfl, N2q, e2⟩ := hQ2
    have N2 := Fr.app N0 N2q
    refine GoW.to (g' := (mkF m 19 #[.val (.int p0), .val (.int p1), .val (.int ch)] [(.int (own_al ch))])) st2 ?_
    refine GoW.to (g' := (mkF m 20 #[.val (.int p0), .val (.int p1), .val (.int ch)] [(.int ch), (.int (own_al ch))])) (fun t k => XS.iloadN X2.here hx rfl (hb hby at_19) rfl k) ?_
    obtain ⟨v3, _, ⟨T3, L3, k3, n3⟩, -, X3, hS3, hg3, ⟨Lc3, hQ3, l3, y3, z3, hC3⟩, st3⟩ := callSS X2 hx (y := (⟨"com/example/nidra/nidra/dbus/UnmarshallerAlignmentPinLaw", "expected", "(I)I"⟩ : MethodName)) hown (mvT hZ (hw _ (List.mem_of_getElem? (i := 4) rfl))) (mvT hZ (hw _ (List.mem_of_getElem? (i := 5) rfl))) (mvT hZ (hw _ (List.mem_of_getElem? (i := 6) rfl))) (mvT hZ (hw _ (List.mem_of_getElem? (i := 7) rfl))) (by decide) (backOfSH (s := s) (vm0 := s.vm) (W := 1) (rm2 l Z aw hw hwS hEL [] ch cs sv h0 n0 Z0 Sa1 Sa2 hcs hsv) hZ (hw _ (List.mem_of_getElem? (i := 7) rfl)) (hw _ (List.mem_of_getElem? (i := 6) rfl)) (by decide) (by decide) hEL hCH) (g := (mkF m 20 #[.val (.int p0), .val (.int p1), .val (.int ch)] [(.int ch), (.int (own_al ch))])) rfl (by rw [hml]; rfl) (argsL := [(.int ch)]) (rest := [(.int (own_al ch))]) (lenOf pd_28I29I rfl) rfl (by show 2 * 0 + _ ≤ _; exact Nat.le_of_eq rfl) (hb hby at_20) (fun _ _ => ⟨rfl, e2, (by decide : 0 + 13 ≤ _), (by decide : 0 + 277 ≤ _)⟩)
    dsimp only [Pt.U, Pt.locs, Pt.cells, Pt.slots] at X3 l3 y3 z3 st3 hQ3 hS3 hg3 hC3
    subst l3 y3 z3
    obtain ⟨rfl, N3q⟩ := hQ3
    have N3 := Fr.app N2 N3q
    refine GoW.to (g' := (mkF m 23 #[.val (.int p0), .val (.int p1), .val (.int ch)] [(.int (own_e ch)), (.int (own_al ch))])) (fun t k => st3.trans k) ?_
    refine GoW.to (g' := (mkF m 26 #[.val (.int p0), .val (.int p1), .val (.int ch)] [])) (fun t k => XS.icmpNo X3.here hx rfl (hb hby at_23) rfl (teq (own_eal ch)).2 k) ?_
    refine GoW.to (g' := (mkF m 27 #[.val (.int p0), .val (.int p1), .val (.int ch)] [(.int (1 : Int32))])) (fun t k => XS.iconst X3.here hx rfl (hb hby at_26) k) ?_
    refine GoW.to (g' := (mkF m 31 #[.val (.int p0), .val (.int p1), .val (.int ch)] [(.int (1 : Int32))])) (fun t k => XS.goto X3.here hx rfl (pc0 := 27) (pc' := 31) rfl (hb hby at_27) (by decide) (by decide) k) ?_
    exact GoW.retN (s := s) (vm1 := T3.vm) X3 hS3 (Nat.le_refl _) hx (t := .boolean) Bd.returns Bd.notSynchronized (by simp) (hb hby at_31) (by decide) (by decide) (fun fs => ⟨rfl, N3⟩)
  · refine GoW.to (g' := (mkF m 6 #[.val (.int p0), .val (.int p1), .unset] [])) (fun t k => XS.ifNo X0.here hx rfl (hb hby at_3) rfl ((if0 _ _).trans (feq c1).1) k) ?_
    refine GoW.to (g' := (mkF m 7 #[.val (.int p0), .val (.int p1), .unset] [(.int p0)])) (fun t k => XS.iloadN X0.here hx rfl (hb hby at_6) rfl k) ?_
    refine GoW.to (g' := (mkF m 14 #[.val (.int p0), .val (.int p1), .unset] [(.int p0)])) (fun t k => XS.goto X0.here hx rfl (pc0 := 7) (pc' := 14) rfl (hb hby at_7) (by decide) (by decide) k) ?_
    obtain ⟨ch, hv_ch⟩ : ∃ z : Int32, z = p0 := ⟨_, rfl⟩
    rw [← hv_ch]
    refine GoW.to (g' := (mkF m 15 #[.val (.int ch), .val (.int p1), .val (.int ch)] [])) (fun t k => XS.istoreN X0.here hx rfl (hb hby at_14) rfl (l' := #[.val (.int ch), .val (.int p1), .val (.int ch)]) rfl k) ?_
    refine GoW.to (g' := (mkF m 16 #[.val (.int ch), .val (.int p1), .val (.int ch)] [(.int ch)])) (fun t k => XS.iloadN X0.here hx rfl (hb hby at_15) rfl k) ?_
    obtain ⟨v4, _, ⟨T4, L4, k4, n4⟩, -, X4, ⟨Lc4, hQ4, l4, y4, z4⟩, st4⟩ := Jvm.LawKit.callS X0 hx (y := (⟨"com/example/nidra/nidra/dbus/Unmarshaller", "alignment", "(I)I"⟩ : MethodName)) hown (mvT hZ (hw _ (List.mem_of_getElem? (i := 0) rfl))) (mvT hZ (hw _ (List.mem_of_getElem? (i := 1) rfl))) (mvT hZ (hw _ (List.mem_of_getElem? (i := 2) rfl))) (mvT hZ (hw _ (List.mem_of_getElem? (i := 3) rfl))) (by decide) (backOf (W := 0) (rm1 l Z aw hw [] ch  h0 n0 Z0 ) hZ (hw _ (List.mem_of_getElem? (i := 3) rfl)) (hw _ (List.mem_of_getElem? (i := 2) rfl)) (by decide) (by decide)) (g := (mkF m 16 #[.val (.int ch), .val (.int p1), .val (.int ch)] [(.int ch)])) rfl (by rw [hml]; rfl) (argsL := [(.int ch)]) (rest := []) (lenOf pd_28I29I rfl) rfl (by show 2 * 0 + _ ≤ _; exact Nat.le_of_eq rfl) (hb hby at_16) (fun _ _ => ⟨rfl, e0, (by decide : 0 + 0 ≤ _), (by decide : 0 + 0 ≤ _)⟩)
    dsimp only [Pt.U, Pt.locs, Pt.cells, Pt.slots] at X4 l4 y4 z4 st4 hQ4
    subst l4 y4 z4
    obtain ⟨rfl, N4q, e4⟩ := hQ4
    have N4 := Fr.app N0 N4q
    refine GoW.to (g' := (mkF m 19 #[.val (.int ch), .val (.int p1), .val (.int ch)] [(.int (own_al ch))])) st4 ?_
    refine GoW.to (g' := (mkF m 20 #[.val (.int ch), .val (.int p1), .val (.int ch)] [(.int ch), (.int (own_al ch))])) (fun t k => XS.iloadN X4.here hx rfl (hb hby at_19) rfl k) ?_
    obtain ⟨v5, _, ⟨T5, L5, k5, n5⟩, -, X5, hS5, hg5, ⟨Lc5, hQ5, l5, y5, z5, hC5⟩, st5⟩ := callSS X4 hx (y := (⟨"com/example/nidra/nidra/dbus/UnmarshallerAlignmentPinLaw", "expected", "(I)I"⟩ : MethodName)) hown (mvT hZ (hw _ (List.mem_of_getElem? (i := 4) rfl))) (mvT hZ (hw _ (List.mem_of_getElem? (i := 5) rfl))) (mvT hZ (hw _ (List.mem_of_getElem? (i := 6) rfl))) (mvT hZ (hw _ (List.mem_of_getElem? (i := 7) rfl))) (by decide) (backOfSH (s := s) (vm0 := s.vm) (W := 1) (rm2 l Z aw hw hwS hEL [] ch cs sv h0 n0 Z0 Sa1 Sa2 hcs hsv) hZ (hw _ (List.mem_of_getElem? (i := 7) rfl)) (hw _ (List.mem_of_getElem? (i := 6) rfl)) (by decide) (by decide) hEL hCH) (g := (mkF m 20 #[.val (.int ch), .val (.int p1), .val (.int ch)] [(.int ch), (.int (own_al ch))])) rfl (by rw [hml]; rfl) (argsL := [(.int ch)]) (rest := [(.int (own_al ch))]) (lenOf pd_28I29I rfl) rfl (by show 2 * 0 + _ ≤ _; exact Nat.le_of_eq rfl) (hb hby at_20) (fun _ _ => ⟨rfl, e4, (by decide : 0 + 13 ≤ _), (by decide : 0 + 277 ≤ _)⟩)
    dsimp only [Pt.U, Pt.locs, Pt.cells, Pt.slots] at X5 l5 y5 z5 st5 hQ5 hS5 hg5 hC5
    subst l5 y5 z5
    obtain ⟨rfl, N5q⟩ := hQ5
    have N5 := Fr.app N4 N5q
    refine GoW.to (g' := (mkF m 23 #[.val (.int ch), .val (.int p1), .val (.int ch)] [(.int (own_e ch)), (.int (own_al ch))])) (fun t k => st5.trans k) ?_
    refine GoW.to (g' := (mkF m 26 #[.val (.int ch), .val (.int p1), .val (.int ch)] [])) (fun t k => XS.icmpNo X5.here hx rfl (hb hby at_23) rfl (teq (own_eal ch)).2 k) ?_
    refine GoW.to (g' := (mkF m 27 #[.val (.int ch), .val (.int p1), .val (.int ch)] [(.int (1 : Int32))])) (fun t k => XS.iconst X5.here hx rfl (hb hby at_26) k) ?_
    refine GoW.to (g' := (mkF m 31 #[.val (.int ch), .val (.int p1), .val (.int ch)] [(.int (1 : Int32))])) (fun t k => XS.goto X5.here hx rfl (pc0 := 27) (pc' := 31) rfl (hb hby at_27) (by decide) (by decide) k) ?_
    exact GoW.retN (s := s) (vm1 := T5.vm) X5 hS5 (Nat.le_refl _) hx (t := .boolean) Bd.returns Bd.notSynchronized (by simp) (hb hby at_31) (by decide) (by decide) (fun fs => ⟨rfl, N5⟩)

theorem own_wS {Z : State} {aw : Array Value} (hw : ∀ d ∈ tables_1, d.before aw Z = true) : ∀ a ∈ Bundle.stringAtoms, a.before aw Z = true := by
  intro d hd
  simp only [Bundle.stringAtoms, List.mem_cons, List.not_mem_nil, or_false] at hd
  rcases hd with rfl | rfl | rfl | rfl | rfl | rfl | rfl
  · exact (hw _ (List.mem_of_getElem? (i := 11) rfl))
  · exact (hw _ (List.mem_of_getElem? (i := 12) rfl))
  · exact (hw _ (List.mem_of_getElem? (i := 13) rfl))
  · exact (hw _ (List.mem_of_getElem? (i := 14) rfl))
  · exact (hw _ (List.mem_of_getElem? (i := 15) rfl))
  · exact (hw _ (List.mem_of_getElem? (i := 16) rfl))
  · exact (hw _ (List.mem_of_getElem? (i := 17) rfl))
theorem own_EW {Z : State} {aw : Array Value} (hw : ∀ d ∈ tables_1, d.before aw Z = true) : EW Z aw consts_1 := (EW.cons (hw _ (List.mem_of_getElem? (i := 10) rfl)) (by decide) (EW.cons (hw _ (List.mem_of_getElem? (i := 19) rfl)) (by decide) (EW.cons (hw _ (List.mem_of_getElem? (i := 20) rfl)) (by decide) (EW.cons (hw _ (List.mem_of_getElem? (i := 21) rfl)) (by decide) (EW.cons (hw _ (List.mem_of_getElem? (i := 22) rfl)) (by decide) EW.nil)))))
set_option maxRecDepth 65536 in
set_option maxHeartbeats 40000000 in
theorem comes_1 {Post : Tables → Env → Array Value → State → Outcome → State → Prop} (hpost : ∀ tb e args s v u, (limb_1_1.after args s (.returned v) u = true ∧ limb_1_2.after args s (.returned v) u = true ∧ True) → ReturnedEndW s (.returned v) u (Jvm.fieldLocs frame_1_writes args s ++ Jvm.arrayLocs frame_1_arrays args s ++ Jvm.staticLocs frame_1_statics s) 24 5248 → Post tb e args s (.returned v) u) :
    ArmFor flags0 classFile x code maxLocals ret World_1 tables_1 room_1 Calls_1 rest_1 Pre_1 Post := by
  intro l hfl _ _ p e ha hc hk s m args below hf hA hF happ hP
  obtain ⟨hcalls, hrest, hpre⟩ := hP
  obtain ⟨-, -, -, hnamed, -, -, -, hat⟩ := (Spec.applies_iff hf).mp happ
  obtain ⟨hg, hn⟩ := and_e (Cond.before_iff.mp (show (Jvm.Cond.and given_1 narrow_1).before args s = true from hpre))
  obtain ⟨ga0, gb0⟩ := and_e hg
  obtain ⟨ga1, gb1⟩ := and_e gb0
  obtain ⟨w0, w1, rfl⟩ : ∃ w0 w1 : Value, args = #[w0, w1] := by
    have hs : args.size = 2 := by simpa [Cond.value, given_1] using ga0
    obtain ⟨L⟩ := args
    match L, hs with
    | [w0, w1], _ => exact ⟨w0, w1, rfl⟩
  have hw := fun d (hd : d ∈ tables_1) => atoms_spec (ws := Jvm.Cond.code x code maxLocals ret :: tables_1) hat d (List.mem_cons_of_mem _ hd)
  obtain ⟨hsets, hown0⟩ := atoms_of _ (rest_1_c_eq ▸ (show rest_1_c.before _ s = true from hrest))
  obtain ⟨i0, ei0⟩ := is_v ga1
  obtain rfl : w0 = (.int i0) := Option.some.inj ei0
  obtain ⟨i1, ei1⟩ := is_v gb1
  obtain rfl : w1 = (.int i1) := Option.some.inj ei1
  have hwS := own_wS hw
  have hEL := own_EW hw
  obtain ⟨cs, ecs⟩ := is_v (Cond.before_iff.mp (hsets _ (List.mem_of_getElem? (i := 1) rfl)))
  have Sa1 : Sta s s.heap "java/lang/String" "COMPACT_STRINGS" "Z" (.int cs) := Sta.start ecs (Or.inl (hsets _ (List.mem_of_getElem? (i := 0) rfl)))
  have hcw : Jvm.Lit.compactW.before #[.int i0, .int i1] s = true := hsets _ (List.mem_of_getElem? (i := 2) rfl)
  have hcs : ¬ cs = (0 : Int32) := by
    intro q
    have h := hcw
    subst q
    simp [Jvm.Lit.compactW, Cond.before, Cond.holds, Cond.value, ecs, Term.eval] at h
    simp [Term.eval] at ecs
    simp_all
  obtain ⟨sv, esv, hsv⟩ : ∃ sv, (Term.static "jdk/internal/util/Preconditions" "SIOOBE_FORMATTER" "Ljava/util/function/BiFunction;").eval #[.int i0, .int i1] s none [] s = some sv ∧ sv.isRef = true := by
    have h := Cond.before_iff.mp (hsets _ (List.mem_of_getElem? (i := 8) rfl))
    simp only [Cond.value] at h
    cases ht : (Term.static "jdk/internal/util/Preconditions" "SIOOBE_FORMATTER" "Ljava/util/function/BiFunction;").eval #[.int i0, .int i1] s none [] s with
    | none => simp [ht] at h
    | some v => exact ⟨v, rfl, by simp only [ht] at h; cases v <;> first | rfl | (simp at h)⟩
  have Sa2 : Sta s s.heap "jdk/internal/util/Preconditions" "SIOOBE_FORMATTER" "Ljava/util/function/BiFunction;" sv := Sta.start esv (Or.inl (hsets _ (List.mem_of_getElem? (i := 7) rfl)))
  have hCH : CHv s consts_1 s.vm s.heap := CHv.start hEL hcalls.1 hcw (hw _ (List.mem_of_getElem? (i := 13) rfl)) (hw _ (List.mem_of_getElem? (i := 12) rfl))
  obtain ⟨n, o, h1, h2, h3, _, L, rfl, ⟨rfl, N⟩, hq⟩ := rm0 l s _ hw hwS hEL tables_1 i0 i1 cs sv s.heap s.heap.size (Nat.le_refl _) Sa1 Sa2 hcs hsv p e ha hc hk s m _ below hf ((Spec.applies_iff_loose hf).mp happ).1 ⟨rfl, State.Warmed39.refl s, rfl, hCH⟩ trivial
  refine ⟨n, _, h1, h2, h3, hpost _ _ _ _ _ _ ⟨Cond.after_iff.mpr rfl, Cond.after_iff.mpr (eq_i res_at (Term.int_eval (1)) rfl), trivial⟩ ⟨hq.1, hq.2.1, hq.2.2.1, (hq.2.2.2.sift fun y hy => Or.inr (N y hy)).mono (by decide) (by decide)⟩⟩
theorem main_1_1 : Claimed_1_1 := comes_1 fun _ _ _ _ _ _ h hF => ⟨h.1, hF⟩
theorem main_1_2 : Claimed_1_2 := comes_1 fun _ _ _ _ _ _ h hF => ⟨h.2.1, hF⟩

end Jvm.Pilot.@@N@@
namespace Jvm.Pilot.@@N@@
open Jvm Jvm.ClassFile Sem Op Lib Jvm.Free Jvm.Stand Jvm.Pilot.@@N@@.Jvm.D
/-! MADE BY PROGRAM (witnessworld.py) out of the Statement's table words and the real class files: 18 classes; the members and pool entries that the words name. The judged class is class 1, her method 2. -/
namespace start1
open Jvm.ClassFile
def u (s : String) : CpInfo := .utf8 (stringToUtf16 s)
/-- a pool by its gaps: so many unusable entries, then the entry; so many at the end -/
def gap : Nat → List CpInfo → List CpInfo
  | 0, r => r
  | n + 1, r => .unusable :: gap n r
def poolList (es : List (Nat × CpInfo)) (last : Nat) : List CpInfo := es.foldr (fun e r => gap e.1 (e.2 :: r)) (gap last [])
def pool (es : List (Nat × CpInfo)) (last : Nat) : Array CpInfo := ⟨poolList es last⟩
def fileOf (pool : Array CpInfo) (this : Nat) (attrs : Array Attribute := #[]) (ms : Array MethodInfo := #[]) (fl : Nat := 33) (sup : Nat := 0) (ifs : Array Nat := #[]) (fds : Array FieldInfo := #[]) : ClassFile where
  minorVersion := 0
  majorVersion := 65
  constantPool := pool
  accessFlags := fl
  thisClass := this
  superClass := sup
  interfaces := ifs
  fields := fds
  methods := ms
  attributes := attrs
def plain (name : String) (sup : Option ClassId) : Class where
  name := name
  kind := .ordinary
  loader := none
  accessFlags := 33
  super := sup
  interfaces := #[]
  cf := none
  fields := #[]
  methods := #[]
  instanceTypes := #[]
  staticTypes := #[]
  resolved := #[]
  callSites := []
  init := .initialized
  statics := none
  mirror := none

def pool0 : Array CpInfo := pool [(5, u "<init>"), (0, u "()V"), (1, .class_ 10), (1, u "java/lang/Object")] 113

def k0m0 : Method := { name := "<init>", desc := "()V", sig := { parameters := [], returnType := none }, accessFlags := 1, code := none }
/-- java/lang/Object -/
def k0 : Class := { plain "java/lang/Object" none with
  accessFlags := 33
  interfaces := #[]
  cf := some (fileOf pool0 8 #[] #[{ accessFlags := 1, nameIndex := 5, descriptorIndex := 6, attributes := #[] }] 33 0 #[] #[])
  fields := #[]
  methods := #[k0m0]
  instanceTypes := #[]
  staticTypes := #[]
  resolved := Array.replicate 124 none
  statics := none }

def pool1 : Array CpInfo := pool [(2, .class_ 4), (1, u "java/lang/Object"), (0, u "<init>"), (0, u "()V"), (0, .class_ 8), (0, u "java/lang/String"), (0, .string 10), (0, u "4444444444"), (0, .string 12), (0, u "8444444444"), (0, .string 14), (0, u "8441444444"), (0, .string 16), (0, u "2442448414"), (0, .string 18), (0, u "8148444444"), (0, .methodref 7 20), (0, .nameAndType 21 22), (0, u "charAt"), (0, u "(I)C"), (0, .methodref 24 25), (0, .class_ 26), (0, .nameAndType 27 28), (0, u "com/example/nidra/nidra/dbus/Unmarshaller"), (0, u "alignment"), (0, u "(I)I"), (0, .methodref 30 31), (0, .class_ 32), (0, .nameAndType 33 28), (0, u "com/example/nidra/nidra/dbus/UnmarshallerAlignmentPinLaw"), (0, u "expected"), (3, u "law"), (0, u "(II)Z")] 2

def k1m0 : Method := { name := "<init>", desc := "()V", sig := { parameters := [], returnType := none }, accessFlags := 1, code := none }
def k1c1 : Code := { maxStack := 4, maxLocals := 3, code := method_2_code, exceptionTable := #[], attributes := #[] }
def k1m1 : Method := { name := "expected", desc := "(I)I", sig := { parameters := [.int], returnType := some .int }, accessFlags := 10, code := some k1c1 }
def k1c2 : Code := { maxStack := 2, maxLocals := 3, code := code, exceptionTable := #[], attributes := #[] }
def k1m2 : Method := { name := "law", desc := "(II)Z", sig := { parameters := [.int, .int], returnType := some .boolean }, accessFlags := 9, code := some k1c2 }
/-- com/example/nidra/nidra/dbus/UnmarshallerAlignmentPinLaw -/
def k1 : Class := { plain "com/example/nidra/nidra/dbus/UnmarshallerAlignmentPinLaw" (some 0) with
  accessFlags := 49
  interfaces := #[]
  cf := some (fileOf pool1 30 #[] #[{ accessFlags := 1, nameIndex := 5, descriptorIndex := 6, attributes := #[] }, { accessFlags := 10, nameIndex := 33, descriptorIndex := 28, attributes := #[] }, { accessFlags := 9, nameIndex := 37, descriptorIndex := 38, attributes := #[] }] 49 2 #[] #[])
  fields := #[]
  methods := #[k1m0, k1m1, k1m2]
  instanceTypes := #[]
  staticTypes := #[]
  resolved := Array.replicate 41 none
  statics := none }

def pool2 : Array CpInfo := pool [(2, .class_ 4), (1, u "java/lang/Object"), (3, .class_ 10), (1, u "com/example/nidra/nidra/dbus/Unmarshaller"), (0, u "bytes"), (0, u "[B"), (2, u "start"), (0, u "I"), (2, u "end"), (2, u "bigEndian"), (0, u "Z"), (2, u "position"), (71, u "alignment"), (0, u "(I)I"), (50, u "MOST_DEPTH")] 32

def k2c0 : Code := { maxStack := 1, maxLocals := 2, code := prog_7_method_2_code, exceptionTable := #[], attributes := #[] }
def k2m0 : Method := { name := "alignment", desc := "(I)I", sig := { parameters := [.int], returnType := some .int }, accessFlags := 8, code := some k2c0 }
/-- com/example/nidra/nidra/dbus/Unmarshaller -/
def k2 : Class := { plain "com/example/nidra/nidra/dbus/Unmarshaller" (some 0) with
  accessFlags := 32
  interfaces := #[]
  cf := some (fileOf pool2 8 #[] #[{ accessFlags := 8, nameIndex := 98, descriptorIndex := 99, attributes := #[] }] 32 2 #[] #[{ accessFlags := 26, nameIndex := 150, descriptorIndex := 16, attributes := #[] }, { accessFlags := 18, nameIndex := 11, descriptorIndex := 12, attributes := #[] }, { accessFlags := 18, nameIndex := 15, descriptorIndex := 16, attributes := #[] }, { accessFlags := 18, nameIndex := 19, descriptorIndex := 16, attributes := #[] }, { accessFlags := 18, nameIndex := 22, descriptorIndex := 23, attributes := #[] }, { accessFlags := 2, nameIndex := 26, descriptorIndex := 16, attributes := #[] }])
  fields := #[{ name := "MOST_DEPTH", type := .int, accessFlags := 26, slot := 0, constantValue := 0 }, { name := "bytes", type := (.array .byte), accessFlags := 18, slot := 0, constantValue := 0 }, { name := "start", type := .int, accessFlags := 18, slot := 1, constantValue := 0 }, { name := "end", type := .int, accessFlags := 18, slot := 2, constantValue := 0 }, { name := "bigEndian", type := .boolean, accessFlags := 18, slot := 3, constantValue := 0 }, { name := "position", type := .int, accessFlags := 2, slot := 4, constantValue := 0 }]
  methods := #[k2m0]
  instanceTypes := #[(.array .byte), .int, .int, .boolean, .int]
  staticTypes := #[.int]
  resolved := Array.replicate 183 none
  statics := none }

def pool3 : Array CpInfo := pool [(1, .class_ 2), (0, u "java/io/Serializable"), (0, .class_ 4), (0, u "java/lang/Object")] 2

/-- java/io/Serializable -/
def k3 : Class := { plain "java/io/Serializable" (some 0) with
  accessFlags := 1537
  interfaces := #[]
  cf := some (fileOf pool3 1 #[] #[] 1537 3 #[] #[])
  fields := #[]
  methods := #[]
  instanceTypes := #[]
  staticTypes := #[]
  resolved := Array.replicate 7 none
  statics := none }

def pool4 : Array CpInfo := pool [(1, .class_ 2), (0, u "java/lang/Comparable"), (0, .class_ 4), (0, u "java/lang/Object")] 7

/-- java/lang/Comparable -/
def k4 : Class := { plain "java/lang/Comparable" (some 0) with
  accessFlags := 1537
  interfaces := #[]
  cf := some (fileOf pool4 1 #[] #[] 1537 3 #[] #[])
  fields := #[]
  methods := #[]
  instanceTypes := #[]
  staticTypes := #[]
  resolved := Array.replicate 12 none
  statics := none }

def pool5 : Array CpInfo := pool [(2, .class_ 4), (1, u "java/lang/CharSequence"), (42, .class_ 48), (0, u "java/lang/CharSequence$1CodePointIterator"), (10, .class_ 60), (0, u "java/lang/CharSequence$1CharIterator"), (5, .class_ 67), (0, u "java/lang/Object")] 63

/-- java/lang/CharSequence -/
def k5 : Class := { plain "java/lang/CharSequence" (some 0) with
  accessFlags := 1537
  interfaces := #[]
  cf := some (fileOf pool5 2 #[.nestMembers #[47, 59]] #[] 1537 66 #[] #[])
  fields := #[]
  methods := #[]
  instanceTypes := #[]
  staticTypes := #[]
  resolved := Array.replicate 131 none
  statics := none }

def pool6 : Array CpInfo := pool [(1, .class_ 2), (0, u "java/lang/constant/Constable"), (0, .class_ 4), (0, u "java/lang/Object")] 6

/-- java/lang/constant/Constable -/
def k6 : Class := { plain "java/lang/constant/Constable" (some 0) with
  accessFlags := 1537
  interfaces := #[]
  cf := some (fileOf pool6 1 #[] #[] 1537 3 #[] #[])
  fields := #[]
  methods := #[]
  instanceTypes := #[]
  staticTypes := #[]
  resolved := Array.replicate 11 none
  statics := none }

def pool7 : Array CpInfo := pool [(1, .class_ 2), (0, u "java/lang/constant/ConstantDesc"), (0, .class_ 4), (0, u "java/lang/Object")] 32

/-- java/lang/constant/ConstantDesc -/
def k7 : Class := { plain "java/lang/constant/ConstantDesc" (some 0) with
  accessFlags := 1537
  interfaces := #[]
  cf := some (fileOf pool7 1 #[] #[] 1537 3 #[] #[])
  fields := #[]
  methods := #[]
  instanceTypes := #[]
  staticTypes := #[]
  resolved := Array.replicate 37 none
  statics := none }

def pool8 : Array CpInfo := pool [(2, .class_ 4), (1, u "java/lang/Object"), (0, u "<init>"), (0, u "()V"), (2, .fieldref 10 11), (0, .class_ 12), (0, .nameAndType 13 14), (0, u "java/lang/String"), (0, u "value"), (0, u "[B"), (0, .fieldref 10 16), (0, .nameAndType 17 18), (0, u "coder"), (0, u "B"), (2, u "hash"), (0, u "I"), (2, u "hashIsZero"), (0, u "Z"), (11, .fieldref 10 39), (0, .nameAndType 40 26), (0, u "COMPACT_STRINGS"), (66, .class_ 109), (1, u "java/lang/StringLatin1"), (32, u "()Z"), (220, u "([BI)C"), (27, u "(II)V"), (35, u "(I)C"), (64, .methodref 10 493), (0, .nameAndType 494 142), (0, u "isLatin1"), (0, .methodref 107 496), (0, .nameAndType 497 363), (0, u "charAt"), (3, u "checkIndex"), (73, .class_ 576), (0, u "java/lang/CharSequence"), (22, u "CASE_INSENSITIVE_ORDER"), (0, u "Ljava/util/Comparator;"), (452, .fieldref 1054 1055), (0, .class_ 1056), (0, .nameAndType 1057 1058), (0, u "jdk/internal/util/Preconditions"), (0, u "SIOOBE_FORMATTER"), (0, u "Ljava/util/function/BiFunction;"), (0, .methodref 1054 1060), (0, .nameAndType 501 1061), (0, u "(IILjava/util/function/BiFunction;)I"), (39, u "serialPersistentFields"), (0, u "[Ljava/io/ObjectStreamField;"), (0, .class_ 1104), (0, u "java/lang/String$CaseInsensitiveComparator"), (1, .class_ 1107), (0, u "java/io/Serializable"), (0, .class_ 1109), (0, u "java/lang/Comparable"), (0, .class_ 1111), (0, u "java/lang/constant/Constable"), (0, .class_ 1113), (0, u "java/lang/constant/ConstantDesc"), (2, u "serialVersionUID"), (0, u "J"), (3, u "REPL"), (0, u "C"), (2, u "LATIN1"), (1, u "UTF16")] 323

def k8m0 : Method := { name := "<init>", desc := "()V", sig := { parameters := [], returnType := none }, accessFlags := 1, code := none }
def k8c1 : Code := { maxStack := 2, maxLocals := 2, code := jdk_42_method_56_code, exceptionTable := #[], attributes := #[] }
def k8m1 : Method := { name := "charAt", desc := "(I)C", sig := { parameters := [.int], returnType := some .char }, accessFlags := 1, code := some k8c1 }
def k8c2 : Code := { maxStack := 1, maxLocals := 1, code := jdk_42_method_154_code, exceptionTable := #[], attributes := #[] }
def k8m2 : Method := { name := "isLatin1", desc := "()Z", sig := { parameters := [], returnType := some .boolean }, accessFlags := 0, code := some k8c2 }
def k8c3 : Code := { maxStack := 3, maxLocals := 2, code := jdk_42_method_155_code, exceptionTable := #[], attributes := #[] }
def k8m3 : Method := { name := "checkIndex", desc := "(II)V", sig := { parameters := [.int, .int], returnType := none }, accessFlags := 8, code := some k8c3 }
/-- java/lang/String -/
def k8 : Class := { plain "java/lang/String" (some 0) with
  accessFlags := 49
  interfaces := #[3, 4, 5, 6, 7]
  cf := some (fileOf pool8 10 #[.nestMembers #[1103]] #[{ accessFlags := 1, nameIndex := 5, descriptorIndex := 6, attributes := #[] }, { accessFlags := 1, nameIndex := 497, descriptorIndex := 427, attributes := #[] }, { accessFlags := 0, nameIndex := 494, descriptorIndex := 142, attributes := #[] }, { accessFlags := 8, nameIndex := 501, descriptorIndex := 391, attributes := #[] }] 49 2 #[1106, 1108, 575, 1110, 1112] #[{ accessFlags := 18, nameIndex := 13, descriptorIndex := 14, attributes := #[] }, { accessFlags := 18, nameIndex := 17, descriptorIndex := 18, attributes := #[] }, { accessFlags := 2, nameIndex := 21, descriptorIndex := 22, attributes := #[] }, { accessFlags := 2, nameIndex := 25, descriptorIndex := 26, attributes := #[] }, { accessFlags := 26, nameIndex := 1116, descriptorIndex := 1117, attributes := #[] }, { accessFlags := 24, nameIndex := 40, descriptorIndex := 26, attributes := #[] }, { accessFlags := 26, nameIndex := 1101, descriptorIndex := 1102, attributes := #[] }, { accessFlags := 26, nameIndex := 1121, descriptorIndex := 1122, attributes := #[] }, { accessFlags := 25, nameIndex := 599, descriptorIndex := 600, attributes := #[] }, { accessFlags := 24, nameIndex := 1125, descriptorIndex := 18, attributes := #[] }, { accessFlags := 24, nameIndex := 1127, descriptorIndex := 18, attributes := #[] }])
  fields := #[{ name := "value", type := (.array .byte), accessFlags := 18, slot := 0, constantValue := 0 }, { name := "coder", type := .byte, accessFlags := 18, slot := 1, constantValue := 0 }, { name := "hash", type := .int, accessFlags := 2, slot := 2, constantValue := 0 }, { name := "hashIsZero", type := .boolean, accessFlags := 2, slot := 3, constantValue := 0 }, { name := "serialVersionUID", type := .long, accessFlags := 26, slot := 0, constantValue := 0 }, { name := "COMPACT_STRINGS", type := .boolean, accessFlags := 24, slot := 1, constantValue := 0 }, { name := "serialPersistentFields", type := (.array (.object "java/io/ObjectStreamField")), accessFlags := 26, slot := 2, constantValue := 0 }, { name := "REPL", type := .char, accessFlags := 26, slot := 3, constantValue := 0 }, { name := "CASE_INSENSITIVE_ORDER", type := (.object "java/util/Comparator"), accessFlags := 25, slot := 4, constantValue := 0 }, { name := "LATIN1", type := .byte, accessFlags := 24, slot := 5, constantValue := 0 }, { name := "UTF16", type := .byte, accessFlags := 24, slot := 6, constantValue := 0 }]
  methods := #[k8m0, k8m1, k8m2, k8m3]
  instanceTypes := #[(.array .byte), .byte, .int, .boolean]
  staticTypes := #[.long, .boolean, (.array (.object "java/io/ObjectStreamField")), .char, (.object "java/util/Comparator"), .byte, .byte]
  resolved := Array.replicate 1451 none
  statics := some 0 }

def pool9 : Array CpInfo := pool [(1, .class_ 2), (0, u "java/lang/String"), (1, .class_ 6), (1, u "java/lang/Object"), (0, u "<init>"), (0, u "()V"), (0, .methodref 1 10), (0, .nameAndType 11 12), (0, u "checkIndex"), (0, u "(II)V"), (1, .class_ 16), (1, u "java/lang/StringLatin1"), (36, u "([BI)C"), (67, u "$assertionsDisabled"), (0, u "Z"), (98, .class_ 223), (1, u "java/lang/StringLatin1$LinesSpliterator"), (28, u "charAt"), (137, .class_ 391), (0, u "java/lang/StringLatin1$CharsSpliterator")] 3

def k9m0 : Method := { name := "<init>", desc := "()V", sig := { parameters := [], returnType := none }, accessFlags := 0, code := none }
def k9c1 : Code := { maxStack := 2, maxLocals := 2, code := jdk_43_method_2_code, exceptionTable := #[], attributes := #[] }
def k9m1 : Method := { name := "charAt", desc := "([BI)C", sig := { parameters := [(.array .byte), .int], returnType := some .char }, accessFlags := 9, code := some k9c1 }
/-- java/lang/StringLatin1 -/
def k9 : Class := { plain "java/lang/StringLatin1" (some 0) with
  accessFlags := 48
  interfaces := #[]
  cf := some (fileOf pool9 14 #[.nestMembers #[390, 221]] #[{ accessFlags := 0, nameIndex := 7, descriptorIndex := 8, attributes := #[] }, { accessFlags := 9, nameIndex := 252, descriptorIndex := 53, attributes := #[] }] 48 4 #[] #[{ accessFlags := 4120, nameIndex := 121, descriptorIndex := 122, attributes := #[] }])
  fields := #[{ name := "$assertionsDisabled", type := .boolean, accessFlags := 4120, slot := 0, constantValue := 0 }]
  methods := #[k9m0, k9m1]
  instanceTypes := #[]
  staticTypes := #[.boolean]
  resolved := Array.replicate 395 none
  statics := none }

def pool10 : Array CpInfo := pool [(2, .class_ 4), (1, u "java/lang/Object"), (0, u "<init>"), (0, u "()V"), (17, .class_ 26), (1, u "jdk/internal/util/Preconditions"), (6, u "checkIndex"), (21, .class_ 56), (0, u "jdk/internal/util/Preconditions$4"), (57, .class_ 115), (0, u "jdk/internal/util/Preconditions$1"), (7, u "SIOOBE_FORMATTER"), (0, u "Ljava/util/function/BiFunction;"), (0, .class_ 126), (0, u "jdk/internal/util/Preconditions$2"), (3, u "AIOOBE_FORMATTER"), (0, .class_ 132), (0, u "jdk/internal/util/Preconditions$3"), (3, u "IOOBE_FORMATTER"), (41, u "(IILjava/util/function/BiFunction;)I")] 15

def k10m0 : Method := { name := "<init>", desc := "()V", sig := { parameters := [], returnType := none }, accessFlags := 1, code := none }
def k10c1 : Code := { maxStack := 3, maxLocals := 3, code := jdk_41_method_11_code, exceptionTable := #[], attributes := #[] }
def k10m1 : Method := { name := "checkIndex", desc := "(IILjava/util/function/BiFunction;)I", sig := { parameters := [.int, .int, (.object "java/util/function/BiFunction")], returnType := some .int }, accessFlags := 9, code := some k10c1 }
/-- jdk/internal/util/Preconditions -/
def k10 : Class := { plain "jdk/internal/util/Preconditions" (some 0) with
  accessFlags := 33
  interfaces := #[]
  cf := some (fileOf pool10 24 #[.nestMembers #[55, 131, 125, 114]] #[{ accessFlags := 1, nameIndex := 5, descriptorIndex := 6, attributes := #[] }, { accessFlags := 9, nameIndex := 33, descriptorIndex := 178, attributes := #[] }] 33 2 #[] #[{ accessFlags := 25, nameIndex := 123, descriptorIndex := 124, attributes := #[] }, { accessFlags := 25, nameIndex := 130, descriptorIndex := 124, attributes := #[] }, { accessFlags := 25, nameIndex := 136, descriptorIndex := 124, attributes := #[] }])
  fields := #[{ name := "SIOOBE_FORMATTER", type := (.object "java/util/function/BiFunction"), accessFlags := 25, slot := 0, constantValue := 0 }, { name := "AIOOBE_FORMATTER", type := (.object "java/util/function/BiFunction"), accessFlags := 25, slot := 1, constantValue := 0 }, { name := "IOOBE_FORMATTER", type := (.object "java/util/function/BiFunction"), accessFlags := 25, slot := 2, constantValue := 0 }]
  methods := #[k10m0, k10m1]
  instanceTypes := #[]
  staticTypes := #[(.object "java/util/function/BiFunction"), (.object "java/util/function/BiFunction"), (.object "java/util/function/BiFunction")]
  resolved := Array.replicate 194 none
  statics := some 1 }

def pool11 : Array CpInfo := pool [(9, u "<init>"), (6, .class_ 18), (1, u "java/lang/Object"), (0, u "()V"), (1, .class_ 23), (1, u "jdk/internal/util/ArraysSupport"), (0, u "LOG2_ARRAY_LONG_INDEX_SCALE"), (0, u "I"), (2, u "U"), (0, u "Ljdk/internal/misc/Unsafe;"), (8, u "BIG_ENDIAN"), (0, u "Z"), (8, u "LOG2_BYTE_BIT_SIZE"), (4, u "LOG2_ARRAY_INT_INDEX_SCALE"), (54, u "JLA"), (0, u "Ljdk/internal/access/JavaLangAccess;"), (11, u "LOG2_ARRAY_BOOLEAN_INDEX_SCALE"), (9, u "LOG2_ARRAY_BYTE_INDEX_SCALE"), (5, u "LOG2_ARRAY_CHAR_INDEX_SCALE"), (5, u "LOG2_ARRAY_SHORT_INDEX_SCALE"), (18, u "LOG2_ARRAY_FLOAT_INDEX_SCALE"), (24, u "LOG2_ARRAY_DOUBLE_INDEX_SCALE"), (89, u "T_BOOLEAN"), (2, u "T_CHAR"), (1, u "T_FLOAT"), (1, u "T_DOUBLE"), (1, u "T_BYTE"), (1, u "T_SHORT"), (1, u "T_INT"), (1, u "T_LONG"), (1, u "SOFT_MAX_ARRAY_LENGTH")] 83

def k11m0 : Method := { name := "<init>", desc := "()V", sig := { parameters := [], returnType := none }, accessFlags := 2, code := none }
/-- jdk/internal/util/ArraysSupport -/
def k11 : Class := { plain "jdk/internal/util/ArraysSupport" (some 0) with
  accessFlags := 33
  interfaces := #[]
  cf := some (fileOf pool11 21 #[] #[{ accessFlags := 2, nameIndex := 9, descriptorIndex := 19, attributes := #[] }] 33 16 #[] #[{ accessFlags := 24, nameIndex := 28, descriptorIndex := 29, attributes := #[] }, { accessFlags := 26, nameIndex := 38, descriptorIndex := 39, attributes := #[] }, { accessFlags := 25, nameIndex := 121, descriptorIndex := 25, attributes := #[] }, { accessFlags := 25, nameIndex := 131, descriptorIndex := 25, attributes := #[] }, { accessFlags := 25, nameIndex := 137, descriptorIndex := 25, attributes := #[] }, { accessFlags := 25, nameIndex := 143, descriptorIndex := 25, attributes := #[] }, { accessFlags := 25, nameIndex := 53, descriptorIndex := 25, attributes := #[] }, { accessFlags := 25, nameIndex := 24, descriptorIndex := 25, attributes := #[] }, { accessFlags := 25, nameIndex := 162, descriptorIndex := 25, attributes := #[] }, { accessFlags := 25, nameIndex := 187, descriptorIndex := 25, attributes := #[] }, { accessFlags := 26, nameIndex := 48, descriptorIndex := 25, attributes := #[] }, { accessFlags := 25, nameIndex := 277, descriptorIndex := 25, attributes := #[] }, { accessFlags := 25, nameIndex := 280, descriptorIndex := 25, attributes := #[] }, { accessFlags := 25, nameIndex := 282, descriptorIndex := 25, attributes := #[] }, { accessFlags := 25, nameIndex := 284, descriptorIndex := 25, attributes := #[] }, { accessFlags := 25, nameIndex := 286, descriptorIndex := 25, attributes := #[] }, { accessFlags := 25, nameIndex := 288, descriptorIndex := 25, attributes := #[] }, { accessFlags := 25, nameIndex := 290, descriptorIndex := 25, attributes := #[] }, { accessFlags := 25, nameIndex := 292, descriptorIndex := 25, attributes := #[] }, { accessFlags := 26, nameIndex := 108, descriptorIndex := 109, attributes := #[] }, { accessFlags := 25, nameIndex := 294, descriptorIndex := 25, attributes := #[] }])
  fields := #[{ name := "U", type := (.object "jdk/internal/misc/Unsafe"), accessFlags := 24, slot := 0, constantValue := 0 }, { name := "BIG_ENDIAN", type := .boolean, accessFlags := 26, slot := 1, constantValue := 0 }, { name := "LOG2_ARRAY_BOOLEAN_INDEX_SCALE", type := .int, accessFlags := 25, slot := 2, constantValue := 0 }, { name := "LOG2_ARRAY_BYTE_INDEX_SCALE", type := .int, accessFlags := 25, slot := 3, constantValue := 0 }, { name := "LOG2_ARRAY_CHAR_INDEX_SCALE", type := .int, accessFlags := 25, slot := 4, constantValue := 0 }, { name := "LOG2_ARRAY_SHORT_INDEX_SCALE", type := .int, accessFlags := 25, slot := 5, constantValue := 0 }, { name := "LOG2_ARRAY_INT_INDEX_SCALE", type := .int, accessFlags := 25, slot := 6, constantValue := 0 }, { name := "LOG2_ARRAY_LONG_INDEX_SCALE", type := .int, accessFlags := 25, slot := 7, constantValue := 0 }, { name := "LOG2_ARRAY_FLOAT_INDEX_SCALE", type := .int, accessFlags := 25, slot := 8, constantValue := 0 }, { name := "LOG2_ARRAY_DOUBLE_INDEX_SCALE", type := .int, accessFlags := 25, slot := 9, constantValue := 0 }, { name := "LOG2_BYTE_BIT_SIZE", type := .int, accessFlags := 26, slot := 10, constantValue := 0 }, { name := "T_BOOLEAN", type := .int, accessFlags := 25, slot := 11, constantValue := 0 }, { name := "T_CHAR", type := .int, accessFlags := 25, slot := 12, constantValue := 0 }, { name := "T_FLOAT", type := .int, accessFlags := 25, slot := 13, constantValue := 0 }, { name := "T_DOUBLE", type := .int, accessFlags := 25, slot := 14, constantValue := 0 }, { name := "T_BYTE", type := .int, accessFlags := 25, slot := 15, constantValue := 0 }, { name := "T_SHORT", type := .int, accessFlags := 25, slot := 16, constantValue := 0 }, { name := "T_INT", type := .int, accessFlags := 25, slot := 17, constantValue := 0 }, { name := "T_LONG", type := .int, accessFlags := 25, slot := 18, constantValue := 0 }, { name := "JLA", type := (.object "jdk/internal/access/JavaLangAccess"), accessFlags := 26, slot := 19, constantValue := 0 }, { name := "SOFT_MAX_ARRAY_LENGTH", type := .int, accessFlags := 25, slot := 20, constantValue := 0 }]
  methods := #[k11m0]
  instanceTypes := #[]
  staticTypes := #[(.object "jdk/internal/misc/Unsafe"), .boolean, .int, .int, .int, .int, .int, .int, .int, .int, .int, .int, .int, .int, .int, .int, .int, .int, .int, (.object "jdk/internal/access/JavaLangAccess"), .int]
  resolved := Array.replicate 378 none
  statics := none }

def pool12 : Array CpInfo := pool [(1, u "java/lang/Cloneable"), (0, .class_ 1), (0, u "java/lang/Object"), (0, .class_ 3)] 3

/-- java/lang/Cloneable -/
def k12 : Class := { plain "java/lang/Cloneable" (some 0) with
  accessFlags := 1537
  interfaces := #[]
  cf := some (fileOf pool12 2 #[] #[] 1537 4 #[] #[])
  fields := #[]
  methods := #[]
  instanceTypes := #[]
  staticTypes := #[]
  resolved := Array.replicate 8 none
  statics := none }

/-- the primitive byte -/
def k13 : Class := { plain "byte" none with kind := .primitive 'B', accessFlags := 0x411 }
/-- [B -/
def k14 : Class := { plain "[B" (some 0) with kind := .array 13 .byte, interfaces := #[12, 3], accessFlags := 1041 }

/-- the primitive int -/
def k15 : Class := { plain "int" none with kind := .primitive 'I', accessFlags := 0x411 }
/-- [I -/
def k16 : Class := { plain "[I" (some 0) with kind := .array 15 .int, interfaces := #[12, 3], accessFlags := 1041 }

/-- [Ljava/lang/String; -/
def k17 : Class := { plain "[Ljava/lang/String;" (some 0) with kind := .array 8 (.object "java/lang/String"), interfaces := #[12, 3], accessFlags := 1041 }

def heap : Heap := #[{ cls := 8, slots := #[.long 0, .int 1, .null, .int 0, .null, .int 0, .int 0], vm := .statics 8 },
  { cls := 10, slots := #[.null, .null, .null], vm := .statics 10 }]
def classes : Array Class := #[k0, k1, k2, k3, k4, k5, k6, k7, k8, k9, k10, k11, k12, k13, k14, k15, k16, k17]
def interned : List (Array UInt16 × Addr) := []
def slotsUsed : Nat := 10
def theMethod : MethodId := ⟨1, 2⟩
def args0 : Array Value := #[.int 9, .int 8]
def aboutOver (below : List Frame) : State where
  vm := { classes := classes, interned := interned.toArray }
  heap := heap
  slotsUsed := slotsUsed
  threads := #[{ frames := .invoking theMethod args0 :: below }]
def below0 : List Frame := [.native { method := ⟨0, 0⟩, args := #[] }]
def about1 : State := aboutOver below0
def p0 : Program := .bare "" "" ""
def e0 : Env := launch0.env 0 0 0
theorem w_frames : about1.frames = Frame.invoking theMethod args0 :: below0 := rfl
set_option maxRecDepth 65536 in
theorem w_args : argsFit about1.vm theMethod args0 = true := by decide +kernel
set_option maxRecDepth 65536 in
theorem w_heap : heapFits about1 = true := by decide +kernel
set_option maxRecDepth 65536 in
theorem w_runnable : about1.curStatus? = some .runnable := by decide +kernel
set_option maxRecDepth 65536 in
theorem w_alone : about1.alone = true := by decide +kernel
set_option maxRecDepth 65536 in
theorem w_named : about1.methodNamed? x = some theMethod := by decide +kernel
set_option maxRecDepth 65536 in
theorem w_hears : about1.hears theMethod below0 = true := by decide +kernel
set_option maxRecDepth 65536 in
theorem w_ripe : about1.ripe theMethod args0 below0 = true := by decide +kernel
theorem w_running : about1.status = .running := rfl
set_option maxRecDepth 65536 in
theorem w_room : about1.hasRoom e0.platform room_1 = true :=
  launch0.hasRoom_least _ room_1 (by decide +kernel) (by decide +kernel) (by decide +kernel) (by decide +kernel) (by decide +kernel) (by decide +kernel)
theorem allAtoms_all (ts : List Jvm.Cond) (a : Array Jvm.Value) (st : Jvm.State) : (allAtoms ts).before a st = ts.all (fun c => c.before a st) := by
  induction ts with
  | nil => rfl
  | cons c t ih =>
    show (Jvm.Cond.and c (allAtoms t)).before a st = _
    rw [Jvm.Cond.before_and, ih, List.all_cons]
def words1 : List Jvm.Cond := Jvm.Cond.code x code maxLocals ret :: tables_1
/-- a 'code' word, met by the world's own term for the bytes: nothing is compared byte by byte -/
theorem code_word {y : MethodName} {bytes : ByteArray} {mx : Nat} {rt : Option FieldType} {a : Array Value} {s : State} {m : MethodId} {meth : Method} {c : Code} (h1 : s.methodNamed? y = some m) (h2 : s.vm.method? m = some meth) (h3 : meth.code = some c) (h4 : c.code = bytes)
    (h5 : (c.maxLocals == mx && c.exceptionTable.isEmpty && decide (c.maxStack ≤ mostOperands) && decide (meth.sig.returnType = rt) && !meth.locks && decide (parseMethodDescriptor y.desc = some meth.sig)) = true) : (Jvm.Cond.code y bytes mx rt).before a s = true := by
  simp only [Bool.and_eq_true, beq_iff_eq, Bool.not_eq_true', decide_eq_true_eq] at h5
  obtain ⟨⟨⟨⟨⟨g1, g2⟩, g3⟩, g4⟩, g5⟩, g6⟩ := h5
  simp [Cond.before, Cond.holds, Cond.value, h1, h2, h3, h4, g1, g2, g3, g4, g5, g6]
def isCode : Jvm.Cond → Bool
  | .code _ _ _ _ => true
  | _ => false
theorem all_split {L : List Jvm.Cond} {P : Jvm.Cond → Bool} (h1 : L.all (fun c => isCode c || P c) = true) (h2 : ∀ c ∈ L.filter isCode, P c = true) : L.all P = true := by
  refine List.all_eq_true.mpr fun c hc => ?_
  have h := List.all_eq_true.mp h1 c hc
  rcases Bool.eq_false_or_eq_true (isCode c) with hi | hi
  · exact h2 c (List.mem_filter.mpr ⟨hc, hi⟩)
  · simpa [hi] using h
set_option maxRecDepth 65536 in
theorem w_c0 : (Jvm.Cond.code x code maxLocals ret).before args0 about1 = true := code_word (m := ⟨1, 2⟩) (meth := k1m2) (c := k1c2) (by decide +kernel) rfl rfl rfl (by decide +kernel)
set_option maxRecDepth 65536 in
theorem w_c1 : (Jvm.Cond.code ({ cls := "com/example/nidra/nidra/dbus/Unmarshaller", name := "alignment", desc := "(I)I" } : Jvm.MethodName) prog_7_method_2_code (2 : Nat) (Option.some Jvm.ClassFile.FieldType.int)).before args0 about1 = true := code_word (m := ⟨2, 0⟩) (meth := k2m0) (c := k2c0) (by decide +kernel) rfl rfl rfl (by decide +kernel)
set_option maxRecDepth 65536 in
theorem w_c2 : (Jvm.Cond.code ({ cls := "com/example/nidra/nidra/dbus/UnmarshallerAlignmentPinLaw", name := "expected", desc := "(I)I" } : Jvm.MethodName) method_2_code (3 : Nat) (Option.some Jvm.ClassFile.FieldType.int)).before args0 about1 = true := code_word (m := ⟨1, 1⟩) (meth := k1m1) (c := k1c1) (by decide +kernel) rfl rfl rfl (by decide +kernel)
set_option maxRecDepth 65536 in
theorem w_c3 : (Jvm.Cond.code ({ cls := "java/lang/String", name := "charAt", desc := "(I)C" } : Jvm.MethodName) jdk_42_method_56_code (2 : Nat) (Option.some Jvm.ClassFile.FieldType.char)).before args0 about1 = true := code_word (m := ⟨8, 1⟩) (meth := k8m1) (c := k8c1) (by decide +kernel) rfl rfl rfl (by decide +kernel)
set_option maxRecDepth 65536 in
theorem w_c4 : (Jvm.Cond.code ({ cls := "java/lang/String", name := "isLatin1", desc := "()Z" } : Jvm.MethodName) jdk_42_method_154_code (1 : Nat) (Option.some Jvm.ClassFile.FieldType.boolean)).before args0 about1 = true := code_word (m := ⟨8, 2⟩) (meth := k8m2) (c := k8c2) (by decide +kernel) rfl rfl rfl (by decide +kernel)
set_option maxRecDepth 65536 in
theorem w_c5 : (Jvm.Cond.code ({ cls := "java/lang/StringLatin1", name := "charAt", desc := "([BI)C" } : Jvm.MethodName) jdk_43_method_2_code (2 : Nat) (Option.some Jvm.ClassFile.FieldType.char)).before args0 about1 = true := code_word (m := ⟨9, 1⟩) (meth := k9m1) (c := k9c1) (by decide +kernel) rfl rfl rfl (by decide +kernel)
set_option maxRecDepth 65536 in
theorem w_c6 : (Jvm.Cond.code ({ cls := "java/lang/String", name := "checkIndex", desc := "(II)V" } : Jvm.MethodName) jdk_42_method_155_code (2 : Nat) (Option.none : Option Jvm.ClassFile.FieldType)).before args0 about1 = true := code_word (m := ⟨8, 3⟩) (meth := k8m3) (c := k8c3) (by decide +kernel) rfl rfl rfl (by decide +kernel)
set_option maxRecDepth 65536 in
theorem w_c7 : (Jvm.Cond.code ({ cls := "jdk/internal/util/Preconditions", name := "checkIndex", desc := "(IILjava/util/function/BiFunction;)I" } : Jvm.MethodName) jdk_41_method_11_code (3 : Nat) (Option.some Jvm.ClassFile.FieldType.int)).before args0 about1 = true := code_word (m := ⟨10, 1⟩) (meth := k10m1) (c := k10c1) (by decide +kernel) rfl rfl rfl (by decide +kernel)
def codes1 : List Jvm.Cond := [Jvm.Cond.code x code maxLocals ret, Jvm.Cond.code ({ cls := "com/example/nidra/nidra/dbus/Unmarshaller", name := "alignment", desc := "(I)I" } : Jvm.MethodName) prog_7_method_2_code (2 : Nat) (Option.some Jvm.ClassFile.FieldType.int), Jvm.Cond.code ({ cls := "com/example/nidra/nidra/dbus/UnmarshallerAlignmentPinLaw", name := "expected", desc := "(I)I" } : Jvm.MethodName) method_2_code (3 : Nat) (Option.some Jvm.ClassFile.FieldType.int), Jvm.Cond.code ({ cls := "java/lang/String", name := "charAt", desc := "(I)C" } : Jvm.MethodName) jdk_42_method_56_code (2 : Nat) (Option.some Jvm.ClassFile.FieldType.char), Jvm.Cond.code ({ cls := "java/lang/String", name := "isLatin1", desc := "()Z" } : Jvm.MethodName) jdk_42_method_154_code (1 : Nat) (Option.some Jvm.ClassFile.FieldType.boolean), Jvm.Cond.code ({ cls := "java/lang/StringLatin1", name := "charAt", desc := "([BI)C" } : Jvm.MethodName) jdk_43_method_2_code (2 : Nat) (Option.some Jvm.ClassFile.FieldType.char), Jvm.Cond.code ({ cls := "java/lang/String", name := "checkIndex", desc := "(II)V" } : Jvm.MethodName) jdk_42_method_155_code (2 : Nat) (Option.none : Option Jvm.ClassFile.FieldType), Jvm.Cond.code ({ cls := "jdk/internal/util/Preconditions", name := "checkIndex", desc := "(IILjava/util/function/BiFunction;)I" } : Jvm.MethodName) jdk_41_method_11_code (3 : Nat) (Option.some Jvm.ClassFile.FieldType.int)]
set_option maxRecDepth 65536 in
theorem codes_eq : words1.filter isCode = codes1 := rfl
theorem w_codes : ∀ c ∈ words1.filter isCode, c.before args0 about1 = true := by
  rw [codes_eq]
  intro c hc
  simp only [codes1, List.mem_cons, List.not_mem_nil, or_false] at hc
  rcases hc with rfl | rfl | rfl | rfl | rfl | rfl | rfl | rfl
  · exact w_c0
  · exact w_c1
  · exact w_c2
  · exact w_c3
  · exact w_c4
  · exact w_c5
  · exact w_c6
  · exact w_c7
set_option maxRecDepth 65536 in
theorem w_t1 : (words1.take 24).all (fun c => isCode c || c.before args0 about1) = true := by decide +kernel
set_option maxRecDepth 65536 in
theorem w_t2 : ((words1.drop 24).take 24).all (fun c => isCode c || c.before args0 about1) = true := by decide +kernel
set_option maxRecDepth 65536 in
theorem w_t3 : ((words1.drop 24).drop 24).all (fun c => isCode c || c.before args0 about1) = true := by decide +kernel
theorem w_tables : (allAtoms (Jvm.Cond.code x code maxLocals ret :: tables_1)).before args0 about1 = true := by
  rw [allAtoms_all]
  show words1.all (fun c => c.before args0 about1) = true
  refine all_split ?_ w_codes
  rw [← List.take_append_drop 24 words1, List.all_append, w_t1, ← List.take_append_drop 24 (words1.drop 24), List.all_append, w_t2, w_t3]
  rfl
set_option maxRecDepth 65536 in
theorem w_rest : rest_1_c.before args0 about1 = true := by decide +kernel
set_option maxRecDepth 65536 in
theorem w_case : (Jvm.Cond.and given_1 narrow_1).before args0 about1 = true := by decide +kernel
set_option maxRecDepth 65536 in
theorem w_consts : constsHeld consts_1 about1 := Jvm.Lit.constsHeldB_iff.mp (by decide +kernel)
theorem w_applies : (headSpec (Jvm.Cond.code x code maxLocals ret :: tables_1) room_1).applies x e0.platform about1 = true :=
  (Spec.applies_iff w_frames).mpr ⟨w_running, w_runnable, w_alone, w_named, w_hears, w_ripe, w_room, w_tables⟩
theorem atStart : AtStart classFile x code maxLocals ret World_1 tables_1 room_1 Calls_1 rest_1 Pre_1 launch0 p0 e0 about1 theMethod args0 below0 :=
  ⟨lists_1, trivial, launch0.admits_env _ _ _, launch0.least_env, fairChoices_fair.cas, fairChoices_fair.clock, w_frames, w_args, w_heap, w_applies, ⟨w_consts, trivial⟩, w_rest, w_case⟩
end start1
theorem witness_1 : WitnessClaimed_1 := ⟨start1.p0, start1.e0, start1.about1, start1.theMethod, start1.args0, start1.below0, start1.atStart⟩
end Jvm.Pilot.@@N@@
