import JvmDerived
import JvmDerived.Pilot.@@N@@Statement
import JvmDerived.Pilot.@@N@@Code
set_option linter.unusedVariables false
set_option linter.unusedSimpArgs false
namespace Jvm.RoadKit
open Sem ClassFile Op Lib Jvm.Stand Jvm.Free Jvm.LawKit
section New
variable {p : Program} {l : Launch} {e : Env} {R : Room} {s : State} {m : MethodId} {args : Array Value} {below : List Frame} {meth : Method} {c : Code} {T : State} {locs : List Loc} {cells slots : Nat}
theorem retI (X : Stand p l e R s m args below meth c T locs cells slots) (hx : p.tables.exec = Jvm.exec) {pc : Nat} {Ls : Array Slot} {z : Int32} {rest : List Value} (hret : meth.sig.returnType = some .int) (hd : decode c.code pc = .ok (.ireturn, 1)) {fs : List Frame}
    (hl : ∀ (f : JFrame) (acts : List Action), f.method = m → f.locked = none → f.entered = [] → (doReturn e (T.setTop f) acts (some (.int z))).1 = T.setFrames fs) : Steps p.tables e below (T.setTop (mkF m pc Ls (.int z :: rest))) (T.setFrames fs) := by
  have hm' : T.vm.method? m = some meth := X.method'
  have hn : narrow .int (.int z) = .int z := rfl
  show Steps p.tables e below (T.setTop { method := m, pc := pc, locals := Ls, stack := _ :: rest, locked := none }) _
  jvm_step X.here [X.here.top, hx, hd, hm', hret, hn]
  first | (intro acts; rw [hl _ acts rfl rfl rfl]) | rw [hl _ _ rfl rfl rfl]
  exact Steps.refl _
end New
end Jvm.RoadKit
namespace Jvm.Pilot.@@N@@
open Jvm Jvm.ClassFile Sem Op Lib Jvm.Free Jvm.Stand Jvm.LawKit Jvm.RoadKit Bundle Jvm.Pilot.@@N@@.Jvm.D
section OwnGo
variable {p : Program} {l : Launch} {e : Env} {R : Room} {s : State} {m : MethodId} {args : Array Value} {below : List Frame} {meth : Method} {c : Code} {T T' : State} {locs : List Loc} {cells slots : Nat} {C S : Nat} {Q : Option Value → Heap → List Loc → Prop} {h : Heap}
/-- from here the run comes to a return of which Q holds -/
def Go (p : Program) (e : Env) (below : List Frame) (s : State) (Q : Option Value → Heap → List Loc → Prop) (C S : Nat) (S0 : State) : Prop :=
  ∃ s₂ o, Steps p.tables e below S0 s₂ ∧ s₂.status = .running ∧ Ended s₂ below o ∧ ∃ v L, o = .returned v ∧ Q v s₂.heap L ∧ FrameEnd s o s₂ L C S
theorem own_go {S0 : State} (k : Go p e below s Q C S S0) : ∃ s₂ o, Steps p.tables e below S0 s₂ ∧ s₂.status = .running ∧ Ended s₂ below o ∧ ∃ v L, o = .returned v ∧ Q v s₂.heap L ∧ FrameEnd s o s₂ L C S := k
theorem Go.to {g g' : JFrame} (st : ∀ t, Steps p.tables e below (T'.setTop g') t → Steps p.tables e below (T.setTop g) t) (k : Go p e below s Q C S (T'.setTop g')) : Go p e below s Q C S (T.setTop g) := by
  obtain ⟨s₂, o, h1, r⟩ := k
  exact ⟨s₂, o, st _ h1, r⟩
theorem Go.retI (X : Stand p l e R s m args below meth c T locs cells slots) (hx : p.tables.exec = Jvm.exec) {pc : Nat} {Ls : Array Slot} {z : Int32} {rest : List Value} (hret : meth.sig.returnType = some .int) (hlk : meth.locks = false) (hd : decode c.code pc = .ok (.ireturn, 1)) (hC : cells ≤ C) (hS : slots ≤ S) (eT : T.heap = h) (hQ : Q (some (.int z)) h locs) :
    Go p e below s Q C S (T.setTop (mkF m pc Ls (.int z :: rest))) := by
  obtain ⟨fs, hr, hrun, hended, hW, hsame⟩ := X.leave (v := some (.int z)) (fun h => by rw [hret] at h; cases h) hlk
  exact ⟨_, _, Jvm.RoadKit.retI X hx hret hd hr, hrun, hended, _, _, rfl, (show Q (some (.int z)) T.heap locs from eT ▸ hQ), ⟨_, rfl⟩, hW, hsame.mono hC hS⟩
theorem Go.retN (X : Stand p l e R s m args below meth c T locs cells slots) (hx : p.tables.exec = Jvm.exec) {pc : Nat} {Ls : Array Slot} {z : Int32} {t : FieldType} {rest : List Value} (hret : meth.sig.returnType = some t) (hlk : meth.locks = false) (ht : t = .boolean ∨ t = .byte ∨ t = .char ∨ t = .short) (hd : decode c.code pc = .ok (.ireturn, 1)) (hC : cells ≤ C) (hS : slots ≤ S) (eT : T.heap = h) (hQ : Q (some (.int (nar t z))) h locs) :
    Go p e below s Q C S (T.setTop (mkF m pc Ls (.int z :: rest))) := by
  obtain ⟨fs, hr, hrun, hended, hW, hsame⟩ := X.leave (v := some (.int (nar t z))) (fun h => by rw [hret] at h; cases h) hlk
  exact ⟨_, _, Jvm.RoadKit.retN X hx hret ht hd hr, hrun, hended, _, _, rfl, (show Q (some (.int (nar t z))) T.heap locs from eT ▸ hQ), ⟨_, rfl⟩, hW, hsame.mono hC hS⟩
theorem Go.ret (X : Stand p l e R s m args below meth c T locs cells slots) (hx : p.tables.exec = Jvm.exec) {pc : Nat} {Ls : Array Slot} (hret : meth.sig.returnType = none) (hlk : meth.locks = false) (hd : decode c.code pc = .ok (.return_, 1)) (hC : cells ≤ C) (hS : slots ≤ S) (eT : T.heap = h) (hQ : Q none h locs) :
    Go p e below s Q C S (T.setTop (mkF m pc Ls [])) := by
  obtain ⟨fs, hr, hrun, hended, hW, hsame⟩ := X.leave (v := none) (fun _ => rfl) hlk
  exact ⟨_, _, X.returnOut hx hret hd hr, hrun, hended, _, _, rfl, (show Q none T.heap locs from eT ▸ hQ), ⟨_, rfl⟩, hW, hsame.mono hC hS⟩
theorem Go.retJ (X : Stand p l e R s m args below meth c T locs cells slots) (hx : p.tables.exec = Jvm.exec) {pc : Nat} {Ls : Array Slot} {z : Int64} {rest : List Value} (hret : meth.sig.returnType = some .long) (hlk : meth.locks = false) (hd : decode c.code pc = .ok (.lreturn, 1)) (hC : cells ≤ C) (hS : slots ≤ S) (eT : T.heap = h) (hQ : Q (some (.long z)) h locs) :
    Go p e below s Q C S (T.setTop (mkF m pc Ls (.long z :: rest))) := by
  obtain ⟨fs, hr, hrun, hended, hW, hsame⟩ := X.leave (v := some (.long z)) (fun h => by rw [hret] at h; cases h) hlk
  exact ⟨_, _, retOut X hx hret rfl (Or.inr (Or.inl ⟨rfl, rfl, _, rfl⟩)) hd hr, hrun, hended, _, _, rfl, (show Q (some (.long z)) T.heap locs from eT ▸ hQ), ⟨_, rfl⟩, hW, hsame.mono hC hS⟩
theorem Go.retA (X : Stand p l e R s m args below meth c T locs cells slots) (hx : p.tables.exec = Jvm.exec) {pc : Nat} {Ls : Array Slot} {z : Addr} {t : FieldType} {rest : List Value} (hret : meth.sig.returnType = some t) (hlk : meth.locks = false) (ht : t.isReference = true) (hd : decode c.code pc = .ok (.areturn, 1)) (hC : cells ≤ C) (hS : slots ≤ S) (eT : T.heap = h) (hQ : Q (some (.ref z)) h locs) :
    Go p e below s Q C S (T.setTop (mkF m pc Ls (.ref z :: rest))) := by
  obtain ⟨fs, hr, hrun, hended, hW, hsame⟩ := X.leave (v := some (.ref z)) (fun h => by rw [hret] at h; cases h) hlk
  exact ⟨_, _, retOut X hx hret (by cases t <;> first | rfl | cases ht) (Or.inr (Or.inr (Or.inr (Or.inr ⟨rfl, ht, rfl⟩)))) hd hr, hrun, hended, _, _, rfl, (show Q (some (.ref z)) T.heap locs from eT ▸ hQ), ⟨_, rfl⟩, hW, hsame.mono hC hS⟩
end OwnGo
theorem own_irr (x : Int32) : ¬ x < x := by rw [Int32.lt_iff_toInt_lt]; omega
theorem own_irrL (x : Int64) : ¬ x < x := by rw [Int64.lt_iff_toInt_lt]; omega
theorem own_lrem {p : Program} {l : Launch} {e : Env} {R : Room} {s : State} {m : MethodId} {args : Array Value} {below : List Frame} {meth : Method} {c : Code} {T target : State} {locs : List Loc} {cells slots : Nat} {g : JFrame} (X : Stand p l e R s m args below meth c T locs cells slots) (hx : p.tables.exec = Jvm.exec) (hg : g.method = m) {x y : Int64} {rest : List Value} (hd : decode c.code g.pc = .ok (.lrem, 1)) (hs : g.stack = .long y :: .long x :: rest) (hy : y ≠ 0)
    (hr : Steps p.tables e below (T.setTop { g with pc := g.pc + 1, stack := .long (x % y) :: rest }) target) : Steps p.tables e below (T.setTop g) target :=
  XS.lrem X.here hx hg hd hs hy (by rw [lrem_mod]; exact hr)
theorem own_int {c : Cell} {vs : List Value} {d : Value} {j z : Int32} (H : Has c vs d) (G : ∀ i, i < c.slots.size → fits .int (vs.getD i d) = true) (hin : ¬ (j < 0 ∨ c.slots.size ≤ j.toNatClampNeg)) : ∃ x : Int32, c.slots[j.toNatClampNeg]? = some (.int x) := by
  have hk : j.toNatClampNeg < c.slots.size := Nat.lt_of_not_le fun q => hin (Or.inr q)
  have h1 := H _ hk
  have h2 := G _ hk
  cases hv : vs.getD j.toNatClampNeg d with
  | int x => exact ⟨x, by rw [h1, hv]⟩
  | _ => rw [hv] at h2; simp [fits] at h2
theorem d1_0 : decode prog_7_method_4_code 0 = .ok (.iload_n 2, 1) := by decide +kernel
theorem d1_1 : decode prog_7_method_4_code 1 = .ok (.ifCond .eq 53, 3) := by decide +kernel
theorem d1_54 : decode prog_7_method_4_code 54 = .ok (.aload_n 0, 1) := by decide +kernel
theorem d1_55 : decode prog_7_method_4_code 55 = .ok (.iload_n 1, 1) := by decide +kernel
theorem d1_56 : decode prog_7_method_4_code 56 = .ok (.baload, 1) := by decide +kernel
theorem d1_57 : decode prog_7_method_4_code 57 = .ok (.sipush 255, 3) := by decide +kernel
theorem d1_60 : decode prog_7_method_4_code 60 = .ok (.iand, 1) := by decide +kernel
theorem d1_61 : decode prog_7_method_4_code 61 = .ok (.aload_n 0, 1) := by decide +kernel
theorem d1_62 : decode prog_7_method_4_code 62 = .ok (.iload_n 1, 1) := by decide +kernel
theorem d1_63 : decode prog_7_method_4_code 63 = .ok (.iconst 1, 1) := by decide +kernel
theorem d1_64 : decode prog_7_method_4_code 64 = .ok (.iadd, 1) := by decide +kernel
theorem d1_65 : decode prog_7_method_4_code 65 = .ok (.baload, 1) := by decide +kernel
theorem d1_66 : decode prog_7_method_4_code 66 = .ok (.sipush 255, 3) := by decide +kernel
theorem d1_69 : decode prog_7_method_4_code 69 = .ok (.iand, 1) := by decide +kernel
theorem d1_70 : decode prog_7_method_4_code 70 = .ok (.bipush 8, 2) := by decide +kernel
theorem d1_72 : decode prog_7_method_4_code 72 = .ok (.ishl, 1) := by decide +kernel
theorem d1_73 : decode prog_7_method_4_code 73 = .ok (.ior, 1) := by decide +kernel
theorem d1_74 : decode prog_7_method_4_code 74 = .ok (.aload_n 0, 1) := by decide +kernel
theorem d1_75 : decode prog_7_method_4_code 75 = .ok (.iload_n 1, 1) := by decide +kernel
theorem d1_76 : decode prog_7_method_4_code 76 = .ok (.iconst 2, 1) := by decide +kernel
theorem d1_77 : decode prog_7_method_4_code 77 = .ok (.iadd, 1) := by decide +kernel
theorem d1_78 : decode prog_7_method_4_code 78 = .ok (.baload, 1) := by decide +kernel
theorem d1_79 : decode prog_7_method_4_code 79 = .ok (.sipush 255, 3) := by decide +kernel
theorem d1_82 : decode prog_7_method_4_code 82 = .ok (.iand, 1) := by decide +kernel
theorem d1_83 : decode prog_7_method_4_code 83 = .ok (.bipush 16, 2) := by decide +kernel
theorem d1_85 : decode prog_7_method_4_code 85 = .ok (.ishl, 1) := by decide +kernel
theorem d1_86 : decode prog_7_method_4_code 86 = .ok (.ior, 1) := by decide +kernel
theorem d1_87 : decode prog_7_method_4_code 87 = .ok (.aload_n 0, 1) := by decide +kernel
theorem d1_88 : decode prog_7_method_4_code 88 = .ok (.iload_n 1, 1) := by decide +kernel
theorem d1_89 : decode prog_7_method_4_code 89 = .ok (.iconst 3, 1) := by decide +kernel
theorem d1_90 : decode prog_7_method_4_code 90 = .ok (.iadd, 1) := by decide +kernel
theorem d1_91 : decode prog_7_method_4_code 91 = .ok (.baload, 1) := by decide +kernel
theorem d1_92 : decode prog_7_method_4_code 92 = .ok (.sipush 255, 3) := by decide +kernel
theorem d1_95 : decode prog_7_method_4_code 95 = .ok (.iand, 1) := by decide +kernel
theorem d1_96 : decode prog_7_method_4_code 96 = .ok (.bipush 24, 2) := by decide +kernel
theorem d1_98 : decode prog_7_method_4_code 98 = .ok (.ishl, 1) := by decide +kernel
theorem d1_99 : decode prog_7_method_4_code 99 = .ok (.ior, 1) := by decide +kernel
theorem d1_100 : decode prog_7_method_4_code 100 = .ok (.istore_n 3, 1) := by decide +kernel
theorem d1_101 : decode prog_7_method_4_code 101 = .ok (.iload_n 3, 1) := by decide +kernel
theorem d1_102 : decode prog_7_method_4_code 102 = .ok (.ireturn, 1) := by decide +kernel
theorem d1_4 : decode prog_7_method_4_code 4 = .ok (.aload_n 0, 1) := by decide +kernel
theorem d1_5 : decode prog_7_method_4_code 5 = .ok (.iload_n 1, 1) := by decide +kernel
theorem d1_6 : decode prog_7_method_4_code 6 = .ok (.baload, 1) := by decide +kernel
theorem d1_7 : decode prog_7_method_4_code 7 = .ok (.sipush 255, 3) := by decide +kernel
theorem d1_10 : decode prog_7_method_4_code 10 = .ok (.iand, 1) := by decide +kernel
theorem d1_11 : decode prog_7_method_4_code 11 = .ok (.bipush 24, 2) := by decide +kernel
theorem d1_13 : decode prog_7_method_4_code 13 = .ok (.ishl, 1) := by decide +kernel
theorem d1_14 : decode prog_7_method_4_code 14 = .ok (.aload_n 0, 1) := by decide +kernel
theorem d1_15 : decode prog_7_method_4_code 15 = .ok (.iload_n 1, 1) := by decide +kernel
theorem d1_16 : decode prog_7_method_4_code 16 = .ok (.iconst 1, 1) := by decide +kernel
theorem d1_17 : decode prog_7_method_4_code 17 = .ok (.iadd, 1) := by decide +kernel
theorem d1_18 : decode prog_7_method_4_code 18 = .ok (.baload, 1) := by decide +kernel
theorem d1_19 : decode prog_7_method_4_code 19 = .ok (.sipush 255, 3) := by decide +kernel
theorem d1_22 : decode prog_7_method_4_code 22 = .ok (.iand, 1) := by decide +kernel
theorem d1_23 : decode prog_7_method_4_code 23 = .ok (.bipush 16, 2) := by decide +kernel
theorem d1_25 : decode prog_7_method_4_code 25 = .ok (.ishl, 1) := by decide +kernel
theorem d1_26 : decode prog_7_method_4_code 26 = .ok (.ior, 1) := by decide +kernel
theorem d1_27 : decode prog_7_method_4_code 27 = .ok (.aload_n 0, 1) := by decide +kernel
theorem d1_28 : decode prog_7_method_4_code 28 = .ok (.iload_n 1, 1) := by decide +kernel
theorem d1_29 : decode prog_7_method_4_code 29 = .ok (.iconst 2, 1) := by decide +kernel
theorem d1_30 : decode prog_7_method_4_code 30 = .ok (.iadd, 1) := by decide +kernel
theorem d1_31 : decode prog_7_method_4_code 31 = .ok (.baload, 1) := by decide +kernel
theorem d1_32 : decode prog_7_method_4_code 32 = .ok (.sipush 255, 3) := by decide +kernel
theorem d1_35 : decode prog_7_method_4_code 35 = .ok (.iand, 1) := by decide +kernel
theorem d1_36 : decode prog_7_method_4_code 36 = .ok (.bipush 8, 2) := by decide +kernel
theorem d1_38 : decode prog_7_method_4_code 38 = .ok (.ishl, 1) := by decide +kernel
theorem d1_39 : decode prog_7_method_4_code 39 = .ok (.ior, 1) := by decide +kernel
theorem d1_40 : decode prog_7_method_4_code 40 = .ok (.aload_n 0, 1) := by decide +kernel
theorem d1_41 : decode prog_7_method_4_code 41 = .ok (.iload_n 1, 1) := by decide +kernel
theorem d1_42 : decode prog_7_method_4_code 42 = .ok (.iconst 3, 1) := by decide +kernel
theorem d1_43 : decode prog_7_method_4_code 43 = .ok (.iadd, 1) := by decide +kernel
theorem d1_44 : decode prog_7_method_4_code 44 = .ok (.baload, 1) := by decide +kernel
theorem d1_45 : decode prog_7_method_4_code 45 = .ok (.sipush 255, 3) := by decide +kernel
theorem d1_48 : decode prog_7_method_4_code 48 = .ok (.iand, 1) := by decide +kernel
theorem d1_49 : decode prog_7_method_4_code 49 = .ok (.ior, 1) := by decide +kernel
theorem d1_50 : decode prog_7_method_4_code 50 = .ok (.istore_n 3, 1) := by decide +kernel
theorem d1_51 : decode prog_7_method_4_code 51 = .ok (.goto 50, 3) := by decide +kernel
theorem pn_com_example_nidra_nidra_dbus_Unmarshaller : plainName "com/example/nidra/nidra/dbus/Unmarshaller" = true := by first | (simp [plainName, overriddenIn]; done) | decide +kernel
theorem d2_0 : decode method_2_code 0 = .ok (.iload_n 0, 1) := by decide +kernel
theorem d2_1 : decode method_2_code 1 = .ok (.bipush 24, 2) := by decide +kernel
theorem d2_3 : decode method_2_code 3 = .ok (.iushr, 1) := by decide +kernel
theorem d2_4 : decode method_2_code 4 = .ok (.sipush 255, 3) := by decide +kernel
theorem d2_7 : decode method_2_code 7 = .ok (.iand, 1) := by decide +kernel
theorem d2_8 : decode method_2_code 8 = .ok (.iload_n 0, 1) := by decide +kernel
theorem d2_9 : decode method_2_code 9 = .ok (.bipush 16, 2) := by decide +kernel
theorem d2_11 : decode method_2_code 11 = .ok (.iushr, 1) := by decide +kernel
theorem d2_12 : decode method_2_code 12 = .ok (.sipush 255, 3) := by decide +kernel
theorem d2_15 : decode method_2_code 15 = .ok (.iand, 1) := by decide +kernel
theorem d2_16 : decode method_2_code 16 = .ok (.bipush 8, 2) := by decide +kernel
theorem d2_18 : decode method_2_code 18 = .ok (.ishl, 1) := by decide +kernel
theorem d2_19 : decode method_2_code 19 = .ok (.ior, 1) := by decide +kernel
theorem d2_20 : decode method_2_code 20 = .ok (.iload_n 0, 1) := by decide +kernel
theorem d2_21 : decode method_2_code 21 = .ok (.bipush 8, 2) := by decide +kernel
theorem d2_23 : decode method_2_code 23 = .ok (.iushr, 1) := by decide +kernel
theorem d2_24 : decode method_2_code 24 = .ok (.sipush 255, 3) := by decide +kernel
theorem d2_27 : decode method_2_code 27 = .ok (.iand, 1) := by decide +kernel
theorem d2_28 : decode method_2_code 28 = .ok (.bipush 16, 2) := by decide +kernel
theorem d2_30 : decode method_2_code 30 = .ok (.ishl, 1) := by decide +kernel
theorem d2_31 : decode method_2_code 31 = .ok (.ior, 1) := by decide +kernel
theorem d2_32 : decode method_2_code 32 = .ok (.iload_n 0, 1) := by decide +kernel
theorem d2_33 : decode method_2_code 33 = .ok (.sipush 255, 3) := by decide +kernel
theorem d2_36 : decode method_2_code 36 = .ok (.iand, 1) := by decide +kernel
theorem d2_37 : decode method_2_code 37 = .ok (.bipush 24, 2) := by decide +kernel
theorem d2_39 : decode method_2_code 39 = .ok (.ishl, 1) := by decide +kernel
theorem d2_40 : decode method_2_code 40 = .ok (.ior, 1) := by decide +kernel
theorem d2_41 : decode method_2_code 41 = .ok (.ireturn, 1) := by decide +kernel
theorem pn_com_example_nidra_nidra_dbus_UnmarshallerUint32PinLaw : plainName "com/example/nidra/nidra/dbus/UnmarshallerUint32PinLaw" = true := by first | (simp [plainName, overriddenIn]; done) | decide +kernel
theorem pd_285bBIZ29I : parseMethodDescriptor "([BIZ)I" = some ⟨[(.array .byte), .int, .boolean], some .int⟩ := by decide +kernel
theorem pd_28I29I : parseMethodDescriptor "(I)I" = some ⟨[.int], some .int⟩ := by decide +kernel
section OwnBytes
variable {Z : State} {h h' : Heap} {a b : Addr} {n : Int} {f : Int32 → Int32} {ws : List Addr} {sl : Nat} {v : Value}
/-- at a lies a byte array of n places; place j holds f j -/
def own_By (Z : State) (h : Heap) (a : Addr) (n : Int) (f : Int32 → Int32) : Prop := ∃ c : Cell, Arr Z h a c .byte ∧ (c.slots.size : Int) = n ∧ ∀ j : Int32, ¬ j < 0 → j.toInt < n → c.slots[j.toNatClampNeg]? = some (.int (f j))
theorem own_By.ext (B : own_By Z h a n f) (E : Ext h h') : own_By Z h' a n f := by
  obtain ⟨c, A, r⟩ := B
  exact ⟨c, A.ext E, r⟩
theorem own_By.other (B : own_By Z h b n f) (W : Wr h h' a sl v) (q : b ≠ a) : own_By Z h' b n f := by
  obtain ⟨c, A, r⟩ := B
  exact ⟨c, A.other W q, r⟩
theorem own_By.keep (B : own_By Z h a n f) (K : Keep h h' ws) (q : a ∉ ws) : own_By Z h' a n f := by
  obtain ⟨c, A, r⟩ := B
  exact ⟨c, ⟨K.2.1 a c A.1 q, A.2⟩, r⟩
theorem own_By.lt (B : own_By Z h a n f) : a < h.size := by
  obtain ⟨c, A, r⟩ := B
  exact A.lt
theorem own_nneg {j : Int32} (h : ¬ j < 0) : 0 ≤ j.toInt := by
  rw [Int32.lt_iff_toInt_lt] at h
  have e0 : (0 : Int32).toInt = 0 := rfl
  omega
theorem own_by_in {c : Cell} {j : Int32} (hs : (c.slots.size : Int) = n) (h1 : ¬ j < 0) (h2 : j.toInt < n) : ¬ (j < 0 ∨ c.slots.size ≤ j.toNatClampNeg) := by
  have h3 := own_nneg h1
  rintro (q | q)
  · exact h1 q
  · simp only [Int32.toNatClampNeg] at q
    omega
def own_iv (v : Value) : Int32 := match v with
  | .int x => x
  | _ => 0
theorem own_by_of {k : ClassId} {z : Int32} {vs : List Value} {d : Value} (V : Arv Z h a k .byte z vs d) (hz : z.toInt = n) : ∃ f, own_By Z h a n f := by
  obtain ⟨c, A, -, S, M, H, G⟩ := V
  have h3 := own_nneg M
  have hs : (c.slots.size : Int) = n := by
    rw [S]
    simp only [Int32.toNatClampNeg]
    omega
  refine ⟨fun j => own_iv (vs.getD j.toNatClampNeg d), c, A, hs, fun j h1 h2 => ?_⟩
  have hk : j.toNatClampNeg < c.slots.size := Nat.lt_of_not_le fun q => own_by_in hs h1 h2 (Or.inr q)
  have e1 := H _ hk
  have e2 := G _ hk
  rw [e1]
  show some (vs.getD j.toNatClampNeg d) = some (.int (own_iv (vs.getD j.toNatClampNeg d)))
  cases hv : vs.getD j.toNatClampNeg d with
  | int x => rfl
  | _ => rw [hv] at e2; simp [fits] at e2
end OwnBytes
theorem own_inc {i p : Int32} (h : i < p) : (i + (1 : Int32)).toInt = i.toInt + 1 := by
  have h1 := c_iadd i (1 : Int32)
  have h2 := rng32 p
  have h3 := rng32 i
  have h4 := rng32 (i + (1 : Int32))
  have e1 : (1 : Int32).toInt = 1 := rfl
  rw [Int32.lt_iff_toInt_lt] at h
  omega
theorem own_intB {c : Cell} {vs : List Value} {d : Value} {j z : Int32} (H : Has c vs d) (G : ∀ i, i < c.slots.size → fits .byte (vs.getD i d) = true) (hin : ¬ (j < 0 ∨ c.slots.size ≤ j.toNatClampNeg)) : ∃ x : Int32, c.slots[j.toNatClampNeg]? = some (.int x) := by
  have hk : j.toNatClampNeg < c.slots.size := Nat.lt_of_not_le fun q => hin (Or.inr q)
  have h1 := H _ hk
  have h2 := G _ hk
  cases hv : vs.getD j.toNatClampNeg d with
  | int x => exact ⟨x, by rw [h1, hv]⟩
  | _ => rw [hv] at h2; simp [fits] at h2
def own_upd (f : Int32 → Int32) (j x : Int32) : Int32 → Int32 := fun i => if i = j then x else f i
theorem own_upd1 {f : Int32 → Int32} {j x i : Int32} (h : i = j) : own_upd f j x i = x := if_pos h
theorem own_upd0 {f : Int32 → Int32} {j x i : Int32} (h : ¬ i = j) : own_upd f j x i = f i := if_neg h
theorem own_By.set {Z : State} {h h' : Heap} {a : Addr} {n : Int} {f : Int32 → Int32} {j x : Int32} (B : own_By Z h a n f) (hj : ¬ j < 0) (W : Wr h h' a j.toNatClampNeg (.int x)) : own_By Z h' a n (own_upd f j x) := by
  obtain ⟨c, A, S, H⟩ := B
  refine ⟨_, A.same W, by rw [sz_set]; exact S, fun i h1 h2 => ?_⟩
  by_cases q : i = j
  · rw [own_upd1 q]
    refine get_hit ?_ q
    subst q
    exact own_by_in S h1 h2
  · rw [own_upd0 q, get_miss hj h1 q]
    exact H i h1 h2

def own_be (b0 b1 b2 b3 : Int32) : Int32 := (((((b0 &&& (255 : Int32)) <<< ((24 : Int32) &&& 31)) ||| ((b1 &&& (255 : Int32)) <<< ((16 : Int32) &&& 31))) ||| ((b2 &&& (255 : Int32)) <<< ((8 : Int32) &&& 31))) ||| (b3 &&& (255 : Int32)))
def own_le (b0 b1 b2 b3 : Int32) : Int32 := ((((b0 &&& (255 : Int32)) ||| ((b1 &&& (255 : Int32)) <<< ((8 : Int32) &&& 31))) ||| ((b2 &&& (255 : Int32)) <<< ((16 : Int32) &&& 31))) ||| ((b3 &&& (255 : Int32)) <<< ((24 : Int32) &&& 31)))
theorem own_kk {a k : Int32} (h : ¬ a < 0) (h3 : a.toInt ≤ 3) (hk0 : 0 ≤ k.toInt) (hk : k.toInt ≤ 3) : (a + k).toInt = a.toInt + k.toInt := by
  have h0 := own_nneg h
  have h1 := c_iadd a k
  have h2 := rng32 (a + k)
  omega
theorem own_kn {a k : Int32} (h : ¬ a < 0) (h3 : a.toInt ≤ 3) (hk0 : 0 ≤ k.toInt) (hk : k.toInt ≤ 3) : ¬ (a + k) < 0 := by
  have h0 := own_nneg h
  rw [Int32.lt_iff_toInt_lt, own_kk h h3 hk0 hk, show (0 : Int32).toInt = 0 from rfl]
  omega
theorem own_kl {a k : Int32} (h : ¬ a < 0) (h3 : a.toInt ≤ 3) (hk0 : 0 ≤ k.toInt) (hk : k.toInt ≤ 3) : (a + k).toInt < 8 := by
  rw [own_kk h h3 hk0 hk]
  omega
theorem own_k0 {a : Int32} (h3 : a.toInt ≤ 3) : a.toInt < 8 := by omega
theorem own_ne {a b : Int32} (h : ¬ a.toInt = b.toInt) : ¬ a = b := fun q => h (congrArg Int32.toInt q)
theorem own_u {f : Int32 → Int32} {a b0 b1 b2 b3 : Int32} (h : ¬ a < 0) (h3 : a.toInt ≤ 3) :
    own_upd (own_upd (own_upd (own_upd f a b0) (a + (1 : Int32)) b1) (a + (2 : Int32)) b2) (a + (3 : Int32)) b3 a = b0 ∧
    own_upd (own_upd (own_upd (own_upd f a b0) (a + (1 : Int32)) b1) (a + (2 : Int32)) b2) (a + (3 : Int32)) b3 (a + (1 : Int32)) = b1 ∧
    own_upd (own_upd (own_upd (own_upd f a b0) (a + (1 : Int32)) b1) (a + (2 : Int32)) b2) (a + (3 : Int32)) b3 (a + (2 : Int32)) = b2 ∧
    own_upd (own_upd (own_upd (own_upd f a b0) (a + (1 : Int32)) b1) (a + (2 : Int32)) b2) (a + (3 : Int32)) b3 (a + (3 : Int32)) = b3 := by
  have e1 : (1 : Int32).toInt = 1 := rfl
  have e2 : (2 : Int32).toInt = 2 := rfl
  have e3 : (3 : Int32).toInt = 3 := rfl
  have k1 := own_kk (k := (1 : Int32)) h h3 (by decide) (by decide)
  have k2 := own_kk (k := (2 : Int32)) h h3 (by decide) (by decide)
  have k3 := own_kk (k := (3 : Int32)) h h3 (by decide) (by decide)
  refine ⟨?_, ?_, ?_, ?_⟩
  · rw [own_upd0 (own_ne (by omega)), own_upd0 (own_ne (by omega)), own_upd0 (own_ne (by omega)), own_upd1 rfl]
  · rw [own_upd0 (own_ne (by omega)), own_upd0 (own_ne (by omega)), own_upd1 rfl]
  · rw [own_upd0 (own_ne (by omega)), own_upd1 rfl]
  · rw [own_upd1 rfl]
theorem own_255 (x : Int32) : (x &&& (255 : Int32)).toInt = x.toInt % 256 := c_mask x (255 : Int32) 8 (by decide) (by decide)
theorem own_be_val (b0 b1 b2 b3 : Int32) : ((own_be b0 b1 b2 b3).toInt - ((b0.toInt % 256) * 16777216 + (b1.toInt % 256) * 65536 + (b2.toInt % 256) * 256 + b3.toInt % 256)) % 4294967296 = 0 := by
  unfold own_be
  have a0 := own_255 b0; have a1 := own_255 b1; have a2 := own_255 b2; have a3 := own_255 b3
  have s0 := c_ishl (b0 &&& (255 : Int32)) (24 : Int32) 24 rfl
  have s1 := c_ishl (b1 &&& (255 : Int32)) (16 : Int32) 16 rfl
  have s2 := c_ishl (b2 &&& (255 : Int32)) (8 : Int32) 8 rfl
  generalize (b0 &&& (255 : Int32)) = y0 at *; generalize (b1 &&& (255 : Int32)) = y1 at *; generalize (b2 &&& (255 : Int32)) = y2 at *; generalize (b3 &&& (255 : Int32)) = y3 at *
  generalize (y0 <<< ((24 : Int32) &&& 31)) = z0 at *; generalize (y1 <<< ((16 : Int32) &&& 31)) = z1 at *; generalize (y2 <<< ((8 : Int32) &&& 31)) = z2 at *
  have r0 := rng32 z0; have r1 := rng32 z1; have r2 := rng32 z2
  have o1 := c_or z0 z1 24 (by decide) 16777216 rfl (by omega) (by omega) (by omega)
  have q1 := rng32 (z0 ||| z1)
  have o2 := c_or (z0 ||| z1) z2 16 (by decide) 65536 rfl (by omega) (by omega) (by omega)
  have q2 := rng32 ((z0 ||| z1) ||| z2)
  have o3 := c_or ((z0 ||| z1) ||| z2) y3 8 (by decide) 256 rfl (by omega) (by omega) (by omega)
  omega
theorem own_le_val (b0 b1 b2 b3 : Int32) : ((own_le b0 b1 b2 b3).toInt - ((b3.toInt % 256) * 16777216 + (b2.toInt % 256) * 65536 + (b1.toInt % 256) * 256 + b0.toInt % 256)) % 4294967296 = 0 := by
  unfold own_le
  have a0 := own_255 b0; have a1 := own_255 b1; have a2 := own_255 b2; have a3 := own_255 b3
  have s1 := c_ishl (b1 &&& (255 : Int32)) (8 : Int32) 8 rfl
  have s2 := c_ishl (b2 &&& (255 : Int32)) (16 : Int32) 16 rfl
  have s3 := c_ishl (b3 &&& (255 : Int32)) (24 : Int32) 24 rfl
  generalize (b0 &&& (255 : Int32)) = y0 at *; generalize (b1 &&& (255 : Int32)) = y1 at *; generalize (b2 &&& (255 : Int32)) = y2 at *; generalize (b3 &&& (255 : Int32)) = y3 at *
  generalize (y1 <<< ((8 : Int32) &&& 31)) = z1 at *; generalize (y2 <<< ((16 : Int32) &&& 31)) = z2 at *; generalize (y3 <<< ((24 : Int32) &&& 31)) = z3 at *
  have r1 := rng32 z1; have r2 := rng32 z2; have r3 := rng32 z3
  have o1 := c_or' y0 z1 8 (by decide) 256 rfl (by omega) (by omega) (by omega)
  have q1 := rng32 (y0 ||| z1)
  have o2 := c_or' (y0 ||| z1) z2 16 (by decide) 65536 rfl (by omega) (by omega) (by omega)
  have q2 := rng32 ((y0 ||| z1) ||| z2)
  have o3 := c_or' ((y0 ||| z1) ||| z2) z3 24 (by decide) 16777216 rfl (by omega) (by omega) (by omega)
  omega

theorem ef_rm1 (m : MethodId) (x0 : Addr) (x1 : Int32) (x2 : Int32) : entryFrame m #[(.ref x0), (.int x1), (.int x2)] 4 = mkF m 0 #[.val (.ref x0), .val (.int x1), .val (.int x2), .unset] [] := by first | (simp [entryFrame, mkF, argsToLocals, Value.category]; done) | rfl
def Q1 (Z : State) (a0 : Addr) (p1 : Int32) (p2 : Int32) (f : Int32 → Int32) (b0 : Int32) (b1 : Int32) (b2 : Int32) (b3 : Int32) (h0 : Heap) (n0 : Nat) (v : Option Value) (h : Heap) (L : List Loc) : Prop := v = some (.int (if p2 = (0 : Int32) then own_le b0 b1 b2 b3 else own_be b0 b1 b2 b3)) ∧ Fr n0 L ∧ h = h0
set_option maxRecDepth 65536 in
set_option maxHeartbeats 40000000 in
theorem rm1 (l : Launch) (Z : State) (aw : Array Value) (hw : ∀ d ∈ tables_1, d.before aw Z = true) (ws : List Jvm.Cond) (a0 : Addr) (p1 : Int32) (p2 : Int32) (f : Int32 → Int32) (b0 : Int32) (b1 : Int32) (b2 : Int32) (b3 : Int32) (h0 : Heap) (n0 : Nat) (Z0 : n0 ≤ h0.size) (B : own_By Z h0 a0 8 f) (hp : ¬ p1 < 0) (hp3 : p1.toInt ≤ 3) (hb0 : f p1 = b0) (hb1 : f (p1 + (1 : Int32)) = b1) (hb2 : f (p1 + (2 : Int32)) = b2) (hb3 : f (p1 + (3 : Int32)) = b3) :
    MetFree l (⟨"com/example/nidra/nidra/dbus/Unmarshaller", "uint32", "([BIZ)I"⟩ : MethodName) (head1 (Jvm.Cond.code (⟨"com/example/nidra/nidra/dbus/Unmarshaller", "uint32", "([BIZ)I"⟩ : MethodName) prog_7_method_4_code 4 (some .int) :: ws) ({ frames := 0, cells := 0, slots := 0, locals := 0 } : Room)) (fun a U => a = #[(.ref a0), (.int p1), (.int p2)] ∧ Z.Warmed39 U.vm ∧ U.heap = h0) (fun _ _ _ _ _ => True) (fun _ U o U' => ∃ v L, o = .returned v ∧ Q1 Z a0 p1 p2 f b0 b1 b2 b3 h0 n0 v U'.heap L ∧ FrameEnd U o U' L ({ frames := 0, cells := 0, slots := 0, locals := 0 } : Room).cells ({ frames := 0, cells := 0, slots := 0, locals := 0 } : Room).slots) := by
  refine MetFree.of_bodySF (plainFor_of_name pn_com_example_nidra_nidra_dbus_Unmarshaller) hisR ?_
  intro p e s m args below meth c s₁ Bd hml0 hP hK
  obtain ⟨rfl, hZ, hh⟩ := hP
  have hx := Bd.exec
  have hby := Bd.bytes
  have hml : c.maxLocals = 4 := hml0
  have hown : s.vm.findClass "com/example/nidra/nidra/dbus/Unmarshaller" = some m.cls := findClass_of_methodNamed Bd.named
  have hnm := (name_of_methodNamed Bd.named Bd.method).1
  have X0 : Stand p l e ({ frames := 0, cells := 0, slots := 0, locals := 0 } : Room) s m #[(.ref a0), (.int p1), (.int p2)] below meth c s₁ [] 0 0 := Stand.of_body Bd
  have e0 : s₁.heap = h0 := by rw [← hh, Bd.state]; rfl
  have N0 := Fr.nil n0
  refine own_go (Q := Q1 Z a0 p1 p2 f b0 b1 b2 b3 h0 n0) ?_
  refine Go.to (g' := (mkF m 0 #[.val (.ref a0), .val (.int p1), .val (.int p2), .unset] [])) (fun t k => castTop (ef_rm1 m a0 p1 p2) k) ?_
  refine Go.to (g' := (mkF m 1 #[.val (.ref a0), .val (.int p1), .val (.int p2), .unset] [(.int p2)])) (fun t k => XS.iloadN X0.here hx rfl (hb hby d1_0) rfl k) ?_
  by_cases c1 : p2 = (0 : Int32)
  · refine Go.to (g' := (mkF m 54 #[.val (.ref a0), .val (.int p1), .val (.int p2), .unset] [])) (fun t k => XS.ifYes X0.here hx rfl (pc0 := 1) (pc' := 54) rfl (hb hby d1_1) rfl ((if0 _ _).trans (teq c1).1) (by decide) (by decide) k) ?_
    refine Go.to (g' := (mkF m 55 #[.val (.ref a0), .val (.int p1), .val (.int p2), .unset] [(.ref a0)])) (fun t k => XS.aloadN X0.here hx rfl (hb hby d1_54) rfl rfl k) ?_
    refine Go.to (g' := (mkF m 56 #[.val (.ref a0), .val (.int p1), .val (.int p2), .unset] [(.int p1), (.ref a0)])) (fun t k => XS.iloadN X0.here hx rfl (hb hby d1_55) rfl k) ?_
    obtain ⟨cl2, Ar2, Sz2, Hf2⟩ := id B
    refine Go.to (g' := (mkF m 57 #[.val (.ref a0), .val (.int p1), .val (.int p2), .unset] [(.int (f p1))])) (fun t k => X0.baloadBytes hx (j := p1) (v := (.int (f p1))) (by rw [e0]; exact Ar2.1) (State.isArrayOf_alike hZ.alike Ar2.2.1) Ar2.2.2 (own_by_in Sz2 hp (own_k0 hp3)) (Hf2 _ hp (own_k0 hp3)) (g := (mkF m 56 #[.val (.ref a0), .val (.int p1), .val (.int p2), .unset] [(.int p1), (.ref a0)])) rfl rfl (hb hby d1_56) _ k) ?_
    rw [show (f p1) = b0 from hb0]
    refine Go.to (g' := (mkF m 60 #[.val (.ref a0), .val (.int p1), .val (.int p2), .unset] [(.int (255 : Int32)), (.int b0)])) (fun t k => XS.sipush X0.here hx rfl (hb hby d1_57) k) ?_
    refine Go.to (g' := (mkF m 61 #[.val (.ref a0), .val (.int p1), .val (.int p2), .unset] [(.int (b0 &&& (255 : Int32)))])) (fun t k => XS.iand X0.here hx rfl (hb hby d1_60) rfl k) ?_
    refine Go.to (g' := (mkF m 62 #[.val (.ref a0), .val (.int p1), .val (.int p2), .unset] [(.ref a0), (.int (b0 &&& (255 : Int32)))])) (fun t k => XS.aloadN X0.here hx rfl (hb hby d1_61) rfl rfl k) ?_
    refine Go.to (g' := (mkF m 63 #[.val (.ref a0), .val (.int p1), .val (.int p2), .unset] [(.int p1), (.ref a0), (.int (b0 &&& (255 : Int32)))])) (fun t k => XS.iloadN X0.here hx rfl (hb hby d1_62) rfl k) ?_
    refine Go.to (g' := (mkF m 64 #[.val (.ref a0), .val (.int p1), .val (.int p2), .unset] [(.int (1 : Int32)), (.int p1), (.ref a0), (.int (b0 &&& (255 : Int32)))])) (fun t k => XS.iconst X0.here hx rfl (hb hby d1_63) k) ?_
    refine Go.to (g' := (mkF m 65 #[.val (.ref a0), .val (.int p1), .val (.int p2), .unset] [(.int (p1 + (1 : Int32))), (.ref a0), (.int (b0 &&& (255 : Int32)))])) (fun t k => XS.iadd X0.here hx rfl (hb hby d1_64) rfl k) ?_
    obtain ⟨cl3, Ar3, Sz3, Hf3⟩ := id B
    refine Go.to (g' := (mkF m 66 #[.val (.ref a0), .val (.int p1), .val (.int p2), .unset] [(.int (f (p1 + (1 : Int32)))), (.int (b0 &&& (255 : Int32)))])) (fun t k => X0.baloadBytes hx (j := (p1 + (1 : Int32))) (v := (.int (f (p1 + (1 : Int32))))) (by rw [e0]; exact Ar3.1) (State.isArrayOf_alike hZ.alike Ar3.2.1) Ar3.2.2 (own_by_in Sz3 (own_kn hp hp3 (by decide) (by decide)) (own_kl hp hp3 (by decide) (by decide))) (Hf3 _ (own_kn hp hp3 (by decide) (by decide)) (own_kl hp hp3 (by decide) (by decide))) (g := (mkF m 65 #[.val (.ref a0), .val (.int p1), .val (.int p2), .unset] [(.int (p1 + (1 : Int32))), (.ref a0), (.int (b0 &&& (255 : Int32)))])) rfl rfl (hb hby d1_65) _ k) ?_
    rw [show (f (p1 + (1 : Int32))) = b1 from hb1]
    refine Go.to (g' := (mkF m 69 #[.val (.ref a0), .val (.int p1), .val (.int p2), .unset] [(.int (255 : Int32)), (.int b1), (.int (b0 &&& (255 : Int32)))])) (fun t k => XS.sipush X0.here hx rfl (hb hby d1_66) k) ?_
    refine Go.to (g' := (mkF m 70 #[.val (.ref a0), .val (.int p1), .val (.int p2), .unset] [(.int (b1 &&& (255 : Int32))), (.int (b0 &&& (255 : Int32)))])) (fun t k => XS.iand X0.here hx rfl (hb hby d1_69) rfl k) ?_
    refine Go.to (g' := (mkF m 72 #[.val (.ref a0), .val (.int p1), .val (.int p2), .unset] [(.int (8 : Int32)), (.int (b1 &&& (255 : Int32))), (.int (b0 &&& (255 : Int32)))])) (fun t k => XS.bipush X0.here hx rfl (hb hby d1_70) k) ?_
    refine Go.to (g' := (mkF m 73 #[.val (.ref a0), .val (.int p1), .val (.int p2), .unset] [(.int ((b1 &&& (255 : Int32)) <<< ((8 : Int32) &&& 31))), (.int (b0 &&& (255 : Int32)))])) (fun t k => XS.ishl X0.here hx rfl (hb hby d1_72) rfl k) ?_
    refine Go.to (g' := (mkF m 74 #[.val (.ref a0), .val (.int p1), .val (.int p2), .unset] [(.int ((b0 &&& (255 : Int32)) ||| ((b1 &&& (255 : Int32)) <<< ((8 : Int32) &&& 31))))])) (fun t k => XS.ior X0.here hx rfl (hb hby d1_73) rfl k) ?_
    refine Go.to (g' := (mkF m 75 #[.val (.ref a0), .val (.int p1), .val (.int p2), .unset] [(.ref a0), (.int ((b0 &&& (255 : Int32)) ||| ((b1 &&& (255 : Int32)) <<< ((8 : Int32) &&& 31))))])) (fun t k => XS.aloadN X0.here hx rfl (hb hby d1_74) rfl rfl k) ?_
    refine Go.to (g' := (mkF m 76 #[.val (.ref a0), .val (.int p1), .val (.int p2), .unset] [(.int p1), (.ref a0), (.int ((b0 &&& (255 : Int32)) ||| ((b1 &&& (255 : Int32)) <<< ((8 : Int32) &&& 31))))])) (fun t k => XS.iloadN X0.here hx rfl (hb hby d1_75) rfl k) ?_
    refine Go.to (g' := (mkF m 77 #[.val (.ref a0), .val (.int p1), .val (.int p2), .unset] [(.int (2 : Int32)), (.int p1), (.ref a0), (.int ((b0 &&& (255 : Int32)) ||| ((b1 &&& (255 : Int32)) <<< ((8 : Int32) &&& 31))))])) (fun t k => XS.iconst X0.here hx rfl (hb hby d1_76) k) ?_
    refine Go.to (g' := (mkF m 78 #[.val (.ref a0), .val (.int p1), .val (.int p2), .unset] [(.int (p1 + (2 : Int32))), (.ref a0), (.int ((b0 &&& (255 : Int32)) ||| ((b1 &&& (255 : Int32)) <<< ((8 : Int32) &&& 31))))])) (fun t k => XS.iadd X0.here hx rfl (hb hby d1_77) rfl k) ?_
    obtain ⟨cl4, Ar4, Sz4, Hf4⟩ := id B
    refine Go.to (g' := (mkF m 79 #[.val (.ref a0), .val (.int p1), .val (.int p2), .unset] [(.int (f (p1 + (2 : Int32)))), (.int ((b0 &&& (255 : Int32)) ||| ((b1 &&& (255 : Int32)) <<< ((8 : Int32) &&& 31))))])) (fun t k => X0.baloadBytes hx (j := (p1 + (2 : Int32))) (v := (.int (f (p1 + (2 : Int32))))) (by rw [e0]; exact Ar4.1) (State.isArrayOf_alike hZ.alike Ar4.2.1) Ar4.2.2 (own_by_in Sz4 (own_kn hp hp3 (by decide) (by decide)) (own_kl hp hp3 (by decide) (by decide))) (Hf4 _ (own_kn hp hp3 (by decide) (by decide)) (own_kl hp hp3 (by decide) (by decide))) (g := (mkF m 78 #[.val (.ref a0), .val (.int p1), .val (.int p2), .unset] [(.int (p1 + (2 : Int32))), (.ref a0), (.int ((b0 &&& (255 : Int32)) ||| ((b1 &&& (255 : Int32)) <<< ((8 : Int32) &&& 31))))])) rfl rfl (hb hby d1_78) _ k) ?_
    rw [show (f (p1 + (2 : Int32))) = b2 from hb2]
    refine Go.to (g' := (mkF m 82 #[.val (.ref a0), .val (.int p1), .val (.int p2), .unset] [(.int (255 : Int32)), (.int b2), (.int ((b0 &&& (255 : Int32)) ||| ((b1 &&& (255 : Int32)) <<< ((8 : Int32) &&& 31))))])) (fun t k => XS.sipush X0.here hx rfl (hb hby d1_79) k) ?_
    refine Go.to (g' := (mkF m 83 #[.val (.ref a0), .val (.int p1), .val (.int p2), .unset] [(.int (b2 &&& (255 : Int32))), (.int ((b0 &&& (255 : Int32)) ||| ((b1 &&& (255 : Int32)) <<< ((8 : Int32) &&& 31))))])) (fun t k => XS.iand X0.here hx rfl (hb hby d1_82) rfl k) ?_
    refine Go.to (g' := (mkF m 85 #[.val (.ref a0), .val (.int p1), .val (.int p2), .unset] [(.int (16 : Int32)), (.int (b2 &&& (255 : Int32))), (.int ((b0 &&& (255 : Int32)) ||| ((b1 &&& (255 : Int32)) <<< ((8 : Int32) &&& 31))))])) (fun t k => XS.bipush X0.here hx rfl (hb hby d1_83) k) ?_
    refine Go.to (g' := (mkF m 86 #[.val (.ref a0), .val (.int p1), .val (.int p2), .unset] [(.int ((b2 &&& (255 : Int32)) <<< ((16 : Int32) &&& 31))), (.int ((b0 &&& (255 : Int32)) ||| ((b1 &&& (255 : Int32)) <<< ((8 : Int32) &&& 31))))])) (fun t k => XS.ishl X0.here hx rfl (hb hby d1_85) rfl k) ?_
    refine Go.to (g' := (mkF m 87 #[.val (.ref a0), .val (.int p1), .val (.int p2), .unset] [(.int (((b0 &&& (255 : Int32)) ||| ((b1 &&& (255 : Int32)) <<< ((8 : Int32) &&& 31))) ||| ((b2 &&& (255 : Int32)) <<< ((16 : Int32) &&& 31))))])) (fun t k => XS.ior X0.here hx rfl (hb hby d1_86) rfl k) ?_
    refine Go.to (g' := (mkF m 88 #[.val (.ref a0), .val (.int p1), .val (.int p2), .unset] [(.ref a0), (.int (((b0 &&& (255 : Int32)) ||| ((b1 &&& (255 : Int32)) <<< ((8 : Int32) &&& 31))) ||| ((b2 &&& (255 : Int32)) <<< ((16 : Int32) &&& 31))))])) (fun t k => XS.aloadN X0.here hx rfl (hb hby d1_87) rfl rfl k) ?_
    refine Go.to (g' := (mkF m 89 #[.val (.ref a0), .val (.int p1), .val (.int p2), .unset] [(.int p1), (.ref a0), (.int (((b0 &&& (255 : Int32)) ||| ((b1 &&& (255 : Int32)) <<< ((8 : Int32) &&& 31))) ||| ((b2 &&& (255 : Int32)) <<< ((16 : Int32) &&& 31))))])) (fun t k => XS.iloadN X0.here hx rfl (hb hby d1_88) rfl k) ?_
    refine Go.to (g' := (mkF m 90 #[.val (.ref a0), .val (.int p1), .val (.int p2), .unset] [(.int (3 : Int32)), (.int p1), (.ref a0), (.int (((b0 &&& (255 : Int32)) ||| ((b1 &&& (255 : Int32)) <<< ((8 : Int32) &&& 31))) ||| ((b2 &&& (255 : Int32)) <<< ((16 : Int32) &&& 31))))])) (fun t k => XS.iconst X0.here hx rfl (hb hby d1_89) k) ?_
    refine Go.to (g' := (mkF m 91 #[.val (.ref a0), .val (.int p1), .val (.int p2), .unset] [(.int (p1 + (3 : Int32))), (.ref a0), (.int (((b0 &&& (255 : Int32)) ||| ((b1 &&& (255 : Int32)) <<< ((8 : Int32) &&& 31))) ||| ((b2 &&& (255 : Int32)) <<< ((16 : Int32) &&& 31))))])) (fun t k => XS.iadd X0.here hx rfl (hb hby d1_90) rfl k) ?_
    obtain ⟨cl5, Ar5, Sz5, Hf5⟩ := id B
    refine Go.to (g' := (mkF m 92 #[.val (.ref a0), .val (.int p1), .val (.int p2), .unset] [(.int (f (p1 + (3 : Int32)))), (.int (((b0 &&& (255 : Int32)) ||| ((b1 &&& (255 : Int32)) <<< ((8 : Int32) &&& 31))) ||| ((b2 &&& (255 : Int32)) <<< ((16 : Int32) &&& 31))))])) (fun t k => X0.baloadBytes hx (j := (p1 + (3 : Int32))) (v := (.int (f (p1 + (3 : Int32))))) (by rw [e0]; exact Ar5.1) (State.isArrayOf_alike hZ.alike Ar5.2.1) Ar5.2.2 (own_by_in Sz5 (own_kn hp hp3 (by decide) (by decide)) (own_kl hp hp3 (by decide) (by decide))) (Hf5 _ (own_kn hp hp3 (by decide) (by decide)) (own_kl hp hp3 (by decide) (by decide))) (g := (mkF m 91 #[.val (.ref a0), .val (.int p1), .val (.int p2), .unset] [(.int (p1 + (3 : Int32))), (.ref a0), (.int (((b0 &&& (255 : Int32)) ||| ((b1 &&& (255 : Int32)) <<< ((8 : Int32) &&& 31))) ||| ((b2 &&& (255 : Int32)) <<< ((16 : Int32) &&& 31))))])) rfl rfl (hb hby d1_91) _ k) ?_
    rw [show (f (p1 + (3 : Int32))) = b3 from hb3]
    refine Go.to (g' := (mkF m 95 #[.val (.ref a0), .val (.int p1), .val (.int p2), .unset] [(.int (255 : Int32)), (.int b3), (.int (((b0 &&& (255 : Int32)) ||| ((b1 &&& (255 : Int32)) <<< ((8 : Int32) &&& 31))) ||| ((b2 &&& (255 : Int32)) <<< ((16 : Int32) &&& 31))))])) (fun t k => XS.sipush X0.here hx rfl (hb hby d1_92) k) ?_
    refine Go.to (g' := (mkF m 96 #[.val (.ref a0), .val (.int p1), .val (.int p2), .unset] [(.int (b3 &&& (255 : Int32))), (.int (((b0 &&& (255 : Int32)) ||| ((b1 &&& (255 : Int32)) <<< ((8 : Int32) &&& 31))) ||| ((b2 &&& (255 : Int32)) <<< ((16 : Int32) &&& 31))))])) (fun t k => XS.iand X0.here hx rfl (hb hby d1_95) rfl k) ?_
    refine Go.to (g' := (mkF m 98 #[.val (.ref a0), .val (.int p1), .val (.int p2), .unset] [(.int (24 : Int32)), (.int (b3 &&& (255 : Int32))), (.int (((b0 &&& (255 : Int32)) ||| ((b1 &&& (255 : Int32)) <<< ((8 : Int32) &&& 31))) ||| ((b2 &&& (255 : Int32)) <<< ((16 : Int32) &&& 31))))])) (fun t k => XS.bipush X0.here hx rfl (hb hby d1_96) k) ?_
    refine Go.to (g' := (mkF m 99 #[.val (.ref a0), .val (.int p1), .val (.int p2), .unset] [(.int ((b3 &&& (255 : Int32)) <<< ((24 : Int32) &&& 31))), (.int (((b0 &&& (255 : Int32)) ||| ((b1 &&& (255 : Int32)) <<< ((8 : Int32) &&& 31))) ||| ((b2 &&& (255 : Int32)) <<< ((16 : Int32) &&& 31))))])) (fun t k => XS.ishl X0.here hx rfl (hb hby d1_98) rfl k) ?_
    refine Go.to (g' := (mkF m 100 #[.val (.ref a0), .val (.int p1), .val (.int p2), .unset] [(.int ((((b0 &&& (255 : Int32)) ||| ((b1 &&& (255 : Int32)) <<< ((8 : Int32) &&& 31))) ||| ((b2 &&& (255 : Int32)) <<< ((16 : Int32) &&& 31))) ||| ((b3 &&& (255 : Int32)) <<< ((24 : Int32) &&& 31))))])) (fun t k => XS.ior X0.here hx rfl (hb hby d1_99) rfl k) ?_
    refine Go.to (g' := (mkF m 101 #[.val (.ref a0), .val (.int p1), .val (.int p2), .val (.int ((((b0 &&& (255 : Int32)) ||| ((b1 &&& (255 : Int32)) <<< ((8 : Int32) &&& 31))) ||| ((b2 &&& (255 : Int32)) <<< ((16 : Int32) &&& 31))) ||| ((b3 &&& (255 : Int32)) <<< ((24 : Int32) &&& 31))))] [])) (fun t k => XS.istoreN X0.here hx rfl (hb hby d1_100) rfl (l' := #[.val (.ref a0), .val (.int p1), .val (.int p2), .val (.int ((((b0 &&& (255 : Int32)) ||| ((b1 &&& (255 : Int32)) <<< ((8 : Int32) &&& 31))) ||| ((b2 &&& (255 : Int32)) <<< ((16 : Int32) &&& 31))) ||| ((b3 &&& (255 : Int32)) <<< ((24 : Int32) &&& 31))))]) rfl k) ?_
    refine Go.to (g' := (mkF m 102 #[.val (.ref a0), .val (.int p1), .val (.int p2), .val (.int ((((b0 &&& (255 : Int32)) ||| ((b1 &&& (255 : Int32)) <<< ((8 : Int32) &&& 31))) ||| ((b2 &&& (255 : Int32)) <<< ((16 : Int32) &&& 31))) ||| ((b3 &&& (255 : Int32)) <<< ((24 : Int32) &&& 31))))] [(.int ((((b0 &&& (255 : Int32)) ||| ((b1 &&& (255 : Int32)) <<< ((8 : Int32) &&& 31))) ||| ((b2 &&& (255 : Int32)) <<< ((16 : Int32) &&& 31))) ||| ((b3 &&& (255 : Int32)) <<< ((24 : Int32) &&& 31))))])) (fun t k => XS.iloadN X0.here hx rfl (hb hby d1_101) rfl k) ?_
    exact Go.retI X0 hx Bd.returns Bd.notSynchronized (hb hby d1_102) (by decide) (by decide) e0 ⟨by rw [if_pos c1]; rfl, N0, rfl⟩
  · refine Go.to (g' := (mkF m 4 #[.val (.ref a0), .val (.int p1), .val (.int p2), .unset] [])) (fun t k => XS.ifNo X0.here hx rfl (hb hby d1_1) rfl ((if0 _ _).trans (feq c1).1) k) ?_
    refine Go.to (g' := (mkF m 5 #[.val (.ref a0), .val (.int p1), .val (.int p2), .unset] [(.ref a0)])) (fun t k => XS.aloadN X0.here hx rfl (hb hby d1_4) rfl rfl k) ?_
    refine Go.to (g' := (mkF m 6 #[.val (.ref a0), .val (.int p1), .val (.int p2), .unset] [(.int p1), (.ref a0)])) (fun t k => XS.iloadN X0.here hx rfl (hb hby d1_5) rfl k) ?_
    obtain ⟨cl6, Ar6, Sz6, Hf6⟩ := id B
    refine Go.to (g' := (mkF m 7 #[.val (.ref a0), .val (.int p1), .val (.int p2), .unset] [(.int (f p1))])) (fun t k => X0.baloadBytes hx (j := p1) (v := (.int (f p1))) (by rw [e0]; exact Ar6.1) (State.isArrayOf_alike hZ.alike Ar6.2.1) Ar6.2.2 (own_by_in Sz6 hp (own_k0 hp3)) (Hf6 _ hp (own_k0 hp3)) (g := (mkF m 6 #[.val (.ref a0), .val (.int p1), .val (.int p2), .unset] [(.int p1), (.ref a0)])) rfl rfl (hb hby d1_6) _ k) ?_
    rw [show (f p1) = b0 from hb0]
    refine Go.to (g' := (mkF m 10 #[.val (.ref a0), .val (.int p1), .val (.int p2), .unset] [(.int (255 : Int32)), (.int b0)])) (fun t k => XS.sipush X0.here hx rfl (hb hby d1_7) k) ?_
    refine Go.to (g' := (mkF m 11 #[.val (.ref a0), .val (.int p1), .val (.int p2), .unset] [(.int (b0 &&& (255 : Int32)))])) (fun t k => XS.iand X0.here hx rfl (hb hby d1_10) rfl k) ?_
    refine Go.to (g' := (mkF m 13 #[.val (.ref a0), .val (.int p1), .val (.int p2), .unset] [(.int (24 : Int32)), (.int (b0 &&& (255 : Int32)))])) (fun t k => XS.bipush X0.here hx rfl (hb hby d1_11) k) ?_
    refine Go.to (g' := (mkF m 14 #[.val (.ref a0), .val (.int p1), .val (.int p2), .unset] [(.int ((b0 &&& (255 : Int32)) <<< ((24 : Int32) &&& 31)))])) (fun t k => XS.ishl X0.here hx rfl (hb hby d1_13) rfl k) ?_
    refine Go.to (g' := (mkF m 15 #[.val (.ref a0), .val (.int p1), .val (.int p2), .unset] [(.ref a0), (.int ((b0 &&& (255 : Int32)) <<< ((24 : Int32) &&& 31)))])) (fun t k => XS.aloadN X0.here hx rfl (hb hby d1_14) rfl rfl k) ?_
    refine Go.to (g' := (mkF m 16 #[.val (.ref a0), .val (.int p1), .val (.int p2), .unset] [(.int p1), (.ref a0), (.int ((b0 &&& (255 : Int32)) <<< ((24 : Int32) &&& 31)))])) (fun t k => XS.iloadN X0.here hx rfl (hb hby d1_15) rfl k) ?_
    refine Go.to (g' := (mkF m 17 #[.val (.ref a0), .val (.int p1), .val (.int p2), .unset] [(.int (1 : Int32)), (.int p1), (.ref a0), (.int ((b0 &&& (255 : Int32)) <<< ((24 : Int32) &&& 31)))])) (fun t k => XS.iconst X0.here hx rfl (hb hby d1_16) k) ?_
    refine Go.to (g' := (mkF m 18 #[.val (.ref a0), .val (.int p1), .val (.int p2), .unset] [(.int (p1 + (1 : Int32))), (.ref a0), (.int ((b0 &&& (255 : Int32)) <<< ((24 : Int32) &&& 31)))])) (fun t k => XS.iadd X0.here hx rfl (hb hby d1_17) rfl k) ?_
    obtain ⟨cl7, Ar7, Sz7, Hf7⟩ := id B
    refine Go.to (g' := (mkF m 19 #[.val (.ref a0), .val (.int p1), .val (.int p2), .unset] [(.int (f (p1 + (1 : Int32)))), (.int ((b0 &&& (255 : Int32)) <<< ((24 : Int32) &&& 31)))])) (fun t k => X0.baloadBytes hx (j := (p1 + (1 : Int32))) (v := (.int (f (p1 + (1 : Int32))))) (by rw [e0]; exact Ar7.1) (State.isArrayOf_alike hZ.alike Ar7.2.1) Ar7.2.2 (own_by_in Sz7 (own_kn hp hp3 (by decide) (by decide)) (own_kl hp hp3 (by decide) (by decide))) (Hf7 _ (own_kn hp hp3 (by decide) (by decide)) (own_kl hp hp3 (by decide) (by decide))) (g := (mkF m 18 #[.val (.ref a0), .val (.int p1), .val (.int p2), .unset] [(.int (p1 + (1 : Int32))), (.ref a0), (.int ((b0 &&& (255 : Int32)) <<< ((24 : Int32) &&& 31)))])) rfl rfl (hb hby d1_18) _ k) ?_
    rw [show (f (p1 + (1 : Int32))) = b1 from hb1]
    refine Go.to (g' := (mkF m 22 #[.val (.ref a0), .val (.int p1), .val (.int p2), .unset] [(.int (255 : Int32)), (.int b1), (.int ((b0 &&& (255 : Int32)) <<< ((24 : Int32) &&& 31)))])) (fun t k => XS.sipush X0.here hx rfl (hb hby d1_19) k) ?_
    refine Go.to (g' := (mkF m 23 #[.val (.ref a0), .val (.int p1), .val (.int p2), .unset] [(.int (b1 &&& (255 : Int32))), (.int ((b0 &&& (255 : Int32)) <<< ((24 : Int32) &&& 31)))])) (fun t k => XS.iand X0.here hx rfl (hb hby d1_22) rfl k) ?_
    refine Go.to (g' := (mkF m 25 #[.val (.ref a0), .val (.int p1), .val (.int p2), .unset] [(.int (16 : Int32)), (.int (b1 &&& (255 : Int32))), (.int ((b0 &&& (255 : Int32)) <<< ((24 : Int32) &&& 31)))])) (fun t k => XS.bipush X0.here hx rfl (hb hby d1_23) k) ?_
    refine Go.to (g' := (mkF m 26 #[.val (.ref a0), .val (.int p1), .val (.int p2), .unset] [(.int ((b1 &&& (255 : Int32)) <<< ((16 : Int32) &&& 31))), (.int ((b0 &&& (255 : Int32)) <<< ((24 : Int32) &&& 31)))])) (fun t k => XS.ishl X0.here hx rfl (hb hby d1_25) rfl k) ?_
    refine Go.to (g' := (mkF m 27 #[.val (.ref a0), .val (.int p1), .val (.int p2), .unset] [(.int (((b0 &&& (255 : Int32)) <<< ((24 : Int32) &&& 31)) ||| ((b1 &&& (255 : Int32)) <<< ((16 : Int32) &&& 31))))])) (fun t k => XS.ior X0.here hx rfl (hb hby d1_26) rfl k) ?_
    refine Go.to (g' := (mkF m 28 #[.val (.ref a0), .val (.int p1), .val (.int p2), .unset] [(.ref a0), (.int (((b0 &&& (255 : Int32)) <<< ((24 : Int32) &&& 31)) ||| ((b1 &&& (255 : Int32)) <<< ((16 : Int32) &&& 31))))])) (fun t k => XS.aloadN X0.here hx rfl (hb hby d1_27) rfl rfl k) ?_
    refine Go.to (g' := (mkF m 29 #[.val (.ref a0), .val (.int p1), .val (.int p2), .unset] [(.int p1), (.ref a0), (.int (((b0 &&& (255 : Int32)) <<< ((24 : Int32) &&& 31)) ||| ((b1 &&& (255 : Int32)) <<< ((16 : Int32) &&& 31))))])) (fun t k => XS.iloadN X0.here hx rfl (hb hby d1_28) rfl k) ?_
    refine Go.to (g' := (mkF m 30 #[.val (.ref a0), .val (.int p1), .val (.int p2), .unset] [(.int (2 : Int32)), (.int p1), (.ref a0), (.int (((b0 &&& (255 : Int32)) <<< ((24 : Int32) &&& 31)) ||| ((b1 &&& (255 : Int32)) <<< ((16 : Int32) &&& 31))))])) (fun t k => XS.iconst X0.here hx rfl (hb hby d1_29) k) ?_
    refine Go.to (g' := (mkF m 31 #[.val (.ref a0), .val (.int p1), .val (.int p2), .unset] [(.int (p1 + (2 : Int32))), (.ref a0), (.int (((b0 &&& (255 : Int32)) <<< ((24 : Int32) &&& 31)) ||| ((b1 &&& (255 : Int32)) <<< ((16 : Int32) &&& 31))))])) (fun t k => XS.iadd X0.here hx rfl (hb hby d1_30) rfl k) ?_
    obtain ⟨cl8, Ar8, Sz8, Hf8⟩ := id B
    refine Go.to (g' := (mkF m 32 #[.val (.ref a0), .val (.int p1), .val (.int p2), .unset] [(.int (f (p1 + (2 : Int32)))), (.int (((b0 &&& (255 : Int32)) <<< ((24 : Int32) &&& 31)) ||| ((b1 &&& (255 : Int32)) <<< ((16 : Int32) &&& 31))))])) (fun t k => X0.baloadBytes hx (j := (p1 + (2 : Int32))) (v := (.int (f (p1 + (2 : Int32))))) (by rw [e0]; exact Ar8.1) (State.isArrayOf_alike hZ.alike Ar8.2.1) Ar8.2.2 (own_by_in Sz8 (own_kn hp hp3 (by decide) (by decide)) (own_kl hp hp3 (by decide) (by decide))) (Hf8 _ (own_kn hp hp3 (by decide) (by decide)) (own_kl hp hp3 (by decide) (by decide))) (g := (mkF m 31 #[.val (.ref a0), .val (.int p1), .val (.int p2), .unset] [(.int (p1 + (2 : Int32))), (.ref a0), (.int (((b0 &&& (255 : Int32)) <<< ((24 : Int32) &&& 31)) ||| ((b1 &&& (255 : Int32)) <<< ((16 : Int32) &&& 31))))])) rfl rfl (hb hby d1_31) _ k) ?_
    rw [show (f (p1 + (2 : Int32))) = b2 from hb2]
    refine Go.to (g' := (mkF m 35 #[.val (.ref a0), .val (.int p1), .val (.int p2), .unset] [(.int (255 : Int32)), (.int b2), (.int (((b0 &&& (255 : Int32)) <<< ((24 : Int32) &&& 31)) ||| ((b1 &&& (255 : Int32)) <<< ((16 : Int32) &&& 31))))])) (fun t k => XS.sipush X0.here hx rfl (hb hby d1_32) k) ?_
    refine Go.to (g' := (mkF m 36 #[.val (.ref a0), .val (.int p1), .val (.int p2), .unset] [(.int (b2 &&& (255 : Int32))), (.int (((b0 &&& (255 : Int32)) <<< ((24 : Int32) &&& 31)) ||| ((b1 &&& (255 : Int32)) <<< ((16 : Int32) &&& 31))))])) (fun t k => XS.iand X0.here hx rfl (hb hby d1_35) rfl k) ?_
    refine Go.to (g' := (mkF m 38 #[.val (.ref a0), .val (.int p1), .val (.int p2), .unset] [(.int (8 : Int32)), (.int (b2 &&& (255 : Int32))), (.int (((b0 &&& (255 : Int32)) <<< ((24 : Int32) &&& 31)) ||| ((b1 &&& (255 : Int32)) <<< ((16 : Int32) &&& 31))))])) (fun t k => XS.bipush X0.here hx rfl (hb hby d1_36) k) ?_
    refine Go.to (g' := (mkF m 39 #[.val (.ref a0), .val (.int p1), .val (.int p2), .unset] [(.int ((b2 &&& (255 : Int32)) <<< ((8 : Int32) &&& 31))), (.int (((b0 &&& (255 : Int32)) <<< ((24 : Int32) &&& 31)) ||| ((b1 &&& (255 : Int32)) <<< ((16 : Int32) &&& 31))))])) (fun t k => XS.ishl X0.here hx rfl (hb hby d1_38) rfl k) ?_
    refine Go.to (g' := (mkF m 40 #[.val (.ref a0), .val (.int p1), .val (.int p2), .unset] [(.int ((((b0 &&& (255 : Int32)) <<< ((24 : Int32) &&& 31)) ||| ((b1 &&& (255 : Int32)) <<< ((16 : Int32) &&& 31))) ||| ((b2 &&& (255 : Int32)) <<< ((8 : Int32) &&& 31))))])) (fun t k => XS.ior X0.here hx rfl (hb hby d1_39) rfl k) ?_
    refine Go.to (g' := (mkF m 41 #[.val (.ref a0), .val (.int p1), .val (.int p2), .unset] [(.ref a0), (.int ((((b0 &&& (255 : Int32)) <<< ((24 : Int32) &&& 31)) ||| ((b1 &&& (255 : Int32)) <<< ((16 : Int32) &&& 31))) ||| ((b2 &&& (255 : Int32)) <<< ((8 : Int32) &&& 31))))])) (fun t k => XS.aloadN X0.here hx rfl (hb hby d1_40) rfl rfl k) ?_
    refine Go.to (g' := (mkF m 42 #[.val (.ref a0), .val (.int p1), .val (.int p2), .unset] [(.int p1), (.ref a0), (.int ((((b0 &&& (255 : Int32)) <<< ((24 : Int32) &&& 31)) ||| ((b1 &&& (255 : Int32)) <<< ((16 : Int32) &&& 31))) ||| ((b2 &&& (255 : Int32)) <<< ((8 : Int32) &&& 31))))])) (fun t k => XS.iloadN X0.here hx rfl (hb hby d1_41) rfl k) ?_
    refine Go.to (g' := (mkF m 43 #[.val (.ref a0), .val (.int p1), .val (.int p2), .unset] [(.int (3 : Int32)), (.int p1), (.ref a0), (.int ((((b0 &&& (255 : Int32)) <<< ((24 : Int32) &&& 31)) ||| ((b1 &&& (255 : Int32)) <<< ((16 : Int32) &&& 31))) ||| ((b2 &&& (255 : Int32)) <<< ((8 : Int32) &&& 31))))])) (fun t k => XS.iconst X0.here hx rfl (hb hby d1_42) k) ?_
    refine Go.to (g' := (mkF m 44 #[.val (.ref a0), .val (.int p1), .val (.int p2), .unset] [(.int (p1 + (3 : Int32))), (.ref a0), (.int ((((b0 &&& (255 : Int32)) <<< ((24 : Int32) &&& 31)) ||| ((b1 &&& (255 : Int32)) <<< ((16 : Int32) &&& 31))) ||| ((b2 &&& (255 : Int32)) <<< ((8 : Int32) &&& 31))))])) (fun t k => XS.iadd X0.here hx rfl (hb hby d1_43) rfl k) ?_
    obtain ⟨cl9, Ar9, Sz9, Hf9⟩ := id B
    refine Go.to (g' := (mkF m 45 #[.val (.ref a0), .val (.int p1), .val (.int p2), .unset] [(.int (f (p1 + (3 : Int32)))), (.int ((((b0 &&& (255 : Int32)) <<< ((24 : Int32) &&& 31)) ||| ((b1 &&& (255 : Int32)) <<< ((16 : Int32) &&& 31))) ||| ((b2 &&& (255 : Int32)) <<< ((8 : Int32) &&& 31))))])) (fun t k => X0.baloadBytes hx (j := (p1 + (3 : Int32))) (v := (.int (f (p1 + (3 : Int32))))) (by rw [e0]; exact Ar9.1) (State.isArrayOf_alike hZ.alike Ar9.2.1) Ar9.2.2 (own_by_in Sz9 (own_kn hp hp3 (by decide) (by decide)) (own_kl hp hp3 (by decide) (by decide))) (Hf9 _ (own_kn hp hp3 (by decide) (by decide)) (own_kl hp hp3 (by decide) (by decide))) (g := (mkF m 44 #[.val (.ref a0), .val (.int p1), .val (.int p2), .unset] [(.int (p1 + (3 : Int32))), (.ref a0), (.int ((((b0 &&& (255 : Int32)) <<< ((24 : Int32) &&& 31)) ||| ((b1 &&& (255 : Int32)) <<< ((16 : Int32) &&& 31))) ||| ((b2 &&& (255 : Int32)) <<< ((8 : Int32) &&& 31))))])) rfl rfl (hb hby d1_44) _ k) ?_
    rw [show (f (p1 + (3 : Int32))) = b3 from hb3]
    refine Go.to (g' := (mkF m 48 #[.val (.ref a0), .val (.int p1), .val (.int p2), .unset] [(.int (255 : Int32)), (.int b3), (.int ((((b0 &&& (255 : Int32)) <<< ((24 : Int32) &&& 31)) ||| ((b1 &&& (255 : Int32)) <<< ((16 : Int32) &&& 31))) ||| ((b2 &&& (255 : Int32)) <<< ((8 : Int32) &&& 31))))])) (fun t k => XS.sipush X0.here hx rfl (hb hby d1_45) k) ?_
    refine Go.to (g' := (mkF m 49 #[.val (.ref a0), .val (.int p1), .val (.int p2), .unset] [(.int (b3 &&& (255 : Int32))), (.int ((((b0 &&& (255 : Int32)) <<< ((24 : Int32) &&& 31)) ||| ((b1 &&& (255 : Int32)) <<< ((16 : Int32) &&& 31))) ||| ((b2 &&& (255 : Int32)) <<< ((8 : Int32) &&& 31))))])) (fun t k => XS.iand X0.here hx rfl (hb hby d1_48) rfl k) ?_
    refine Go.to (g' := (mkF m 50 #[.val (.ref a0), .val (.int p1), .val (.int p2), .unset] [(.int (((((b0 &&& (255 : Int32)) <<< ((24 : Int32) &&& 31)) ||| ((b1 &&& (255 : Int32)) <<< ((16 : Int32) &&& 31))) ||| ((b2 &&& (255 : Int32)) <<< ((8 : Int32) &&& 31))) ||| (b3 &&& (255 : Int32))))])) (fun t k => XS.ior X0.here hx rfl (hb hby d1_49) rfl k) ?_
    refine Go.to (g' := (mkF m 51 #[.val (.ref a0), .val (.int p1), .val (.int p2), .val (.int (((((b0 &&& (255 : Int32)) <<< ((24 : Int32) &&& 31)) ||| ((b1 &&& (255 : Int32)) <<< ((16 : Int32) &&& 31))) ||| ((b2 &&& (255 : Int32)) <<< ((8 : Int32) &&& 31))) ||| (b3 &&& (255 : Int32))))] [])) (fun t k => XS.istoreN X0.here hx rfl (hb hby d1_50) rfl (l' := #[.val (.ref a0), .val (.int p1), .val (.int p2), .val (.int (((((b0 &&& (255 : Int32)) <<< ((24 : Int32) &&& 31)) ||| ((b1 &&& (255 : Int32)) <<< ((16 : Int32) &&& 31))) ||| ((b2 &&& (255 : Int32)) <<< ((8 : Int32) &&& 31))) ||| (b3 &&& (255 : Int32))))]) rfl k) ?_
    refine Go.to (g' := (mkF m 101 #[.val (.ref a0), .val (.int p1), .val (.int p2), .val (.int (((((b0 &&& (255 : Int32)) <<< ((24 : Int32) &&& 31)) ||| ((b1 &&& (255 : Int32)) <<< ((16 : Int32) &&& 31))) ||| ((b2 &&& (255 : Int32)) <<< ((8 : Int32) &&& 31))) ||| (b3 &&& (255 : Int32))))] [])) (fun t k => XS.goto X0.here hx rfl (pc0 := 51) (pc' := 101) rfl (hb hby d1_51) (by decide) (by decide) k) ?_
    refine Go.to (g' := (mkF m 102 #[.val (.ref a0), .val (.int p1), .val (.int p2), .val (.int (((((b0 &&& (255 : Int32)) <<< ((24 : Int32) &&& 31)) ||| ((b1 &&& (255 : Int32)) <<< ((16 : Int32) &&& 31))) ||| ((b2 &&& (255 : Int32)) <<< ((8 : Int32) &&& 31))) ||| (b3 &&& (255 : Int32))))] [(.int (((((b0 &&& (255 : Int32)) <<< ((24 : Int32) &&& 31)) ||| ((b1 &&& (255 : Int32)) <<< ((16 : Int32) &&& 31))) ||| ((b2 &&& (255 : Int32)) <<< ((8 : Int32) &&& 31))) ||| (b3 &&& (255 : Int32))))])) (fun t k => XS.iloadN X0.here hx rfl (hb hby d1_101) rfl k) ?_
    exact Go.retI X0 hx Bd.returns Bd.notSynchronized (hb hby d1_102) (by decide) (by decide) e0 ⟨by rw [if_neg c1]; rfl, N0, rfl⟩

theorem ef_rm2 (m : MethodId) (x0 : Int32) : entryFrame m #[(.int x0)] 1 = mkF m 0 #[.val (.int x0)] [] := by first | (simp [entryFrame, mkF, argsToLocals, Value.category]; done) | rfl
def Q2 (Z : State) (p0 : Int32) (h0 : Heap) (n0 : Nat) (v : Option Value) (h : Heap) (L : List Loc) : Prop := v = some (.int (own_le ((p0.toUInt32 >>> ((24 : Int32) &&& 31).toUInt32).toInt32) ((p0.toUInt32 >>> ((16 : Int32) &&& 31).toUInt32).toInt32) ((p0.toUInt32 >>> ((8 : Int32) &&& 31).toUInt32).toInt32) p0)) ∧ Fr n0 L ∧ h = h0
set_option maxRecDepth 65536 in
set_option maxHeartbeats 40000000 in
theorem rm2 (l : Launch) (Z : State) (aw : Array Value) (hw : ∀ d ∈ tables_1, d.before aw Z = true) (ws : List Jvm.Cond) (p0 : Int32) (h0 : Heap) (n0 : Nat) (Z0 : n0 ≤ h0.size) :
    MetFree l (⟨"com/example/nidra/nidra/dbus/UnmarshallerUint32PinLaw", "reversed", "(I)I"⟩ : MethodName) (head1 (Jvm.Cond.code (⟨"com/example/nidra/nidra/dbus/UnmarshallerUint32PinLaw", "reversed", "(I)I"⟩ : MethodName) method_2_code 1 (some .int) :: ws) ({ frames := 0, cells := 0, slots := 0, locals := 0 } : Room)) (fun a U => a = #[(.int p0)] ∧ Z.Warmed39 U.vm ∧ U.heap = h0) (fun _ _ _ _ _ => True) (fun _ U o U' => ∃ v L, o = .returned v ∧ Q2 Z p0 h0 n0 v U'.heap L ∧ FrameEnd U o U' L ({ frames := 0, cells := 0, slots := 0, locals := 0 } : Room).cells ({ frames := 0, cells := 0, slots := 0, locals := 0 } : Room).slots) := by
  refine MetFree.of_bodySF (plainFor_of_name pn_com_example_nidra_nidra_dbus_UnmarshallerUint32PinLaw) hisR ?_
  intro p e s m args below meth c s₁ Bd hml0 hP hK
  obtain ⟨rfl, hZ, hh⟩ := hP
  have hx := Bd.exec
  have hby := Bd.bytes
  have hml : c.maxLocals = 1 := hml0
  have hown : s.vm.findClass "com/example/nidra/nidra/dbus/UnmarshallerUint32PinLaw" = some m.cls := findClass_of_methodNamed Bd.named
  have hnm := (name_of_methodNamed Bd.named Bd.method).1
  have X0 : Stand p l e ({ frames := 0, cells := 0, slots := 0, locals := 0 } : Room) s m #[(.int p0)] below meth c s₁ [] 0 0 := Stand.of_body Bd
  have e0 : s₁.heap = h0 := by rw [← hh, Bd.state]; rfl
  have N0 := Fr.nil n0
  refine own_go (Q := Q2 Z p0 h0 n0) ?_
  refine Go.to (g' := (mkF m 0 #[.val (.int p0)] [])) (fun t k => castTop (ef_rm2 m p0) k) ?_
  refine Go.to (g' := (mkF m 1 #[.val (.int p0)] [(.int p0)])) (fun t k => XS.iloadN X0.here hx rfl (hb hby d2_0) rfl k) ?_
  refine Go.to (g' := (mkF m 3 #[.val (.int p0)] [(.int (24 : Int32)), (.int p0)])) (fun t k => XS.bipush X0.here hx rfl (hb hby d2_1) k) ?_
  refine Go.to (g' := (mkF m 4 #[.val (.int p0)] [(.int ((p0.toUInt32 >>> ((24 : Int32) &&& 31).toUInt32).toInt32))])) (fun t k => XS.iushr X0.here hx rfl (hb hby d2_3) rfl k) ?_
  refine Go.to (g' := (mkF m 7 #[.val (.int p0)] [(.int (255 : Int32)), (.int ((p0.toUInt32 >>> ((24 : Int32) &&& 31).toUInt32).toInt32))])) (fun t k => XS.sipush X0.here hx rfl (hb hby d2_4) k) ?_
  refine Go.to (g' := (mkF m 8 #[.val (.int p0)] [(.int (((p0.toUInt32 >>> ((24 : Int32) &&& 31).toUInt32).toInt32) &&& (255 : Int32)))])) (fun t k => XS.iand X0.here hx rfl (hb hby d2_7) rfl k) ?_
  refine Go.to (g' := (mkF m 9 #[.val (.int p0)] [(.int p0), (.int (((p0.toUInt32 >>> ((24 : Int32) &&& 31).toUInt32).toInt32) &&& (255 : Int32)))])) (fun t k => XS.iloadN X0.here hx rfl (hb hby d2_8) rfl k) ?_
  refine Go.to (g' := (mkF m 11 #[.val (.int p0)] [(.int (16 : Int32)), (.int p0), (.int (((p0.toUInt32 >>> ((24 : Int32) &&& 31).toUInt32).toInt32) &&& (255 : Int32)))])) (fun t k => XS.bipush X0.here hx rfl (hb hby d2_9) k) ?_
  refine Go.to (g' := (mkF m 12 #[.val (.int p0)] [(.int ((p0.toUInt32 >>> ((16 : Int32) &&& 31).toUInt32).toInt32)), (.int (((p0.toUInt32 >>> ((24 : Int32) &&& 31).toUInt32).toInt32) &&& (255 : Int32)))])) (fun t k => XS.iushr X0.here hx rfl (hb hby d2_11) rfl k) ?_
  refine Go.to (g' := (mkF m 15 #[.val (.int p0)] [(.int (255 : Int32)), (.int ((p0.toUInt32 >>> ((16 : Int32) &&& 31).toUInt32).toInt32)), (.int (((p0.toUInt32 >>> ((24 : Int32) &&& 31).toUInt32).toInt32) &&& (255 : Int32)))])) (fun t k => XS.sipush X0.here hx rfl (hb hby d2_12) k) ?_
  refine Go.to (g' := (mkF m 16 #[.val (.int p0)] [(.int (((p0.toUInt32 >>> ((16 : Int32) &&& 31).toUInt32).toInt32) &&& (255 : Int32))), (.int (((p0.toUInt32 >>> ((24 : Int32) &&& 31).toUInt32).toInt32) &&& (255 : Int32)))])) (fun t k => XS.iand X0.here hx rfl (hb hby d2_15) rfl k) ?_
  refine Go.to (g' := (mkF m 18 #[.val (.int p0)] [(.int (8 : Int32)), (.int (((p0.toUInt32 >>> ((16 : Int32) &&& 31).toUInt32).toInt32) &&& (255 : Int32))), (.int (((p0.toUInt32 >>> ((24 : Int32) &&& 31).toUInt32).toInt32) &&& (255 : Int32)))])) (fun t k => XS.bipush X0.here hx rfl (hb hby d2_16) k) ?_
  refine Go.to (g' := (mkF m 19 #[.val (.int p0)] [(.int ((((p0.toUInt32 >>> ((16 : Int32) &&& 31).toUInt32).toInt32) &&& (255 : Int32)) <<< ((8 : Int32) &&& 31))), (.int (((p0.toUInt32 >>> ((24 : Int32) &&& 31).toUInt32).toInt32) &&& (255 : Int32)))])) (fun t k => XS.ishl X0.here hx rfl (hb hby d2_18) rfl k) ?_
  refine Go.to (g' := (mkF m 20 #[.val (.int p0)] [(.int ((((p0.toUInt32 >>> ((24 : Int32) &&& 31).toUInt32).toInt32) &&& (255 : Int32)) ||| ((((p0.toUInt32 >>> ((16 : Int32) &&& 31).toUInt32).toInt32) &&& (255 : Int32)) <<< ((8 : Int32) &&& 31))))])) (fun t k => XS.ior X0.here hx rfl (hb hby d2_19) rfl k) ?_
  refine Go.to (g' := (mkF m 21 #[.val (.int p0)] [(.int p0), (.int ((((p0.toUInt32 >>> ((24 : Int32) &&& 31).toUInt32).toInt32) &&& (255 : Int32)) ||| ((((p0.toUInt32 >>> ((16 : Int32) &&& 31).toUInt32).toInt32) &&& (255 : Int32)) <<< ((8 : Int32) &&& 31))))])) (fun t k => XS.iloadN X0.here hx rfl (hb hby d2_20) rfl k) ?_
  refine Go.to (g' := (mkF m 23 #[.val (.int p0)] [(.int (8 : Int32)), (.int p0), (.int ((((p0.toUInt32 >>> ((24 : Int32) &&& 31).toUInt32).toInt32) &&& (255 : Int32)) ||| ((((p0.toUInt32 >>> ((16 : Int32) &&& 31).toUInt32).toInt32) &&& (255 : Int32)) <<< ((8 : Int32) &&& 31))))])) (fun t k => XS.bipush X0.here hx rfl (hb hby d2_21) k) ?_
  refine Go.to (g' := (mkF m 24 #[.val (.int p0)] [(.int ((p0.toUInt32 >>> ((8 : Int32) &&& 31).toUInt32).toInt32)), (.int ((((p0.toUInt32 >>> ((24 : Int32) &&& 31).toUInt32).toInt32) &&& (255 : Int32)) ||| ((((p0.toUInt32 >>> ((16 : Int32) &&& 31).toUInt32).toInt32) &&& (255 : Int32)) <<< ((8 : Int32) &&& 31))))])) (fun t k => XS.iushr X0.here hx rfl (hb hby d2_23) rfl k) ?_
  refine Go.to (g' := (mkF m 27 #[.val (.int p0)] [(.int (255 : Int32)), (.int ((p0.toUInt32 >>> ((8 : Int32) &&& 31).toUInt32).toInt32)), (.int ((((p0.toUInt32 >>> ((24 : Int32) &&& 31).toUInt32).toInt32) &&& (255 : Int32)) ||| ((((p0.toUInt32 >>> ((16 : Int32) &&& 31).toUInt32).toInt32) &&& (255 : Int32)) <<< ((8 : Int32) &&& 31))))])) (fun t k => XS.sipush X0.here hx rfl (hb hby d2_24) k) ?_
  refine Go.to (g' := (mkF m 28 #[.val (.int p0)] [(.int (((p0.toUInt32 >>> ((8 : Int32) &&& 31).toUInt32).toInt32) &&& (255 : Int32))), (.int ((((p0.toUInt32 >>> ((24 : Int32) &&& 31).toUInt32).toInt32) &&& (255 : Int32)) ||| ((((p0.toUInt32 >>> ((16 : Int32) &&& 31).toUInt32).toInt32) &&& (255 : Int32)) <<< ((8 : Int32) &&& 31))))])) (fun t k => XS.iand X0.here hx rfl (hb hby d2_27) rfl k) ?_
  refine Go.to (g' := (mkF m 30 #[.val (.int p0)] [(.int (16 : Int32)), (.int (((p0.toUInt32 >>> ((8 : Int32) &&& 31).toUInt32).toInt32) &&& (255 : Int32))), (.int ((((p0.toUInt32 >>> ((24 : Int32) &&& 31).toUInt32).toInt32) &&& (255 : Int32)) ||| ((((p0.toUInt32 >>> ((16 : Int32) &&& 31).toUInt32).toInt32) &&& (255 : Int32)) <<< ((8 : Int32) &&& 31))))])) (fun t k => XS.bipush X0.here hx rfl (hb hby d2_28) k) ?_
  refine Go.to (g' := (mkF m 31 #[.val (.int p0)] [(.int ((((p0.toUInt32 >>> ((8 : Int32) &&& 31).toUInt32).toInt32) &&& (255 : Int32)) <<< ((16 : Int32) &&& 31))), (.int ((((p0.toUInt32 >>> ((24 : Int32) &&& 31).toUInt32).toInt32) &&& (255 : Int32)) ||| ((((p0.toUInt32 >>> ((16 : Int32) &&& 31).toUInt32).toInt32) &&& (255 : Int32)) <<< ((8 : Int32) &&& 31))))])) (fun t k => XS.ishl X0.here hx rfl (hb hby d2_30) rfl k) ?_
  refine Go.to (g' := (mkF m 32 #[.val (.int p0)] [(.int (((((p0.toUInt32 >>> ((24 : Int32) &&& 31).toUInt32).toInt32) &&& (255 : Int32)) ||| ((((p0.toUInt32 >>> ((16 : Int32) &&& 31).toUInt32).toInt32) &&& (255 : Int32)) <<< ((8 : Int32) &&& 31))) ||| ((((p0.toUInt32 >>> ((8 : Int32) &&& 31).toUInt32).toInt32) &&& (255 : Int32)) <<< ((16 : Int32) &&& 31))))])) (fun t k => XS.ior X0.here hx rfl (hb hby d2_31) rfl k) ?_
  refine Go.to (g' := (mkF m 33 #[.val (.int p0)] [(.int p0), (.int (((((p0.toUInt32 >>> ((24 : Int32) &&& 31).toUInt32).toInt32) &&& (255 : Int32)) ||| ((((p0.toUInt32 >>> ((16 : Int32) &&& 31).toUInt32).toInt32) &&& (255 : Int32)) <<< ((8 : Int32) &&& 31))) ||| ((((p0.toUInt32 >>> ((8 : Int32) &&& 31).toUInt32).toInt32) &&& (255 : Int32)) <<< ((16 : Int32) &&& 31))))])) (fun t k => XS.iloadN X0.here hx rfl (hb hby d2_32) rfl k) ?_
  refine Go.to (g' := (mkF m 36 #[.val (.int p0)] [(.int (255 : Int32)), (.int p0), (.int (((((p0.toUInt32 >>> ((24 : Int32) &&& 31).toUInt32).toInt32) &&& (255 : Int32)) ||| ((((p0.toUInt32 >>> ((16 : Int32) &&& 31).toUInt32).toInt32) &&& (255 : Int32)) <<< ((8 : Int32) &&& 31))) ||| ((((p0.toUInt32 >>> ((8 : Int32) &&& 31).toUInt32).toInt32) &&& (255 : Int32)) <<< ((16 : Int32) &&& 31))))])) (fun t k => XS.sipush X0.here hx rfl (hb hby d2_33) k) ?_
  refine Go.to (g' := (mkF m 37 #[.val (.int p0)] [(.int (p0 &&& (255 : Int32))), (.int (((((p0.toUInt32 >>> ((24 : Int32) &&& 31).toUInt32).toInt32) &&& (255 : Int32)) ||| ((((p0.toUInt32 >>> ((16 : Int32) &&& 31).toUInt32).toInt32) &&& (255 : Int32)) <<< ((8 : Int32) &&& 31))) ||| ((((p0.toUInt32 >>> ((8 : Int32) &&& 31).toUInt32).toInt32) &&& (255 : Int32)) <<< ((16 : Int32) &&& 31))))])) (fun t k => XS.iand X0.here hx rfl (hb hby d2_36) rfl k) ?_
  refine Go.to (g' := (mkF m 39 #[.val (.int p0)] [(.int (24 : Int32)), (.int (p0 &&& (255 : Int32))), (.int (((((p0.toUInt32 >>> ((24 : Int32) &&& 31).toUInt32).toInt32) &&& (255 : Int32)) ||| ((((p0.toUInt32 >>> ((16 : Int32) &&& 31).toUInt32).toInt32) &&& (255 : Int32)) <<< ((8 : Int32) &&& 31))) ||| ((((p0.toUInt32 >>> ((8 : Int32) &&& 31).toUInt32).toInt32) &&& (255 : Int32)) <<< ((16 : Int32) &&& 31))))])) (fun t k => XS.bipush X0.here hx rfl (hb hby d2_37) k) ?_
  refine Go.to (g' := (mkF m 40 #[.val (.int p0)] [(.int ((p0 &&& (255 : Int32)) <<< ((24 : Int32) &&& 31))), (.int (((((p0.toUInt32 >>> ((24 : Int32) &&& 31).toUInt32).toInt32) &&& (255 : Int32)) ||| ((((p0.toUInt32 >>> ((16 : Int32) &&& 31).toUInt32).toInt32) &&& (255 : Int32)) <<< ((8 : Int32) &&& 31))) ||| ((((p0.toUInt32 >>> ((8 : Int32) &&& 31).toUInt32).toInt32) &&& (255 : Int32)) <<< ((16 : Int32) &&& 31))))])) (fun t k => XS.ishl X0.here hx rfl (hb hby d2_39) rfl k) ?_
  refine Go.to (g' := (mkF m 41 #[.val (.int p0)] [(.int ((((((p0.toUInt32 >>> ((24 : Int32) &&& 31).toUInt32).toInt32) &&& (255 : Int32)) ||| ((((p0.toUInt32 >>> ((16 : Int32) &&& 31).toUInt32).toInt32) &&& (255 : Int32)) <<< ((8 : Int32) &&& 31))) ||| ((((p0.toUInt32 >>> ((8 : Int32) &&& 31).toUInt32).toInt32) &&& (255 : Int32)) <<< ((16 : Int32) &&& 31))) ||| ((p0 &&& (255 : Int32)) <<< ((24 : Int32) &&& 31))))])) (fun t k => XS.ior X0.here hx rfl (hb hby d2_40) rfl k) ?_
  exact Go.retI X0 hx Bd.returns Bd.notSynchronized (hb hby d2_41) (by decide) (by decide) e0 ⟨rfl, N0, rfl⟩

theorem own_i3 (x : Int32) : ¬ (x &&& (3 : Int32)) < 0 ∧ (x &&& (3 : Int32)).toInt ≤ 3 := by
  have h1 := c_mask x (3 : Int32) 2 (by decide) (by decide)
  rw [Int32.lt_iff_toInt_lt, show (0 : Int32).toInt = 0 from rfl]
  omega
theorem own_bb (x : Int32) : (x.toInt8.toInt32.toInt8.toInt32).toInt % 256 = x.toInt % 256 := by
  have h1 := c_i2b x
  have h2 := c_i2b x.toInt8.toInt32
  omega
theorem own_sh (p0 : Int32) : ((p0.toUInt32 >>> ((24 : Int32) &&& 31).toUInt32).toInt32).toInt = (p0.toInt % 4294967296) / 16777216 ∧ ((p0.toUInt32 >>> ((16 : Int32) &&& 31).toUInt32).toInt32).toInt = (p0.toInt % 4294967296) / 65536 ∧ ((p0.toUInt32 >>> ((8 : Int32) &&& 31).toUInt32).toInt32).toInt = (p0.toInt % 4294967296) / 256 :=
  ⟨c_iushr p0 (24 : Int32) 24 rfl (by decide), c_iushr p0 (16 : Int32) 16 rfl (by decide), c_iushr p0 (8 : Int32) 8 rfl (by decide)⟩
theorem own_s0 (p0 : Int32) : (own_le ((p0.toInt8.toInt32).toInt8.toInt32) ((((p0.toUInt32 >>> ((8 : Int32) &&& 31).toUInt32).toInt32).toInt8.toInt32).toInt8.toInt32) ((((p0.toUInt32 >>> ((16 : Int32) &&& 31).toUInt32).toInt32).toInt8.toInt32).toInt8.toInt32) ((((p0.toUInt32 >>> ((24 : Int32) &&& 31).toUInt32).toInt32).toInt8.toInt32).toInt8.toInt32)) = p0 := by
  apply Int32.toInt_inj.mp
  have h := own_le_val ((p0.toInt8.toInt32).toInt8.toInt32) ((((p0.toUInt32 >>> ((8 : Int32) &&& 31).toUInt32).toInt32).toInt8.toInt32).toInt8.toInt32) ((((p0.toUInt32 >>> ((16 : Int32) &&& 31).toUInt32).toInt32).toInt8.toInt32).toInt8.toInt32) ((((p0.toUInt32 >>> ((24 : Int32) &&& 31).toUInt32).toInt32).toInt8.toInt32).toInt8.toInt32)
  have k0 := own_bb p0
  have k1 := own_bb ((p0.toUInt32 >>> ((8 : Int32) &&& 31).toUInt32).toInt32)
  have k2 := own_bb ((p0.toUInt32 >>> ((16 : Int32) &&& 31).toUInt32).toInt32)
  have k3 := own_bb ((p0.toUInt32 >>> ((24 : Int32) &&& 31).toUInt32).toInt32)
  obtain ⟨s1, s2, s3⟩ := own_sh p0
  have r1 := rng32 (own_le ((p0.toInt8.toInt32).toInt8.toInt32) ((((p0.toUInt32 >>> ((8 : Int32) &&& 31).toUInt32).toInt32).toInt8.toInt32).toInt8.toInt32) ((((p0.toUInt32 >>> ((16 : Int32) &&& 31).toUInt32).toInt32).toInt8.toInt32).toInt8.toInt32) ((((p0.toUInt32 >>> ((24 : Int32) &&& 31).toUInt32).toInt32).toInt8.toInt32).toInt8.toInt32))
  have r2 := rng32 p0
  omega
theorem own_s1 (p0 : Int32) : (own_be ((((p0.toUInt32 >>> ((24 : Int32) &&& 31).toUInt32).toInt32).toInt8.toInt32).toInt8.toInt32) ((((p0.toUInt32 >>> ((16 : Int32) &&& 31).toUInt32).toInt32).toInt8.toInt32).toInt8.toInt32) ((((p0.toUInt32 >>> ((8 : Int32) &&& 31).toUInt32).toInt32).toInt8.toInt32).toInt8.toInt32) ((p0.toInt8.toInt32).toInt8.toInt32)) = p0 := by
  apply Int32.toInt_inj.mp
  have h := own_be_val ((((p0.toUInt32 >>> ((24 : Int32) &&& 31).toUInt32).toInt32).toInt8.toInt32).toInt8.toInt32) ((((p0.toUInt32 >>> ((16 : Int32) &&& 31).toUInt32).toInt32).toInt8.toInt32).toInt8.toInt32) ((((p0.toUInt32 >>> ((8 : Int32) &&& 31).toUInt32).toInt32).toInt8.toInt32).toInt8.toInt32) ((p0.toInt8.toInt32).toInt8.toInt32)
  have k0 := own_bb ((p0.toUInt32 >>> ((24 : Int32) &&& 31).toUInt32).toInt32)
  have k1 := own_bb ((p0.toUInt32 >>> ((16 : Int32) &&& 31).toUInt32).toInt32)
  have k2 := own_bb ((p0.toUInt32 >>> ((8 : Int32) &&& 31).toUInt32).toInt32)
  have k3 := own_bb p0
  obtain ⟨s1, s2, s3⟩ := own_sh p0
  have r1 := rng32 (own_be ((((p0.toUInt32 >>> ((24 : Int32) &&& 31).toUInt32).toInt32).toInt8.toInt32).toInt8.toInt32) ((((p0.toUInt32 >>> ((16 : Int32) &&& 31).toUInt32).toInt32).toInt8.toInt32).toInt8.toInt32) ((((p0.toUInt32 >>> ((8 : Int32) &&& 31).toUInt32).toInt32).toInt8.toInt32).toInt8.toInt32) ((p0.toInt8.toInt32).toInt8.toInt32))
  have r2 := rng32 p0
  omega
theorem own_t0 (p0 : Int32) : (own_be ((p0.toInt8.toInt32).toInt8.toInt32) ((((p0.toUInt32 >>> ((8 : Int32) &&& 31).toUInt32).toInt32).toInt8.toInt32).toInt8.toInt32) ((((p0.toUInt32 >>> ((16 : Int32) &&& 31).toUInt32).toInt32).toInt8.toInt32).toInt8.toInt32) ((((p0.toUInt32 >>> ((24 : Int32) &&& 31).toUInt32).toInt32).toInt8.toInt32).toInt8.toInt32)) = (own_le ((p0.toUInt32 >>> ((24 : Int32) &&& 31).toUInt32).toInt32) ((p0.toUInt32 >>> ((16 : Int32) &&& 31).toUInt32).toInt32) ((p0.toUInt32 >>> ((8 : Int32) &&& 31).toUInt32).toInt32) p0) := by
  apply Int32.toInt_inj.mp
  have h := own_be_val ((p0.toInt8.toInt32).toInt8.toInt32) ((((p0.toUInt32 >>> ((8 : Int32) &&& 31).toUInt32).toInt32).toInt8.toInt32).toInt8.toInt32) ((((p0.toUInt32 >>> ((16 : Int32) &&& 31).toUInt32).toInt32).toInt8.toInt32).toInt8.toInt32) ((((p0.toUInt32 >>> ((24 : Int32) &&& 31).toUInt32).toInt32).toInt8.toInt32).toInt8.toInt32)
  have h2 := own_le_val ((p0.toUInt32 >>> ((24 : Int32) &&& 31).toUInt32).toInt32) ((p0.toUInt32 >>> ((16 : Int32) &&& 31).toUInt32).toInt32) ((p0.toUInt32 >>> ((8 : Int32) &&& 31).toUInt32).toInt32) p0
  have r3 := rng32 (own_le ((p0.toUInt32 >>> ((24 : Int32) &&& 31).toUInt32).toInt32) ((p0.toUInt32 >>> ((16 : Int32) &&& 31).toUInt32).toInt32) ((p0.toUInt32 >>> ((8 : Int32) &&& 31).toUInt32).toInt32) p0)
  have k0 := own_bb p0
  have k1 := own_bb ((p0.toUInt32 >>> ((8 : Int32) &&& 31).toUInt32).toInt32)
  have k2 := own_bb ((p0.toUInt32 >>> ((16 : Int32) &&& 31).toUInt32).toInt32)
  have k3 := own_bb ((p0.toUInt32 >>> ((24 : Int32) &&& 31).toUInt32).toInt32)
  obtain ⟨s1, s2, s3⟩ := own_sh p0
  have r1 := rng32 (own_be ((p0.toInt8.toInt32).toInt8.toInt32) ((((p0.toUInt32 >>> ((8 : Int32) &&& 31).toUInt32).toInt32).toInt8.toInt32).toInt8.toInt32) ((((p0.toUInt32 >>> ((16 : Int32) &&& 31).toUInt32).toInt32).toInt8.toInt32).toInt8.toInt32) ((((p0.toUInt32 >>> ((24 : Int32) &&& 31).toUInt32).toInt32).toInt8.toInt32).toInt8.toInt32))
  have r2 := rng32 p0
  omega
theorem own_t1 (p0 : Int32) : (own_le ((((p0.toUInt32 >>> ((24 : Int32) &&& 31).toUInt32).toInt32).toInt8.toInt32).toInt8.toInt32) ((((p0.toUInt32 >>> ((16 : Int32) &&& 31).toUInt32).toInt32).toInt8.toInt32).toInt8.toInt32) ((((p0.toUInt32 >>> ((8 : Int32) &&& 31).toUInt32).toInt32).toInt8.toInt32).toInt8.toInt32) ((p0.toInt8.toInt32).toInt8.toInt32)) = (own_le ((p0.toUInt32 >>> ((24 : Int32) &&& 31).toUInt32).toInt32) ((p0.toUInt32 >>> ((16 : Int32) &&& 31).toUInt32).toInt32) ((p0.toUInt32 >>> ((8 : Int32) &&& 31).toUInt32).toInt32) p0) := by
  apply Int32.toInt_inj.mp
  have h := own_le_val ((((p0.toUInt32 >>> ((24 : Int32) &&& 31).toUInt32).toInt32).toInt8.toInt32).toInt8.toInt32) ((((p0.toUInt32 >>> ((16 : Int32) &&& 31).toUInt32).toInt32).toInt8.toInt32).toInt8.toInt32) ((((p0.toUInt32 >>> ((8 : Int32) &&& 31).toUInt32).toInt32).toInt8.toInt32).toInt8.toInt32) ((p0.toInt8.toInt32).toInt8.toInt32)
  have h2 := own_le_val ((p0.toUInt32 >>> ((24 : Int32) &&& 31).toUInt32).toInt32) ((p0.toUInt32 >>> ((16 : Int32) &&& 31).toUInt32).toInt32) ((p0.toUInt32 >>> ((8 : Int32) &&& 31).toUInt32).toInt32) p0
  have r3 := rng32 (own_le ((p0.toUInt32 >>> ((24 : Int32) &&& 31).toUInt32).toInt32) ((p0.toUInt32 >>> ((16 : Int32) &&& 31).toUInt32).toInt32) ((p0.toUInt32 >>> ((8 : Int32) &&& 31).toUInt32).toInt32) p0)
  have k0 := own_bb ((p0.toUInt32 >>> ((24 : Int32) &&& 31).toUInt32).toInt32)
  have k1 := own_bb ((p0.toUInt32 >>> ((16 : Int32) &&& 31).toUInt32).toInt32)
  have k2 := own_bb ((p0.toUInt32 >>> ((8 : Int32) &&& 31).toUInt32).toInt32)
  have k3 := own_bb p0
  obtain ⟨s1, s2, s3⟩ := own_sh p0
  have r1 := rng32 (own_le ((((p0.toUInt32 >>> ((24 : Int32) &&& 31).toUInt32).toInt32).toInt8.toInt32).toInt8.toInt32) ((((p0.toUInt32 >>> ((16 : Int32) &&& 31).toUInt32).toInt32).toInt8.toInt32).toInt8.toInt32) ((((p0.toUInt32 >>> ((8 : Int32) &&& 31).toUInt32).toInt32).toInt8.toInt32).toInt8.toInt32) ((p0.toInt8.toInt32).toInt8.toInt32))
  have r2 := rng32 p0
  omega

theorem ef_rm0 (m : MethodId) (x0 : Int32) (x1 : Int32) (x2 : Int64) (x3 : Int32) : entryFrame m #[(.int x0), (.int x1), (.long x2), (.int x3)] maxLocals = mkF m 0 #[.val (.int x0), .val (.int x1), .val (.long x2), .second, .val (.int x3), .unset, .unset, .unset, .unset, .unset] [] := by first | (simp [entryFrame, mkF, argsToLocals, Value.category, maxLocals]; done) | rfl
def Q0 (Z : State) (p0 : Int32) (p1 : Int32) (q2 : Int64) (p3 : Int32) (h0 : Heap) (n0 : Nat) (v : Option Value) (h : Heap) (L : List Loc) : Prop := v = some (.int (1 : Int32)) ∧ Fr n0 L
set_option maxRecDepth 65536 in
set_option maxHeartbeats 40000000 in
theorem rm0 (l : Launch) (Z : State) (aw : Array Value) (hw : ∀ d ∈ tables_1, d.before aw Z = true) (ws : List Jvm.Cond) (p0 : Int32) (p1 : Int32) (q2 : Int64) (p3 : Int32) (h0 : Heap) (n0 : Nat) (Z0 : n0 ≤ h0.size) :
    MetFree l x (head1 (Jvm.Cond.code x code maxLocals ret :: ws) room_1) (fun a U => a = #[(.int p0), (.int p1), (.long q2), (.int p3)] ∧ Z.Warmed39 U.vm ∧ U.heap = h0) (fun _ _ _ _ _ => True) (fun _ U o U' => ∃ v L, o = .returned v ∧ Q0 Z p0 p1 q2 p3 h0 n0 v U'.heap L ∧ FrameEnd U o U' L room_1.cells room_1.slots) := by
  refine MetFree.of_bodySF (plainFor_of_name pn_com_example_nidra_nidra_dbus_UnmarshallerUint32PinLaw) hisR ?_
  intro p e s m args below meth c s₁ Bd hml0 hP hK
  obtain ⟨rfl, hZ, hh⟩ := hP
  have hx := Bd.exec
  have hby := Bd.bytes
  have hml : c.maxLocals = 10 := hml0
  have hown : s.vm.findClass "com/example/nidra/nidra/dbus/UnmarshallerUint32PinLaw" = some m.cls := findClass_of_methodNamed Bd.named
  have hnm := (name_of_methodNamed Bd.named Bd.method).1
  have X0 : Stand p l e room_1 s m #[(.int p0), (.int p1), (.long q2), (.int p3)] below meth c s₁ [] 0 0 := Stand.of_body Bd
  have e0 : s₁.heap = h0 := by rw [← hh, Bd.state]; rfl
  have N0 := Fr.nil n0
  refine own_go (Q := Q0 Z p0 p1 q2 p3 h0 n0) ?_
  refine Go.to (g' := (mkF m 0 #[.val (.int p0), .val (.int p1), .val (.long q2), .second, .val (.int p3), .unset, .unset, .unset, .unset, .unset] [])) (fun t k => castTop (ef_rm0 m p0 p1 q2 p3) k) ?_
  refine Go.to (g' := (mkF m 1 #[.val (.int p0), .val (.int p1), .val (.long q2), .second, .val (.int p3), .unset, .unset, .unset, .unset, .unset] [(.int p1)])) (fun t k => XS.iloadN X0.here hx rfl (hb hby at_0) rfl k) ?_
  refine Go.to (g' := (mkF m 2 #[.val (.int p0), .val (.int p1), .val (.long q2), .second, .val (.int p3), .unset, .unset, .unset, .unset, .unset] [(.int (3 : Int32)), (.int p1)])) (fun t k => XS.iconst X0.here hx rfl (hb hby at_1) k) ?_
  refine Go.to (g' := (mkF m 3 #[.val (.int p0), .val (.int p1), .val (.long q2), .second, .val (.int p3), .unset, .unset, .unset, .unset, .unset] [(.int (p1 &&& (3 : Int32)))])) (fun t k => XS.iand X0.here hx rfl (hb hby at_2) rfl k) ?_
  obtain ⟨at_, hv_at_⟩ : ∃ z : Int32, z = (p1 &&& (3 : Int32)) := ⟨_, rfl⟩
  rw [← hv_at_]
  have hat : ¬ at_ < 0 := by rw [hv_at_]; exact (own_i3 _).1
  have hat3 : at_.toInt ≤ 3 := by rw [hv_at_]; exact (own_i3 _).2
  refine Go.to (g' := (mkF m 5 #[.val (.int p0), .val (.int p1), .val (.long q2), .second, .val (.int p3), .val (.int at_), .unset, .unset, .unset, .unset] [])) (fun t k => XS.istore X0.here hx rfl (hb hby at_3) rfl (l' := #[.val (.int p0), .val (.int p1), .val (.long q2), .second, .val (.int p3), .val (.int at_), .unset, .unset, .unset, .unset]) rfl k) ?_
  refine Go.to (g' := (mkF m 7 #[.val (.int p0), .val (.int p1), .val (.long q2), .second, .val (.int p3), .val (.int at_), .unset, .unset, .unset, .unset] [(.int p3)])) (fun t k => XS.iload X0.here hx rfl (hb hby at_5) rfl k) ?_
  refine Go.to (g' := (mkF m 8 #[.val (.int p0), .val (.int p1), .val (.long q2), .second, .val (.int p3), .val (.int at_), .unset, .unset, .unset, .unset] [(.int (1 : Int32)), (.int p3)])) (fun t k => XS.iconst X0.here hx rfl (hb hby at_7) k) ?_
  refine Go.to (g' := (mkF m 9 #[.val (.int p0), .val (.int p1), .val (.long q2), .second, .val (.int p3), .val (.int at_), .unset, .unset, .unset, .unset] [(.int (p3 &&& (1 : Int32)))])) (fun t k => XS.iand X0.here hx rfl (hb hby at_8) rfl k) ?_
  by_cases c1 : (p3 &&& (1 : Int32)) = (0 : Int32)
  · refine Go.to (g' := (mkF m 16 #[.val (.int p0), .val (.int p1), .val (.long q2), .second, .val (.int p3), .val (.int at_), .unset, .unset, .unset, .unset] [])) (fun t k => XS.ifYes X0.here hx rfl (pc0 := 9) (pc' := 16) rfl (hb hby at_9) rfl ((if0 _ _).trans (teq c1).1) (by decide) (by decide) k) ?_
    refine Go.to (g' := (mkF m 17 #[.val (.int p0), .val (.int p1), .val (.long q2), .second, .val (.int p3), .val (.int at_), .unset, .unset, .unset, .unset] [(.int (0 : Int32))])) (fun t k => XS.iconst X0.here hx rfl (hb hby at_16) k) ?_
    refine Go.to (g' := (mkF m 19 #[.val (.int p0), .val (.int p1), .val (.long q2), .second, .val (.int p3), .val (.int at_), .val (.int (0 : Int32)), .unset, .unset, .unset] [])) (fun t k => XS.istore X0.here hx rfl (hb hby at_17) rfl (l' := #[.val (.int p0), .val (.int p1), .val (.long q2), .second, .val (.int p3), .val (.int at_), .val (.int (0 : Int32)), .unset, .unset, .unset]) rfl k) ?_
    refine Go.to (g' := (mkF m 21 #[.val (.int p0), .val (.int p1), .val (.long q2), .second, .val (.int p3), .val (.int at_), .val (.int (0 : Int32)), .unset, .unset, .unset] [(.int (8 : Int32))])) (fun t k => XS.bipush X0.here hx rfl (hb hby at_19) k) ?_
    obtain ⟨T3, h3, k3, X3, e3, E3, A3, st3⟩ := newP X0 hx hZ (hw _ (List.mem_of_getElem? (i := 0) rfl)) e0 (g := (mkF m 21 #[.val (.int p0), .val (.int p1), .val (.long q2), .second, .val (.int p3), .val (.int at_), .val (.int (0 : Int32)), .unset, .unset, .unset] [(.int (8 : Int32))])) rfl (hb hby at_21) rfl (by decide) (cap := 8) (by decide) (by decide) (by decide) (by decide)
    obtain ⟨b2, g3⟩ : ∃ z, z = h0.size := ⟨_, rfl⟩
    rw [← g3] at A3 st3
    have g_b2 : n0 ≤ b2 := Nat.le_trans Z0 (Nat.le_of_eq g3.symm)
    have sz_b2 : h0.size ≤ b2 := Nat.le_trans (Keep.refl h0 []).1 (Nat.le_of_eq g3.symm)
    have Z3 : n0 ≤ h3.size := Nat.le_trans Z0 E3.1
    have K3 : Keep h0 h3 [] := (Keep.refl h0 []).ext E3
    have V_b2 : Arv Z h3 b2 k3 .byte (8 : Int32) [(.int (0 : Int32)), (.int (0 : Int32)), (.int (0 : Int32)), (.int (0 : Int32)), (.int (0 : Int32)), (.int (0 : Int32)), (.int (0 : Int32)), (.int (0 : Int32))] (.int (0 : Int32)) := (Arv.new A3 (by decide)).pad (pad_rep [] (.int (0 : Int32)) 8)
    refine Go.to (g' := (mkF m 23 #[.val (.int p0), .val (.int p1), .val (.long q2), .second, .val (.int p3), .val (.int at_), .val (.int (0 : Int32)), .unset, .unset, .unset] [(.ref b2)])) st3 ?_
    refine Go.to (g' := (mkF m 25 #[.val (.int p0), .val (.int p1), .val (.long q2), .second, .val (.int p3), .val (.int at_), .val (.int (0 : Int32)), .val (.ref b2), .unset, .unset] [])) (fun t k => XS.astore X3.here hx rfl (hb hby at_23) rfl rfl (l' := #[.val (.int p0), .val (.int p1), .val (.long q2), .second, .val (.int p3), .val (.int at_), .val (.int (0 : Int32)), .val (.ref b2), .unset, .unset]) rfl k) ?_
    refine Go.to (g' := (mkF m 27 #[.val (.int p0), .val (.int p1), .val (.long q2), .second, .val (.int p3), .val (.int at_), .val (.int (0 : Int32)), .val (.ref b2), .unset, .unset] [(.ref b2)])) (fun t k => XS.aload X3.here hx rfl (hb hby at_25) rfl rfl k) ?_
    refine Go.to (g' := (mkF m 28 #[.val (.int p0), .val (.int p1), .val (.long q2), .second, .val (.int p3), .val (.int at_), .val (.int (0 : Int32)), .val (.ref b2), .unset, .unset] [(.int (0 : Int32)), (.ref b2)])) (fun t k => XS.iconst X3.here hx rfl (hb hby at_27) k) ?_
    refine Go.to (g' := (mkF m 29 #[.val (.int p0), .val (.int p1), .val (.long q2), .second, .val (.int p3), .val (.int at_), .val (.int (0 : Int32)), .val (.ref b2), .unset, .unset] [(.long q2), (.int (0 : Int32)), (.ref b2)])) (fun t k => XS.lloadN X3.here hx rfl (hb hby at_28) rfl k) ?_
    refine Go.to (g' := (mkF m 30 #[.val (.int p0), .val (.int p1), .val (.long q2), .second, .val (.int p3), .val (.int at_), .val (.int (0 : Int32)), .val (.ref b2), .unset, .unset] [(.int (q2.toInt32)), (.int (0 : Int32)), (.ref b2)])) (fun t k => XS.l2i X3.here hx rfl (hb hby at_29) rfl k) ?_
    refine Go.to (g' := (mkF m 31 #[.val (.int p0), .val (.int p1), .val (.long q2), .second, .val (.int p3), .val (.int at_), .val (.int (0 : Int32)), .val (.ref b2), .unset, .unset] [(.int ((q2.toInt32).toInt8.toInt32)), (.int (0 : Int32)), (.ref b2)])) (fun t k => XS.i2b X3.here hx rfl (hb hby at_30) rfl k) ?_
    obtain ⟨cl4, Ar4, kc4, S4, M4, H4, G4⟩ := V_b2
    have hin4 : ¬ ((0 : Int32) < 0 ∨ cl4.slots.size ≤ ((0 : Int32)).toNatClampNeg) := inb_of S4 ⟨by decide, by decide⟩
    obtain ⟨T5, h5, X5, e5, W5, st5⟩ := stB X3 hx hZ e3 Ar4 (j := (0 : Int32)) hin4 (g := (mkF m 31 #[.val (.int p0), .val (.int p1), .val (.long q2), .second, .val (.int p3), .val (.int at_), .val (.int (0 : Int32)), .val (.ref b2), .unset, .unset] [(.int ((q2.toInt32).toInt8.toInt32)), (.int (0 : Int32)), (.ref b2)])) rfl rfl (hb hby at_31)
    have Z5 : n0 ≤ h5.size := Nat.le_trans Z3 (Keep.of_wr W5).1
    have K5 : Keep h0 h5 [] := K3.wr W5 (Or.inr sz_b2)
    have N5 := Fr.snoc X5 N0 g_b2
    have V5 : Arv Z h5 b2 k3 .byte (8 : Int32) [(.int (((q2.toInt32).toInt8.toInt32)).toInt8.toInt32), (.int (0 : Int32)), (.int (0 : Int32)), (.int (0 : Int32)), (.int (0 : Int32)), (.int (0 : Int32)), (.int (0 : Int32)), (.int (0 : Int32))] (.int (0 : Int32)) := Arv.set Ar4 kc4 S4 M4 H4 G4 (fits_nar_byte _) W5 0 rfl (Nat.le_of_ble_eq_true rfl)
    refine Go.to (g' := (mkF m 32 #[.val (.int p0), .val (.int p1), .val (.long q2), .second, .val (.int p3), .val (.int at_), .val (.int (0 : Int32)), .val (.ref b2), .unset, .unset] [])) st5 ?_
    refine Go.to (g' := (mkF m 34 #[.val (.int p0), .val (.int p1), .val (.long q2), .second, .val (.int p3), .val (.int at_), .val (.int (0 : Int32)), .val (.ref b2), .unset, .unset] [(.ref b2)])) (fun t k => XS.aload X5.here hx rfl (hb hby at_32) rfl rfl k) ?_
    refine Go.to (g' := (mkF m 35 #[.val (.int p0), .val (.int p1), .val (.long q2), .second, .val (.int p3), .val (.int at_), .val (.int (0 : Int32)), .val (.ref b2), .unset, .unset] [(.int (1 : Int32)), (.ref b2)])) (fun t k => XS.iconst X5.here hx rfl (hb hby at_34) k) ?_
    refine Go.to (g' := (mkF m 36 #[.val (.int p0), .val (.int p1), .val (.long q2), .second, .val (.int p3), .val (.int at_), .val (.int (0 : Int32)), .val (.ref b2), .unset, .unset] [(.long q2), (.int (1 : Int32)), (.ref b2)])) (fun t k => XS.lloadN X5.here hx rfl (hb hby at_35) rfl k) ?_
    refine Go.to (g' := (mkF m 38 #[.val (.int p0), .val (.int p1), .val (.long q2), .second, .val (.int p3), .val (.int at_), .val (.int (0 : Int32)), .val (.ref b2), .unset, .unset] [(.int (8 : Int32)), (.long q2), (.int (1 : Int32)), (.ref b2)])) (fun t k => XS.bipush X5.here hx rfl (hb hby at_36) k) ?_
    refine Go.to (g' := (mkF m 39 #[.val (.int p0), .val (.int p1), .val (.long q2), .second, .val (.int p3), .val (.int at_), .val (.int (0 : Int32)), .val (.ref b2), .unset, .unset] [(.long ((q2.toUInt64 >>> ((8 : Int32) &&& 0x3f).toInt64.toUInt64).toInt64)), (.int (1 : Int32)), (.ref b2)])) (fun t k => XS.lushr X5.here hx rfl (hb hby at_38) rfl k) ?_
    refine Go.to (g' := (mkF m 40 #[.val (.int p0), .val (.int p1), .val (.long q2), .second, .val (.int p3), .val (.int at_), .val (.int (0 : Int32)), .val (.ref b2), .unset, .unset] [(.int (((q2.toUInt64 >>> ((8 : Int32) &&& 0x3f).toInt64.toUInt64).toInt64).toInt32)), (.int (1 : Int32)), (.ref b2)])) (fun t k => XS.l2i X5.here hx rfl (hb hby at_39) rfl k) ?_
    refine Go.to (g' := (mkF m 41 #[.val (.int p0), .val (.int p1), .val (.long q2), .second, .val (.int p3), .val (.int at_), .val (.int (0 : Int32)), .val (.ref b2), .unset, .unset] [(.int ((((q2.toUInt64 >>> ((8 : Int32) &&& 0x3f).toInt64.toUInt64).toInt64).toInt32).toInt8.toInt32)), (.int (1 : Int32)), (.ref b2)])) (fun t k => XS.i2b X5.here hx rfl (hb hby at_40) rfl k) ?_
    obtain ⟨cl6, Ar6, kc6, S6, M6, H6, G6⟩ := V5
    have hin6 : ¬ ((1 : Int32) < 0 ∨ cl6.slots.size ≤ ((1 : Int32)).toNatClampNeg) := inb_of S6 ⟨by decide, by decide⟩
    obtain ⟨T7, h7, X7, e7, W7, st7⟩ := stB X5 hx hZ e5 Ar6 (j := (1 : Int32)) hin6 (g := (mkF m 41 #[.val (.int p0), .val (.int p1), .val (.long q2), .second, .val (.int p3), .val (.int at_), .val (.int (0 : Int32)), .val (.ref b2), .unset, .unset] [(.int ((((q2.toUInt64 >>> ((8 : Int32) &&& 0x3f).toInt64.toUInt64).toInt64).toInt32).toInt8.toInt32)), (.int (1 : Int32)), (.ref b2)])) rfl rfl (hb hby at_41)
    have Z7 : n0 ≤ h7.size := Nat.le_trans Z5 (Keep.of_wr W7).1
    have K7 : Keep h0 h7 [] := K5.wr W7 (Or.inr sz_b2)
    have N7 := Fr.snoc X7 N5 g_b2
    have V7 : Arv Z h7 b2 k3 .byte (8 : Int32) [(.int (((q2.toInt32).toInt8.toInt32)).toInt8.toInt32), (.int (((((q2.toUInt64 >>> ((8 : Int32) &&& 0x3f).toInt64.toUInt64).toInt64).toInt32).toInt8.toInt32)).toInt8.toInt32), (.int (0 : Int32)), (.int (0 : Int32)), (.int (0 : Int32)), (.int (0 : Int32)), (.int (0 : Int32)), (.int (0 : Int32))] (.int (0 : Int32)) := Arv.set Ar6 kc6 S6 M6 H6 G6 (fits_nar_byte _) W7 1 rfl (Nat.le_of_ble_eq_true rfl)
    refine Go.to (g' := (mkF m 42 #[.val (.int p0), .val (.int p1), .val (.long q2), .second, .val (.int p3), .val (.int at_), .val (.int (0 : Int32)), .val (.ref b2), .unset, .unset] [])) st7 ?_
    refine Go.to (g' := (mkF m 44 #[.val (.int p0), .val (.int p1), .val (.long q2), .second, .val (.int p3), .val (.int at_), .val (.int (0 : Int32)), .val (.ref b2), .unset, .unset] [(.ref b2)])) (fun t k => XS.aload X7.here hx rfl (hb hby at_42) rfl rfl k) ?_
    refine Go.to (g' := (mkF m 45 #[.val (.int p0), .val (.int p1), .val (.long q2), .second, .val (.int p3), .val (.int at_), .val (.int (0 : Int32)), .val (.ref b2), .unset, .unset] [(.int (2 : Int32)), (.ref b2)])) (fun t k => XS.iconst X7.here hx rfl (hb hby at_44) k) ?_
    refine Go.to (g' := (mkF m 46 #[.val (.int p0), .val (.int p1), .val (.long q2), .second, .val (.int p3), .val (.int at_), .val (.int (0 : Int32)), .val (.ref b2), .unset, .unset] [(.long q2), (.int (2 : Int32)), (.ref b2)])) (fun t k => XS.lloadN X7.here hx rfl (hb hby at_45) rfl k) ?_
    refine Go.to (g' := (mkF m 48 #[.val (.int p0), .val (.int p1), .val (.long q2), .second, .val (.int p3), .val (.int at_), .val (.int (0 : Int32)), .val (.ref b2), .unset, .unset] [(.int (16 : Int32)), (.long q2), (.int (2 : Int32)), (.ref b2)])) (fun t k => XS.bipush X7.here hx rfl (hb hby at_46) k) ?_
    refine Go.to (g' := (mkF m 49 #[.val (.int p0), .val (.int p1), .val (.long q2), .second, .val (.int p3), .val (.int at_), .val (.int (0 : Int32)), .val (.ref b2), .unset, .unset] [(.long ((q2.toUInt64 >>> ((16 : Int32) &&& 0x3f).toInt64.toUInt64).toInt64)), (.int (2 : Int32)), (.ref b2)])) (fun t k => XS.lushr X7.here hx rfl (hb hby at_48) rfl k) ?_
    refine Go.to (g' := (mkF m 50 #[.val (.int p0), .val (.int p1), .val (.long q2), .second, .val (.int p3), .val (.int at_), .val (.int (0 : Int32)), .val (.ref b2), .unset, .unset] [(.int (((q2.toUInt64 >>> ((16 : Int32) &&& 0x3f).toInt64.toUInt64).toInt64).toInt32)), (.int (2 : Int32)), (.ref b2)])) (fun t k => XS.l2i X7.here hx rfl (hb hby at_49) rfl k) ?_
    refine Go.to (g' := (mkF m 51 #[.val (.int p0), .val (.int p1), .val (.long q2), .second, .val (.int p3), .val (.int at_), .val (.int (0 : Int32)), .val (.ref b2), .unset, .unset] [(.int ((((q2.toUInt64 >>> ((16 : Int32) &&& 0x3f).toInt64.toUInt64).toInt64).toInt32).toInt8.toInt32)), (.int (2 : Int32)), (.ref b2)])) (fun t k => XS.i2b X7.here hx rfl (hb hby at_50) rfl k) ?_
    obtain ⟨cl8, Ar8, kc8, S8, M8, H8, G8⟩ := V7
    have hin8 : ¬ ((2 : Int32) < 0 ∨ cl8.slots.size ≤ ((2 : Int32)).toNatClampNeg) := inb_of S8 ⟨by decide, by decide⟩
    obtain ⟨T9, h9, X9, e9, W9, st9⟩ := stB X7 hx hZ e7 Ar8 (j := (2 : Int32)) hin8 (g := (mkF m 51 #[.val (.int p0), .val (.int p1), .val (.long q2), .second, .val (.int p3), .val (.int at_), .val (.int (0 : Int32)), .val (.ref b2), .unset, .unset] [(.int ((((q2.toUInt64 >>> ((16 : Int32) &&& 0x3f).toInt64.toUInt64).toInt64).toInt32).toInt8.toInt32)), (.int (2 : Int32)), (.ref b2)])) rfl rfl (hb hby at_51)
    have Z9 : n0 ≤ h9.size := Nat.le_trans Z7 (Keep.of_wr W9).1
    have K9 : Keep h0 h9 [] := K7.wr W9 (Or.inr sz_b2)
    have N9 := Fr.snoc X9 N7 g_b2
    have V9 : Arv Z h9 b2 k3 .byte (8 : Int32) [(.int (((q2.toInt32).toInt8.toInt32)).toInt8.toInt32), (.int (((((q2.toUInt64 >>> ((8 : Int32) &&& 0x3f).toInt64.toUInt64).toInt64).toInt32).toInt8.toInt32)).toInt8.toInt32), (.int (((((q2.toUInt64 >>> ((16 : Int32) &&& 0x3f).toInt64.toUInt64).toInt64).toInt32).toInt8.toInt32)).toInt8.toInt32), (.int (0 : Int32)), (.int (0 : Int32)), (.int (0 : Int32)), (.int (0 : Int32)), (.int (0 : Int32))] (.int (0 : Int32)) := Arv.set Ar8 kc8 S8 M8 H8 G8 (fits_nar_byte _) W9 2 rfl (Nat.le_of_ble_eq_true rfl)
    refine Go.to (g' := (mkF m 52 #[.val (.int p0), .val (.int p1), .val (.long q2), .second, .val (.int p3), .val (.int at_), .val (.int (0 : Int32)), .val (.ref b2), .unset, .unset] [])) st9 ?_
    refine Go.to (g' := (mkF m 54 #[.val (.int p0), .val (.int p1), .val (.long q2), .second, .val (.int p3), .val (.int at_), .val (.int (0 : Int32)), .val (.ref b2), .unset, .unset] [(.ref b2)])) (fun t k => XS.aload X9.here hx rfl (hb hby at_52) rfl rfl k) ?_
    refine Go.to (g' := (mkF m 55 #[.val (.int p0), .val (.int p1), .val (.long q2), .second, .val (.int p3), .val (.int at_), .val (.int (0 : Int32)), .val (.ref b2), .unset, .unset] [(.int (3 : Int32)), (.ref b2)])) (fun t k => XS.iconst X9.here hx rfl (hb hby at_54) k) ?_
    refine Go.to (g' := (mkF m 56 #[.val (.int p0), .val (.int p1), .val (.long q2), .second, .val (.int p3), .val (.int at_), .val (.int (0 : Int32)), .val (.ref b2), .unset, .unset] [(.long q2), (.int (3 : Int32)), (.ref b2)])) (fun t k => XS.lloadN X9.here hx rfl (hb hby at_55) rfl k) ?_
    refine Go.to (g' := (mkF m 58 #[.val (.int p0), .val (.int p1), .val (.long q2), .second, .val (.int p3), .val (.int at_), .val (.int (0 : Int32)), .val (.ref b2), .unset, .unset] [(.int (24 : Int32)), (.long q2), (.int (3 : Int32)), (.ref b2)])) (fun t k => XS.bipush X9.here hx rfl (hb hby at_56) k) ?_
    refine Go.to (g' := (mkF m 59 #[.val (.int p0), .val (.int p1), .val (.long q2), .second, .val (.int p3), .val (.int at_), .val (.int (0 : Int32)), .val (.ref b2), .unset, .unset] [(.long ((q2.toUInt64 >>> ((24 : Int32) &&& 0x3f).toInt64.toUInt64).toInt64)), (.int (3 : Int32)), (.ref b2)])) (fun t k => XS.lushr X9.here hx rfl (hb hby at_58) rfl k) ?_
    refine Go.to (g' := (mkF m 60 #[.val (.int p0), .val (.int p1), .val (.long q2), .second, .val (.int p3), .val (.int at_), .val (.int (0 : Int32)), .val (.ref b2), .unset, .unset] [(.int (((q2.toUInt64 >>> ((24 : Int32) &&& 0x3f).toInt64.toUInt64).toInt64).toInt32)), (.int (3 : Int32)), (.ref b2)])) (fun t k => XS.l2i X9.here hx rfl (hb hby at_59) rfl k) ?_
    refine Go.to (g' := (mkF m 61 #[.val (.int p0), .val (.int p1), .val (.long q2), .second, .val (.int p3), .val (.int at_), .val (.int (0 : Int32)), .val (.ref b2), .unset, .unset] [(.int ((((q2.toUInt64 >>> ((24 : Int32) &&& 0x3f).toInt64.toUInt64).toInt64).toInt32).toInt8.toInt32)), (.int (3 : Int32)), (.ref b2)])) (fun t k => XS.i2b X9.here hx rfl (hb hby at_60) rfl k) ?_
    obtain ⟨cl10, Ar10, kc10, S10, M10, H10, G10⟩ := V9
    have hin10 : ¬ ((3 : Int32) < 0 ∨ cl10.slots.size ≤ ((3 : Int32)).toNatClampNeg) := inb_of S10 ⟨by decide, by decide⟩
    obtain ⟨T11, h11, X11, e11, W11, st11⟩ := stB X9 hx hZ e9 Ar10 (j := (3 : Int32)) hin10 (g := (mkF m 61 #[.val (.int p0), .val (.int p1), .val (.long q2), .second, .val (.int p3), .val (.int at_), .val (.int (0 : Int32)), .val (.ref b2), .unset, .unset] [(.int ((((q2.toUInt64 >>> ((24 : Int32) &&& 0x3f).toInt64.toUInt64).toInt64).toInt32).toInt8.toInt32)), (.int (3 : Int32)), (.ref b2)])) rfl rfl (hb hby at_61)
    have Z11 : n0 ≤ h11.size := Nat.le_trans Z9 (Keep.of_wr W11).1
    have K11 : Keep h0 h11 [] := K9.wr W11 (Or.inr sz_b2)
    have N11 := Fr.snoc X11 N9 g_b2
    have V11 : Arv Z h11 b2 k3 .byte (8 : Int32) [(.int (((q2.toInt32).toInt8.toInt32)).toInt8.toInt32), (.int (((((q2.toUInt64 >>> ((8 : Int32) &&& 0x3f).toInt64.toUInt64).toInt64).toInt32).toInt8.toInt32)).toInt8.toInt32), (.int (((((q2.toUInt64 >>> ((16 : Int32) &&& 0x3f).toInt64.toUInt64).toInt64).toInt32).toInt8.toInt32)).toInt8.toInt32), (.int (((((q2.toUInt64 >>> ((24 : Int32) &&& 0x3f).toInt64.toUInt64).toInt64).toInt32).toInt8.toInt32)).toInt8.toInt32), (.int (0 : Int32)), (.int (0 : Int32)), (.int (0 : Int32)), (.int (0 : Int32))] (.int (0 : Int32)) := Arv.set Ar10 kc10 S10 M10 H10 G10 (fits_nar_byte _) W11 3 rfl (Nat.le_of_ble_eq_true rfl)
    refine Go.to (g' := (mkF m 62 #[.val (.int p0), .val (.int p1), .val (.long q2), .second, .val (.int p3), .val (.int at_), .val (.int (0 : Int32)), .val (.ref b2), .unset, .unset] [])) st11 ?_
    refine Go.to (g' := (mkF m 64 #[.val (.int p0), .val (.int p1), .val (.long q2), .second, .val (.int p3), .val (.int at_), .val (.int (0 : Int32)), .val (.ref b2), .unset, .unset] [(.ref b2)])) (fun t k => XS.aload X11.here hx rfl (hb hby at_62) rfl rfl k) ?_
    refine Go.to (g' := (mkF m 65 #[.val (.int p0), .val (.int p1), .val (.long q2), .second, .val (.int p3), .val (.int at_), .val (.int (0 : Int32)), .val (.ref b2), .unset, .unset] [(.int (4 : Int32)), (.ref b2)])) (fun t k => XS.iconst X11.here hx rfl (hb hby at_64) k) ?_
    refine Go.to (g' := (mkF m 66 #[.val (.int p0), .val (.int p1), .val (.long q2), .second, .val (.int p3), .val (.int at_), .val (.int (0 : Int32)), .val (.ref b2), .unset, .unset] [(.long q2), (.int (4 : Int32)), (.ref b2)])) (fun t k => XS.lloadN X11.here hx rfl (hb hby at_65) rfl k) ?_
    refine Go.to (g' := (mkF m 68 #[.val (.int p0), .val (.int p1), .val (.long q2), .second, .val (.int p3), .val (.int at_), .val (.int (0 : Int32)), .val (.ref b2), .unset, .unset] [(.int (32 : Int32)), (.long q2), (.int (4 : Int32)), (.ref b2)])) (fun t k => XS.bipush X11.here hx rfl (hb hby at_66) k) ?_
    refine Go.to (g' := (mkF m 69 #[.val (.int p0), .val (.int p1), .val (.long q2), .second, .val (.int p3), .val (.int at_), .val (.int (0 : Int32)), .val (.ref b2), .unset, .unset] [(.long ((q2.toUInt64 >>> ((32 : Int32) &&& 0x3f).toInt64.toUInt64).toInt64)), (.int (4 : Int32)), (.ref b2)])) (fun t k => XS.lushr X11.here hx rfl (hb hby at_68) rfl k) ?_
    refine Go.to (g' := (mkF m 70 #[.val (.int p0), .val (.int p1), .val (.long q2), .second, .val (.int p3), .val (.int at_), .val (.int (0 : Int32)), .val (.ref b2), .unset, .unset] [(.int (((q2.toUInt64 >>> ((32 : Int32) &&& 0x3f).toInt64.toUInt64).toInt64).toInt32)), (.int (4 : Int32)), (.ref b2)])) (fun t k => XS.l2i X11.here hx rfl (hb hby at_69) rfl k) ?_
    refine Go.to (g' := (mkF m 71 #[.val (.int p0), .val (.int p1), .val (.long q2), .second, .val (.int p3), .val (.int at_), .val (.int (0 : Int32)), .val (.ref b2), .unset, .unset] [(.int ((((q2.toUInt64 >>> ((32 : Int32) &&& 0x3f).toInt64.toUInt64).toInt64).toInt32).toInt8.toInt32)), (.int (4 : Int32)), (.ref b2)])) (fun t k => XS.i2b X11.here hx rfl (hb hby at_70) rfl k) ?_
    obtain ⟨cl12, Ar12, kc12, S12, M12, H12, G12⟩ := V11
    have hin12 : ¬ ((4 : Int32) < 0 ∨ cl12.slots.size ≤ ((4 : Int32)).toNatClampNeg) := inb_of S12 ⟨by decide, by decide⟩
    obtain ⟨T13, h13, X13, e13, W13, st13⟩ := stB X11 hx hZ e11 Ar12 (j := (4 : Int32)) hin12 (g := (mkF m 71 #[.val (.int p0), .val (.int p1), .val (.long q2), .second, .val (.int p3), .val (.int at_), .val (.int (0 : Int32)), .val (.ref b2), .unset, .unset] [(.int ((((q2.toUInt64 >>> ((32 : Int32) &&& 0x3f).toInt64.toUInt64).toInt64).toInt32).toInt8.toInt32)), (.int (4 : Int32)), (.ref b2)])) rfl rfl (hb hby at_71)
    have Z13 : n0 ≤ h13.size := Nat.le_trans Z11 (Keep.of_wr W13).1
    have K13 : Keep h0 h13 [] := K11.wr W13 (Or.inr sz_b2)
    have N13 := Fr.snoc X13 N11 g_b2
    have V13 : Arv Z h13 b2 k3 .byte (8 : Int32) [(.int (((q2.toInt32).toInt8.toInt32)).toInt8.toInt32), (.int (((((q2.toUInt64 >>> ((8 : Int32) &&& 0x3f).toInt64.toUInt64).toInt64).toInt32).toInt8.toInt32)).toInt8.toInt32), (.int (((((q2.toUInt64 >>> ((16 : Int32) &&& 0x3f).toInt64.toUInt64).toInt64).toInt32).toInt8.toInt32)).toInt8.toInt32), (.int (((((q2.toUInt64 >>> ((24 : Int32) &&& 0x3f).toInt64.toUInt64).toInt64).toInt32).toInt8.toInt32)).toInt8.toInt32), (.int (((((q2.toUInt64 >>> ((32 : Int32) &&& 0x3f).toInt64.toUInt64).toInt64).toInt32).toInt8.toInt32)).toInt8.toInt32), (.int (0 : Int32)), (.int (0 : Int32)), (.int (0 : Int32))] (.int (0 : Int32)) := Arv.set Ar12 kc12 S12 M12 H12 G12 (fits_nar_byte _) W13 4 rfl (Nat.le_of_ble_eq_true rfl)
    refine Go.to (g' := (mkF m 72 #[.val (.int p0), .val (.int p1), .val (.long q2), .second, .val (.int p3), .val (.int at_), .val (.int (0 : Int32)), .val (.ref b2), .unset, .unset] [])) st13 ?_
    refine Go.to (g' := (mkF m 74 #[.val (.int p0), .val (.int p1), .val (.long q2), .second, .val (.int p3), .val (.int at_), .val (.int (0 : Int32)), .val (.ref b2), .unset, .unset] [(.ref b2)])) (fun t k => XS.aload X13.here hx rfl (hb hby at_72) rfl rfl k) ?_
    refine Go.to (g' := (mkF m 75 #[.val (.int p0), .val (.int p1), .val (.long q2), .second, .val (.int p3), .val (.int at_), .val (.int (0 : Int32)), .val (.ref b2), .unset, .unset] [(.int (5 : Int32)), (.ref b2)])) (fun t k => XS.iconst X13.here hx rfl (hb hby at_74) k) ?_
    refine Go.to (g' := (mkF m 76 #[.val (.int p0), .val (.int p1), .val (.long q2), .second, .val (.int p3), .val (.int at_), .val (.int (0 : Int32)), .val (.ref b2), .unset, .unset] [(.long q2), (.int (5 : Int32)), (.ref b2)])) (fun t k => XS.lloadN X13.here hx rfl (hb hby at_75) rfl k) ?_
    refine Go.to (g' := (mkF m 78 #[.val (.int p0), .val (.int p1), .val (.long q2), .second, .val (.int p3), .val (.int at_), .val (.int (0 : Int32)), .val (.ref b2), .unset, .unset] [(.int (40 : Int32)), (.long q2), (.int (5 : Int32)), (.ref b2)])) (fun t k => XS.bipush X13.here hx rfl (hb hby at_76) k) ?_
    refine Go.to (g' := (mkF m 79 #[.val (.int p0), .val (.int p1), .val (.long q2), .second, .val (.int p3), .val (.int at_), .val (.int (0 : Int32)), .val (.ref b2), .unset, .unset] [(.long ((q2.toUInt64 >>> ((40 : Int32) &&& 0x3f).toInt64.toUInt64).toInt64)), (.int (5 : Int32)), (.ref b2)])) (fun t k => XS.lushr X13.here hx rfl (hb hby at_78) rfl k) ?_
    refine Go.to (g' := (mkF m 80 #[.val (.int p0), .val (.int p1), .val (.long q2), .second, .val (.int p3), .val (.int at_), .val (.int (0 : Int32)), .val (.ref b2), .unset, .unset] [(.int (((q2.toUInt64 >>> ((40 : Int32) &&& 0x3f).toInt64.toUInt64).toInt64).toInt32)), (.int (5 : Int32)), (.ref b2)])) (fun t k => XS.l2i X13.here hx rfl (hb hby at_79) rfl k) ?_
    refine Go.to (g' := (mkF m 81 #[.val (.int p0), .val (.int p1), .val (.long q2), .second, .val (.int p3), .val (.int at_), .val (.int (0 : Int32)), .val (.ref b2), .unset, .unset] [(.int ((((q2.toUInt64 >>> ((40 : Int32) &&& 0x3f).toInt64.toUInt64).toInt64).toInt32).toInt8.toInt32)), (.int (5 : Int32)), (.ref b2)])) (fun t k => XS.i2b X13.here hx rfl (hb hby at_80) rfl k) ?_
    obtain ⟨cl14, Ar14, kc14, S14, M14, H14, G14⟩ := V13
    have hin14 : ¬ ((5 : Int32) < 0 ∨ cl14.slots.size ≤ ((5 : Int32)).toNatClampNeg) := inb_of S14 ⟨by decide, by decide⟩
    obtain ⟨T15, h15, X15, e15, W15, st15⟩ := stB X13 hx hZ e13 Ar14 (j := (5 : Int32)) hin14 (g := (mkF m 81 #[.val (.int p0), .val (.int p1), .val (.long q2), .second, .val (.int p3), .val (.int at_), .val (.int (0 : Int32)), .val (.ref b2), .unset, .unset] [(.int ((((q2.toUInt64 >>> ((40 : Int32) &&& 0x3f).toInt64.toUInt64).toInt64).toInt32).toInt8.toInt32)), (.int (5 : Int32)), (.ref b2)])) rfl rfl (hb hby at_81)
    have Z15 : n0 ≤ h15.size := Nat.le_trans Z13 (Keep.of_wr W15).1
    have K15 : Keep h0 h15 [] := K13.wr W15 (Or.inr sz_b2)
    have N15 := Fr.snoc X15 N13 g_b2
    have V15 : Arv Z h15 b2 k3 .byte (8 : Int32) [(.int (((q2.toInt32).toInt8.toInt32)).toInt8.toInt32), (.int (((((q2.toUInt64 >>> ((8 : Int32) &&& 0x3f).toInt64.toUInt64).toInt64).toInt32).toInt8.toInt32)).toInt8.toInt32), (.int (((((q2.toUInt64 >>> ((16 : Int32) &&& 0x3f).toInt64.toUInt64).toInt64).toInt32).toInt8.toInt32)).toInt8.toInt32), (.int (((((q2.toUInt64 >>> ((24 : Int32) &&& 0x3f).toInt64.toUInt64).toInt64).toInt32).toInt8.toInt32)).toInt8.toInt32), (.int (((((q2.toUInt64 >>> ((32 : Int32) &&& 0x3f).toInt64.toUInt64).toInt64).toInt32).toInt8.toInt32)).toInt8.toInt32), (.int (((((q2.toUInt64 >>> ((40 : Int32) &&& 0x3f).toInt64.toUInt64).toInt64).toInt32).toInt8.toInt32)).toInt8.toInt32), (.int (0 : Int32)), (.int (0 : Int32))] (.int (0 : Int32)) := Arv.set Ar14 kc14 S14 M14 H14 G14 (fits_nar_byte _) W15 5 rfl (Nat.le_of_ble_eq_true rfl)
    refine Go.to (g' := (mkF m 82 #[.val (.int p0), .val (.int p1), .val (.long q2), .second, .val (.int p3), .val (.int at_), .val (.int (0 : Int32)), .val (.ref b2), .unset, .unset] [])) st15 ?_
    refine Go.to (g' := (mkF m 84 #[.val (.int p0), .val (.int p1), .val (.long q2), .second, .val (.int p3), .val (.int at_), .val (.int (0 : Int32)), .val (.ref b2), .unset, .unset] [(.ref b2)])) (fun t k => XS.aload X15.here hx rfl (hb hby at_82) rfl rfl k) ?_
    refine Go.to (g' := (mkF m 86 #[.val (.int p0), .val (.int p1), .val (.long q2), .second, .val (.int p3), .val (.int at_), .val (.int (0 : Int32)), .val (.ref b2), .unset, .unset] [(.int (6 : Int32)), (.ref b2)])) (fun t k => XS.bipush X15.here hx rfl (hb hby at_84) k) ?_
    refine Go.to (g' := (mkF m 87 #[.val (.int p0), .val (.int p1), .val (.long q2), .second, .val (.int p3), .val (.int at_), .val (.int (0 : Int32)), .val (.ref b2), .unset, .unset] [(.long q2), (.int (6 : Int32)), (.ref b2)])) (fun t k => XS.lloadN X15.here hx rfl (hb hby at_86) rfl k) ?_
    refine Go.to (g' := (mkF m 89 #[.val (.int p0), .val (.int p1), .val (.long q2), .second, .val (.int p3), .val (.int at_), .val (.int (0 : Int32)), .val (.ref b2), .unset, .unset] [(.int (48 : Int32)), (.long q2), (.int (6 : Int32)), (.ref b2)])) (fun t k => XS.bipush X15.here hx rfl (hb hby at_87) k) ?_
    refine Go.to (g' := (mkF m 90 #[.val (.int p0), .val (.int p1), .val (.long q2), .second, .val (.int p3), .val (.int at_), .val (.int (0 : Int32)), .val (.ref b2), .unset, .unset] [(.long ((q2.toUInt64 >>> ((48 : Int32) &&& 0x3f).toInt64.toUInt64).toInt64)), (.int (6 : Int32)), (.ref b2)])) (fun t k => XS.lushr X15.here hx rfl (hb hby at_89) rfl k) ?_
    refine Go.to (g' := (mkF m 91 #[.val (.int p0), .val (.int p1), .val (.long q2), .second, .val (.int p3), .val (.int at_), .val (.int (0 : Int32)), .val (.ref b2), .unset, .unset] [(.int (((q2.toUInt64 >>> ((48 : Int32) &&& 0x3f).toInt64.toUInt64).toInt64).toInt32)), (.int (6 : Int32)), (.ref b2)])) (fun t k => XS.l2i X15.here hx rfl (hb hby at_90) rfl k) ?_
    refine Go.to (g' := (mkF m 92 #[.val (.int p0), .val (.int p1), .val (.long q2), .second, .val (.int p3), .val (.int at_), .val (.int (0 : Int32)), .val (.ref b2), .unset, .unset] [(.int ((((q2.toUInt64 >>> ((48 : Int32) &&& 0x3f).toInt64.toUInt64).toInt64).toInt32).toInt8.toInt32)), (.int (6 : Int32)), (.ref b2)])) (fun t k => XS.i2b X15.here hx rfl (hb hby at_91) rfl k) ?_
    obtain ⟨cl16, Ar16, kc16, S16, M16, H16, G16⟩ := V15
    have hin16 : ¬ ((6 : Int32) < 0 ∨ cl16.slots.size ≤ ((6 : Int32)).toNatClampNeg) := inb_of S16 ⟨by decide, by decide⟩
    obtain ⟨T17, h17, X17, e17, W17, st17⟩ := stB X15 hx hZ e15 Ar16 (j := (6 : Int32)) hin16 (g := (mkF m 92 #[.val (.int p0), .val (.int p1), .val (.long q2), .second, .val (.int p3), .val (.int at_), .val (.int (0 : Int32)), .val (.ref b2), .unset, .unset] [(.int ((((q2.toUInt64 >>> ((48 : Int32) &&& 0x3f).toInt64.toUInt64).toInt64).toInt32).toInt8.toInt32)), (.int (6 : Int32)), (.ref b2)])) rfl rfl (hb hby at_92)
    have Z17 : n0 ≤ h17.size := Nat.le_trans Z15 (Keep.of_wr W17).1
    have K17 : Keep h0 h17 [] := K15.wr W17 (Or.inr sz_b2)
    have N17 := Fr.snoc X17 N15 g_b2
    have V17 : Arv Z h17 b2 k3 .byte (8 : Int32) [(.int (((q2.toInt32).toInt8.toInt32)).toInt8.toInt32), (.int (((((q2.toUInt64 >>> ((8 : Int32) &&& 0x3f).toInt64.toUInt64).toInt64).toInt32).toInt8.toInt32)).toInt8.toInt32), (.int (((((q2.toUInt64 >>> ((16 : Int32) &&& 0x3f).toInt64.toUInt64).toInt64).toInt32).toInt8.toInt32)).toInt8.toInt32), (.int (((((q2.toUInt64 >>> ((24 : Int32) &&& 0x3f).toInt64.toUInt64).toInt64).toInt32).toInt8.toInt32)).toInt8.toInt32), (.int (((((q2.toUInt64 >>> ((32 : Int32) &&& 0x3f).toInt64.toUInt64).toInt64).toInt32).toInt8.toInt32)).toInt8.toInt32), (.int (((((q2.toUInt64 >>> ((40 : Int32) &&& 0x3f).toInt64.toUInt64).toInt64).toInt32).toInt8.toInt32)).toInt8.toInt32), (.int (((((q2.toUInt64 >>> ((48 : Int32) &&& 0x3f).toInt64.toUInt64).toInt64).toInt32).toInt8.toInt32)).toInt8.toInt32), (.int (0 : Int32))] (.int (0 : Int32)) := Arv.set Ar16 kc16 S16 M16 H16 G16 (fits_nar_byte _) W17 6 rfl (Nat.le_of_ble_eq_true rfl)
    refine Go.to (g' := (mkF m 93 #[.val (.int p0), .val (.int p1), .val (.long q2), .second, .val (.int p3), .val (.int at_), .val (.int (0 : Int32)), .val (.ref b2), .unset, .unset] [])) st17 ?_
    refine Go.to (g' := (mkF m 95 #[.val (.int p0), .val (.int p1), .val (.long q2), .second, .val (.int p3), .val (.int at_), .val (.int (0 : Int32)), .val (.ref b2), .unset, .unset] [(.ref b2)])) (fun t k => XS.aload X17.here hx rfl (hb hby at_93) rfl rfl k) ?_
    refine Go.to (g' := (mkF m 97 #[.val (.int p0), .val (.int p1), .val (.long q2), .second, .val (.int p3), .val (.int at_), .val (.int (0 : Int32)), .val (.ref b2), .unset, .unset] [(.int (7 : Int32)), (.ref b2)])) (fun t k => XS.bipush X17.here hx rfl (hb hby at_95) k) ?_
    refine Go.to (g' := (mkF m 98 #[.val (.int p0), .val (.int p1), .val (.long q2), .second, .val (.int p3), .val (.int at_), .val (.int (0 : Int32)), .val (.ref b2), .unset, .unset] [(.long q2), (.int (7 : Int32)), (.ref b2)])) (fun t k => XS.lloadN X17.here hx rfl (hb hby at_97) rfl k) ?_
    refine Go.to (g' := (mkF m 100 #[.val (.int p0), .val (.int p1), .val (.long q2), .second, .val (.int p3), .val (.int at_), .val (.int (0 : Int32)), .val (.ref b2), .unset, .unset] [(.int (56 : Int32)), (.long q2), (.int (7 : Int32)), (.ref b2)])) (fun t k => XS.bipush X17.here hx rfl (hb hby at_98) k) ?_
    refine Go.to (g' := (mkF m 101 #[.val (.int p0), .val (.int p1), .val (.long q2), .second, .val (.int p3), .val (.int at_), .val (.int (0 : Int32)), .val (.ref b2), .unset, .unset] [(.long ((q2.toUInt64 >>> ((56 : Int32) &&& 0x3f).toInt64.toUInt64).toInt64)), (.int (7 : Int32)), (.ref b2)])) (fun t k => XS.lushr X17.here hx rfl (hb hby at_100) rfl k) ?_
    refine Go.to (g' := (mkF m 102 #[.val (.int p0), .val (.int p1), .val (.long q2), .second, .val (.int p3), .val (.int at_), .val (.int (0 : Int32)), .val (.ref b2), .unset, .unset] [(.int (((q2.toUInt64 >>> ((56 : Int32) &&& 0x3f).toInt64.toUInt64).toInt64).toInt32)), (.int (7 : Int32)), (.ref b2)])) (fun t k => XS.l2i X17.here hx rfl (hb hby at_101) rfl k) ?_
    refine Go.to (g' := (mkF m 103 #[.val (.int p0), .val (.int p1), .val (.long q2), .second, .val (.int p3), .val (.int at_), .val (.int (0 : Int32)), .val (.ref b2), .unset, .unset] [(.int ((((q2.toUInt64 >>> ((56 : Int32) &&& 0x3f).toInt64.toUInt64).toInt64).toInt32).toInt8.toInt32)), (.int (7 : Int32)), (.ref b2)])) (fun t k => XS.i2b X17.here hx rfl (hb hby at_102) rfl k) ?_
    obtain ⟨cl18, Ar18, kc18, S18, M18, H18, G18⟩ := V17
    have hin18 : ¬ ((7 : Int32) < 0 ∨ cl18.slots.size ≤ ((7 : Int32)).toNatClampNeg) := inb_of S18 ⟨by decide, by decide⟩
    obtain ⟨T19, h19, X19, e19, W19, st19⟩ := stB X17 hx hZ e17 Ar18 (j := (7 : Int32)) hin18 (g := (mkF m 103 #[.val (.int p0), .val (.int p1), .val (.long q2), .second, .val (.int p3), .val (.int at_), .val (.int (0 : Int32)), .val (.ref b2), .unset, .unset] [(.int ((((q2.toUInt64 >>> ((56 : Int32) &&& 0x3f).toInt64.toUInt64).toInt64).toInt32).toInt8.toInt32)), (.int (7 : Int32)), (.ref b2)])) rfl rfl (hb hby at_103)
    have Z19 : n0 ≤ h19.size := Nat.le_trans Z17 (Keep.of_wr W19).1
    have K19 : Keep h0 h19 [] := K17.wr W19 (Or.inr sz_b2)
    have N19 := Fr.snoc X19 N17 g_b2
    have V19 : Arv Z h19 b2 k3 .byte (8 : Int32) [(.int (((q2.toInt32).toInt8.toInt32)).toInt8.toInt32), (.int (((((q2.toUInt64 >>> ((8 : Int32) &&& 0x3f).toInt64.toUInt64).toInt64).toInt32).toInt8.toInt32)).toInt8.toInt32), (.int (((((q2.toUInt64 >>> ((16 : Int32) &&& 0x3f).toInt64.toUInt64).toInt64).toInt32).toInt8.toInt32)).toInt8.toInt32), (.int (((((q2.toUInt64 >>> ((24 : Int32) &&& 0x3f).toInt64.toUInt64).toInt64).toInt32).toInt8.toInt32)).toInt8.toInt32), (.int (((((q2.toUInt64 >>> ((32 : Int32) &&& 0x3f).toInt64.toUInt64).toInt64).toInt32).toInt8.toInt32)).toInt8.toInt32), (.int (((((q2.toUInt64 >>> ((40 : Int32) &&& 0x3f).toInt64.toUInt64).toInt64).toInt32).toInt8.toInt32)).toInt8.toInt32), (.int (((((q2.toUInt64 >>> ((48 : Int32) &&& 0x3f).toInt64.toUInt64).toInt64).toInt32).toInt8.toInt32)).toInt8.toInt32), (.int (((((q2.toUInt64 >>> ((56 : Int32) &&& 0x3f).toInt64.toUInt64).toInt64).toInt32).toInt8.toInt32)).toInt8.toInt32)] (.int (0 : Int32)) := Arv.set Ar18 kc18 S18 M18 H18 G18 (fits_nar_byte _) W19 7 rfl (Nat.le_of_ble_eq_true rfl)
    refine Go.to (g' := (mkF m 104 #[.val (.int p0), .val (.int p1), .val (.long q2), .second, .val (.int p3), .val (.int at_), .val (.int (0 : Int32)), .val (.ref b2), .unset, .unset] [])) st19 ?_
    obtain ⟨f, B⟩ : ∃ f, own_By Z h19 b2 8 f := own_by_of V19 rfl
    refine Go.to (g' := (mkF m 106 #[.val (.int p0), .val (.int p1), .val (.long q2), .second, .val (.int p3), .val (.int at_), .val (.int (0 : Int32)), .val (.ref b2), .unset, .unset] [(.int (0 : Int32))])) (fun t k => XS.iload X19.here hx rfl (hb hby at_104) rfl k) ?_
    refine Go.to (g' := (mkF m 155 #[.val (.int p0), .val (.int p1), .val (.long q2), .second, .val (.int p3), .val (.int at_), .val (.int (0 : Int32)), .val (.ref b2), .unset, .unset] [])) (fun t k => XS.ifYes X19.here hx rfl (pc0 := 106) (pc' := 155) rfl (hb hby at_106) rfl ((if0 _ _).trans (teq (by decide)).1) (by decide) (by decide) k) ?_
    refine Go.to (g' := (mkF m 157 #[.val (.int p0), .val (.int p1), .val (.long q2), .second, .val (.int p3), .val (.int at_), .val (.int (0 : Int32)), .val (.ref b2), .unset, .unset] [(.ref b2)])) (fun t k => XS.aload X19.here hx rfl (hb hby at_155) rfl rfl k) ?_
    refine Go.to (g' := (mkF m 159 #[.val (.int p0), .val (.int p1), .val (.long q2), .second, .val (.int p3), .val (.int at_), .val (.int (0 : Int32)), .val (.ref b2), .unset, .unset] [(.int at_), (.ref b2)])) (fun t k => XS.iload X19.here hx rfl (hb hby at_157) rfl k) ?_
    refine Go.to (g' := (mkF m 160 #[.val (.int p0), .val (.int p1), .val (.long q2), .second, .val (.int p3), .val (.int at_), .val (.int (0 : Int32)), .val (.ref b2), .unset, .unset] [(.int p0), (.int at_), (.ref b2)])) (fun t k => XS.iloadN X19.here hx rfl (hb hby at_159) rfl k) ?_
    refine Go.to (g' := (mkF m 161 #[.val (.int p0), .val (.int p1), .val (.long q2), .second, .val (.int p3), .val (.int at_), .val (.int (0 : Int32)), .val (.ref b2), .unset, .unset] [(.int (p0.toInt8.toInt32)), (.int at_), (.ref b2)])) (fun t k => XS.i2b X19.here hx rfl (hb hby at_160) rfl k) ?_
    obtain ⟨cl20, Ar20, Sz20, Hf20⟩ := id B
    obtain ⟨T21, h21, X21, e21, W21, st21⟩ := stB X19 hx hZ e19 Ar20 (j := at_) (own_by_in Sz20 hat (own_k0 hat3)) (g := (mkF m 161 #[.val (.int p0), .val (.int p1), .val (.long q2), .second, .val (.int p3), .val (.int at_), .val (.int (0 : Int32)), .val (.ref b2), .unset, .unset] [(.int (p0.toInt8.toInt32)), (.int at_), (.ref b2)])) rfl rfl (hb hby at_161)
    have Z21 : n0 ≤ h21.size := Nat.le_trans Z19 (Keep.of_wr W21).1
    have K21 : Keep h0 h21 [] := K19.wr W21 (Or.inr sz_b2)
    have N21 := Fr.snoc X21 N19 g_b2
    have B21 : own_By Z h21 b2 8 (own_upd f at_ ((p0.toInt8.toInt32).toInt8.toInt32)) := B.set hat W21
    refine Go.to (g' := (mkF m 162 #[.val (.int p0), .val (.int p1), .val (.long q2), .second, .val (.int p3), .val (.int at_), .val (.int (0 : Int32)), .val (.ref b2), .unset, .unset] [])) st21 ?_
    refine Go.to (g' := (mkF m 164 #[.val (.int p0), .val (.int p1), .val (.long q2), .second, .val (.int p3), .val (.int at_), .val (.int (0 : Int32)), .val (.ref b2), .unset, .unset] [(.ref b2)])) (fun t k => XS.aload X21.here hx rfl (hb hby at_162) rfl rfl k) ?_
    refine Go.to (g' := (mkF m 166 #[.val (.int p0), .val (.int p1), .val (.long q2), .second, .val (.int p3), .val (.int at_), .val (.int (0 : Int32)), .val (.ref b2), .unset, .unset] [(.int at_), (.ref b2)])) (fun t k => XS.iload X21.here hx rfl (hb hby at_164) rfl k) ?_
    refine Go.to (g' := (mkF m 167 #[.val (.int p0), .val (.int p1), .val (.long q2), .second, .val (.int p3), .val (.int at_), .val (.int (0 : Int32)), .val (.ref b2), .unset, .unset] [(.int (1 : Int32)), (.int at_), (.ref b2)])) (fun t k => XS.iconst X21.here hx rfl (hb hby at_166) k) ?_
    refine Go.to (g' := (mkF m 168 #[.val (.int p0), .val (.int p1), .val (.long q2), .second, .val (.int p3), .val (.int at_), .val (.int (0 : Int32)), .val (.ref b2), .unset, .unset] [(.int (at_ + (1 : Int32))), (.ref b2)])) (fun t k => XS.iadd X21.here hx rfl (hb hby at_167) rfl k) ?_
    refine Go.to (g' := (mkF m 169 #[.val (.int p0), .val (.int p1), .val (.long q2), .second, .val (.int p3), .val (.int at_), .val (.int (0 : Int32)), .val (.ref b2), .unset, .unset] [(.int p0), (.int (at_ + (1 : Int32))), (.ref b2)])) (fun t k => XS.iloadN X21.here hx rfl (hb hby at_168) rfl k) ?_
    refine Go.to (g' := (mkF m 171 #[.val (.int p0), .val (.int p1), .val (.long q2), .second, .val (.int p3), .val (.int at_), .val (.int (0 : Int32)), .val (.ref b2), .unset, .unset] [(.int (8 : Int32)), (.int p0), (.int (at_ + (1 : Int32))), (.ref b2)])) (fun t k => XS.bipush X21.here hx rfl (hb hby at_169) k) ?_
    refine Go.to (g' := (mkF m 172 #[.val (.int p0), .val (.int p1), .val (.long q2), .second, .val (.int p3), .val (.int at_), .val (.int (0 : Int32)), .val (.ref b2), .unset, .unset] [(.int ((p0.toUInt32 >>> ((8 : Int32) &&& 31).toUInt32).toInt32)), (.int (at_ + (1 : Int32))), (.ref b2)])) (fun t k => XS.iushr X21.here hx rfl (hb hby at_171) rfl k) ?_
    refine Go.to (g' := (mkF m 173 #[.val (.int p0), .val (.int p1), .val (.long q2), .second, .val (.int p3), .val (.int at_), .val (.int (0 : Int32)), .val (.ref b2), .unset, .unset] [(.int (((p0.toUInt32 >>> ((8 : Int32) &&& 31).toUInt32).toInt32).toInt8.toInt32)), (.int (at_ + (1 : Int32))), (.ref b2)])) (fun t k => XS.i2b X21.here hx rfl (hb hby at_172) rfl k) ?_
    obtain ⟨cl22, Ar22, Sz22, Hf22⟩ := id B21
    obtain ⟨T23, h23, X23, e23, W23, st23⟩ := stB X21 hx hZ e21 Ar22 (j := (at_ + (1 : Int32))) (own_by_in Sz22 (own_kn hat hat3 (by decide) (by decide)) (own_kl hat hat3 (by decide) (by decide))) (g := (mkF m 173 #[.val (.int p0), .val (.int p1), .val (.long q2), .second, .val (.int p3), .val (.int at_), .val (.int (0 : Int32)), .val (.ref b2), .unset, .unset] [(.int (((p0.toUInt32 >>> ((8 : Int32) &&& 31).toUInt32).toInt32).toInt8.toInt32)), (.int (at_ + (1 : Int32))), (.ref b2)])) rfl rfl (hb hby at_173)
    have Z23 : n0 ≤ h23.size := Nat.le_trans Z21 (Keep.of_wr W23).1
    have K23 : Keep h0 h23 [] := K21.wr W23 (Or.inr sz_b2)
    have N23 := Fr.snoc X23 N21 g_b2
    have B23 : own_By Z h23 b2 8 (own_upd (own_upd f at_ ((p0.toInt8.toInt32).toInt8.toInt32)) (at_ + (1 : Int32)) ((((p0.toUInt32 >>> ((8 : Int32) &&& 31).toUInt32).toInt32).toInt8.toInt32).toInt8.toInt32)) := B21.set (own_kn hat hat3 (by decide) (by decide)) W23
    refine Go.to (g' := (mkF m 174 #[.val (.int p0), .val (.int p1), .val (.long q2), .second, .val (.int p3), .val (.int at_), .val (.int (0 : Int32)), .val (.ref b2), .unset, .unset] [])) st23 ?_
    refine Go.to (g' := (mkF m 176 #[.val (.int p0), .val (.int p1), .val (.long q2), .second, .val (.int p3), .val (.int at_), .val (.int (0 : Int32)), .val (.ref b2), .unset, .unset] [(.ref b2)])) (fun t k => XS.aload X23.here hx rfl (hb hby at_174) rfl rfl k) ?_
    refine Go.to (g' := (mkF m 178 #[.val (.int p0), .val (.int p1), .val (.long q2), .second, .val (.int p3), .val (.int at_), .val (.int (0 : Int32)), .val (.ref b2), .unset, .unset] [(.int at_), (.ref b2)])) (fun t k => XS.iload X23.here hx rfl (hb hby at_176) rfl k) ?_
    refine Go.to (g' := (mkF m 179 #[.val (.int p0), .val (.int p1), .val (.long q2), .second, .val (.int p3), .val (.int at_), .val (.int (0 : Int32)), .val (.ref b2), .unset, .unset] [(.int (2 : Int32)), (.int at_), (.ref b2)])) (fun t k => XS.iconst X23.here hx rfl (hb hby at_178) k) ?_
    refine Go.to (g' := (mkF m 180 #[.val (.int p0), .val (.int p1), .val (.long q2), .second, .val (.int p3), .val (.int at_), .val (.int (0 : Int32)), .val (.ref b2), .unset, .unset] [(.int (at_ + (2 : Int32))), (.ref b2)])) (fun t k => XS.iadd X23.here hx rfl (hb hby at_179) rfl k) ?_
    refine Go.to (g' := (mkF m 181 #[.val (.int p0), .val (.int p1), .val (.long q2), .second, .val (.int p3), .val (.int at_), .val (.int (0 : Int32)), .val (.ref b2), .unset, .unset] [(.int p0), (.int (at_ + (2 : Int32))), (.ref b2)])) (fun t k => XS.iloadN X23.here hx rfl (hb hby at_180) rfl k) ?_
    refine Go.to (g' := (mkF m 183 #[.val (.int p0), .val (.int p1), .val (.long q2), .second, .val (.int p3), .val (.int at_), .val (.int (0 : Int32)), .val (.ref b2), .unset, .unset] [(.int (16 : Int32)), (.int p0), (.int (at_ + (2 : Int32))), (.ref b2)])) (fun t k => XS.bipush X23.here hx rfl (hb hby at_181) k) ?_
    refine Go.to (g' := (mkF m 184 #[.val (.int p0), .val (.int p1), .val (.long q2), .second, .val (.int p3), .val (.int at_), .val (.int (0 : Int32)), .val (.ref b2), .unset, .unset] [(.int ((p0.toUInt32 >>> ((16 : Int32) &&& 31).toUInt32).toInt32)), (.int (at_ + (2 : Int32))), (.ref b2)])) (fun t k => XS.iushr X23.here hx rfl (hb hby at_183) rfl k) ?_
    refine Go.to (g' := (mkF m 185 #[.val (.int p0), .val (.int p1), .val (.long q2), .second, .val (.int p3), .val (.int at_), .val (.int (0 : Int32)), .val (.ref b2), .unset, .unset] [(.int (((p0.toUInt32 >>> ((16 : Int32) &&& 31).toUInt32).toInt32).toInt8.toInt32)), (.int (at_ + (2 : Int32))), (.ref b2)])) (fun t k => XS.i2b X23.here hx rfl (hb hby at_184) rfl k) ?_
    obtain ⟨cl24, Ar24, Sz24, Hf24⟩ := id B23
    obtain ⟨T25, h25, X25, e25, W25, st25⟩ := stB X23 hx hZ e23 Ar24 (j := (at_ + (2 : Int32))) (own_by_in Sz24 (own_kn hat hat3 (by decide) (by decide)) (own_kl hat hat3 (by decide) (by decide))) (g := (mkF m 185 #[.val (.int p0), .val (.int p1), .val (.long q2), .second, .val (.int p3), .val (.int at_), .val (.int (0 : Int32)), .val (.ref b2), .unset, .unset] [(.int (((p0.toUInt32 >>> ((16 : Int32) &&& 31).toUInt32).toInt32).toInt8.toInt32)), (.int (at_ + (2 : Int32))), (.ref b2)])) rfl rfl (hb hby at_185)
    have Z25 : n0 ≤ h25.size := Nat.le_trans Z23 (Keep.of_wr W25).1
    have K25 : Keep h0 h25 [] := K23.wr W25 (Or.inr sz_b2)
    have N25 := Fr.snoc X25 N23 g_b2
    have B25 : own_By Z h25 b2 8 (own_upd (own_upd (own_upd f at_ ((p0.toInt8.toInt32).toInt8.toInt32)) (at_ + (1 : Int32)) ((((p0.toUInt32 >>> ((8 : Int32) &&& 31).toUInt32).toInt32).toInt8.toInt32).toInt8.toInt32)) (at_ + (2 : Int32)) ((((p0.toUInt32 >>> ((16 : Int32) &&& 31).toUInt32).toInt32).toInt8.toInt32).toInt8.toInt32)) := B23.set (own_kn hat hat3 (by decide) (by decide)) W25
    refine Go.to (g' := (mkF m 186 #[.val (.int p0), .val (.int p1), .val (.long q2), .second, .val (.int p3), .val (.int at_), .val (.int (0 : Int32)), .val (.ref b2), .unset, .unset] [])) st25 ?_
    refine Go.to (g' := (mkF m 188 #[.val (.int p0), .val (.int p1), .val (.long q2), .second, .val (.int p3), .val (.int at_), .val (.int (0 : Int32)), .val (.ref b2), .unset, .unset] [(.ref b2)])) (fun t k => XS.aload X25.here hx rfl (hb hby at_186) rfl rfl k) ?_
    refine Go.to (g' := (mkF m 190 #[.val (.int p0), .val (.int p1), .val (.long q2), .second, .val (.int p3), .val (.int at_), .val (.int (0 : Int32)), .val (.ref b2), .unset, .unset] [(.int at_), (.ref b2)])) (fun t k => XS.iload X25.here hx rfl (hb hby at_188) rfl k) ?_
    refine Go.to (g' := (mkF m 191 #[.val (.int p0), .val (.int p1), .val (.long q2), .second, .val (.int p3), .val (.int at_), .val (.int (0 : Int32)), .val (.ref b2), .unset, .unset] [(.int (3 : Int32)), (.int at_), (.ref b2)])) (fun t k => XS.iconst X25.here hx rfl (hb hby at_190) k) ?_
    refine Go.to (g' := (mkF m 192 #[.val (.int p0), .val (.int p1), .val (.long q2), .second, .val (.int p3), .val (.int at_), .val (.int (0 : Int32)), .val (.ref b2), .unset, .unset] [(.int (at_ + (3 : Int32))), (.ref b2)])) (fun t k => XS.iadd X25.here hx rfl (hb hby at_191) rfl k) ?_
    refine Go.to (g' := (mkF m 193 #[.val (.int p0), .val (.int p1), .val (.long q2), .second, .val (.int p3), .val (.int at_), .val (.int (0 : Int32)), .val (.ref b2), .unset, .unset] [(.int p0), (.int (at_ + (3 : Int32))), (.ref b2)])) (fun t k => XS.iloadN X25.here hx rfl (hb hby at_192) rfl k) ?_
    refine Go.to (g' := (mkF m 195 #[.val (.int p0), .val (.int p1), .val (.long q2), .second, .val (.int p3), .val (.int at_), .val (.int (0 : Int32)), .val (.ref b2), .unset, .unset] [(.int (24 : Int32)), (.int p0), (.int (at_ + (3 : Int32))), (.ref b2)])) (fun t k => XS.bipush X25.here hx rfl (hb hby at_193) k) ?_
    refine Go.to (g' := (mkF m 196 #[.val (.int p0), .val (.int p1), .val (.long q2), .second, .val (.int p3), .val (.int at_), .val (.int (0 : Int32)), .val (.ref b2), .unset, .unset] [(.int ((p0.toUInt32 >>> ((24 : Int32) &&& 31).toUInt32).toInt32)), (.int (at_ + (3 : Int32))), (.ref b2)])) (fun t k => XS.iushr X25.here hx rfl (hb hby at_195) rfl k) ?_
    refine Go.to (g' := (mkF m 197 #[.val (.int p0), .val (.int p1), .val (.long q2), .second, .val (.int p3), .val (.int at_), .val (.int (0 : Int32)), .val (.ref b2), .unset, .unset] [(.int (((p0.toUInt32 >>> ((24 : Int32) &&& 31).toUInt32).toInt32).toInt8.toInt32)), (.int (at_ + (3 : Int32))), (.ref b2)])) (fun t k => XS.i2b X25.here hx rfl (hb hby at_196) rfl k) ?_
    obtain ⟨cl26, Ar26, Sz26, Hf26⟩ := id B25
    obtain ⟨T27, h27, X27, e27, W27, st27⟩ := stB X25 hx hZ e25 Ar26 (j := (at_ + (3 : Int32))) (own_by_in Sz26 (own_kn hat hat3 (by decide) (by decide)) (own_kl hat hat3 (by decide) (by decide))) (g := (mkF m 197 #[.val (.int p0), .val (.int p1), .val (.long q2), .second, .val (.int p3), .val (.int at_), .val (.int (0 : Int32)), .val (.ref b2), .unset, .unset] [(.int (((p0.toUInt32 >>> ((24 : Int32) &&& 31).toUInt32).toInt32).toInt8.toInt32)), (.int (at_ + (3 : Int32))), (.ref b2)])) rfl rfl (hb hby at_197)
    have Z27 : n0 ≤ h27.size := Nat.le_trans Z25 (Keep.of_wr W27).1
    have K27 : Keep h0 h27 [] := K25.wr W27 (Or.inr sz_b2)
    have N27 := Fr.snoc X27 N25 g_b2
    have B27 : own_By Z h27 b2 8 (own_upd (own_upd (own_upd (own_upd f at_ ((p0.toInt8.toInt32).toInt8.toInt32)) (at_ + (1 : Int32)) ((((p0.toUInt32 >>> ((8 : Int32) &&& 31).toUInt32).toInt32).toInt8.toInt32).toInt8.toInt32)) (at_ + (2 : Int32)) ((((p0.toUInt32 >>> ((16 : Int32) &&& 31).toUInt32).toInt32).toInt8.toInt32).toInt8.toInt32)) (at_ + (3 : Int32)) ((((p0.toUInt32 >>> ((24 : Int32) &&& 31).toUInt32).toInt32).toInt8.toInt32).toInt8.toInt32)) := B25.set (own_kn hat hat3 (by decide) (by decide)) W27
    refine Go.to (g' := (mkF m 198 #[.val (.int p0), .val (.int p1), .val (.long q2), .second, .val (.int p3), .val (.int at_), .val (.int (0 : Int32)), .val (.ref b2), .unset, .unset] [])) st27 ?_
    obtain ⟨f4, hf4⟩ : ∃ g : Int32 → Int32, g = (own_upd (own_upd (own_upd (own_upd f at_ ((p0.toInt8.toInt32).toInt8.toInt32)) (at_ + (1 : Int32)) ((((p0.toUInt32 >>> ((8 : Int32) &&& 31).toUInt32).toInt32).toInt8.toInt32).toInt8.toInt32)) (at_ + (2 : Int32)) ((((p0.toUInt32 >>> ((16 : Int32) &&& 31).toUInt32).toInt32).toInt8.toInt32).toInt8.toInt32)) (at_ + (3 : Int32)) ((((p0.toUInt32 >>> ((24 : Int32) &&& 31).toUInt32).toInt32).toInt8.toInt32).toInt8.toInt32)) := ⟨_, rfl⟩
    have B4 : own_By Z h27 b2 8 f4 := by rw [hf4]; exact B27
    obtain ⟨hb0, hb1, hb2, hb3⟩ : f4 at_ = ((p0.toInt8.toInt32).toInt8.toInt32) ∧ f4 (at_ + (1 : Int32)) = ((((p0.toUInt32 >>> ((8 : Int32) &&& 31).toUInt32).toInt32).toInt8.toInt32).toInt8.toInt32) ∧ f4 (at_ + (2 : Int32)) = ((((p0.toUInt32 >>> ((16 : Int32) &&& 31).toUInt32).toInt32).toInt8.toInt32).toInt8.toInt32) ∧ f4 (at_ + (3 : Int32)) = ((((p0.toUInt32 >>> ((24 : Int32) &&& 31).toUInt32).toInt32).toInt8.toInt32).toInt8.toInt32) := by rw [hf4]; exact own_u hat hat3
    refine Go.to (g' := (mkF m 200 #[.val (.int p0), .val (.int p1), .val (.long q2), .second, .val (.int p3), .val (.int at_), .val (.int (0 : Int32)), .val (.ref b2), .unset, .unset] [(.ref b2)])) (fun t k => XS.aload X27.here hx rfl (hb hby at_198) rfl rfl k) ?_
    refine Go.to (g' := (mkF m 202 #[.val (.int p0), .val (.int p1), .val (.long q2), .second, .val (.int p3), .val (.int at_), .val (.int (0 : Int32)), .val (.ref b2), .unset, .unset] [(.int at_), (.ref b2)])) (fun t k => XS.iload X27.here hx rfl (hb hby at_200) rfl k) ?_
    refine Go.to (g' := (mkF m 204 #[.val (.int p0), .val (.int p1), .val (.long q2), .second, .val (.int p3), .val (.int at_), .val (.int (0 : Int32)), .val (.ref b2), .unset, .unset] [(.int (0 : Int32)), (.int at_), (.ref b2)])) (fun t k => XS.iload X27.here hx rfl (hb hby at_202) rfl k) ?_
    obtain ⟨v28, _, ⟨T28, L28, k28, n28⟩, -, X28, ⟨Lc28, hQ28, l28, y28, z28⟩, st28⟩ := Jvm.LawKit.callS X27 hx (y := (⟨"com/example/nidra/nidra/dbus/Unmarshaller", "uint32", "([BIZ)I"⟩ : MethodName)) hown (mvT hZ (hw _ (List.mem_of_getElem? (i := 1) rfl))) (mvT hZ (hw _ (List.mem_of_getElem? (i := 2) rfl))) (mvT hZ (hw _ (List.mem_of_getElem? (i := 3) rfl))) (mvT hZ (hw _ (List.mem_of_getElem? (i := 4) rfl))) (by decide) (backOf (W := 0) (rm1 l Z aw hw [] b2 at_ (0 : Int32) f4 ((p0.toInt8.toInt32).toInt8.toInt32) ((((p0.toUInt32 >>> ((8 : Int32) &&& 31).toUInt32).toInt32).toInt8.toInt32).toInt8.toInt32) ((((p0.toUInt32 >>> ((16 : Int32) &&& 31).toUInt32).toInt32).toInt8.toInt32).toInt8.toInt32) ((((p0.toUInt32 >>> ((24 : Int32) &&& 31).toUInt32).toInt32).toInt8.toInt32).toInt8.toInt32) h27 n0 Z27 B4 hat hat3 hb0 hb1 hb2 hb3) hZ (hw _ (List.mem_of_getElem? (i := 4) rfl)) (hw _ (List.mem_of_getElem? (i := 3) rfl)) (by decide) (by decide)) (g := (mkF m 204 #[.val (.int p0), .val (.int p1), .val (.long q2), .second, .val (.int p3), .val (.int at_), .val (.int (0 : Int32)), .val (.ref b2), .unset, .unset] [(.int (0 : Int32)), (.int at_), (.ref b2)])) rfl (by rw [hml]; rfl) (argsL := [(.ref b2), (.int at_), (.int (0 : Int32))]) (rest := []) (lenOf pd_285bBIZ29I rfl) rfl (by show 2 * 0 + _ ≤ _; exact Nat.le_of_eq rfl) (hb hby at_204) (fun _ _ => ⟨rfl, e27, (by decide : 1 + 0 ≤ _), (by decide : 8 + 0 ≤ _)⟩)
    dsimp only [Pt.U, Pt.locs, Pt.cells, Pt.slots] at X28 l28 y28 z28 st28 hQ28
    subst l28 y28 z28
    obtain ⟨rfl, N28q, e28⟩ := hQ28
    have N28 := Fr.app N27 N28q
    refine Go.to (g' := (mkF m 207 #[.val (.int p0), .val (.int p1), .val (.long q2), .second, .val (.int p3), .val (.int at_), .val (.int (0 : Int32)), .val (.ref b2), .unset, .unset] [(.int (if (0 : Int32) = (0 : Int32) then own_le ((p0.toInt8.toInt32).toInt8.toInt32) ((((p0.toUInt32 >>> ((8 : Int32) &&& 31).toUInt32).toInt32).toInt8.toInt32).toInt8.toInt32) ((((p0.toUInt32 >>> ((16 : Int32) &&& 31).toUInt32).toInt32).toInt8.toInt32).toInt8.toInt32) ((((p0.toUInt32 >>> ((24 : Int32) &&& 31).toUInt32).toInt32).toInt8.toInt32).toInt8.toInt32) else own_be ((p0.toInt8.toInt32).toInt8.toInt32) ((((p0.toUInt32 >>> ((8 : Int32) &&& 31).toUInt32).toInt32).toInt8.toInt32).toInt8.toInt32) ((((p0.toUInt32 >>> ((16 : Int32) &&& 31).toUInt32).toInt32).toInt8.toInt32).toInt8.toInt32) ((((p0.toUInt32 >>> ((24 : Int32) &&& 31).toUInt32).toInt32).toInt8.toInt32).toInt8.toInt32)))])) st28 ?_
    rw [show (if (0 : Int32) = (0 : Int32) then own_le ((p0.toInt8.toInt32).toInt8.toInt32) ((((p0.toUInt32 >>> ((8 : Int32) &&& 31).toUInt32).toInt32).toInt8.toInt32).toInt8.toInt32) ((((p0.toUInt32 >>> ((16 : Int32) &&& 31).toUInt32).toInt32).toInt8.toInt32).toInt8.toInt32) ((((p0.toUInt32 >>> ((24 : Int32) &&& 31).toUInt32).toInt32).toInt8.toInt32).toInt8.toInt32) else own_be ((p0.toInt8.toInt32).toInt8.toInt32) ((((p0.toUInt32 >>> ((8 : Int32) &&& 31).toUInt32).toInt32).toInt8.toInt32).toInt8.toInt32) ((((p0.toUInt32 >>> ((16 : Int32) &&& 31).toUInt32).toInt32).toInt8.toInt32).toInt8.toInt32) ((((p0.toUInt32 >>> ((24 : Int32) &&& 31).toUInt32).toInt32).toInt8.toInt32).toInt8.toInt32)) = (own_le ((p0.toInt8.toInt32).toInt8.toInt32) ((((p0.toUInt32 >>> ((8 : Int32) &&& 31).toUInt32).toInt32).toInt8.toInt32).toInt8.toInt32) ((((p0.toUInt32 >>> ((16 : Int32) &&& 31).toUInt32).toInt32).toInt8.toInt32).toInt8.toInt32) ((((p0.toUInt32 >>> ((24 : Int32) &&& 31).toUInt32).toInt32).toInt8.toInt32).toInt8.toInt32)) from if_pos (by decide)]
    refine Go.to (g' := (mkF m 209 #[.val (.int p0), .val (.int p1), .val (.long q2), .second, .val (.int p3), .val (.int at_), .val (.int (0 : Int32)), .val (.ref b2), .val (.int (own_le ((p0.toInt8.toInt32).toInt8.toInt32) ((((p0.toUInt32 >>> ((8 : Int32) &&& 31).toUInt32).toInt32).toInt8.toInt32).toInt8.toInt32) ((((p0.toUInt32 >>> ((16 : Int32) &&& 31).toUInt32).toInt32).toInt8.toInt32).toInt8.toInt32) ((((p0.toUInt32 >>> ((24 : Int32) &&& 31).toUInt32).toInt32).toInt8.toInt32).toInt8.toInt32))), .unset] [])) (fun t k => XS.istore X28.here hx rfl (hb hby at_207) rfl (l' := #[.val (.int p0), .val (.int p1), .val (.long q2), .second, .val (.int p3), .val (.int at_), .val (.int (0 : Int32)), .val (.ref b2), .val (.int (own_le ((p0.toInt8.toInt32).toInt8.toInt32) ((((p0.toUInt32 >>> ((8 : Int32) &&& 31).toUInt32).toInt32).toInt8.toInt32).toInt8.toInt32) ((((p0.toUInt32 >>> ((16 : Int32) &&& 31).toUInt32).toInt32).toInt8.toInt32).toInt8.toInt32) ((((p0.toUInt32 >>> ((24 : Int32) &&& 31).toUInt32).toInt32).toInt8.toInt32).toInt8.toInt32))), .unset]) rfl k) ?_
    refine Go.to (g' := (mkF m 211 #[.val (.int p0), .val (.int p1), .val (.long q2), .second, .val (.int p3), .val (.int at_), .val (.int (0 : Int32)), .val (.ref b2), .val (.int (own_le ((p0.toInt8.toInt32).toInt8.toInt32) ((((p0.toUInt32 >>> ((8 : Int32) &&& 31).toUInt32).toInt32).toInt8.toInt32).toInt8.toInt32) ((((p0.toUInt32 >>> ((16 : Int32) &&& 31).toUInt32).toInt32).toInt8.toInt32).toInt8.toInt32) ((((p0.toUInt32 >>> ((24 : Int32) &&& 31).toUInt32).toInt32).toInt8.toInt32).toInt8.toInt32))), .unset] [(.ref b2)])) (fun t k => XS.aload X28.here hx rfl (hb hby at_209) rfl rfl k) ?_
    refine Go.to (g' := (mkF m 213 #[.val (.int p0), .val (.int p1), .val (.long q2), .second, .val (.int p3), .val (.int at_), .val (.int (0 : Int32)), .val (.ref b2), .val (.int (own_le ((p0.toInt8.toInt32).toInt8.toInt32) ((((p0.toUInt32 >>> ((8 : Int32) &&& 31).toUInt32).toInt32).toInt8.toInt32).toInt8.toInt32) ((((p0.toUInt32 >>> ((16 : Int32) &&& 31).toUInt32).toInt32).toInt8.toInt32).toInt8.toInt32) ((((p0.toUInt32 >>> ((24 : Int32) &&& 31).toUInt32).toInt32).toInt8.toInt32).toInt8.toInt32))), .unset] [(.int at_), (.ref b2)])) (fun t k => XS.iload X28.here hx rfl (hb hby at_211) rfl k) ?_
    refine Go.to (g' := (mkF m 215 #[.val (.int p0), .val (.int p1), .val (.long q2), .second, .val (.int p3), .val (.int at_), .val (.int (0 : Int32)), .val (.ref b2), .val (.int (own_le ((p0.toInt8.toInt32).toInt8.toInt32) ((((p0.toUInt32 >>> ((8 : Int32) &&& 31).toUInt32).toInt32).toInt8.toInt32).toInt8.toInt32) ((((p0.toUInt32 >>> ((16 : Int32) &&& 31).toUInt32).toInt32).toInt8.toInt32).toInt8.toInt32) ((((p0.toUInt32 >>> ((24 : Int32) &&& 31).toUInt32).toInt32).toInt8.toInt32).toInt8.toInt32))), .unset] [(.int (0 : Int32)), (.int at_), (.ref b2)])) (fun t k => XS.iload X28.here hx rfl (hb hby at_213) rfl k) ?_
    refine Go.to (g' := (mkF m 218 #[.val (.int p0), .val (.int p1), .val (.long q2), .second, .val (.int p3), .val (.int at_), .val (.int (0 : Int32)), .val (.ref b2), .val (.int (own_le ((p0.toInt8.toInt32).toInt8.toInt32) ((((p0.toUInt32 >>> ((8 : Int32) &&& 31).toUInt32).toInt32).toInt8.toInt32).toInt8.toInt32) ((((p0.toUInt32 >>> ((16 : Int32) &&& 31).toUInt32).toInt32).toInt8.toInt32).toInt8.toInt32) ((((p0.toUInt32 >>> ((24 : Int32) &&& 31).toUInt32).toInt32).toInt8.toInt32).toInt8.toInt32))), .unset] [(.int at_), (.ref b2)])) (fun t k => XS.ifNo X28.here hx rfl (hb hby at_215) rfl ((if0 _ _).trans (teq (by decide)).2) k) ?_
    refine Go.to (g' := (mkF m 219 #[.val (.int p0), .val (.int p1), .val (.long q2), .second, .val (.int p3), .val (.int at_), .val (.int (0 : Int32)), .val (.ref b2), .val (.int (own_le ((p0.toInt8.toInt32).toInt8.toInt32) ((((p0.toUInt32 >>> ((8 : Int32) &&& 31).toUInt32).toInt32).toInt8.toInt32).toInt8.toInt32) ((((p0.toUInt32 >>> ((16 : Int32) &&& 31).toUInt32).toInt32).toInt8.toInt32).toInt8.toInt32) ((((p0.toUInt32 >>> ((24 : Int32) &&& 31).toUInt32).toInt32).toInt8.toInt32).toInt8.toInt32))), .unset] [(.int (1 : Int32)), (.int at_), (.ref b2)])) (fun t k => XS.iconst X28.here hx rfl (hb hby at_218) k) ?_
    refine Go.to (g' := (mkF m 223 #[.val (.int p0), .val (.int p1), .val (.long q2), .second, .val (.int p3), .val (.int at_), .val (.int (0 : Int32)), .val (.ref b2), .val (.int (own_le ((p0.toInt8.toInt32).toInt8.toInt32) ((((p0.toUInt32 >>> ((8 : Int32) &&& 31).toUInt32).toInt32).toInt8.toInt32).toInt8.toInt32) ((((p0.toUInt32 >>> ((16 : Int32) &&& 31).toUInt32).toInt32).toInt8.toInt32).toInt8.toInt32) ((((p0.toUInt32 >>> ((24 : Int32) &&& 31).toUInt32).toInt32).toInt8.toInt32).toInt8.toInt32))), .unset] [(.int (1 : Int32)), (.int at_), (.ref b2)])) (fun t k => XS.goto X28.here hx rfl (pc0 := 219) (pc' := 223) rfl (hb hby at_219) (by decide) (by decide) k) ?_
    obtain ⟨v29, _, ⟨T29, L29, k29, n29⟩, -, X29, ⟨Lc29, hQ29, l29, y29, z29⟩, st29⟩ := Jvm.LawKit.callS X28 hx (y := (⟨"com/example/nidra/nidra/dbus/Unmarshaller", "uint32", "([BIZ)I"⟩ : MethodName)) hown (mvT hZ (hw _ (List.mem_of_getElem? (i := 1) rfl))) (mvT hZ (hw _ (List.mem_of_getElem? (i := 2) rfl))) (mvT hZ (hw _ (List.mem_of_getElem? (i := 3) rfl))) (mvT hZ (hw _ (List.mem_of_getElem? (i := 4) rfl))) (by decide) (backOf (W := 0) (rm1 l Z aw hw [] b2 at_ (1 : Int32) f4 ((p0.toInt8.toInt32).toInt8.toInt32) ((((p0.toUInt32 >>> ((8 : Int32) &&& 31).toUInt32).toInt32).toInt8.toInt32).toInt8.toInt32) ((((p0.toUInt32 >>> ((16 : Int32) &&& 31).toUInt32).toInt32).toInt8.toInt32).toInt8.toInt32) ((((p0.toUInt32 >>> ((24 : Int32) &&& 31).toUInt32).toInt32).toInt8.toInt32).toInt8.toInt32) h27 n0 Z27 B4 hat hat3 hb0 hb1 hb2 hb3) hZ (hw _ (List.mem_of_getElem? (i := 4) rfl)) (hw _ (List.mem_of_getElem? (i := 3) rfl)) (by decide) (by decide)) (g := (mkF m 223 #[.val (.int p0), .val (.int p1), .val (.long q2), .second, .val (.int p3), .val (.int at_), .val (.int (0 : Int32)), .val (.ref b2), .val (.int (own_le ((p0.toInt8.toInt32).toInt8.toInt32) ((((p0.toUInt32 >>> ((8 : Int32) &&& 31).toUInt32).toInt32).toInt8.toInt32).toInt8.toInt32) ((((p0.toUInt32 >>> ((16 : Int32) &&& 31).toUInt32).toInt32).toInt8.toInt32).toInt8.toInt32) ((((p0.toUInt32 >>> ((24 : Int32) &&& 31).toUInt32).toInt32).toInt8.toInt32).toInt8.toInt32))), .unset] [(.int (1 : Int32)), (.int at_), (.ref b2)])) rfl (by rw [hml]; rfl) (argsL := [(.ref b2), (.int at_), (.int (1 : Int32))]) (rest := []) (lenOf pd_285bBIZ29I rfl) rfl (by show 2 * 0 + _ ≤ _; exact Nat.le_of_eq rfl) (hb hby at_223) (fun _ _ => ⟨rfl, e28, (by decide : 1 + 0 ≤ _), (by decide : 8 + 0 ≤ _)⟩)
    dsimp only [Pt.U, Pt.locs, Pt.cells, Pt.slots] at X29 l29 y29 z29 st29 hQ29
    subst l29 y29 z29
    obtain ⟨rfl, N29q, e29⟩ := hQ29
    have N29 := Fr.app N28 N29q
    refine Go.to (g' := (mkF m 226 #[.val (.int p0), .val (.int p1), .val (.long q2), .second, .val (.int p3), .val (.int at_), .val (.int (0 : Int32)), .val (.ref b2), .val (.int (own_le ((p0.toInt8.toInt32).toInt8.toInt32) ((((p0.toUInt32 >>> ((8 : Int32) &&& 31).toUInt32).toInt32).toInt8.toInt32).toInt8.toInt32) ((((p0.toUInt32 >>> ((16 : Int32) &&& 31).toUInt32).toInt32).toInt8.toInt32).toInt8.toInt32) ((((p0.toUInt32 >>> ((24 : Int32) &&& 31).toUInt32).toInt32).toInt8.toInt32).toInt8.toInt32))), .unset] [(.int (if (1 : Int32) = (0 : Int32) then own_le ((p0.toInt8.toInt32).toInt8.toInt32) ((((p0.toUInt32 >>> ((8 : Int32) &&& 31).toUInt32).toInt32).toInt8.toInt32).toInt8.toInt32) ((((p0.toUInt32 >>> ((16 : Int32) &&& 31).toUInt32).toInt32).toInt8.toInt32).toInt8.toInt32) ((((p0.toUInt32 >>> ((24 : Int32) &&& 31).toUInt32).toInt32).toInt8.toInt32).toInt8.toInt32) else own_be ((p0.toInt8.toInt32).toInt8.toInt32) ((((p0.toUInt32 >>> ((8 : Int32) &&& 31).toUInt32).toInt32).toInt8.toInt32).toInt8.toInt32) ((((p0.toUInt32 >>> ((16 : Int32) &&& 31).toUInt32).toInt32).toInt8.toInt32).toInt8.toInt32) ((((p0.toUInt32 >>> ((24 : Int32) &&& 31).toUInt32).toInt32).toInt8.toInt32).toInt8.toInt32)))])) st29 ?_
    rw [show (if (1 : Int32) = (0 : Int32) then own_le ((p0.toInt8.toInt32).toInt8.toInt32) ((((p0.toUInt32 >>> ((8 : Int32) &&& 31).toUInt32).toInt32).toInt8.toInt32).toInt8.toInt32) ((((p0.toUInt32 >>> ((16 : Int32) &&& 31).toUInt32).toInt32).toInt8.toInt32).toInt8.toInt32) ((((p0.toUInt32 >>> ((24 : Int32) &&& 31).toUInt32).toInt32).toInt8.toInt32).toInt8.toInt32) else own_be ((p0.toInt8.toInt32).toInt8.toInt32) ((((p0.toUInt32 >>> ((8 : Int32) &&& 31).toUInt32).toInt32).toInt8.toInt32).toInt8.toInt32) ((((p0.toUInt32 >>> ((16 : Int32) &&& 31).toUInt32).toInt32).toInt8.toInt32).toInt8.toInt32) ((((p0.toUInt32 >>> ((24 : Int32) &&& 31).toUInt32).toInt32).toInt8.toInt32).toInt8.toInt32)) = (own_be ((p0.toInt8.toInt32).toInt8.toInt32) ((((p0.toUInt32 >>> ((8 : Int32) &&& 31).toUInt32).toInt32).toInt8.toInt32).toInt8.toInt32) ((((p0.toUInt32 >>> ((16 : Int32) &&& 31).toUInt32).toInt32).toInt8.toInt32).toInt8.toInt32) ((((p0.toUInt32 >>> ((24 : Int32) &&& 31).toUInt32).toInt32).toInt8.toInt32).toInt8.toInt32)) from if_neg (by decide)]
    refine Go.to (g' := (mkF m 228 #[.val (.int p0), .val (.int p1), .val (.long q2), .second, .val (.int p3), .val (.int at_), .val (.int (0 : Int32)), .val (.ref b2), .val (.int (own_le ((p0.toInt8.toInt32).toInt8.toInt32) ((((p0.toUInt32 >>> ((8 : Int32) &&& 31).toUInt32).toInt32).toInt8.toInt32).toInt8.toInt32) ((((p0.toUInt32 >>> ((16 : Int32) &&& 31).toUInt32).toInt32).toInt8.toInt32).toInt8.toInt32) ((((p0.toUInt32 >>> ((24 : Int32) &&& 31).toUInt32).toInt32).toInt8.toInt32).toInt8.toInt32))), .val (.int (own_be ((p0.toInt8.toInt32).toInt8.toInt32) ((((p0.toUInt32 >>> ((8 : Int32) &&& 31).toUInt32).toInt32).toInt8.toInt32).toInt8.toInt32) ((((p0.toUInt32 >>> ((16 : Int32) &&& 31).toUInt32).toInt32).toInt8.toInt32).toInt8.toInt32) ((((p0.toUInt32 >>> ((24 : Int32) &&& 31).toUInt32).toInt32).toInt8.toInt32).toInt8.toInt32)))] [])) (fun t k => XS.istore X29.here hx rfl (hb hby at_226) rfl (l' := #[.val (.int p0), .val (.int p1), .val (.long q2), .second, .val (.int p3), .val (.int at_), .val (.int (0 : Int32)), .val (.ref b2), .val (.int (own_le ((p0.toInt8.toInt32).toInt8.toInt32) ((((p0.toUInt32 >>> ((8 : Int32) &&& 31).toUInt32).toInt32).toInt8.toInt32).toInt8.toInt32) ((((p0.toUInt32 >>> ((16 : Int32) &&& 31).toUInt32).toInt32).toInt8.toInt32).toInt8.toInt32) ((((p0.toUInt32 >>> ((24 : Int32) &&& 31).toUInt32).toInt32).toInt8.toInt32).toInt8.toInt32))), .val (.int (own_be ((p0.toInt8.toInt32).toInt8.toInt32) ((((p0.toUInt32 >>> ((8 : Int32) &&& 31).toUInt32).toInt32).toInt8.toInt32).toInt8.toInt32) ((((p0.toUInt32 >>> ((16 : Int32) &&& 31).toUInt32).toInt32).toInt8.toInt32).toInt8.toInt32) ((((p0.toUInt32 >>> ((24 : Int32) &&& 31).toUInt32).toInt32).toInt8.toInt32).toInt8.toInt32)))]) rfl k) ?_
    refine Go.to (g' := (mkF m 230 #[.val (.int p0), .val (.int p1), .val (.long q2), .second, .val (.int p3), .val (.int at_), .val (.int (0 : Int32)), .val (.ref b2), .val (.int (own_le ((p0.toInt8.toInt32).toInt8.toInt32) ((((p0.toUInt32 >>> ((8 : Int32) &&& 31).toUInt32).toInt32).toInt8.toInt32).toInt8.toInt32) ((((p0.toUInt32 >>> ((16 : Int32) &&& 31).toUInt32).toInt32).toInt8.toInt32).toInt8.toInt32) ((((p0.toUInt32 >>> ((24 : Int32) &&& 31).toUInt32).toInt32).toInt8.toInt32).toInt8.toInt32))), .val (.int (own_be ((p0.toInt8.toInt32).toInt8.toInt32) ((((p0.toUInt32 >>> ((8 : Int32) &&& 31).toUInt32).toInt32).toInt8.toInt32).toInt8.toInt32) ((((p0.toUInt32 >>> ((16 : Int32) &&& 31).toUInt32).toInt32).toInt8.toInt32).toInt8.toInt32) ((((p0.toUInt32 >>> ((24 : Int32) &&& 31).toUInt32).toInt32).toInt8.toInt32).toInt8.toInt32)))] [(.int (own_le ((p0.toInt8.toInt32).toInt8.toInt32) ((((p0.toUInt32 >>> ((8 : Int32) &&& 31).toUInt32).toInt32).toInt8.toInt32).toInt8.toInt32) ((((p0.toUInt32 >>> ((16 : Int32) &&& 31).toUInt32).toInt32).toInt8.toInt32).toInt8.toInt32) ((((p0.toUInt32 >>> ((24 : Int32) &&& 31).toUInt32).toInt32).toInt8.toInt32).toInt8.toInt32)))])) (fun t k => XS.iload X29.here hx rfl (hb hby at_228) rfl k) ?_
    refine Go.to (g' := (mkF m 231 #[.val (.int p0), .val (.int p1), .val (.long q2), .second, .val (.int p3), .val (.int at_), .val (.int (0 : Int32)), .val (.ref b2), .val (.int (own_le ((p0.toInt8.toInt32).toInt8.toInt32) ((((p0.toUInt32 >>> ((8 : Int32) &&& 31).toUInt32).toInt32).toInt8.toInt32).toInt8.toInt32) ((((p0.toUInt32 >>> ((16 : Int32) &&& 31).toUInt32).toInt32).toInt8.toInt32).toInt8.toInt32) ((((p0.toUInt32 >>> ((24 : Int32) &&& 31).toUInt32).toInt32).toInt8.toInt32).toInt8.toInt32))), .val (.int (own_be ((p0.toInt8.toInt32).toInt8.toInt32) ((((p0.toUInt32 >>> ((8 : Int32) &&& 31).toUInt32).toInt32).toInt8.toInt32).toInt8.toInt32) ((((p0.toUInt32 >>> ((16 : Int32) &&& 31).toUInt32).toInt32).toInt8.toInt32).toInt8.toInt32) ((((p0.toUInt32 >>> ((24 : Int32) &&& 31).toUInt32).toInt32).toInt8.toInt32).toInt8.toInt32)))] [(.int p0), (.int (own_le ((p0.toInt8.toInt32).toInt8.toInt32) ((((p0.toUInt32 >>> ((8 : Int32) &&& 31).toUInt32).toInt32).toInt8.toInt32).toInt8.toInt32) ((((p0.toUInt32 >>> ((16 : Int32) &&& 31).toUInt32).toInt32).toInt8.toInt32).toInt8.toInt32) ((((p0.toUInt32 >>> ((24 : Int32) &&& 31).toUInt32).toInt32).toInt8.toInt32).toInt8.toInt32)))])) (fun t k => XS.iloadN X29.here hx rfl (hb hby at_230) rfl k) ?_
    refine Go.to (g' := (mkF m 234 #[.val (.int p0), .val (.int p1), .val (.long q2), .second, .val (.int p3), .val (.int at_), .val (.int (0 : Int32)), .val (.ref b2), .val (.int (own_le ((p0.toInt8.toInt32).toInt8.toInt32) ((((p0.toUInt32 >>> ((8 : Int32) &&& 31).toUInt32).toInt32).toInt8.toInt32).toInt8.toInt32) ((((p0.toUInt32 >>> ((16 : Int32) &&& 31).toUInt32).toInt32).toInt8.toInt32).toInt8.toInt32) ((((p0.toUInt32 >>> ((24 : Int32) &&& 31).toUInt32).toInt32).toInt8.toInt32).toInt8.toInt32))), .val (.int (own_be ((p0.toInt8.toInt32).toInt8.toInt32) ((((p0.toUInt32 >>> ((8 : Int32) &&& 31).toUInt32).toInt32).toInt8.toInt32).toInt8.toInt32) ((((p0.toUInt32 >>> ((16 : Int32) &&& 31).toUInt32).toInt32).toInt8.toInt32).toInt8.toInt32) ((((p0.toUInt32 >>> ((24 : Int32) &&& 31).toUInt32).toInt32).toInt8.toInt32).toInt8.toInt32)))] [])) (fun t k => XS.icmpNo X29.here hx rfl (hb hby at_231) rfl (teq (own_s0 p0)).2 k) ?_
    refine Go.to (g' := (mkF m 236 #[.val (.int p0), .val (.int p1), .val (.long q2), .second, .val (.int p3), .val (.int at_), .val (.int (0 : Int32)), .val (.ref b2), .val (.int (own_le ((p0.toInt8.toInt32).toInt8.toInt32) ((((p0.toUInt32 >>> ((8 : Int32) &&& 31).toUInt32).toInt32).toInt8.toInt32).toInt8.toInt32) ((((p0.toUInt32 >>> ((16 : Int32) &&& 31).toUInt32).toInt32).toInt8.toInt32).toInt8.toInt32) ((((p0.toUInt32 >>> ((24 : Int32) &&& 31).toUInt32).toInt32).toInt8.toInt32).toInt8.toInt32))), .val (.int (own_be ((p0.toInt8.toInt32).toInt8.toInt32) ((((p0.toUInt32 >>> ((8 : Int32) &&& 31).toUInt32).toInt32).toInt8.toInt32).toInt8.toInt32) ((((p0.toUInt32 >>> ((16 : Int32) &&& 31).toUInt32).toInt32).toInt8.toInt32).toInt8.toInt32) ((((p0.toUInt32 >>> ((24 : Int32) &&& 31).toUInt32).toInt32).toInt8.toInt32).toInt8.toInt32)))] [(.int (own_be ((p0.toInt8.toInt32).toInt8.toInt32) ((((p0.toUInt32 >>> ((8 : Int32) &&& 31).toUInt32).toInt32).toInt8.toInt32).toInt8.toInt32) ((((p0.toUInt32 >>> ((16 : Int32) &&& 31).toUInt32).toInt32).toInt8.toInt32).toInt8.toInt32) ((((p0.toUInt32 >>> ((24 : Int32) &&& 31).toUInt32).toInt32).toInt8.toInt32).toInt8.toInt32)))])) (fun t k => XS.iload X29.here hx rfl (hb hby at_234) rfl k) ?_
    refine Go.to (g' := (mkF m 237 #[.val (.int p0), .val (.int p1), .val (.long q2), .second, .val (.int p3), .val (.int at_), .val (.int (0 : Int32)), .val (.ref b2), .val (.int (own_le ((p0.toInt8.toInt32).toInt8.toInt32) ((((p0.toUInt32 >>> ((8 : Int32) &&& 31).toUInt32).toInt32).toInt8.toInt32).toInt8.toInt32) ((((p0.toUInt32 >>> ((16 : Int32) &&& 31).toUInt32).toInt32).toInt8.toInt32).toInt8.toInt32) ((((p0.toUInt32 >>> ((24 : Int32) &&& 31).toUInt32).toInt32).toInt8.toInt32).toInt8.toInt32))), .val (.int (own_be ((p0.toInt8.toInt32).toInt8.toInt32) ((((p0.toUInt32 >>> ((8 : Int32) &&& 31).toUInt32).toInt32).toInt8.toInt32).toInt8.toInt32) ((((p0.toUInt32 >>> ((16 : Int32) &&& 31).toUInt32).toInt32).toInt8.toInt32).toInt8.toInt32) ((((p0.toUInt32 >>> ((24 : Int32) &&& 31).toUInt32).toInt32).toInt8.toInt32).toInt8.toInt32)))] [(.int p0), (.int (own_be ((p0.toInt8.toInt32).toInt8.toInt32) ((((p0.toUInt32 >>> ((8 : Int32) &&& 31).toUInt32).toInt32).toInt8.toInt32).toInt8.toInt32) ((((p0.toUInt32 >>> ((16 : Int32) &&& 31).toUInt32).toInt32).toInt8.toInt32).toInt8.toInt32) ((((p0.toUInt32 >>> ((24 : Int32) &&& 31).toUInt32).toInt32).toInt8.toInt32).toInt8.toInt32)))])) (fun t k => XS.iloadN X29.here hx rfl (hb hby at_236) rfl k) ?_
    obtain ⟨v30, _, ⟨T30, L30, k30, n30⟩, -, X30, ⟨Lc30, hQ30, l30, y30, z30⟩, st30⟩ := Jvm.LawKit.callS X29 hx (y := (⟨"com/example/nidra/nidra/dbus/UnmarshallerUint32PinLaw", "reversed", "(I)I"⟩ : MethodName)) hown (mvT hZ (hw _ (List.mem_of_getElem? (i := 5) rfl))) (mvT hZ (hw _ (List.mem_of_getElem? (i := 6) rfl))) (mvT hZ (hw _ (List.mem_of_getElem? (i := 7) rfl))) (mvT hZ (hw _ (List.mem_of_getElem? (i := 8) rfl))) (by decide) (backOf (W := 1) (rm2 l Z aw hw [] p0  h27 n0 Z27 ) hZ (hw _ (List.mem_of_getElem? (i := 8) rfl)) (hw _ (List.mem_of_getElem? (i := 7) rfl)) (by decide) (by decide)) (g := (mkF m 237 #[.val (.int p0), .val (.int p1), .val (.long q2), .second, .val (.int p3), .val (.int at_), .val (.int (0 : Int32)), .val (.ref b2), .val (.int (own_le ((p0.toInt8.toInt32).toInt8.toInt32) ((((p0.toUInt32 >>> ((8 : Int32) &&& 31).toUInt32).toInt32).toInt8.toInt32).toInt8.toInt32) ((((p0.toUInt32 >>> ((16 : Int32) &&& 31).toUInt32).toInt32).toInt8.toInt32).toInt8.toInt32) ((((p0.toUInt32 >>> ((24 : Int32) &&& 31).toUInt32).toInt32).toInt8.toInt32).toInt8.toInt32))), .val (.int (own_be ((p0.toInt8.toInt32).toInt8.toInt32) ((((p0.toUInt32 >>> ((8 : Int32) &&& 31).toUInt32).toInt32).toInt8.toInt32).toInt8.toInt32) ((((p0.toUInt32 >>> ((16 : Int32) &&& 31).toUInt32).toInt32).toInt8.toInt32).toInt8.toInt32) ((((p0.toUInt32 >>> ((24 : Int32) &&& 31).toUInt32).toInt32).toInt8.toInt32).toInt8.toInt32)))] [(.int p0), (.int (own_be ((p0.toInt8.toInt32).toInt8.toInt32) ((((p0.toUInt32 >>> ((8 : Int32) &&& 31).toUInt32).toInt32).toInt8.toInt32).toInt8.toInt32) ((((p0.toUInt32 >>> ((16 : Int32) &&& 31).toUInt32).toInt32).toInt8.toInt32).toInt8.toInt32) ((((p0.toUInt32 >>> ((24 : Int32) &&& 31).toUInt32).toInt32).toInt8.toInt32).toInt8.toInt32)))])) rfl (by rw [hml]; rfl) (argsL := [(.int p0)]) (rest := [(.int (own_be ((p0.toInt8.toInt32).toInt8.toInt32) ((((p0.toUInt32 >>> ((8 : Int32) &&& 31).toUInt32).toInt32).toInt8.toInt32).toInt8.toInt32) ((((p0.toUInt32 >>> ((16 : Int32) &&& 31).toUInt32).toInt32).toInt8.toInt32).toInt8.toInt32) ((((p0.toUInt32 >>> ((24 : Int32) &&& 31).toUInt32).toInt32).toInt8.toInt32).toInt8.toInt32)))]) (lenOf pd_28I29I rfl) rfl (by show 2 * 0 + _ ≤ _; exact Nat.le_of_eq rfl) (hb hby at_237) (fun _ _ => ⟨rfl, e29, (by decide : 1 + 0 ≤ _), (by decide : 8 + 0 ≤ _)⟩)
    dsimp only [Pt.U, Pt.locs, Pt.cells, Pt.slots] at X30 l30 y30 z30 st30 hQ30
    subst l30 y30 z30
    obtain ⟨rfl, N30q, e30⟩ := hQ30
    have N30 := Fr.app N29 N30q
    refine Go.to (g' := (mkF m 240 #[.val (.int p0), .val (.int p1), .val (.long q2), .second, .val (.int p3), .val (.int at_), .val (.int (0 : Int32)), .val (.ref b2), .val (.int (own_le ((p0.toInt8.toInt32).toInt8.toInt32) ((((p0.toUInt32 >>> ((8 : Int32) &&& 31).toUInt32).toInt32).toInt8.toInt32).toInt8.toInt32) ((((p0.toUInt32 >>> ((16 : Int32) &&& 31).toUInt32).toInt32).toInt8.toInt32).toInt8.toInt32) ((((p0.toUInt32 >>> ((24 : Int32) &&& 31).toUInt32).toInt32).toInt8.toInt32).toInt8.toInt32))), .val (.int (own_be ((p0.toInt8.toInt32).toInt8.toInt32) ((((p0.toUInt32 >>> ((8 : Int32) &&& 31).toUInt32).toInt32).toInt8.toInt32).toInt8.toInt32) ((((p0.toUInt32 >>> ((16 : Int32) &&& 31).toUInt32).toInt32).toInt8.toInt32).toInt8.toInt32) ((((p0.toUInt32 >>> ((24 : Int32) &&& 31).toUInt32).toInt32).toInt8.toInt32).toInt8.toInt32)))] [(.int (own_le ((p0.toUInt32 >>> ((24 : Int32) &&& 31).toUInt32).toInt32) ((p0.toUInt32 >>> ((16 : Int32) &&& 31).toUInt32).toInt32) ((p0.toUInt32 >>> ((8 : Int32) &&& 31).toUInt32).toInt32) p0)), (.int (own_be ((p0.toInt8.toInt32).toInt8.toInt32) ((((p0.toUInt32 >>> ((8 : Int32) &&& 31).toUInt32).toInt32).toInt8.toInt32).toInt8.toInt32) ((((p0.toUInt32 >>> ((16 : Int32) &&& 31).toUInt32).toInt32).toInt8.toInt32).toInt8.toInt32) ((((p0.toUInt32 >>> ((24 : Int32) &&& 31).toUInt32).toInt32).toInt8.toInt32).toInt8.toInt32)))])) st30 ?_
    refine Go.to (g' := (mkF m 243 #[.val (.int p0), .val (.int p1), .val (.long q2), .second, .val (.int p3), .val (.int at_), .val (.int (0 : Int32)), .val (.ref b2), .val (.int (own_le ((p0.toInt8.toInt32).toInt8.toInt32) ((((p0.toUInt32 >>> ((8 : Int32) &&& 31).toUInt32).toInt32).toInt8.toInt32).toInt8.toInt32) ((((p0.toUInt32 >>> ((16 : Int32) &&& 31).toUInt32).toInt32).toInt8.toInt32).toInt8.toInt32) ((((p0.toUInt32 >>> ((24 : Int32) &&& 31).toUInt32).toInt32).toInt8.toInt32).toInt8.toInt32))), .val (.int (own_be ((p0.toInt8.toInt32).toInt8.toInt32) ((((p0.toUInt32 >>> ((8 : Int32) &&& 31).toUInt32).toInt32).toInt8.toInt32).toInt8.toInt32) ((((p0.toUInt32 >>> ((16 : Int32) &&& 31).toUInt32).toInt32).toInt8.toInt32).toInt8.toInt32) ((((p0.toUInt32 >>> ((24 : Int32) &&& 31).toUInt32).toInt32).toInt8.toInt32).toInt8.toInt32)))] [])) (fun t k => XS.icmpNo X30.here hx rfl (hb hby at_240) rfl (teq (own_t0 p0)).2 k) ?_
    refine Go.to (g' := (mkF m 244 #[.val (.int p0), .val (.int p1), .val (.long q2), .second, .val (.int p3), .val (.int at_), .val (.int (0 : Int32)), .val (.ref b2), .val (.int (own_le ((p0.toInt8.toInt32).toInt8.toInt32) ((((p0.toUInt32 >>> ((8 : Int32) &&& 31).toUInt32).toInt32).toInt8.toInt32).toInt8.toInt32) ((((p0.toUInt32 >>> ((16 : Int32) &&& 31).toUInt32).toInt32).toInt8.toInt32).toInt8.toInt32) ((((p0.toUInt32 >>> ((24 : Int32) &&& 31).toUInt32).toInt32).toInt8.toInt32).toInt8.toInt32))), .val (.int (own_be ((p0.toInt8.toInt32).toInt8.toInt32) ((((p0.toUInt32 >>> ((8 : Int32) &&& 31).toUInt32).toInt32).toInt8.toInt32).toInt8.toInt32) ((((p0.toUInt32 >>> ((16 : Int32) &&& 31).toUInt32).toInt32).toInt8.toInt32).toInt8.toInt32) ((((p0.toUInt32 >>> ((24 : Int32) &&& 31).toUInt32).toInt32).toInt8.toInt32).toInt8.toInt32)))] [(.int (1 : Int32))])) (fun t k => XS.iconst X30.here hx rfl (hb hby at_243) k) ?_
    refine Go.to (g' := (mkF m 248 #[.val (.int p0), .val (.int p1), .val (.long q2), .second, .val (.int p3), .val (.int at_), .val (.int (0 : Int32)), .val (.ref b2), .val (.int (own_le ((p0.toInt8.toInt32).toInt8.toInt32) ((((p0.toUInt32 >>> ((8 : Int32) &&& 31).toUInt32).toInt32).toInt8.toInt32).toInt8.toInt32) ((((p0.toUInt32 >>> ((16 : Int32) &&& 31).toUInt32).toInt32).toInt8.toInt32).toInt8.toInt32) ((((p0.toUInt32 >>> ((24 : Int32) &&& 31).toUInt32).toInt32).toInt8.toInt32).toInt8.toInt32))), .val (.int (own_be ((p0.toInt8.toInt32).toInt8.toInt32) ((((p0.toUInt32 >>> ((8 : Int32) &&& 31).toUInt32).toInt32).toInt8.toInt32).toInt8.toInt32) ((((p0.toUInt32 >>> ((16 : Int32) &&& 31).toUInt32).toInt32).toInt8.toInt32).toInt8.toInt32) ((((p0.toUInt32 >>> ((24 : Int32) &&& 31).toUInt32).toInt32).toInt8.toInt32).toInt8.toInt32)))] [(.int (1 : Int32))])) (fun t k => XS.goto X30.here hx rfl (pc0 := 244) (pc' := 248) rfl (hb hby at_244) (by decide) (by decide) k) ?_
    exact Go.retN X30 hx (t := .boolean) Bd.returns Bd.notSynchronized (by simp) (hb hby at_248) (by decide) (by decide) e30 ⟨rfl, N30⟩
  · refine Go.to (g' := (mkF m 12 #[.val (.int p0), .val (.int p1), .val (.long q2), .second, .val (.int p3), .val (.int at_), .unset, .unset, .unset, .unset] [])) (fun t k => XS.ifNo X0.here hx rfl (hb hby at_9) rfl ((if0 _ _).trans (feq c1).1) k) ?_
    refine Go.to (g' := (mkF m 13 #[.val (.int p0), .val (.int p1), .val (.long q2), .second, .val (.int p3), .val (.int at_), .unset, .unset, .unset, .unset] [(.int (1 : Int32))])) (fun t k => XS.iconst X0.here hx rfl (hb hby at_12) k) ?_
    refine Go.to (g' := (mkF m 17 #[.val (.int p0), .val (.int p1), .val (.long q2), .second, .val (.int p3), .val (.int at_), .unset, .unset, .unset, .unset] [(.int (1 : Int32))])) (fun t k => XS.goto X0.here hx rfl (pc0 := 13) (pc' := 17) rfl (hb hby at_13) (by decide) (by decide) k) ?_
    refine Go.to (g' := (mkF m 19 #[.val (.int p0), .val (.int p1), .val (.long q2), .second, .val (.int p3), .val (.int at_), .val (.int (1 : Int32)), .unset, .unset, .unset] [])) (fun t k => XS.istore X0.here hx rfl (hb hby at_17) rfl (l' := #[.val (.int p0), .val (.int p1), .val (.long q2), .second, .val (.int p3), .val (.int at_), .val (.int (1 : Int32)), .unset, .unset, .unset]) rfl k) ?_
    refine Go.to (g' := (mkF m 21 #[.val (.int p0), .val (.int p1), .val (.long q2), .second, .val (.int p3), .val (.int at_), .val (.int (1 : Int32)), .unset, .unset, .unset] [(.int (8 : Int32))])) (fun t k => XS.bipush X0.here hx rfl (hb hby at_19) k) ?_
    obtain ⟨T32, h32, k32, X32, e32, E32, A32, st32⟩ := newP X0 hx hZ (hw _ (List.mem_of_getElem? (i := 0) rfl)) e0 (g := (mkF m 21 #[.val (.int p0), .val (.int p1), .val (.long q2), .second, .val (.int p3), .val (.int at_), .val (.int (1 : Int32)), .unset, .unset, .unset] [(.int (8 : Int32))])) rfl (hb hby at_21) rfl (by decide) (cap := 8) (by decide) (by decide) (by decide) (by decide)
    obtain ⟨b31, g32⟩ : ∃ z, z = h0.size := ⟨_, rfl⟩
    rw [← g32] at A32 st32
    have g_b31 : n0 ≤ b31 := Nat.le_trans Z0 (Nat.le_of_eq g32.symm)
    have sz_b31 : h0.size ≤ b31 := Nat.le_trans (Keep.refl h0 []).1 (Nat.le_of_eq g32.symm)
    have Z32 : n0 ≤ h32.size := Nat.le_trans Z0 E32.1
    have K32 : Keep h0 h32 [] := (Keep.refl h0 []).ext E32
    have V_b31 : Arv Z h32 b31 k32 .byte (8 : Int32) [(.int (0 : Int32)), (.int (0 : Int32)), (.int (0 : Int32)), (.int (0 : Int32)), (.int (0 : Int32)), (.int (0 : Int32)), (.int (0 : Int32)), (.int (0 : Int32))] (.int (0 : Int32)) := (Arv.new A32 (by decide)).pad (pad_rep [] (.int (0 : Int32)) 8)
    refine Go.to (g' := (mkF m 23 #[.val (.int p0), .val (.int p1), .val (.long q2), .second, .val (.int p3), .val (.int at_), .val (.int (1 : Int32)), .unset, .unset, .unset] [(.ref b31)])) st32 ?_
    refine Go.to (g' := (mkF m 25 #[.val (.int p0), .val (.int p1), .val (.long q2), .second, .val (.int p3), .val (.int at_), .val (.int (1 : Int32)), .val (.ref b31), .unset, .unset] [])) (fun t k => XS.astore X32.here hx rfl (hb hby at_23) rfl rfl (l' := #[.val (.int p0), .val (.int p1), .val (.long q2), .second, .val (.int p3), .val (.int at_), .val (.int (1 : Int32)), .val (.ref b31), .unset, .unset]) rfl k) ?_
    refine Go.to (g' := (mkF m 27 #[.val (.int p0), .val (.int p1), .val (.long q2), .second, .val (.int p3), .val (.int at_), .val (.int (1 : Int32)), .val (.ref b31), .unset, .unset] [(.ref b31)])) (fun t k => XS.aload X32.here hx rfl (hb hby at_25) rfl rfl k) ?_
    refine Go.to (g' := (mkF m 28 #[.val (.int p0), .val (.int p1), .val (.long q2), .second, .val (.int p3), .val (.int at_), .val (.int (1 : Int32)), .val (.ref b31), .unset, .unset] [(.int (0 : Int32)), (.ref b31)])) (fun t k => XS.iconst X32.here hx rfl (hb hby at_27) k) ?_
    refine Go.to (g' := (mkF m 29 #[.val (.int p0), .val (.int p1), .val (.long q2), .second, .val (.int p3), .val (.int at_), .val (.int (1 : Int32)), .val (.ref b31), .unset, .unset] [(.long q2), (.int (0 : Int32)), (.ref b31)])) (fun t k => XS.lloadN X32.here hx rfl (hb hby at_28) rfl k) ?_
    refine Go.to (g' := (mkF m 30 #[.val (.int p0), .val (.int p1), .val (.long q2), .second, .val (.int p3), .val (.int at_), .val (.int (1 : Int32)), .val (.ref b31), .unset, .unset] [(.int (q2.toInt32)), (.int (0 : Int32)), (.ref b31)])) (fun t k => XS.l2i X32.here hx rfl (hb hby at_29) rfl k) ?_
    refine Go.to (g' := (mkF m 31 #[.val (.int p0), .val (.int p1), .val (.long q2), .second, .val (.int p3), .val (.int at_), .val (.int (1 : Int32)), .val (.ref b31), .unset, .unset] [(.int ((q2.toInt32).toInt8.toInt32)), (.int (0 : Int32)), (.ref b31)])) (fun t k => XS.i2b X32.here hx rfl (hb hby at_30) rfl k) ?_
    obtain ⟨cl33, Ar33, kc33, S33, M33, H33, G33⟩ := V_b31
    have hin33 : ¬ ((0 : Int32) < 0 ∨ cl33.slots.size ≤ ((0 : Int32)).toNatClampNeg) := inb_of S33 ⟨by decide, by decide⟩
    obtain ⟨T34, h34, X34, e34, W34, st34⟩ := stB X32 hx hZ e32 Ar33 (j := (0 : Int32)) hin33 (g := (mkF m 31 #[.val (.int p0), .val (.int p1), .val (.long q2), .second, .val (.int p3), .val (.int at_), .val (.int (1 : Int32)), .val (.ref b31), .unset, .unset] [(.int ((q2.toInt32).toInt8.toInt32)), (.int (0 : Int32)), (.ref b31)])) rfl rfl (hb hby at_31)
    have Z34 : n0 ≤ h34.size := Nat.le_trans Z32 (Keep.of_wr W34).1
    have K34 : Keep h0 h34 [] := K32.wr W34 (Or.inr sz_b31)
    have N34 := Fr.snoc X34 N0 g_b31
    have V34 : Arv Z h34 b31 k32 .byte (8 : Int32) [(.int (((q2.toInt32).toInt8.toInt32)).toInt8.toInt32), (.int (0 : Int32)), (.int (0 : Int32)), (.int (0 : Int32)), (.int (0 : Int32)), (.int (0 : Int32)), (.int (0 : Int32)), (.int (0 : Int32))] (.int (0 : Int32)) := Arv.set Ar33 kc33 S33 M33 H33 G33 (fits_nar_byte _) W34 0 rfl (Nat.le_of_ble_eq_true rfl)
    refine Go.to (g' := (mkF m 32 #[.val (.int p0), .val (.int p1), .val (.long q2), .second, .val (.int p3), .val (.int at_), .val (.int (1 : Int32)), .val (.ref b31), .unset, .unset] [])) st34 ?_
    refine Go.to (g' := (mkF m 34 #[.val (.int p0), .val (.int p1), .val (.long q2), .second, .val (.int p3), .val (.int at_), .val (.int (1 : Int32)), .val (.ref b31), .unset, .unset] [(.ref b31)])) (fun t k => XS.aload X34.here hx rfl (hb hby at_32) rfl rfl k) ?_
    refine Go.to (g' := (mkF m 35 #[.val (.int p0), .val (.int p1), .val (.long q2), .second, .val (.int p3), .val (.int at_), .val (.int (1 : Int32)), .val (.ref b31), .unset, .unset] [(.int (1 : Int32)), (.ref b31)])) (fun t k => XS.iconst X34.here hx rfl (hb hby at_34) k) ?_
    refine Go.to (g' := (mkF m 36 #[.val (.int p0), .val (.int p1), .val (.long q2), .second, .val (.int p3), .val (.int at_), .val (.int (1 : Int32)), .val (.ref b31), .unset, .unset] [(.long q2), (.int (1 : Int32)), (.ref b31)])) (fun t k => XS.lloadN X34.here hx rfl (hb hby at_35) rfl k) ?_
    refine Go.to (g' := (mkF m 38 #[.val (.int p0), .val (.int p1), .val (.long q2), .second, .val (.int p3), .val (.int at_), .val (.int (1 : Int32)), .val (.ref b31), .unset, .unset] [(.int (8 : Int32)), (.long q2), (.int (1 : Int32)), (.ref b31)])) (fun t k => XS.bipush X34.here hx rfl (hb hby at_36) k) ?_
    refine Go.to (g' := (mkF m 39 #[.val (.int p0), .val (.int p1), .val (.long q2), .second, .val (.int p3), .val (.int at_), .val (.int (1 : Int32)), .val (.ref b31), .unset, .unset] [(.long ((q2.toUInt64 >>> ((8 : Int32) &&& 0x3f).toInt64.toUInt64).toInt64)), (.int (1 : Int32)), (.ref b31)])) (fun t k => XS.lushr X34.here hx rfl (hb hby at_38) rfl k) ?_
    refine Go.to (g' := (mkF m 40 #[.val (.int p0), .val (.int p1), .val (.long q2), .second, .val (.int p3), .val (.int at_), .val (.int (1 : Int32)), .val (.ref b31), .unset, .unset] [(.int (((q2.toUInt64 >>> ((8 : Int32) &&& 0x3f).toInt64.toUInt64).toInt64).toInt32)), (.int (1 : Int32)), (.ref b31)])) (fun t k => XS.l2i X34.here hx rfl (hb hby at_39) rfl k) ?_
    refine Go.to (g' := (mkF m 41 #[.val (.int p0), .val (.int p1), .val (.long q2), .second, .val (.int p3), .val (.int at_), .val (.int (1 : Int32)), .val (.ref b31), .unset, .unset] [(.int ((((q2.toUInt64 >>> ((8 : Int32) &&& 0x3f).toInt64.toUInt64).toInt64).toInt32).toInt8.toInt32)), (.int (1 : Int32)), (.ref b31)])) (fun t k => XS.i2b X34.here hx rfl (hb hby at_40) rfl k) ?_
    obtain ⟨cl35, Ar35, kc35, S35, M35, H35, G35⟩ := V34
    have hin35 : ¬ ((1 : Int32) < 0 ∨ cl35.slots.size ≤ ((1 : Int32)).toNatClampNeg) := inb_of S35 ⟨by decide, by decide⟩
    obtain ⟨T36, h36, X36, e36, W36, st36⟩ := stB X34 hx hZ e34 Ar35 (j := (1 : Int32)) hin35 (g := (mkF m 41 #[.val (.int p0), .val (.int p1), .val (.long q2), .second, .val (.int p3), .val (.int at_), .val (.int (1 : Int32)), .val (.ref b31), .unset, .unset] [(.int ((((q2.toUInt64 >>> ((8 : Int32) &&& 0x3f).toInt64.toUInt64).toInt64).toInt32).toInt8.toInt32)), (.int (1 : Int32)), (.ref b31)])) rfl rfl (hb hby at_41)
    have Z36 : n0 ≤ h36.size := Nat.le_trans Z34 (Keep.of_wr W36).1
    have K36 : Keep h0 h36 [] := K34.wr W36 (Or.inr sz_b31)
    have N36 := Fr.snoc X36 N34 g_b31
    have V36 : Arv Z h36 b31 k32 .byte (8 : Int32) [(.int (((q2.toInt32).toInt8.toInt32)).toInt8.toInt32), (.int (((((q2.toUInt64 >>> ((8 : Int32) &&& 0x3f).toInt64.toUInt64).toInt64).toInt32).toInt8.toInt32)).toInt8.toInt32), (.int (0 : Int32)), (.int (0 : Int32)), (.int (0 : Int32)), (.int (0 : Int32)), (.int (0 : Int32)), (.int (0 : Int32))] (.int (0 : Int32)) := Arv.set Ar35 kc35 S35 M35 H35 G35 (fits_nar_byte _) W36 1 rfl (Nat.le_of_ble_eq_true rfl)
    refine Go.to (g' := (mkF m 42 #[.val (.int p0), .val (.int p1), .val (.long q2), .second, .val (.int p3), .val (.int at_), .val (.int (1 : Int32)), .val (.ref b31), .unset, .unset] [])) st36 ?_
    refine Go.to (g' := (mkF m 44 #[.val (.int p0), .val (.int p1), .val (.long q2), .second, .val (.int p3), .val (.int at_), .val (.int (1 : Int32)), .val (.ref b31), .unset, .unset] [(.ref b31)])) (fun t k => XS.aload X36.here hx rfl (hb hby at_42) rfl rfl k) ?_
    refine Go.to (g' := (mkF m 45 #[.val (.int p0), .val (.int p1), .val (.long q2), .second, .val (.int p3), .val (.int at_), .val (.int (1 : Int32)), .val (.ref b31), .unset, .unset] [(.int (2 : Int32)), (.ref b31)])) (fun t k => XS.iconst X36.here hx rfl (hb hby at_44) k) ?_
    refine Go.to (g' := (mkF m 46 #[.val (.int p0), .val (.int p1), .val (.long q2), .second, .val (.int p3), .val (.int at_), .val (.int (1 : Int32)), .val (.ref b31), .unset, .unset] [(.long q2), (.int (2 : Int32)), (.ref b31)])) (fun t k => XS.lloadN X36.here hx rfl (hb hby at_45) rfl k) ?_
    refine Go.to (g' := (mkF m 48 #[.val (.int p0), .val (.int p1), .val (.long q2), .second, .val (.int p3), .val (.int at_), .val (.int (1 : Int32)), .val (.ref b31), .unset, .unset] [(.int (16 : Int32)), (.long q2), (.int (2 : Int32)), (.ref b31)])) (fun t k => XS.bipush X36.here hx rfl (hb hby at_46) k) ?_
    refine Go.to (g' := (mkF m 49 #[.val (.int p0), .val (.int p1), .val (.long q2), .second, .val (.int p3), .val (.int at_), .val (.int (1 : Int32)), .val (.ref b31), .unset, .unset] [(.long ((q2.toUInt64 >>> ((16 : Int32) &&& 0x3f).toInt64.toUInt64).toInt64)), (.int (2 : Int32)), (.ref b31)])) (fun t k => XS.lushr X36.here hx rfl (hb hby at_48) rfl k) ?_
    refine Go.to (g' := (mkF m 50 #[.val (.int p0), .val (.int p1), .val (.long q2), .second, .val (.int p3), .val (.int at_), .val (.int (1 : Int32)), .val (.ref b31), .unset, .unset] [(.int (((q2.toUInt64 >>> ((16 : Int32) &&& 0x3f).toInt64.toUInt64).toInt64).toInt32)), (.int (2 : Int32)), (.ref b31)])) (fun t k => XS.l2i X36.here hx rfl (hb hby at_49) rfl k) ?_
    refine Go.to (g' := (mkF m 51 #[.val (.int p0), .val (.int p1), .val (.long q2), .second, .val (.int p3), .val (.int at_), .val (.int (1 : Int32)), .val (.ref b31), .unset, .unset] [(.int ((((q2.toUInt64 >>> ((16 : Int32) &&& 0x3f).toInt64.toUInt64).toInt64).toInt32).toInt8.toInt32)), (.int (2 : Int32)), (.ref b31)])) (fun t k => XS.i2b X36.here hx rfl (hb hby at_50) rfl k) ?_
    obtain ⟨cl37, Ar37, kc37, S37, M37, H37, G37⟩ := V36
    have hin37 : ¬ ((2 : Int32) < 0 ∨ cl37.slots.size ≤ ((2 : Int32)).toNatClampNeg) := inb_of S37 ⟨by decide, by decide⟩
    obtain ⟨T38, h38, X38, e38, W38, st38⟩ := stB X36 hx hZ e36 Ar37 (j := (2 : Int32)) hin37 (g := (mkF m 51 #[.val (.int p0), .val (.int p1), .val (.long q2), .second, .val (.int p3), .val (.int at_), .val (.int (1 : Int32)), .val (.ref b31), .unset, .unset] [(.int ((((q2.toUInt64 >>> ((16 : Int32) &&& 0x3f).toInt64.toUInt64).toInt64).toInt32).toInt8.toInt32)), (.int (2 : Int32)), (.ref b31)])) rfl rfl (hb hby at_51)
    have Z38 : n0 ≤ h38.size := Nat.le_trans Z36 (Keep.of_wr W38).1
    have K38 : Keep h0 h38 [] := K36.wr W38 (Or.inr sz_b31)
    have N38 := Fr.snoc X38 N36 g_b31
    have V38 : Arv Z h38 b31 k32 .byte (8 : Int32) [(.int (((q2.toInt32).toInt8.toInt32)).toInt8.toInt32), (.int (((((q2.toUInt64 >>> ((8 : Int32) &&& 0x3f).toInt64.toUInt64).toInt64).toInt32).toInt8.toInt32)).toInt8.toInt32), (.int (((((q2.toUInt64 >>> ((16 : Int32) &&& 0x3f).toInt64.toUInt64).toInt64).toInt32).toInt8.toInt32)).toInt8.toInt32), (.int (0 : Int32)), (.int (0 : Int32)), (.int (0 : Int32)), (.int (0 : Int32)), (.int (0 : Int32))] (.int (0 : Int32)) := Arv.set Ar37 kc37 S37 M37 H37 G37 (fits_nar_byte _) W38 2 rfl (Nat.le_of_ble_eq_true rfl)
    refine Go.to (g' := (mkF m 52 #[.val (.int p0), .val (.int p1), .val (.long q2), .second, .val (.int p3), .val (.int at_), .val (.int (1 : Int32)), .val (.ref b31), .unset, .unset] [])) st38 ?_
    refine Go.to (g' := (mkF m 54 #[.val (.int p0), .val (.int p1), .val (.long q2), .second, .val (.int p3), .val (.int at_), .val (.int (1 : Int32)), .val (.ref b31), .unset, .unset] [(.ref b31)])) (fun t k => XS.aload X38.here hx rfl (hb hby at_52) rfl rfl k) ?_
    refine Go.to (g' := (mkF m 55 #[.val (.int p0), .val (.int p1), .val (.long q2), .second, .val (.int p3), .val (.int at_), .val (.int (1 : Int32)), .val (.ref b31), .unset, .unset] [(.int (3 : Int32)), (.ref b31)])) (fun t k => XS.iconst X38.here hx rfl (hb hby at_54) k) ?_
    refine Go.to (g' := (mkF m 56 #[.val (.int p0), .val (.int p1), .val (.long q2), .second, .val (.int p3), .val (.int at_), .val (.int (1 : Int32)), .val (.ref b31), .unset, .unset] [(.long q2), (.int (3 : Int32)), (.ref b31)])) (fun t k => XS.lloadN X38.here hx rfl (hb hby at_55) rfl k) ?_
    refine Go.to (g' := (mkF m 58 #[.val (.int p0), .val (.int p1), .val (.long q2), .second, .val (.int p3), .val (.int at_), .val (.int (1 : Int32)), .val (.ref b31), .unset, .unset] [(.int (24 : Int32)), (.long q2), (.int (3 : Int32)), (.ref b31)])) (fun t k => XS.bipush X38.here hx rfl (hb hby at_56) k) ?_
    refine Go.to (g' := (mkF m 59 #[.val (.int p0), .val (.int p1), .val (.long q2), .second, .val (.int p3), .val (.int at_), .val (.int (1 : Int32)), .val (.ref b31), .unset, .unset] [(.long ((q2.toUInt64 >>> ((24 : Int32) &&& 0x3f).toInt64.toUInt64).toInt64)), (.int (3 : Int32)), (.ref b31)])) (fun t k => XS.lushr X38.here hx rfl (hb hby at_58) rfl k) ?_
    refine Go.to (g' := (mkF m 60 #[.val (.int p0), .val (.int p1), .val (.long q2), .second, .val (.int p3), .val (.int at_), .val (.int (1 : Int32)), .val (.ref b31), .unset, .unset] [(.int (((q2.toUInt64 >>> ((24 : Int32) &&& 0x3f).toInt64.toUInt64).toInt64).toInt32)), (.int (3 : Int32)), (.ref b31)])) (fun t k => XS.l2i X38.here hx rfl (hb hby at_59) rfl k) ?_
    refine Go.to (g' := (mkF m 61 #[.val (.int p0), .val (.int p1), .val (.long q2), .second, .val (.int p3), .val (.int at_), .val (.int (1 : Int32)), .val (.ref b31), .unset, .unset] [(.int ((((q2.toUInt64 >>> ((24 : Int32) &&& 0x3f).toInt64.toUInt64).toInt64).toInt32).toInt8.toInt32)), (.int (3 : Int32)), (.ref b31)])) (fun t k => XS.i2b X38.here hx rfl (hb hby at_60) rfl k) ?_
    obtain ⟨cl39, Ar39, kc39, S39, M39, H39, G39⟩ := V38
    have hin39 : ¬ ((3 : Int32) < 0 ∨ cl39.slots.size ≤ ((3 : Int32)).toNatClampNeg) := inb_of S39 ⟨by decide, by decide⟩
    obtain ⟨T40, h40, X40, e40, W40, st40⟩ := stB X38 hx hZ e38 Ar39 (j := (3 : Int32)) hin39 (g := (mkF m 61 #[.val (.int p0), .val (.int p1), .val (.long q2), .second, .val (.int p3), .val (.int at_), .val (.int (1 : Int32)), .val (.ref b31), .unset, .unset] [(.int ((((q2.toUInt64 >>> ((24 : Int32) &&& 0x3f).toInt64.toUInt64).toInt64).toInt32).toInt8.toInt32)), (.int (3 : Int32)), (.ref b31)])) rfl rfl (hb hby at_61)
    have Z40 : n0 ≤ h40.size := Nat.le_trans Z38 (Keep.of_wr W40).1
    have K40 : Keep h0 h40 [] := K38.wr W40 (Or.inr sz_b31)
    have N40 := Fr.snoc X40 N38 g_b31
    have V40 : Arv Z h40 b31 k32 .byte (8 : Int32) [(.int (((q2.toInt32).toInt8.toInt32)).toInt8.toInt32), (.int (((((q2.toUInt64 >>> ((8 : Int32) &&& 0x3f).toInt64.toUInt64).toInt64).toInt32).toInt8.toInt32)).toInt8.toInt32), (.int (((((q2.toUInt64 >>> ((16 : Int32) &&& 0x3f).toInt64.toUInt64).toInt64).toInt32).toInt8.toInt32)).toInt8.toInt32), (.int (((((q2.toUInt64 >>> ((24 : Int32) &&& 0x3f).toInt64.toUInt64).toInt64).toInt32).toInt8.toInt32)).toInt8.toInt32), (.int (0 : Int32)), (.int (0 : Int32)), (.int (0 : Int32)), (.int (0 : Int32))] (.int (0 : Int32)) := Arv.set Ar39 kc39 S39 M39 H39 G39 (fits_nar_byte _) W40 3 rfl (Nat.le_of_ble_eq_true rfl)
    refine Go.to (g' := (mkF m 62 #[.val (.int p0), .val (.int p1), .val (.long q2), .second, .val (.int p3), .val (.int at_), .val (.int (1 : Int32)), .val (.ref b31), .unset, .unset] [])) st40 ?_
    refine Go.to (g' := (mkF m 64 #[.val (.int p0), .val (.int p1), .val (.long q2), .second, .val (.int p3), .val (.int at_), .val (.int (1 : Int32)), .val (.ref b31), .unset, .unset] [(.ref b31)])) (fun t k => XS.aload X40.here hx rfl (hb hby at_62) rfl rfl k) ?_
    refine Go.to (g' := (mkF m 65 #[.val (.int p0), .val (.int p1), .val (.long q2), .second, .val (.int p3), .val (.int at_), .val (.int (1 : Int32)), .val (.ref b31), .unset, .unset] [(.int (4 : Int32)), (.ref b31)])) (fun t k => XS.iconst X40.here hx rfl (hb hby at_64) k) ?_
    refine Go.to (g' := (mkF m 66 #[.val (.int p0), .val (.int p1), .val (.long q2), .second, .val (.int p3), .val (.int at_), .val (.int (1 : Int32)), .val (.ref b31), .unset, .unset] [(.long q2), (.int (4 : Int32)), (.ref b31)])) (fun t k => XS.lloadN X40.here hx rfl (hb hby at_65) rfl k) ?_
    refine Go.to (g' := (mkF m 68 #[.val (.int p0), .val (.int p1), .val (.long q2), .second, .val (.int p3), .val (.int at_), .val (.int (1 : Int32)), .val (.ref b31), .unset, .unset] [(.int (32 : Int32)), (.long q2), (.int (4 : Int32)), (.ref b31)])) (fun t k => XS.bipush X40.here hx rfl (hb hby at_66) k) ?_
    refine Go.to (g' := (mkF m 69 #[.val (.int p0), .val (.int p1), .val (.long q2), .second, .val (.int p3), .val (.int at_), .val (.int (1 : Int32)), .val (.ref b31), .unset, .unset] [(.long ((q2.toUInt64 >>> ((32 : Int32) &&& 0x3f).toInt64.toUInt64).toInt64)), (.int (4 : Int32)), (.ref b31)])) (fun t k => XS.lushr X40.here hx rfl (hb hby at_68) rfl k) ?_
    refine Go.to (g' := (mkF m 70 #[.val (.int p0), .val (.int p1), .val (.long q2), .second, .val (.int p3), .val (.int at_), .val (.int (1 : Int32)), .val (.ref b31), .unset, .unset] [(.int (((q2.toUInt64 >>> ((32 : Int32) &&& 0x3f).toInt64.toUInt64).toInt64).toInt32)), (.int (4 : Int32)), (.ref b31)])) (fun t k => XS.l2i X40.here hx rfl (hb hby at_69) rfl k) ?_
    refine Go.to (g' := (mkF m 71 #[.val (.int p0), .val (.int p1), .val (.long q2), .second, .val (.int p3), .val (.int at_), .val (.int (1 : Int32)), .val (.ref b31), .unset, .unset] [(.int ((((q2.toUInt64 >>> ((32 : Int32) &&& 0x3f).toInt64.toUInt64).toInt64).toInt32).toInt8.toInt32)), (.int (4 : Int32)), (.ref b31)])) (fun t k => XS.i2b X40.here hx rfl (hb hby at_70) rfl k) ?_
    obtain ⟨cl41, Ar41, kc41, S41, M41, H41, G41⟩ := V40
    have hin41 : ¬ ((4 : Int32) < 0 ∨ cl41.slots.size ≤ ((4 : Int32)).toNatClampNeg) := inb_of S41 ⟨by decide, by decide⟩
    obtain ⟨T42, h42, X42, e42, W42, st42⟩ := stB X40 hx hZ e40 Ar41 (j := (4 : Int32)) hin41 (g := (mkF m 71 #[.val (.int p0), .val (.int p1), .val (.long q2), .second, .val (.int p3), .val (.int at_), .val (.int (1 : Int32)), .val (.ref b31), .unset, .unset] [(.int ((((q2.toUInt64 >>> ((32 : Int32) &&& 0x3f).toInt64.toUInt64).toInt64).toInt32).toInt8.toInt32)), (.int (4 : Int32)), (.ref b31)])) rfl rfl (hb hby at_71)
    have Z42 : n0 ≤ h42.size := Nat.le_trans Z40 (Keep.of_wr W42).1
    have K42 : Keep h0 h42 [] := K40.wr W42 (Or.inr sz_b31)
    have N42 := Fr.snoc X42 N40 g_b31
    have V42 : Arv Z h42 b31 k32 .byte (8 : Int32) [(.int (((q2.toInt32).toInt8.toInt32)).toInt8.toInt32), (.int (((((q2.toUInt64 >>> ((8 : Int32) &&& 0x3f).toInt64.toUInt64).toInt64).toInt32).toInt8.toInt32)).toInt8.toInt32), (.int (((((q2.toUInt64 >>> ((16 : Int32) &&& 0x3f).toInt64.toUInt64).toInt64).toInt32).toInt8.toInt32)).toInt8.toInt32), (.int (((((q2.toUInt64 >>> ((24 : Int32) &&& 0x3f).toInt64.toUInt64).toInt64).toInt32).toInt8.toInt32)).toInt8.toInt32), (.int (((((q2.toUInt64 >>> ((32 : Int32) &&& 0x3f).toInt64.toUInt64).toInt64).toInt32).toInt8.toInt32)).toInt8.toInt32), (.int (0 : Int32)), (.int (0 : Int32)), (.int (0 : Int32))] (.int (0 : Int32)) := Arv.set Ar41 kc41 S41 M41 H41 G41 (fits_nar_byte _) W42 4 rfl (Nat.le_of_ble_eq_true rfl)
    refine Go.to (g' := (mkF m 72 #[.val (.int p0), .val (.int p1), .val (.long q2), .second, .val (.int p3), .val (.int at_), .val (.int (1 : Int32)), .val (.ref b31), .unset, .unset] [])) st42 ?_
    refine Go.to (g' := (mkF m 74 #[.val (.int p0), .val (.int p1), .val (.long q2), .second, .val (.int p3), .val (.int at_), .val (.int (1 : Int32)), .val (.ref b31), .unset, .unset] [(.ref b31)])) (fun t k => XS.aload X42.here hx rfl (hb hby at_72) rfl rfl k) ?_
    refine Go.to (g' := (mkF m 75 #[.val (.int p0), .val (.int p1), .val (.long q2), .second, .val (.int p3), .val (.int at_), .val (.int (1 : Int32)), .val (.ref b31), .unset, .unset] [(.int (5 : Int32)), (.ref b31)])) (fun t k => XS.iconst X42.here hx rfl (hb hby at_74) k) ?_
    refine Go.to (g' := (mkF m 76 #[.val (.int p0), .val (.int p1), .val (.long q2), .second, .val (.int p3), .val (.int at_), .val (.int (1 : Int32)), .val (.ref b31), .unset, .unset] [(.long q2), (.int (5 : Int32)), (.ref b31)])) (fun t k => XS.lloadN X42.here hx rfl (hb hby at_75) rfl k) ?_
    refine Go.to (g' := (mkF m 78 #[.val (.int p0), .val (.int p1), .val (.long q2), .second, .val (.int p3), .val (.int at_), .val (.int (1 : Int32)), .val (.ref b31), .unset, .unset] [(.int (40 : Int32)), (.long q2), (.int (5 : Int32)), (.ref b31)])) (fun t k => XS.bipush X42.here hx rfl (hb hby at_76) k) ?_
    refine Go.to (g' := (mkF m 79 #[.val (.int p0), .val (.int p1), .val (.long q2), .second, .val (.int p3), .val (.int at_), .val (.int (1 : Int32)), .val (.ref b31), .unset, .unset] [(.long ((q2.toUInt64 >>> ((40 : Int32) &&& 0x3f).toInt64.toUInt64).toInt64)), (.int (5 : Int32)), (.ref b31)])) (fun t k => XS.lushr X42.here hx rfl (hb hby at_78) rfl k) ?_
    refine Go.to (g' := (mkF m 80 #[.val (.int p0), .val (.int p1), .val (.long q2), .second, .val (.int p3), .val (.int at_), .val (.int (1 : Int32)), .val (.ref b31), .unset, .unset] [(.int (((q2.toUInt64 >>> ((40 : Int32) &&& 0x3f).toInt64.toUInt64).toInt64).toInt32)), (.int (5 : Int32)), (.ref b31)])) (fun t k => XS.l2i X42.here hx rfl (hb hby at_79) rfl k) ?_
    refine Go.to (g' := (mkF m 81 #[.val (.int p0), .val (.int p1), .val (.long q2), .second, .val (.int p3), .val (.int at_), .val (.int (1 : Int32)), .val (.ref b31), .unset, .unset] [(.int ((((q2.toUInt64 >>> ((40 : Int32) &&& 0x3f).toInt64.toUInt64).toInt64).toInt32).toInt8.toInt32)), (.int (5 : Int32)), (.ref b31)])) (fun t k => XS.i2b X42.here hx rfl (hb hby at_80) rfl k) ?_
    obtain ⟨cl43, Ar43, kc43, S43, M43, H43, G43⟩ := V42
    have hin43 : ¬ ((5 : Int32) < 0 ∨ cl43.slots.size ≤ ((5 : Int32)).toNatClampNeg) := inb_of S43 ⟨by decide, by decide⟩
    obtain ⟨T44, h44, X44, e44, W44, st44⟩ := stB X42 hx hZ e42 Ar43 (j := (5 : Int32)) hin43 (g := (mkF m 81 #[.val (.int p0), .val (.int p1), .val (.long q2), .second, .val (.int p3), .val (.int at_), .val (.int (1 : Int32)), .val (.ref b31), .unset, .unset] [(.int ((((q2.toUInt64 >>> ((40 : Int32) &&& 0x3f).toInt64.toUInt64).toInt64).toInt32).toInt8.toInt32)), (.int (5 : Int32)), (.ref b31)])) rfl rfl (hb hby at_81)
    have Z44 : n0 ≤ h44.size := Nat.le_trans Z42 (Keep.of_wr W44).1
    have K44 : Keep h0 h44 [] := K42.wr W44 (Or.inr sz_b31)
    have N44 := Fr.snoc X44 N42 g_b31
    have V44 : Arv Z h44 b31 k32 .byte (8 : Int32) [(.int (((q2.toInt32).toInt8.toInt32)).toInt8.toInt32), (.int (((((q2.toUInt64 >>> ((8 : Int32) &&& 0x3f).toInt64.toUInt64).toInt64).toInt32).toInt8.toInt32)).toInt8.toInt32), (.int (((((q2.toUInt64 >>> ((16 : Int32) &&& 0x3f).toInt64.toUInt64).toInt64).toInt32).toInt8.toInt32)).toInt8.toInt32), (.int (((((q2.toUInt64 >>> ((24 : Int32) &&& 0x3f).toInt64.toUInt64).toInt64).toInt32).toInt8.toInt32)).toInt8.toInt32), (.int (((((q2.toUInt64 >>> ((32 : Int32) &&& 0x3f).toInt64.toUInt64).toInt64).toInt32).toInt8.toInt32)).toInt8.toInt32), (.int (((((q2.toUInt64 >>> ((40 : Int32) &&& 0x3f).toInt64.toUInt64).toInt64).toInt32).toInt8.toInt32)).toInt8.toInt32), (.int (0 : Int32)), (.int (0 : Int32))] (.int (0 : Int32)) := Arv.set Ar43 kc43 S43 M43 H43 G43 (fits_nar_byte _) W44 5 rfl (Nat.le_of_ble_eq_true rfl)
    refine Go.to (g' := (mkF m 82 #[.val (.int p0), .val (.int p1), .val (.long q2), .second, .val (.int p3), .val (.int at_), .val (.int (1 : Int32)), .val (.ref b31), .unset, .unset] [])) st44 ?_
    refine Go.to (g' := (mkF m 84 #[.val (.int p0), .val (.int p1), .val (.long q2), .second, .val (.int p3), .val (.int at_), .val (.int (1 : Int32)), .val (.ref b31), .unset, .unset] [(.ref b31)])) (fun t k => XS.aload X44.here hx rfl (hb hby at_82) rfl rfl k) ?_
    refine Go.to (g' := (mkF m 86 #[.val (.int p0), .val (.int p1), .val (.long q2), .second, .val (.int p3), .val (.int at_), .val (.int (1 : Int32)), .val (.ref b31), .unset, .unset] [(.int (6 : Int32)), (.ref b31)])) (fun t k => XS.bipush X44.here hx rfl (hb hby at_84) k) ?_
    refine Go.to (g' := (mkF m 87 #[.val (.int p0), .val (.int p1), .val (.long q2), .second, .val (.int p3), .val (.int at_), .val (.int (1 : Int32)), .val (.ref b31), .unset, .unset] [(.long q2), (.int (6 : Int32)), (.ref b31)])) (fun t k => XS.lloadN X44.here hx rfl (hb hby at_86) rfl k) ?_
    refine Go.to (g' := (mkF m 89 #[.val (.int p0), .val (.int p1), .val (.long q2), .second, .val (.int p3), .val (.int at_), .val (.int (1 : Int32)), .val (.ref b31), .unset, .unset] [(.int (48 : Int32)), (.long q2), (.int (6 : Int32)), (.ref b31)])) (fun t k => XS.bipush X44.here hx rfl (hb hby at_87) k) ?_
    refine Go.to (g' := (mkF m 90 #[.val (.int p0), .val (.int p1), .val (.long q2), .second, .val (.int p3), .val (.int at_), .val (.int (1 : Int32)), .val (.ref b31), .unset, .unset] [(.long ((q2.toUInt64 >>> ((48 : Int32) &&& 0x3f).toInt64.toUInt64).toInt64)), (.int (6 : Int32)), (.ref b31)])) (fun t k => XS.lushr X44.here hx rfl (hb hby at_89) rfl k) ?_
    refine Go.to (g' := (mkF m 91 #[.val (.int p0), .val (.int p1), .val (.long q2), .second, .val (.int p3), .val (.int at_), .val (.int (1 : Int32)), .val (.ref b31), .unset, .unset] [(.int (((q2.toUInt64 >>> ((48 : Int32) &&& 0x3f).toInt64.toUInt64).toInt64).toInt32)), (.int (6 : Int32)), (.ref b31)])) (fun t k => XS.l2i X44.here hx rfl (hb hby at_90) rfl k) ?_
    refine Go.to (g' := (mkF m 92 #[.val (.int p0), .val (.int p1), .val (.long q2), .second, .val (.int p3), .val (.int at_), .val (.int (1 : Int32)), .val (.ref b31), .unset, .unset] [(.int ((((q2.toUInt64 >>> ((48 : Int32) &&& 0x3f).toInt64.toUInt64).toInt64).toInt32).toInt8.toInt32)), (.int (6 : Int32)), (.ref b31)])) (fun t k => XS.i2b X44.here hx rfl (hb hby at_91) rfl k) ?_
    obtain ⟨cl45, Ar45, kc45, S45, M45, H45, G45⟩ := V44
    have hin45 : ¬ ((6 : Int32) < 0 ∨ cl45.slots.size ≤ ((6 : Int32)).toNatClampNeg) := inb_of S45 ⟨by decide, by decide⟩
    obtain ⟨T46, h46, X46, e46, W46, st46⟩ := stB X44 hx hZ e44 Ar45 (j := (6 : Int32)) hin45 (g := (mkF m 92 #[.val (.int p0), .val (.int p1), .val (.long q2), .second, .val (.int p3), .val (.int at_), .val (.int (1 : Int32)), .val (.ref b31), .unset, .unset] [(.int ((((q2.toUInt64 >>> ((48 : Int32) &&& 0x3f).toInt64.toUInt64).toInt64).toInt32).toInt8.toInt32)), (.int (6 : Int32)), (.ref b31)])) rfl rfl (hb hby at_92)
    have Z46 : n0 ≤ h46.size := Nat.le_trans Z44 (Keep.of_wr W46).1
    have K46 : Keep h0 h46 [] := K44.wr W46 (Or.inr sz_b31)
    have N46 := Fr.snoc X46 N44 g_b31
    have V46 : Arv Z h46 b31 k32 .byte (8 : Int32) [(.int (((q2.toInt32).toInt8.toInt32)).toInt8.toInt32), (.int (((((q2.toUInt64 >>> ((8 : Int32) &&& 0x3f).toInt64.toUInt64).toInt64).toInt32).toInt8.toInt32)).toInt8.toInt32), (.int (((((q2.toUInt64 >>> ((16 : Int32) &&& 0x3f).toInt64.toUInt64).toInt64).toInt32).toInt8.toInt32)).toInt8.toInt32), (.int (((((q2.toUInt64 >>> ((24 : Int32) &&& 0x3f).toInt64.toUInt64).toInt64).toInt32).toInt8.toInt32)).toInt8.toInt32), (.int (((((q2.toUInt64 >>> ((32 : Int32) &&& 0x3f).toInt64.toUInt64).toInt64).toInt32).toInt8.toInt32)).toInt8.toInt32), (.int (((((q2.toUInt64 >>> ((40 : Int32) &&& 0x3f).toInt64.toUInt64).toInt64).toInt32).toInt8.toInt32)).toInt8.toInt32), (.int (((((q2.toUInt64 >>> ((48 : Int32) &&& 0x3f).toInt64.toUInt64).toInt64).toInt32).toInt8.toInt32)).toInt8.toInt32), (.int (0 : Int32))] (.int (0 : Int32)) := Arv.set Ar45 kc45 S45 M45 H45 G45 (fits_nar_byte _) W46 6 rfl (Nat.le_of_ble_eq_true rfl)
    refine Go.to (g' := (mkF m 93 #[.val (.int p0), .val (.int p1), .val (.long q2), .second, .val (.int p3), .val (.int at_), .val (.int (1 : Int32)), .val (.ref b31), .unset, .unset] [])) st46 ?_
    refine Go.to (g' := (mkF m 95 #[.val (.int p0), .val (.int p1), .val (.long q2), .second, .val (.int p3), .val (.int at_), .val (.int (1 : Int32)), .val (.ref b31), .unset, .unset] [(.ref b31)])) (fun t k => XS.aload X46.here hx rfl (hb hby at_93) rfl rfl k) ?_
    refine Go.to (g' := (mkF m 97 #[.val (.int p0), .val (.int p1), .val (.long q2), .second, .val (.int p3), .val (.int at_), .val (.int (1 : Int32)), .val (.ref b31), .unset, .unset] [(.int (7 : Int32)), (.ref b31)])) (fun t k => XS.bipush X46.here hx rfl (hb hby at_95) k) ?_
    refine Go.to (g' := (mkF m 98 #[.val (.int p0), .val (.int p1), .val (.long q2), .second, .val (.int p3), .val (.int at_), .val (.int (1 : Int32)), .val (.ref b31), .unset, .unset] [(.long q2), (.int (7 : Int32)), (.ref b31)])) (fun t k => XS.lloadN X46.here hx rfl (hb hby at_97) rfl k) ?_
    refine Go.to (g' := (mkF m 100 #[.val (.int p0), .val (.int p1), .val (.long q2), .second, .val (.int p3), .val (.int at_), .val (.int (1 : Int32)), .val (.ref b31), .unset, .unset] [(.int (56 : Int32)), (.long q2), (.int (7 : Int32)), (.ref b31)])) (fun t k => XS.bipush X46.here hx rfl (hb hby at_98) k) ?_
    refine Go.to (g' := (mkF m 101 #[.val (.int p0), .val (.int p1), .val (.long q2), .second, .val (.int p3), .val (.int at_), .val (.int (1 : Int32)), .val (.ref b31), .unset, .unset] [(.long ((q2.toUInt64 >>> ((56 : Int32) &&& 0x3f).toInt64.toUInt64).toInt64)), (.int (7 : Int32)), (.ref b31)])) (fun t k => XS.lushr X46.here hx rfl (hb hby at_100) rfl k) ?_
    refine Go.to (g' := (mkF m 102 #[.val (.int p0), .val (.int p1), .val (.long q2), .second, .val (.int p3), .val (.int at_), .val (.int (1 : Int32)), .val (.ref b31), .unset, .unset] [(.int (((q2.toUInt64 >>> ((56 : Int32) &&& 0x3f).toInt64.toUInt64).toInt64).toInt32)), (.int (7 : Int32)), (.ref b31)])) (fun t k => XS.l2i X46.here hx rfl (hb hby at_101) rfl k) ?_
    refine Go.to (g' := (mkF m 103 #[.val (.int p0), .val (.int p1), .val (.long q2), .second, .val (.int p3), .val (.int at_), .val (.int (1 : Int32)), .val (.ref b31), .unset, .unset] [(.int ((((q2.toUInt64 >>> ((56 : Int32) &&& 0x3f).toInt64.toUInt64).toInt64).toInt32).toInt8.toInt32)), (.int (7 : Int32)), (.ref b31)])) (fun t k => XS.i2b X46.here hx rfl (hb hby at_102) rfl k) ?_
    obtain ⟨cl47, Ar47, kc47, S47, M47, H47, G47⟩ := V46
    have hin47 : ¬ ((7 : Int32) < 0 ∨ cl47.slots.size ≤ ((7 : Int32)).toNatClampNeg) := inb_of S47 ⟨by decide, by decide⟩
    obtain ⟨T48, h48, X48, e48, W48, st48⟩ := stB X46 hx hZ e46 Ar47 (j := (7 : Int32)) hin47 (g := (mkF m 103 #[.val (.int p0), .val (.int p1), .val (.long q2), .second, .val (.int p3), .val (.int at_), .val (.int (1 : Int32)), .val (.ref b31), .unset, .unset] [(.int ((((q2.toUInt64 >>> ((56 : Int32) &&& 0x3f).toInt64.toUInt64).toInt64).toInt32).toInt8.toInt32)), (.int (7 : Int32)), (.ref b31)])) rfl rfl (hb hby at_103)
    have Z48 : n0 ≤ h48.size := Nat.le_trans Z46 (Keep.of_wr W48).1
    have K48 : Keep h0 h48 [] := K46.wr W48 (Or.inr sz_b31)
    have N48 := Fr.snoc X48 N46 g_b31
    have V48 : Arv Z h48 b31 k32 .byte (8 : Int32) [(.int (((q2.toInt32).toInt8.toInt32)).toInt8.toInt32), (.int (((((q2.toUInt64 >>> ((8 : Int32) &&& 0x3f).toInt64.toUInt64).toInt64).toInt32).toInt8.toInt32)).toInt8.toInt32), (.int (((((q2.toUInt64 >>> ((16 : Int32) &&& 0x3f).toInt64.toUInt64).toInt64).toInt32).toInt8.toInt32)).toInt8.toInt32), (.int (((((q2.toUInt64 >>> ((24 : Int32) &&& 0x3f).toInt64.toUInt64).toInt64).toInt32).toInt8.toInt32)).toInt8.toInt32), (.int (((((q2.toUInt64 >>> ((32 : Int32) &&& 0x3f).toInt64.toUInt64).toInt64).toInt32).toInt8.toInt32)).toInt8.toInt32), (.int (((((q2.toUInt64 >>> ((40 : Int32) &&& 0x3f).toInt64.toUInt64).toInt64).toInt32).toInt8.toInt32)).toInt8.toInt32), (.int (((((q2.toUInt64 >>> ((48 : Int32) &&& 0x3f).toInt64.toUInt64).toInt64).toInt32).toInt8.toInt32)).toInt8.toInt32), (.int (((((q2.toUInt64 >>> ((56 : Int32) &&& 0x3f).toInt64.toUInt64).toInt64).toInt32).toInt8.toInt32)).toInt8.toInt32)] (.int (0 : Int32)) := Arv.set Ar47 kc47 S47 M47 H47 G47 (fits_nar_byte _) W48 7 rfl (Nat.le_of_ble_eq_true rfl)
    refine Go.to (g' := (mkF m 104 #[.val (.int p0), .val (.int p1), .val (.long q2), .second, .val (.int p3), .val (.int at_), .val (.int (1 : Int32)), .val (.ref b31), .unset, .unset] [])) st48 ?_
    obtain ⟨f, B⟩ : ∃ f, own_By Z h48 b31 8 f := own_by_of V48 rfl
    refine Go.to (g' := (mkF m 106 #[.val (.int p0), .val (.int p1), .val (.long q2), .second, .val (.int p3), .val (.int at_), .val (.int (1 : Int32)), .val (.ref b31), .unset, .unset] [(.int (1 : Int32))])) (fun t k => XS.iload X48.here hx rfl (hb hby at_104) rfl k) ?_
    refine Go.to (g' := (mkF m 109 #[.val (.int p0), .val (.int p1), .val (.long q2), .second, .val (.int p3), .val (.int at_), .val (.int (1 : Int32)), .val (.ref b31), .unset, .unset] [])) (fun t k => XS.ifNo X48.here hx rfl (hb hby at_106) rfl ((if0 _ _).trans (feq (by decide)).1) k) ?_
    refine Go.to (g' := (mkF m 111 #[.val (.int p0), .val (.int p1), .val (.long q2), .second, .val (.int p3), .val (.int at_), .val (.int (1 : Int32)), .val (.ref b31), .unset, .unset] [(.ref b31)])) (fun t k => XS.aload X48.here hx rfl (hb hby at_109) rfl rfl k) ?_
    refine Go.to (g' := (mkF m 113 #[.val (.int p0), .val (.int p1), .val (.long q2), .second, .val (.int p3), .val (.int at_), .val (.int (1 : Int32)), .val (.ref b31), .unset, .unset] [(.int at_), (.ref b31)])) (fun t k => XS.iload X48.here hx rfl (hb hby at_111) rfl k) ?_
    refine Go.to (g' := (mkF m 114 #[.val (.int p0), .val (.int p1), .val (.long q2), .second, .val (.int p3), .val (.int at_), .val (.int (1 : Int32)), .val (.ref b31), .unset, .unset] [(.int p0), (.int at_), (.ref b31)])) (fun t k => XS.iloadN X48.here hx rfl (hb hby at_113) rfl k) ?_
    refine Go.to (g' := (mkF m 116 #[.val (.int p0), .val (.int p1), .val (.long q2), .second, .val (.int p3), .val (.int at_), .val (.int (1 : Int32)), .val (.ref b31), .unset, .unset] [(.int (24 : Int32)), (.int p0), (.int at_), (.ref b31)])) (fun t k => XS.bipush X48.here hx rfl (hb hby at_114) k) ?_
    refine Go.to (g' := (mkF m 117 #[.val (.int p0), .val (.int p1), .val (.long q2), .second, .val (.int p3), .val (.int at_), .val (.int (1 : Int32)), .val (.ref b31), .unset, .unset] [(.int ((p0.toUInt32 >>> ((24 : Int32) &&& 31).toUInt32).toInt32)), (.int at_), (.ref b31)])) (fun t k => XS.iushr X48.here hx rfl (hb hby at_116) rfl k) ?_
    refine Go.to (g' := (mkF m 118 #[.val (.int p0), .val (.int p1), .val (.long q2), .second, .val (.int p3), .val (.int at_), .val (.int (1 : Int32)), .val (.ref b31), .unset, .unset] [(.int (((p0.toUInt32 >>> ((24 : Int32) &&& 31).toUInt32).toInt32).toInt8.toInt32)), (.int at_), (.ref b31)])) (fun t k => XS.i2b X48.here hx rfl (hb hby at_117) rfl k) ?_
    obtain ⟨cl49, Ar49, Sz49, Hf49⟩ := id B
    obtain ⟨T50, h50, X50, e50, W50, st50⟩ := stB X48 hx hZ e48 Ar49 (j := at_) (own_by_in Sz49 hat (own_k0 hat3)) (g := (mkF m 118 #[.val (.int p0), .val (.int p1), .val (.long q2), .second, .val (.int p3), .val (.int at_), .val (.int (1 : Int32)), .val (.ref b31), .unset, .unset] [(.int (((p0.toUInt32 >>> ((24 : Int32) &&& 31).toUInt32).toInt32).toInt8.toInt32)), (.int at_), (.ref b31)])) rfl rfl (hb hby at_118)
    have Z50 : n0 ≤ h50.size := Nat.le_trans Z48 (Keep.of_wr W50).1
    have K50 : Keep h0 h50 [] := K48.wr W50 (Or.inr sz_b31)
    have N50 := Fr.snoc X50 N48 g_b31
    have B50 : own_By Z h50 b31 8 (own_upd f at_ ((((p0.toUInt32 >>> ((24 : Int32) &&& 31).toUInt32).toInt32).toInt8.toInt32).toInt8.toInt32)) := B.set hat W50
    refine Go.to (g' := (mkF m 119 #[.val (.int p0), .val (.int p1), .val (.long q2), .second, .val (.int p3), .val (.int at_), .val (.int (1 : Int32)), .val (.ref b31), .unset, .unset] [])) st50 ?_
    refine Go.to (g' := (mkF m 121 #[.val (.int p0), .val (.int p1), .val (.long q2), .second, .val (.int p3), .val (.int at_), .val (.int (1 : Int32)), .val (.ref b31), .unset, .unset] [(.ref b31)])) (fun t k => XS.aload X50.here hx rfl (hb hby at_119) rfl rfl k) ?_
    refine Go.to (g' := (mkF m 123 #[.val (.int p0), .val (.int p1), .val (.long q2), .second, .val (.int p3), .val (.int at_), .val (.int (1 : Int32)), .val (.ref b31), .unset, .unset] [(.int at_), (.ref b31)])) (fun t k => XS.iload X50.here hx rfl (hb hby at_121) rfl k) ?_
    refine Go.to (g' := (mkF m 124 #[.val (.int p0), .val (.int p1), .val (.long q2), .second, .val (.int p3), .val (.int at_), .val (.int (1 : Int32)), .val (.ref b31), .unset, .unset] [(.int (1 : Int32)), (.int at_), (.ref b31)])) (fun t k => XS.iconst X50.here hx rfl (hb hby at_123) k) ?_
    refine Go.to (g' := (mkF m 125 #[.val (.int p0), .val (.int p1), .val (.long q2), .second, .val (.int p3), .val (.int at_), .val (.int (1 : Int32)), .val (.ref b31), .unset, .unset] [(.int (at_ + (1 : Int32))), (.ref b31)])) (fun t k => XS.iadd X50.here hx rfl (hb hby at_124) rfl k) ?_
    refine Go.to (g' := (mkF m 126 #[.val (.int p0), .val (.int p1), .val (.long q2), .second, .val (.int p3), .val (.int at_), .val (.int (1 : Int32)), .val (.ref b31), .unset, .unset] [(.int p0), (.int (at_ + (1 : Int32))), (.ref b31)])) (fun t k => XS.iloadN X50.here hx rfl (hb hby at_125) rfl k) ?_
    refine Go.to (g' := (mkF m 128 #[.val (.int p0), .val (.int p1), .val (.long q2), .second, .val (.int p3), .val (.int at_), .val (.int (1 : Int32)), .val (.ref b31), .unset, .unset] [(.int (16 : Int32)), (.int p0), (.int (at_ + (1 : Int32))), (.ref b31)])) (fun t k => XS.bipush X50.here hx rfl (hb hby at_126) k) ?_
    refine Go.to (g' := (mkF m 129 #[.val (.int p0), .val (.int p1), .val (.long q2), .second, .val (.int p3), .val (.int at_), .val (.int (1 : Int32)), .val (.ref b31), .unset, .unset] [(.int ((p0.toUInt32 >>> ((16 : Int32) &&& 31).toUInt32).toInt32)), (.int (at_ + (1 : Int32))), (.ref b31)])) (fun t k => XS.iushr X50.here hx rfl (hb hby at_128) rfl k) ?_
    refine Go.to (g' := (mkF m 130 #[.val (.int p0), .val (.int p1), .val (.long q2), .second, .val (.int p3), .val (.int at_), .val (.int (1 : Int32)), .val (.ref b31), .unset, .unset] [(.int (((p0.toUInt32 >>> ((16 : Int32) &&& 31).toUInt32).toInt32).toInt8.toInt32)), (.int (at_ + (1 : Int32))), (.ref b31)])) (fun t k => XS.i2b X50.here hx rfl (hb hby at_129) rfl k) ?_
    obtain ⟨cl51, Ar51, Sz51, Hf51⟩ := id B50
    obtain ⟨T52, h52, X52, e52, W52, st52⟩ := stB X50 hx hZ e50 Ar51 (j := (at_ + (1 : Int32))) (own_by_in Sz51 (own_kn hat hat3 (by decide) (by decide)) (own_kl hat hat3 (by decide) (by decide))) (g := (mkF m 130 #[.val (.int p0), .val (.int p1), .val (.long q2), .second, .val (.int p3), .val (.int at_), .val (.int (1 : Int32)), .val (.ref b31), .unset, .unset] [(.int (((p0.toUInt32 >>> ((16 : Int32) &&& 31).toUInt32).toInt32).toInt8.toInt32)), (.int (at_ + (1 : Int32))), (.ref b31)])) rfl rfl (hb hby at_130)
    have Z52 : n0 ≤ h52.size := Nat.le_trans Z50 (Keep.of_wr W52).1
    have K52 : Keep h0 h52 [] := K50.wr W52 (Or.inr sz_b31)
    have N52 := Fr.snoc X52 N50 g_b31
    have B52 : own_By Z h52 b31 8 (own_upd (own_upd f at_ ((((p0.toUInt32 >>> ((24 : Int32) &&& 31).toUInt32).toInt32).toInt8.toInt32).toInt8.toInt32)) (at_ + (1 : Int32)) ((((p0.toUInt32 >>> ((16 : Int32) &&& 31).toUInt32).toInt32).toInt8.toInt32).toInt8.toInt32)) := B50.set (own_kn hat hat3 (by decide) (by decide)) W52
    refine Go.to (g' := (mkF m 131 #[.val (.int p0), .val (.int p1), .val (.long q2), .second, .val (.int p3), .val (.int at_), .val (.int (1 : Int32)), .val (.ref b31), .unset, .unset] [])) st52 ?_
    refine Go.to (g' := (mkF m 133 #[.val (.int p0), .val (.int p1), .val (.long q2), .second, .val (.int p3), .val (.int at_), .val (.int (1 : Int32)), .val (.ref b31), .unset, .unset] [(.ref b31)])) (fun t k => XS.aload X52.here hx rfl (hb hby at_131) rfl rfl k) ?_
    refine Go.to (g' := (mkF m 135 #[.val (.int p0), .val (.int p1), .val (.long q2), .second, .val (.int p3), .val (.int at_), .val (.int (1 : Int32)), .val (.ref b31), .unset, .unset] [(.int at_), (.ref b31)])) (fun t k => XS.iload X52.here hx rfl (hb hby at_133) rfl k) ?_
    refine Go.to (g' := (mkF m 136 #[.val (.int p0), .val (.int p1), .val (.long q2), .second, .val (.int p3), .val (.int at_), .val (.int (1 : Int32)), .val (.ref b31), .unset, .unset] [(.int (2 : Int32)), (.int at_), (.ref b31)])) (fun t k => XS.iconst X52.here hx rfl (hb hby at_135) k) ?_
    refine Go.to (g' := (mkF m 137 #[.val (.int p0), .val (.int p1), .val (.long q2), .second, .val (.int p3), .val (.int at_), .val (.int (1 : Int32)), .val (.ref b31), .unset, .unset] [(.int (at_ + (2 : Int32))), (.ref b31)])) (fun t k => XS.iadd X52.here hx rfl (hb hby at_136) rfl k) ?_
    refine Go.to (g' := (mkF m 138 #[.val (.int p0), .val (.int p1), .val (.long q2), .second, .val (.int p3), .val (.int at_), .val (.int (1 : Int32)), .val (.ref b31), .unset, .unset] [(.int p0), (.int (at_ + (2 : Int32))), (.ref b31)])) (fun t k => XS.iloadN X52.here hx rfl (hb hby at_137) rfl k) ?_
    refine Go.to (g' := (mkF m 140 #[.val (.int p0), .val (.int p1), .val (.long q2), .second, .val (.int p3), .val (.int at_), .val (.int (1 : Int32)), .val (.ref b31), .unset, .unset] [(.int (8 : Int32)), (.int p0), (.int (at_ + (2 : Int32))), (.ref b31)])) (fun t k => XS.bipush X52.here hx rfl (hb hby at_138) k) ?_
    refine Go.to (g' := (mkF m 141 #[.val (.int p0), .val (.int p1), .val (.long q2), .second, .val (.int p3), .val (.int at_), .val (.int (1 : Int32)), .val (.ref b31), .unset, .unset] [(.int ((p0.toUInt32 >>> ((8 : Int32) &&& 31).toUInt32).toInt32)), (.int (at_ + (2 : Int32))), (.ref b31)])) (fun t k => XS.iushr X52.here hx rfl (hb hby at_140) rfl k) ?_
    refine Go.to (g' := (mkF m 142 #[.val (.int p0), .val (.int p1), .val (.long q2), .second, .val (.int p3), .val (.int at_), .val (.int (1 : Int32)), .val (.ref b31), .unset, .unset] [(.int (((p0.toUInt32 >>> ((8 : Int32) &&& 31).toUInt32).toInt32).toInt8.toInt32)), (.int (at_ + (2 : Int32))), (.ref b31)])) (fun t k => XS.i2b X52.here hx rfl (hb hby at_141) rfl k) ?_
    obtain ⟨cl53, Ar53, Sz53, Hf53⟩ := id B52
    obtain ⟨T54, h54, X54, e54, W54, st54⟩ := stB X52 hx hZ e52 Ar53 (j := (at_ + (2 : Int32))) (own_by_in Sz53 (own_kn hat hat3 (by decide) (by decide)) (own_kl hat hat3 (by decide) (by decide))) (g := (mkF m 142 #[.val (.int p0), .val (.int p1), .val (.long q2), .second, .val (.int p3), .val (.int at_), .val (.int (1 : Int32)), .val (.ref b31), .unset, .unset] [(.int (((p0.toUInt32 >>> ((8 : Int32) &&& 31).toUInt32).toInt32).toInt8.toInt32)), (.int (at_ + (2 : Int32))), (.ref b31)])) rfl rfl (hb hby at_142)
    have Z54 : n0 ≤ h54.size := Nat.le_trans Z52 (Keep.of_wr W54).1
    have K54 : Keep h0 h54 [] := K52.wr W54 (Or.inr sz_b31)
    have N54 := Fr.snoc X54 N52 g_b31
    have B54 : own_By Z h54 b31 8 (own_upd (own_upd (own_upd f at_ ((((p0.toUInt32 >>> ((24 : Int32) &&& 31).toUInt32).toInt32).toInt8.toInt32).toInt8.toInt32)) (at_ + (1 : Int32)) ((((p0.toUInt32 >>> ((16 : Int32) &&& 31).toUInt32).toInt32).toInt8.toInt32).toInt8.toInt32)) (at_ + (2 : Int32)) ((((p0.toUInt32 >>> ((8 : Int32) &&& 31).toUInt32).toInt32).toInt8.toInt32).toInt8.toInt32)) := B52.set (own_kn hat hat3 (by decide) (by decide)) W54
    refine Go.to (g' := (mkF m 143 #[.val (.int p0), .val (.int p1), .val (.long q2), .second, .val (.int p3), .val (.int at_), .val (.int (1 : Int32)), .val (.ref b31), .unset, .unset] [])) st54 ?_
    refine Go.to (g' := (mkF m 145 #[.val (.int p0), .val (.int p1), .val (.long q2), .second, .val (.int p3), .val (.int at_), .val (.int (1 : Int32)), .val (.ref b31), .unset, .unset] [(.ref b31)])) (fun t k => XS.aload X54.here hx rfl (hb hby at_143) rfl rfl k) ?_
    refine Go.to (g' := (mkF m 147 #[.val (.int p0), .val (.int p1), .val (.long q2), .second, .val (.int p3), .val (.int at_), .val (.int (1 : Int32)), .val (.ref b31), .unset, .unset] [(.int at_), (.ref b31)])) (fun t k => XS.iload X54.here hx rfl (hb hby at_145) rfl k) ?_
    refine Go.to (g' := (mkF m 148 #[.val (.int p0), .val (.int p1), .val (.long q2), .second, .val (.int p3), .val (.int at_), .val (.int (1 : Int32)), .val (.ref b31), .unset, .unset] [(.int (3 : Int32)), (.int at_), (.ref b31)])) (fun t k => XS.iconst X54.here hx rfl (hb hby at_147) k) ?_
    refine Go.to (g' := (mkF m 149 #[.val (.int p0), .val (.int p1), .val (.long q2), .second, .val (.int p3), .val (.int at_), .val (.int (1 : Int32)), .val (.ref b31), .unset, .unset] [(.int (at_ + (3 : Int32))), (.ref b31)])) (fun t k => XS.iadd X54.here hx rfl (hb hby at_148) rfl k) ?_
    refine Go.to (g' := (mkF m 150 #[.val (.int p0), .val (.int p1), .val (.long q2), .second, .val (.int p3), .val (.int at_), .val (.int (1 : Int32)), .val (.ref b31), .unset, .unset] [(.int p0), (.int (at_ + (3 : Int32))), (.ref b31)])) (fun t k => XS.iloadN X54.here hx rfl (hb hby at_149) rfl k) ?_
    refine Go.to (g' := (mkF m 151 #[.val (.int p0), .val (.int p1), .val (.long q2), .second, .val (.int p3), .val (.int at_), .val (.int (1 : Int32)), .val (.ref b31), .unset, .unset] [(.int (p0.toInt8.toInt32)), (.int (at_ + (3 : Int32))), (.ref b31)])) (fun t k => XS.i2b X54.here hx rfl (hb hby at_150) rfl k) ?_
    obtain ⟨cl55, Ar55, Sz55, Hf55⟩ := id B54
    obtain ⟨T56, h56, X56, e56, W56, st56⟩ := stB X54 hx hZ e54 Ar55 (j := (at_ + (3 : Int32))) (own_by_in Sz55 (own_kn hat hat3 (by decide) (by decide)) (own_kl hat hat3 (by decide) (by decide))) (g := (mkF m 151 #[.val (.int p0), .val (.int p1), .val (.long q2), .second, .val (.int p3), .val (.int at_), .val (.int (1 : Int32)), .val (.ref b31), .unset, .unset] [(.int (p0.toInt8.toInt32)), (.int (at_ + (3 : Int32))), (.ref b31)])) rfl rfl (hb hby at_151)
    have Z56 : n0 ≤ h56.size := Nat.le_trans Z54 (Keep.of_wr W56).1
    have K56 : Keep h0 h56 [] := K54.wr W56 (Or.inr sz_b31)
    have N56 := Fr.snoc X56 N54 g_b31
    have B56 : own_By Z h56 b31 8 (own_upd (own_upd (own_upd (own_upd f at_ ((((p0.toUInt32 >>> ((24 : Int32) &&& 31).toUInt32).toInt32).toInt8.toInt32).toInt8.toInt32)) (at_ + (1 : Int32)) ((((p0.toUInt32 >>> ((16 : Int32) &&& 31).toUInt32).toInt32).toInt8.toInt32).toInt8.toInt32)) (at_ + (2 : Int32)) ((((p0.toUInt32 >>> ((8 : Int32) &&& 31).toUInt32).toInt32).toInt8.toInt32).toInt8.toInt32)) (at_ + (3 : Int32)) ((p0.toInt8.toInt32).toInt8.toInt32)) := B54.set (own_kn hat hat3 (by decide) (by decide)) W56
    refine Go.to (g' := (mkF m 152 #[.val (.int p0), .val (.int p1), .val (.long q2), .second, .val (.int p3), .val (.int at_), .val (.int (1 : Int32)), .val (.ref b31), .unset, .unset] [])) st56 ?_
    refine Go.to (g' := (mkF m 198 #[.val (.int p0), .val (.int p1), .val (.long q2), .second, .val (.int p3), .val (.int at_), .val (.int (1 : Int32)), .val (.ref b31), .unset, .unset] [])) (fun t k => XS.goto X56.here hx rfl (pc0 := 152) (pc' := 198) rfl (hb hby at_152) (by decide) (by decide) k) ?_
    obtain ⟨f4, hf4⟩ : ∃ g : Int32 → Int32, g = (own_upd (own_upd (own_upd (own_upd f at_ ((((p0.toUInt32 >>> ((24 : Int32) &&& 31).toUInt32).toInt32).toInt8.toInt32).toInt8.toInt32)) (at_ + (1 : Int32)) ((((p0.toUInt32 >>> ((16 : Int32) &&& 31).toUInt32).toInt32).toInt8.toInt32).toInt8.toInt32)) (at_ + (2 : Int32)) ((((p0.toUInt32 >>> ((8 : Int32) &&& 31).toUInt32).toInt32).toInt8.toInt32).toInt8.toInt32)) (at_ + (3 : Int32)) ((p0.toInt8.toInt32).toInt8.toInt32)) := ⟨_, rfl⟩
    have B4 : own_By Z h56 b31 8 f4 := by rw [hf4]; exact B56
    obtain ⟨hb0, hb1, hb2, hb3⟩ : f4 at_ = ((((p0.toUInt32 >>> ((24 : Int32) &&& 31).toUInt32).toInt32).toInt8.toInt32).toInt8.toInt32) ∧ f4 (at_ + (1 : Int32)) = ((((p0.toUInt32 >>> ((16 : Int32) &&& 31).toUInt32).toInt32).toInt8.toInt32).toInt8.toInt32) ∧ f4 (at_ + (2 : Int32)) = ((((p0.toUInt32 >>> ((8 : Int32) &&& 31).toUInt32).toInt32).toInt8.toInt32).toInt8.toInt32) ∧ f4 (at_ + (3 : Int32)) = ((p0.toInt8.toInt32).toInt8.toInt32) := by rw [hf4]; exact own_u hat hat3
    refine Go.to (g' := (mkF m 200 #[.val (.int p0), .val (.int p1), .val (.long q2), .second, .val (.int p3), .val (.int at_), .val (.int (1 : Int32)), .val (.ref b31), .unset, .unset] [(.ref b31)])) (fun t k => XS.aload X56.here hx rfl (hb hby at_198) rfl rfl k) ?_
    refine Go.to (g' := (mkF m 202 #[.val (.int p0), .val (.int p1), .val (.long q2), .second, .val (.int p3), .val (.int at_), .val (.int (1 : Int32)), .val (.ref b31), .unset, .unset] [(.int at_), (.ref b31)])) (fun t k => XS.iload X56.here hx rfl (hb hby at_200) rfl k) ?_
    refine Go.to (g' := (mkF m 204 #[.val (.int p0), .val (.int p1), .val (.long q2), .second, .val (.int p3), .val (.int at_), .val (.int (1 : Int32)), .val (.ref b31), .unset, .unset] [(.int (1 : Int32)), (.int at_), (.ref b31)])) (fun t k => XS.iload X56.here hx rfl (hb hby at_202) rfl k) ?_
    obtain ⟨v57, _, ⟨T57, L57, k57, n57⟩, -, X57, ⟨Lc57, hQ57, l57, y57, z57⟩, st57⟩ := Jvm.LawKit.callS X56 hx (y := (⟨"com/example/nidra/nidra/dbus/Unmarshaller", "uint32", "([BIZ)I"⟩ : MethodName)) hown (mvT hZ (hw _ (List.mem_of_getElem? (i := 1) rfl))) (mvT hZ (hw _ (List.mem_of_getElem? (i := 2) rfl))) (mvT hZ (hw _ (List.mem_of_getElem? (i := 3) rfl))) (mvT hZ (hw _ (List.mem_of_getElem? (i := 4) rfl))) (by decide) (backOf (W := 0) (rm1 l Z aw hw [] b31 at_ (1 : Int32) f4 ((((p0.toUInt32 >>> ((24 : Int32) &&& 31).toUInt32).toInt32).toInt8.toInt32).toInt8.toInt32) ((((p0.toUInt32 >>> ((16 : Int32) &&& 31).toUInt32).toInt32).toInt8.toInt32).toInt8.toInt32) ((((p0.toUInt32 >>> ((8 : Int32) &&& 31).toUInt32).toInt32).toInt8.toInt32).toInt8.toInt32) ((p0.toInt8.toInt32).toInt8.toInt32) h56 n0 Z56 B4 hat hat3 hb0 hb1 hb2 hb3) hZ (hw _ (List.mem_of_getElem? (i := 4) rfl)) (hw _ (List.mem_of_getElem? (i := 3) rfl)) (by decide) (by decide)) (g := (mkF m 204 #[.val (.int p0), .val (.int p1), .val (.long q2), .second, .val (.int p3), .val (.int at_), .val (.int (1 : Int32)), .val (.ref b31), .unset, .unset] [(.int (1 : Int32)), (.int at_), (.ref b31)])) rfl (by rw [hml]; rfl) (argsL := [(.ref b31), (.int at_), (.int (1 : Int32))]) (rest := []) (lenOf pd_285bBIZ29I rfl) rfl (by show 2 * 0 + _ ≤ _; exact Nat.le_of_eq rfl) (hb hby at_204) (fun _ _ => ⟨rfl, e56, (by decide : 1 + 0 ≤ _), (by decide : 8 + 0 ≤ _)⟩)
    dsimp only [Pt.U, Pt.locs, Pt.cells, Pt.slots] at X57 l57 y57 z57 st57 hQ57
    subst l57 y57 z57
    obtain ⟨rfl, N57q, e57⟩ := hQ57
    have N57 := Fr.app N56 N57q
    refine Go.to (g' := (mkF m 207 #[.val (.int p0), .val (.int p1), .val (.long q2), .second, .val (.int p3), .val (.int at_), .val (.int (1 : Int32)), .val (.ref b31), .unset, .unset] [(.int (if (1 : Int32) = (0 : Int32) then own_le ((((p0.toUInt32 >>> ((24 : Int32) &&& 31).toUInt32).toInt32).toInt8.toInt32).toInt8.toInt32) ((((p0.toUInt32 >>> ((16 : Int32) &&& 31).toUInt32).toInt32).toInt8.toInt32).toInt8.toInt32) ((((p0.toUInt32 >>> ((8 : Int32) &&& 31).toUInt32).toInt32).toInt8.toInt32).toInt8.toInt32) ((p0.toInt8.toInt32).toInt8.toInt32) else own_be ((((p0.toUInt32 >>> ((24 : Int32) &&& 31).toUInt32).toInt32).toInt8.toInt32).toInt8.toInt32) ((((p0.toUInt32 >>> ((16 : Int32) &&& 31).toUInt32).toInt32).toInt8.toInt32).toInt8.toInt32) ((((p0.toUInt32 >>> ((8 : Int32) &&& 31).toUInt32).toInt32).toInt8.toInt32).toInt8.toInt32) ((p0.toInt8.toInt32).toInt8.toInt32)))])) st57 ?_
    rw [show (if (1 : Int32) = (0 : Int32) then own_le ((((p0.toUInt32 >>> ((24 : Int32) &&& 31).toUInt32).toInt32).toInt8.toInt32).toInt8.toInt32) ((((p0.toUInt32 >>> ((16 : Int32) &&& 31).toUInt32).toInt32).toInt8.toInt32).toInt8.toInt32) ((((p0.toUInt32 >>> ((8 : Int32) &&& 31).toUInt32).toInt32).toInt8.toInt32).toInt8.toInt32) ((p0.toInt8.toInt32).toInt8.toInt32) else own_be ((((p0.toUInt32 >>> ((24 : Int32) &&& 31).toUInt32).toInt32).toInt8.toInt32).toInt8.toInt32) ((((p0.toUInt32 >>> ((16 : Int32) &&& 31).toUInt32).toInt32).toInt8.toInt32).toInt8.toInt32) ((((p0.toUInt32 >>> ((8 : Int32) &&& 31).toUInt32).toInt32).toInt8.toInt32).toInt8.toInt32) ((p0.toInt8.toInt32).toInt8.toInt32)) = (own_be ((((p0.toUInt32 >>> ((24 : Int32) &&& 31).toUInt32).toInt32).toInt8.toInt32).toInt8.toInt32) ((((p0.toUInt32 >>> ((16 : Int32) &&& 31).toUInt32).toInt32).toInt8.toInt32).toInt8.toInt32) ((((p0.toUInt32 >>> ((8 : Int32) &&& 31).toUInt32).toInt32).toInt8.toInt32).toInt8.toInt32) ((p0.toInt8.toInt32).toInt8.toInt32)) from if_neg (by decide)]
    refine Go.to (g' := (mkF m 209 #[.val (.int p0), .val (.int p1), .val (.long q2), .second, .val (.int p3), .val (.int at_), .val (.int (1 : Int32)), .val (.ref b31), .val (.int (own_be ((((p0.toUInt32 >>> ((24 : Int32) &&& 31).toUInt32).toInt32).toInt8.toInt32).toInt8.toInt32) ((((p0.toUInt32 >>> ((16 : Int32) &&& 31).toUInt32).toInt32).toInt8.toInt32).toInt8.toInt32) ((((p0.toUInt32 >>> ((8 : Int32) &&& 31).toUInt32).toInt32).toInt8.toInt32).toInt8.toInt32) ((p0.toInt8.toInt32).toInt8.toInt32))), .unset] [])) (fun t k => XS.istore X57.here hx rfl (hb hby at_207) rfl (l' := #[.val (.int p0), .val (.int p1), .val (.long q2), .second, .val (.int p3), .val (.int at_), .val (.int (1 : Int32)), .val (.ref b31), .val (.int (own_be ((((p0.toUInt32 >>> ((24 : Int32) &&& 31).toUInt32).toInt32).toInt8.toInt32).toInt8.toInt32) ((((p0.toUInt32 >>> ((16 : Int32) &&& 31).toUInt32).toInt32).toInt8.toInt32).toInt8.toInt32) ((((p0.toUInt32 >>> ((8 : Int32) &&& 31).toUInt32).toInt32).toInt8.toInt32).toInt8.toInt32) ((p0.toInt8.toInt32).toInt8.toInt32))), .unset]) rfl k) ?_
    refine Go.to (g' := (mkF m 211 #[.val (.int p0), .val (.int p1), .val (.long q2), .second, .val (.int p3), .val (.int at_), .val (.int (1 : Int32)), .val (.ref b31), .val (.int (own_be ((((p0.toUInt32 >>> ((24 : Int32) &&& 31).toUInt32).toInt32).toInt8.toInt32).toInt8.toInt32) ((((p0.toUInt32 >>> ((16 : Int32) &&& 31).toUInt32).toInt32).toInt8.toInt32).toInt8.toInt32) ((((p0.toUInt32 >>> ((8 : Int32) &&& 31).toUInt32).toInt32).toInt8.toInt32).toInt8.toInt32) ((p0.toInt8.toInt32).toInt8.toInt32))), .unset] [(.ref b31)])) (fun t k => XS.aload X57.here hx rfl (hb hby at_209) rfl rfl k) ?_
    refine Go.to (g' := (mkF m 213 #[.val (.int p0), .val (.int p1), .val (.long q2), .second, .val (.int p3), .val (.int at_), .val (.int (1 : Int32)), .val (.ref b31), .val (.int (own_be ((((p0.toUInt32 >>> ((24 : Int32) &&& 31).toUInt32).toInt32).toInt8.toInt32).toInt8.toInt32) ((((p0.toUInt32 >>> ((16 : Int32) &&& 31).toUInt32).toInt32).toInt8.toInt32).toInt8.toInt32) ((((p0.toUInt32 >>> ((8 : Int32) &&& 31).toUInt32).toInt32).toInt8.toInt32).toInt8.toInt32) ((p0.toInt8.toInt32).toInt8.toInt32))), .unset] [(.int at_), (.ref b31)])) (fun t k => XS.iload X57.here hx rfl (hb hby at_211) rfl k) ?_
    refine Go.to (g' := (mkF m 215 #[.val (.int p0), .val (.int p1), .val (.long q2), .second, .val (.int p3), .val (.int at_), .val (.int (1 : Int32)), .val (.ref b31), .val (.int (own_be ((((p0.toUInt32 >>> ((24 : Int32) &&& 31).toUInt32).toInt32).toInt8.toInt32).toInt8.toInt32) ((((p0.toUInt32 >>> ((16 : Int32) &&& 31).toUInt32).toInt32).toInt8.toInt32).toInt8.toInt32) ((((p0.toUInt32 >>> ((8 : Int32) &&& 31).toUInt32).toInt32).toInt8.toInt32).toInt8.toInt32) ((p0.toInt8.toInt32).toInt8.toInt32))), .unset] [(.int (1 : Int32)), (.int at_), (.ref b31)])) (fun t k => XS.iload X57.here hx rfl (hb hby at_213) rfl k) ?_
    refine Go.to (g' := (mkF m 222 #[.val (.int p0), .val (.int p1), .val (.long q2), .second, .val (.int p3), .val (.int at_), .val (.int (1 : Int32)), .val (.ref b31), .val (.int (own_be ((((p0.toUInt32 >>> ((24 : Int32) &&& 31).toUInt32).toInt32).toInt8.toInt32).toInt8.toInt32) ((((p0.toUInt32 >>> ((16 : Int32) &&& 31).toUInt32).toInt32).toInt8.toInt32).toInt8.toInt32) ((((p0.toUInt32 >>> ((8 : Int32) &&& 31).toUInt32).toInt32).toInt8.toInt32).toInt8.toInt32) ((p0.toInt8.toInt32).toInt8.toInt32))), .unset] [(.int at_), (.ref b31)])) (fun t k => XS.ifYes X57.here hx rfl (pc0 := 215) (pc' := 222) rfl (hb hby at_215) rfl ((if0 _ _).trans (feq (by decide)).2) (by decide) (by decide) k) ?_
    refine Go.to (g' := (mkF m 223 #[.val (.int p0), .val (.int p1), .val (.long q2), .second, .val (.int p3), .val (.int at_), .val (.int (1 : Int32)), .val (.ref b31), .val (.int (own_be ((((p0.toUInt32 >>> ((24 : Int32) &&& 31).toUInt32).toInt32).toInt8.toInt32).toInt8.toInt32) ((((p0.toUInt32 >>> ((16 : Int32) &&& 31).toUInt32).toInt32).toInt8.toInt32).toInt8.toInt32) ((((p0.toUInt32 >>> ((8 : Int32) &&& 31).toUInt32).toInt32).toInt8.toInt32).toInt8.toInt32) ((p0.toInt8.toInt32).toInt8.toInt32))), .unset] [(.int (0 : Int32)), (.int at_), (.ref b31)])) (fun t k => XS.iconst X57.here hx rfl (hb hby at_222) k) ?_
    obtain ⟨v58, _, ⟨T58, L58, k58, n58⟩, -, X58, ⟨Lc58, hQ58, l58, y58, z58⟩, st58⟩ := Jvm.LawKit.callS X57 hx (y := (⟨"com/example/nidra/nidra/dbus/Unmarshaller", "uint32", "([BIZ)I"⟩ : MethodName)) hown (mvT hZ (hw _ (List.mem_of_getElem? (i := 1) rfl))) (mvT hZ (hw _ (List.mem_of_getElem? (i := 2) rfl))) (mvT hZ (hw _ (List.mem_of_getElem? (i := 3) rfl))) (mvT hZ (hw _ (List.mem_of_getElem? (i := 4) rfl))) (by decide) (backOf (W := 0) (rm1 l Z aw hw [] b31 at_ (0 : Int32) f4 ((((p0.toUInt32 >>> ((24 : Int32) &&& 31).toUInt32).toInt32).toInt8.toInt32).toInt8.toInt32) ((((p0.toUInt32 >>> ((16 : Int32) &&& 31).toUInt32).toInt32).toInt8.toInt32).toInt8.toInt32) ((((p0.toUInt32 >>> ((8 : Int32) &&& 31).toUInt32).toInt32).toInt8.toInt32).toInt8.toInt32) ((p0.toInt8.toInt32).toInt8.toInt32) h56 n0 Z56 B4 hat hat3 hb0 hb1 hb2 hb3) hZ (hw _ (List.mem_of_getElem? (i := 4) rfl)) (hw _ (List.mem_of_getElem? (i := 3) rfl)) (by decide) (by decide)) (g := (mkF m 223 #[.val (.int p0), .val (.int p1), .val (.long q2), .second, .val (.int p3), .val (.int at_), .val (.int (1 : Int32)), .val (.ref b31), .val (.int (own_be ((((p0.toUInt32 >>> ((24 : Int32) &&& 31).toUInt32).toInt32).toInt8.toInt32).toInt8.toInt32) ((((p0.toUInt32 >>> ((16 : Int32) &&& 31).toUInt32).toInt32).toInt8.toInt32).toInt8.toInt32) ((((p0.toUInt32 >>> ((8 : Int32) &&& 31).toUInt32).toInt32).toInt8.toInt32).toInt8.toInt32) ((p0.toInt8.toInt32).toInt8.toInt32))), .unset] [(.int (0 : Int32)), (.int at_), (.ref b31)])) rfl (by rw [hml]; rfl) (argsL := [(.ref b31), (.int at_), (.int (0 : Int32))]) (rest := []) (lenOf pd_285bBIZ29I rfl) rfl (by show 2 * 0 + _ ≤ _; exact Nat.le_of_eq rfl) (hb hby at_223) (fun _ _ => ⟨rfl, e57, (by decide : 1 + 0 ≤ _), (by decide : 8 + 0 ≤ _)⟩)
    dsimp only [Pt.U, Pt.locs, Pt.cells, Pt.slots] at X58 l58 y58 z58 st58 hQ58
    subst l58 y58 z58
    obtain ⟨rfl, N58q, e58⟩ := hQ58
    have N58 := Fr.app N57 N58q
    refine Go.to (g' := (mkF m 226 #[.val (.int p0), .val (.int p1), .val (.long q2), .second, .val (.int p3), .val (.int at_), .val (.int (1 : Int32)), .val (.ref b31), .val (.int (own_be ((((p0.toUInt32 >>> ((24 : Int32) &&& 31).toUInt32).toInt32).toInt8.toInt32).toInt8.toInt32) ((((p0.toUInt32 >>> ((16 : Int32) &&& 31).toUInt32).toInt32).toInt8.toInt32).toInt8.toInt32) ((((p0.toUInt32 >>> ((8 : Int32) &&& 31).toUInt32).toInt32).toInt8.toInt32).toInt8.toInt32) ((p0.toInt8.toInt32).toInt8.toInt32))), .unset] [(.int (if (0 : Int32) = (0 : Int32) then own_le ((((p0.toUInt32 >>> ((24 : Int32) &&& 31).toUInt32).toInt32).toInt8.toInt32).toInt8.toInt32) ((((p0.toUInt32 >>> ((16 : Int32) &&& 31).toUInt32).toInt32).toInt8.toInt32).toInt8.toInt32) ((((p0.toUInt32 >>> ((8 : Int32) &&& 31).toUInt32).toInt32).toInt8.toInt32).toInt8.toInt32) ((p0.toInt8.toInt32).toInt8.toInt32) else own_be ((((p0.toUInt32 >>> ((24 : Int32) &&& 31).toUInt32).toInt32).toInt8.toInt32).toInt8.toInt32) ((((p0.toUInt32 >>> ((16 : Int32) &&& 31).toUInt32).toInt32).toInt8.toInt32).toInt8.toInt32) ((((p0.toUInt32 >>> ((8 : Int32) &&& 31).toUInt32).toInt32).toInt8.toInt32).toInt8.toInt32) ((p0.toInt8.toInt32).toInt8.toInt32)))])) st58 ?_
    rw [show (if (0 : Int32) = (0 : Int32) then own_le ((((p0.toUInt32 >>> ((24 : Int32) &&& 31).toUInt32).toInt32).toInt8.toInt32).toInt8.toInt32) ((((p0.toUInt32 >>> ((16 : Int32) &&& 31).toUInt32).toInt32).toInt8.toInt32).toInt8.toInt32) ((((p0.toUInt32 >>> ((8 : Int32) &&& 31).toUInt32).toInt32).toInt8.toInt32).toInt8.toInt32) ((p0.toInt8.toInt32).toInt8.toInt32) else own_be ((((p0.toUInt32 >>> ((24 : Int32) &&& 31).toUInt32).toInt32).toInt8.toInt32).toInt8.toInt32) ((((p0.toUInt32 >>> ((16 : Int32) &&& 31).toUInt32).toInt32).toInt8.toInt32).toInt8.toInt32) ((((p0.toUInt32 >>> ((8 : Int32) &&& 31).toUInt32).toInt32).toInt8.toInt32).toInt8.toInt32) ((p0.toInt8.toInt32).toInt8.toInt32)) = (own_le ((((p0.toUInt32 >>> ((24 : Int32) &&& 31).toUInt32).toInt32).toInt8.toInt32).toInt8.toInt32) ((((p0.toUInt32 >>> ((16 : Int32) &&& 31).toUInt32).toInt32).toInt8.toInt32).toInt8.toInt32) ((((p0.toUInt32 >>> ((8 : Int32) &&& 31).toUInt32).toInt32).toInt8.toInt32).toInt8.toInt32) ((p0.toInt8.toInt32).toInt8.toInt32)) from if_pos (by decide)]
    refine Go.to (g' := (mkF m 228 #[.val (.int p0), .val (.int p1), .val (.long q2), .second, .val (.int p3), .val (.int at_), .val (.int (1 : Int32)), .val (.ref b31), .val (.int (own_be ((((p0.toUInt32 >>> ((24 : Int32) &&& 31).toUInt32).toInt32).toInt8.toInt32).toInt8.toInt32) ((((p0.toUInt32 >>> ((16 : Int32) &&& 31).toUInt32).toInt32).toInt8.toInt32).toInt8.toInt32) ((((p0.toUInt32 >>> ((8 : Int32) &&& 31).toUInt32).toInt32).toInt8.toInt32).toInt8.toInt32) ((p0.toInt8.toInt32).toInt8.toInt32))), .val (.int (own_le ((((p0.toUInt32 >>> ((24 : Int32) &&& 31).toUInt32).toInt32).toInt8.toInt32).toInt8.toInt32) ((((p0.toUInt32 >>> ((16 : Int32) &&& 31).toUInt32).toInt32).toInt8.toInt32).toInt8.toInt32) ((((p0.toUInt32 >>> ((8 : Int32) &&& 31).toUInt32).toInt32).toInt8.toInt32).toInt8.toInt32) ((p0.toInt8.toInt32).toInt8.toInt32)))] [])) (fun t k => XS.istore X58.here hx rfl (hb hby at_226) rfl (l' := #[.val (.int p0), .val (.int p1), .val (.long q2), .second, .val (.int p3), .val (.int at_), .val (.int (1 : Int32)), .val (.ref b31), .val (.int (own_be ((((p0.toUInt32 >>> ((24 : Int32) &&& 31).toUInt32).toInt32).toInt8.toInt32).toInt8.toInt32) ((((p0.toUInt32 >>> ((16 : Int32) &&& 31).toUInt32).toInt32).toInt8.toInt32).toInt8.toInt32) ((((p0.toUInt32 >>> ((8 : Int32) &&& 31).toUInt32).toInt32).toInt8.toInt32).toInt8.toInt32) ((p0.toInt8.toInt32).toInt8.toInt32))), .val (.int (own_le ((((p0.toUInt32 >>> ((24 : Int32) &&& 31).toUInt32).toInt32).toInt8.toInt32).toInt8.toInt32) ((((p0.toUInt32 >>> ((16 : Int32) &&& 31).toUInt32).toInt32).toInt8.toInt32).toInt8.toInt32) ((((p0.toUInt32 >>> ((8 : Int32) &&& 31).toUInt32).toInt32).toInt8.toInt32).toInt8.toInt32) ((p0.toInt8.toInt32).toInt8.toInt32)))]) rfl k) ?_
    refine Go.to (g' := (mkF m 230 #[.val (.int p0), .val (.int p1), .val (.long q2), .second, .val (.int p3), .val (.int at_), .val (.int (1 : Int32)), .val (.ref b31), .val (.int (own_be ((((p0.toUInt32 >>> ((24 : Int32) &&& 31).toUInt32).toInt32).toInt8.toInt32).toInt8.toInt32) ((((p0.toUInt32 >>> ((16 : Int32) &&& 31).toUInt32).toInt32).toInt8.toInt32).toInt8.toInt32) ((((p0.toUInt32 >>> ((8 : Int32) &&& 31).toUInt32).toInt32).toInt8.toInt32).toInt8.toInt32) ((p0.toInt8.toInt32).toInt8.toInt32))), .val (.int (own_le ((((p0.toUInt32 >>> ((24 : Int32) &&& 31).toUInt32).toInt32).toInt8.toInt32).toInt8.toInt32) ((((p0.toUInt32 >>> ((16 : Int32) &&& 31).toUInt32).toInt32).toInt8.toInt32).toInt8.toInt32) ((((p0.toUInt32 >>> ((8 : Int32) &&& 31).toUInt32).toInt32).toInt8.toInt32).toInt8.toInt32) ((p0.toInt8.toInt32).toInt8.toInt32)))] [(.int (own_be ((((p0.toUInt32 >>> ((24 : Int32) &&& 31).toUInt32).toInt32).toInt8.toInt32).toInt8.toInt32) ((((p0.toUInt32 >>> ((16 : Int32) &&& 31).toUInt32).toInt32).toInt8.toInt32).toInt8.toInt32) ((((p0.toUInt32 >>> ((8 : Int32) &&& 31).toUInt32).toInt32).toInt8.toInt32).toInt8.toInt32) ((p0.toInt8.toInt32).toInt8.toInt32)))])) (fun t k => XS.iload X58.here hx rfl (hb hby at_228) rfl k) ?_
    refine Go.to (g' := (mkF m 231 #[.val (.int p0), .val (.int p1), .val (.long q2), .second, .val (.int p3), .val (.int at_), .val (.int (1 : Int32)), .val (.ref b31), .val (.int (own_be ((((p0.toUInt32 >>> ((24 : Int32) &&& 31).toUInt32).toInt32).toInt8.toInt32).toInt8.toInt32) ((((p0.toUInt32 >>> ((16 : Int32) &&& 31).toUInt32).toInt32).toInt8.toInt32).toInt8.toInt32) ((((p0.toUInt32 >>> ((8 : Int32) &&& 31).toUInt32).toInt32).toInt8.toInt32).toInt8.toInt32) ((p0.toInt8.toInt32).toInt8.toInt32))), .val (.int (own_le ((((p0.toUInt32 >>> ((24 : Int32) &&& 31).toUInt32).toInt32).toInt8.toInt32).toInt8.toInt32) ((((p0.toUInt32 >>> ((16 : Int32) &&& 31).toUInt32).toInt32).toInt8.toInt32).toInt8.toInt32) ((((p0.toUInt32 >>> ((8 : Int32) &&& 31).toUInt32).toInt32).toInt8.toInt32).toInt8.toInt32) ((p0.toInt8.toInt32).toInt8.toInt32)))] [(.int p0), (.int (own_be ((((p0.toUInt32 >>> ((24 : Int32) &&& 31).toUInt32).toInt32).toInt8.toInt32).toInt8.toInt32) ((((p0.toUInt32 >>> ((16 : Int32) &&& 31).toUInt32).toInt32).toInt8.toInt32).toInt8.toInt32) ((((p0.toUInt32 >>> ((8 : Int32) &&& 31).toUInt32).toInt32).toInt8.toInt32).toInt8.toInt32) ((p0.toInt8.toInt32).toInt8.toInt32)))])) (fun t k => XS.iloadN X58.here hx rfl (hb hby at_230) rfl k) ?_
    refine Go.to (g' := (mkF m 234 #[.val (.int p0), .val (.int p1), .val (.long q2), .second, .val (.int p3), .val (.int at_), .val (.int (1 : Int32)), .val (.ref b31), .val (.int (own_be ((((p0.toUInt32 >>> ((24 : Int32) &&& 31).toUInt32).toInt32).toInt8.toInt32).toInt8.toInt32) ((((p0.toUInt32 >>> ((16 : Int32) &&& 31).toUInt32).toInt32).toInt8.toInt32).toInt8.toInt32) ((((p0.toUInt32 >>> ((8 : Int32) &&& 31).toUInt32).toInt32).toInt8.toInt32).toInt8.toInt32) ((p0.toInt8.toInt32).toInt8.toInt32))), .val (.int (own_le ((((p0.toUInt32 >>> ((24 : Int32) &&& 31).toUInt32).toInt32).toInt8.toInt32).toInt8.toInt32) ((((p0.toUInt32 >>> ((16 : Int32) &&& 31).toUInt32).toInt32).toInt8.toInt32).toInt8.toInt32) ((((p0.toUInt32 >>> ((8 : Int32) &&& 31).toUInt32).toInt32).toInt8.toInt32).toInt8.toInt32) ((p0.toInt8.toInt32).toInt8.toInt32)))] [])) (fun t k => XS.icmpNo X58.here hx rfl (hb hby at_231) rfl (teq (own_s1 p0)).2 k) ?_
    refine Go.to (g' := (mkF m 236 #[.val (.int p0), .val (.int p1), .val (.long q2), .second, .val (.int p3), .val (.int at_), .val (.int (1 : Int32)), .val (.ref b31), .val (.int (own_be ((((p0.toUInt32 >>> ((24 : Int32) &&& 31).toUInt32).toInt32).toInt8.toInt32).toInt8.toInt32) ((((p0.toUInt32 >>> ((16 : Int32) &&& 31).toUInt32).toInt32).toInt8.toInt32).toInt8.toInt32) ((((p0.toUInt32 >>> ((8 : Int32) &&& 31).toUInt32).toInt32).toInt8.toInt32).toInt8.toInt32) ((p0.toInt8.toInt32).toInt8.toInt32))), .val (.int (own_le ((((p0.toUInt32 >>> ((24 : Int32) &&& 31).toUInt32).toInt32).toInt8.toInt32).toInt8.toInt32) ((((p0.toUInt32 >>> ((16 : Int32) &&& 31).toUInt32).toInt32).toInt8.toInt32).toInt8.toInt32) ((((p0.toUInt32 >>> ((8 : Int32) &&& 31).toUInt32).toInt32).toInt8.toInt32).toInt8.toInt32) ((p0.toInt8.toInt32).toInt8.toInt32)))] [(.int (own_le ((((p0.toUInt32 >>> ((24 : Int32) &&& 31).toUInt32).toInt32).toInt8.toInt32).toInt8.toInt32) ((((p0.toUInt32 >>> ((16 : Int32) &&& 31).toUInt32).toInt32).toInt8.toInt32).toInt8.toInt32) ((((p0.toUInt32 >>> ((8 : Int32) &&& 31).toUInt32).toInt32).toInt8.toInt32).toInt8.toInt32) ((p0.toInt8.toInt32).toInt8.toInt32)))])) (fun t k => XS.iload X58.here hx rfl (hb hby at_234) rfl k) ?_
    refine Go.to (g' := (mkF m 237 #[.val (.int p0), .val (.int p1), .val (.long q2), .second, .val (.int p3), .val (.int at_), .val (.int (1 : Int32)), .val (.ref b31), .val (.int (own_be ((((p0.toUInt32 >>> ((24 : Int32) &&& 31).toUInt32).toInt32).toInt8.toInt32).toInt8.toInt32) ((((p0.toUInt32 >>> ((16 : Int32) &&& 31).toUInt32).toInt32).toInt8.toInt32).toInt8.toInt32) ((((p0.toUInt32 >>> ((8 : Int32) &&& 31).toUInt32).toInt32).toInt8.toInt32).toInt8.toInt32) ((p0.toInt8.toInt32).toInt8.toInt32))), .val (.int (own_le ((((p0.toUInt32 >>> ((24 : Int32) &&& 31).toUInt32).toInt32).toInt8.toInt32).toInt8.toInt32) ((((p0.toUInt32 >>> ((16 : Int32) &&& 31).toUInt32).toInt32).toInt8.toInt32).toInt8.toInt32) ((((p0.toUInt32 >>> ((8 : Int32) &&& 31).toUInt32).toInt32).toInt8.toInt32).toInt8.toInt32) ((p0.toInt8.toInt32).toInt8.toInt32)))] [(.int p0), (.int (own_le ((((p0.toUInt32 >>> ((24 : Int32) &&& 31).toUInt32).toInt32).toInt8.toInt32).toInt8.toInt32) ((((p0.toUInt32 >>> ((16 : Int32) &&& 31).toUInt32).toInt32).toInt8.toInt32).toInt8.toInt32) ((((p0.toUInt32 >>> ((8 : Int32) &&& 31).toUInt32).toInt32).toInt8.toInt32).toInt8.toInt32) ((p0.toInt8.toInt32).toInt8.toInt32)))])) (fun t k => XS.iloadN X58.here hx rfl (hb hby at_236) rfl k) ?_
    obtain ⟨v59, _, ⟨T59, L59, k59, n59⟩, -, X59, ⟨Lc59, hQ59, l59, y59, z59⟩, st59⟩ := Jvm.LawKit.callS X58 hx (y := (⟨"com/example/nidra/nidra/dbus/UnmarshallerUint32PinLaw", "reversed", "(I)I"⟩ : MethodName)) hown (mvT hZ (hw _ (List.mem_of_getElem? (i := 5) rfl))) (mvT hZ (hw _ (List.mem_of_getElem? (i := 6) rfl))) (mvT hZ (hw _ (List.mem_of_getElem? (i := 7) rfl))) (mvT hZ (hw _ (List.mem_of_getElem? (i := 8) rfl))) (by decide) (backOf (W := 1) (rm2 l Z aw hw [] p0  h56 n0 Z56 ) hZ (hw _ (List.mem_of_getElem? (i := 8) rfl)) (hw _ (List.mem_of_getElem? (i := 7) rfl)) (by decide) (by decide)) (g := (mkF m 237 #[.val (.int p0), .val (.int p1), .val (.long q2), .second, .val (.int p3), .val (.int at_), .val (.int (1 : Int32)), .val (.ref b31), .val (.int (own_be ((((p0.toUInt32 >>> ((24 : Int32) &&& 31).toUInt32).toInt32).toInt8.toInt32).toInt8.toInt32) ((((p0.toUInt32 >>> ((16 : Int32) &&& 31).toUInt32).toInt32).toInt8.toInt32).toInt8.toInt32) ((((p0.toUInt32 >>> ((8 : Int32) &&& 31).toUInt32).toInt32).toInt8.toInt32).toInt8.toInt32) ((p0.toInt8.toInt32).toInt8.toInt32))), .val (.int (own_le ((((p0.toUInt32 >>> ((24 : Int32) &&& 31).toUInt32).toInt32).toInt8.toInt32).toInt8.toInt32) ((((p0.toUInt32 >>> ((16 : Int32) &&& 31).toUInt32).toInt32).toInt8.toInt32).toInt8.toInt32) ((((p0.toUInt32 >>> ((8 : Int32) &&& 31).toUInt32).toInt32).toInt8.toInt32).toInt8.toInt32) ((p0.toInt8.toInt32).toInt8.toInt32)))] [(.int p0), (.int (own_le ((((p0.toUInt32 >>> ((24 : Int32) &&& 31).toUInt32).toInt32).toInt8.toInt32).toInt8.toInt32) ((((p0.toUInt32 >>> ((16 : Int32) &&& 31).toUInt32).toInt32).toInt8.toInt32).toInt8.toInt32) ((((p0.toUInt32 >>> ((8 : Int32) &&& 31).toUInt32).toInt32).toInt8.toInt32).toInt8.toInt32) ((p0.toInt8.toInt32).toInt8.toInt32)))])) rfl (by rw [hml]; rfl) (argsL := [(.int p0)]) (rest := [(.int (own_le ((((p0.toUInt32 >>> ((24 : Int32) &&& 31).toUInt32).toInt32).toInt8.toInt32).toInt8.toInt32) ((((p0.toUInt32 >>> ((16 : Int32) &&& 31).toUInt32).toInt32).toInt8.toInt32).toInt8.toInt32) ((((p0.toUInt32 >>> ((8 : Int32) &&& 31).toUInt32).toInt32).toInt8.toInt32).toInt8.toInt32) ((p0.toInt8.toInt32).toInt8.toInt32)))]) (lenOf pd_28I29I rfl) rfl (by show 2 * 0 + _ ≤ _; exact Nat.le_of_eq rfl) (hb hby at_237) (fun _ _ => ⟨rfl, e58, (by decide : 1 + 0 ≤ _), (by decide : 8 + 0 ≤ _)⟩)
    dsimp only [Pt.U, Pt.locs, Pt.cells, Pt.slots] at X59 l59 y59 z59 st59 hQ59
    subst l59 y59 z59
    obtain ⟨rfl, N59q, e59⟩ := hQ59
    have N59 := Fr.app N58 N59q
    refine Go.to (g' := (mkF m 240 #[.val (.int p0), .val (.int p1), .val (.long q2), .second, .val (.int p3), .val (.int at_), .val (.int (1 : Int32)), .val (.ref b31), .val (.int (own_be ((((p0.toUInt32 >>> ((24 : Int32) &&& 31).toUInt32).toInt32).toInt8.toInt32).toInt8.toInt32) ((((p0.toUInt32 >>> ((16 : Int32) &&& 31).toUInt32).toInt32).toInt8.toInt32).toInt8.toInt32) ((((p0.toUInt32 >>> ((8 : Int32) &&& 31).toUInt32).toInt32).toInt8.toInt32).toInt8.toInt32) ((p0.toInt8.toInt32).toInt8.toInt32))), .val (.int (own_le ((((p0.toUInt32 >>> ((24 : Int32) &&& 31).toUInt32).toInt32).toInt8.toInt32).toInt8.toInt32) ((((p0.toUInt32 >>> ((16 : Int32) &&& 31).toUInt32).toInt32).toInt8.toInt32).toInt8.toInt32) ((((p0.toUInt32 >>> ((8 : Int32) &&& 31).toUInt32).toInt32).toInt8.toInt32).toInt8.toInt32) ((p0.toInt8.toInt32).toInt8.toInt32)))] [(.int (own_le ((p0.toUInt32 >>> ((24 : Int32) &&& 31).toUInt32).toInt32) ((p0.toUInt32 >>> ((16 : Int32) &&& 31).toUInt32).toInt32) ((p0.toUInt32 >>> ((8 : Int32) &&& 31).toUInt32).toInt32) p0)), (.int (own_le ((((p0.toUInt32 >>> ((24 : Int32) &&& 31).toUInt32).toInt32).toInt8.toInt32).toInt8.toInt32) ((((p0.toUInt32 >>> ((16 : Int32) &&& 31).toUInt32).toInt32).toInt8.toInt32).toInt8.toInt32) ((((p0.toUInt32 >>> ((8 : Int32) &&& 31).toUInt32).toInt32).toInt8.toInt32).toInt8.toInt32) ((p0.toInt8.toInt32).toInt8.toInt32)))])) st59 ?_
    refine Go.to (g' := (mkF m 243 #[.val (.int p0), .val (.int p1), .val (.long q2), .second, .val (.int p3), .val (.int at_), .val (.int (1 : Int32)), .val (.ref b31), .val (.int (own_be ((((p0.toUInt32 >>> ((24 : Int32) &&& 31).toUInt32).toInt32).toInt8.toInt32).toInt8.toInt32) ((((p0.toUInt32 >>> ((16 : Int32) &&& 31).toUInt32).toInt32).toInt8.toInt32).toInt8.toInt32) ((((p0.toUInt32 >>> ((8 : Int32) &&& 31).toUInt32).toInt32).toInt8.toInt32).toInt8.toInt32) ((p0.toInt8.toInt32).toInt8.toInt32))), .val (.int (own_le ((((p0.toUInt32 >>> ((24 : Int32) &&& 31).toUInt32).toInt32).toInt8.toInt32).toInt8.toInt32) ((((p0.toUInt32 >>> ((16 : Int32) &&& 31).toUInt32).toInt32).toInt8.toInt32).toInt8.toInt32) ((((p0.toUInt32 >>> ((8 : Int32) &&& 31).toUInt32).toInt32).toInt8.toInt32).toInt8.toInt32) ((p0.toInt8.toInt32).toInt8.toInt32)))] [])) (fun t k => XS.icmpNo X59.here hx rfl (hb hby at_240) rfl (teq (own_t1 p0)).2 k) ?_
    refine Go.to (g' := (mkF m 244 #[.val (.int p0), .val (.int p1), .val (.long q2), .second, .val (.int p3), .val (.int at_), .val (.int (1 : Int32)), .val (.ref b31), .val (.int (own_be ((((p0.toUInt32 >>> ((24 : Int32) &&& 31).toUInt32).toInt32).toInt8.toInt32).toInt8.toInt32) ((((p0.toUInt32 >>> ((16 : Int32) &&& 31).toUInt32).toInt32).toInt8.toInt32).toInt8.toInt32) ((((p0.toUInt32 >>> ((8 : Int32) &&& 31).toUInt32).toInt32).toInt8.toInt32).toInt8.toInt32) ((p0.toInt8.toInt32).toInt8.toInt32))), .val (.int (own_le ((((p0.toUInt32 >>> ((24 : Int32) &&& 31).toUInt32).toInt32).toInt8.toInt32).toInt8.toInt32) ((((p0.toUInt32 >>> ((16 : Int32) &&& 31).toUInt32).toInt32).toInt8.toInt32).toInt8.toInt32) ((((p0.toUInt32 >>> ((8 : Int32) &&& 31).toUInt32).toInt32).toInt8.toInt32).toInt8.toInt32) ((p0.toInt8.toInt32).toInt8.toInt32)))] [(.int (1 : Int32))])) (fun t k => XS.iconst X59.here hx rfl (hb hby at_243) k) ?_
    refine Go.to (g' := (mkF m 248 #[.val (.int p0), .val (.int p1), .val (.long q2), .second, .val (.int p3), .val (.int at_), .val (.int (1 : Int32)), .val (.ref b31), .val (.int (own_be ((((p0.toUInt32 >>> ((24 : Int32) &&& 31).toUInt32).toInt32).toInt8.toInt32).toInt8.toInt32) ((((p0.toUInt32 >>> ((16 : Int32) &&& 31).toUInt32).toInt32).toInt8.toInt32).toInt8.toInt32) ((((p0.toUInt32 >>> ((8 : Int32) &&& 31).toUInt32).toInt32).toInt8.toInt32).toInt8.toInt32) ((p0.toInt8.toInt32).toInt8.toInt32))), .val (.int (own_le ((((p0.toUInt32 >>> ((24 : Int32) &&& 31).toUInt32).toInt32).toInt8.toInt32).toInt8.toInt32) ((((p0.toUInt32 >>> ((16 : Int32) &&& 31).toUInt32).toInt32).toInt8.toInt32).toInt8.toInt32) ((((p0.toUInt32 >>> ((8 : Int32) &&& 31).toUInt32).toInt32).toInt8.toInt32).toInt8.toInt32) ((p0.toInt8.toInt32).toInt8.toInt32)))] [(.int (1 : Int32))])) (fun t k => XS.goto X59.here hx rfl (pc0 := 244) (pc' := 248) rfl (hb hby at_244) (by decide) (by decide) k) ?_
    exact Go.retN X59 hx (t := .boolean) Bd.returns Bd.notSynchronized (by simp) (hb hby at_248) (by decide) (by decide) e59 ⟨rfl, N59⟩

set_option maxRecDepth 65536 in
set_option maxHeartbeats 40000000 in
theorem comes_1 {Post : Tables → Env → Array Value → State → Outcome → State → Prop} (hpost : ∀ tb e args s v u, (limb_1_1.after args s (.returned v) u = true ∧ limb_1_2.after args s (.returned v) u = true ∧ True) → FrameEnd s (.returned v) u (Jvm.fieldLocs frame_1_writes args s ++ Jvm.arrayLocs frame_1_arrays args s ++ Jvm.staticLocs frame_1_statics s) 16 128 → Post tb e args s (.returned v) u) :
    ArmFor flags0 classFile x code maxLocals ret World_1 tables_1 room_1 Calls_1 rest_1 Pre_1 Post := by
  intro l hfl _ _ p e ha hc hk s m args below hf hA hF happ hP
  obtain ⟨hcalls, hrest, hpre⟩ := hP
  obtain ⟨-, -, -, hnamed, -, -, -, hat⟩ := (Spec.applies_iff hf).mp happ
  obtain ⟨hg, hn⟩ := and_e (Cond.before_iff.mp (show (Jvm.Cond.and given_1 narrow_1).before args s = true from hpre))
  obtain ⟨ga0, gb0⟩ := and_e hg
  obtain ⟨ga1, gb1⟩ := and_e gb0
  obtain ⟨ga2, gb2⟩ := and_e gb1
  obtain ⟨ga3, gb3⟩ := and_e gb2
  obtain ⟨w0, w1, w2, w3, rfl⟩ : ∃ w0 w1 w2 w3 : Value, args = #[w0, w1, w2, w3] := by
    have hs : args.size = 4 := by simpa [Cond.value, given_1] using ga0
    obtain ⟨L⟩ := args
    match L, hs with
    | [w0, w1, w2, w3], _ => exact ⟨w0, w1, w2, w3, rfl⟩
  have hw := fun d (hd : d ∈ tables_1) => atoms_spec (ws := Jvm.Cond.code x code maxLocals ret :: tables_1) hat d (List.mem_cons_of_mem _ hd)
  obtain ⟨i0, ei0⟩ := is_v ga1
  obtain rfl : w0 = (.int i0) := Option.some.inj ei0
  obtain ⟨i1, ei1⟩ := is_v ga2
  obtain rfl : w1 = (.int i1) := Option.some.inj ei1
  obtain ⟨i2, ei2⟩ := isL_v ga3
  obtain rfl : w2 = (.long i2) := Option.some.inj ei2
  obtain ⟨i3, ei3⟩ := is_v gb3
  obtain rfl : w3 = (.int i3) := Option.some.inj ei3
  obtain ⟨n, o, h1, h2, h3, _, L, rfl, ⟨rfl, N⟩, hq⟩ := rm0 l s _ hw tables_1 i0 i1 i2 i3 s.heap s.heap.size (Nat.le_refl _)  p e ha hc hk s m _ below hf ((Spec.applies_iff_loose hf).mp happ).1 ⟨rfl, State.Warmed39.refl s, rfl⟩ trivial
  refine ⟨n, _, h1, h2, h3, hpost _ _ _ _ _ _ ⟨Cond.after_iff.mpr rfl, Cond.after_iff.mpr (eq_i res_at (Term.int_eval (1)) rfl), trivial⟩ ⟨hq.1, hq.2.1, (hq.2.2.sift fun y hy => Or.inr (N y hy)).mono (by decide) (by decide)⟩⟩
theorem main_1_1 : Claimed_1_1 := comes_1 fun _ _ _ _ _ _ h hF => ⟨h.1, hF⟩
theorem main_1_2 : Claimed_1_2 := comes_1 fun _ _ _ _ _ _ h hF => ⟨h.2.1, hF⟩

end Jvm.Pilot.@@N@@
namespace Jvm.Pilot.@@N@@
open Jvm Jvm.ClassFile Sem Op Lib Jvm.Free Jvm.Stand Jvm.Pilot.@@N@@.Jvm.D
/-! MADE BY PROGRAM (witnessworld.py) out of the Statement's table words and the real class files: 9 classes; the members and pool entries that the words name. The judged class is class 1, her method 2. -/
namespace start1
open Jvm.ClassFile
def u (s : String) : CpInfo := .utf8 (stringToUtf16 s)
/-- a pool by its gaps: so many unusable entries, then the entry; so many at the end -/
def gap : Nat → List CpInfo → List CpInfo
  | 0, r => r
  | n + 1, r => .unusable :: gap n r
def poolList (es : List (Nat × CpInfo)) (last : Nat) : List CpInfo := es.foldr (fun e r => gap e.1 (e.2 :: r)) (gap last [])
def pool (es : List (Nat × CpInfo)) (last : Nat) : Array CpInfo := ⟨poolList es last⟩
def fileOf (pool : Array CpInfo) (this : Nat) (attrs : Array Attribute := #[]) (ms : Array MethodInfo := #[]) (fl : Nat := 33) (sup : Nat := 0) (ifs : Array Nat := #[]) (fds : Array FieldInfo := #[]) : ClassFile where
  minorVersion := 0
  majorVersion := 65
  constantPool := pool
  accessFlags := fl
  thisClass := this
  superClass := sup
  interfaces := ifs
  fields := fds
  methods := ms
  attributes := attrs
def plain (name : String) (sup : Option ClassId) : Class where
  name := name
  kind := .ordinary
  loader := none
  accessFlags := 33
  super := sup
  interfaces := #[]
  cf := none
  fields := #[]
  methods := #[]
  instanceTypes := #[]
  staticTypes := #[]
  resolved := #[]
  callSites := []
  init := .initialized
  statics := none
  mirror := none

def pool0 : Array CpInfo := pool [(5, u "<init>"), (0, u "()V"), (1, .class_ 10), (1, u "java/lang/Object")] 113

def k0m0 : Method := { name := "<init>", desc := "()V", sig := { parameters := [], returnType := none }, accessFlags := 1, code := none }
/-- java/lang/Object -/
def k0 : Class := { plain "java/lang/Object" none with
  accessFlags := 33
  interfaces := #[]
  cf := some (fileOf pool0 8 #[] #[{ accessFlags := 1, nameIndex := 5, descriptorIndex := 6, attributes := #[] }] 33 0 #[] #[])
  fields := #[]
  methods := #[k0m0]
  instanceTypes := #[]
  staticTypes := #[]
  resolved := Array.replicate 124 none
  statics := none }

def pool1 : Array CpInfo := pool [(2, .class_ 4), (1, u "java/lang/Object"), (0, u "<init>"), (0, u "()V"), (0, .methodref 8 9), (0, .class_ 10), (0, .nameAndType 11 12), (0, u "com/example/nidra/nidra/dbus/Unmarshaller"), (0, u "uint32"), (0, u "([BIZ)I"), (0, .methodref 14 15), (0, .class_ 16), (0, .nameAndType 17 18), (0, u "com/example/nidra/nidra/dbus/UnmarshallerUint32PinLaw"), (0, u "reversed"), (0, u "(I)I"), (2, u "law"), (0, u "(IIJI)Z")] 5

def k1m0 : Method := { name := "<init>", desc := "()V", sig := { parameters := [], returnType := none }, accessFlags := 1, code := none }
def k1c1 : Code := { maxStack := 3, maxLocals := 1, code := method_2_code, exceptionTable := #[], attributes := #[] }
def k1m1 : Method := { name := "reversed", desc := "(I)I", sig := { parameters := [.int], returnType := some .int }, accessFlags := 10, code := some k1c1 }
def k1c2 : Code := { maxStack := 5, maxLocals := 10, code := code, exceptionTable := #[], attributes := #[] }
def k1m2 : Method := { name := "law", desc := "(IIJI)Z", sig := { parameters := [.int, .int, .long, .int], returnType := some .boolean }, accessFlags := 9, code := some k1c2 }
/-- com/example/nidra/nidra/dbus/UnmarshallerUint32PinLaw -/
def k1 : Class := { plain "com/example/nidra/nidra/dbus/UnmarshallerUint32PinLaw" (some 0) with
  accessFlags := 49
  interfaces := #[]
  cf := some (fileOf pool1 14 #[] #[{ accessFlags := 1, nameIndex := 5, descriptorIndex := 6, attributes := #[] }, { accessFlags := 10, nameIndex := 17, descriptorIndex := 18, attributes := #[] }, { accessFlags := 9, nameIndex := 21, descriptorIndex := 22, attributes := #[] }] 49 2 #[] #[])
  fields := #[]
  methods := #[k1m0, k1m1, k1m2]
  instanceTypes := #[]
  staticTypes := #[]
  resolved := Array.replicate 28 none
  statics := none }

def pool2 : Array CpInfo := pool [(2, .class_ 4), (1, u "java/lang/Object"), (3, .class_ 10), (1, u "com/example/nidra/nidra/dbus/Unmarshaller"), (0, u "bytes"), (0, u "[B"), (2, u "start"), (0, u "I"), (2, u "end"), (2, u "bigEndian"), (0, u "Z"), (2, u "position"), (6, u "uint32"), (0, u "([BIZ)I"), (115, u "MOST_DEPTH")] 32

def k2c0 : Code := { maxStack := 4, maxLocals := 4, code := prog_7_method_4_code, exceptionTable := #[], attributes := #[] }
def k2m0 : Method := { name := "uint32", desc := "([BIZ)I", sig := { parameters := [(.array .byte), .int, .boolean], returnType := some .int }, accessFlags := 8, code := some k2c0 }
/-- com/example/nidra/nidra/dbus/Unmarshaller -/
def k2 : Class := { plain "com/example/nidra/nidra/dbus/Unmarshaller" (some 0) with
  accessFlags := 32
  interfaces := #[]
  cf := some (fileOf pool2 8 #[] #[{ accessFlags := 8, nameIndex := 33, descriptorIndex := 34, attributes := #[] }] 32 2 #[] #[{ accessFlags := 26, nameIndex := 150, descriptorIndex := 16, attributes := #[] }, { accessFlags := 18, nameIndex := 11, descriptorIndex := 12, attributes := #[] }, { accessFlags := 18, nameIndex := 15, descriptorIndex := 16, attributes := #[] }, { accessFlags := 18, nameIndex := 19, descriptorIndex := 16, attributes := #[] }, { accessFlags := 18, nameIndex := 22, descriptorIndex := 23, attributes := #[] }, { accessFlags := 2, nameIndex := 26, descriptorIndex := 16, attributes := #[] }])
  fields := #[{ name := "MOST_DEPTH", type := .int, accessFlags := 26, slot := 0, constantValue := 0 }, { name := "bytes", type := (.array .byte), accessFlags := 18, slot := 0, constantValue := 0 }, { name := "start", type := .int, accessFlags := 18, slot := 1, constantValue := 0 }, { name := "end", type := .int, accessFlags := 18, slot := 2, constantValue := 0 }, { name := "bigEndian", type := .boolean, accessFlags := 18, slot := 3, constantValue := 0 }, { name := "position", type := .int, accessFlags := 2, slot := 4, constantValue := 0 }]
  methods := #[k2m0]
  instanceTypes := #[(.array .byte), .int, .int, .boolean, .int]
  staticTypes := #[.int]
  resolved := Array.replicate 183 none
  statics := none }

def pool3 : Array CpInfo := pool [(1, u "java/lang/Cloneable"), (0, .class_ 1), (0, u "java/lang/Object"), (0, .class_ 3)] 3

/-- java/lang/Cloneable -/
def k3 : Class := { plain "java/lang/Cloneable" (some 0) with
  accessFlags := 1537
  interfaces := #[]
  cf := some (fileOf pool3 2 #[] #[] 1537 4 #[] #[])
  fields := #[]
  methods := #[]
  instanceTypes := #[]
  staticTypes := #[]
  resolved := Array.replicate 8 none
  statics := none }

def pool4 : Array CpInfo := pool [(1, u "java/io/Serializable"), (0, .class_ 1), (0, u "java/lang/Object"), (0, .class_ 3)] 3

/-- java/io/Serializable -/
def k4 : Class := { plain "java/io/Serializable" (some 0) with
  accessFlags := 1537
  interfaces := #[]
  cf := some (fileOf pool4 2 #[] #[] 1537 4 #[] #[])
  fields := #[]
  methods := #[]
  instanceTypes := #[]
  staticTypes := #[]
  resolved := Array.replicate 8 none
  statics := none }

/-- the primitive byte -/
def k5 : Class := { plain "byte" none with kind := .primitive 'B', accessFlags := 0x411 }
/-- [B -/
def k6 : Class := { plain "[B" (some 0) with kind := .array 5 .byte, interfaces := #[3, 4], accessFlags := 1041 }

/-- the primitive int -/
def k7 : Class := { plain "int" none with kind := .primitive 'I', accessFlags := 0x411 }
/-- [I -/
def k8 : Class := { plain "[I" (some 0) with kind := .array 7 .int, interfaces := #[3, 4], accessFlags := 1041 }

def heap : Heap := #[]
def classes : Array Class := #[k0, k1, k2, k3, k4, k5, k6, k7, k8]
def interned : List (Array UInt16 × Addr) := []
def slotsUsed : Nat := 0
def theMethod : MethodId := ⟨1, 2⟩
def args0 : Array Value := #[.int 9, .int 8, .long 5, .int 2]
def aboutOver (below : List Frame) : State where
  vm := { classes := classes, interned := interned.toArray }
  heap := heap
  slotsUsed := slotsUsed
  threads := #[{ frames := .invoking theMethod args0 :: below }]
def below0 : List Frame := [.native { method := ⟨0, 0⟩, args := #[] }]
def about1 : State := aboutOver below0
def p0 : Program := .bare "" "" ""
def e0 : Env := launch0.env 0 0 0
theorem w_frames : about1.frames = Frame.invoking theMethod args0 :: below0 := rfl
set_option maxRecDepth 65536 in
theorem w_args : argsFit about1.vm theMethod args0 = true := by decide +kernel
set_option maxRecDepth 65536 in
theorem w_heap : heapFits about1 = true := by decide +kernel
set_option maxRecDepth 65536 in
theorem w_runnable : about1.curStatus? = some .runnable := by decide +kernel
set_option maxRecDepth 65536 in
theorem w_alone : about1.alone = true := by decide +kernel
set_option maxRecDepth 65536 in
theorem w_named : about1.methodNamed? x = some theMethod := by decide +kernel
set_option maxRecDepth 65536 in
theorem w_hears : about1.hears theMethod below0 = true := by decide +kernel
set_option maxRecDepth 65536 in
theorem w_ripe : about1.ripe theMethod args0 below0 = true := by decide +kernel
theorem w_running : about1.status = .running := rfl
set_option maxRecDepth 65536 in
theorem w_room : about1.hasRoom e0.platform room_1 = true :=
  launch0.hasRoom_least _ room_1 (by decide +kernel) (by decide +kernel) (by decide +kernel) (by decide +kernel) (by decide +kernel) (by decide +kernel)
theorem allAtoms_all (ts : List Jvm.Cond) (a : Array Jvm.Value) (st : Jvm.State) : (allAtoms ts).before a st = ts.all (fun c => c.before a st) := by
  induction ts with
  | nil => rfl
  | cons c t ih =>
    show (Jvm.Cond.and c (allAtoms t)).before a st = _
    rw [Jvm.Cond.before_and, ih, List.all_cons]
def words1 : List Jvm.Cond := Jvm.Cond.code x code maxLocals ret :: tables_1
/-- a 'code' word, met by the world's own term for the bytes: nothing is compared byte by byte -/
theorem code_word {y : MethodName} {bytes : ByteArray} {mx : Nat} {rt : Option FieldType} {a : Array Value} {s : State} {m : MethodId} {meth : Method} {c : Code} (h1 : s.methodNamed? y = some m) (h2 : s.vm.method? m = some meth) (h3 : meth.code = some c) (h4 : c.code = bytes)
    (h5 : (c.maxLocals == mx && c.exceptionTable.isEmpty && decide (c.maxStack ≤ mostOperands) && decide (meth.sig.returnType = rt) && !meth.locks && decide (parseMethodDescriptor y.desc = some meth.sig)) = true) : (Jvm.Cond.code y bytes mx rt).before a s = true := by
  simp only [Bool.and_eq_true, beq_iff_eq, Bool.not_eq_true', decide_eq_true_eq] at h5
  obtain ⟨⟨⟨⟨⟨g1, g2⟩, g3⟩, g4⟩, g5⟩, g6⟩ := h5
  simp [Cond.before, Cond.holds, Cond.value, h1, h2, h3, h4, g1, g2, g3, g4, g5, g6]
def isCode : Jvm.Cond → Bool
  | .code _ _ _ _ => true
  | _ => false
theorem all_split {L : List Jvm.Cond} {P : Jvm.Cond → Bool} (h1 : L.all (fun c => isCode c || P c) = true) (h2 : ∀ c ∈ L.filter isCode, P c = true) : L.all P = true := by
  refine List.all_eq_true.mpr fun c hc => ?_
  have h := List.all_eq_true.mp h1 c hc
  rcases Bool.eq_false_or_eq_true (isCode c) with hi | hi
  · exact h2 c (List.mem_filter.mpr ⟨hc, hi⟩)
  · simpa [hi] using h
set_option maxRecDepth 65536 in
theorem w_c0 : (Jvm.Cond.code x code maxLocals ret).before args0 about1 = true := code_word (m := ⟨1, 2⟩) (meth := k1m2) (c := k1c2) (by decide +kernel) rfl rfl rfl (by decide +kernel)
set_option maxRecDepth 65536 in
theorem w_c1 : (Jvm.Cond.code ({ cls := "com/example/nidra/nidra/dbus/Unmarshaller", name := "uint32", desc := "([BIZ)I" } : Jvm.MethodName) prog_7_method_4_code (4 : Nat) (Option.some Jvm.ClassFile.FieldType.int)).before args0 about1 = true := code_word (m := ⟨2, 0⟩) (meth := k2m0) (c := k2c0) (by decide +kernel) rfl rfl rfl (by decide +kernel)
set_option maxRecDepth 65536 in
theorem w_c2 : (Jvm.Cond.code ({ cls := "com/example/nidra/nidra/dbus/UnmarshallerUint32PinLaw", name := "reversed", desc := "(I)I" } : Jvm.MethodName) method_2_code (1 : Nat) (Option.some Jvm.ClassFile.FieldType.int)).before args0 about1 = true := code_word (m := ⟨1, 1⟩) (meth := k1m1) (c := k1c1) (by decide +kernel) rfl rfl rfl (by decide +kernel)
def codes1 : List Jvm.Cond := [Jvm.Cond.code x code maxLocals ret, Jvm.Cond.code ({ cls := "com/example/nidra/nidra/dbus/Unmarshaller", name := "uint32", desc := "([BIZ)I" } : Jvm.MethodName) prog_7_method_4_code (4 : Nat) (Option.some Jvm.ClassFile.FieldType.int), Jvm.Cond.code ({ cls := "com/example/nidra/nidra/dbus/UnmarshallerUint32PinLaw", name := "reversed", desc := "(I)I" } : Jvm.MethodName) method_2_code (1 : Nat) (Option.some Jvm.ClassFile.FieldType.int)]
set_option maxRecDepth 65536 in
theorem codes_eq : words1.filter isCode = codes1 := rfl
theorem w_codes : ∀ c ∈ words1.filter isCode, c.before args0 about1 = true := by
  rw [codes_eq]
  intro c hc
  simp only [codes1, List.mem_cons, List.not_mem_nil, or_false] at hc
  rcases hc with rfl | rfl | rfl
  · exact w_c0
  · exact w_c1
  · exact w_c2
set_option maxRecDepth 65536 in
theorem w_t1 : words1.all (fun c => isCode c || c.before args0 about1) = true := by decide +kernel
theorem w_tables : (allAtoms (Jvm.Cond.code x code maxLocals ret :: tables_1)).before args0 about1 = true := by
  rw [allAtoms_all]
  show words1.all (fun c => c.before args0 about1) = true
  refine all_split ?_ w_codes
  rw [w_t1]
set_option maxRecDepth 65536 in
theorem w_case : (Jvm.Cond.and given_1 narrow_1).before args0 about1 = true := by decide +kernel
theorem w_applies : (headSpec (Jvm.Cond.code x code maxLocals ret :: tables_1) room_1).applies x e0.platform about1 = true :=
  (Spec.applies_iff w_frames).mpr ⟨w_running, w_runnable, w_alone, w_named, w_hears, w_ripe, w_room, w_tables⟩
theorem atStart : AtStart classFile x code maxLocals ret World_1 tables_1 room_1 Calls_1 rest_1 Pre_1 launch0 p0 e0 about1 theMethod args0 below0 :=
  ⟨lists_1, trivial, launch0.admits_env _ _ _, launch0.least_env, fairChoices_fair.cas, fairChoices_fair.clock, w_frames, w_args, w_heap, w_applies, trivial, trivial, w_case⟩
end start1
theorem witness_1 : WitnessClaimed_1 := ⟨start1.p0, start1.e0, start1.about1, start1.theMethod, start1.args0, start1.below0, start1.atStart⟩
end Jvm.Pilot.@@N@@
