import JvmDerived
import JvmDerived.Pilot.@@N@@Statement
import JvmDerived.Pilot.@@N@@Code
set_option linter.unusedVariables false
set_option linter.unusedSimpArgs false
namespace Jvm.RoadKit
open Sem ClassFile Op Lib Jvm.Stand Jvm.Free Jvm.LawKit
section New
variable {p : Program} {l : Launch} {e : Env} {R : Room} {s : State} {m : MethodId} {args : Array Value} {below : List Frame} {meth : Method} {c : Code} {T : State} {locs : List Loc} {cells slots : Nat}
theorem retI (X : Stand p l e R s m args below meth c T locs cells slots) (hx : p.tables.exec = Jvm.exec) {pc : Nat} {Ls : Array Slot} {z : Int32} {rest : List Value} (hret : meth.sig.returnType = some .int) (hd : decode c.code pc = .ok (.ireturn, 1)) {fs : List Frame}
    (hl : ∀ (f : JFrame) (acts : List Action), f.method = m → f.locked = none → f.entered = [] → (doReturn e (T.setTop f) acts (some (.int z))).1 = T.setFrames fs) : Steps p.tables e below (T.setTop (mkF m pc Ls (.int z :: rest))) (T.setFrames fs) := by
  have hm' : T.vm.method? m = some meth := X.method'
  have hn : narrow .int (.int z) = .int z := rfl
  show Steps p.tables e below (T.setTop { method := m, pc := pc, locals := Ls, stack := _ :: rest, locked := none }) _
  jvm_step X.here [X.here.top, hx, hd, hm', hret, hn]
  first | (intro acts; rw [hl _ acts rfl rfl rfl]) | rw [hl _ _ rfl rfl rfl]
  exact Steps.refl _
end New
end Jvm.RoadKit
namespace Jvm.Pilot.@@N@@
open Jvm Jvm.ClassFile Sem Op Lib Jvm.Free Jvm.Stand Jvm.LawKit Jvm.RoadKit Bundle Jvm.Pilot.@@N@@.Jvm.D
section OwnGo
variable {p : Program} {l : Launch} {e : Env} {R : Room} {s : State} {m : MethodId} {args : Array Value} {below : List Frame} {meth : Method} {c : Code} {T T' : State} {locs : List Loc} {cells slots : Nat} {C S : Nat} {Q : Option Value → Heap → List Loc → Prop} {h : Heap}
/-- from here the run comes to a return of which Q holds -/
def Go (p : Program) (e : Env) (below : List Frame) (s : State) (Q : Option Value → Heap → List Loc → Prop) (C S : Nat) (S0 : State) : Prop :=
  ∃ s₂ o, Steps p.tables e below S0 s₂ ∧ s₂.status = .running ∧ Ended s₂ below o ∧ ∃ v L, o = .returned v ∧ Q v s₂.heap L ∧ FrameEnd s o s₂ L C S
theorem own_go {S0 : State} (k : Go p e below s Q C S S0) : ∃ s₂ o, Steps p.tables e below S0 s₂ ∧ s₂.status = .running ∧ Ended s₂ below o ∧ ∃ v L, o = .returned v ∧ Q v s₂.heap L ∧ FrameEnd s o s₂ L C S := k
theorem Go.to {g g' : JFrame} (st : ∀ t, Steps p.tables e below (T'.setTop g') t → Steps p.tables e below (T.setTop g) t) (k : Go p e below s Q C S (T'.setTop g')) : Go p e below s Q C S (T.setTop g) := by
  obtain ⟨s₂, o, h1, r⟩ := k
  exact ⟨s₂, o, st _ h1, r⟩
theorem Go.retI (X : Stand p l e R s m args below meth c T locs cells slots) (hx : p.tables.exec = Jvm.exec) {pc : Nat} {Ls : Array Slot} {z : Int32} {rest : List Value} (hret : meth.sig.returnType = some .int) (hlk : meth.locks = false) (hd : decode c.code pc = .ok (.ireturn, 1)) (hC : cells ≤ C) (hS : slots ≤ S) (eT : T.heap = h) (hQ : Q (some (.int z)) h locs) :
    Go p e below s Q C S (T.setTop (mkF m pc Ls (.int z :: rest))) := by
  obtain ⟨fs, hr, hrun, hended, hW, hsame⟩ := X.leave (v := some (.int z)) (fun h => by rw [hret] at h; cases h) hlk
  exact ⟨_, _, Jvm.RoadKit.retI X hx hret hd hr, hrun, hended, _, _, rfl, (show Q (some (.int z)) T.heap locs from eT ▸ hQ), ⟨_, rfl⟩, hW, hsame.mono hC hS⟩
theorem Go.retN (X : Stand p l e R s m args below meth c T locs cells slots) (hx : p.tables.exec = Jvm.exec) {pc : Nat} {Ls : Array Slot} {z : Int32} {t : FieldType} {rest : List Value} (hret : meth.sig.returnType = some t) (hlk : meth.locks = false) (ht : t = .boolean ∨ t = .byte ∨ t = .char ∨ t = .short) (hd : decode c.code pc = .ok (.ireturn, 1)) (hC : cells ≤ C) (hS : slots ≤ S) (eT : T.heap = h) (hQ : Q (some (.int (nar t z))) h locs) :
    Go p e below s Q C S (T.setTop (mkF m pc Ls (.int z :: rest))) := by
  obtain ⟨fs, hr, hrun, hended, hW, hsame⟩ := X.leave (v := some (.int (nar t z))) (fun h => by rw [hret] at h; cases h) hlk
  exact ⟨_, _, Jvm.RoadKit.retN X hx hret ht hd hr, hrun, hended, _, _, rfl, (show Q (some (.int (nar t z))) T.heap locs from eT ▸ hQ), ⟨_, rfl⟩, hW, hsame.mono hC hS⟩
theorem Go.ret (X : Stand p l e R s m args below meth c T locs cells slots) (hx : p.tables.exec = Jvm.exec) {pc : Nat} {Ls : Array Slot} (hret : meth.sig.returnType = none) (hlk : meth.locks = false) (hd : decode c.code pc = .ok (.return_, 1)) (hC : cells ≤ C) (hS : slots ≤ S) (eT : T.heap = h) (hQ : Q none h locs) :
    Go p e below s Q C S (T.setTop (mkF m pc Ls [])) := by
  obtain ⟨fs, hr, hrun, hended, hW, hsame⟩ := X.leave (v := none) (fun _ => rfl) hlk
  exact ⟨_, _, X.returnOut hx hret hd hr, hrun, hended, _, _, rfl, (show Q none T.heap locs from eT ▸ hQ), ⟨_, rfl⟩, hW, hsame.mono hC hS⟩
theorem Go.retJ (X : Stand p l e R s m args below meth c T locs cells slots) (hx : p.tables.exec = Jvm.exec) {pc : Nat} {Ls : Array Slot} {z : Int64} {rest : List Value} (hret : meth.sig.returnType = some .long) (hlk : meth.locks = false) (hd : decode c.code pc = .ok (.lreturn, 1)) (hC : cells ≤ C) (hS : slots ≤ S) (eT : T.heap = h) (hQ : Q (some (.long z)) h locs) :
    Go p e below s Q C S (T.setTop (mkF m pc Ls (.long z :: rest))) := by
  obtain ⟨fs, hr, hrun, hended, hW, hsame⟩ := X.leave (v := some (.long z)) (fun h => by rw [hret] at h; cases h) hlk
  exact ⟨_, _, retOut X hx hret rfl (Or.inr (Or.inl ⟨rfl, rfl, _, rfl⟩)) hd hr, hrun, hended, _, _, rfl, (show Q (some (.long z)) T.heap locs from eT ▸ hQ), ⟨_, rfl⟩, hW, hsame.mono hC hS⟩
theorem Go.retA (X : Stand p l e R s m args below meth c T locs cells slots) (hx : p.tables.exec = Jvm.exec) {pc : Nat} {Ls : Array Slot} {z : Addr} {t : FieldType} {rest : List Value} (hret : meth.sig.returnType = some t) (hlk : meth.locks = false) (ht : t.isReference = true) (hd : decode c.code pc = .ok (.areturn, 1)) (hC : cells ≤ C) (hS : slots ≤ S) (eT : T.heap = h) (hQ : Q (some (.ref z)) h locs) :
    Go p e below s Q C S (T.setTop (mkF m pc Ls (.ref z :: rest))) := by
  obtain ⟨fs, hr, hrun, hended, hW, hsame⟩ := X.leave (v := some (.ref z)) (fun h => by rw [hret] at h; cases h) hlk
  exact ⟨_, _, retOut X hx hret (by cases t <;> first | rfl | cases ht) (Or.inr (Or.inr (Or.inr (Or.inr ⟨rfl, ht, rfl⟩)))) hd hr, hrun, hended, _, _, rfl, (show Q (some (.ref z)) T.heap locs from eT ▸ hQ), ⟨_, rfl⟩, hW, hsame.mono hC hS⟩
end OwnGo
theorem own_irr (x : Int32) : ¬ x < x := by rw [Int32.lt_iff_toInt_lt]; omega
theorem own_irrL (x : Int64) : ¬ x < x := by rw [Int64.lt_iff_toInt_lt]; omega
theorem own_lrem {p : Program} {l : Launch} {e : Env} {R : Room} {s : State} {m : MethodId} {args : Array Value} {below : List Frame} {meth : Method} {c : Code} {T target : State} {locs : List Loc} {cells slots : Nat} {g : JFrame} (X : Stand p l e R s m args below meth c T locs cells slots) (hx : p.tables.exec = Jvm.exec) (hg : g.method = m) {x y : Int64} {rest : List Value} (hd : decode c.code g.pc = .ok (.lrem, 1)) (hs : g.stack = .long y :: .long x :: rest) (hy : y ≠ 0)
    (hr : Steps p.tables e below (T.setTop { g with pc := g.pc + 1, stack := .long (x % y) :: rest }) target) : Steps p.tables e below (T.setTop g) target :=
  XS.lrem X.here hx hg hd hs hy (by rw [lrem_mod]; exact hr)
theorem own_int {c : Cell} {vs : List Value} {d : Value} {j z : Int32} (H : Has c vs d) (G : ∀ i, i < c.slots.size → fits .int (vs.getD i d) = true) (hin : ¬ (j < 0 ∨ c.slots.size ≤ j.toNatClampNeg)) : ∃ x : Int32, c.slots[j.toNatClampNeg]? = some (.int x) := by
  have hk : j.toNatClampNeg < c.slots.size := Nat.lt_of_not_le fun q => hin (Or.inr q)
  have h1 := H _ hk
  have h2 := G _ hk
  cases hv : vs.getD j.toNatClampNeg d with
  | int x => exact ⟨x, by rw [h1, hv]⟩
  | _ => rw [hv] at h2; simp [fits] at h2
theorem d1_0 : decode method_2_code 0 = .ok (.iload_n 0, 1) := by decide +kernel
theorem d1_1 : decode method_2_code 1 = .ok (.iconst 3, 1) := by decide +kernel
theorem d1_2 : decode method_2_code 2 = .ok (.iand, 1) := by decide +kernel
theorem d1_3 : decode method_2_code 3 = .ok (.ifCond .ne 8, 3) := by decide +kernel
theorem d1_6 : decode method_2_code 6 = .ok (.bipush 9, 2) := by decide +kernel
theorem d1_8 : decode method_2_code 8 = .ok (.goto 7, 3) := by decide +kernel
theorem d1_15 : decode method_2_code 15 = .ok (.ireturn, 1) := by decide +kernel
theorem d1_11 : decode method_2_code 11 = .ok (.iload_n 0, 1) := by decide +kernel
theorem d1_12 : decode method_2_code 12 = .ok (.iconst 2, 1) := by decide +kernel
theorem d1_13 : decode method_2_code 13 = .ok (.ishr, 1) := by decide +kernel
theorem d1_14 : decode method_2_code 14 = .ok (.i2b, 1) := by decide +kernel
theorem pn_com_example_dispatch_to_workers_dispatchtoworkers_mapreduce_LinesKeyEndPinLaw : plainName "com/example/dispatch_to_workers/dispatchtoworkers/mapreduce/LinesKeyEndPinLaw" = true := by first | (simp [plainName, overriddenIn]; done) | decide +kernel
theorem d3_0 : decode jdk_29_method_65_code 0 = .ok (.iload_n 0, 1) := by decide +kernel
theorem d3_1 : decode jdk_29_method_65_code 1 = .ok (.iload_n 1, 1) := by decide +kernel
theorem d3_2 : decode jdk_29_method_65_code 2 = .ok (.if_icmp .lt 7, 3) := by decide +kernel
theorem d3_9 : decode jdk_29_method_65_code 9 = .ok (.iload_n 1, 1) := by decide +kernel
theorem d3_10 : decode jdk_29_method_65_code 10 = .ok (.ireturn, 1) := by decide +kernel
theorem d3_5 : decode jdk_29_method_65_code 5 = .ok (.iload_n 0, 1) := by decide +kernel
theorem d3_6 : decode jdk_29_method_65_code 6 = .ok (.goto 4, 3) := by decide +kernel
theorem d2_0 : decode jdk_29_method_69_code 0 = .ok (.iload_n 0, 1) := by decide +kernel
theorem d2_1 : decode jdk_29_method_69_code 1 = .ok (.iload_n 1, 1) := by decide +kernel
theorem d2_2 : decode jdk_29_method_69_code 2 = .ok (.if_icmp .gt 7, 3) := by decide +kernel
theorem d2_9 : decode jdk_29_method_69_code 9 = .ok (.iload_n 1, 1) := by decide +kernel
theorem d2_10 : decode jdk_29_method_69_code 10 = .ok (.ireturn, 1) := by decide +kernel
theorem d2_5 : decode jdk_29_method_69_code 5 = .ok (.iload_n 0, 1) := by decide +kernel
theorem d2_6 : decode jdk_29_method_69_code 6 = .ok (.goto 4, 3) := by decide +kernel
theorem d4_0 : decode method_3_code 0 = .ok (.iload_n 1, 1) := by decide +kernel
theorem d4_1 : decode method_3_code 1 = .ok (.iload_n 2, 1) := by decide +kernel
theorem d4_2 : decode method_3_code 2 = .ok (.if_icmp .lt 20, 3) := by decide +kernel
theorem d4_22 : decode method_3_code 22 = .ok (.iconst 0, 1) := by decide +kernel
theorem d4_23 : decode method_3_code 23 = .ok (.ireturn, 1) := by decide +kernel
theorem d4_5 : decode method_3_code 5 = .ok (.iload_n 1, 1) := by decide +kernel
theorem d4_6 : decode method_3_code 6 = .ok (.iload_n 3, 1) := by decide +kernel
theorem d4_7 : decode method_3_code 7 = .ok (.if_icmp .ge 15, 3) := by decide +kernel
theorem d4_10 : decode method_3_code 10 = .ok (.aload_n 0, 1) := by decide +kernel
theorem d4_11 : decode method_3_code 11 = .ok (.iload_n 1, 1) := by decide +kernel
theorem d4_12 : decode method_3_code 12 = .ok (.baload, 1) := by decide +kernel
theorem d4_13 : decode method_3_code 13 = .ok (.bipush 9, 2) := by decide +kernel
theorem d4_15 : decode method_3_code 15 = .ok (.if_icmp .ne 7, 3) := by decide +kernel
theorem d4_18 : decode method_3_code 18 = .ok (.iconst 1, 1) := by decide +kernel
theorem d4_19 : decode method_3_code 19 = .ok (.goto 4, 3) := by decide +kernel
theorem d6_0 : decode prog_46_method_7_code 0 = .ok (.iload_n 1, 1) := by decide +kernel
theorem d6_1 : decode prog_46_method_7_code 1 = .ok (.istore 4, 2) := by decide +kernel
theorem d6_3 : decode prog_46_method_7_code 3 = .ok (.iload 4, 2) := by decide +kernel
theorem d6_5 : decode prog_46_method_7_code 5 = .ok (.iload_n 2, 1) := by decide +kernel
theorem d6_6 : decode prog_46_method_7_code 6 = .ok (.if_icmp .ge 17, 3) := by decide +kernel
theorem d6_9 : decode prog_46_method_7_code 9 = .ok (.aload_n 0, 1) := by decide +kernel
theorem d6_10 : decode prog_46_method_7_code 10 = .ok (.iload 4, 2) := by decide +kernel
theorem d6_12 : decode prog_46_method_7_code 12 = .ok (.baload, 1) := by decide +kernel
theorem d6_13 : decode prog_46_method_7_code 13 = .ok (.iload_n 3, 1) := by decide +kernel
theorem d6_14 : decode prog_46_method_7_code 14 = .ok (.if_icmp .eq 9, 3) := by decide +kernel
theorem d6_23 : decode prog_46_method_7_code 23 = .ok (.iload 4, 2) := by decide +kernel
theorem d6_25 : decode prog_46_method_7_code 25 = .ok (.iload_n 2, 1) := by decide +kernel
theorem d6_26 : decode prog_46_method_7_code 26 = .ok (.if_icmp .ge 8, 3) := by decide +kernel
theorem d6_29 : decode prog_46_method_7_code 29 = .ok (.iload 4, 2) := by decide +kernel
theorem d6_31 : decode prog_46_method_7_code 31 = .ok (.goto 4, 3) := by decide +kernel
theorem d6_35 : decode prog_46_method_7_code 35 = .ok (.ireturn, 1) := by decide +kernel
theorem d6_17 : decode prog_46_method_7_code 17 = .ok (.iinc 4 1, 3) := by decide +kernel
theorem d6_20 : decode prog_46_method_7_code 20 = .ok (.goto (-17), 3) := by decide +kernel
theorem d6_34 : decode prog_46_method_7_code 34 = .ok (.iconst (-1), 1) := by decide +kernel
theorem pn_com_example_dispatch_to_workers_dispatchtoworkers_mapreduce_Lines : plainName "com/example/dispatch_to_workers/dispatchtoworkers/mapreduce/Lines" = true := by first | (simp [plainName, overriddenIn]; done) | decide +kernel
theorem d5_0 : decode prog_46_method_3_code 0 = .ok (.aload_n 0, 1) := by decide +kernel
theorem d5_1 : decode prog_46_method_3_code 1 = .ok (.iload_n 1, 1) := by decide +kernel
theorem d5_2 : decode prog_46_method_3_code 2 = .ok (.iload_n 2, 1) := by decide +kernel
theorem d5_3 : decode prog_46_method_3_code 3 = .ok (.bipush 9, 2) := by decide +kernel
theorem d5_5 : decode prog_46_method_3_code 5 = .ok (.invokestatic 15, 3) := by decide +kernel
theorem pd_285bBIIB29I : parseMethodDescriptor "([BIIB)I" = some ⟨[(.array .byte), .int, .int, .byte], some .int⟩ := by decide +kernel
theorem d5_8 : decode prog_46_method_3_code 8 = .ok (.istore_n 3, 1) := by decide +kernel
theorem d5_9 : decode prog_46_method_3_code 9 = .ok (.iload_n 3, 1) := by decide +kernel
theorem d5_10 : decode prog_46_method_3_code 10 = .ok (.ifCond .ge 7, 3) := by decide +kernel
theorem d5_13 : decode prog_46_method_3_code 13 = .ok (.iload_n 2, 1) := by decide +kernel
theorem d5_14 : decode prog_46_method_3_code 14 = .ok (.goto 4, 3) := by decide +kernel
theorem d5_18 : decode prog_46_method_3_code 18 = .ok (.ireturn, 1) := by decide +kernel
theorem d5_17 : decode prog_46_method_3_code 17 = .ok (.iload_n 3, 1) := by decide +kernel
theorem pd_28I29B : parseMethodDescriptor "(I)B" = some ⟨[.int], some .byte⟩ := by decide +kernel
theorem pd_28II29I : parseMethodDescriptor "(II)I" = some ⟨[.int, .int], some .int⟩ := by decide +kernel
theorem pd_285bBIII29Z : parseMethodDescriptor "([BIII)Z" = some ⟨[(.array .byte), .int, .int, .int], some .boolean⟩ := by decide +kernel
theorem pd_285bBII29I : parseMethodDescriptor "([BII)I" = some ⟨[(.array .byte), .int, .int], some .int⟩ := by decide +kernel
section OwnBytes
variable {Z : State} {h h' : Heap} {a b : Addr} {n : Int} {f : Int32 → Int32} {ws : List Addr} {sl : Nat} {v : Value}
/-- at a lies a byte array of n places; place j holds f j -/
def own_By (Z : State) (h : Heap) (a : Addr) (n : Int) (f : Int32 → Int32) : Prop := ∃ c : Cell, Arr Z h a c .byte ∧ (c.slots.size : Int) = n ∧ ∀ j : Int32, ¬ j < 0 → j.toInt < n → c.slots[j.toNatClampNeg]? = some (.int (f j))
theorem own_By.ext (B : own_By Z h a n f) (E : Ext h h') : own_By Z h' a n f := by
  obtain ⟨c, A, r⟩ := B
  exact ⟨c, A.ext E, r⟩
theorem own_By.other (B : own_By Z h b n f) (W : Wr h h' a sl v) (q : b ≠ a) : own_By Z h' b n f := by
  obtain ⟨c, A, r⟩ := B
  exact ⟨c, A.other W q, r⟩
theorem own_By.keep (B : own_By Z h a n f) (K : Keep h h' ws) (q : a ∉ ws) : own_By Z h' a n f := by
  obtain ⟨c, A, r⟩ := B
  exact ⟨c, ⟨K.2.1 a c A.1 q, A.2⟩, r⟩
theorem own_By.lt (B : own_By Z h a n f) : a < h.size := by
  obtain ⟨c, A, r⟩ := B
  exact A.lt
theorem own_nneg {j : Int32} (h : ¬ j < 0) : 0 ≤ j.toInt := by
  rw [Int32.lt_iff_toInt_lt] at h
  have e0 : (0 : Int32).toInt = 0 := rfl
  omega
theorem own_by_in {c : Cell} {j : Int32} (hs : (c.slots.size : Int) = n) (h1 : ¬ j < 0) (h2 : j.toInt < n) : ¬ (j < 0 ∨ c.slots.size ≤ j.toNatClampNeg) := by
  have h3 := own_nneg h1
  rintro (q | q)
  · exact h1 q
  · simp only [Int32.toNatClampNeg] at q
    omega
def own_iv (v : Value) : Int32 := match v with
  | .int x => x
  | _ => 0
theorem own_by_of {k : ClassId} {z : Int32} {vs : List Value} {d : Value} (V : Arv Z h a k .byte z vs d) (hz : z.toInt = n) : ∃ f, own_By Z h a n f := by
  obtain ⟨c, A, -, S, M, H, G⟩ := V
  have h3 := own_nneg M
  have hs : (c.slots.size : Int) = n := by
    rw [S]
    simp only [Int32.toNatClampNeg]
    omega
  refine ⟨fun j => own_iv (vs.getD j.toNatClampNeg d), c, A, hs, fun j h1 h2 => ?_⟩
  have hk : j.toNatClampNeg < c.slots.size := Nat.lt_of_not_le fun q => own_by_in hs h1 h2 (Or.inr q)
  have e1 := H _ hk
  have e2 := G _ hk
  rw [e1]
  show some (vs.getD j.toNatClampNeg d) = some (.int (own_iv (vs.getD j.toNatClampNeg d)))
  cases hv : vs.getD j.toNatClampNeg d with
  | int x => rfl
  | _ => rw [hv] at e2; simp [fits] at e2
end OwnBytes
theorem own_inc {i p : Int32} (h : i < p) : (i + (1 : Int32)).toInt = i.toInt + 1 := by
  have h1 := c_iadd i (1 : Int32)
  have h2 := rng32 p
  have h3 := rng32 i
  have h4 := rng32 (i + (1 : Int32))
  have e1 : (1 : Int32).toInt = 1 := rfl
  rw [Int32.lt_iff_toInt_lt] at h
  omega
theorem own_intB {c : Cell} {vs : List Value} {d : Value} {j z : Int32} (H : Has c vs d) (G : ∀ i, i < c.slots.size → fits .byte (vs.getD i d) = true) (hin : ¬ (j < 0 ∨ c.slots.size ≤ j.toNatClampNeg)) : ∃ x : Int32, c.slots[j.toNatClampNeg]? = some (.int x) := by
  have hk : j.toNatClampNeg < c.slots.size := Nat.lt_of_not_le fun q => hin (Or.inr q)
  have h1 := H _ hk
  have h2 := G _ hk
  cases hv : vs.getD j.toNatClampNeg d with
  | int x => exact ⟨x, by rw [h1, hv]⟩
  | _ => rw [hv] at h2; simp [fits] at h2
def own_upd (f : Int32 → Int32) (j x : Int32) : Int32 → Int32 := fun i => if i = j then x else f i
theorem own_upd1 {f : Int32 → Int32} {j x i : Int32} (h : i = j) : own_upd f j x i = x := if_pos h
theorem own_upd0 {f : Int32 → Int32} {j x i : Int32} (h : ¬ i = j) : own_upd f j x i = f i := if_neg h
theorem own_By.set {Z : State} {h h' : Heap} {a : Addr} {n : Int} {f : Int32 → Int32} {j x : Int32} (B : own_By Z h a n f) (hj : ¬ j < 0) (W : Wr h h' a j.toNatClampNeg (.int x)) : own_By Z h' a n (own_upd f j x) := by
  obtain ⟨c, A, S, H⟩ := B
  refine ⟨_, A.same W, by rw [sz_set]; exact S, fun i h1 h2 => ?_⟩
  by_cases q : i = j
  · rw [own_upd1 q]
    refine get_hit ?_ q
    subst q
    exact own_by_in S h1 h2
  · rw [own_upd0 q, get_miss hj h1 q]
    exact H i h1 h2

/-- r is the first place from a up to b (excluded) that holds v, or -1 where there is none -/
def own_first (f : Int32 → Int32) (a b v r : Int32) : Prop := (r = (-1 : Int32) ∧ ∀ j : Int32, a.toInt ≤ j.toInt → j.toInt < b.toInt → ¬ f j = v) ∨ (a.toInt ≤ r.toInt ∧ r.toInt < b.toInt ∧ f r = v ∧ ∀ j : Int32, a.toInt ≤ j.toInt → j.toInt < r.toInt → ¬ f j = v)
def own_hit (f : Int32 → Int32) (i a b v : Int32) : Prop := ¬ i < a ∧ i < b ∧ f i = v
theorem own_uni {f : Int32 → Int32} {a b v r t : Int32} (ha : ¬ a < 0) (h1 : own_first f a b v r) (h2 : own_first f a b v t) : r = t := by
  have h0 := own_nneg ha
  have em : (-1 : Int32).toInt = -1 := rfl
  rcases h1 with ⟨q1, q2⟩ | ⟨q1, q2, q3, q4⟩ <;> rcases h2 with ⟨r1, r2⟩ | ⟨r1, r2, r3, r4⟩
  · rw [q1, r1]
  · exact absurd r3 (q2 _ r1 r2)
  · exact absurd q3 (r2 _ q1 q2)
  · refine Int32.toInt_inj.mp ?_
    rcases Int.lt_trichotomy r.toInt t.toInt with q | q | q
    · exact absurd q3 (r4 _ q1 q)
    · exact q
    · exact absurd r3 (q4 _ r1 q)

theorem own_h0 {p : Prop} {r : Int32} (hr : (p ∧ r = (1 : Int32)) ∨ (¬ p ∧ r = (0 : Int32))) (h : ¬ p) : r = (0 : Int32) := hr.elim (fun q => absurd q.1 h) (fun q => q.2)
theorem own_h1 {p : Prop} {r : Int32} (hr : (p ∧ r = (1 : Int32)) ∨ (¬ p ∧ r = (0 : Int32))) (h : p) : r = (1 : Int32) := hr.elim (fun q => q.2) (fun q => absurd h q.1)
theorem own_l1 {i p2 : Int32} {n : Nat} (h : i < p2) (hm : (p2.toInt - i.toInt).toNat < n + 1) : (p2.toInt - (i + (1 : Int32)).toInt).toNat < n := by
  rw [own_inc h]
  rw [Int32.lt_iff_toInt_lt] at h
  omega
theorem own_l2 {i p1 p2 : Int32} (h : i < p2) (h2 : p1.toInt ≤ i.toInt) : p1.toInt ≤ (i + (1 : Int32)).toInt := by
  rw [own_inc h]
  omega
theorem own_l3 {i p1 p2 v : Int32} {f : Int32 → Int32} (h : i < p2) (hne : ¬ f i = v) (h3 : ∀ j : Int32, p1.toInt ≤ j.toInt → j.toInt < i.toInt → ¬ f j = v) : ∀ j : Int32, p1.toInt ≤ j.toInt → j.toInt < (i + (1 : Int32)).toInt → ¬ f j = v := by
  intro j q1 q2
  rw [own_inc h] at q2
  by_cases q : j.toInt < i.toInt
  · exact h3 j q1 q
  · have : j = i := Int32.toInt_inj.mp (by omega)
    rw [this]
    exact hne
theorem own_ge {a i : Int32} (h : ¬ a < 0) (h2 : a.toInt ≤ i.toInt) : ¬ i < 0 := by
  have h3 := own_nneg h
  rw [Int32.lt_iff_toInt_lt]
  have e0 : (0 : Int32).toInt = 0 := rfl
  omega
theorem own_lt4 {i b : Int32} (h : i < b) (h2 : b.toInt ≤ 4) : i.toInt < 4 := by
  rw [Int32.lt_iff_toInt_lt] at h
  omega
theorem own_f0 {f : Int32 → Int32} {a b v i : Int32} (h : ¬ i < b) (h3 : ∀ j : Int32, a.toInt ≤ j.toInt → j.toInt < i.toInt → ¬ f j = v) : own_first f a b v (-1 : Int32) := by
  rw [Int32.lt_iff_toInt_lt] at h
  exact Or.inl ⟨rfl, fun j q1 q2 => h3 j q1 (by omega)⟩
theorem own_f1 {f : Int32 → Int32} {a b v i : Int32} (h : i < b) (h2 : a.toInt ≤ i.toInt) (he : f i = v) (h3 : ∀ j : Int32, a.toInt ≤ j.toInt → j.toInt < i.toInt → ¬ f j = v) : own_first f a b v i := by
  rw [Int32.lt_iff_toInt_lt] at h
  exact Or.inr ⟨h2, h, he, h3⟩

/-- e: the first place from k on (and from a up to b, excluded) that holds v, or b where there is none -/
def own_exp (f : Int32 → Int32) (a b v : Int32) (k : Int) (e : Int32) : Prop := (e = b ∧ ∀ j : Int32, k ≤ j.toInt → a.toInt ≤ j.toInt → j.toInt < b.toInt → ¬ f j = v) ∨ (k ≤ e.toInt ∧ a.toInt ≤ e.toInt ∧ e.toInt < b.toInt ∧ f e = v ∧ ∀ j : Int32, k ≤ j.toInt → a.toInt ≤ j.toInt → j.toInt < e.toInt → ¬ f j = v)
theorem own_e4 {f : Int32 → Int32} {a b v : Int32} (hb : b.toInt ≤ 4) : own_exp f a b v 4 b := Or.inl ⟨rfl, fun j q1 q2 q3 => by omega⟩
theorem own_eY {f : Int32 → Int32} {a b v i : Int32} {k : Int} (hk : i.toInt = k) (h : own_hit f i a b v) : own_exp f a b v k i := by
  obtain ⟨h1, h2, h3⟩ := h
  rw [Int32.lt_iff_toInt_lt] at h1 h2
  exact Or.inr ⟨by omega, by omega, h2, h3, fun j q1 q2 q3 => by omega⟩
theorem own_eN {f : Int32 → Int32} {a b v i e : Int32} {k : Int} (hk : i.toInt = k) (h : ¬ own_hit f i a b v) (he : own_exp f a b v (k + 1) e) : own_exp f a b v k e := by
  have hi : ∀ j : Int32, j.toInt = k → a.toInt ≤ j.toInt → j.toInt < b.toInt → ¬ f j = v := fun j q1 q2 q3 q4 => by
    have : j = i := Int32.toInt_inj.mp (by omega)
    subst this
    exact h ⟨by rw [Int32.lt_iff_toInt_lt]; omega, by rw [Int32.lt_iff_toInt_lt]; omega, q4⟩
  rcases he with ⟨r1, r2⟩ | ⟨r1, r2, r3, r4, r5⟩
  · refine Or.inl ⟨r1, fun j q1 q2 q3 => ?_⟩
    by_cases q : j.toInt = k
    · exact hi j q q2 q3
    · exact r2 j (by omega) q2 q3
  · refine Or.inr ⟨by omega, r2, r3, r4, fun j q1 q2 q3 => ?_⟩
    by_cases q : j.toInt = k
    · exact hi j q q2 (by omega)
    · exact r5 j (by omega) q2 q3
theorem own_ke0 {f : Int32 → Int32} {a b v r : Int32} (ha : ¬ a < 0) (h : own_first f a b v r) (hr : r < (0 : Int32)) : own_exp f a b v 0 b := by
  have h0 := own_nneg ha
  rw [Int32.lt_iff_toInt_lt, show (0 : Int32).toInt = 0 from rfl] at hr
  rcases h with ⟨-, q⟩ | ⟨q1, -⟩
  · exact Or.inl ⟨rfl, fun j _ q2 q3 => q j q2 q3⟩
  · omega
theorem own_ke1 {f : Int32 → Int32} {a b v r : Int32} (ha : ¬ a < 0) (h : own_first f a b v r) (hr : ¬ r < (0 : Int32)) : own_exp f a b v 0 r := by
  have h0 := own_nneg ha
  have h1 := own_nneg hr
  rcases h with ⟨q, -⟩ | ⟨q1, q2, q3, q4⟩
  · rw [q] at hr
    exact absurd (by decide) hr
  · exact Or.inr ⟨h1, q1, q2, q3, fun j _ r2 r3 => q4 j r2 r3⟩
theorem own_uni2 {f : Int32 → Int32} {a b v r t : Int32} (ha : ¬ a < 0) (h1 : own_exp f a b v 0 r) (h2 : own_exp f a b v 0 t) : r = t := by
  have h0 := own_nneg ha
  rcases h1 with ⟨q1, q2⟩ | ⟨q0, q1, q2, q3, q4⟩ <;> rcases h2 with ⟨r1, r2⟩ | ⟨r0, r1, r2, r3, r4⟩
  · rw [q1, r1]
  · exact absurd r3 (q2 _ r0 r1 r2)
  · exact absurd q3 (r2 _ q0 q1 q2)
  · refine Int32.toInt_inj.mp ?_
    rcases Int.lt_trichotomy r.toInt t.toInt with q | q | q
    · exact absurd q3 (r4 _ q0 q1 q)
    · exact q
    · exact absurd r3 (q4 _ r0 r1 q)
theorem own_m5 (x : Int32) : 0 ≤ ((x &&& (2147483647 : Int32)) % (5 : Int32)).toInt ∧ ((x &&& (2147483647 : Int32)) % (5 : Int32)).toInt ≤ 4 := by
  have h1 := c_mask x (2147483647 : Int32) 31 (by decide) (by decide)
  have h2 := (c_irem (x &&& (2147483647 : Int32)) (5 : Int32) 5 rfl).1
  omega
theorem own_nn {j : Int32} (h : 0 ≤ j.toInt) : ¬ j < 0 := by
  rw [Int32.lt_iff_toInt_lt, show (0 : Int32).toInt = 0 from rfl]
  omega

theorem own_hN {p : Prop} {r : Int32} (hr : (p ∧ r = (1 : Int32)) ∨ (¬ p ∧ r = (0 : Int32))) (h : r = (0 : Int32)) : ¬ p := hr.elim (fun q => absurd (q.2.symm.trans h) (by decide)) (fun q => q.1)
theorem own_hY {p : Prop} {r : Int32} (hr : (p ∧ r = (1 : Int32)) ∨ (¬ p ∧ r = (0 : Int32))) (h : ¬ r = (0 : Int32)) : p := hr.elim (fun q => q.1) (fun q => absurd q.2 h)

theorem ef_rm1 (m : MethodId) (x0 : Int32) : entryFrame m #[(.int x0)] 1 = mkF m 0 #[.val (.int x0)] [] := by first | (simp [entryFrame, mkF, argsToLocals, Value.category]; done) | rfl
def Q1 (Z : State) (p0 : Int32) (h0 : Heap) (n0 : Nat) (v : Option Value) (h : Heap) (L : List Loc) : Prop := ∃ r : Int32, v = some (.int r) ∧ Fr n0 L ∧ h = h0
set_option maxRecDepth 65536 in
set_option maxHeartbeats 40000000 in
theorem rm1 (l : Launch) (Z : State) (aw : Array Value) (hw : ∀ d ∈ tables_1, d.before aw Z = true) (ws : List Jvm.Cond) (p0 : Int32) (h0 : Heap) (n0 : Nat) (Z0 : n0 ≤ h0.size) :
    MetFree l (⟨"com/example/dispatch_to_workers/dispatchtoworkers/mapreduce/LinesKeyEndPinLaw", "draw", "(I)B"⟩ : MethodName) (head1 (Jvm.Cond.code (⟨"com/example/dispatch_to_workers/dispatchtoworkers/mapreduce/LinesKeyEndPinLaw", "draw", "(I)B"⟩ : MethodName) method_2_code 1 (some .byte) :: ws) ({ frames := 0, cells := 0, slots := 0, locals := 0 } : Room)) (fun a U => a = #[(.int p0)] ∧ Z.Warmed39 U.vm ∧ U.heap = h0) (fun _ _ _ _ _ => True) (fun _ U o U' => ∃ v L, o = .returned v ∧ Q1 Z p0 h0 n0 v U'.heap L ∧ FrameEnd U o U' L ({ frames := 0, cells := 0, slots := 0, locals := 0 } : Room).cells ({ frames := 0, cells := 0, slots := 0, locals := 0 } : Room).slots) := by
  refine MetFree.of_bodySF (plainFor_of_name pn_com_example_dispatch_to_workers_dispatchtoworkers_mapreduce_LinesKeyEndPinLaw) hisR ?_
  intro p e s m args below meth c s₁ Bd hml0 hP hK
  obtain ⟨rfl, hZ, hh⟩ := hP
  have hx := Bd.exec
  have hby := Bd.bytes
  have hml : c.maxLocals = 1 := hml0
  have hown : s.vm.findClass "com/example/dispatch_to_workers/dispatchtoworkers/mapreduce/LinesKeyEndPinLaw" = some m.cls := findClass_of_methodNamed Bd.named
  have hnm := (name_of_methodNamed Bd.named Bd.method).1
  have X0 : Stand p l e ({ frames := 0, cells := 0, slots := 0, locals := 0 } : Room) s m #[(.int p0)] below meth c s₁ [] 0 0 := Stand.of_body Bd
  have e0 : s₁.heap = h0 := by rw [← hh, Bd.state]; rfl
  have N0 := Fr.nil n0
  refine own_go (Q := Q1 Z p0 h0 n0) ?_
  refine Go.to (g' := (mkF m 0 #[.val (.int p0)] [])) (fun t k => castTop (ef_rm1 m p0) k) ?_
  refine Go.to (g' := (mkF m 1 #[.val (.int p0)] [(.int p0)])) (fun t k => XS.iloadN X0.here hx rfl (hb hby d1_0) rfl k) ?_
  refine Go.to (g' := (mkF m 2 #[.val (.int p0)] [(.int (3 : Int32)), (.int p0)])) (fun t k => XS.iconst X0.here hx rfl (hb hby d1_1) k) ?_
  refine Go.to (g' := (mkF m 3 #[.val (.int p0)] [(.int (p0 &&& (3 : Int32)))])) (fun t k => XS.iand X0.here hx rfl (hb hby d1_2) rfl k) ?_
  by_cases c1 : (p0 &&& (3 : Int32)) = (0 : Int32)
  · refine Go.to (g' := (mkF m 6 #[.val (.int p0)] [])) (fun t k => XS.ifNo X0.here hx rfl (hb hby d1_3) rfl ((if0 _ _).trans (teq c1).2) k) ?_
    refine Go.to (g' := (mkF m 8 #[.val (.int p0)] [(.int (9 : Int32))])) (fun t k => XS.bipush X0.here hx rfl (hb hby d1_6) k) ?_
    refine Go.to (g' := (mkF m 15 #[.val (.int p0)] [(.int (9 : Int32))])) (fun t k => XS.goto X0.here hx rfl (pc0 := 8) (pc' := 15) rfl (hb hby d1_8) (by decide) (by decide) k) ?_
    exact Go.retN X0 hx (t := .byte) Bd.returns Bd.notSynchronized (by simp) (hb hby d1_15) (by decide) (by decide) e0 ⟨_, rfl, N0, rfl⟩
  · refine Go.to (g' := (mkF m 11 #[.val (.int p0)] [])) (fun t k => XS.ifYes X0.here hx rfl (pc0 := 3) (pc' := 11) rfl (hb hby d1_3) rfl ((if0 _ _).trans (feq c1).2) (by decide) (by decide) k) ?_
    refine Go.to (g' := (mkF m 12 #[.val (.int p0)] [(.int p0)])) (fun t k => XS.iloadN X0.here hx rfl (hb hby d1_11) rfl k) ?_
    refine Go.to (g' := (mkF m 13 #[.val (.int p0)] [(.int (2 : Int32)), (.int p0)])) (fun t k => XS.iconst X0.here hx rfl (hb hby d1_12) k) ?_
    refine Go.to (g' := (mkF m 14 #[.val (.int p0)] [(.int (p0 >>> ((2 : Int32) &&& 31)))])) (fun t k => XS.ishr X0.here hx rfl (hb hby d1_13) rfl k) ?_
    refine Go.to (g' := (mkF m 15 #[.val (.int p0)] [(.int ((p0 >>> ((2 : Int32) &&& 31)).toInt8.toInt32))])) (fun t k => XS.i2b X0.here hx rfl (hb hby d1_14) rfl k) ?_
    exact Go.retN X0 hx (t := .byte) Bd.returns Bd.notSynchronized (by simp) (hb hby d1_15) (by decide) (by decide) e0 ⟨_, rfl, N0, rfl⟩

theorem ef_rm3 (m : MethodId) (x0 : Int32) (x1 : Int32) : entryFrame m #[(.int x0), (.int x1)] 2 = mkF m 0 #[.val (.int x0), .val (.int x1)] [] := by first | (simp [entryFrame, mkF, argsToLocals, Value.category]; done) | rfl
def Q3 (Z : State) (p0 : Int32) (p1 : Int32) (h0 : Heap) (n0 : Nat) (v : Option Value) (h : Heap) (L : List Loc) : Prop := v = some (.int (if p0 < p1 then p1 else p0)) ∧ Fr n0 L ∧ h = h0
set_option maxRecDepth 65536 in
set_option maxHeartbeats 40000000 in
theorem rm3 (l : Launch) (Z : State) (aw : Array Value) (hw : ∀ d ∈ tables_1, d.before aw Z = true) (ws : List Jvm.Cond) (p0 : Int32) (p1 : Int32) (h0 : Heap) (n0 : Nat) (Z0 : n0 ≤ h0.size) :
    MetFree l (⟨"java/lang/Math", "max", "(II)I"⟩ : MethodName) (head1 (Jvm.Cond.code (⟨"java/lang/Math", "max", "(II)I"⟩ : MethodName) jdk_29_method_65_code 2 (some .int) :: ws) ({ frames := 0, cells := 0, slots := 0, locals := 0 } : Room)) (fun a U => a = #[(.int p0), (.int p1)] ∧ Z.Warmed39 U.vm ∧ U.heap = h0) (fun _ _ _ _ _ => True) (fun _ U o U' => ∃ v L, o = .returned v ∧ Q3 Z p0 p1 h0 n0 v U'.heap L ∧ FrameEnd U o U' L ({ frames := 0, cells := 0, slots := 0, locals := 0 } : Room).cells ({ frames := 0, cells := 0, slots := 0, locals := 0 } : Room).slots) := by
  refine MetFree.of_bodySF (Jvm.Free.JP.mathPlain rfl (by decide +kernel)) hisR ?_
  intro p e s m args below meth c s₁ Bd hml0 hP hK
  obtain ⟨rfl, hZ, hh⟩ := hP
  have hx := Bd.exec
  have hby := Bd.bytes
  have hml : c.maxLocals = 2 := hml0
  have hown : s.vm.findClass "java/lang/Math" = some m.cls := findClass_of_methodNamed Bd.named
  have hnm := (name_of_methodNamed Bd.named Bd.method).1
  have X0 : Stand p l e ({ frames := 0, cells := 0, slots := 0, locals := 0 } : Room) s m #[(.int p0), (.int p1)] below meth c s₁ [] 0 0 := Stand.of_body Bd
  have e0 : s₁.heap = h0 := by rw [← hh, Bd.state]; rfl
  have N0 := Fr.nil n0
  refine own_go (Q := Q3 Z p0 p1 h0 n0) ?_
  refine Go.to (g' := (mkF m 0 #[.val (.int p0), .val (.int p1)] [])) (fun t k => castTop (ef_rm3 m p0 p1) k) ?_
  refine Go.to (g' := (mkF m 1 #[.val (.int p0), .val (.int p1)] [(.int p0)])) (fun t k => XS.iloadN X0.here hx rfl (hb hby d3_0) rfl k) ?_
  refine Go.to (g' := (mkF m 2 #[.val (.int p0), .val (.int p1)] [(.int p1), (.int p0)])) (fun t k => XS.iloadN X0.here hx rfl (hb hby d3_1) rfl k) ?_
  by_cases c1 : p0 < p1
  · refine Go.to (g' := (mkF m 9 #[.val (.int p0), .val (.int p1)] [])) (fun t k => XS.icmpYes X0.here hx rfl (pc0 := 2) (pc' := 9) rfl (hb hby d3_2) rfl (tlt c1).1 (by decide) (by decide) k) ?_
    refine Go.to (g' := (mkF m 10 #[.val (.int p0), .val (.int p1)] [(.int p1)])) (fun t k => XS.iloadN X0.here hx rfl (hb hby d3_9) rfl k) ?_
    exact Go.retI X0 hx Bd.returns Bd.notSynchronized (hb hby d3_10) (by decide) (by decide) e0 ⟨by rw [if_pos c1], N0, rfl⟩
  · refine Go.to (g' := (mkF m 5 #[.val (.int p0), .val (.int p1)] [])) (fun t k => XS.icmpNo X0.here hx rfl (hb hby d3_2) rfl (flt c1).1 k) ?_
    refine Go.to (g' := (mkF m 6 #[.val (.int p0), .val (.int p1)] [(.int p0)])) (fun t k => XS.iloadN X0.here hx rfl (hb hby d3_5) rfl k) ?_
    refine Go.to (g' := (mkF m 10 #[.val (.int p0), .val (.int p1)] [(.int p0)])) (fun t k => XS.goto X0.here hx rfl (pc0 := 6) (pc' := 10) rfl (hb hby d3_6) (by decide) (by decide) k) ?_
    exact Go.retI X0 hx Bd.returns Bd.notSynchronized (hb hby d3_10) (by decide) (by decide) e0 ⟨by rw [if_neg c1], N0, rfl⟩

theorem ef_rm2 (m : MethodId) (x0 : Int32) (x1 : Int32) : entryFrame m #[(.int x0), (.int x1)] 2 = mkF m 0 #[.val (.int x0), .val (.int x1)] [] := by first | (simp [entryFrame, mkF, argsToLocals, Value.category]; done) | rfl
def Q2 (Z : State) (p0 : Int32) (p1 : Int32) (h0 : Heap) (n0 : Nat) (v : Option Value) (h : Heap) (L : List Loc) : Prop := v = some (.int (if p1 < p0 then p1 else p0)) ∧ Fr n0 L ∧ h = h0
set_option maxRecDepth 65536 in
set_option maxHeartbeats 40000000 in
theorem rm2 (l : Launch) (Z : State) (aw : Array Value) (hw : ∀ d ∈ tables_1, d.before aw Z = true) (ws : List Jvm.Cond) (p0 : Int32) (p1 : Int32) (h0 : Heap) (n0 : Nat) (Z0 : n0 ≤ h0.size) :
    MetFree l (⟨"java/lang/Math", "min", "(II)I"⟩ : MethodName) (head1 (Jvm.Cond.code (⟨"java/lang/Math", "min", "(II)I"⟩ : MethodName) jdk_29_method_69_code 2 (some .int) :: ws) ({ frames := 0, cells := 0, slots := 0, locals := 0 } : Room)) (fun a U => a = #[(.int p0), (.int p1)] ∧ Z.Warmed39 U.vm ∧ U.heap = h0) (fun _ _ _ _ _ => True) (fun _ U o U' => ∃ v L, o = .returned v ∧ Q2 Z p0 p1 h0 n0 v U'.heap L ∧ FrameEnd U o U' L ({ frames := 0, cells := 0, slots := 0, locals := 0 } : Room).cells ({ frames := 0, cells := 0, slots := 0, locals := 0 } : Room).slots) := by
  refine MetFree.of_bodySF (Jvm.Free.JP.mathPlain rfl (by decide +kernel)) hisR ?_
  intro p e s m args below meth c s₁ Bd hml0 hP hK
  obtain ⟨rfl, hZ, hh⟩ := hP
  have hx := Bd.exec
  have hby := Bd.bytes
  have hml : c.maxLocals = 2 := hml0
  have hown : s.vm.findClass "java/lang/Math" = some m.cls := findClass_of_methodNamed Bd.named
  have hnm := (name_of_methodNamed Bd.named Bd.method).1
  have X0 : Stand p l e ({ frames := 0, cells := 0, slots := 0, locals := 0 } : Room) s m #[(.int p0), (.int p1)] below meth c s₁ [] 0 0 := Stand.of_body Bd
  have e0 : s₁.heap = h0 := by rw [← hh, Bd.state]; rfl
  have N0 := Fr.nil n0
  refine own_go (Q := Q2 Z p0 p1 h0 n0) ?_
  refine Go.to (g' := (mkF m 0 #[.val (.int p0), .val (.int p1)] [])) (fun t k => castTop (ef_rm2 m p0 p1) k) ?_
  refine Go.to (g' := (mkF m 1 #[.val (.int p0), .val (.int p1)] [(.int p0)])) (fun t k => XS.iloadN X0.here hx rfl (hb hby d2_0) rfl k) ?_
  refine Go.to (g' := (mkF m 2 #[.val (.int p0), .val (.int p1)] [(.int p1), (.int p0)])) (fun t k => XS.iloadN X0.here hx rfl (hb hby d2_1) rfl k) ?_
  by_cases c1 : p1 < p0
  · refine Go.to (g' := (mkF m 9 #[.val (.int p0), .val (.int p1)] [])) (fun t k => XS.icmpYes X0.here hx rfl (pc0 := 2) (pc' := 9) rfl (hb hby d2_2) rfl (tlt c1).2.2.1 (by decide) (by decide) k) ?_
    refine Go.to (g' := (mkF m 10 #[.val (.int p0), .val (.int p1)] [(.int p1)])) (fun t k => XS.iloadN X0.here hx rfl (hb hby d2_9) rfl k) ?_
    exact Go.retI X0 hx Bd.returns Bd.notSynchronized (hb hby d2_10) (by decide) (by decide) e0 ⟨by rw [if_pos c1], N0, rfl⟩
  · refine Go.to (g' := (mkF m 5 #[.val (.int p0), .val (.int p1)] [])) (fun t k => XS.icmpNo X0.here hx rfl (hb hby d2_2) rfl (flt c1).2.2.1 k) ?_
    refine Go.to (g' := (mkF m 6 #[.val (.int p0), .val (.int p1)] [(.int p0)])) (fun t k => XS.iloadN X0.here hx rfl (hb hby d2_5) rfl k) ?_
    refine Go.to (g' := (mkF m 10 #[.val (.int p0), .val (.int p1)] [(.int p0)])) (fun t k => XS.goto X0.here hx rfl (pc0 := 6) (pc' := 10) rfl (hb hby d2_6) (by decide) (by decide) k) ?_
    exact Go.retI X0 hx Bd.returns Bd.notSynchronized (hb hby d2_10) (by decide) (by decide) e0 ⟨by rw [if_neg c1], N0, rfl⟩

theorem ef_rm4 (m : MethodId) (x0 : Addr) (x1 : Int32) (x2 : Int32) (x3 : Int32) : entryFrame m #[(.ref x0), (.int x1), (.int x2), (.int x3)] 4 = mkF m 0 #[.val (.ref x0), .val (.int x1), .val (.int x2), .val (.int x3)] [] := by first | (simp [entryFrame, mkF, argsToLocals, Value.category]; done) | rfl
def Q4 (Z : State) (a0 : Addr) (i : Int32) (lo : Int32) (hi : Int32) (f : Int32 → Int32) (r : Int32) (h0 : Heap) (n0 : Nat) (v : Option Value) (h : Heap) (L : List Loc) : Prop := v = some (.int r) ∧ Fr n0 L ∧ h = h0
set_option maxRecDepth 65536 in
set_option maxHeartbeats 40000000 in
theorem rm4 (l : Launch) (Z : State) (aw : Array Value) (hw : ∀ d ∈ tables_1, d.before aw Z = true) (ws : List Jvm.Cond) (a0 : Addr) (i : Int32) (lo : Int32) (hi : Int32) (f : Int32 → Int32) (r : Int32) (h0 : Heap) (n0 : Nat) (Z0 : n0 ≤ h0.size) (B : own_By Z h0 a0 4 f) (hi0 : ¬ i < 0) (hi4 : i.toInt < 4) (hr : (own_hit f i lo hi (9 : Int32) ∧ r = (1 : Int32)) ∨ (¬ own_hit f i lo hi (9 : Int32) ∧ r = (0 : Int32))) :
    MetFree l (⟨"com/example/dispatch_to_workers/dispatchtoworkers/mapreduce/LinesKeyEndPinLaw", "tabAt", "([BIII)Z"⟩ : MethodName) (head1 (Jvm.Cond.code (⟨"com/example/dispatch_to_workers/dispatchtoworkers/mapreduce/LinesKeyEndPinLaw", "tabAt", "([BIII)Z"⟩ : MethodName) method_3_code 4 (some .boolean) :: ws) ({ frames := 0, cells := 0, slots := 0, locals := 0 } : Room)) (fun a U => a = #[(.ref a0), (.int i), (.int lo), (.int hi)] ∧ Z.Warmed39 U.vm ∧ U.heap = h0) (fun _ _ _ _ _ => True) (fun _ U o U' => ∃ v L, o = .returned v ∧ Q4 Z a0 i lo hi f r h0 n0 v U'.heap L ∧ FrameEnd U o U' L ({ frames := 0, cells := 0, slots := 0, locals := 0 } : Room).cells ({ frames := 0, cells := 0, slots := 0, locals := 0 } : Room).slots) := by
  refine MetFree.of_bodySF (plainFor_of_name pn_com_example_dispatch_to_workers_dispatchtoworkers_mapreduce_LinesKeyEndPinLaw) hisR ?_
  intro p e s m args below meth c s₁ Bd hml0 hP hK
  obtain ⟨rfl, hZ, hh⟩ := hP
  have hx := Bd.exec
  have hby := Bd.bytes
  have hml : c.maxLocals = 4 := hml0
  have hown : s.vm.findClass "com/example/dispatch_to_workers/dispatchtoworkers/mapreduce/LinesKeyEndPinLaw" = some m.cls := findClass_of_methodNamed Bd.named
  have hnm := (name_of_methodNamed Bd.named Bd.method).1
  have X0 : Stand p l e ({ frames := 0, cells := 0, slots := 0, locals := 0 } : Room) s m #[(.ref a0), (.int i), (.int lo), (.int hi)] below meth c s₁ [] 0 0 := Stand.of_body Bd
  have e0 : s₁.heap = h0 := by rw [← hh, Bd.state]; rfl
  have N0 := Fr.nil n0
  refine own_go (Q := Q4 Z a0 i lo hi f r h0 n0) ?_
  refine Go.to (g' := (mkF m 0 #[.val (.ref a0), .val (.int i), .val (.int lo), .val (.int hi)] [])) (fun t k => castTop (ef_rm4 m a0 i lo hi) k) ?_
  refine Go.to (g' := (mkF m 1 #[.val (.ref a0), .val (.int i), .val (.int lo), .val (.int hi)] [(.int i)])) (fun t k => XS.iloadN X0.here hx rfl (hb hby d4_0) rfl k) ?_
  refine Go.to (g' := (mkF m 2 #[.val (.ref a0), .val (.int i), .val (.int lo), .val (.int hi)] [(.int lo), (.int i)])) (fun t k => XS.iloadN X0.here hx rfl (hb hby d4_1) rfl k) ?_
  by_cases c1 : i < lo
  · refine Go.to (g' := (mkF m 22 #[.val (.ref a0), .val (.int i), .val (.int lo), .val (.int hi)] [])) (fun t k => XS.icmpYes X0.here hx rfl (pc0 := 2) (pc' := 22) rfl (hb hby d4_2) rfl (tlt c1).1 (by decide) (by decide) k) ?_
    refine Go.to (g' := (mkF m 23 #[.val (.ref a0), .val (.int i), .val (.int lo), .val (.int hi)] [(.int (0 : Int32))])) (fun t k => XS.iconst X0.here hx rfl (hb hby d4_22) k) ?_
    exact Go.retN X0 hx (t := .boolean) Bd.returns Bd.notSynchronized (by simp) (hb hby d4_23) (by decide) (by decide) e0 ⟨by rw [own_h0 hr (fun q => q.1 c1)]; rfl, N0, rfl⟩
  · refine Go.to (g' := (mkF m 5 #[.val (.ref a0), .val (.int i), .val (.int lo), .val (.int hi)] [])) (fun t k => XS.icmpNo X0.here hx rfl (hb hby d4_2) rfl (flt c1).1 k) ?_
    refine Go.to (g' := (mkF m 6 #[.val (.ref a0), .val (.int i), .val (.int lo), .val (.int hi)] [(.int i)])) (fun t k => XS.iloadN X0.here hx rfl (hb hby d4_5) rfl k) ?_
    refine Go.to (g' := (mkF m 7 #[.val (.ref a0), .val (.int i), .val (.int lo), .val (.int hi)] [(.int hi), (.int i)])) (fun t k => XS.iloadN X0.here hx rfl (hb hby d4_6) rfl k) ?_
    by_cases c2 : i < hi
    · refine Go.to (g' := (mkF m 10 #[.val (.ref a0), .val (.int i), .val (.int lo), .val (.int hi)] [])) (fun t k => XS.icmpNo X0.here hx rfl (hb hby d4_7) rfl (tlt c2).2.1 k) ?_
      refine Go.to (g' := (mkF m 11 #[.val (.ref a0), .val (.int i), .val (.int lo), .val (.int hi)] [(.ref a0)])) (fun t k => XS.aloadN X0.here hx rfl (hb hby d4_10) rfl rfl k) ?_
      refine Go.to (g' := (mkF m 12 #[.val (.ref a0), .val (.int i), .val (.int lo), .val (.int hi)] [(.int i), (.ref a0)])) (fun t k => XS.iloadN X0.here hx rfl (hb hby d4_11) rfl k) ?_
      obtain ⟨cl3, Ar3, Sz3, Hf3⟩ := id B
      refine Go.to (g' := (mkF m 13 #[.val (.ref a0), .val (.int i), .val (.int lo), .val (.int hi)] [(.int (f i))])) (fun t k => X0.baloadBytes hx (j := i) (v := (.int (f i))) (by rw [e0]; exact Ar3.1) (State.isArrayOf_alike hZ.alike Ar3.2.1) Ar3.2.2 (own_by_in Sz3 hi0 hi4) (Hf3 _ hi0 hi4) (g := (mkF m 12 #[.val (.ref a0), .val (.int i), .val (.int lo), .val (.int hi)] [(.int i), (.ref a0)])) rfl rfl (hb hby d4_12) _ k) ?_
      refine Go.to (g' := (mkF m 15 #[.val (.ref a0), .val (.int i), .val (.int lo), .val (.int hi)] [(.int (9 : Int32)), (.int (f i))])) (fun t k => XS.bipush X0.here hx rfl (hb hby d4_13) k) ?_
      by_cases c4 : (f i) = (9 : Int32)
      · refine Go.to (g' := (mkF m 18 #[.val (.ref a0), .val (.int i), .val (.int lo), .val (.int hi)] [])) (fun t k => XS.icmpNo X0.here hx rfl (hb hby d4_15) rfl (teq c4).2 k) ?_
        refine Go.to (g' := (mkF m 19 #[.val (.ref a0), .val (.int i), .val (.int lo), .val (.int hi)] [(.int (1 : Int32))])) (fun t k => XS.iconst X0.here hx rfl (hb hby d4_18) k) ?_
        refine Go.to (g' := (mkF m 23 #[.val (.ref a0), .val (.int i), .val (.int lo), .val (.int hi)] [(.int (1 : Int32))])) (fun t k => XS.goto X0.here hx rfl (pc0 := 19) (pc' := 23) rfl (hb hby d4_19) (by decide) (by decide) k) ?_
        exact Go.retN X0 hx (t := .boolean) Bd.returns Bd.notSynchronized (by simp) (hb hby d4_23) (by decide) (by decide) e0 ⟨by rw [own_h1 hr ⟨c1, c2, c4⟩]; rfl, N0, rfl⟩
      · refine Go.to (g' := (mkF m 22 #[.val (.ref a0), .val (.int i), .val (.int lo), .val (.int hi)] [])) (fun t k => XS.icmpYes X0.here hx rfl (pc0 := 15) (pc' := 22) rfl (hb hby d4_15) rfl (feq c4).2 (by decide) (by decide) k) ?_
        refine Go.to (g' := (mkF m 23 #[.val (.ref a0), .val (.int i), .val (.int lo), .val (.int hi)] [(.int (0 : Int32))])) (fun t k => XS.iconst X0.here hx rfl (hb hby d4_22) k) ?_
        exact Go.retN X0 hx (t := .boolean) Bd.returns Bd.notSynchronized (by simp) (hb hby d4_23) (by decide) (by decide) e0 ⟨by rw [own_h0 hr (fun q => c4 q.2.2)]; rfl, N0, rfl⟩
    · refine Go.to (g' := (mkF m 22 #[.val (.ref a0), .val (.int i), .val (.int lo), .val (.int hi)] [])) (fun t k => XS.icmpYes X0.here hx rfl (pc0 := 7) (pc' := 22) rfl (hb hby d4_7) rfl (flt c2).2.1 (by decide) (by decide) k) ?_
      refine Go.to (g' := (mkF m 23 #[.val (.ref a0), .val (.int i), .val (.int lo), .val (.int hi)] [(.int (0 : Int32))])) (fun t k => XS.iconst X0.here hx rfl (hb hby d4_22) k) ?_
      exact Go.retN X0 hx (t := .boolean) Bd.returns Bd.notSynchronized (by simp) (hb hby d4_23) (by decide) (by decide) e0 ⟨by rw [own_h0 hr (fun q => c2 q.2.1)]; rfl, N0, rfl⟩

theorem ef_rm6 (m : MethodId) (x0 : Addr) (x1 : Int32) (x2 : Int32) (x3 : Int32) : entryFrame m #[(.ref x0), (.int x1), (.int x2), (.int x3)] 5 = mkF m 0 #[.val (.ref x0), .val (.int x1), .val (.int x2), .val (.int x3), .unset] [] := by first | (simp [entryFrame, mkF, argsToLocals, Value.category]; done) | rfl
def Q6 (Z : State) (a0 : Addr) (p1 : Int32) (p2 : Int32) (p3 : Int32) (f : Int32 → Int32) (h0 : Heap) (n0 : Nat) (v : Option Value) (h : Heap) (L : List Loc) : Prop := ∃ r : Int32, v = some (.int r) ∧ Fr n0 L ∧ h = h0 ∧ own_first f p1 p2 p3 r
set_option maxRecDepth 65536 in
set_option maxHeartbeats 40000000 in
theorem rm6 (l : Launch) (Z : State) (aw : Array Value) (hw : ∀ d ∈ tables_1, d.before aw Z = true) (ws : List Jvm.Cond) (a0 : Addr) (p1 : Int32) (p2 : Int32) (p3 : Int32) (f : Int32 → Int32) (h0 : Heap) (n0 : Nat) (Z0 : n0 ≤ h0.size) (B : own_By Z h0 a0 4 f) (hf : ¬ p1 < 0) (ht : p2.toInt ≤ 4) :
    MetFree l (⟨"com/example/dispatch_to_workers/dispatchtoworkers/mapreduce/Lines", "indexOf", "([BIIB)I"⟩ : MethodName) (head1 (Jvm.Cond.code (⟨"com/example/dispatch_to_workers/dispatchtoworkers/mapreduce/Lines", "indexOf", "([BIIB)I"⟩ : MethodName) prog_46_method_7_code 5 (some .int) :: ws) ({ frames := 0, cells := 0, slots := 0, locals := 0 } : Room)) (fun a U => a = #[(.ref a0), (.int p1), (.int p2), (.int p3)] ∧ Z.Warmed39 U.vm ∧ U.heap = h0) (fun _ _ _ _ _ => True) (fun _ U o U' => ∃ v L, o = .returned v ∧ Q6 Z a0 p1 p2 p3 f h0 n0 v U'.heap L ∧ FrameEnd U o U' L ({ frames := 0, cells := 0, slots := 0, locals := 0 } : Room).cells ({ frames := 0, cells := 0, slots := 0, locals := 0 } : Room).slots) := by
  refine MetFree.of_bodySF (plainFor_of_name pn_com_example_dispatch_to_workers_dispatchtoworkers_mapreduce_Lines) hisR ?_
  intro p e s m args below meth c s₁ Bd hml0 hP hK
  obtain ⟨rfl, hZ, hh⟩ := hP
  have hx := Bd.exec
  have hby := Bd.bytes
  have hml : c.maxLocals = 5 := hml0
  have hown : s.vm.findClass "com/example/dispatch_to_workers/dispatchtoworkers/mapreduce/Lines" = some m.cls := findClass_of_methodNamed Bd.named
  have hnm := (name_of_methodNamed Bd.named Bd.method).1
  have X0 : Stand p l e ({ frames := 0, cells := 0, slots := 0, locals := 0 } : Room) s m #[(.ref a0), (.int p1), (.int p2), (.int p3)] below meth c s₁ [] 0 0 := Stand.of_body Bd
  have e0 : s₁.heap = h0 := by rw [← hh, Bd.state]; rfl
  have N0 := Fr.nil n0
  refine own_go (Q := Q6 Z a0 p1 p2 p3 f h0 n0) ?_
  refine Go.to (g' := (mkF m 0 #[.val (.ref a0), .val (.int p1), .val (.int p2), .val (.int p3), .unset] [])) (fun t k => castTop (ef_rm6 m a0 p1 p2 p3) k) ?_
  refine Go.to (g' := (mkF m 1 #[.val (.ref a0), .val (.int p1), .val (.int p2), .val (.int p3), .unset] [(.int p1)])) (fun t k => XS.iloadN X0.here hx rfl (hb hby d6_0) rfl k) ?_
  refine Go.to (g' := (mkF m 3 #[.val (.ref a0), .val (.int p1), .val (.int p2), .val (.int p3), .val (.int p1)] [])) (fun t k => XS.istore X0.here hx rfl (hb hby d6_1) rfl (l' := #[.val (.ref a0), .val (.int p1), .val (.int p2), .val (.int p3), .val (.int p1)]) rfl k) ?_
  suffices loop : ∀ (n : Nat) (i : Int32) (hm : (p2.toInt - i.toInt).toNat < n) (h2 : p1.toInt ≤ i.toInt) (h3 : ∀ j : Int32, p1.toInt ≤ j.toInt → j.toInt < i.toInt → ¬ f j = p3), Go p e below s (Q6 Z a0 p1 p2 p3 f h0 n0) ({ frames := 0, cells := 0, slots := 0, locals := 0 } : Room).cells ({ frames := 0, cells := 0, slots := 0, locals := 0 } : Room).slots (s₁.setTop (mkF m 3 #[.val (.ref a0), .val (.int p1), .val (.int p2), .val (.int p3), .val (.int i)] [])) from loop ((p2.toInt - p1.toInt).toNat + 1) p1 (Nat.lt_succ_self _) (Int.le_refl _) (fun j h1 h2 => absurd h2 (Int.not_lt.mpr h1))
  intro n
  induction n with
  | zero => intro i hm h2 h3; exact absurd hm (Nat.not_lt_zero _)
  | succ n ih =>
    intro i hm h2 h3
    refine Go.to (g' := (mkF m 5 #[.val (.ref a0), .val (.int p1), .val (.int p2), .val (.int p3), .val (.int i)] [(.int i)])) (fun t k => XS.iload X0.here hx rfl (hb hby d6_3) rfl k) ?_
    refine Go.to (g' := (mkF m 6 #[.val (.ref a0), .val (.int p1), .val (.int p2), .val (.int p3), .val (.int i)] [(.int p2), (.int i)])) (fun t k => XS.iloadN X0.here hx rfl (hb hby d6_5) rfl k) ?_
    by_cases c1 : i < p2
    · refine Go.to (g' := (mkF m 9 #[.val (.ref a0), .val (.int p1), .val (.int p2), .val (.int p3), .val (.int i)] [])) (fun t k => XS.icmpNo X0.here hx rfl (hb hby d6_6) rfl (tlt c1).2.1 k) ?_
      refine Go.to (g' := (mkF m 10 #[.val (.ref a0), .val (.int p1), .val (.int p2), .val (.int p3), .val (.int i)] [(.ref a0)])) (fun t k => XS.aloadN X0.here hx rfl (hb hby d6_9) rfl rfl k) ?_
      refine Go.to (g' := (mkF m 12 #[.val (.ref a0), .val (.int p1), .val (.int p2), .val (.int p3), .val (.int i)] [(.int i), (.ref a0)])) (fun t k => XS.iload X0.here hx rfl (hb hby d6_10) rfl k) ?_
      obtain ⟨cl2, Ar2, Sz2, Hf2⟩ := id B
      refine Go.to (g' := (mkF m 13 #[.val (.ref a0), .val (.int p1), .val (.int p2), .val (.int p3), .val (.int i)] [(.int (f i))])) (fun t k => X0.baloadBytes hx (j := i) (v := (.int (f i))) (by rw [e0]; exact Ar2.1) (State.isArrayOf_alike hZ.alike Ar2.2.1) Ar2.2.2 (own_by_in Sz2 (own_ge hf h2) (own_lt4 c1 ht)) (Hf2 _ (own_ge hf h2) (own_lt4 c1 ht)) (g := (mkF m 12 #[.val (.ref a0), .val (.int p1), .val (.int p2), .val (.int p3), .val (.int i)] [(.int i), (.ref a0)])) rfl rfl (hb hby d6_12) _ k) ?_
      refine Go.to (g' := (mkF m 14 #[.val (.ref a0), .val (.int p1), .val (.int p2), .val (.int p3), .val (.int i)] [(.int p3), (.int (f i))])) (fun t k => XS.iloadN X0.here hx rfl (hb hby d6_13) rfl k) ?_
      by_cases c3 : (f i) = p3
      · refine Go.to (g' := (mkF m 23 #[.val (.ref a0), .val (.int p1), .val (.int p2), .val (.int p3), .val (.int i)] [])) (fun t k => XS.icmpYes X0.here hx rfl (pc0 := 14) (pc' := 23) rfl (hb hby d6_14) rfl (teq c3).1 (by decide) (by decide) k) ?_
        refine Go.to (g' := (mkF m 25 #[.val (.ref a0), .val (.int p1), .val (.int p2), .val (.int p3), .val (.int i)] [(.int i)])) (fun t k => XS.iload X0.here hx rfl (hb hby d6_23) rfl k) ?_
        refine Go.to (g' := (mkF m 26 #[.val (.ref a0), .val (.int p1), .val (.int p2), .val (.int p3), .val (.int i)] [(.int p2), (.int i)])) (fun t k => XS.iloadN X0.here hx rfl (hb hby d6_25) rfl k) ?_
        refine Go.to (g' := (mkF m 29 #[.val (.ref a0), .val (.int p1), .val (.int p2), .val (.int p3), .val (.int i)] [])) (fun t k => XS.icmpNo X0.here hx rfl (hb hby d6_26) rfl (tlt c1).2.1 k) ?_
        refine Go.to (g' := (mkF m 31 #[.val (.ref a0), .val (.int p1), .val (.int p2), .val (.int p3), .val (.int i)] [(.int i)])) (fun t k => XS.iload X0.here hx rfl (hb hby d6_29) rfl k) ?_
        refine Go.to (g' := (mkF m 35 #[.val (.ref a0), .val (.int p1), .val (.int p2), .val (.int p3), .val (.int i)] [(.int i)])) (fun t k => XS.goto X0.here hx rfl (pc0 := 31) (pc' := 35) rfl (hb hby d6_31) (by decide) (by decide) k) ?_
        exact Go.retI X0 hx Bd.returns Bd.notSynchronized (hb hby d6_35) (by decide) (by decide) e0 ⟨_, rfl, N0, rfl, own_f1 c1 h2 c3 h3⟩
      · refine Go.to (g' := (mkF m 17 #[.val (.ref a0), .val (.int p1), .val (.int p2), .val (.int p3), .val (.int i)] [])) (fun t k => XS.icmpNo X0.here hx rfl (hb hby d6_14) rfl (feq c3).1 k) ?_
        refine Go.to (g' := (mkF m 20 #[.val (.ref a0), .val (.int p1), .val (.int p2), .val (.int p3), .val (.int (i + (1 : Int32)))] [])) (fun t k => XS.iinc X0.here hx rfl (hb hby d6_17) rfl (l' := #[.val (.ref a0), .val (.int p1), .val (.int p2), .val (.int p3), .val (.int (i + (1 : Int32)))]) rfl k) ?_
        refine Go.to (g' := (mkF m 3 #[.val (.ref a0), .val (.int p1), .val (.int p2), .val (.int p3), .val (.int (i + (1 : Int32)))] [])) (fun t k => XS.goto X0.here hx rfl (pc0 := 20) (pc' := 3) rfl (hb hby d6_20) (by decide) (by decide) k) ?_
        exact ih _ (own_l1 c1 hm) (own_l2 c1 h2) (own_l3 c1 c3 h3)
    · refine Go.to (g' := (mkF m 23 #[.val (.ref a0), .val (.int p1), .val (.int p2), .val (.int p3), .val (.int i)] [])) (fun t k => XS.icmpYes X0.here hx rfl (pc0 := 6) (pc' := 23) rfl (hb hby d6_6) rfl (flt c1).2.1 (by decide) (by decide) k) ?_
      refine Go.to (g' := (mkF m 25 #[.val (.ref a0), .val (.int p1), .val (.int p2), .val (.int p3), .val (.int i)] [(.int i)])) (fun t k => XS.iload X0.here hx rfl (hb hby d6_23) rfl k) ?_
      refine Go.to (g' := (mkF m 26 #[.val (.ref a0), .val (.int p1), .val (.int p2), .val (.int p3), .val (.int i)] [(.int p2), (.int i)])) (fun t k => XS.iloadN X0.here hx rfl (hb hby d6_25) rfl k) ?_
      refine Go.to (g' := (mkF m 34 #[.val (.ref a0), .val (.int p1), .val (.int p2), .val (.int p3), .val (.int i)] [])) (fun t k => XS.icmpYes X0.here hx rfl (pc0 := 26) (pc' := 34) rfl (hb hby d6_26) rfl (flt c1).2.1 (by decide) (by decide) k) ?_
      refine Go.to (g' := (mkF m 35 #[.val (.ref a0), .val (.int p1), .val (.int p2), .val (.int p3), .val (.int i)] [(.int (-1 : Int32))])) (fun t k => XS.iconst X0.here hx rfl (hb hby d6_34) k) ?_
      exact Go.retI X0 hx Bd.returns Bd.notSynchronized (hb hby d6_35) (by decide) (by decide) e0 ⟨_, rfl, N0, rfl, own_f0 c1 h3⟩

theorem ef_rm5 (m : MethodId) (x0 : Addr) (x1 : Int32) (x2 : Int32) : entryFrame m #[(.ref x0), (.int x1), (.int x2)] 4 = mkF m 0 #[.val (.ref x0), .val (.int x1), .val (.int x2), .unset] [] := by first | (simp [entryFrame, mkF, argsToLocals, Value.category]; done) | rfl
def Q5 (Z : State) (a0 : Addr) (p1 : Int32) (p2 : Int32) (f : Int32 → Int32) (h0 : Heap) (n0 : Nat) (v : Option Value) (h : Heap) (L : List Loc) : Prop := ∃ r : Int32, v = some (.int r) ∧ Fr n0 L ∧ h = h0 ∧ own_exp f p1 p2 (9 : Int32) 0 r
set_option maxRecDepth 65536 in
set_option maxHeartbeats 40000000 in
theorem rm5 (l : Launch) (Z : State) (aw : Array Value) (hw : ∀ d ∈ tables_1, d.before aw Z = true) (ws : List Jvm.Cond) (a0 : Addr) (p1 : Int32) (p2 : Int32) (f : Int32 → Int32) (h0 : Heap) (n0 : Nat) (Z0 : n0 ≤ h0.size) (B : own_By Z h0 a0 4 f) (hf : ¬ p1 < 0) (ht : p2.toInt ≤ 4) :
    MetFree l (⟨"com/example/dispatch_to_workers/dispatchtoworkers/mapreduce/Lines", "keyEnd", "([BII)I"⟩ : MethodName) (head1 (Jvm.Cond.code (⟨"com/example/dispatch_to_workers/dispatchtoworkers/mapreduce/Lines", "keyEnd", "([BII)I"⟩ : MethodName) prog_46_method_3_code 4 (some .int) :: ws) ({ frames := 1, cells := 0, slots := 0, locals := 16 } : Room)) (fun a U => a = #[(.ref a0), (.int p1), (.int p2)] ∧ Z.Warmed39 U.vm ∧ U.heap = h0) (fun _ _ _ _ _ => True) (fun _ U o U' => ∃ v L, o = .returned v ∧ Q5 Z a0 p1 p2 f h0 n0 v U'.heap L ∧ FrameEnd U o U' L ({ frames := 1, cells := 0, slots := 0, locals := 16 } : Room).cells ({ frames := 1, cells := 0, slots := 0, locals := 16 } : Room).slots) := by
  refine MetFree.of_bodySF (plainFor_of_name pn_com_example_dispatch_to_workers_dispatchtoworkers_mapreduce_Lines) hisR ?_
  intro p e s m args below meth c s₁ Bd hml0 hP hK
  obtain ⟨rfl, hZ, hh⟩ := hP
  have hx := Bd.exec
  have hby := Bd.bytes
  have hml : c.maxLocals = 4 := hml0
  have hown : s.vm.findClass "com/example/dispatch_to_workers/dispatchtoworkers/mapreduce/Lines" = some m.cls := findClass_of_methodNamed Bd.named
  have hnm := (name_of_methodNamed Bd.named Bd.method).1
  have X0 : Stand p l e ({ frames := 1, cells := 0, slots := 0, locals := 16 } : Room) s m #[(.ref a0), (.int p1), (.int p2)] below meth c s₁ [] 0 0 := Stand.of_body Bd
  have e0 : s₁.heap = h0 := by rw [← hh, Bd.state]; rfl
  have N0 := Fr.nil n0
  refine own_go (Q := Q5 Z a0 p1 p2 f h0 n0) ?_
  refine Go.to (g' := (mkF m 0 #[.val (.ref a0), .val (.int p1), .val (.int p2), .unset] [])) (fun t k => castTop (ef_rm5 m a0 p1 p2) k) ?_
  refine Go.to (g' := (mkF m 1 #[.val (.ref a0), .val (.int p1), .val (.int p2), .unset] [(.ref a0)])) (fun t k => XS.aloadN X0.here hx rfl (hb hby d5_0) rfl rfl k) ?_
  refine Go.to (g' := (mkF m 2 #[.val (.ref a0), .val (.int p1), .val (.int p2), .unset] [(.int p1), (.ref a0)])) (fun t k => XS.iloadN X0.here hx rfl (hb hby d5_1) rfl k) ?_
  refine Go.to (g' := (mkF m 3 #[.val (.ref a0), .val (.int p1), .val (.int p2), .unset] [(.int p2), (.int p1), (.ref a0)])) (fun t k => XS.iloadN X0.here hx rfl (hb hby d5_2) rfl k) ?_
  refine Go.to (g' := (mkF m 5 #[.val (.ref a0), .val (.int p1), .val (.int p2), .unset] [(.int (9 : Int32)), (.int p2), (.int p1), (.ref a0)])) (fun t k => XS.bipush X0.here hx rfl (hb hby d5_3) k) ?_
  obtain ⟨v1, _, ⟨T1, L1, k1, n1⟩, -, X1, ⟨Lc1, hQ1, l1, y1, z1⟩, st1⟩ := Jvm.LawKit.callS X0 hx (y := (⟨"com/example/dispatch_to_workers/dispatchtoworkers/mapreduce/Lines", "indexOf", "([BIIB)I"⟩ : MethodName)) hown (mvT hZ (hw _ (List.mem_of_getElem? (i := 20) rfl))) (mvT hZ (hw _ (List.mem_of_getElem? (i := 21) rfl))) (mvT hZ (hw _ (List.mem_of_getElem? (i := 18) rfl))) (mvT hZ (hw _ (List.mem_of_getElem? (i := 22) rfl))) (by decide) (backOf (W := 0) (rm6 l Z aw hw [] a0 p1 p2 (9 : Int32) f h0 n0 Z0 B hf ht) hZ (hw _ (List.mem_of_getElem? (i := 22) rfl)) (hw _ (List.mem_of_getElem? (i := 18) rfl)) (by decide) (by decide)) (g := (mkF m 5 #[.val (.ref a0), .val (.int p1), .val (.int p2), .unset] [(.int (9 : Int32)), (.int p2), (.int p1), (.ref a0)])) rfl (by rw [hml]; rfl) (argsL := [(.ref a0), (.int p1), (.int p2), (.int (9 : Int32))]) (rest := []) (lenOf pd_285bBIIB29I rfl) rfl (by show 2 * 0 + _ ≤ _; exact Nat.le_of_eq rfl) (hb hby d5_5) (fun _ _ => ⟨rfl, e0, (by decide : 0 + 0 ≤ _), (by decide : 0 + 0 ≤ _)⟩)
  dsimp only [Pt.U, Pt.locs, Pt.cells, Pt.slots] at X1 l1 y1 z1 st1 hQ1
  subst l1 y1 z1
  obtain ⟨h1, e1⟩ : ∃ z, T1.heap = z := ⟨_, rfl⟩
  rw [e1] at hQ1
  obtain ⟨r1, rfl, N1q, eh1, hf1⟩ := hQ1
  rw [eh1] at e1
  have N1 := Fr.app N0 N1q
  refine Go.to (g' := (mkF m 8 #[.val (.ref a0), .val (.int p1), .val (.int p2), .unset] [(.int r1)])) st1 ?_
  refine Go.to (g' := (mkF m 9 #[.val (.ref a0), .val (.int p1), .val (.int p2), .val (.int r1)] [])) (fun t k => XS.istoreN X1.here hx rfl (hb hby d5_8) rfl (l' := #[.val (.ref a0), .val (.int p1), .val (.int p2), .val (.int r1)]) rfl k) ?_
  refine Go.to (g' := (mkF m 10 #[.val (.ref a0), .val (.int p1), .val (.int p2), .val (.int r1)] [(.int r1)])) (fun t k => XS.iloadN X1.here hx rfl (hb hby d5_9) rfl k) ?_
  by_cases c2 : r1 < (0 : Int32)
  · refine Go.to (g' := (mkF m 13 #[.val (.ref a0), .val (.int p1), .val (.int p2), .val (.int r1)] [])) (fun t k => XS.ifNo X1.here hx rfl (hb hby d5_10) rfl ((if0 _ _).trans (tlt c2).2.1) k) ?_
    refine Go.to (g' := (mkF m 14 #[.val (.ref a0), .val (.int p1), .val (.int p2), .val (.int r1)] [(.int p2)])) (fun t k => XS.iloadN X1.here hx rfl (hb hby d5_13) rfl k) ?_
    refine Go.to (g' := (mkF m 18 #[.val (.ref a0), .val (.int p1), .val (.int p2), .val (.int r1)] [(.int p2)])) (fun t k => XS.goto X1.here hx rfl (pc0 := 14) (pc' := 18) rfl (hb hby d5_14) (by decide) (by decide) k) ?_
    exact Go.retI X1 hx Bd.returns Bd.notSynchronized (hb hby d5_18) (by decide) (by decide) e1 ⟨_, rfl, N1, rfl, own_ke0 hf hf1 c2⟩
  · refine Go.to (g' := (mkF m 17 #[.val (.ref a0), .val (.int p1), .val (.int p2), .val (.int r1)] [])) (fun t k => XS.ifYes X1.here hx rfl (pc0 := 10) (pc' := 17) rfl (hb hby d5_10) rfl ((if0 _ _).trans (flt c2).2.1) (by decide) (by decide) k) ?_
    refine Go.to (g' := (mkF m 18 #[.val (.ref a0), .val (.int p1), .val (.int p2), .val (.int r1)] [(.int r1)])) (fun t k => XS.iloadN X1.here hx rfl (hb hby d5_17) rfl k) ?_
    exact Go.retI X1 hx Bd.returns Bd.notSynchronized (hb hby d5_18) (by decide) (by decide) e1 ⟨_, rfl, N1, rfl, own_ke1 hf hf1 c2⟩

theorem ef_rm0 (m : MethodId) (x0 : Int32) (x1 : Int32) (x2 : Int32) (x3 : Int32) (x4 : Int32) (x5 : Int32) : entryFrame m #[(.int x0), (.int x1), (.int x2), (.int x3), (.int x4), (.int x5)] maxLocals = mkF m 0 #[.val (.int x0), .val (.int x1), .val (.int x2), .val (.int x3), .val (.int x4), .val (.int x5), .unset, .unset, .unset, .unset, .unset, .unset, .unset] [] := by first | (simp [entryFrame, mkF, argsToLocals, Value.category, maxLocals]; done) | rfl
def Q0 (Z : State) (p0 : Int32) (p1 : Int32) (p2 : Int32) (p3 : Int32) (p4 : Int32) (p5 : Int32) (h0 : Heap) (n0 : Nat) (v : Option Value) (h : Heap) (L : List Loc) : Prop := v = some (.int (1 : Int32)) ∧ Fr n0 L
set_option maxRecDepth 65536 in
set_option maxHeartbeats 40000000 in
theorem rm0 (l : Launch) (Z : State) (aw : Array Value) (hw : ∀ d ∈ tables_1, d.before aw Z = true) (ws : List Jvm.Cond) (p0 : Int32) (p1 : Int32) (p2 : Int32) (p3 : Int32) (p4 : Int32) (p5 : Int32) (h0 : Heap) (n0 : Nat) (Z0 : n0 ≤ h0.size) :
    MetFree l x (head1 (Jvm.Cond.code x code maxLocals ret :: ws) room_1) (fun a U => a = #[(.int p0), (.int p1), (.int p2), (.int p3), (.int p4), (.int p5)] ∧ Z.Warmed39 U.vm ∧ U.heap = h0) (fun _ _ _ _ _ => True) (fun _ U o U' => ∃ v L, o = .returned v ∧ Q0 Z p0 p1 p2 p3 p4 p5 h0 n0 v U'.heap L ∧ FrameEnd U o U' L room_1.cells room_1.slots) := by
  refine MetFree.of_bodySF (plainFor_of_name pn_com_example_dispatch_to_workers_dispatchtoworkers_mapreduce_LinesKeyEndPinLaw) hisR ?_
  intro p e s m args below meth c s₁ Bd hml0 hP hK
  obtain ⟨rfl, hZ, hh⟩ := hP
  have hx := Bd.exec
  have hby := Bd.bytes
  have hml : c.maxLocals = 13 := hml0
  have hown : s.vm.findClass "com/example/dispatch_to_workers/dispatchtoworkers/mapreduce/LinesKeyEndPinLaw" = some m.cls := findClass_of_methodNamed Bd.named
  have hnm := (name_of_methodNamed Bd.named Bd.method).1
  have X0 : Stand p l e room_1 s m #[(.int p0), (.int p1), (.int p2), (.int p3), (.int p4), (.int p5)] below meth c s₁ [] 0 0 := Stand.of_body Bd
  have e0 : s₁.heap = h0 := by rw [← hh, Bd.state]; rfl
  have N0 := Fr.nil n0
  refine own_go (Q := Q0 Z p0 p1 p2 p3 p4 p5 h0 n0) ?_
  refine Go.to (g' := (mkF m 0 #[.val (.int p0), .val (.int p1), .val (.int p2), .val (.int p3), .val (.int p4), .val (.int p5), .unset, .unset, .unset, .unset, .unset, .unset, .unset] [])) (fun t k => castTop (ef_rm0 m p0 p1 p2 p3 p4 p5) k) ?_
  refine Go.to (g' := (mkF m 1 #[.val (.int p0), .val (.int p1), .val (.int p2), .val (.int p3), .val (.int p4), .val (.int p5), .unset, .unset, .unset, .unset, .unset, .unset, .unset] [(.int (4 : Int32))])) (fun t k => XS.iconst X0.here hx rfl (hb hby at_0) k) ?_
  obtain ⟨T2, h2, k2, X2, e2, E2, A2, st2⟩ := newP X0 hx hZ (hw _ (List.mem_of_getElem? (i := 0) rfl)) e0 (g := (mkF m 1 #[.val (.int p0), .val (.int p1), .val (.int p2), .val (.int p3), .val (.int p4), .val (.int p5), .unset, .unset, .unset, .unset, .unset, .unset, .unset] [(.int (4 : Int32))])) rfl (hb hby at_1) rfl (by decide) (cap := 4) (by decide) (by decide) (by decide) (by decide)
  obtain ⟨b1, g2⟩ : ∃ z, z = h0.size := ⟨_, rfl⟩
  rw [← g2] at A2 st2
  have g_b1 : n0 ≤ b1 := Nat.le_trans Z0 (Nat.le_of_eq g2.symm)
  have sz_b1 : h0.size ≤ b1 := Nat.le_trans (Keep.refl h0 []).1 (Nat.le_of_eq g2.symm)
  have Z2 : n0 ≤ h2.size := Nat.le_trans Z0 E2.1
  have K2 : Keep h0 h2 [] := (Keep.refl h0 []).ext E2
  have V_b1 : Arv Z h2 b1 k2 .byte (4 : Int32) [(.int (0 : Int32)), (.int (0 : Int32)), (.int (0 : Int32)), (.int (0 : Int32))] (.int (0 : Int32)) := (Arv.new A2 (by decide)).pad (pad_rep [] (.int (0 : Int32)) 4)
  refine Go.to (g' := (mkF m 3 #[.val (.int p0), .val (.int p1), .val (.int p2), .val (.int p3), .val (.int p4), .val (.int p5), .unset, .unset, .unset, .unset, .unset, .unset, .unset] [(.ref b1)])) st2 ?_
  refine Go.to (g' := (mkF m 5 #[.val (.int p0), .val (.int p1), .val (.int p2), .val (.int p3), .val (.int p4), .val (.int p5), .val (.ref b1), .unset, .unset, .unset, .unset, .unset, .unset] [])) (fun t k => XS.astore X2.here hx rfl (hb hby at_3) rfl rfl (l' := #[.val (.int p0), .val (.int p1), .val (.int p2), .val (.int p3), .val (.int p4), .val (.int p5), .val (.ref b1), .unset, .unset, .unset, .unset, .unset, .unset]) rfl k) ?_
  refine Go.to (g' := (mkF m 7 #[.val (.int p0), .val (.int p1), .val (.int p2), .val (.int p3), .val (.int p4), .val (.int p5), .val (.ref b1), .unset, .unset, .unset, .unset, .unset, .unset] [(.ref b1)])) (fun t k => XS.aload X2.here hx rfl (hb hby at_5) rfl rfl k) ?_
  refine Go.to (g' := (mkF m 8 #[.val (.int p0), .val (.int p1), .val (.int p2), .val (.int p3), .val (.int p4), .val (.int p5), .val (.ref b1), .unset, .unset, .unset, .unset, .unset, .unset] [(.int (0 : Int32)), (.ref b1)])) (fun t k => XS.iconst X2.here hx rfl (hb hby at_7) k) ?_
  refine Go.to (g' := (mkF m 9 #[.val (.int p0), .val (.int p1), .val (.int p2), .val (.int p3), .val (.int p4), .val (.int p5), .val (.ref b1), .unset, .unset, .unset, .unset, .unset, .unset] [(.int p0), (.int (0 : Int32)), (.ref b1)])) (fun t k => XS.iloadN X2.here hx rfl (hb hby at_8) rfl k) ?_
  obtain ⟨v3, _, ⟨T3, L3, k3, n3⟩, -, X3, ⟨Lc3, hQ3, l3, y3, z3⟩, st3⟩ := Jvm.LawKit.callS X2 hx (y := (⟨"com/example/dispatch_to_workers/dispatchtoworkers/mapreduce/LinesKeyEndPinLaw", "draw", "(I)B"⟩ : MethodName)) hown (mvT hZ (hw _ (List.mem_of_getElem? (i := 1) rfl))) (mvT hZ (hw _ (List.mem_of_getElem? (i := 2) rfl))) (mvT hZ (hw _ (List.mem_of_getElem? (i := 3) rfl))) (mvT hZ (hw _ (List.mem_of_getElem? (i := 4) rfl))) (by decide) (backOf (W := 2) (rm1 l Z aw hw [] p0  h2 n0 Z2 ) hZ (hw _ (List.mem_of_getElem? (i := 4) rfl)) (hw _ (List.mem_of_getElem? (i := 3) rfl)) (by decide) (by decide)) (g := (mkF m 9 #[.val (.int p0), .val (.int p1), .val (.int p2), .val (.int p3), .val (.int p4), .val (.int p5), .val (.ref b1), .unset, .unset, .unset, .unset, .unset, .unset] [(.int p0), (.int (0 : Int32)), (.ref b1)])) rfl (by rw [hml]; rfl) (argsL := [(.int p0)]) (rest := [(.int (0 : Int32)), (.ref b1)]) (lenOf pd_28I29B rfl) rfl (by show 2 * 0 + _ ≤ _; exact Nat.le_of_eq rfl) (hb hby at_9) (fun _ _ => ⟨rfl, e2, (by decide : 1 + 0 ≤ _), (by decide : 4 + 0 ≤ _)⟩)
  dsimp only [Pt.U, Pt.locs, Pt.cells, Pt.slots] at X3 l3 y3 z3 st3 hQ3
  subst l3 y3 z3
  obtain ⟨h3, e3⟩ : ∃ z, T3.heap = z := ⟨_, rfl⟩
  rw [e3] at hQ3
  obtain ⟨r3, rfl, N3q, eh3⟩ := hQ3
  rw [eh3] at e3
  have N3 := Fr.app N0 N3q
  refine Go.to (g' := (mkF m 12 #[.val (.int p0), .val (.int p1), .val (.int p2), .val (.int p3), .val (.int p4), .val (.int p5), .val (.ref b1), .unset, .unset, .unset, .unset, .unset, .unset] [(.int r3), (.int (0 : Int32)), (.ref b1)])) st3 ?_
  obtain ⟨cl4, Ar4, kc4, S4, M4, H4, G4⟩ := V_b1
  have hin4 : ¬ ((0 : Int32) < 0 ∨ cl4.slots.size ≤ ((0 : Int32)).toNatClampNeg) := inb_of S4 ⟨by decide, by decide⟩
  obtain ⟨T5, h5, X5, e5, W5, st5⟩ := stB X3 hx hZ e3 Ar4 (j := (0 : Int32)) hin4 (g := (mkF m 12 #[.val (.int p0), .val (.int p1), .val (.int p2), .val (.int p3), .val (.int p4), .val (.int p5), .val (.ref b1), .unset, .unset, .unset, .unset, .unset, .unset] [(.int r3), (.int (0 : Int32)), (.ref b1)])) rfl rfl (hb hby at_12)
  have Z5 : n0 ≤ h5.size := Nat.le_trans Z2 (Keep.of_wr W5).1
  have K5 : Keep h0 h5 [] := K2.wr W5 (Or.inr sz_b1)
  have N5 := Fr.snoc X5 N3 g_b1
  have V5 : Arv Z h5 b1 k2 .byte (4 : Int32) [(.int (r3).toInt8.toInt32), (.int (0 : Int32)), (.int (0 : Int32)), (.int (0 : Int32))] (.int (0 : Int32)) := Arv.set Ar4 kc4 S4 M4 H4 G4 (fits_nar_byte _) W5 0 rfl (Nat.le_of_ble_eq_true rfl)
  refine Go.to (g' := (mkF m 13 #[.val (.int p0), .val (.int p1), .val (.int p2), .val (.int p3), .val (.int p4), .val (.int p5), .val (.ref b1), .unset, .unset, .unset, .unset, .unset, .unset] [])) st5 ?_
  refine Go.to (g' := (mkF m 15 #[.val (.int p0), .val (.int p1), .val (.int p2), .val (.int p3), .val (.int p4), .val (.int p5), .val (.ref b1), .unset, .unset, .unset, .unset, .unset, .unset] [(.ref b1)])) (fun t k => XS.aload X5.here hx rfl (hb hby at_13) rfl rfl k) ?_
  refine Go.to (g' := (mkF m 16 #[.val (.int p0), .val (.int p1), .val (.int p2), .val (.int p3), .val (.int p4), .val (.int p5), .val (.ref b1), .unset, .unset, .unset, .unset, .unset, .unset] [(.int (1 : Int32)), (.ref b1)])) (fun t k => XS.iconst X5.here hx rfl (hb hby at_15) k) ?_
  refine Go.to (g' := (mkF m 17 #[.val (.int p0), .val (.int p1), .val (.int p2), .val (.int p3), .val (.int p4), .val (.int p5), .val (.ref b1), .unset, .unset, .unset, .unset, .unset, .unset] [(.int p1), (.int (1 : Int32)), (.ref b1)])) (fun t k => XS.iloadN X5.here hx rfl (hb hby at_16) rfl k) ?_
  obtain ⟨v6, _, ⟨T6, L6, k6, n6⟩, -, X6, ⟨Lc6, hQ6, l6, y6, z6⟩, st6⟩ := Jvm.LawKit.callS X5 hx (y := (⟨"com/example/dispatch_to_workers/dispatchtoworkers/mapreduce/LinesKeyEndPinLaw", "draw", "(I)B"⟩ : MethodName)) hown (mvT hZ (hw _ (List.mem_of_getElem? (i := 1) rfl))) (mvT hZ (hw _ (List.mem_of_getElem? (i := 2) rfl))) (mvT hZ (hw _ (List.mem_of_getElem? (i := 3) rfl))) (mvT hZ (hw _ (List.mem_of_getElem? (i := 4) rfl))) (by decide) (backOf (W := 2) (rm1 l Z aw hw [] p1  h5 n0 Z5 ) hZ (hw _ (List.mem_of_getElem? (i := 4) rfl)) (hw _ (List.mem_of_getElem? (i := 3) rfl)) (by decide) (by decide)) (g := (mkF m 17 #[.val (.int p0), .val (.int p1), .val (.int p2), .val (.int p3), .val (.int p4), .val (.int p5), .val (.ref b1), .unset, .unset, .unset, .unset, .unset, .unset] [(.int p1), (.int (1 : Int32)), (.ref b1)])) rfl (by rw [hml]; rfl) (argsL := [(.int p1)]) (rest := [(.int (1 : Int32)), (.ref b1)]) (lenOf pd_28I29B rfl) rfl (by show 2 * 0 + _ ≤ _; exact Nat.le_of_eq rfl) (hb hby at_17) (fun _ _ => ⟨rfl, e5, (by decide : 1 + 0 ≤ _), (by decide : 4 + 0 ≤ _)⟩)
  dsimp only [Pt.U, Pt.locs, Pt.cells, Pt.slots] at X6 l6 y6 z6 st6 hQ6
  subst l6 y6 z6
  obtain ⟨h6, e6⟩ : ∃ z, T6.heap = z := ⟨_, rfl⟩
  rw [e6] at hQ6
  obtain ⟨r6, rfl, N6q, eh6⟩ := hQ6
  rw [eh6] at e6
  have N6 := Fr.app N5 N6q
  refine Go.to (g' := (mkF m 20 #[.val (.int p0), .val (.int p1), .val (.int p2), .val (.int p3), .val (.int p4), .val (.int p5), .val (.ref b1), .unset, .unset, .unset, .unset, .unset, .unset] [(.int r6), (.int (1 : Int32)), (.ref b1)])) st6 ?_
  obtain ⟨cl7, Ar7, kc7, S7, M7, H7, G7⟩ := V5
  have hin7 : ¬ ((1 : Int32) < 0 ∨ cl7.slots.size ≤ ((1 : Int32)).toNatClampNeg) := inb_of S7 ⟨by decide, by decide⟩
  obtain ⟨T8, h8, X8, e8, W8, st8⟩ := stB X6 hx hZ e6 Ar7 (j := (1 : Int32)) hin7 (g := (mkF m 20 #[.val (.int p0), .val (.int p1), .val (.int p2), .val (.int p3), .val (.int p4), .val (.int p5), .val (.ref b1), .unset, .unset, .unset, .unset, .unset, .unset] [(.int r6), (.int (1 : Int32)), (.ref b1)])) rfl rfl (hb hby at_20)
  have Z8 : n0 ≤ h8.size := Nat.le_trans Z5 (Keep.of_wr W8).1
  have K8 : Keep h0 h8 [] := K5.wr W8 (Or.inr sz_b1)
  have N8 := Fr.snoc X8 N6 g_b1
  have V8 : Arv Z h8 b1 k2 .byte (4 : Int32) [(.int (r3).toInt8.toInt32), (.int (r6).toInt8.toInt32), (.int (0 : Int32)), (.int (0 : Int32))] (.int (0 : Int32)) := Arv.set Ar7 kc7 S7 M7 H7 G7 (fits_nar_byte _) W8 1 rfl (Nat.le_of_ble_eq_true rfl)
  refine Go.to (g' := (mkF m 21 #[.val (.int p0), .val (.int p1), .val (.int p2), .val (.int p3), .val (.int p4), .val (.int p5), .val (.ref b1), .unset, .unset, .unset, .unset, .unset, .unset] [])) st8 ?_
  refine Go.to (g' := (mkF m 23 #[.val (.int p0), .val (.int p1), .val (.int p2), .val (.int p3), .val (.int p4), .val (.int p5), .val (.ref b1), .unset, .unset, .unset, .unset, .unset, .unset] [(.ref b1)])) (fun t k => XS.aload X8.here hx rfl (hb hby at_21) rfl rfl k) ?_
  refine Go.to (g' := (mkF m 24 #[.val (.int p0), .val (.int p1), .val (.int p2), .val (.int p3), .val (.int p4), .val (.int p5), .val (.ref b1), .unset, .unset, .unset, .unset, .unset, .unset] [(.int (2 : Int32)), (.ref b1)])) (fun t k => XS.iconst X8.here hx rfl (hb hby at_23) k) ?_
  refine Go.to (g' := (mkF m 25 #[.val (.int p0), .val (.int p1), .val (.int p2), .val (.int p3), .val (.int p4), .val (.int p5), .val (.ref b1), .unset, .unset, .unset, .unset, .unset, .unset] [(.int p2), (.int (2 : Int32)), (.ref b1)])) (fun t k => XS.iloadN X8.here hx rfl (hb hby at_24) rfl k) ?_
  obtain ⟨v9, _, ⟨T9, L9, k9, n9⟩, -, X9, ⟨Lc9, hQ9, l9, y9, z9⟩, st9⟩ := Jvm.LawKit.callS X8 hx (y := (⟨"com/example/dispatch_to_workers/dispatchtoworkers/mapreduce/LinesKeyEndPinLaw", "draw", "(I)B"⟩ : MethodName)) hown (mvT hZ (hw _ (List.mem_of_getElem? (i := 1) rfl))) (mvT hZ (hw _ (List.mem_of_getElem? (i := 2) rfl))) (mvT hZ (hw _ (List.mem_of_getElem? (i := 3) rfl))) (mvT hZ (hw _ (List.mem_of_getElem? (i := 4) rfl))) (by decide) (backOf (W := 2) (rm1 l Z aw hw [] p2  h8 n0 Z8 ) hZ (hw _ (List.mem_of_getElem? (i := 4) rfl)) (hw _ (List.mem_of_getElem? (i := 3) rfl)) (by decide) (by decide)) (g := (mkF m 25 #[.val (.int p0), .val (.int p1), .val (.int p2), .val (.int p3), .val (.int p4), .val (.int p5), .val (.ref b1), .unset, .unset, .unset, .unset, .unset, .unset] [(.int p2), (.int (2 : Int32)), (.ref b1)])) rfl (by rw [hml]; rfl) (argsL := [(.int p2)]) (rest := [(.int (2 : Int32)), (.ref b1)]) (lenOf pd_28I29B rfl) rfl (by show 2 * 0 + _ ≤ _; exact Nat.le_of_eq rfl) (hb hby at_25) (fun _ _ => ⟨rfl, e8, (by decide : 1 + 0 ≤ _), (by decide : 4 + 0 ≤ _)⟩)
  dsimp only [Pt.U, Pt.locs, Pt.cells, Pt.slots] at X9 l9 y9 z9 st9 hQ9
  subst l9 y9 z9
  obtain ⟨h9, e9⟩ : ∃ z, T9.heap = z := ⟨_, rfl⟩
  rw [e9] at hQ9
  obtain ⟨r9, rfl, N9q, eh9⟩ := hQ9
  rw [eh9] at e9
  have N9 := Fr.app N8 N9q
  refine Go.to (g' := (mkF m 28 #[.val (.int p0), .val (.int p1), .val (.int p2), .val (.int p3), .val (.int p4), .val (.int p5), .val (.ref b1), .unset, .unset, .unset, .unset, .unset, .unset] [(.int r9), (.int (2 : Int32)), (.ref b1)])) st9 ?_
  obtain ⟨cl10, Ar10, kc10, S10, M10, H10, G10⟩ := V8
  have hin10 : ¬ ((2 : Int32) < 0 ∨ cl10.slots.size ≤ ((2 : Int32)).toNatClampNeg) := inb_of S10 ⟨by decide, by decide⟩
  obtain ⟨T11, h11, X11, e11, W11, st11⟩ := stB X9 hx hZ e9 Ar10 (j := (2 : Int32)) hin10 (g := (mkF m 28 #[.val (.int p0), .val (.int p1), .val (.int p2), .val (.int p3), .val (.int p4), .val (.int p5), .val (.ref b1), .unset, .unset, .unset, .unset, .unset, .unset] [(.int r9), (.int (2 : Int32)), (.ref b1)])) rfl rfl (hb hby at_28)
  have Z11 : n0 ≤ h11.size := Nat.le_trans Z8 (Keep.of_wr W11).1
  have K11 : Keep h0 h11 [] := K8.wr W11 (Or.inr sz_b1)
  have N11 := Fr.snoc X11 N9 g_b1
  have V11 : Arv Z h11 b1 k2 .byte (4 : Int32) [(.int (r3).toInt8.toInt32), (.int (r6).toInt8.toInt32), (.int (r9).toInt8.toInt32), (.int (0 : Int32))] (.int (0 : Int32)) := Arv.set Ar10 kc10 S10 M10 H10 G10 (fits_nar_byte _) W11 2 rfl (Nat.le_of_ble_eq_true rfl)
  refine Go.to (g' := (mkF m 29 #[.val (.int p0), .val (.int p1), .val (.int p2), .val (.int p3), .val (.int p4), .val (.int p5), .val (.ref b1), .unset, .unset, .unset, .unset, .unset, .unset] [])) st11 ?_
  refine Go.to (g' := (mkF m 31 #[.val (.int p0), .val (.int p1), .val (.int p2), .val (.int p3), .val (.int p4), .val (.int p5), .val (.ref b1), .unset, .unset, .unset, .unset, .unset, .unset] [(.ref b1)])) (fun t k => XS.aload X11.here hx rfl (hb hby at_29) rfl rfl k) ?_
  refine Go.to (g' := (mkF m 32 #[.val (.int p0), .val (.int p1), .val (.int p2), .val (.int p3), .val (.int p4), .val (.int p5), .val (.ref b1), .unset, .unset, .unset, .unset, .unset, .unset] [(.int (3 : Int32)), (.ref b1)])) (fun t k => XS.iconst X11.here hx rfl (hb hby at_31) k) ?_
  refine Go.to (g' := (mkF m 33 #[.val (.int p0), .val (.int p1), .val (.int p2), .val (.int p3), .val (.int p4), .val (.int p5), .val (.ref b1), .unset, .unset, .unset, .unset, .unset, .unset] [(.int p3), (.int (3 : Int32)), (.ref b1)])) (fun t k => XS.iloadN X11.here hx rfl (hb hby at_32) rfl k) ?_
  obtain ⟨v12, _, ⟨T12, L12, k12, n12⟩, -, X12, ⟨Lc12, hQ12, l12, y12, z12⟩, st12⟩ := Jvm.LawKit.callS X11 hx (y := (⟨"com/example/dispatch_to_workers/dispatchtoworkers/mapreduce/LinesKeyEndPinLaw", "draw", "(I)B"⟩ : MethodName)) hown (mvT hZ (hw _ (List.mem_of_getElem? (i := 1) rfl))) (mvT hZ (hw _ (List.mem_of_getElem? (i := 2) rfl))) (mvT hZ (hw _ (List.mem_of_getElem? (i := 3) rfl))) (mvT hZ (hw _ (List.mem_of_getElem? (i := 4) rfl))) (by decide) (backOf (W := 2) (rm1 l Z aw hw [] p3  h11 n0 Z11 ) hZ (hw _ (List.mem_of_getElem? (i := 4) rfl)) (hw _ (List.mem_of_getElem? (i := 3) rfl)) (by decide) (by decide)) (g := (mkF m 33 #[.val (.int p0), .val (.int p1), .val (.int p2), .val (.int p3), .val (.int p4), .val (.int p5), .val (.ref b1), .unset, .unset, .unset, .unset, .unset, .unset] [(.int p3), (.int (3 : Int32)), (.ref b1)])) rfl (by rw [hml]; rfl) (argsL := [(.int p3)]) (rest := [(.int (3 : Int32)), (.ref b1)]) (lenOf pd_28I29B rfl) rfl (by show 2 * 0 + _ ≤ _; exact Nat.le_of_eq rfl) (hb hby at_33) (fun _ _ => ⟨rfl, e11, (by decide : 1 + 0 ≤ _), (by decide : 4 + 0 ≤ _)⟩)
  dsimp only [Pt.U, Pt.locs, Pt.cells, Pt.slots] at X12 l12 y12 z12 st12 hQ12
  subst l12 y12 z12
  obtain ⟨h12, e12⟩ : ∃ z, T12.heap = z := ⟨_, rfl⟩
  rw [e12] at hQ12
  obtain ⟨r12, rfl, N12q, eh12⟩ := hQ12
  rw [eh12] at e12
  have N12 := Fr.app N11 N12q
  refine Go.to (g' := (mkF m 36 #[.val (.int p0), .val (.int p1), .val (.int p2), .val (.int p3), .val (.int p4), .val (.int p5), .val (.ref b1), .unset, .unset, .unset, .unset, .unset, .unset] [(.int r12), (.int (3 : Int32)), (.ref b1)])) st12 ?_
  obtain ⟨cl13, Ar13, kc13, S13, M13, H13, G13⟩ := V11
  have hin13 : ¬ ((3 : Int32) < 0 ∨ cl13.slots.size ≤ ((3 : Int32)).toNatClampNeg) := inb_of S13 ⟨by decide, by decide⟩
  obtain ⟨T14, h14, X14, e14, W14, st14⟩ := stB X12 hx hZ e12 Ar13 (j := (3 : Int32)) hin13 (g := (mkF m 36 #[.val (.int p0), .val (.int p1), .val (.int p2), .val (.int p3), .val (.int p4), .val (.int p5), .val (.ref b1), .unset, .unset, .unset, .unset, .unset, .unset] [(.int r12), (.int (3 : Int32)), (.ref b1)])) rfl rfl (hb hby at_36)
  have Z14 : n0 ≤ h14.size := Nat.le_trans Z11 (Keep.of_wr W14).1
  have K14 : Keep h0 h14 [] := K11.wr W14 (Or.inr sz_b1)
  have N14 := Fr.snoc X14 N12 g_b1
  have V14 : Arv Z h14 b1 k2 .byte (4 : Int32) [(.int (r3).toInt8.toInt32), (.int (r6).toInt8.toInt32), (.int (r9).toInt8.toInt32), (.int (r12).toInt8.toInt32)] (.int (0 : Int32)) := Arv.set Ar13 kc13 S13 M13 H13 G13 (fits_nar_byte _) W14 3 rfl (Nat.le_of_ble_eq_true rfl)
  refine Go.to (g' := (mkF m 37 #[.val (.int p0), .val (.int p1), .val (.int p2), .val (.int p3), .val (.int p4), .val (.int p5), .val (.ref b1), .unset, .unset, .unset, .unset, .unset, .unset] [])) st14 ?_
  refine Go.to (g' := (mkF m 39 #[.val (.int p0), .val (.int p1), .val (.int p2), .val (.int p3), .val (.int p4), .val (.int p5), .val (.ref b1), .unset, .unset, .unset, .unset, .unset, .unset] [(.int p4)])) (fun t k => XS.iload X14.here hx rfl (hb hby at_37) rfl k) ?_
  refine Go.to (g' := (mkF m 41 #[.val (.int p0), .val (.int p1), .val (.int p2), .val (.int p3), .val (.int p4), .val (.int p5), .val (.ref b1), .unset, .unset, .unset, .unset, .unset, .unset] [(.int (2147483647 : Int32)), (.int p4)])) (fun t k => X14.ldcInt hx hown (mvT hZ (hw _ (List.mem_of_getElem? (i := 5) rfl))) (g := (mkF m 39 #[.val (.int p0), .val (.int p1), .val (.int p2), .val (.int p3), .val (.int p4), .val (.int p5), .val (.ref b1), .unset, .unset, .unset, .unset, .unset, .unset] [(.int p4)])) rfl (hb hby at_39) _ k) ?_
  refine Go.to (g' := (mkF m 42 #[.val (.int p0), .val (.int p1), .val (.int p2), .val (.int p3), .val (.int p4), .val (.int p5), .val (.ref b1), .unset, .unset, .unset, .unset, .unset, .unset] [(.int (p4 &&& (2147483647 : Int32)))])) (fun t k => XS.iand X14.here hx rfl (hb hby at_41) rfl k) ?_
  refine Go.to (g' := (mkF m 43 #[.val (.int p0), .val (.int p1), .val (.int p2), .val (.int p3), .val (.int p4), .val (.int p5), .val (.ref b1), .unset, .unset, .unset, .unset, .unset, .unset] [(.int (5 : Int32)), (.int (p4 &&& (2147483647 : Int32)))])) (fun t k => XS.iconst X14.here hx rfl (hb hby at_42) k) ?_
  refine Go.to (g' := (mkF m 44 #[.val (.int p0), .val (.int p1), .val (.int p2), .val (.int p3), .val (.int p4), .val (.int p5), .val (.ref b1), .unset, .unset, .unset, .unset, .unset, .unset] [(.int ((p4 &&& (2147483647 : Int32)) % (5 : Int32)))])) (fun t k => iremM X14 hx rfl (hb hby at_43) rfl (by decide) k) ?_
  obtain ⟨pp, hv_pp⟩ : ∃ z : Int32, z = ((p4 &&& (2147483647 : Int32)) % (5 : Int32)) := ⟨_, rfl⟩
  rw [← hv_pp]
  refine Go.to (g' := (mkF m 46 #[.val (.int p0), .val (.int p1), .val (.int p2), .val (.int p3), .val (.int p4), .val (.int p5), .val (.ref b1), .val (.int pp), .unset, .unset, .unset, .unset, .unset] [])) (fun t k => XS.istore X14.here hx rfl (hb hby at_44) rfl (l' := #[.val (.int p0), .val (.int p1), .val (.int p2), .val (.int p3), .val (.int p4), .val (.int p5), .val (.ref b1), .val (.int pp), .unset, .unset, .unset, .unset, .unset]) rfl k) ?_
  refine Go.to (g' := (mkF m 48 #[.val (.int p0), .val (.int p1), .val (.int p2), .val (.int p3), .val (.int p4), .val (.int p5), .val (.ref b1), .val (.int pp), .unset, .unset, .unset, .unset, .unset] [(.int p5)])) (fun t k => XS.iload X14.here hx rfl (hb hby at_46) rfl k) ?_
  refine Go.to (g' := (mkF m 50 #[.val (.int p0), .val (.int p1), .val (.int p2), .val (.int p3), .val (.int p4), .val (.int p5), .val (.ref b1), .val (.int pp), .unset, .unset, .unset, .unset, .unset] [(.int (2147483647 : Int32)), (.int p5)])) (fun t k => X14.ldcInt hx hown (mvT hZ (hw _ (List.mem_of_getElem? (i := 5) rfl))) (g := (mkF m 48 #[.val (.int p0), .val (.int p1), .val (.int p2), .val (.int p3), .val (.int p4), .val (.int p5), .val (.ref b1), .val (.int pp), .unset, .unset, .unset, .unset, .unset] [(.int p5)])) rfl (hb hby at_48) _ k) ?_
  refine Go.to (g' := (mkF m 51 #[.val (.int p0), .val (.int p1), .val (.int p2), .val (.int p3), .val (.int p4), .val (.int p5), .val (.ref b1), .val (.int pp), .unset, .unset, .unset, .unset, .unset] [(.int (p5 &&& (2147483647 : Int32)))])) (fun t k => XS.iand X14.here hx rfl (hb hby at_50) rfl k) ?_
  refine Go.to (g' := (mkF m 52 #[.val (.int p0), .val (.int p1), .val (.int p2), .val (.int p3), .val (.int p4), .val (.int p5), .val (.ref b1), .val (.int pp), .unset, .unset, .unset, .unset, .unset] [(.int (5 : Int32)), (.int (p5 &&& (2147483647 : Int32)))])) (fun t k => XS.iconst X14.here hx rfl (hb hby at_51) k) ?_
  refine Go.to (g' := (mkF m 53 #[.val (.int p0), .val (.int p1), .val (.int p2), .val (.int p3), .val (.int p4), .val (.int p5), .val (.ref b1), .val (.int pp), .unset, .unset, .unset, .unset, .unset] [(.int ((p5 &&& (2147483647 : Int32)) % (5 : Int32)))])) (fun t k => iremM X14 hx rfl (hb hby at_52) rfl (by decide) k) ?_
  obtain ⟨qq, hv_qq⟩ : ∃ z : Int32, z = ((p5 &&& (2147483647 : Int32)) % (5 : Int32)) := ⟨_, rfl⟩
  rw [← hv_qq]
  refine Go.to (g' := (mkF m 55 #[.val (.int p0), .val (.int p1), .val (.int p2), .val (.int p3), .val (.int p4), .val (.int p5), .val (.ref b1), .val (.int pp), .val (.int qq), .unset, .unset, .unset, .unset] [])) (fun t k => XS.istore X14.here hx rfl (hb hby at_53) rfl (l' := #[.val (.int p0), .val (.int p1), .val (.int p2), .val (.int p3), .val (.int p4), .val (.int p5), .val (.ref b1), .val (.int pp), .val (.int qq), .unset, .unset, .unset, .unset]) rfl k) ?_
  refine Go.to (g' := (mkF m 57 #[.val (.int p0), .val (.int p1), .val (.int p2), .val (.int p3), .val (.int p4), .val (.int p5), .val (.ref b1), .val (.int pp), .val (.int qq), .unset, .unset, .unset, .unset] [(.int pp)])) (fun t k => XS.iload X14.here hx rfl (hb hby at_55) rfl k) ?_
  refine Go.to (g' := (mkF m 59 #[.val (.int p0), .val (.int p1), .val (.int p2), .val (.int p3), .val (.int p4), .val (.int p5), .val (.ref b1), .val (.int pp), .val (.int qq), .unset, .unset, .unset, .unset] [(.int qq), (.int pp)])) (fun t k => XS.iload X14.here hx rfl (hb hby at_57) rfl k) ?_
  obtain ⟨v15, _, ⟨T15, L15, k15, n15⟩, -, X15, ⟨Lc15, hQ15, l15, y15, z15⟩, st15⟩ := Jvm.LawKit.callS X14 hx (y := (⟨"java/lang/Math", "min", "(II)I"⟩ : MethodName)) hown (mvT hZ (hw _ (List.mem_of_getElem? (i := 6) rfl))) (mvT hZ (hw _ (List.mem_of_getElem? (i := 7) rfl))) (mvT hZ (hw _ (List.mem_of_getElem? (i := 8) rfl))) (mvT hZ (hw _ (List.mem_of_getElem? (i := 9) rfl))) (by decide) (backOf (W := 0) (rm2 l Z aw hw [] pp qq  h14 n0 Z14 ) hZ (hw _ (List.mem_of_getElem? (i := 9) rfl)) (hw _ (List.mem_of_getElem? (i := 8) rfl)) (by decide) (by decide)) (g := (mkF m 59 #[.val (.int p0), .val (.int p1), .val (.int p2), .val (.int p3), .val (.int p4), .val (.int p5), .val (.ref b1), .val (.int pp), .val (.int qq), .unset, .unset, .unset, .unset] [(.int qq), (.int pp)])) rfl (by rw [hml]; rfl) (argsL := [(.int pp), (.int qq)]) (rest := []) (lenOf pd_28II29I rfl) rfl (by show 2 * 0 + _ ≤ _; exact Nat.le_of_eq rfl) (hb hby at_59) (fun _ _ => ⟨rfl, e14, (by decide : 1 + 0 ≤ _), (by decide : 4 + 0 ≤ _)⟩)
  dsimp only [Pt.U, Pt.locs, Pt.cells, Pt.slots] at X15 l15 y15 z15 st15 hQ15
  subst l15 y15 z15
  obtain ⟨rfl, N15q, e15⟩ := hQ15
  have N15 := Fr.app N14 N15q
  refine Go.to (g' := (mkF m 62 #[.val (.int p0), .val (.int p1), .val (.int p2), .val (.int p3), .val (.int p4), .val (.int p5), .val (.ref b1), .val (.int pp), .val (.int qq), .unset, .unset, .unset, .unset] [(.int (if qq < pp then qq else pp))])) st15 ?_
  obtain ⟨lo, hv_lo⟩ : ∃ z : Int32, z = (if qq < pp then qq else pp) := ⟨_, rfl⟩
  rw [← hv_lo]
  refine Go.to (g' := (mkF m 64 #[.val (.int p0), .val (.int p1), .val (.int p2), .val (.int p3), .val (.int p4), .val (.int p5), .val (.ref b1), .val (.int pp), .val (.int qq), .val (.int lo), .unset, .unset, .unset] [])) (fun t k => XS.istore X15.here hx rfl (hb hby at_62) rfl (l' := #[.val (.int p0), .val (.int p1), .val (.int p2), .val (.int p3), .val (.int p4), .val (.int p5), .val (.ref b1), .val (.int pp), .val (.int qq), .val (.int lo), .unset, .unset, .unset]) rfl k) ?_
  refine Go.to (g' := (mkF m 66 #[.val (.int p0), .val (.int p1), .val (.int p2), .val (.int p3), .val (.int p4), .val (.int p5), .val (.ref b1), .val (.int pp), .val (.int qq), .val (.int lo), .unset, .unset, .unset] [(.int pp)])) (fun t k => XS.iload X15.here hx rfl (hb hby at_64) rfl k) ?_
  refine Go.to (g' := (mkF m 68 #[.val (.int p0), .val (.int p1), .val (.int p2), .val (.int p3), .val (.int p4), .val (.int p5), .val (.ref b1), .val (.int pp), .val (.int qq), .val (.int lo), .unset, .unset, .unset] [(.int qq), (.int pp)])) (fun t k => XS.iload X15.here hx rfl (hb hby at_66) rfl k) ?_
  obtain ⟨v16, _, ⟨T16, L16, k16, n16⟩, -, X16, ⟨Lc16, hQ16, l16, y16, z16⟩, st16⟩ := Jvm.LawKit.callS X15 hx (y := (⟨"java/lang/Math", "max", "(II)I"⟩ : MethodName)) hown (mvT hZ (hw _ (List.mem_of_getElem? (i := 10) rfl))) (mvT hZ (hw _ (List.mem_of_getElem? (i := 11) rfl))) (mvT hZ (hw _ (List.mem_of_getElem? (i := 8) rfl))) (mvT hZ (hw _ (List.mem_of_getElem? (i := 12) rfl))) (by decide) (backOf (W := 0) (rm3 l Z aw hw [] pp qq  h14 n0 Z14 ) hZ (hw _ (List.mem_of_getElem? (i := 12) rfl)) (hw _ (List.mem_of_getElem? (i := 8) rfl)) (by decide) (by decide)) (g := (mkF m 68 #[.val (.int p0), .val (.int p1), .val (.int p2), .val (.int p3), .val (.int p4), .val (.int p5), .val (.ref b1), .val (.int pp), .val (.int qq), .val (.int lo), .unset, .unset, .unset] [(.int qq), (.int pp)])) rfl (by rw [hml]; rfl) (argsL := [(.int pp), (.int qq)]) (rest := []) (lenOf pd_28II29I rfl) rfl (by show 2 * 0 + _ ≤ _; exact Nat.le_of_eq rfl) (hb hby at_68) (fun _ _ => ⟨rfl, e15, (by decide : 1 + 0 ≤ _), (by decide : 4 + 0 ≤ _)⟩)
  dsimp only [Pt.U, Pt.locs, Pt.cells, Pt.slots] at X16 l16 y16 z16 st16 hQ16
  subst l16 y16 z16
  obtain ⟨rfl, N16q, e16⟩ := hQ16
  have N16 := Fr.app N15 N16q
  refine Go.to (g' := (mkF m 71 #[.val (.int p0), .val (.int p1), .val (.int p2), .val (.int p3), .val (.int p4), .val (.int p5), .val (.ref b1), .val (.int pp), .val (.int qq), .val (.int lo), .unset, .unset, .unset] [(.int (if pp < qq then qq else pp))])) st16 ?_
  obtain ⟨hi, hv_hi⟩ : ∃ z : Int32, z = (if pp < qq then qq else pp) := ⟨_, rfl⟩
  rw [← hv_hi]
  refine Go.to (g' := (mkF m 73 #[.val (.int p0), .val (.int p1), .val (.int p2), .val (.int p3), .val (.int p4), .val (.int p5), .val (.ref b1), .val (.int pp), .val (.int qq), .val (.int lo), .val (.int hi), .unset, .unset] [])) (fun t k => XS.istore X16.here hx rfl (hb hby at_71) rfl (l' := #[.val (.int p0), .val (.int p1), .val (.int p2), .val (.int p3), .val (.int p4), .val (.int p5), .val (.ref b1), .val (.int pp), .val (.int qq), .val (.int lo), .val (.int hi), .unset, .unset]) rfl k) ?_
  refine Go.to (g' := (mkF m 75 #[.val (.int p0), .val (.int p1), .val (.int p2), .val (.int p3), .val (.int p4), .val (.int p5), .val (.ref b1), .val (.int pp), .val (.int qq), .val (.int lo), .val (.int hi), .unset, .unset] [(.int hi)])) (fun t k => XS.iload X16.here hx rfl (hb hby at_73) rfl k) ?_
  refine Go.to (g' := (mkF m 77 #[.val (.int p0), .val (.int p1), .val (.int p2), .val (.int p3), .val (.int p4), .val (.int p5), .val (.ref b1), .val (.int pp), .val (.int qq), .val (.int lo), .val (.int hi), .val (.int hi), .unset] [])) (fun t k => XS.istore X16.here hx rfl (hb hby at_75) rfl (l' := #[.val (.int p0), .val (.int p1), .val (.int p2), .val (.int p3), .val (.int p4), .val (.int p5), .val (.ref b1), .val (.int pp), .val (.int qq), .val (.int lo), .val (.int hi), .val (.int hi), .unset]) rfl k) ?_
  have hlo : ¬ lo < 0 := own_nn (by rw [hv_lo]; split <;> (first | (rw [hv_qq]; exact (own_m5 _).1) | (rw [hv_pp]; exact (own_m5 _).1)))
  have hhi : hi.toInt ≤ 4 := by rw [hv_hi]; split <;> (first | (rw [hv_qq]; exact (own_m5 _).2) | (rw [hv_pp]; exact (own_m5 _).2))
  obtain ⟨f, B⟩ : ∃ f, own_By Z h14 b1 4 f := own_by_of V14 rfl
  have he4 : own_exp f lo hi (9 : Int32) 4 hi := own_e4 hhi
  refine Go.to (g' := (mkF m 79 #[.val (.int p0), .val (.int p1), .val (.int p2), .val (.int p3), .val (.int p4), .val (.int p5), .val (.ref b1), .val (.int pp), .val (.int qq), .val (.int lo), .val (.int hi), .val (.int hi), .unset] [(.ref b1)])) (fun t k => XS.aload X16.here hx rfl (hb hby at_77) rfl rfl k) ?_
  refine Go.to (g' := (mkF m 80 #[.val (.int p0), .val (.int p1), .val (.int p2), .val (.int p3), .val (.int p4), .val (.int p5), .val (.ref b1), .val (.int pp), .val (.int qq), .val (.int lo), .val (.int hi), .val (.int hi), .unset] [(.int (3 : Int32)), (.ref b1)])) (fun t k => XS.iconst X16.here hx rfl (hb hby at_79) k) ?_
  refine Go.to (g' := (mkF m 82 #[.val (.int p0), .val (.int p1), .val (.int p2), .val (.int p3), .val (.int p4), .val (.int p5), .val (.ref b1), .val (.int pp), .val (.int qq), .val (.int lo), .val (.int hi), .val (.int hi), .unset] [(.int lo), (.int (3 : Int32)), (.ref b1)])) (fun t k => XS.iload X16.here hx rfl (hb hby at_80) rfl k) ?_
  refine Go.to (g' := (mkF m 84 #[.val (.int p0), .val (.int p1), .val (.int p2), .val (.int p3), .val (.int p4), .val (.int p5), .val (.ref b1), .val (.int pp), .val (.int qq), .val (.int lo), .val (.int hi), .val (.int hi), .unset] [(.int hi), (.int lo), (.int (3 : Int32)), (.ref b1)])) (fun t k => XS.iload X16.here hx rfl (hb hby at_82) rfl k) ?_
  obtain ⟨rr3, hr3⟩ : ∃ r : Int32, (own_hit f (3 : Int32) lo hi (9 : Int32) ∧ r = (1 : Int32)) ∨ (¬ own_hit f (3 : Int32) lo hi (9 : Int32) ∧ r = (0 : Int32)) := (Classical.em (own_hit f (3 : Int32) lo hi (9 : Int32))).elim (fun q => ⟨1, Or.inl ⟨q, rfl⟩⟩) (fun q => ⟨0, Or.inr ⟨q, rfl⟩⟩)
  obtain ⟨v17, _, ⟨T17, L17, k17, n17⟩, -, X17, ⟨Lc17, hQ17, l17, y17, z17⟩, st17⟩ := Jvm.LawKit.callS X16 hx (y := (⟨"com/example/dispatch_to_workers/dispatchtoworkers/mapreduce/LinesKeyEndPinLaw", "tabAt", "([BIII)Z"⟩ : MethodName)) hown (mvT hZ (hw _ (List.mem_of_getElem? (i := 13) rfl))) (mvT hZ (hw _ (List.mem_of_getElem? (i := 14) rfl))) (mvT hZ (hw _ (List.mem_of_getElem? (i := 3) rfl))) (mvT hZ (hw _ (List.mem_of_getElem? (i := 15) rfl))) (by decide) (backOf (W := 0) (rm4 l Z aw hw [] b1 (3 : Int32) lo hi f rr3 h14 n0 Z14 B (by decide) (by decide) hr3) hZ (hw _ (List.mem_of_getElem? (i := 15) rfl)) (hw _ (List.mem_of_getElem? (i := 3) rfl)) (by decide) (by decide)) (g := (mkF m 84 #[.val (.int p0), .val (.int p1), .val (.int p2), .val (.int p3), .val (.int p4), .val (.int p5), .val (.ref b1), .val (.int pp), .val (.int qq), .val (.int lo), .val (.int hi), .val (.int hi), .unset] [(.int hi), (.int lo), (.int (3 : Int32)), (.ref b1)])) rfl (by rw [hml]; rfl) (argsL := [(.ref b1), (.int (3 : Int32)), (.int lo), (.int hi)]) (rest := []) (lenOf pd_285bBIII29Z rfl) rfl (by show 2 * 0 + _ ≤ _; exact Nat.le_of_eq rfl) (hb hby at_84) (fun _ _ => ⟨rfl, e16, (by decide : 1 + 0 ≤ _), (by decide : 4 + 0 ≤ _)⟩)
  dsimp only [Pt.U, Pt.locs, Pt.cells, Pt.slots] at X17 l17 y17 z17 st17 hQ17
  subst l17 y17 z17
  obtain ⟨rfl, N17q, e17⟩ := hQ17
  have N17 := Fr.app N16 N17q
  refine Go.to (g' := (mkF m 87 #[.val (.int p0), .val (.int p1), .val (.int p2), .val (.int p3), .val (.int p4), .val (.int p5), .val (.ref b1), .val (.int pp), .val (.int qq), .val (.int lo), .val (.int hi), .val (.int hi), .unset] [(.int rr3)])) st17 ?_
  suffices J3 : ∀ (ex3 : Int32) (he3 : own_exp f lo hi (9 : Int32) 3 ex3), Go p e below s (Q0 Z p0 p1 p2 p3 p4 p5 h0 n0) room_1.cells room_1.slots (T17.setTop (mkF m 93 #[.val (.int p0), .val (.int p1), .val (.int p2), .val (.int p3), .val (.int p4), .val (.int p5), .val (.ref b1), .val (.int pp), .val (.int qq), .val (.int lo), .val (.int hi), .val (.int ex3), .unset] [])) by
    by_cases c18 : rr3 = (0 : Int32)
    · refine Go.to (g' := (mkF m 93 #[.val (.int p0), .val (.int p1), .val (.int p2), .val (.int p3), .val (.int p4), .val (.int p5), .val (.ref b1), .val (.int pp), .val (.int qq), .val (.int lo), .val (.int hi), .val (.int hi), .unset] [])) (fun t k => XS.ifYes X17.here hx rfl (pc0 := 87) (pc' := 93) rfl (hb hby at_87) rfl ((if0 _ _).trans (teq c18).1) (by decide) (by decide) k) ?_
      exact J3 _ (own_eN (k := 3) rfl (own_hN hr3 c18) he4)
    · refine Go.to (g' := (mkF m 90 #[.val (.int p0), .val (.int p1), .val (.int p2), .val (.int p3), .val (.int p4), .val (.int p5), .val (.ref b1), .val (.int pp), .val (.int qq), .val (.int lo), .val (.int hi), .val (.int hi), .unset] [])) (fun t k => XS.ifNo X17.here hx rfl (hb hby at_87) rfl ((if0 _ _).trans (feq c18).1) k) ?_
      refine Go.to (g' := (mkF m 91 #[.val (.int p0), .val (.int p1), .val (.int p2), .val (.int p3), .val (.int p4), .val (.int p5), .val (.ref b1), .val (.int pp), .val (.int qq), .val (.int lo), .val (.int hi), .val (.int hi), .unset] [(.int (3 : Int32))])) (fun t k => XS.iconst X17.here hx rfl (hb hby at_90) k) ?_
      refine Go.to (g' := (mkF m 93 #[.val (.int p0), .val (.int p1), .val (.int p2), .val (.int p3), .val (.int p4), .val (.int p5), .val (.ref b1), .val (.int pp), .val (.int qq), .val (.int lo), .val (.int hi), .val (.int (3 : Int32)), .unset] [])) (fun t k => XS.istore X17.here hx rfl (hb hby at_91) rfl (l' := #[.val (.int p0), .val (.int p1), .val (.int p2), .val (.int p3), .val (.int p4), .val (.int p5), .val (.ref b1), .val (.int pp), .val (.int qq), .val (.int lo), .val (.int hi), .val (.int (3 : Int32)), .unset]) rfl k) ?_
      exact J3 _ (own_eY rfl (own_hY hr3 c18))
  intro ex3 he3
  refine Go.to (g' := (mkF m 95 #[.val (.int p0), .val (.int p1), .val (.int p2), .val (.int p3), .val (.int p4), .val (.int p5), .val (.ref b1), .val (.int pp), .val (.int qq), .val (.int lo), .val (.int hi), .val (.int ex3), .unset] [(.ref b1)])) (fun t k => XS.aload X17.here hx rfl (hb hby at_93) rfl rfl k) ?_
  refine Go.to (g' := (mkF m 96 #[.val (.int p0), .val (.int p1), .val (.int p2), .val (.int p3), .val (.int p4), .val (.int p5), .val (.ref b1), .val (.int pp), .val (.int qq), .val (.int lo), .val (.int hi), .val (.int ex3), .unset] [(.int (2 : Int32)), (.ref b1)])) (fun t k => XS.iconst X17.here hx rfl (hb hby at_95) k) ?_
  refine Go.to (g' := (mkF m 98 #[.val (.int p0), .val (.int p1), .val (.int p2), .val (.int p3), .val (.int p4), .val (.int p5), .val (.ref b1), .val (.int pp), .val (.int qq), .val (.int lo), .val (.int hi), .val (.int ex3), .unset] [(.int lo), (.int (2 : Int32)), (.ref b1)])) (fun t k => XS.iload X17.here hx rfl (hb hby at_96) rfl k) ?_
  refine Go.to (g' := (mkF m 100 #[.val (.int p0), .val (.int p1), .val (.int p2), .val (.int p3), .val (.int p4), .val (.int p5), .val (.ref b1), .val (.int pp), .val (.int qq), .val (.int lo), .val (.int hi), .val (.int ex3), .unset] [(.int hi), (.int lo), (.int (2 : Int32)), (.ref b1)])) (fun t k => XS.iload X17.here hx rfl (hb hby at_98) rfl k) ?_
  obtain ⟨rr2, hr2⟩ : ∃ r : Int32, (own_hit f (2 : Int32) lo hi (9 : Int32) ∧ r = (1 : Int32)) ∨ (¬ own_hit f (2 : Int32) lo hi (9 : Int32) ∧ r = (0 : Int32)) := (Classical.em (own_hit f (2 : Int32) lo hi (9 : Int32))).elim (fun q => ⟨1, Or.inl ⟨q, rfl⟩⟩) (fun q => ⟨0, Or.inr ⟨q, rfl⟩⟩)
  obtain ⟨v19, _, ⟨T19, L19, k19, n19⟩, -, X19, ⟨Lc19, hQ19, l19, y19, z19⟩, st19⟩ := Jvm.LawKit.callS X17 hx (y := (⟨"com/example/dispatch_to_workers/dispatchtoworkers/mapreduce/LinesKeyEndPinLaw", "tabAt", "([BIII)Z"⟩ : MethodName)) hown (mvT hZ (hw _ (List.mem_of_getElem? (i := 13) rfl))) (mvT hZ (hw _ (List.mem_of_getElem? (i := 14) rfl))) (mvT hZ (hw _ (List.mem_of_getElem? (i := 3) rfl))) (mvT hZ (hw _ (List.mem_of_getElem? (i := 15) rfl))) (by decide) (backOf (W := 0) (rm4 l Z aw hw [] b1 (2 : Int32) lo hi f rr2 h14 n0 Z14 B (by decide) (by decide) hr2) hZ (hw _ (List.mem_of_getElem? (i := 15) rfl)) (hw _ (List.mem_of_getElem? (i := 3) rfl)) (by decide) (by decide)) (g := (mkF m 100 #[.val (.int p0), .val (.int p1), .val (.int p2), .val (.int p3), .val (.int p4), .val (.int p5), .val (.ref b1), .val (.int pp), .val (.int qq), .val (.int lo), .val (.int hi), .val (.int ex3), .unset] [(.int hi), (.int lo), (.int (2 : Int32)), (.ref b1)])) rfl (by rw [hml]; rfl) (argsL := [(.ref b1), (.int (2 : Int32)), (.int lo), (.int hi)]) (rest := []) (lenOf pd_285bBIII29Z rfl) rfl (by show 2 * 0 + _ ≤ _; exact Nat.le_of_eq rfl) (hb hby at_100) (fun _ _ => ⟨rfl, e17, (by decide : 1 + 0 ≤ _), (by decide : 4 + 0 ≤ _)⟩)
  dsimp only [Pt.U, Pt.locs, Pt.cells, Pt.slots] at X19 l19 y19 z19 st19 hQ19
  subst l19 y19 z19
  obtain ⟨rfl, N19q, e19⟩ := hQ19
  have N19 := Fr.app N17 N19q
  refine Go.to (g' := (mkF m 103 #[.val (.int p0), .val (.int p1), .val (.int p2), .val (.int p3), .val (.int p4), .val (.int p5), .val (.ref b1), .val (.int pp), .val (.int qq), .val (.int lo), .val (.int hi), .val (.int ex3), .unset] [(.int rr2)])) st19 ?_
  suffices J2 : ∀ (ex2 : Int32) (he2 : own_exp f lo hi (9 : Int32) 2 ex2), Go p e below s (Q0 Z p0 p1 p2 p3 p4 p5 h0 n0) room_1.cells room_1.slots (T19.setTop (mkF m 109 #[.val (.int p0), .val (.int p1), .val (.int p2), .val (.int p3), .val (.int p4), .val (.int p5), .val (.ref b1), .val (.int pp), .val (.int qq), .val (.int lo), .val (.int hi), .val (.int ex2), .unset] [])) by
    by_cases c20 : rr2 = (0 : Int32)
    · refine Go.to (g' := (mkF m 109 #[.val (.int p0), .val (.int p1), .val (.int p2), .val (.int p3), .val (.int p4), .val (.int p5), .val (.ref b1), .val (.int pp), .val (.int qq), .val (.int lo), .val (.int hi), .val (.int ex3), .unset] [])) (fun t k => XS.ifYes X19.here hx rfl (pc0 := 103) (pc' := 109) rfl (hb hby at_103) rfl ((if0 _ _).trans (teq c20).1) (by decide) (by decide) k) ?_
      exact J2 _ (own_eN (k := 2) rfl (own_hN hr2 c20) he3)
    · refine Go.to (g' := (mkF m 106 #[.val (.int p0), .val (.int p1), .val (.int p2), .val (.int p3), .val (.int p4), .val (.int p5), .val (.ref b1), .val (.int pp), .val (.int qq), .val (.int lo), .val (.int hi), .val (.int ex3), .unset] [])) (fun t k => XS.ifNo X19.here hx rfl (hb hby at_103) rfl ((if0 _ _).trans (feq c20).1) k) ?_
      refine Go.to (g' := (mkF m 107 #[.val (.int p0), .val (.int p1), .val (.int p2), .val (.int p3), .val (.int p4), .val (.int p5), .val (.ref b1), .val (.int pp), .val (.int qq), .val (.int lo), .val (.int hi), .val (.int ex3), .unset] [(.int (2 : Int32))])) (fun t k => XS.iconst X19.here hx rfl (hb hby at_106) k) ?_
      refine Go.to (g' := (mkF m 109 #[.val (.int p0), .val (.int p1), .val (.int p2), .val (.int p3), .val (.int p4), .val (.int p5), .val (.ref b1), .val (.int pp), .val (.int qq), .val (.int lo), .val (.int hi), .val (.int (2 : Int32)), .unset] [])) (fun t k => XS.istore X19.here hx rfl (hb hby at_107) rfl (l' := #[.val (.int p0), .val (.int p1), .val (.int p2), .val (.int p3), .val (.int p4), .val (.int p5), .val (.ref b1), .val (.int pp), .val (.int qq), .val (.int lo), .val (.int hi), .val (.int (2 : Int32)), .unset]) rfl k) ?_
      exact J2 _ (own_eY rfl (own_hY hr2 c20))
  intro ex2 he2
  refine Go.to (g' := (mkF m 111 #[.val (.int p0), .val (.int p1), .val (.int p2), .val (.int p3), .val (.int p4), .val (.int p5), .val (.ref b1), .val (.int pp), .val (.int qq), .val (.int lo), .val (.int hi), .val (.int ex2), .unset] [(.ref b1)])) (fun t k => XS.aload X19.here hx rfl (hb hby at_109) rfl rfl k) ?_
  refine Go.to (g' := (mkF m 112 #[.val (.int p0), .val (.int p1), .val (.int p2), .val (.int p3), .val (.int p4), .val (.int p5), .val (.ref b1), .val (.int pp), .val (.int qq), .val (.int lo), .val (.int hi), .val (.int ex2), .unset] [(.int (1 : Int32)), (.ref b1)])) (fun t k => XS.iconst X19.here hx rfl (hb hby at_111) k) ?_
  refine Go.to (g' := (mkF m 114 #[.val (.int p0), .val (.int p1), .val (.int p2), .val (.int p3), .val (.int p4), .val (.int p5), .val (.ref b1), .val (.int pp), .val (.int qq), .val (.int lo), .val (.int hi), .val (.int ex2), .unset] [(.int lo), (.int (1 : Int32)), (.ref b1)])) (fun t k => XS.iload X19.here hx rfl (hb hby at_112) rfl k) ?_
  refine Go.to (g' := (mkF m 116 #[.val (.int p0), .val (.int p1), .val (.int p2), .val (.int p3), .val (.int p4), .val (.int p5), .val (.ref b1), .val (.int pp), .val (.int qq), .val (.int lo), .val (.int hi), .val (.int ex2), .unset] [(.int hi), (.int lo), (.int (1 : Int32)), (.ref b1)])) (fun t k => XS.iload X19.here hx rfl (hb hby at_114) rfl k) ?_
  obtain ⟨rr1, hr1⟩ : ∃ r : Int32, (own_hit f (1 : Int32) lo hi (9 : Int32) ∧ r = (1 : Int32)) ∨ (¬ own_hit f (1 : Int32) lo hi (9 : Int32) ∧ r = (0 : Int32)) := (Classical.em (own_hit f (1 : Int32) lo hi (9 : Int32))).elim (fun q => ⟨1, Or.inl ⟨q, rfl⟩⟩) (fun q => ⟨0, Or.inr ⟨q, rfl⟩⟩)
  obtain ⟨v21, _, ⟨T21, L21, k21, n21⟩, -, X21, ⟨Lc21, hQ21, l21, y21, z21⟩, st21⟩ := Jvm.LawKit.callS X19 hx (y := (⟨"com/example/dispatch_to_workers/dispatchtoworkers/mapreduce/LinesKeyEndPinLaw", "tabAt", "([BIII)Z"⟩ : MethodName)) hown (mvT hZ (hw _ (List.mem_of_getElem? (i := 13) rfl))) (mvT hZ (hw _ (List.mem_of_getElem? (i := 14) rfl))) (mvT hZ (hw _ (List.mem_of_getElem? (i := 3) rfl))) (mvT hZ (hw _ (List.mem_of_getElem? (i := 15) rfl))) (by decide) (backOf (W := 0) (rm4 l Z aw hw [] b1 (1 : Int32) lo hi f rr1 h14 n0 Z14 B (by decide) (by decide) hr1) hZ (hw _ (List.mem_of_getElem? (i := 15) rfl)) (hw _ (List.mem_of_getElem? (i := 3) rfl)) (by decide) (by decide)) (g := (mkF m 116 #[.val (.int p0), .val (.int p1), .val (.int p2), .val (.int p3), .val (.int p4), .val (.int p5), .val (.ref b1), .val (.int pp), .val (.int qq), .val (.int lo), .val (.int hi), .val (.int ex2), .unset] [(.int hi), (.int lo), (.int (1 : Int32)), (.ref b1)])) rfl (by rw [hml]; rfl) (argsL := [(.ref b1), (.int (1 : Int32)), (.int lo), (.int hi)]) (rest := []) (lenOf pd_285bBIII29Z rfl) rfl (by show 2 * 0 + _ ≤ _; exact Nat.le_of_eq rfl) (hb hby at_116) (fun _ _ => ⟨rfl, e19, (by decide : 1 + 0 ≤ _), (by decide : 4 + 0 ≤ _)⟩)
  dsimp only [Pt.U, Pt.locs, Pt.cells, Pt.slots] at X21 l21 y21 z21 st21 hQ21
  subst l21 y21 z21
  obtain ⟨rfl, N21q, e21⟩ := hQ21
  have N21 := Fr.app N19 N21q
  refine Go.to (g' := (mkF m 119 #[.val (.int p0), .val (.int p1), .val (.int p2), .val (.int p3), .val (.int p4), .val (.int p5), .val (.ref b1), .val (.int pp), .val (.int qq), .val (.int lo), .val (.int hi), .val (.int ex2), .unset] [(.int rr1)])) st21 ?_
  suffices J1 : ∀ (ex1 : Int32) (he1 : own_exp f lo hi (9 : Int32) 1 ex1), Go p e below s (Q0 Z p0 p1 p2 p3 p4 p5 h0 n0) room_1.cells room_1.slots (T21.setTop (mkF m 125 #[.val (.int p0), .val (.int p1), .val (.int p2), .val (.int p3), .val (.int p4), .val (.int p5), .val (.ref b1), .val (.int pp), .val (.int qq), .val (.int lo), .val (.int hi), .val (.int ex1), .unset] [])) by
    by_cases c22 : rr1 = (0 : Int32)
    · refine Go.to (g' := (mkF m 125 #[.val (.int p0), .val (.int p1), .val (.int p2), .val (.int p3), .val (.int p4), .val (.int p5), .val (.ref b1), .val (.int pp), .val (.int qq), .val (.int lo), .val (.int hi), .val (.int ex2), .unset] [])) (fun t k => XS.ifYes X21.here hx rfl (pc0 := 119) (pc' := 125) rfl (hb hby at_119) rfl ((if0 _ _).trans (teq c22).1) (by decide) (by decide) k) ?_
      exact J1 _ (own_eN (k := 1) rfl (own_hN hr1 c22) he2)
    · refine Go.to (g' := (mkF m 122 #[.val (.int p0), .val (.int p1), .val (.int p2), .val (.int p3), .val (.int p4), .val (.int p5), .val (.ref b1), .val (.int pp), .val (.int qq), .val (.int lo), .val (.int hi), .val (.int ex2), .unset] [])) (fun t k => XS.ifNo X21.here hx rfl (hb hby at_119) rfl ((if0 _ _).trans (feq c22).1) k) ?_
      refine Go.to (g' := (mkF m 123 #[.val (.int p0), .val (.int p1), .val (.int p2), .val (.int p3), .val (.int p4), .val (.int p5), .val (.ref b1), .val (.int pp), .val (.int qq), .val (.int lo), .val (.int hi), .val (.int ex2), .unset] [(.int (1 : Int32))])) (fun t k => XS.iconst X21.here hx rfl (hb hby at_122) k) ?_
      refine Go.to (g' := (mkF m 125 #[.val (.int p0), .val (.int p1), .val (.int p2), .val (.int p3), .val (.int p4), .val (.int p5), .val (.ref b1), .val (.int pp), .val (.int qq), .val (.int lo), .val (.int hi), .val (.int (1 : Int32)), .unset] [])) (fun t k => XS.istore X21.here hx rfl (hb hby at_123) rfl (l' := #[.val (.int p0), .val (.int p1), .val (.int p2), .val (.int p3), .val (.int p4), .val (.int p5), .val (.ref b1), .val (.int pp), .val (.int qq), .val (.int lo), .val (.int hi), .val (.int (1 : Int32)), .unset]) rfl k) ?_
      exact J1 _ (own_eY rfl (own_hY hr1 c22))
  intro ex1 he1
  refine Go.to (g' := (mkF m 127 #[.val (.int p0), .val (.int p1), .val (.int p2), .val (.int p3), .val (.int p4), .val (.int p5), .val (.ref b1), .val (.int pp), .val (.int qq), .val (.int lo), .val (.int hi), .val (.int ex1), .unset] [(.ref b1)])) (fun t k => XS.aload X21.here hx rfl (hb hby at_125) rfl rfl k) ?_
  refine Go.to (g' := (mkF m 128 #[.val (.int p0), .val (.int p1), .val (.int p2), .val (.int p3), .val (.int p4), .val (.int p5), .val (.ref b1), .val (.int pp), .val (.int qq), .val (.int lo), .val (.int hi), .val (.int ex1), .unset] [(.int (0 : Int32)), (.ref b1)])) (fun t k => XS.iconst X21.here hx rfl (hb hby at_127) k) ?_
  refine Go.to (g' := (mkF m 130 #[.val (.int p0), .val (.int p1), .val (.int p2), .val (.int p3), .val (.int p4), .val (.int p5), .val (.ref b1), .val (.int pp), .val (.int qq), .val (.int lo), .val (.int hi), .val (.int ex1), .unset] [(.int lo), (.int (0 : Int32)), (.ref b1)])) (fun t k => XS.iload X21.here hx rfl (hb hby at_128) rfl k) ?_
  refine Go.to (g' := (mkF m 132 #[.val (.int p0), .val (.int p1), .val (.int p2), .val (.int p3), .val (.int p4), .val (.int p5), .val (.ref b1), .val (.int pp), .val (.int qq), .val (.int lo), .val (.int hi), .val (.int ex1), .unset] [(.int hi), (.int lo), (.int (0 : Int32)), (.ref b1)])) (fun t k => XS.iload X21.here hx rfl (hb hby at_130) rfl k) ?_
  obtain ⟨rr0, hr0⟩ : ∃ r : Int32, (own_hit f (0 : Int32) lo hi (9 : Int32) ∧ r = (1 : Int32)) ∨ (¬ own_hit f (0 : Int32) lo hi (9 : Int32) ∧ r = (0 : Int32)) := (Classical.em (own_hit f (0 : Int32) lo hi (9 : Int32))).elim (fun q => ⟨1, Or.inl ⟨q, rfl⟩⟩) (fun q => ⟨0, Or.inr ⟨q, rfl⟩⟩)
  obtain ⟨v23, _, ⟨T23, L23, k23, n23⟩, -, X23, ⟨Lc23, hQ23, l23, y23, z23⟩, st23⟩ := Jvm.LawKit.callS X21 hx (y := (⟨"com/example/dispatch_to_workers/dispatchtoworkers/mapreduce/LinesKeyEndPinLaw", "tabAt", "([BIII)Z"⟩ : MethodName)) hown (mvT hZ (hw _ (List.mem_of_getElem? (i := 13) rfl))) (mvT hZ (hw _ (List.mem_of_getElem? (i := 14) rfl))) (mvT hZ (hw _ (List.mem_of_getElem? (i := 3) rfl))) (mvT hZ (hw _ (List.mem_of_getElem? (i := 15) rfl))) (by decide) (backOf (W := 0) (rm4 l Z aw hw [] b1 (0 : Int32) lo hi f rr0 h14 n0 Z14 B (by decide) (by decide) hr0) hZ (hw _ (List.mem_of_getElem? (i := 15) rfl)) (hw _ (List.mem_of_getElem? (i := 3) rfl)) (by decide) (by decide)) (g := (mkF m 132 #[.val (.int p0), .val (.int p1), .val (.int p2), .val (.int p3), .val (.int p4), .val (.int p5), .val (.ref b1), .val (.int pp), .val (.int qq), .val (.int lo), .val (.int hi), .val (.int ex1), .unset] [(.int hi), (.int lo), (.int (0 : Int32)), (.ref b1)])) rfl (by rw [hml]; rfl) (argsL := [(.ref b1), (.int (0 : Int32)), (.int lo), (.int hi)]) (rest := []) (lenOf pd_285bBIII29Z rfl) rfl (by show 2 * 0 + _ ≤ _; exact Nat.le_of_eq rfl) (hb hby at_132) (fun _ _ => ⟨rfl, e21, (by decide : 1 + 0 ≤ _), (by decide : 4 + 0 ≤ _)⟩)
  dsimp only [Pt.U, Pt.locs, Pt.cells, Pt.slots] at X23 l23 y23 z23 st23 hQ23
  subst l23 y23 z23
  obtain ⟨rfl, N23q, e23⟩ := hQ23
  have N23 := Fr.app N21 N23q
  refine Go.to (g' := (mkF m 135 #[.val (.int p0), .val (.int p1), .val (.int p2), .val (.int p3), .val (.int p4), .val (.int p5), .val (.ref b1), .val (.int pp), .val (.int qq), .val (.int lo), .val (.int hi), .val (.int ex1), .unset] [(.int rr0)])) st23 ?_
  suffices J0 : ∀ (ex0 : Int32) (he0 : own_exp f lo hi (9 : Int32) 0 ex0), Go p e below s (Q0 Z p0 p1 p2 p3 p4 p5 h0 n0) room_1.cells room_1.slots (T23.setTop (mkF m 141 #[.val (.int p0), .val (.int p1), .val (.int p2), .val (.int p3), .val (.int p4), .val (.int p5), .val (.ref b1), .val (.int pp), .val (.int qq), .val (.int lo), .val (.int hi), .val (.int ex0), .unset] [])) by
    by_cases c24 : rr0 = (0 : Int32)
    · refine Go.to (g' := (mkF m 141 #[.val (.int p0), .val (.int p1), .val (.int p2), .val (.int p3), .val (.int p4), .val (.int p5), .val (.ref b1), .val (.int pp), .val (.int qq), .val (.int lo), .val (.int hi), .val (.int ex1), .unset] [])) (fun t k => XS.ifYes X23.here hx rfl (pc0 := 135) (pc' := 141) rfl (hb hby at_135) rfl ((if0 _ _).trans (teq c24).1) (by decide) (by decide) k) ?_
      exact J0 _ (own_eN (k := 0) rfl (own_hN hr0 c24) he1)
    · refine Go.to (g' := (mkF m 138 #[.val (.int p0), .val (.int p1), .val (.int p2), .val (.int p3), .val (.int p4), .val (.int p5), .val (.ref b1), .val (.int pp), .val (.int qq), .val (.int lo), .val (.int hi), .val (.int ex1), .unset] [])) (fun t k => XS.ifNo X23.here hx rfl (hb hby at_135) rfl ((if0 _ _).trans (feq c24).1) k) ?_
      refine Go.to (g' := (mkF m 139 #[.val (.int p0), .val (.int p1), .val (.int p2), .val (.int p3), .val (.int p4), .val (.int p5), .val (.ref b1), .val (.int pp), .val (.int qq), .val (.int lo), .val (.int hi), .val (.int ex1), .unset] [(.int (0 : Int32))])) (fun t k => XS.iconst X23.here hx rfl (hb hby at_138) k) ?_
      refine Go.to (g' := (mkF m 141 #[.val (.int p0), .val (.int p1), .val (.int p2), .val (.int p3), .val (.int p4), .val (.int p5), .val (.ref b1), .val (.int pp), .val (.int qq), .val (.int lo), .val (.int hi), .val (.int (0 : Int32)), .unset] [])) (fun t k => XS.istore X23.here hx rfl (hb hby at_139) rfl (l' := #[.val (.int p0), .val (.int p1), .val (.int p2), .val (.int p3), .val (.int p4), .val (.int p5), .val (.ref b1), .val (.int pp), .val (.int qq), .val (.int lo), .val (.int hi), .val (.int (0 : Int32)), .unset]) rfl k) ?_
      exact J0 _ (own_eY rfl (own_hY hr0 c24))
  intro ex0 he0
  refine Go.to (g' := (mkF m 143 #[.val (.int p0), .val (.int p1), .val (.int p2), .val (.int p3), .val (.int p4), .val (.int p5), .val (.ref b1), .val (.int pp), .val (.int qq), .val (.int lo), .val (.int hi), .val (.int ex0), .unset] [(.ref b1)])) (fun t k => XS.aload X23.here hx rfl (hb hby at_141) rfl rfl k) ?_
  refine Go.to (g' := (mkF m 145 #[.val (.int p0), .val (.int p1), .val (.int p2), .val (.int p3), .val (.int p4), .val (.int p5), .val (.ref b1), .val (.int pp), .val (.int qq), .val (.int lo), .val (.int hi), .val (.int ex0), .unset] [(.int lo), (.ref b1)])) (fun t k => XS.iload X23.here hx rfl (hb hby at_143) rfl k) ?_
  refine Go.to (g' := (mkF m 147 #[.val (.int p0), .val (.int p1), .val (.int p2), .val (.int p3), .val (.int p4), .val (.int p5), .val (.ref b1), .val (.int pp), .val (.int qq), .val (.int lo), .val (.int hi), .val (.int ex0), .unset] [(.int hi), (.int lo), (.ref b1)])) (fun t k => XS.iload X23.here hx rfl (hb hby at_145) rfl k) ?_
  obtain ⟨v25, _, ⟨T25, L25, k25, n25⟩, -, X25, ⟨Lc25, hQ25, l25, y25, z25⟩, st25⟩ := Jvm.LawKit.callS X23 hx (y := (⟨"com/example/dispatch_to_workers/dispatchtoworkers/mapreduce/Lines", "keyEnd", "([BII)I"⟩ : MethodName)) hown (mvT hZ (hw _ (List.mem_of_getElem? (i := 16) rfl))) (mvT hZ (hw _ (List.mem_of_getElem? (i := 17) rfl))) (mvT hZ (hw _ (List.mem_of_getElem? (i := 18) rfl))) (mvT hZ (hw _ (List.mem_of_getElem? (i := 19) rfl))) (by decide) (backOf (W := 0) (rm5 l Z aw hw [] b1 lo hi f h14 n0 Z14 B hlo hhi) hZ (hw _ (List.mem_of_getElem? (i := 19) rfl)) (hw _ (List.mem_of_getElem? (i := 18) rfl)) (by decide) (by decide)) (g := (mkF m 147 #[.val (.int p0), .val (.int p1), .val (.int p2), .val (.int p3), .val (.int p4), .val (.int p5), .val (.ref b1), .val (.int pp), .val (.int qq), .val (.int lo), .val (.int hi), .val (.int ex0), .unset] [(.int hi), (.int lo), (.ref b1)])) rfl (by rw [hml]; rfl) (argsL := [(.ref b1), (.int lo), (.int hi)]) (rest := []) (lenOf pd_285bBII29I rfl) rfl (by show 2 * 0 + _ ≤ _; exact Nat.le_of_eq rfl) (hb hby at_147) (fun _ _ => ⟨rfl, e23, (by decide : 1 + 0 ≤ _), (by decide : 4 + 0 ≤ _)⟩)
  dsimp only [Pt.U, Pt.locs, Pt.cells, Pt.slots] at X25 l25 y25 z25 st25 hQ25
  subst l25 y25 z25
  obtain ⟨h25, e25⟩ : ∃ z, T25.heap = z := ⟨_, rfl⟩
  rw [e25] at hQ25
  obtain ⟨r25, rfl, N25q, eh25, hf25⟩ := hQ25
  rw [eh25] at e25
  have N25 := Fr.app N23 N25q
  refine Go.to (g' := (mkF m 150 #[.val (.int p0), .val (.int p1), .val (.int p2), .val (.int p3), .val (.int p4), .val (.int p5), .val (.ref b1), .val (.int pp), .val (.int qq), .val (.int lo), .val (.int hi), .val (.int ex0), .unset] [(.int r25)])) st25 ?_
  refine Go.to (g' := (mkF m 152 #[.val (.int p0), .val (.int p1), .val (.int p2), .val (.int p3), .val (.int p4), .val (.int p5), .val (.ref b1), .val (.int pp), .val (.int qq), .val (.int lo), .val (.int hi), .val (.int ex0), .val (.int r25)] [])) (fun t k => XS.istore X25.here hx rfl (hb hby at_150) rfl (l' := #[.val (.int p0), .val (.int p1), .val (.int p2), .val (.int p3), .val (.int p4), .val (.int p5), .val (.ref b1), .val (.int pp), .val (.int qq), .val (.int lo), .val (.int hi), .val (.int ex0), .val (.int r25)]) rfl k) ?_
  refine Go.to (g' := (mkF m 154 #[.val (.int p0), .val (.int p1), .val (.int p2), .val (.int p3), .val (.int p4), .val (.int p5), .val (.ref b1), .val (.int pp), .val (.int qq), .val (.int lo), .val (.int hi), .val (.int ex0), .val (.int r25)] [(.int r25)])) (fun t k => XS.iload X25.here hx rfl (hb hby at_152) rfl k) ?_
  refine Go.to (g' := (mkF m 156 #[.val (.int p0), .val (.int p1), .val (.int p2), .val (.int p3), .val (.int p4), .val (.int p5), .val (.ref b1), .val (.int pp), .val (.int qq), .val (.int lo), .val (.int hi), .val (.int ex0), .val (.int r25)] [(.int ex0), (.int r25)])) (fun t k => XS.iload X25.here hx rfl (hb hby at_154) rfl k) ?_
  refine Go.to (g' := (mkF m 159 #[.val (.int p0), .val (.int p1), .val (.int p2), .val (.int p3), .val (.int p4), .val (.int p5), .val (.ref b1), .val (.int pp), .val (.int qq), .val (.int lo), .val (.int hi), .val (.int ex0), .val (.int r25)] [])) (fun t k => XS.icmpNo X25.here hx rfl (hb hby at_156) rfl (teq (own_uni2 hlo hf25 he0)).2 k) ?_
  refine Go.to (g' := (mkF m 160 #[.val (.int p0), .val (.int p1), .val (.int p2), .val (.int p3), .val (.int p4), .val (.int p5), .val (.ref b1), .val (.int pp), .val (.int qq), .val (.int lo), .val (.int hi), .val (.int ex0), .val (.int r25)] [(.int (1 : Int32))])) (fun t k => XS.iconst X25.here hx rfl (hb hby at_159) k) ?_
  refine Go.to (g' := (mkF m 164 #[.val (.int p0), .val (.int p1), .val (.int p2), .val (.int p3), .val (.int p4), .val (.int p5), .val (.ref b1), .val (.int pp), .val (.int qq), .val (.int lo), .val (.int hi), .val (.int ex0), .val (.int r25)] [(.int (1 : Int32))])) (fun t k => XS.goto X25.here hx rfl (pc0 := 160) (pc' := 164) rfl (hb hby at_160) (by decide) (by decide) k) ?_
  exact Go.retN X25 hx (t := .boolean) Bd.returns Bd.notSynchronized (by simp) (hb hby at_164) (by decide) (by decide) e25 ⟨rfl, N25⟩

set_option maxRecDepth 65536 in
set_option maxHeartbeats 40000000 in
theorem comes_1 {Post : Tables → Env → Array Value → State → Outcome → State → Prop} (hpost : ∀ tb e args s v u, (limb_1_1.after args s (.returned v) u = true ∧ limb_1_2.after args s (.returned v) u = true ∧ True) → FrameEnd s (.returned v) u (Jvm.fieldLocs frame_1_writes args s ++ Jvm.arrayLocs frame_1_arrays args s ++ Jvm.staticLocs frame_1_statics s) 16 128 → Post tb e args s (.returned v) u) :
    ArmFor flags0 classFile x code maxLocals ret World_1 tables_1 room_1 Calls_1 rest_1 Pre_1 Post := by
  intro l hfl _ _ p e ha hc hk s m args below hf hA hF happ hP
  obtain ⟨hcalls, hrest, hpre⟩ := hP
  obtain ⟨-, -, -, hnamed, -, -, -, hat⟩ := (Spec.applies_iff hf).mp happ
  obtain ⟨hg, hn⟩ := and_e (Cond.before_iff.mp (show (Jvm.Cond.and given_1 narrow_1).before args s = true from hpre))
  obtain ⟨ga0, gb0⟩ := and_e hg
  obtain ⟨ga1, gb1⟩ := and_e gb0
  obtain ⟨ga2, gb2⟩ := and_e gb1
  obtain ⟨ga3, gb3⟩ := and_e gb2
  obtain ⟨ga4, gb4⟩ := and_e gb3
  obtain ⟨ga5, gb5⟩ := and_e gb4
  obtain ⟨w0, w1, w2, w3, w4, w5, rfl⟩ : ∃ w0 w1 w2 w3 w4 w5 : Value, args = #[w0, w1, w2, w3, w4, w5] := by
    have hs : args.size = 6 := by simpa [Cond.value, given_1] using ga0
    obtain ⟨L⟩ := args
    match L, hs with
    | [w0, w1, w2, w3, w4, w5], _ => exact ⟨w0, w1, w2, w3, w4, w5, rfl⟩
  have hw := fun d (hd : d ∈ tables_1) => atoms_spec (ws := Jvm.Cond.code x code maxLocals ret :: tables_1) hat d (List.mem_cons_of_mem _ hd)
  obtain ⟨i0, ei0⟩ := is_v ga1
  obtain rfl : w0 = (.int i0) := Option.some.inj ei0
  obtain ⟨i1, ei1⟩ := is_v ga2
  obtain rfl : w1 = (.int i1) := Option.some.inj ei1
  obtain ⟨i2, ei2⟩ := is_v ga3
  obtain rfl : w2 = (.int i2) := Option.some.inj ei2
  obtain ⟨i3, ei3⟩ := is_v ga4
  obtain rfl : w3 = (.int i3) := Option.some.inj ei3
  obtain ⟨i4, ei4⟩ := is_v ga5
  obtain rfl : w4 = (.int i4) := Option.some.inj ei4
  obtain ⟨i5, ei5⟩ := is_v gb5
  obtain rfl : w5 = (.int i5) := Option.some.inj ei5
  obtain ⟨n, o, h1, h2, h3, _, L, rfl, ⟨rfl, N⟩, hq⟩ := rm0 l s _ hw tables_1 i0 i1 i2 i3 i4 i5 s.heap s.heap.size (Nat.le_refl _)  p e ha hc hk s m _ below hf ((Spec.applies_iff_loose hf).mp happ).1 ⟨rfl, State.Warmed39.refl s, rfl⟩ trivial
  refine ⟨n, _, h1, h2, h3, hpost _ _ _ _ _ _ ⟨Cond.after_iff.mpr rfl, Cond.after_iff.mpr (eq_i res_at (Term.int_eval (1)) rfl), trivial⟩ ⟨hq.1, hq.2.1, (hq.2.2.sift fun y hy => Or.inr (N y hy)).mono (by decide) (by decide)⟩⟩
theorem main_1_1 : Claimed_1_1 := comes_1 fun _ _ _ _ _ _ h hF => ⟨h.1, hF⟩
theorem main_1_2 : Claimed_1_2 := comes_1 fun _ _ _ _ _ _ h hF => ⟨h.2.1, hF⟩

end Jvm.Pilot.@@N@@
namespace Jvm.Pilot.@@N@@
open Jvm Jvm.ClassFile Sem Op Lib Jvm.Free Jvm.Stand Jvm.Pilot.@@N@@.Jvm.D
/-! MADE BY PROGRAM (witnessworld.py) out of the Statement's table words and the real class files: 10 classes; the members and pool entries that the words name. The judged class is class 1, her method 3. -/
namespace start1
open Jvm.ClassFile
def u (s : String) : CpInfo := .utf8 (stringToUtf16 s)
/-- a pool by its gaps: so many unusable entries, then the entry; so many at the end -/
def gap : Nat → List CpInfo → List CpInfo
  | 0, r => r
  | n + 1, r => .unusable :: gap n r
def poolList (es : List (Nat × CpInfo)) (last : Nat) : List CpInfo := es.foldr (fun e r => gap e.1 (e.2 :: r)) (gap last [])
def pool (es : List (Nat × CpInfo)) (last : Nat) : Array CpInfo := ⟨poolList es last⟩
def fileOf (pool : Array CpInfo) (this : Nat) (attrs : Array Attribute := #[]) (ms : Array MethodInfo := #[]) (fl : Nat := 33) (sup : Nat := 0) (ifs : Array Nat := #[]) (fds : Array FieldInfo := #[]) : ClassFile where
  minorVersion := 0
  majorVersion := 65
  constantPool := pool
  accessFlags := fl
  thisClass := this
  superClass := sup
  interfaces := ifs
  fields := fds
  methods := ms
  attributes := attrs
def plain (name : String) (sup : Option ClassId) : Class where
  name := name
  kind := .ordinary
  loader := none
  accessFlags := 33
  super := sup
  interfaces := #[]
  cf := none
  fields := #[]
  methods := #[]
  instanceTypes := #[]
  staticTypes := #[]
  resolved := #[]
  callSites := []
  init := .initialized
  statics := none
  mirror := none

def pool0 : Array CpInfo := pool [(5, u "<init>"), (0, u "()V"), (1, .class_ 10), (1, u "java/lang/Object")] 113

def k0m0 : Method := { name := "<init>", desc := "()V", sig := { parameters := [], returnType := none }, accessFlags := 1, code := none }
/-- java/lang/Object -/
def k0 : Class := { plain "java/lang/Object" none with
  accessFlags := 33
  interfaces := #[]
  cf := some (fileOf pool0 8 #[] #[{ accessFlags := 1, nameIndex := 5, descriptorIndex := 6, attributes := #[] }] 33 0 #[] #[])
  fields := #[]
  methods := #[k0m0]
  instanceTypes := #[]
  staticTypes := #[]
  resolved := Array.replicate 124 none
  statics := none }

def pool1 : Array CpInfo := pool [(2, .class_ 4), (1, u "java/lang/Object"), (0, u "<init>"), (0, u "()V"), (0, .methodref 8 9), (0, .class_ 10), (0, .nameAndType 11 12), (0, u "com/example/dispatch_to_workers/dispatchtoworkers/mapreduce/LinesKeyEndPinLaw"), (0, u "draw"), (0, u "(I)B"), (0, .integer 2147483647), (0, .methodref 15 16), (0, .class_ 17), (0, .nameAndType 18 19), (0, u "java/lang/Math"), (0, u "min"), (0, u "(II)I"), (0, .methodref 15 21), (0, .nameAndType 22 19), (0, u "max"), (0, .methodref 8 24), (0, .nameAndType 25 26), (0, u "tabAt"), (0, u "([BIII)Z"), (0, .methodref 28 29), (0, .class_ 30), (0, .nameAndType 31 32), (0, u "com/example/dispatch_to_workers/dispatchtoworkers/mapreduce/Lines"), (0, u "keyEnd"), (0, u "([BII)I"), (3, u "law"), (0, u "(IIIIII)Z")] 4

def k1m0 : Method := { name := "<init>", desc := "()V", sig := { parameters := [], returnType := none }, accessFlags := 1, code := none }
def k1c1 : Code := { maxStack := 2, maxLocals := 1, code := method_2_code, exceptionTable := #[], attributes := #[] }
def k1m1 : Method := { name := "draw", desc := "(I)B", sig := { parameters := [.int], returnType := some .byte }, accessFlags := 10, code := some k1c1 }
def k1c2 : Code := { maxStack := 2, maxLocals := 4, code := method_3_code, exceptionTable := #[], attributes := #[] }
def k1m2 : Method := { name := "tabAt", desc := "([BIII)Z", sig := { parameters := [(.array .byte), .int, .int, .int], returnType := some .boolean }, accessFlags := 10, code := some k1c2 }
def k1c3 : Code := { maxStack := 4, maxLocals := 13, code := code, exceptionTable := #[], attributes := #[] }
def k1m3 : Method := { name := "law", desc := "(IIIIII)Z", sig := { parameters := [.int, .int, .int, .int, .int, .int], returnType := some .boolean }, accessFlags := 9, code := some k1c3 }
/-- com/example/dispatch_to_workers/dispatchtoworkers/mapreduce/LinesKeyEndPinLaw -/
def k1 : Class := { plain "com/example/dispatch_to_workers/dispatchtoworkers/mapreduce/LinesKeyEndPinLaw" (some 0) with
  accessFlags := 49
  interfaces := #[]
  cf := some (fileOf pool1 8 #[] #[{ accessFlags := 1, nameIndex := 5, descriptorIndex := 6, attributes := #[] }, { accessFlags := 10, nameIndex := 11, descriptorIndex := 12, attributes := #[] }, { accessFlags := 10, nameIndex := 25, descriptorIndex := 26, attributes := #[] }, { accessFlags := 9, nameIndex := 36, descriptorIndex := 37, attributes := #[] }] 49 2 #[] #[])
  fields := #[]
  methods := #[k1m0, k1m1, k1m2, k1m3]
  instanceTypes := #[]
  staticTypes := #[]
  resolved := Array.replicate 42 none
  statics := none }

def pool2 : Array CpInfo := pool [(1, .class_ 2), (0, u "java/lang/Math"), (1, .class_ 6), (1, u "java/lang/Object"), (0, u "<init>"), (0, u "()V"), (89, .class_ 100), (1, u "java/lang/Math$RandomNumberGeneratorHolder"), (71, u "negativeZeroFloatBits"), (0, u "J"), (2, u "negativeZeroDoubleBits"), (21, u "max"), (2, u "min"), (43, u "$assertionsDisabled"), (0, u "Z"), (88, u "(II)I"), (2, u "twoToTheDoubleScaleDown"), (0, u "D"), (4, u "twoToTheDoubleScaleUp"), (9, u "E"), (3, u "PI"), (2, u "TAU"), (2, u "DEGREES_TO_RADIANS"), (0, u "RADIANS_TO_DEGREES")] 94

def k2m0 : Method := { name := "<init>", desc := "()V", sig := { parameters := [], returnType := none }, accessFlags := 2, code := none }
def k2c1 : Code := { maxStack := 2, maxLocals := 2, code := jdk_29_method_65_code, exceptionTable := #[], attributes := #[] }
def k2m1 : Method := { name := "max", desc := "(II)I", sig := { parameters := [.int, .int], returnType := some .int }, accessFlags := 9, code := some k2c1 }
def k2c2 : Code := { maxStack := 2, maxLocals := 2, code := jdk_29_method_69_code, exceptionTable := #[], attributes := #[] }
def k2m2 : Method := { name := "min", desc := "(II)I", sig := { parameters := [.int, .int], returnType := some .int }, accessFlags := 9, code := some k2c2 }
/-- java/lang/Math -/
def k2 : Class := { plain "java/lang/Math" (some 0) with
  accessFlags := 49
  interfaces := #[]
  cf := some (fileOf pool2 1 #[.nestMembers #[98]] #[{ accessFlags := 2, nameIndex := 7, descriptorIndex := 8, attributes := #[] }, { accessFlags := 9, nameIndex := 198, descriptorIndex := 335, attributes := #[] }, { accessFlags := 9, nameIndex := 201, descriptorIndex := 335, attributes := #[] }] 49 4 #[] #[{ accessFlags := 25, nameIndex := 354, descriptorIndex := 339, attributes := #[] }, { accessFlags := 25, nameIndex := 358, descriptorIndex := 339, attributes := #[] }, { accessFlags := 25, nameIndex := 361, descriptorIndex := 339, attributes := #[] }, { accessFlags := 26, nameIndex := 364, descriptorIndex := 339, attributes := #[] }, { accessFlags := 26, nameIndex := 365, descriptorIndex := 339, attributes := #[] }, { accessFlags := 26, nameIndex := 172, descriptorIndex := 173, attributes := #[] }, { accessFlags := 26, nameIndex := 176, descriptorIndex := 173, attributes := #[] }, { accessFlags := 8, nameIndex := 344, descriptorIndex := 339, attributes := #[] }, { accessFlags := 8, nameIndex := 338, descriptorIndex := 339, attributes := #[] }, { accessFlags := 4120, nameIndex := 245, descriptorIndex := 246, attributes := #[] }])
  fields := #[{ name := "E", type := .double, accessFlags := 25, slot := 0, constantValue := 0 }, { name := "PI", type := .double, accessFlags := 25, slot := 1, constantValue := 0 }, { name := "TAU", type := .double, accessFlags := 25, slot := 2, constantValue := 0 }, { name := "DEGREES_TO_RADIANS", type := .double, accessFlags := 26, slot := 3, constantValue := 0 }, { name := "RADIANS_TO_DEGREES", type := .double, accessFlags := 26, slot := 4, constantValue := 0 }, { name := "negativeZeroFloatBits", type := .long, accessFlags := 26, slot := 5, constantValue := 0 }, { name := "negativeZeroDoubleBits", type := .long, accessFlags := 26, slot := 6, constantValue := 0 }, { name := "twoToTheDoubleScaleUp", type := .double, accessFlags := 8, slot := 7, constantValue := 0 }, { name := "twoToTheDoubleScaleDown", type := .double, accessFlags := 8, slot := 8, constantValue := 0 }, { name := "$assertionsDisabled", type := .boolean, accessFlags := 4120, slot := 9, constantValue := 0 }]
  methods := #[k2m0, k2m1, k2m2]
  instanceTypes := #[]
  staticTypes := #[.double, .double, .double, .double, .double, .long, .long, .double, .double, .boolean]
  resolved := Array.replicate 460 none
  statics := none }

def pool3 : Array CpInfo := pool [(2, .class_ 4), (1, u "java/lang/Object"), (0, u "<init>"), (0, u "()V"), (6, .class_ 14), (0, u "com/example/dispatch_to_workers/dispatchtoworkers/mapreduce/Lines"), (0, .methodref 13 16), (0, .nameAndType 17 18), (0, u "indexOf"), (0, u "([BIIB)I"), (36, .class_ 56), (0, u "com/example/dispatch_to_workers/dispatchtoworkers/mapreduce/Lines$1"), (15, u "NEWLINE"), (0, u "B"), (2, u "TAB"), (1, u "FNV_OFFSET"), (0, u "J"), (0, u "FNV_PRIME"), (0, u "WRITE_BYTES"), (0, u "I"), (5, u "keyEnd"), (0, u "([BII)I")] 12

def k3m0 : Method := { name := "<init>", desc := "()V", sig := { parameters := [], returnType := none }, accessFlags := 2, code := none }
def k3c1 : Code := { maxStack := 4, maxLocals := 4, code := prog_46_method_3_code, exceptionTable := #[], attributes := #[] }
def k3m1 : Method := { name := "keyEnd", desc := "([BII)I", sig := { parameters := [(.array .byte), .int, .int], returnType := some .int }, accessFlags := 8, code := some k3c1 }
def k3c2 : Code := { maxStack := 2, maxLocals := 5, code := prog_46_method_7_code, exceptionTable := #[], attributes := #[] }
def k3m2 : Method := { name := "indexOf", desc := "([BIIB)I", sig := { parameters := [(.array .byte), .int, .int, .byte], returnType := some .int }, accessFlags := 8, code := some k3c2 }
/-- com/example/dispatch_to_workers/dispatchtoworkers/mapreduce/Lines -/
def k3 : Class := { plain "com/example/dispatch_to_workers/dispatchtoworkers/mapreduce/Lines" (some 0) with
  accessFlags := 32
  interfaces := #[]
  cf := some (fileOf pool3 13 #[.nestMembers #[55]] #[{ accessFlags := 2, nameIndex := 5, descriptorIndex := 6, attributes := #[] }, { accessFlags := 8, nameIndex := 88, descriptorIndex := 89, attributes := #[] }, { accessFlags := 8, nameIndex := 17, descriptorIndex := 18, attributes := #[] }] 32 2 #[] #[{ accessFlags := 24, nameIndex := 72, descriptorIndex := 73, attributes := #[] }, { accessFlags := 24, nameIndex := 76, descriptorIndex := 73, attributes := #[] }, { accessFlags := 26, nameIndex := 78, descriptorIndex := 79, attributes := #[] }, { accessFlags := 26, nameIndex := 80, descriptorIndex := 79, attributes := #[] }, { accessFlags := 26, nameIndex := 81, descriptorIndex := 82, attributes := #[] }])
  fields := #[{ name := "NEWLINE", type := .byte, accessFlags := 24, slot := 0, constantValue := 0 }, { name := "TAB", type := .byte, accessFlags := 24, slot := 1, constantValue := 0 }, { name := "FNV_OFFSET", type := .long, accessFlags := 26, slot := 2, constantValue := 0 }, { name := "FNV_PRIME", type := .long, accessFlags := 26, slot := 3, constantValue := 0 }, { name := "WRITE_BYTES", type := .int, accessFlags := 26, slot := 4, constantValue := 0 }]
  methods := #[k3m0, k3m1, k3m2]
  instanceTypes := #[]
  staticTypes := #[.byte, .byte, .long, .long, .int]
  resolved := Array.replicate 102 none
  statics := none }

def pool4 : Array CpInfo := pool [(1, u "java/lang/Cloneable"), (0, .class_ 1), (0, u "java/lang/Object"), (0, .class_ 3)] 3

/-- java/lang/Cloneable -/
def k4 : Class := { plain "java/lang/Cloneable" (some 0) with
  accessFlags := 1537
  interfaces := #[]
  cf := some (fileOf pool4 2 #[] #[] 1537 4 #[] #[])
  fields := #[]
  methods := #[]
  instanceTypes := #[]
  staticTypes := #[]
  resolved := Array.replicate 8 none
  statics := none }

def pool5 : Array CpInfo := pool [(1, u "java/io/Serializable"), (0, .class_ 1), (0, u "java/lang/Object"), (0, .class_ 3)] 3

/-- java/io/Serializable -/
def k5 : Class := { plain "java/io/Serializable" (some 0) with
  accessFlags := 1537
  interfaces := #[]
  cf := some (fileOf pool5 2 #[] #[] 1537 4 #[] #[])
  fields := #[]
  methods := #[]
  instanceTypes := #[]
  staticTypes := #[]
  resolved := Array.replicate 8 none
  statics := none }

/-- the primitive byte -/
def k6 : Class := { plain "byte" none with kind := .primitive 'B', accessFlags := 0x411 }
/-- [B -/
def k7 : Class := { plain "[B" (some 0) with kind := .array 6 .byte, interfaces := #[4, 5], accessFlags := 1041 }

/-- the primitive int -/
def k8 : Class := { plain "int" none with kind := .primitive 'I', accessFlags := 0x411 }
/-- [I -/
def k9 : Class := { plain "[I" (some 0) with kind := .array 8 .int, interfaces := #[4, 5], accessFlags := 1041 }

def heap : Heap := #[]
def classes : Array Class := #[k0, k1, k2, k3, k4, k5, k6, k7, k8, k9]
def interned : List (Array UInt16 × Addr) := []
def slotsUsed : Nat := 0
def theMethod : MethodId := ⟨1, 3⟩
def args0 : Array Value := #[.int 9, .int 8, .int 5, .int 2, .int 7, .int 3]
def aboutOver (below : List Frame) : State where
  vm := { classes := classes, interned := interned.toArray }
  heap := heap
  slotsUsed := slotsUsed
  threads := #[{ frames := .invoking theMethod args0 :: below }]
def below0 : List Frame := [.native { method := ⟨0, 0⟩, args := #[] }]
def about1 : State := aboutOver below0
def p0 : Program := .bare "" "" ""
def e0 : Env := launch0.env 0 0 0
theorem w_frames : about1.frames = Frame.invoking theMethod args0 :: below0 := rfl
set_option maxRecDepth 65536 in
theorem w_args : argsFit about1.vm theMethod args0 = true := by decide +kernel
set_option maxRecDepth 65536 in
theorem w_heap : heapFits about1 = true := by decide +kernel
set_option maxRecDepth 65536 in
theorem w_runnable : about1.curStatus? = some .runnable := by decide +kernel
set_option maxRecDepth 65536 in
theorem w_alone : about1.alone = true := by decide +kernel
set_option maxRecDepth 65536 in
theorem w_named : about1.methodNamed? x = some theMethod := by decide +kernel
set_option maxRecDepth 65536 in
theorem w_hears : about1.hears theMethod below0 = true := by decide +kernel
set_option maxRecDepth 65536 in
theorem w_ripe : about1.ripe theMethod args0 below0 = true := by decide +kernel
theorem w_running : about1.status = .running := rfl
set_option maxRecDepth 65536 in
theorem w_room : about1.hasRoom e0.platform room_1 = true :=
  launch0.hasRoom_least _ room_1 (by decide +kernel) (by decide +kernel) (by decide +kernel) (by decide +kernel) (by decide +kernel) (by decide +kernel)
theorem allAtoms_all (ts : List Jvm.Cond) (a : Array Jvm.Value) (st : Jvm.State) : (allAtoms ts).before a st = ts.all (fun c => c.before a st) := by
  induction ts with
  | nil => rfl
  | cons c t ih =>
    show (Jvm.Cond.and c (allAtoms t)).before a st = _
    rw [Jvm.Cond.before_and, ih, List.all_cons]
def words1 : List Jvm.Cond := Jvm.Cond.code x code maxLocals ret :: tables_1
/-- a 'code' word, met by the world's own term for the bytes: nothing is compared byte by byte -/
theorem code_word {y : MethodName} {bytes : ByteArray} {mx : Nat} {rt : Option FieldType} {a : Array Value} {s : State} {m : MethodId} {meth : Method} {c : Code} (h1 : s.methodNamed? y = some m) (h2 : s.vm.method? m = some meth) (h3 : meth.code = some c) (h4 : c.code = bytes)
    (h5 : (c.maxLocals == mx && c.exceptionTable.isEmpty && decide (c.maxStack ≤ mostOperands) && decide (meth.sig.returnType = rt) && !meth.locks && decide (parseMethodDescriptor y.desc = some meth.sig)) = true) : (Jvm.Cond.code y bytes mx rt).before a s = true := by
  simp only [Bool.and_eq_true, beq_iff_eq, Bool.not_eq_true', decide_eq_true_eq] at h5
  obtain ⟨⟨⟨⟨⟨g1, g2⟩, g3⟩, g4⟩, g5⟩, g6⟩ := h5
  simp [Cond.before, Cond.holds, Cond.value, h1, h2, h3, h4, g1, g2, g3, g4, g5, g6]
def isCode : Jvm.Cond → Bool
  | .code _ _ _ _ => true
  | _ => false
theorem all_split {L : List Jvm.Cond} {P : Jvm.Cond → Bool} (h1 : L.all (fun c => isCode c || P c) = true) (h2 : ∀ c ∈ L.filter isCode, P c = true) : L.all P = true := by
  refine List.all_eq_true.mpr fun c hc => ?_
  have h := List.all_eq_true.mp h1 c hc
  rcases Bool.eq_false_or_eq_true (isCode c) with hi | hi
  · exact h2 c (List.mem_filter.mpr ⟨hc, hi⟩)
  · simpa [hi] using h
set_option maxRecDepth 65536 in
theorem w_c0 : (Jvm.Cond.code x code maxLocals ret).before args0 about1 = true := code_word (m := ⟨1, 3⟩) (meth := k1m3) (c := k1c3) (by decide +kernel) rfl rfl rfl (by decide +kernel)
set_option maxRecDepth 65536 in
theorem w_c1 : (Jvm.Cond.code ({ cls := "com/example/dispatch_to_workers/dispatchtoworkers/mapreduce/LinesKeyEndPinLaw", name := "draw", desc := "(I)B" } : Jvm.MethodName) method_2_code (1 : Nat) (Option.some Jvm.ClassFile.FieldType.byte)).before args0 about1 = true := code_word (m := ⟨1, 1⟩) (meth := k1m1) (c := k1c1) (by decide +kernel) rfl rfl rfl (by decide +kernel)
set_option maxRecDepth 65536 in
theorem w_c2 : (Jvm.Cond.code ({ cls := "java/lang/Math", name := "min", desc := "(II)I" } : Jvm.MethodName) jdk_29_method_69_code (2 : Nat) (Option.some Jvm.ClassFile.FieldType.int)).before args0 about1 = true := code_word (m := ⟨2, 2⟩) (meth := k2m2) (c := k2c2) (by decide +kernel) rfl rfl rfl (by decide +kernel)
set_option maxRecDepth 65536 in
theorem w_c3 : (Jvm.Cond.code ({ cls := "java/lang/Math", name := "max", desc := "(II)I" } : Jvm.MethodName) jdk_29_method_65_code (2 : Nat) (Option.some Jvm.ClassFile.FieldType.int)).before args0 about1 = true := code_word (m := ⟨2, 1⟩) (meth := k2m1) (c := k2c1) (by decide +kernel) rfl rfl rfl (by decide +kernel)
set_option maxRecDepth 65536 in
theorem w_c4 : (Jvm.Cond.code ({ cls := "com/example/dispatch_to_workers/dispatchtoworkers/mapreduce/LinesKeyEndPinLaw", name := "tabAt", desc := "([BIII)Z" } : Jvm.MethodName) method_3_code (4 : Nat) (Option.some Jvm.ClassFile.FieldType.boolean)).before args0 about1 = true := code_word (m := ⟨1, 2⟩) (meth := k1m2) (c := k1c2) (by decide +kernel) rfl rfl rfl (by decide +kernel)
set_option maxRecDepth 65536 in
theorem w_c5 : (Jvm.Cond.code ({ cls := "com/example/dispatch_to_workers/dispatchtoworkers/mapreduce/Lines", name := "keyEnd", desc := "([BII)I" } : Jvm.MethodName) prog_46_method_3_code (4 : Nat) (Option.some Jvm.ClassFile.FieldType.int)).before args0 about1 = true := code_word (m := ⟨3, 1⟩) (meth := k3m1) (c := k3c1) (by decide +kernel) rfl rfl rfl (by decide +kernel)
set_option maxRecDepth 65536 in
theorem w_c6 : (Jvm.Cond.code ({ cls := "com/example/dispatch_to_workers/dispatchtoworkers/mapreduce/Lines", name := "indexOf", desc := "([BIIB)I" } : Jvm.MethodName) prog_46_method_7_code (5 : Nat) (Option.some Jvm.ClassFile.FieldType.int)).before args0 about1 = true := code_word (m := ⟨3, 2⟩) (meth := k3m2) (c := k3c2) (by decide +kernel) rfl rfl rfl (by decide +kernel)
def codes1 : List Jvm.Cond := [Jvm.Cond.code x code maxLocals ret, Jvm.Cond.code ({ cls := "com/example/dispatch_to_workers/dispatchtoworkers/mapreduce/LinesKeyEndPinLaw", name := "draw", desc := "(I)B" } : Jvm.MethodName) method_2_code (1 : Nat) (Option.some Jvm.ClassFile.FieldType.byte), Jvm.Cond.code ({ cls := "java/lang/Math", name := "min", desc := "(II)I" } : Jvm.MethodName) jdk_29_method_69_code (2 : Nat) (Option.some Jvm.ClassFile.FieldType.int), Jvm.Cond.code ({ cls := "java/lang/Math", name := "max", desc := "(II)I" } : Jvm.MethodName) jdk_29_method_65_code (2 : Nat) (Option.some Jvm.ClassFile.FieldType.int), Jvm.Cond.code ({ cls := "com/example/dispatch_to_workers/dispatchtoworkers/mapreduce/LinesKeyEndPinLaw", name := "tabAt", desc := "([BIII)Z" } : Jvm.MethodName) method_3_code (4 : Nat) (Option.some Jvm.ClassFile.FieldType.boolean), Jvm.Cond.code ({ cls := "com/example/dispatch_to_workers/dispatchtoworkers/mapreduce/Lines", name := "keyEnd", desc := "([BII)I" } : Jvm.MethodName) prog_46_method_3_code (4 : Nat) (Option.some Jvm.ClassFile.FieldType.int), Jvm.Cond.code ({ cls := "com/example/dispatch_to_workers/dispatchtoworkers/mapreduce/Lines", name := "indexOf", desc := "([BIIB)I" } : Jvm.MethodName) prog_46_method_7_code (5 : Nat) (Option.some Jvm.ClassFile.FieldType.int)]
set_option maxRecDepth 65536 in
theorem codes_eq : words1.filter isCode = codes1 := rfl
theorem w_codes : ∀ c ∈ words1.filter isCode, c.before args0 about1 = true := by
  rw [codes_eq]
  intro c hc
  simp only [codes1, List.mem_cons, List.not_mem_nil, or_false] at hc
  rcases hc with rfl | rfl | rfl | rfl | rfl | rfl | rfl
  · exact w_c0
  · exact w_c1
  · exact w_c2
  · exact w_c3
  · exact w_c4
  · exact w_c5
  · exact w_c6
set_option maxRecDepth 65536 in
theorem w_t1 : words1.all (fun c => isCode c || c.before args0 about1) = true := by decide +kernel
theorem w_tables : (allAtoms (Jvm.Cond.code x code maxLocals ret :: tables_1)).before args0 about1 = true := by
  rw [allAtoms_all]
  show words1.all (fun c => c.before args0 about1) = true
  refine all_split ?_ w_codes
  rw [w_t1]
set_option maxRecDepth 65536 in
theorem w_case : (Jvm.Cond.and given_1 narrow_1).before args0 about1 = true := by decide +kernel
theorem w_applies : (headSpec (Jvm.Cond.code x code maxLocals ret :: tables_1) room_1).applies x e0.platform about1 = true :=
  (Spec.applies_iff w_frames).mpr ⟨w_running, w_runnable, w_alone, w_named, w_hears, w_ripe, w_room, w_tables⟩
theorem atStart : AtStart classFile x code maxLocals ret World_1 tables_1 room_1 Calls_1 rest_1 Pre_1 launch0 p0 e0 about1 theMethod args0 below0 :=
  ⟨lists_1, trivial, launch0.admits_env _ _ _, launch0.least_env, fairChoices_fair.cas, fairChoices_fair.clock, w_frames, w_args, w_heap, w_applies, trivial, trivial, w_case⟩
end start1
theorem witness_1 : WitnessClaimed_1 := ⟨start1.p0, start1.e0, start1.about1, start1.theMethod, start1.args0, start1.below0, start1.atStart⟩
end Jvm.Pilot.@@N@@
