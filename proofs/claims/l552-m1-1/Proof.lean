import JvmDerived
import JvmDerived.Pilot.@@N@@Statement
import JvmDerived.Pilot.@@N@@Code
set_option linter.unusedVariables false
set_option linter.unusedSimpArgs false
namespace Jvm.RoadKit
open Sem ClassFile Op Lib Jvm.Stand Jvm.Free Jvm.LawKit
section New
variable {p : Program} {l : Launch} {e : Env} {R : Room} {s : State} {m : MethodId} {args : Array Value} {below : List Frame} {meth : Method} {c : Code} {T : State} {locs : List Loc} {cells slots : Nat}
theorem retI (X : Stand p l e R s m args below meth c T locs cells slots) (hx : p.tables.exec = Jvm.exec) {pc : Nat} {Ls : Array Slot} {z : Int32} {rest : List Value} (hret : meth.sig.returnType = some .int) (hd : decode c.code pc = .ok (.ireturn, 1)) {fs : List Frame}
    (hl : ∀ (f : JFrame) (acts : List Action), f.method = m → f.locked = none → f.entered = [] → (doReturn e (T.setTop f) acts (some (.int z))).1 = T.setFrames fs) : Steps p.tables e below (T.setTop (mkF m pc Ls (.int z :: rest))) (T.setFrames fs) := by
  have hm' : T.vm.method? m = some meth := X.method'
  have hn : narrow .int (.int z) = .int z := rfl
  show Steps p.tables e below (T.setTop { method := m, pc := pc, locals := Ls, stack := _ :: rest, locked := none }) _
  jvm_step X.here [X.here.top, hx, hd, hm', hret, hn]
  first | (intro acts; rw [hl _ acts rfl rfl rfl]) | rw [hl _ _ rfl rfl rfl]
  exact Steps.refl _
end New
end Jvm.RoadKit
namespace Jvm.Pilot.@@N@@
open Jvm Jvm.ClassFile Sem Op Lib Jvm.Free Jvm.Stand Jvm.LawKit Jvm.RoadKit Bundle Jvm.Pilot.@@N@@.Jvm.D
section OwnGo
variable {p : Program} {l : Launch} {e : Env} {R : Room} {s : State} {m : MethodId} {args : Array Value} {below : List Frame} {meth : Method} {c : Code} {T T' : State} {locs : List Loc} {cells slots : Nat} {C S : Nat} {Q : Option Value → Heap → List Loc → Prop} {h : Heap}
/-- from here the run comes to a return of which Q holds -/
def Go (p : Program) (e : Env) (below : List Frame) (s : State) (Q : Option Value → Heap → List Loc → Prop) (C S : Nat) (S0 : State) : Prop :=
  ∃ s₂ o, Steps p.tables e below S0 s₂ ∧ s₂.status = .running ∧ Ended s₂ below o ∧ ∃ v L, o = .returned v ∧ Q v s₂.heap L ∧ FrameEnd s o s₂ L C S
theorem own_go {S0 : State} (k : Go p e below s Q C S S0) : ∃ s₂ o, Steps p.tables e below S0 s₂ ∧ s₂.status = .running ∧ Ended s₂ below o ∧ ∃ v L, o = .returned v ∧ Q v s₂.heap L ∧ FrameEnd s o s₂ L C S := k
theorem Go.to {g g' : JFrame} (st : ∀ t, Steps p.tables e below (T'.setTop g') t → Steps p.tables e below (T.setTop g) t) (k : Go p e below s Q C S (T'.setTop g')) : Go p e below s Q C S (T.setTop g) := by
  obtain ⟨s₂, o, h1, r⟩ := k
  exact ⟨s₂, o, st _ h1, r⟩
theorem Go.retI (X : Stand p l e R s m args below meth c T locs cells slots) (hx : p.tables.exec = Jvm.exec) {pc : Nat} {Ls : Array Slot} {z : Int32} {rest : List Value} (hret : meth.sig.returnType = some .int) (hlk : meth.locks = false) (hd : decode c.code pc = .ok (.ireturn, 1)) (hC : cells ≤ C) (hS : slots ≤ S) (eT : T.heap = h) (hQ : Q (some (.int z)) h locs) :
    Go p e below s Q C S (T.setTop (mkF m pc Ls (.int z :: rest))) := by
  obtain ⟨fs, hr, hrun, hended, hW, hsame⟩ := X.leave (v := some (.int z)) (fun h => by rw [hret] at h; cases h) hlk
  exact ⟨_, _, Jvm.RoadKit.retI X hx hret hd hr, hrun, hended, _, _, rfl, (show Q (some (.int z)) T.heap locs from eT ▸ hQ), ⟨_, rfl⟩, hW, hsame.mono hC hS⟩
theorem Go.retN (X : Stand p l e R s m args below meth c T locs cells slots) (hx : p.tables.exec = Jvm.exec) {pc : Nat} {Ls : Array Slot} {z : Int32} {t : FieldType} {rest : List Value} (hret : meth.sig.returnType = some t) (hlk : meth.locks = false) (ht : t = .boolean ∨ t = .byte ∨ t = .char ∨ t = .short) (hd : decode c.code pc = .ok (.ireturn, 1)) (hC : cells ≤ C) (hS : slots ≤ S) (eT : T.heap = h) (hQ : Q (some (.int (nar t z))) h locs) :
    Go p e below s Q C S (T.setTop (mkF m pc Ls (.int z :: rest))) := by
  obtain ⟨fs, hr, hrun, hended, hW, hsame⟩ := X.leave (v := some (.int (nar t z))) (fun h => by rw [hret] at h; cases h) hlk
  exact ⟨_, _, Jvm.RoadKit.retN X hx hret ht hd hr, hrun, hended, _, _, rfl, (show Q (some (.int (nar t z))) T.heap locs from eT ▸ hQ), ⟨_, rfl⟩, hW, hsame.mono hC hS⟩
theorem Go.ret (X : Stand p l e R s m args below meth c T locs cells slots) (hx : p.tables.exec = Jvm.exec) {pc : Nat} {Ls : Array Slot} (hret : meth.sig.returnType = none) (hlk : meth.locks = false) (hd : decode c.code pc = .ok (.return_, 1)) (hC : cells ≤ C) (hS : slots ≤ S) (eT : T.heap = h) (hQ : Q none h locs) :
    Go p e below s Q C S (T.setTop (mkF m pc Ls [])) := by
  obtain ⟨fs, hr, hrun, hended, hW, hsame⟩ := X.leave (v := none) (fun _ => rfl) hlk
  exact ⟨_, _, X.returnOut hx hret hd hr, hrun, hended, _, _, rfl, (show Q none T.heap locs from eT ▸ hQ), ⟨_, rfl⟩, hW, hsame.mono hC hS⟩
theorem Go.retJ (X : Stand p l e R s m args below meth c T locs cells slots) (hx : p.tables.exec = Jvm.exec) {pc : Nat} {Ls : Array Slot} {z : Int64} {rest : List Value} (hret : meth.sig.returnType = some .long) (hlk : meth.locks = false) (hd : decode c.code pc = .ok (.lreturn, 1)) (hC : cells ≤ C) (hS : slots ≤ S) (eT : T.heap = h) (hQ : Q (some (.long z)) h locs) :
    Go p e below s Q C S (T.setTop (mkF m pc Ls (.long z :: rest))) := by
  obtain ⟨fs, hr, hrun, hended, hW, hsame⟩ := X.leave (v := some (.long z)) (fun h => by rw [hret] at h; cases h) hlk
  exact ⟨_, _, retOut X hx hret rfl (Or.inr (Or.inl ⟨rfl, rfl, _, rfl⟩)) hd hr, hrun, hended, _, _, rfl, (show Q (some (.long z)) T.heap locs from eT ▸ hQ), ⟨_, rfl⟩, hW, hsame.mono hC hS⟩
theorem Go.retA (X : Stand p l e R s m args below meth c T locs cells slots) (hx : p.tables.exec = Jvm.exec) {pc : Nat} {Ls : Array Slot} {z : Addr} {t : FieldType} {rest : List Value} (hret : meth.sig.returnType = some t) (hlk : meth.locks = false) (ht : t.isReference = true) (hd : decode c.code pc = .ok (.areturn, 1)) (hC : cells ≤ C) (hS : slots ≤ S) (eT : T.heap = h) (hQ : Q (some (.ref z)) h locs) :
    Go p e below s Q C S (T.setTop (mkF m pc Ls (.ref z :: rest))) := by
  obtain ⟨fs, hr, hrun, hended, hW, hsame⟩ := X.leave (v := some (.ref z)) (fun h => by rw [hret] at h; cases h) hlk
  exact ⟨_, _, retOut X hx hret (by cases t <;> first | rfl | cases ht) (Or.inr (Or.inr (Or.inr (Or.inr ⟨rfl, ht, rfl⟩)))) hd hr, hrun, hended, _, _, rfl, (show Q (some (.ref z)) T.heap locs from eT ▸ hQ), ⟨_, rfl⟩, hW, hsame.mono hC hS⟩
end OwnGo
theorem own_irr (x : Int32) : ¬ x < x := by rw [Int32.lt_iff_toInt_lt]; omega
theorem own_irrL (x : Int64) : ¬ x < x := by rw [Int64.lt_iff_toInt_lt]; omega
theorem own_lrem {p : Program} {l : Launch} {e : Env} {R : Room} {s : State} {m : MethodId} {args : Array Value} {below : List Frame} {meth : Method} {c : Code} {T target : State} {locs : List Loc} {cells slots : Nat} {g : JFrame} (X : Stand p l e R s m args below meth c T locs cells slots) (hx : p.tables.exec = Jvm.exec) (hg : g.method = m) {x y : Int64} {rest : List Value} (hd : decode c.code g.pc = .ok (.lrem, 1)) (hs : g.stack = .long y :: .long x :: rest) (hy : y ≠ 0)
    (hr : Steps p.tables e below (T.setTop { g with pc := g.pc + 1, stack := .long (x % y) :: rest }) target) : Steps p.tables e below (T.setTop g) target :=
  XS.lrem X.here hx hg hd hs hy (by rw [lrem_mod]; exact hr)
theorem own_int {c : Cell} {vs : List Value} {d : Value} {j z : Int32} (H : Has c vs d) (G : ∀ i, i < c.slots.size → fits .int (vs.getD i d) = true) (hin : ¬ (j < 0 ∨ c.slots.size ≤ j.toNatClampNeg)) : ∃ x : Int32, c.slots[j.toNatClampNeg]? = some (.int x) := by
  have hk : j.toNatClampNeg < c.slots.size := Nat.lt_of_not_le fun q => hin (Or.inr q)
  have h1 := H _ hk
  have h2 := G _ hk
  cases hv : vs.getD j.toNatClampNeg d with
  | int x => exact ⟨x, by rw [h1, hv]⟩
  | _ => rw [hv] at h2; simp [fits] at h2
theorem d2_0 : decode method_2_code 0 = .ok (.iload_n 2, 1) := by decide +kernel
theorem d2_1 : decode method_2_code 1 = .ok (.iload_n 1, 1) := by decide +kernel
theorem d2_2 : decode method_2_code 2 = .ok (.if_icmp .gt 20, 3) := by decide +kernel
theorem d2_22 : decode method_2_code 22 = .ok (.iconst 0, 1) := by decide +kernel
theorem d2_23 : decode method_2_code 23 = .ok (.ireturn, 1) := by decide +kernel
theorem d2_5 : decode method_2_code 5 = .ok (.iload_n 1, 1) := by decide +kernel
theorem d2_6 : decode method_2_code 6 = .ok (.iload_n 3, 1) := by decide +kernel
theorem d2_7 : decode method_2_code 7 = .ok (.if_icmp .ge 15, 3) := by decide +kernel
theorem d2_10 : decode method_2_code 10 = .ok (.aload_n 0, 1) := by decide +kernel
theorem d2_11 : decode method_2_code 11 = .ok (.iload_n 1, 1) := by decide +kernel
theorem d2_12 : decode method_2_code 12 = .ok (.baload, 1) := by decide +kernel
theorem d2_13 : decode method_2_code 13 = .ok (.iload 4, 2) := by decide +kernel
theorem d2_15 : decode method_2_code 15 = .ok (.if_icmp .ne 7, 3) := by decide +kernel
theorem d2_18 : decode method_2_code 18 = .ok (.iconst 1, 1) := by decide +kernel
theorem d2_19 : decode method_2_code 19 = .ok (.goto 4, 3) := by decide +kernel
theorem pn_com_example_dispatch_to_workers_dispatchtoworkers_mapreduce_LinesIndexOfPinLaw : plainName "com/example/dispatch_to_workers/dispatchtoworkers/mapreduce/LinesIndexOfPinLaw" = true := by first | (simp [plainName, overriddenIn]; done) | decide +kernel
theorem d3_0 : decode prog_46_method_7_code 0 = .ok (.iload_n 1, 1) := by decide +kernel
theorem d3_1 : decode prog_46_method_7_code 1 = .ok (.istore 4, 2) := by decide +kernel
theorem d3_3 : decode prog_46_method_7_code 3 = .ok (.iload 4, 2) := by decide +kernel
theorem d3_5 : decode prog_46_method_7_code 5 = .ok (.iload_n 2, 1) := by decide +kernel
theorem d3_6 : decode prog_46_method_7_code 6 = .ok (.if_icmp .ge 17, 3) := by decide +kernel
theorem d3_9 : decode prog_46_method_7_code 9 = .ok (.aload_n 0, 1) := by decide +kernel
theorem d3_10 : decode prog_46_method_7_code 10 = .ok (.iload 4, 2) := by decide +kernel
theorem d3_12 : decode prog_46_method_7_code 12 = .ok (.baload, 1) := by decide +kernel
theorem d3_13 : decode prog_46_method_7_code 13 = .ok (.iload_n 3, 1) := by decide +kernel
theorem d3_14 : decode prog_46_method_7_code 14 = .ok (.if_icmp .eq 9, 3) := by decide +kernel
theorem d3_23 : decode prog_46_method_7_code 23 = .ok (.iload 4, 2) := by decide +kernel
theorem d3_25 : decode prog_46_method_7_code 25 = .ok (.iload_n 2, 1) := by decide +kernel
theorem d3_26 : decode prog_46_method_7_code 26 = .ok (.if_icmp .ge 8, 3) := by decide +kernel
theorem d3_29 : decode prog_46_method_7_code 29 = .ok (.iload 4, 2) := by decide +kernel
theorem d3_31 : decode prog_46_method_7_code 31 = .ok (.goto 4, 3) := by decide +kernel
theorem d3_35 : decode prog_46_method_7_code 35 = .ok (.ireturn, 1) := by decide +kernel
theorem d3_17 : decode prog_46_method_7_code 17 = .ok (.iinc 4 1, 3) := by decide +kernel
theorem d3_20 : decode prog_46_method_7_code 20 = .ok (.goto (-17), 3) := by decide +kernel
theorem d3_34 : decode prog_46_method_7_code 34 = .ok (.iconst (-1), 1) := by decide +kernel
theorem pn_com_example_dispatch_to_workers_dispatchtoworkers_mapreduce_Lines : plainName "com/example/dispatch_to_workers/dispatchtoworkers/mapreduce/Lines" = true := by first | (simp [plainName, overriddenIn]; done) | decide +kernel
theorem d1_0 : decode method_3_code 0 = .ok (.aload_n 0, 1) := by decide +kernel
theorem d1_1 : decode method_3_code 1 = .ok (.iconst 0, 1) := by decide +kernel
theorem d1_2 : decode method_3_code 2 = .ok (.iload_n 1, 1) := by decide +kernel
theorem d1_3 : decode method_3_code 3 = .ok (.iload_n 2, 1) := by decide +kernel
theorem d1_4 : decode method_3_code 4 = .ok (.iload_n 3, 1) := by decide +kernel
theorem d1_5 : decode method_3_code 5 = .ok (.invokestatic 7, 3) := by decide +kernel
theorem pd_285bBIIIB29Z : parseMethodDescriptor "([BIIIB)Z" = some ⟨[(.array .byte), .int, .int, .int, .byte], some .boolean⟩ := by decide +kernel
theorem d1_8 : decode method_3_code 8 = .ok (.ifCond .eq 5, 3) := by decide +kernel
theorem d1_11 : decode method_3_code 11 = .ok (.iconst 0, 1) := by decide +kernel
theorem d1_12 : decode method_3_code 12 = .ok (.ireturn, 1) := by decide +kernel
theorem d1_13 : decode method_3_code 13 = .ok (.aload_n 0, 1) := by decide +kernel
theorem d1_14 : decode method_3_code 14 = .ok (.iconst 1, 1) := by decide +kernel
theorem d1_15 : decode method_3_code 15 = .ok (.iload_n 1, 1) := by decide +kernel
theorem d1_16 : decode method_3_code 16 = .ok (.iload_n 2, 1) := by decide +kernel
theorem d1_17 : decode method_3_code 17 = .ok (.iload_n 3, 1) := by decide +kernel
theorem d1_18 : decode method_3_code 18 = .ok (.invokestatic 7, 3) := by decide +kernel
theorem d1_21 : decode method_3_code 21 = .ok (.ifCond .eq 5, 3) := by decide +kernel
theorem d1_24 : decode method_3_code 24 = .ok (.iconst 1, 1) := by decide +kernel
theorem d1_25 : decode method_3_code 25 = .ok (.ireturn, 1) := by decide +kernel
theorem d1_26 : decode method_3_code 26 = .ok (.aload_n 0, 1) := by decide +kernel
theorem d1_27 : decode method_3_code 27 = .ok (.iconst 2, 1) := by decide +kernel
theorem d1_28 : decode method_3_code 28 = .ok (.iload_n 1, 1) := by decide +kernel
theorem d1_29 : decode method_3_code 29 = .ok (.iload_n 2, 1) := by decide +kernel
theorem d1_30 : decode method_3_code 30 = .ok (.iload_n 3, 1) := by decide +kernel
theorem d1_31 : decode method_3_code 31 = .ok (.invokestatic 7, 3) := by decide +kernel
theorem d1_34 : decode method_3_code 34 = .ok (.ifCond .eq 5, 3) := by decide +kernel
theorem d1_37 : decode method_3_code 37 = .ok (.iconst 2, 1) := by decide +kernel
theorem d1_38 : decode method_3_code 38 = .ok (.ireturn, 1) := by decide +kernel
theorem d1_39 : decode method_3_code 39 = .ok (.aload_n 0, 1) := by decide +kernel
theorem d1_40 : decode method_3_code 40 = .ok (.iconst 3, 1) := by decide +kernel
theorem d1_41 : decode method_3_code 41 = .ok (.iload_n 1, 1) := by decide +kernel
theorem d1_42 : decode method_3_code 42 = .ok (.iload_n 2, 1) := by decide +kernel
theorem d1_43 : decode method_3_code 43 = .ok (.iload_n 3, 1) := by decide +kernel
theorem d1_44 : decode method_3_code 44 = .ok (.invokestatic 7, 3) := by decide +kernel
theorem d1_47 : decode method_3_code 47 = .ok (.ifCond .eq 5, 3) := by decide +kernel
theorem d1_50 : decode method_3_code 50 = .ok (.iconst 3, 1) := by decide +kernel
theorem d1_51 : decode method_3_code 51 = .ok (.ireturn, 1) := by decide +kernel
theorem d1_52 : decode method_3_code 52 = .ok (.iconst (-1), 1) := by decide +kernel
theorem d1_53 : decode method_3_code 53 = .ok (.ireturn, 1) := by decide +kernel
theorem pd_285bBIIB29I : parseMethodDescriptor "([BIIB)I" = some ⟨[(.array .byte), .int, .int, .byte], some .int⟩ := by decide +kernel
section OwnBytes
variable {Z : State} {h h' : Heap} {a b : Addr} {n : Int} {f : Int32 → Int32} {ws : List Addr} {sl : Nat} {v : Value}
/-- at a lies a byte array of n places; place j holds f j -/
def own_By (Z : State) (h : Heap) (a : Addr) (n : Int) (f : Int32 → Int32) : Prop := ∃ c : Cell, Arr Z h a c .byte ∧ (c.slots.size : Int) = n ∧ ∀ j : Int32, ¬ j < 0 → j.toInt < n → c.slots[j.toNatClampNeg]? = some (.int (f j))
theorem own_By.ext (B : own_By Z h a n f) (E : Ext h h') : own_By Z h' a n f := by
  obtain ⟨c, A, r⟩ := B
  exact ⟨c, A.ext E, r⟩
theorem own_By.other (B : own_By Z h b n f) (W : Wr h h' a sl v) (q : b ≠ a) : own_By Z h' b n f := by
  obtain ⟨c, A, r⟩ := B
  exact ⟨c, A.other W q, r⟩
theorem own_By.keep (B : own_By Z h a n f) (K : Keep h h' ws) (q : a ∉ ws) : own_By Z h' a n f := by
  obtain ⟨c, A, r⟩ := B
  exact ⟨c, ⟨K.2.1 a c A.1 q, A.2⟩, r⟩
theorem own_By.lt (B : own_By Z h a n f) : a < h.size := by
  obtain ⟨c, A, r⟩ := B
  exact A.lt
theorem own_nneg {j : Int32} (h : ¬ j < 0) : 0 ≤ j.toInt := by
  rw [Int32.lt_iff_toInt_lt] at h
  have e0 : (0 : Int32).toInt = 0 := rfl
  omega
theorem own_by_in {c : Cell} {j : Int32} (hs : (c.slots.size : Int) = n) (h1 : ¬ j < 0) (h2 : j.toInt < n) : ¬ (j < 0 ∨ c.slots.size ≤ j.toNatClampNeg) := by
  have h3 := own_nneg h1
  rintro (q | q)
  · exact h1 q
  · simp only [Int32.toNatClampNeg] at q
    omega
def own_iv (v : Value) : Int32 := match v with
  | .int x => x
  | _ => 0
theorem own_by_of {k : ClassId} {z : Int32} {vs : List Value} {d : Value} (V : Arv Z h a k .byte z vs d) (hz : z.toInt = n) : ∃ f, own_By Z h a n f := by
  obtain ⟨c, A, -, S, M, H, G⟩ := V
  have h3 := own_nneg M
  have hs : (c.slots.size : Int) = n := by
    rw [S]
    simp only [Int32.toNatClampNeg]
    omega
  refine ⟨fun j => own_iv (vs.getD j.toNatClampNeg d), c, A, hs, fun j h1 h2 => ?_⟩
  have hk : j.toNatClampNeg < c.slots.size := Nat.lt_of_not_le fun q => own_by_in hs h1 h2 (Or.inr q)
  have e1 := H _ hk
  have e2 := G _ hk
  rw [e1]
  show some (vs.getD j.toNatClampNeg d) = some (.int (own_iv (vs.getD j.toNatClampNeg d)))
  cases hv : vs.getD j.toNatClampNeg d with
  | int x => rfl
  | _ => rw [hv] at e2; simp [fits] at e2
end OwnBytes
theorem own_inc {i p : Int32} (h : i < p) : (i + (1 : Int32)).toInt = i.toInt + 1 := by
  have h1 := c_iadd i (1 : Int32)
  have h2 := rng32 p
  have h3 := rng32 i
  have h4 := rng32 (i + (1 : Int32))
  have e1 : (1 : Int32).toInt = 1 := rfl
  rw [Int32.lt_iff_toInt_lt] at h
  omega
theorem own_intB {c : Cell} {vs : List Value} {d : Value} {j z : Int32} (H : Has c vs d) (G : ∀ i, i < c.slots.size → fits .byte (vs.getD i d) = true) (hin : ¬ (j < 0 ∨ c.slots.size ≤ j.toNatClampNeg)) : ∃ x : Int32, c.slots[j.toNatClampNeg]? = some (.int x) := by
  have hk : j.toNatClampNeg < c.slots.size := Nat.lt_of_not_le fun q => hin (Or.inr q)
  have h1 := H _ hk
  have h2 := G _ hk
  cases hv : vs.getD j.toNatClampNeg d with
  | int x => exact ⟨x, by rw [h1, hv]⟩
  | _ => rw [hv] at h2; simp [fits] at h2
def own_upd (f : Int32 → Int32) (j x : Int32) : Int32 → Int32 := fun i => if i = j then x else f i
theorem own_upd1 {f : Int32 → Int32} {j x i : Int32} (h : i = j) : own_upd f j x i = x := if_pos h
theorem own_upd0 {f : Int32 → Int32} {j x i : Int32} (h : ¬ i = j) : own_upd f j x i = f i := if_neg h
theorem own_By.set {Z : State} {h h' : Heap} {a : Addr} {n : Int} {f : Int32 → Int32} {j x : Int32} (B : own_By Z h a n f) (hj : ¬ j < 0) (W : Wr h h' a j.toNatClampNeg (.int x)) : own_By Z h' a n (own_upd f j x) := by
  obtain ⟨c, A, S, H⟩ := B
  refine ⟨_, A.same W, by rw [sz_set]; exact S, fun i h1 h2 => ?_⟩
  by_cases q : i = j
  · rw [own_upd1 q]
    refine get_hit ?_ q
    subst q
    exact own_by_in S h1 h2
  · rw [own_upd0 q, get_miss hj h1 q]
    exact H i h1 h2

/-- r is the first place from a up to b (excluded) that holds v, or -1 where there is none -/
def own_first (f : Int32 → Int32) (a b v r : Int32) : Prop := (r = (-1 : Int32) ∧ ∀ j : Int32, a.toInt ≤ j.toInt → j.toInt < b.toInt → ¬ f j = v) ∨ (a.toInt ≤ r.toInt ∧ r.toInt < b.toInt ∧ f r = v ∧ ∀ j : Int32, a.toInt ≤ j.toInt → j.toInt < r.toInt → ¬ f j = v)
def own_hit (f : Int32 → Int32) (i a b v : Int32) : Prop := ¬ i < a ∧ i < b ∧ f i = v
theorem own_uni {f : Int32 → Int32} {a b v r t : Int32} (ha : ¬ a < 0) (h1 : own_first f a b v r) (h2 : own_first f a b v t) : r = t := by
  have h0 := own_nneg ha
  have em : (-1 : Int32).toInt = -1 := rfl
  rcases h1 with ⟨q1, q2⟩ | ⟨q1, q2, q3, q4⟩ <;> rcases h2 with ⟨r1, r2⟩ | ⟨r1, r2, r3, r4⟩
  · rw [q1, r1]
  · exact absurd r3 (q2 _ r1 r2)
  · exact absurd q3 (r2 _ q1 q2)
  · refine Int32.toInt_inj.mp ?_
    rcases Int.lt_trichotomy r.toInt t.toInt with q | q | q
    · exact absurd q3 (r4 _ q1 q)
    · exact q
    · exact absurd r3 (q4 _ r1 q)

theorem own_h0 {p : Prop} {r : Int32} (hr : (p ∧ r = (1 : Int32)) ∨ (¬ p ∧ r = (0 : Int32))) (h : ¬ p) : r = (0 : Int32) := hr.elim (fun q => absurd q.1 h) (fun q => q.2)
theorem own_h1 {p : Prop} {r : Int32} (hr : (p ∧ r = (1 : Int32)) ∨ (¬ p ∧ r = (0 : Int32))) (h : p) : r = (1 : Int32) := hr.elim (fun q => q.2) (fun q => absurd h q.1)
theorem own_l1 {i p2 : Int32} {n : Nat} (h : i < p2) (hm : (p2.toInt - i.toInt).toNat < n + 1) : (p2.toInt - (i + (1 : Int32)).toInt).toNat < n := by
  rw [own_inc h]
  rw [Int32.lt_iff_toInt_lt] at h
  omega
theorem own_l2 {i p1 p2 : Int32} (h : i < p2) (h2 : p1.toInt ≤ i.toInt) : p1.toInt ≤ (i + (1 : Int32)).toInt := by
  rw [own_inc h]
  omega
theorem own_l3 {i p1 p2 v : Int32} {f : Int32 → Int32} (h : i < p2) (hne : ¬ f i = v) (h3 : ∀ j : Int32, p1.toInt ≤ j.toInt → j.toInt < i.toInt → ¬ f j = v) : ∀ j : Int32, p1.toInt ≤ j.toInt → j.toInt < (i + (1 : Int32)).toInt → ¬ f j = v := by
  intro j q1 q2
  rw [own_inc h] at q2
  by_cases q : j.toInt < i.toInt
  · exact h3 j q1 q
  · have : j = i := Int32.toInt_inj.mp (by omega)
    rw [this]
    exact hne
theorem own_ge {a i : Int32} (h : ¬ a < 0) (h2 : a.toInt ≤ i.toInt) : ¬ i < 0 := by
  have h3 := own_nneg h
  rw [Int32.lt_iff_toInt_lt]
  have e0 : (0 : Int32).toInt = 0 := rfl
  omega
theorem own_lt4 {i b : Int32} (h : i < b) (h2 : b.toInt ≤ 4) : i.toInt < 4 := by
  rw [Int32.lt_iff_toInt_lt] at h
  omega
theorem own_f0 {f : Int32 → Int32} {a b v i : Int32} (h : ¬ i < b) (h3 : ∀ j : Int32, a.toInt ≤ j.toInt → j.toInt < i.toInt → ¬ f j = v) : own_first f a b v (-1 : Int32) := by
  rw [Int32.lt_iff_toInt_lt] at h
  exact Or.inl ⟨rfl, fun j q1 q2 => h3 j q1 (by omega)⟩
theorem own_f1 {f : Int32 → Int32} {a b v i : Int32} (h : i < b) (h2 : a.toInt ≤ i.toInt) (he : f i = v) (h3 : ∀ j : Int32, a.toInt ≤ j.toInt → j.toInt < i.toInt → ¬ f j = v) : own_first f a b v i := by
  rw [Int32.lt_iff_toInt_lt] at h
  exact Or.inr ⟨h2, h, he, h3⟩

theorem own_small {j : Int32} (h0 : 0 ≤ j.toInt) (h4 : j.toInt < 4) : j = (0 : Int32) ∨ j = (1 : Int32) ∨ j = (2 : Int32) ∨ j = (3 : Int32) := by
  simp only [← Int32.toInt_inj, show (0 : Int32).toInt = 0 from rfl, show (1 : Int32).toInt = 1 from rfl, show (2 : Int32).toInt = 2 from rfl, show (3 : Int32).toInt = 3 from rfl]
  omega
theorem own_hz {f : Int32 → Int32} {a b v i : Int32} (h : ¬ own_hit f i a b v) (h1 : a.toInt ≤ i.toInt) (h2 : i.toInt < b.toInt) : ¬ f i = v := fun q => h ⟨by rw [Int32.lt_iff_toInt_lt]; omega, by rw [Int32.lt_iff_toInt_lt]; omega, q⟩
theorem own_pick {f : Int32 → Int32} {a b v i : Int32} (ha : ¬ a < 0) (h : own_hit f i a b v) (hno : ∀ j : Int32, 0 ≤ j.toInt → j.toInt < i.toInt → ¬ own_hit f j a b v) : own_first f a b v i := by
  obtain ⟨h1, h2, h3⟩ := h
  have h0 := own_nneg ha
  rw [Int32.lt_iff_toInt_lt] at h1 h2
  exact Or.inr ⟨by omega, h2, h3, fun j q1 q2 => own_hz (hno j (by omega) q2) q1 (by omega)⟩
theorem own_r0 {f : Int32 → Int32} {a b v : Int32} (ha : ¬ a < 0) (h : own_hit f (0 : Int32) a b v) : own_first f a b v (0 : Int32) := own_pick ha h fun j q1 q2 => by
  rw [show (0 : Int32).toInt = 0 from rfl] at q2
  omega
theorem own_r1 {f : Int32 → Int32} {a b v : Int32} (ha : ¬ a < 0) (h0 : ¬ own_hit f (0 : Int32) a b v) (h : own_hit f (1 : Int32) a b v) : own_first f a b v (1 : Int32) := own_pick ha h fun j q1 q2 => by
  rw [show (1 : Int32).toInt = 1 from rfl] at q2
  rcases own_small q1 (by omega) with rfl | rfl | rfl | rfl <;> first | assumption | (exact absurd q2 (by decide))
theorem own_r2 {f : Int32 → Int32} {a b v : Int32} (ha : ¬ a < 0) (h0 : ¬ own_hit f (0 : Int32) a b v) (h1 : ¬ own_hit f (1 : Int32) a b v) (h : own_hit f (2 : Int32) a b v) : own_first f a b v (2 : Int32) := own_pick ha h fun j q1 q2 => by
  rw [show (2 : Int32).toInt = 2 from rfl] at q2
  rcases own_small q1 (by omega) with rfl | rfl | rfl | rfl <;> first | assumption | (exact absurd q2 (by decide))
theorem own_r3 {f : Int32 → Int32} {a b v : Int32} (ha : ¬ a < 0) (h0 : ¬ own_hit f (0 : Int32) a b v) (h1 : ¬ own_hit f (1 : Int32) a b v) (h2 : ¬ own_hit f (2 : Int32) a b v) (h : own_hit f (3 : Int32) a b v) : own_first f a b v (3 : Int32) := own_pick ha h fun j q1 q2 => by
  rw [show (3 : Int32).toInt = 3 from rfl] at q2
  rcases own_small q1 (by omega) with rfl | rfl | rfl | rfl <;> first | assumption | (exact absurd q2 (by decide))
theorem own_rn {f : Int32 → Int32} {a b v : Int32} (ha : ¬ a < 0) (hb : b.toInt ≤ 4) (h0 : ¬ own_hit f (0 : Int32) a b v) (h1 : ¬ own_hit f (1 : Int32) a b v) (h2 : ¬ own_hit f (2 : Int32) a b v) (h3 : ¬ own_hit f (3 : Int32) a b v) : own_first f a b v (-1 : Int32) := by
  have q0 := own_nneg ha
  refine Or.inl ⟨rfl, fun j q1 q2 => own_hz ?_ q1 q2⟩
  rcases own_small (j := j) (by omega) (by omega) with rfl | rfl | rfl | rfl <;> assumption
theorem own_m5 (x : Int32) : ¬ ((x &&& (7 : Int32)) % (5 : Int32)) < 0 ∧ ((x &&& (7 : Int32)) % (5 : Int32)).toInt ≤ 4 := by
  have h1 := c_mask x (7 : Int32) 3 (by decide) (by decide)
  have h2 := (c_irem (x &&& (7 : Int32)) (5 : Int32) 5 rfl).1
  have e0 : (0 : Int32).toInt = 0 := rfl
  rw [Int32.lt_iff_toInt_lt]
  omega
theorem own_idx (x : Int32) : ¬ (x &&& (3 : Int32)) < 0 ∧ (x &&& (3 : Int32)) < (4 : Int32) := by
  have h1 := c_mask x (3 : Int32) 2 (by decide) (by decide)
  have e0 : (0 : Int32).toInt = 0 := rfl
  have e1 : (4 : Int32).toInt = 4 := rfl
  rw [Int32.lt_iff_toInt_lt, Int32.lt_iff_toInt_lt]
  omega

theorem ef_rm2 (m : MethodId) (x0 : Addr) (x1 : Int32) (x2 : Int32) (x3 : Int32) (x4 : Int32) : entryFrame m #[(.ref x0), (.int x1), (.int x2), (.int x3), (.int x4)] 5 = mkF m 0 #[.val (.ref x0), .val (.int x1), .val (.int x2), .val (.int x3), .val (.int x4)] [] := by first | (simp [entryFrame, mkF, argsToLocals, Value.category]; done) | rfl
def Q2 (Z : State) (a0 : Addr) (i : Int32) (lo : Int32) (hi : Int32) (vl : Int32) (f : Int32 → Int32) (r : Int32) (h0 : Heap) (n0 : Nat) (v : Option Value) (h : Heap) (L : List Loc) : Prop := v = some (.int r) ∧ Fr n0 L ∧ h = h0
set_option maxRecDepth 65536 in
set_option maxHeartbeats 40000000 in
theorem rm2 (l : Launch) (Z : State) (aw : Array Value) (hw : ∀ d ∈ tables_1, d.before aw Z = true) (ws : List Jvm.Cond) (a0 : Addr) (i : Int32) (lo : Int32) (hi : Int32) (vl : Int32) (f : Int32 → Int32) (r : Int32) (h0 : Heap) (n0 : Nat) (Z0 : n0 ≤ h0.size) (B : own_By Z h0 a0 4 f) (hi0 : ¬ i < 0) (hi4 : i.toInt < 4) (hr : (own_hit f i lo hi vl ∧ r = (1 : Int32)) ∨ (¬ own_hit f i lo hi vl ∧ r = (0 : Int32))) :
    MetFree l (⟨"com/example/dispatch_to_workers/dispatchtoworkers/mapreduce/LinesIndexOfPinLaw", "hit", "([BIIIB)Z"⟩ : MethodName) (head1 (Jvm.Cond.code (⟨"com/example/dispatch_to_workers/dispatchtoworkers/mapreduce/LinesIndexOfPinLaw", "hit", "([BIIIB)Z"⟩ : MethodName) method_2_code 5 (some .boolean) :: ws) ({ frames := 0, cells := 0, slots := 0, locals := 0 } : Room)) (fun a U => a = #[(.ref a0), (.int i), (.int lo), (.int hi), (.int vl)] ∧ Z.Warmed39 U.vm ∧ U.heap = h0) (fun _ _ _ _ _ => True) (fun _ U o U' => ∃ v L, o = .returned v ∧ Q2 Z a0 i lo hi vl f r h0 n0 v U'.heap L ∧ FrameEnd U o U' L ({ frames := 0, cells := 0, slots := 0, locals := 0 } : Room).cells ({ frames := 0, cells := 0, slots := 0, locals := 0 } : Room).slots) := by
  refine MetFree.of_bodySF (plainFor_of_name pn_com_example_dispatch_to_workers_dispatchtoworkers_mapreduce_LinesIndexOfPinLaw) hisR ?_
  intro p e s m args below meth c s₁ Bd hml0 hP hK
  obtain ⟨rfl, hZ, hh⟩ := hP
  have hx := Bd.exec
  have hby := Bd.bytes
  have hml : c.maxLocals = 5 := hml0
  have hown : s.vm.findClass "com/example/dispatch_to_workers/dispatchtoworkers/mapreduce/LinesIndexOfPinLaw" = some m.cls := findClass_of_methodNamed Bd.named
  have hnm := (name_of_methodNamed Bd.named Bd.method).1
  have X0 : Stand p l e ({ frames := 0, cells := 0, slots := 0, locals := 0 } : Room) s m #[(.ref a0), (.int i), (.int lo), (.int hi), (.int vl)] below meth c s₁ [] 0 0 := Stand.of_body Bd
  have e0 : s₁.heap = h0 := by rw [← hh, Bd.state]; rfl
  have N0 := Fr.nil n0
  refine own_go (Q := Q2 Z a0 i lo hi vl f r h0 n0) ?_
  refine Go.to (g' := (mkF m 0 #[.val (.ref a0), .val (.int i), .val (.int lo), .val (.int hi), .val (.int vl)] [])) (fun t k => castTop (ef_rm2 m a0 i lo hi vl) k) ?_
  refine Go.to (g' := (mkF m 1 #[.val (.ref a0), .val (.int i), .val (.int lo), .val (.int hi), .val (.int vl)] [(.int lo)])) (fun t k => XS.iloadN X0.here hx rfl (hb hby d2_0) rfl k) ?_
  refine Go.to (g' := (mkF m 2 #[.val (.ref a0), .val (.int i), .val (.int lo), .val (.int hi), .val (.int vl)] [(.int i), (.int lo)])) (fun t k => XS.iloadN X0.here hx rfl (hb hby d2_1) rfl k) ?_
  by_cases c1 : i < lo
  · refine Go.to (g' := (mkF m 22 #[.val (.ref a0), .val (.int i), .val (.int lo), .val (.int hi), .val (.int vl)] [])) (fun t k => XS.icmpYes X0.here hx rfl (pc0 := 2) (pc' := 22) rfl (hb hby d2_2) rfl (tlt c1).2.2.1 (by decide) (by decide) k) ?_
    refine Go.to (g' := (mkF m 23 #[.val (.ref a0), .val (.int i), .val (.int lo), .val (.int hi), .val (.int vl)] [(.int (0 : Int32))])) (fun t k => XS.iconst X0.here hx rfl (hb hby d2_22) k) ?_
    exact Go.retN X0 hx (t := .boolean) Bd.returns Bd.notSynchronized (by simp) (hb hby d2_23) (by decide) (by decide) e0 ⟨by rw [own_h0 hr (fun q => q.1 c1)]; rfl, N0, rfl⟩
  · refine Go.to (g' := (mkF m 5 #[.val (.ref a0), .val (.int i), .val (.int lo), .val (.int hi), .val (.int vl)] [])) (fun t k => XS.icmpNo X0.here hx rfl (hb hby d2_2) rfl (flt c1).2.2.1 k) ?_
    refine Go.to (g' := (mkF m 6 #[.val (.ref a0), .val (.int i), .val (.int lo), .val (.int hi), .val (.int vl)] [(.int i)])) (fun t k => XS.iloadN X0.here hx rfl (hb hby d2_5) rfl k) ?_
    refine Go.to (g' := (mkF m 7 #[.val (.ref a0), .val (.int i), .val (.int lo), .val (.int hi), .val (.int vl)] [(.int hi), (.int i)])) (fun t k => XS.iloadN X0.here hx rfl (hb hby d2_6) rfl k) ?_
    by_cases c2 : i < hi
    · refine Go.to (g' := (mkF m 10 #[.val (.ref a0), .val (.int i), .val (.int lo), .val (.int hi), .val (.int vl)] [])) (fun t k => XS.icmpNo X0.here hx rfl (hb hby d2_7) rfl (tlt c2).2.1 k) ?_
      refine Go.to (g' := (mkF m 11 #[.val (.ref a0), .val (.int i), .val (.int lo), .val (.int hi), .val (.int vl)] [(.ref a0)])) (fun t k => XS.aloadN X0.here hx rfl (hb hby d2_10) rfl rfl k) ?_
      refine Go.to (g' := (mkF m 12 #[.val (.ref a0), .val (.int i), .val (.int lo), .val (.int hi), .val (.int vl)] [(.int i), (.ref a0)])) (fun t k => XS.iloadN X0.here hx rfl (hb hby d2_11) rfl k) ?_
      obtain ⟨cl3, Ar3, Sz3, Hf3⟩ := id B
      refine Go.to (g' := (mkF m 13 #[.val (.ref a0), .val (.int i), .val (.int lo), .val (.int hi), .val (.int vl)] [(.int (f i))])) (fun t k => X0.baloadBytes hx (j := i) (v := (.int (f i))) (by rw [e0]; exact Ar3.1) (State.isArrayOf_alike hZ.alike Ar3.2.1) Ar3.2.2 (own_by_in Sz3 hi0 hi4) (Hf3 _ hi0 hi4) (g := (mkF m 12 #[.val (.ref a0), .val (.int i), .val (.int lo), .val (.int hi), .val (.int vl)] [(.int i), (.ref a0)])) rfl rfl (hb hby d2_12) _ k) ?_
      refine Go.to (g' := (mkF m 15 #[.val (.ref a0), .val (.int i), .val (.int lo), .val (.int hi), .val (.int vl)] [(.int vl), (.int (f i))])) (fun t k => XS.iload X0.here hx rfl (hb hby d2_13) rfl k) ?_
      by_cases c4 : (f i) = vl
      · refine Go.to (g' := (mkF m 18 #[.val (.ref a0), .val (.int i), .val (.int lo), .val (.int hi), .val (.int vl)] [])) (fun t k => XS.icmpNo X0.here hx rfl (hb hby d2_15) rfl (teq c4).2 k) ?_
        refine Go.to (g' := (mkF m 19 #[.val (.ref a0), .val (.int i), .val (.int lo), .val (.int hi), .val (.int vl)] [(.int (1 : Int32))])) (fun t k => XS.iconst X0.here hx rfl (hb hby d2_18) k) ?_
        refine Go.to (g' := (mkF m 23 #[.val (.ref a0), .val (.int i), .val (.int lo), .val (.int hi), .val (.int vl)] [(.int (1 : Int32))])) (fun t k => XS.goto X0.here hx rfl (pc0 := 19) (pc' := 23) rfl (hb hby d2_19) (by decide) (by decide) k) ?_
        exact Go.retN X0 hx (t := .boolean) Bd.returns Bd.notSynchronized (by simp) (hb hby d2_23) (by decide) (by decide) e0 ⟨by rw [own_h1 hr ⟨c1, c2, c4⟩]; rfl, N0, rfl⟩
      · refine Go.to (g' := (mkF m 22 #[.val (.ref a0), .val (.int i), .val (.int lo), .val (.int hi), .val (.int vl)] [])) (fun t k => XS.icmpYes X0.here hx rfl (pc0 := 15) (pc' := 22) rfl (hb hby d2_15) rfl (feq c4).2 (by decide) (by decide) k) ?_
        refine Go.to (g' := (mkF m 23 #[.val (.ref a0), .val (.int i), .val (.int lo), .val (.int hi), .val (.int vl)] [(.int (0 : Int32))])) (fun t k => XS.iconst X0.here hx rfl (hb hby d2_22) k) ?_
        exact Go.retN X0 hx (t := .boolean) Bd.returns Bd.notSynchronized (by simp) (hb hby d2_23) (by decide) (by decide) e0 ⟨by rw [own_h0 hr (fun q => c4 q.2.2)]; rfl, N0, rfl⟩
    · refine Go.to (g' := (mkF m 22 #[.val (.ref a0), .val (.int i), .val (.int lo), .val (.int hi), .val (.int vl)] [])) (fun t k => XS.icmpYes X0.here hx rfl (pc0 := 7) (pc' := 22) rfl (hb hby d2_7) rfl (flt c2).2.1 (by decide) (by decide) k) ?_
      refine Go.to (g' := (mkF m 23 #[.val (.ref a0), .val (.int i), .val (.int lo), .val (.int hi), .val (.int vl)] [(.int (0 : Int32))])) (fun t k => XS.iconst X0.here hx rfl (hb hby d2_22) k) ?_
      exact Go.retN X0 hx (t := .boolean) Bd.returns Bd.notSynchronized (by simp) (hb hby d2_23) (by decide) (by decide) e0 ⟨by rw [own_h0 hr (fun q => c2 q.2.1)]; rfl, N0, rfl⟩

theorem ef_rm3 (m : MethodId) (x0 : Addr) (x1 : Int32) (x2 : Int32) (x3 : Int32) : entryFrame m #[(.ref x0), (.int x1), (.int x2), (.int x3)] 5 = mkF m 0 #[.val (.ref x0), .val (.int x1), .val (.int x2), .val (.int x3), .unset] [] := by first | (simp [entryFrame, mkF, argsToLocals, Value.category]; done) | rfl
def Q3 (Z : State) (a0 : Addr) (p1 : Int32) (p2 : Int32) (p3 : Int32) (f : Int32 → Int32) (h0 : Heap) (n0 : Nat) (v : Option Value) (h : Heap) (L : List Loc) : Prop := ∃ r : Int32, v = some (.int r) ∧ Fr n0 L ∧ h = h0 ∧ own_first f p1 p2 p3 r
set_option maxRecDepth 65536 in
set_option maxHeartbeats 40000000 in
theorem rm3 (l : Launch) (Z : State) (aw : Array Value) (hw : ∀ d ∈ tables_1, d.before aw Z = true) (ws : List Jvm.Cond) (a0 : Addr) (p1 : Int32) (p2 : Int32) (p3 : Int32) (f : Int32 → Int32) (h0 : Heap) (n0 : Nat) (Z0 : n0 ≤ h0.size) (B : own_By Z h0 a0 4 f) (hf : ¬ p1 < 0) (ht : p2.toInt ≤ 4) :
    MetFree l (⟨"com/example/dispatch_to_workers/dispatchtoworkers/mapreduce/Lines", "indexOf", "([BIIB)I"⟩ : MethodName) (head1 (Jvm.Cond.code (⟨"com/example/dispatch_to_workers/dispatchtoworkers/mapreduce/Lines", "indexOf", "([BIIB)I"⟩ : MethodName) prog_46_method_7_code 5 (some .int) :: ws) ({ frames := 0, cells := 0, slots := 0, locals := 0 } : Room)) (fun a U => a = #[(.ref a0), (.int p1), (.int p2), (.int p3)] ∧ Z.Warmed39 U.vm ∧ U.heap = h0) (fun _ _ _ _ _ => True) (fun _ U o U' => ∃ v L, o = .returned v ∧ Q3 Z a0 p1 p2 p3 f h0 n0 v U'.heap L ∧ FrameEnd U o U' L ({ frames := 0, cells := 0, slots := 0, locals := 0 } : Room).cells ({ frames := 0, cells := 0, slots := 0, locals := 0 } : Room).slots) := by
  refine MetFree.of_bodySF (plainFor_of_name pn_com_example_dispatch_to_workers_dispatchtoworkers_mapreduce_Lines) hisR ?_
  intro p e s m args below meth c s₁ Bd hml0 hP hK
  obtain ⟨rfl, hZ, hh⟩ := hP
  have hx := Bd.exec
  have hby := Bd.bytes
  have hml : c.maxLocals = 5 := hml0
  have hown : s.vm.findClass "com/example/dispatch_to_workers/dispatchtoworkers/mapreduce/Lines" = some m.cls := findClass_of_methodNamed Bd.named
  have hnm := (name_of_methodNamed Bd.named Bd.method).1
  have X0 : Stand p l e ({ frames := 0, cells := 0, slots := 0, locals := 0 } : Room) s m #[(.ref a0), (.int p1), (.int p2), (.int p3)] below meth c s₁ [] 0 0 := Stand.of_body Bd
  have e0 : s₁.heap = h0 := by rw [← hh, Bd.state]; rfl
  have N0 := Fr.nil n0
  refine own_go (Q := Q3 Z a0 p1 p2 p3 f h0 n0) ?_
  refine Go.to (g' := (mkF m 0 #[.val (.ref a0), .val (.int p1), .val (.int p2), .val (.int p3), .unset] [])) (fun t k => castTop (ef_rm3 m a0 p1 p2 p3) k) ?_
  refine Go.to (g' := (mkF m 1 #[.val (.ref a0), .val (.int p1), .val (.int p2), .val (.int p3), .unset] [(.int p1)])) (fun t k => XS.iloadN X0.here hx rfl (hb hby d3_0) rfl k) ?_
  refine Go.to (g' := (mkF m 3 #[.val (.ref a0), .val (.int p1), .val (.int p2), .val (.int p3), .val (.int p1)] [])) (fun t k => XS.istore X0.here hx rfl (hb hby d3_1) rfl (l' := #[.val (.ref a0), .val (.int p1), .val (.int p2), .val (.int p3), .val (.int p1)]) rfl k) ?_
  suffices loop : ∀ (n : Nat) (i : Int32) (hm : (p2.toInt - i.toInt).toNat < n) (h2 : p1.toInt ≤ i.toInt) (h3 : ∀ j : Int32, p1.toInt ≤ j.toInt → j.toInt < i.toInt → ¬ f j = p3), Go p e below s (Q3 Z a0 p1 p2 p3 f h0 n0) ({ frames := 0, cells := 0, slots := 0, locals := 0 } : Room).cells ({ frames := 0, cells := 0, slots := 0, locals := 0 } : Room).slots (s₁.setTop (mkF m 3 #[.val (.ref a0), .val (.int p1), .val (.int p2), .val (.int p3), .val (.int i)] [])) from loop ((p2.toInt - p1.toInt).toNat + 1) p1 (Nat.lt_succ_self _) (Int.le_refl _) (fun j h1 h2 => absurd h2 (Int.not_lt.mpr h1))
  intro n
  induction n with
  | zero => intro i hm h2 h3; exact absurd hm (Nat.not_lt_zero _)
  | succ n ih =>
    intro i hm h2 h3
    refine Go.to (g' := (mkF m 5 #[.val (.ref a0), .val (.int p1), .val (.int p2), .val (.int p3), .val (.int i)] [(.int i)])) (fun t k => XS.iload X0.here hx rfl (hb hby d3_3) rfl k) ?_
    refine Go.to (g' := (mkF m 6 #[.val (.ref a0), .val (.int p1), .val (.int p2), .val (.int p3), .val (.int i)] [(.int p2), (.int i)])) (fun t k => XS.iloadN X0.here hx rfl (hb hby d3_5) rfl k) ?_
    by_cases c1 : i < p2
    · refine Go.to (g' := (mkF m 9 #[.val (.ref a0), .val (.int p1), .val (.int p2), .val (.int p3), .val (.int i)] [])) (fun t k => XS.icmpNo X0.here hx rfl (hb hby d3_6) rfl (tlt c1).2.1 k) ?_
      refine Go.to (g' := (mkF m 10 #[.val (.ref a0), .val (.int p1), .val (.int p2), .val (.int p3), .val (.int i)] [(.ref a0)])) (fun t k => XS.aloadN X0.here hx rfl (hb hby d3_9) rfl rfl k) ?_
      refine Go.to (g' := (mkF m 12 #[.val (.ref a0), .val (.int p1), .val (.int p2), .val (.int p3), .val (.int i)] [(.int i), (.ref a0)])) (fun t k => XS.iload X0.here hx rfl (hb hby d3_10) rfl k) ?_
      obtain ⟨cl2, Ar2, Sz2, Hf2⟩ := id B
      refine Go.to (g' := (mkF m 13 #[.val (.ref a0), .val (.int p1), .val (.int p2), .val (.int p3), .val (.int i)] [(.int (f i))])) (fun t k => X0.baloadBytes hx (j := i) (v := (.int (f i))) (by rw [e0]; exact Ar2.1) (State.isArrayOf_alike hZ.alike Ar2.2.1) Ar2.2.2 (own_by_in Sz2 (own_ge hf h2) (own_lt4 c1 ht)) (Hf2 _ (own_ge hf h2) (own_lt4 c1 ht)) (g := (mkF m 12 #[.val (.ref a0), .val (.int p1), .val (.int p2), .val (.int p3), .val (.int i)] [(.int i), (.ref a0)])) rfl rfl (hb hby d3_12) _ k) ?_
      refine Go.to (g' := (mkF m 14 #[.val (.ref a0), .val (.int p1), .val (.int p2), .val (.int p3), .val (.int i)] [(.int p3), (.int (f i))])) (fun t k => XS.iloadN X0.here hx rfl (hb hby d3_13) rfl k) ?_
      by_cases c3 : (f i) = p3
      · refine Go.to (g' := (mkF m 23 #[.val (.ref a0), .val (.int p1), .val (.int p2), .val (.int p3), .val (.int i)] [])) (fun t k => XS.icmpYes X0.here hx rfl (pc0 := 14) (pc' := 23) rfl (hb hby d3_14) rfl (teq c3).1 (by decide) (by decide) k) ?_
        refine Go.to (g' := (mkF m 25 #[.val (.ref a0), .val (.int p1), .val (.int p2), .val (.int p3), .val (.int i)] [(.int i)])) (fun t k => XS.iload X0.here hx rfl (hb hby d3_23) rfl k) ?_
        refine Go.to (g' := (mkF m 26 #[.val (.ref a0), .val (.int p1), .val (.int p2), .val (.int p3), .val (.int i)] [(.int p2), (.int i)])) (fun t k => XS.iloadN X0.here hx rfl (hb hby d3_25) rfl k) ?_
        refine Go.to (g' := (mkF m 29 #[.val (.ref a0), .val (.int p1), .val (.int p2), .val (.int p3), .val (.int i)] [])) (fun t k => XS.icmpNo X0.here hx rfl (hb hby d3_26) rfl (tlt c1).2.1 k) ?_
        refine Go.to (g' := (mkF m 31 #[.val (.ref a0), .val (.int p1), .val (.int p2), .val (.int p3), .val (.int i)] [(.int i)])) (fun t k => XS.iload X0.here hx rfl (hb hby d3_29) rfl k) ?_
        refine Go.to (g' := (mkF m 35 #[.val (.ref a0), .val (.int p1), .val (.int p2), .val (.int p3), .val (.int i)] [(.int i)])) (fun t k => XS.goto X0.here hx rfl (pc0 := 31) (pc' := 35) rfl (hb hby d3_31) (by decide) (by decide) k) ?_
        exact Go.retI X0 hx Bd.returns Bd.notSynchronized (hb hby d3_35) (by decide) (by decide) e0 ⟨_, rfl, N0, rfl, own_f1 c1 h2 c3 h3⟩
      · refine Go.to (g' := (mkF m 17 #[.val (.ref a0), .val (.int p1), .val (.int p2), .val (.int p3), .val (.int i)] [])) (fun t k => XS.icmpNo X0.here hx rfl (hb hby d3_14) rfl (feq c3).1 k) ?_
        refine Go.to (g' := (mkF m 20 #[.val (.ref a0), .val (.int p1), .val (.int p2), .val (.int p3), .val (.int (i + (1 : Int32)))] [])) (fun t k => XS.iinc X0.here hx rfl (hb hby d3_17) rfl (l' := #[.val (.ref a0), .val (.int p1), .val (.int p2), .val (.int p3), .val (.int (i + (1 : Int32)))]) rfl k) ?_
        refine Go.to (g' := (mkF m 3 #[.val (.ref a0), .val (.int p1), .val (.int p2), .val (.int p3), .val (.int (i + (1 : Int32)))] [])) (fun t k => XS.goto X0.here hx rfl (pc0 := 20) (pc' := 3) rfl (hb hby d3_20) (by decide) (by decide) k) ?_
        exact ih _ (own_l1 c1 hm) (own_l2 c1 h2) (own_l3 c1 c3 h3)
    · refine Go.to (g' := (mkF m 23 #[.val (.ref a0), .val (.int p1), .val (.int p2), .val (.int p3), .val (.int i)] [])) (fun t k => XS.icmpYes X0.here hx rfl (pc0 := 6) (pc' := 23) rfl (hb hby d3_6) rfl (flt c1).2.1 (by decide) (by decide) k) ?_
      refine Go.to (g' := (mkF m 25 #[.val (.ref a0), .val (.int p1), .val (.int p2), .val (.int p3), .val (.int i)] [(.int i)])) (fun t k => XS.iload X0.here hx rfl (hb hby d3_23) rfl k) ?_
      refine Go.to (g' := (mkF m 26 #[.val (.ref a0), .val (.int p1), .val (.int p2), .val (.int p3), .val (.int i)] [(.int p2), (.int i)])) (fun t k => XS.iloadN X0.here hx rfl (hb hby d3_25) rfl k) ?_
      refine Go.to (g' := (mkF m 34 #[.val (.ref a0), .val (.int p1), .val (.int p2), .val (.int p3), .val (.int i)] [])) (fun t k => XS.icmpYes X0.here hx rfl (pc0 := 26) (pc' := 34) rfl (hb hby d3_26) rfl (flt c1).2.1 (by decide) (by decide) k) ?_
      refine Go.to (g' := (mkF m 35 #[.val (.ref a0), .val (.int p1), .val (.int p2), .val (.int p3), .val (.int i)] [(.int (-1 : Int32))])) (fun t k => XS.iconst X0.here hx rfl (hb hby d3_34) k) ?_
      exact Go.retI X0 hx Bd.returns Bd.notSynchronized (hb hby d3_35) (by decide) (by decide) e0 ⟨_, rfl, N0, rfl, own_f0 c1 h3⟩

theorem ef_rm1 (m : MethodId) (x0 : Addr) (x1 : Int32) (x2 : Int32) (x3 : Int32) : entryFrame m #[(.ref x0), (.int x1), (.int x2), (.int x3)] 4 = mkF m 0 #[.val (.ref x0), .val (.int x1), .val (.int x2), .val (.int x3)] [] := by first | (simp [entryFrame, mkF, argsToLocals, Value.category]; done) | rfl
def Q1 (Z : State) (a0 : Addr) (p1 : Int32) (p2 : Int32) (p3 : Int32) (f : Int32 → Int32) (h0 : Heap) (n0 : Nat) (v : Option Value) (h : Heap) (L : List Loc) : Prop := ∃ r : Int32, v = some (.int r) ∧ Fr n0 L ∧ h = h0 ∧ own_first f p1 p2 p3 r
set_option maxRecDepth 65536 in
set_option maxHeartbeats 40000000 in
theorem rm1 (l : Launch) (Z : State) (aw : Array Value) (hw : ∀ d ∈ tables_1, d.before aw Z = true) (ws : List Jvm.Cond) (a0 : Addr) (p1 : Int32) (p2 : Int32) (p3 : Int32) (f : Int32 → Int32) (h0 : Heap) (n0 : Nat) (Z0 : n0 ≤ h0.size) (B : own_By Z h0 a0 4 f) (hf : ¬ p1 < 0) (ht : p2.toInt ≤ 4) :
    MetFree l (⟨"com/example/dispatch_to_workers/dispatchtoworkers/mapreduce/LinesIndexOfPinLaw", "reference", "([BIIB)I"⟩ : MethodName) (head1 (Jvm.Cond.code (⟨"com/example/dispatch_to_workers/dispatchtoworkers/mapreduce/LinesIndexOfPinLaw", "reference", "([BIIB)I"⟩ : MethodName) method_3_code 4 (some .int) :: ws) ({ frames := 1, cells := 0, slots := 0, locals := 16 } : Room)) (fun a U => a = #[(.ref a0), (.int p1), (.int p2), (.int p3)] ∧ Z.Warmed39 U.vm ∧ U.heap = h0) (fun _ _ _ _ _ => True) (fun _ U o U' => ∃ v L, o = .returned v ∧ Q1 Z a0 p1 p2 p3 f h0 n0 v U'.heap L ∧ FrameEnd U o U' L ({ frames := 1, cells := 0, slots := 0, locals := 16 } : Room).cells ({ frames := 1, cells := 0, slots := 0, locals := 16 } : Room).slots) := by
  refine MetFree.of_bodySF (plainFor_of_name pn_com_example_dispatch_to_workers_dispatchtoworkers_mapreduce_LinesIndexOfPinLaw) hisR ?_
  intro p e s m args below meth c s₁ Bd hml0 hP hK
  obtain ⟨rfl, hZ, hh⟩ := hP
  have hx := Bd.exec
  have hby := Bd.bytes
  have hml : c.maxLocals = 4 := hml0
  have hown : s.vm.findClass "com/example/dispatch_to_workers/dispatchtoworkers/mapreduce/LinesIndexOfPinLaw" = some m.cls := findClass_of_methodNamed Bd.named
  have hnm := (name_of_methodNamed Bd.named Bd.method).1
  have X0 : Stand p l e ({ frames := 1, cells := 0, slots := 0, locals := 16 } : Room) s m #[(.ref a0), (.int p1), (.int p2), (.int p3)] below meth c s₁ [] 0 0 := Stand.of_body Bd
  have e0 : s₁.heap = h0 := by rw [← hh, Bd.state]; rfl
  have N0 := Fr.nil n0
  refine own_go (Q := Q1 Z a0 p1 p2 p3 f h0 n0) ?_
  refine Go.to (g' := (mkF m 0 #[.val (.ref a0), .val (.int p1), .val (.int p2), .val (.int p3)] [])) (fun t k => castTop (ef_rm1 m a0 p1 p2 p3) k) ?_
  refine Go.to (g' := (mkF m 1 #[.val (.ref a0), .val (.int p1), .val (.int p2), .val (.int p3)] [(.ref a0)])) (fun t k => XS.aloadN X0.here hx rfl (hb hby d1_0) rfl rfl k) ?_
  refine Go.to (g' := (mkF m 2 #[.val (.ref a0), .val (.int p1), .val (.int p2), .val (.int p3)] [(.int (0 : Int32)), (.ref a0)])) (fun t k => XS.iconst X0.here hx rfl (hb hby d1_1) k) ?_
  refine Go.to (g' := (mkF m 3 #[.val (.ref a0), .val (.int p1), .val (.int p2), .val (.int p3)] [(.int p1), (.int (0 : Int32)), (.ref a0)])) (fun t k => XS.iloadN X0.here hx rfl (hb hby d1_2) rfl k) ?_
  refine Go.to (g' := (mkF m 4 #[.val (.ref a0), .val (.int p1), .val (.int p2), .val (.int p3)] [(.int p2), (.int p1), (.int (0 : Int32)), (.ref a0)])) (fun t k => XS.iloadN X0.here hx rfl (hb hby d1_3) rfl k) ?_
  refine Go.to (g' := (mkF m 5 #[.val (.ref a0), .val (.int p1), .val (.int p2), .val (.int p3)] [(.int p3), (.int p2), (.int p1), (.int (0 : Int32)), (.ref a0)])) (fun t k => XS.iloadN X0.here hx rfl (hb hby d1_4) rfl k) ?_
  by_cases h0_ : own_hit f (0 : Int32) p1 p2 p3
  · obtain ⟨v1, _, ⟨T1, L1, k1, n1⟩, -, X1, ⟨Lc1, hQ1, l1, y1, z1⟩, st1⟩ := Jvm.LawKit.callS X0 hx (y := (⟨"com/example/dispatch_to_workers/dispatchtoworkers/mapreduce/LinesIndexOfPinLaw", "hit", "([BIIIB)Z"⟩ : MethodName)) hown (mvT hZ (hw _ (List.mem_of_getElem? (i := 5) rfl))) (mvT hZ (hw _ (List.mem_of_getElem? (i := 6) rfl))) (mvT hZ (hw _ (List.mem_of_getElem? (i := 3) rfl))) (mvT hZ (hw _ (List.mem_of_getElem? (i := 7) rfl))) (by decide) (backOf (W := 0) (rm2 l Z aw hw [] a0 (0 : Int32) p1 p2 p3 f (1 : Int32) h0 n0 Z0 B (by decide) (by decide) (Or.inl ⟨h0_, rfl⟩)) hZ (hw _ (List.mem_of_getElem? (i := 7) rfl)) (hw _ (List.mem_of_getElem? (i := 3) rfl)) (by decide) (by decide)) (g := (mkF m 5 #[.val (.ref a0), .val (.int p1), .val (.int p2), .val (.int p3)] [(.int p3), (.int p2), (.int p1), (.int (0 : Int32)), (.ref a0)])) rfl (by rw [hml]; rfl) (argsL := [(.ref a0), (.int (0 : Int32)), (.int p1), (.int p2), (.int p3)]) (rest := []) (lenOf pd_285bBIIIB29Z rfl) rfl (by show 2 * 0 + _ ≤ _; exact Nat.le_of_eq rfl) (hb hby d1_5) (fun _ _ => ⟨rfl, e0, (by decide : 0 + 0 ≤ _), (by decide : 0 + 0 ≤ _)⟩)
    dsimp only [Pt.U, Pt.locs, Pt.cells, Pt.slots] at X1 l1 y1 z1 st1 hQ1
    subst l1 y1 z1
    obtain ⟨rfl, N1q, e1⟩ := hQ1
    have N1 := Fr.app N0 N1q
    refine Go.to (g' := (mkF m 8 #[.val (.ref a0), .val (.int p1), .val (.int p2), .val (.int p3)] [(.int (1 : Int32))])) st1 ?_
    refine Go.to (g' := (mkF m 11 #[.val (.ref a0), .val (.int p1), .val (.int p2), .val (.int p3)] [])) (fun t k => XS.ifNo X1.here hx rfl (hb hby d1_8) rfl ((if0 _ _).trans (feq (by decide)).1) k) ?_
    refine Go.to (g' := (mkF m 12 #[.val (.ref a0), .val (.int p1), .val (.int p2), .val (.int p3)] [(.int (0 : Int32))])) (fun t k => XS.iconst X1.here hx rfl (hb hby d1_11) k) ?_
    exact Go.retI X1 hx Bd.returns Bd.notSynchronized (hb hby d1_12) (by decide) (by decide) e1 ⟨_, rfl, N1, rfl, own_r0 hf h0_⟩
  · obtain ⟨v2, _, ⟨T2, L2, k2, n2⟩, -, X2, ⟨Lc2, hQ2, l2, y2, z2⟩, st2⟩ := Jvm.LawKit.callS X0 hx (y := (⟨"com/example/dispatch_to_workers/dispatchtoworkers/mapreduce/LinesIndexOfPinLaw", "hit", "([BIIIB)Z"⟩ : MethodName)) hown (mvT hZ (hw _ (List.mem_of_getElem? (i := 5) rfl))) (mvT hZ (hw _ (List.mem_of_getElem? (i := 6) rfl))) (mvT hZ (hw _ (List.mem_of_getElem? (i := 3) rfl))) (mvT hZ (hw _ (List.mem_of_getElem? (i := 7) rfl))) (by decide) (backOf (W := 0) (rm2 l Z aw hw [] a0 (0 : Int32) p1 p2 p3 f (0 : Int32) h0 n0 Z0 B (by decide) (by decide) (Or.inr ⟨h0_, rfl⟩)) hZ (hw _ (List.mem_of_getElem? (i := 7) rfl)) (hw _ (List.mem_of_getElem? (i := 3) rfl)) (by decide) (by decide)) (g := (mkF m 5 #[.val (.ref a0), .val (.int p1), .val (.int p2), .val (.int p3)] [(.int p3), (.int p2), (.int p1), (.int (0 : Int32)), (.ref a0)])) rfl (by rw [hml]; rfl) (argsL := [(.ref a0), (.int (0 : Int32)), (.int p1), (.int p2), (.int p3)]) (rest := []) (lenOf pd_285bBIIIB29Z rfl) rfl (by show 2 * 0 + _ ≤ _; exact Nat.le_of_eq rfl) (hb hby d1_5) (fun _ _ => ⟨rfl, e0, (by decide : 0 + 0 ≤ _), (by decide : 0 + 0 ≤ _)⟩)
    dsimp only [Pt.U, Pt.locs, Pt.cells, Pt.slots] at X2 l2 y2 z2 st2 hQ2
    subst l2 y2 z2
    obtain ⟨rfl, N2q, e2⟩ := hQ2
    have N2 := Fr.app N0 N2q
    refine Go.to (g' := (mkF m 8 #[.val (.ref a0), .val (.int p1), .val (.int p2), .val (.int p3)] [(.int (0 : Int32))])) st2 ?_
    refine Go.to (g' := (mkF m 13 #[.val (.ref a0), .val (.int p1), .val (.int p2), .val (.int p3)] [])) (fun t k => XS.ifYes X2.here hx rfl (pc0 := 8) (pc' := 13) rfl (hb hby d1_8) rfl ((if0 _ _).trans (teq (by decide)).1) (by decide) (by decide) k) ?_
    refine Go.to (g' := (mkF m 14 #[.val (.ref a0), .val (.int p1), .val (.int p2), .val (.int p3)] [(.ref a0)])) (fun t k => XS.aloadN X2.here hx rfl (hb hby d1_13) rfl rfl k) ?_
    refine Go.to (g' := (mkF m 15 #[.val (.ref a0), .val (.int p1), .val (.int p2), .val (.int p3)] [(.int (1 : Int32)), (.ref a0)])) (fun t k => XS.iconst X2.here hx rfl (hb hby d1_14) k) ?_
    refine Go.to (g' := (mkF m 16 #[.val (.ref a0), .val (.int p1), .val (.int p2), .val (.int p3)] [(.int p1), (.int (1 : Int32)), (.ref a0)])) (fun t k => XS.iloadN X2.here hx rfl (hb hby d1_15) rfl k) ?_
    refine Go.to (g' := (mkF m 17 #[.val (.ref a0), .val (.int p1), .val (.int p2), .val (.int p3)] [(.int p2), (.int p1), (.int (1 : Int32)), (.ref a0)])) (fun t k => XS.iloadN X2.here hx rfl (hb hby d1_16) rfl k) ?_
    refine Go.to (g' := (mkF m 18 #[.val (.ref a0), .val (.int p1), .val (.int p2), .val (.int p3)] [(.int p3), (.int p2), (.int p1), (.int (1 : Int32)), (.ref a0)])) (fun t k => XS.iloadN X2.here hx rfl (hb hby d1_17) rfl k) ?_
    by_cases h1_ : own_hit f (1 : Int32) p1 p2 p3
    · obtain ⟨v3, _, ⟨T3, L3, k3, n3⟩, -, X3, ⟨Lc3, hQ3, l3, y3, z3⟩, st3⟩ := Jvm.LawKit.callS X2 hx (y := (⟨"com/example/dispatch_to_workers/dispatchtoworkers/mapreduce/LinesIndexOfPinLaw", "hit", "([BIIIB)Z"⟩ : MethodName)) hown (mvT hZ (hw _ (List.mem_of_getElem? (i := 5) rfl))) (mvT hZ (hw _ (List.mem_of_getElem? (i := 6) rfl))) (mvT hZ (hw _ (List.mem_of_getElem? (i := 3) rfl))) (mvT hZ (hw _ (List.mem_of_getElem? (i := 7) rfl))) (by decide) (backOf (W := 0) (rm2 l Z aw hw [] a0 (1 : Int32) p1 p2 p3 f (1 : Int32) h0 n0 Z0 B (by decide) (by decide) (Or.inl ⟨h1_, rfl⟩)) hZ (hw _ (List.mem_of_getElem? (i := 7) rfl)) (hw _ (List.mem_of_getElem? (i := 3) rfl)) (by decide) (by decide)) (g := (mkF m 18 #[.val (.ref a0), .val (.int p1), .val (.int p2), .val (.int p3)] [(.int p3), (.int p2), (.int p1), (.int (1 : Int32)), (.ref a0)])) rfl (by rw [hml]; rfl) (argsL := [(.ref a0), (.int (1 : Int32)), (.int p1), (.int p2), (.int p3)]) (rest := []) (lenOf pd_285bBIIIB29Z rfl) rfl (by show 2 * 0 + _ ≤ _; exact Nat.le_of_eq rfl) (hb hby d1_18) (fun _ _ => ⟨rfl, e2, (by decide : 0 + 0 ≤ _), (by decide : 0 + 0 ≤ _)⟩)
      dsimp only [Pt.U, Pt.locs, Pt.cells, Pt.slots] at X3 l3 y3 z3 st3 hQ3
      subst l3 y3 z3
      obtain ⟨rfl, N3q, e3⟩ := hQ3
      have N3 := Fr.app N2 N3q
      refine Go.to (g' := (mkF m 21 #[.val (.ref a0), .val (.int p1), .val (.int p2), .val (.int p3)] [(.int (1 : Int32))])) st3 ?_
      refine Go.to (g' := (mkF m 24 #[.val (.ref a0), .val (.int p1), .val (.int p2), .val (.int p3)] [])) (fun t k => XS.ifNo X3.here hx rfl (hb hby d1_21) rfl ((if0 _ _).trans (feq (by decide)).1) k) ?_
      refine Go.to (g' := (mkF m 25 #[.val (.ref a0), .val (.int p1), .val (.int p2), .val (.int p3)] [(.int (1 : Int32))])) (fun t k => XS.iconst X3.here hx rfl (hb hby d1_24) k) ?_
      exact Go.retI X3 hx Bd.returns Bd.notSynchronized (hb hby d1_25) (by decide) (by decide) e3 ⟨_, rfl, N3, rfl, own_r1 hf h0_ h1_⟩
    · obtain ⟨v4, _, ⟨T4, L4, k4, n4⟩, -, X4, ⟨Lc4, hQ4, l4, y4, z4⟩, st4⟩ := Jvm.LawKit.callS X2 hx (y := (⟨"com/example/dispatch_to_workers/dispatchtoworkers/mapreduce/LinesIndexOfPinLaw", "hit", "([BIIIB)Z"⟩ : MethodName)) hown (mvT hZ (hw _ (List.mem_of_getElem? (i := 5) rfl))) (mvT hZ (hw _ (List.mem_of_getElem? (i := 6) rfl))) (mvT hZ (hw _ (List.mem_of_getElem? (i := 3) rfl))) (mvT hZ (hw _ (List.mem_of_getElem? (i := 7) rfl))) (by decide) (backOf (W := 0) (rm2 l Z aw hw [] a0 (1 : Int32) p1 p2 p3 f (0 : Int32) h0 n0 Z0 B (by decide) (by decide) (Or.inr ⟨h1_, rfl⟩)) hZ (hw _ (List.mem_of_getElem? (i := 7) rfl)) (hw _ (List.mem_of_getElem? (i := 3) rfl)) (by decide) (by decide)) (g := (mkF m 18 #[.val (.ref a0), .val (.int p1), .val (.int p2), .val (.int p3)] [(.int p3), (.int p2), (.int p1), (.int (1 : Int32)), (.ref a0)])) rfl (by rw [hml]; rfl) (argsL := [(.ref a0), (.int (1 : Int32)), (.int p1), (.int p2), (.int p3)]) (rest := []) (lenOf pd_285bBIIIB29Z rfl) rfl (by show 2 * 0 + _ ≤ _; exact Nat.le_of_eq rfl) (hb hby d1_18) (fun _ _ => ⟨rfl, e2, (by decide : 0 + 0 ≤ _), (by decide : 0 + 0 ≤ _)⟩)
      dsimp only [Pt.U, Pt.locs, Pt.cells, Pt.slots] at X4 l4 y4 z4 st4 hQ4
      subst l4 y4 z4
      obtain ⟨rfl, N4q, e4⟩ := hQ4
      have N4 := Fr.app N2 N4q
      refine Go.to (g' := (mkF m 21 #[.val (.ref a0), .val (.int p1), .val (.int p2), .val (.int p3)] [(.int (0 : Int32))])) st4 ?_
      refine Go.to (g' := (mkF m 26 #[.val (.ref a0), .val (.int p1), .val (.int p2), .val (.int p3)] [])) (fun t k => XS.ifYes X4.here hx rfl (pc0 := 21) (pc' := 26) rfl (hb hby d1_21) rfl ((if0 _ _).trans (teq (by decide)).1) (by decide) (by decide) k) ?_
      refine Go.to (g' := (mkF m 27 #[.val (.ref a0), .val (.int p1), .val (.int p2), .val (.int p3)] [(.ref a0)])) (fun t k => XS.aloadN X4.here hx rfl (hb hby d1_26) rfl rfl k) ?_
      refine Go.to (g' := (mkF m 28 #[.val (.ref a0), .val (.int p1), .val (.int p2), .val (.int p3)] [(.int (2 : Int32)), (.ref a0)])) (fun t k => XS.iconst X4.here hx rfl (hb hby d1_27) k) ?_
      refine Go.to (g' := (mkF m 29 #[.val (.ref a0), .val (.int p1), .val (.int p2), .val (.int p3)] [(.int p1), (.int (2 : Int32)), (.ref a0)])) (fun t k => XS.iloadN X4.here hx rfl (hb hby d1_28) rfl k) ?_
      refine Go.to (g' := (mkF m 30 #[.val (.ref a0), .val (.int p1), .val (.int p2), .val (.int p3)] [(.int p2), (.int p1), (.int (2 : Int32)), (.ref a0)])) (fun t k => XS.iloadN X4.here hx rfl (hb hby d1_29) rfl k) ?_
      refine Go.to (g' := (mkF m 31 #[.val (.ref a0), .val (.int p1), .val (.int p2), .val (.int p3)] [(.int p3), (.int p2), (.int p1), (.int (2 : Int32)), (.ref a0)])) (fun t k => XS.iloadN X4.here hx rfl (hb hby d1_30) rfl k) ?_
      by_cases h2_ : own_hit f (2 : Int32) p1 p2 p3
      · obtain ⟨v5, _, ⟨T5, L5, k5, n5⟩, -, X5, ⟨Lc5, hQ5, l5, y5, z5⟩, st5⟩ := Jvm.LawKit.callS X4 hx (y := (⟨"com/example/dispatch_to_workers/dispatchtoworkers/mapreduce/LinesIndexOfPinLaw", "hit", "([BIIIB)Z"⟩ : MethodName)) hown (mvT hZ (hw _ (List.mem_of_getElem? (i := 5) rfl))) (mvT hZ (hw _ (List.mem_of_getElem? (i := 6) rfl))) (mvT hZ (hw _ (List.mem_of_getElem? (i := 3) rfl))) (mvT hZ (hw _ (List.mem_of_getElem? (i := 7) rfl))) (by decide) (backOf (W := 0) (rm2 l Z aw hw [] a0 (2 : Int32) p1 p2 p3 f (1 : Int32) h0 n0 Z0 B (by decide) (by decide) (Or.inl ⟨h2_, rfl⟩)) hZ (hw _ (List.mem_of_getElem? (i := 7) rfl)) (hw _ (List.mem_of_getElem? (i := 3) rfl)) (by decide) (by decide)) (g := (mkF m 31 #[.val (.ref a0), .val (.int p1), .val (.int p2), .val (.int p3)] [(.int p3), (.int p2), (.int p1), (.int (2 : Int32)), (.ref a0)])) rfl (by rw [hml]; rfl) (argsL := [(.ref a0), (.int (2 : Int32)), (.int p1), (.int p2), (.int p3)]) (rest := []) (lenOf pd_285bBIIIB29Z rfl) rfl (by show 2 * 0 + _ ≤ _; exact Nat.le_of_eq rfl) (hb hby d1_31) (fun _ _ => ⟨rfl, e4, (by decide : 0 + 0 ≤ _), (by decide : 0 + 0 ≤ _)⟩)
        dsimp only [Pt.U, Pt.locs, Pt.cells, Pt.slots] at X5 l5 y5 z5 st5 hQ5
        subst l5 y5 z5
        obtain ⟨rfl, N5q, e5⟩ := hQ5
        have N5 := Fr.app N4 N5q
        refine Go.to (g' := (mkF m 34 #[.val (.ref a0), .val (.int p1), .val (.int p2), .val (.int p3)] [(.int (1 : Int32))])) st5 ?_
        refine Go.to (g' := (mkF m 37 #[.val (.ref a0), .val (.int p1), .val (.int p2), .val (.int p3)] [])) (fun t k => XS.ifNo X5.here hx rfl (hb hby d1_34) rfl ((if0 _ _).trans (feq (by decide)).1) k) ?_
        refine Go.to (g' := (mkF m 38 #[.val (.ref a0), .val (.int p1), .val (.int p2), .val (.int p3)] [(.int (2 : Int32))])) (fun t k => XS.iconst X5.here hx rfl (hb hby d1_37) k) ?_
        exact Go.retI X5 hx Bd.returns Bd.notSynchronized (hb hby d1_38) (by decide) (by decide) e5 ⟨_, rfl, N5, rfl, own_r2 hf h0_ h1_ h2_⟩
      · obtain ⟨v6, _, ⟨T6, L6, k6, n6⟩, -, X6, ⟨Lc6, hQ6, l6, y6, z6⟩, st6⟩ := Jvm.LawKit.callS X4 hx (y := (⟨"com/example/dispatch_to_workers/dispatchtoworkers/mapreduce/LinesIndexOfPinLaw", "hit", "([BIIIB)Z"⟩ : MethodName)) hown (mvT hZ (hw _ (List.mem_of_getElem? (i := 5) rfl))) (mvT hZ (hw _ (List.mem_of_getElem? (i := 6) rfl))) (mvT hZ (hw _ (List.mem_of_getElem? (i := 3) rfl))) (mvT hZ (hw _ (List.mem_of_getElem? (i := 7) rfl))) (by decide) (backOf (W := 0) (rm2 l Z aw hw [] a0 (2 : Int32) p1 p2 p3 f (0 : Int32) h0 n0 Z0 B (by decide) (by decide) (Or.inr ⟨h2_, rfl⟩)) hZ (hw _ (List.mem_of_getElem? (i := 7) rfl)) (hw _ (List.mem_of_getElem? (i := 3) rfl)) (by decide) (by decide)) (g := (mkF m 31 #[.val (.ref a0), .val (.int p1), .val (.int p2), .val (.int p3)] [(.int p3), (.int p2), (.int p1), (.int (2 : Int32)), (.ref a0)])) rfl (by rw [hml]; rfl) (argsL := [(.ref a0), (.int (2 : Int32)), (.int p1), (.int p2), (.int p3)]) (rest := []) (lenOf pd_285bBIIIB29Z rfl) rfl (by show 2 * 0 + _ ≤ _; exact Nat.le_of_eq rfl) (hb hby d1_31) (fun _ _ => ⟨rfl, e4, (by decide : 0 + 0 ≤ _), (by decide : 0 + 0 ≤ _)⟩)
        dsimp only [Pt.U, Pt.locs, Pt.cells, Pt.slots] at X6 l6 y6 z6 st6 hQ6
        subst l6 y6 z6
        obtain ⟨rfl, N6q, e6⟩ := hQ6
        have N6 := Fr.app N4 N6q
        refine Go.to (g' := (mkF m 34 #[.val (.ref a0), .val (.int p1), .val (.int p2), .val (.int p3)] [(.int (0 : Int32))])) st6 ?_
        refine Go.to (g' := (mkF m 39 #[.val (.ref a0), .val (.int p1), .val (.int p2), .val (.int p3)] [])) (fun t k => XS.ifYes X6.here hx rfl (pc0 := 34) (pc' := 39) rfl (hb hby d1_34) rfl ((if0 _ _).trans (teq (by decide)).1) (by decide) (by decide) k) ?_
        refine Go.to (g' := (mkF m 40 #[.val (.ref a0), .val (.int p1), .val (.int p2), .val (.int p3)] [(.ref a0)])) (fun t k => XS.aloadN X6.here hx rfl (hb hby d1_39) rfl rfl k) ?_
        refine Go.to (g' := (mkF m 41 #[.val (.ref a0), .val (.int p1), .val (.int p2), .val (.int p3)] [(.int (3 : Int32)), (.ref a0)])) (fun t k => XS.iconst X6.here hx rfl (hb hby d1_40) k) ?_
        refine Go.to (g' := (mkF m 42 #[.val (.ref a0), .val (.int p1), .val (.int p2), .val (.int p3)] [(.int p1), (.int (3 : Int32)), (.ref a0)])) (fun t k => XS.iloadN X6.here hx rfl (hb hby d1_41) rfl k) ?_
        refine Go.to (g' := (mkF m 43 #[.val (.ref a0), .val (.int p1), .val (.int p2), .val (.int p3)] [(.int p2), (.int p1), (.int (3 : Int32)), (.ref a0)])) (fun t k => XS.iloadN X6.here hx rfl (hb hby d1_42) rfl k) ?_
        refine Go.to (g' := (mkF m 44 #[.val (.ref a0), .val (.int p1), .val (.int p2), .val (.int p3)] [(.int p3), (.int p2), (.int p1), (.int (3 : Int32)), (.ref a0)])) (fun t k => XS.iloadN X6.here hx rfl (hb hby d1_43) rfl k) ?_
        by_cases h3_ : own_hit f (3 : Int32) p1 p2 p3
        · obtain ⟨v7, _, ⟨T7, L7, k7, n7⟩, -, X7, ⟨Lc7, hQ7, l7, y7, z7⟩, st7⟩ := Jvm.LawKit.callS X6 hx (y := (⟨"com/example/dispatch_to_workers/dispatchtoworkers/mapreduce/LinesIndexOfPinLaw", "hit", "([BIIIB)Z"⟩ : MethodName)) hown (mvT hZ (hw _ (List.mem_of_getElem? (i := 5) rfl))) (mvT hZ (hw _ (List.mem_of_getElem? (i := 6) rfl))) (mvT hZ (hw _ (List.mem_of_getElem? (i := 3) rfl))) (mvT hZ (hw _ (List.mem_of_getElem? (i := 7) rfl))) (by decide) (backOf (W := 0) (rm2 l Z aw hw [] a0 (3 : Int32) p1 p2 p3 f (1 : Int32) h0 n0 Z0 B (by decide) (by decide) (Or.inl ⟨h3_, rfl⟩)) hZ (hw _ (List.mem_of_getElem? (i := 7) rfl)) (hw _ (List.mem_of_getElem? (i := 3) rfl)) (by decide) (by decide)) (g := (mkF m 44 #[.val (.ref a0), .val (.int p1), .val (.int p2), .val (.int p3)] [(.int p3), (.int p2), (.int p1), (.int (3 : Int32)), (.ref a0)])) rfl (by rw [hml]; rfl) (argsL := [(.ref a0), (.int (3 : Int32)), (.int p1), (.int p2), (.int p3)]) (rest := []) (lenOf pd_285bBIIIB29Z rfl) rfl (by show 2 * 0 + _ ≤ _; exact Nat.le_of_eq rfl) (hb hby d1_44) (fun _ _ => ⟨rfl, e6, (by decide : 0 + 0 ≤ _), (by decide : 0 + 0 ≤ _)⟩)
          dsimp only [Pt.U, Pt.locs, Pt.cells, Pt.slots] at X7 l7 y7 z7 st7 hQ7
          subst l7 y7 z7
          obtain ⟨rfl, N7q, e7⟩ := hQ7
          have N7 := Fr.app N6 N7q
          refine Go.to (g' := (mkF m 47 #[.val (.ref a0), .val (.int p1), .val (.int p2), .val (.int p3)] [(.int (1 : Int32))])) st7 ?_
          refine Go.to (g' := (mkF m 50 #[.val (.ref a0), .val (.int p1), .val (.int p2), .val (.int p3)] [])) (fun t k => XS.ifNo X7.here hx rfl (hb hby d1_47) rfl ((if0 _ _).trans (feq (by decide)).1) k) ?_
          refine Go.to (g' := (mkF m 51 #[.val (.ref a0), .val (.int p1), .val (.int p2), .val (.int p3)] [(.int (3 : Int32))])) (fun t k => XS.iconst X7.here hx rfl (hb hby d1_50) k) ?_
          exact Go.retI X7 hx Bd.returns Bd.notSynchronized (hb hby d1_51) (by decide) (by decide) e7 ⟨_, rfl, N7, rfl, own_r3 hf h0_ h1_ h2_ h3_⟩
        · obtain ⟨v8, _, ⟨T8, L8, k8, n8⟩, -, X8, ⟨Lc8, hQ8, l8, y8, z8⟩, st8⟩ := Jvm.LawKit.callS X6 hx (y := (⟨"com/example/dispatch_to_workers/dispatchtoworkers/mapreduce/LinesIndexOfPinLaw", "hit", "([BIIIB)Z"⟩ : MethodName)) hown (mvT hZ (hw _ (List.mem_of_getElem? (i := 5) rfl))) (mvT hZ (hw _ (List.mem_of_getElem? (i := 6) rfl))) (mvT hZ (hw _ (List.mem_of_getElem? (i := 3) rfl))) (mvT hZ (hw _ (List.mem_of_getElem? (i := 7) rfl))) (by decide) (backOf (W := 0) (rm2 l Z aw hw [] a0 (3 : Int32) p1 p2 p3 f (0 : Int32) h0 n0 Z0 B (by decide) (by decide) (Or.inr ⟨h3_, rfl⟩)) hZ (hw _ (List.mem_of_getElem? (i := 7) rfl)) (hw _ (List.mem_of_getElem? (i := 3) rfl)) (by decide) (by decide)) (g := (mkF m 44 #[.val (.ref a0), .val (.int p1), .val (.int p2), .val (.int p3)] [(.int p3), (.int p2), (.int p1), (.int (3 : Int32)), (.ref a0)])) rfl (by rw [hml]; rfl) (argsL := [(.ref a0), (.int (3 : Int32)), (.int p1), (.int p2), (.int p3)]) (rest := []) (lenOf pd_285bBIIIB29Z rfl) rfl (by show 2 * 0 + _ ≤ _; exact Nat.le_of_eq rfl) (hb hby d1_44) (fun _ _ => ⟨rfl, e6, (by decide : 0 + 0 ≤ _), (by decide : 0 + 0 ≤ _)⟩)
          dsimp only [Pt.U, Pt.locs, Pt.cells, Pt.slots] at X8 l8 y8 z8 st8 hQ8
          subst l8 y8 z8
          obtain ⟨rfl, N8q, e8⟩ := hQ8
          have N8 := Fr.app N6 N8q
          refine Go.to (g' := (mkF m 47 #[.val (.ref a0), .val (.int p1), .val (.int p2), .val (.int p3)] [(.int (0 : Int32))])) st8 ?_
          refine Go.to (g' := (mkF m 52 #[.val (.ref a0), .val (.int p1), .val (.int p2), .val (.int p3)] [])) (fun t k => XS.ifYes X8.here hx rfl (pc0 := 47) (pc' := 52) rfl (hb hby d1_47) rfl ((if0 _ _).trans (teq (by decide)).1) (by decide) (by decide) k) ?_
          refine Go.to (g' := (mkF m 53 #[.val (.ref a0), .val (.int p1), .val (.int p2), .val (.int p3)] [(.int (-1 : Int32))])) (fun t k => XS.iconst X8.here hx rfl (hb hby d1_52) k) ?_
          exact Go.retI X8 hx Bd.returns Bd.notSynchronized (hb hby d1_53) (by decide) (by decide) e8 ⟨_, rfl, N8, rfl, own_rn hf ht h0_ h1_ h2_ h3_⟩

theorem ef_rm0 (m : MethodId) (x0 : Int32) (x1 : Int32) (x2 : Int32) (x3 : Int32) : entryFrame m #[(.int x0), (.int x1), (.int x2), (.int x3)] maxLocals = mkF m 0 #[.val (.int x0), .val (.int x1), .val (.int x2), .val (.int x3), .unset, .unset, .unset, .unset, .unset, .unset] [] := by first | (simp [entryFrame, mkF, argsToLocals, Value.category, maxLocals]; done) | rfl
def Q0 (Z : State) (p0 : Int32) (p1 : Int32) (p2 : Int32) (p3 : Int32) (h0 : Heap) (n0 : Nat) (v : Option Value) (h : Heap) (L : List Loc) : Prop := v = some (.int (1 : Int32)) ∧ Fr n0 L
set_option maxRecDepth 65536 in
set_option maxHeartbeats 40000000 in
theorem rm0 (l : Launch) (Z : State) (aw : Array Value) (hw : ∀ d ∈ tables_1, d.before aw Z = true) (ws : List Jvm.Cond) (p0 : Int32) (p1 : Int32) (p2 : Int32) (p3 : Int32) (h0 : Heap) (n0 : Nat) (Z0 : n0 ≤ h0.size) :
    MetFree l x (head1 (Jvm.Cond.code x code maxLocals ret :: ws) room_1) (fun a U => a = #[(.int p0), (.int p1), (.int p2), (.int p3)] ∧ Z.Warmed39 U.vm ∧ U.heap = h0) (fun _ _ _ _ _ => True) (fun _ U o U' => ∃ v L, o = .returned v ∧ Q0 Z p0 p1 p2 p3 h0 n0 v U'.heap L ∧ FrameEnd U o U' L room_1.cells room_1.slots) := by
  refine MetFree.of_bodySF (plainFor_of_name pn_com_example_dispatch_to_workers_dispatchtoworkers_mapreduce_LinesIndexOfPinLaw) hisR ?_
  intro p e s m args below meth c s₁ Bd hml0 hP hK
  obtain ⟨rfl, hZ, hh⟩ := hP
  have hx := Bd.exec
  have hby := Bd.bytes
  have hml : c.maxLocals = 10 := hml0
  have hown : s.vm.findClass "com/example/dispatch_to_workers/dispatchtoworkers/mapreduce/LinesIndexOfPinLaw" = some m.cls := findClass_of_methodNamed Bd.named
  have hnm := (name_of_methodNamed Bd.named Bd.method).1
  have X0 : Stand p l e room_1 s m #[(.int p0), (.int p1), (.int p2), (.int p3)] below meth c s₁ [] 0 0 := Stand.of_body Bd
  have e0 : s₁.heap = h0 := by rw [← hh, Bd.state]; rfl
  have N0 := Fr.nil n0
  refine own_go (Q := Q0 Z p0 p1 p2 p3 h0 n0) ?_
  refine Go.to (g' := (mkF m 0 #[.val (.int p0), .val (.int p1), .val (.int p2), .val (.int p3), .unset, .unset, .unset, .unset, .unset, .unset] [])) (fun t k => castTop (ef_rm0 m p0 p1 p2 p3) k) ?_
  refine Go.to (g' := (mkF m 1 #[.val (.int p0), .val (.int p1), .val (.int p2), .val (.int p3), .unset, .unset, .unset, .unset, .unset, .unset] [(.int (4 : Int32))])) (fun t k => XS.iconst X0.here hx rfl (hb hby at_0) k) ?_
  obtain ⟨T2, h2, k2, X2, e2, E2, A2, st2⟩ := newP X0 hx hZ (hw _ (List.mem_of_getElem? (i := 0) rfl)) e0 (g := (mkF m 1 #[.val (.int p0), .val (.int p1), .val (.int p2), .val (.int p3), .unset, .unset, .unset, .unset, .unset, .unset] [(.int (4 : Int32))])) rfl (hb hby at_1) rfl (by decide) (cap := 4) (by decide) (by decide) (by decide) (by decide)
  obtain ⟨b1, g2⟩ : ∃ z, z = h0.size := ⟨_, rfl⟩
  rw [← g2] at A2 st2
  have g_b1 : n0 ≤ b1 := Nat.le_trans Z0 (Nat.le_of_eq g2.symm)
  have sz_b1 : h0.size ≤ b1 := Nat.le_trans (Keep.refl h0 []).1 (Nat.le_of_eq g2.symm)
  have Z2 : n0 ≤ h2.size := Nat.le_trans Z0 E2.1
  have K2 : Keep h0 h2 [] := (Keep.refl h0 []).ext E2
  have V_b1 : Arv Z h2 b1 k2 .byte (4 : Int32) [(.int (0 : Int32)), (.int (0 : Int32)), (.int (0 : Int32)), (.int (0 : Int32))] (.int (0 : Int32)) := (Arv.new A2 (by decide)).pad (pad_rep [] (.int (0 : Int32)) 4)
  refine Go.to (g' := (mkF m 3 #[.val (.int p0), .val (.int p1), .val (.int p2), .val (.int p3), .unset, .unset, .unset, .unset, .unset, .unset] [(.ref b1)])) st2 ?_
  refine Go.to (g' := (mkF m 5 #[.val (.int p0), .val (.int p1), .val (.int p2), .val (.int p3), .val (.ref b1), .unset, .unset, .unset, .unset, .unset] [])) (fun t k => XS.astore X2.here hx rfl (hb hby at_3) rfl rfl (l' := #[.val (.int p0), .val (.int p1), .val (.int p2), .val (.int p3), .val (.ref b1), .unset, .unset, .unset, .unset, .unset]) rfl k) ?_
  refine Go.to (g' := (mkF m 7 #[.val (.int p0), .val (.int p1), .val (.int p2), .val (.int p3), .val (.ref b1), .unset, .unset, .unset, .unset, .unset] [(.ref b1)])) (fun t k => XS.aload X2.here hx rfl (hb hby at_5) rfl rfl k) ?_
  refine Go.to (g' := (mkF m 8 #[.val (.int p0), .val (.int p1), .val (.int p2), .val (.int p3), .val (.ref b1), .unset, .unset, .unset, .unset, .unset] [(.int (0 : Int32)), (.ref b1)])) (fun t k => XS.iconst X2.here hx rfl (hb hby at_7) k) ?_
  refine Go.to (g' := (mkF m 9 #[.val (.int p0), .val (.int p1), .val (.int p2), .val (.int p3), .val (.ref b1), .unset, .unset, .unset, .unset, .unset] [(.int p0), (.int (0 : Int32)), (.ref b1)])) (fun t k => XS.iloadN X2.here hx rfl (hb hby at_8) rfl k) ?_
  refine Go.to (g' := (mkF m 10 #[.val (.int p0), .val (.int p1), .val (.int p2), .val (.int p3), .val (.ref b1), .unset, .unset, .unset, .unset, .unset] [(.int (p0.toInt8.toInt32)), (.int (0 : Int32)), (.ref b1)])) (fun t k => XS.i2b X2.here hx rfl (hb hby at_9) rfl k) ?_
  obtain ⟨cl3, Ar3, kc3, S3, M3, H3, G3⟩ := V_b1
  have hin3 : ¬ ((0 : Int32) < 0 ∨ cl3.slots.size ≤ ((0 : Int32)).toNatClampNeg) := inb_of S3 ⟨by decide, by decide⟩
  obtain ⟨T4, h4, X4, e4, W4, st4⟩ := stB X2 hx hZ e2 Ar3 (j := (0 : Int32)) hin3 (g := (mkF m 10 #[.val (.int p0), .val (.int p1), .val (.int p2), .val (.int p3), .val (.ref b1), .unset, .unset, .unset, .unset, .unset] [(.int (p0.toInt8.toInt32)), (.int (0 : Int32)), (.ref b1)])) rfl rfl (hb hby at_10)
  have Z4 : n0 ≤ h4.size := Nat.le_trans Z2 (Keep.of_wr W4).1
  have K4 : Keep h0 h4 [] := K2.wr W4 (Or.inr sz_b1)
  have N4 := Fr.snoc X4 N0 g_b1
  have V4 : Arv Z h4 b1 k2 .byte (4 : Int32) [(.int ((p0.toInt8.toInt32)).toInt8.toInt32), (.int (0 : Int32)), (.int (0 : Int32)), (.int (0 : Int32))] (.int (0 : Int32)) := Arv.set Ar3 kc3 S3 M3 H3 G3 (fits_nar_byte _) W4 0 rfl (Nat.le_of_ble_eq_true rfl)
  refine Go.to (g' := (mkF m 11 #[.val (.int p0), .val (.int p1), .val (.int p2), .val (.int p3), .val (.ref b1), .unset, .unset, .unset, .unset, .unset] [])) st4 ?_
  refine Go.to (g' := (mkF m 13 #[.val (.int p0), .val (.int p1), .val (.int p2), .val (.int p3), .val (.ref b1), .unset, .unset, .unset, .unset, .unset] [(.ref b1)])) (fun t k => XS.aload X4.here hx rfl (hb hby at_11) rfl rfl k) ?_
  refine Go.to (g' := (mkF m 14 #[.val (.int p0), .val (.int p1), .val (.int p2), .val (.int p3), .val (.ref b1), .unset, .unset, .unset, .unset, .unset] [(.int (1 : Int32)), (.ref b1)])) (fun t k => XS.iconst X4.here hx rfl (hb hby at_13) k) ?_
  refine Go.to (g' := (mkF m 15 #[.val (.int p0), .val (.int p1), .val (.int p2), .val (.int p3), .val (.ref b1), .unset, .unset, .unset, .unset, .unset] [(.int p0), (.int (1 : Int32)), (.ref b1)])) (fun t k => XS.iloadN X4.here hx rfl (hb hby at_14) rfl k) ?_
  refine Go.to (g' := (mkF m 17 #[.val (.int p0), .val (.int p1), .val (.int p2), .val (.int p3), .val (.ref b1), .unset, .unset, .unset, .unset, .unset] [(.int (8 : Int32)), (.int p0), (.int (1 : Int32)), (.ref b1)])) (fun t k => XS.bipush X4.here hx rfl (hb hby at_15) k) ?_
  refine Go.to (g' := (mkF m 18 #[.val (.int p0), .val (.int p1), .val (.int p2), .val (.int p3), .val (.ref b1), .unset, .unset, .unset, .unset, .unset] [(.int ((p0.toUInt32 >>> ((8 : Int32) &&& 31).toUInt32).toInt32)), (.int (1 : Int32)), (.ref b1)])) (fun t k => XS.iushr X4.here hx rfl (hb hby at_17) rfl k) ?_
  refine Go.to (g' := (mkF m 19 #[.val (.int p0), .val (.int p1), .val (.int p2), .val (.int p3), .val (.ref b1), .unset, .unset, .unset, .unset, .unset] [(.int (((p0.toUInt32 >>> ((8 : Int32) &&& 31).toUInt32).toInt32).toInt8.toInt32)), (.int (1 : Int32)), (.ref b1)])) (fun t k => XS.i2b X4.here hx rfl (hb hby at_18) rfl k) ?_
  obtain ⟨cl5, Ar5, kc5, S5, M5, H5, G5⟩ := V4
  have hin5 : ¬ ((1 : Int32) < 0 ∨ cl5.slots.size ≤ ((1 : Int32)).toNatClampNeg) := inb_of S5 ⟨by decide, by decide⟩
  obtain ⟨T6, h6, X6, e6, W6, st6⟩ := stB X4 hx hZ e4 Ar5 (j := (1 : Int32)) hin5 (g := (mkF m 19 #[.val (.int p0), .val (.int p1), .val (.int p2), .val (.int p3), .val (.ref b1), .unset, .unset, .unset, .unset, .unset] [(.int (((p0.toUInt32 >>> ((8 : Int32) &&& 31).toUInt32).toInt32).toInt8.toInt32)), (.int (1 : Int32)), (.ref b1)])) rfl rfl (hb hby at_19)
  have Z6 : n0 ≤ h6.size := Nat.le_trans Z4 (Keep.of_wr W6).1
  have K6 : Keep h0 h6 [] := K4.wr W6 (Or.inr sz_b1)
  have N6 := Fr.snoc X6 N4 g_b1
  have V6 : Arv Z h6 b1 k2 .byte (4 : Int32) [(.int ((p0.toInt8.toInt32)).toInt8.toInt32), (.int ((((p0.toUInt32 >>> ((8 : Int32) &&& 31).toUInt32).toInt32).toInt8.toInt32)).toInt8.toInt32), (.int (0 : Int32)), (.int (0 : Int32))] (.int (0 : Int32)) := Arv.set Ar5 kc5 S5 M5 H5 G5 (fits_nar_byte _) W6 1 rfl (Nat.le_of_ble_eq_true rfl)
  refine Go.to (g' := (mkF m 20 #[.val (.int p0), .val (.int p1), .val (.int p2), .val (.int p3), .val (.ref b1), .unset, .unset, .unset, .unset, .unset] [])) st6 ?_
  refine Go.to (g' := (mkF m 22 #[.val (.int p0), .val (.int p1), .val (.int p2), .val (.int p3), .val (.ref b1), .unset, .unset, .unset, .unset, .unset] [(.ref b1)])) (fun t k => XS.aload X6.here hx rfl (hb hby at_20) rfl rfl k) ?_
  refine Go.to (g' := (mkF m 23 #[.val (.int p0), .val (.int p1), .val (.int p2), .val (.int p3), .val (.ref b1), .unset, .unset, .unset, .unset, .unset] [(.int (2 : Int32)), (.ref b1)])) (fun t k => XS.iconst X6.here hx rfl (hb hby at_22) k) ?_
  refine Go.to (g' := (mkF m 24 #[.val (.int p0), .val (.int p1), .val (.int p2), .val (.int p3), .val (.ref b1), .unset, .unset, .unset, .unset, .unset] [(.int p0), (.int (2 : Int32)), (.ref b1)])) (fun t k => XS.iloadN X6.here hx rfl (hb hby at_23) rfl k) ?_
  refine Go.to (g' := (mkF m 26 #[.val (.int p0), .val (.int p1), .val (.int p2), .val (.int p3), .val (.ref b1), .unset, .unset, .unset, .unset, .unset] [(.int (16 : Int32)), (.int p0), (.int (2 : Int32)), (.ref b1)])) (fun t k => XS.bipush X6.here hx rfl (hb hby at_24) k) ?_
  refine Go.to (g' := (mkF m 27 #[.val (.int p0), .val (.int p1), .val (.int p2), .val (.int p3), .val (.ref b1), .unset, .unset, .unset, .unset, .unset] [(.int ((p0.toUInt32 >>> ((16 : Int32) &&& 31).toUInt32).toInt32)), (.int (2 : Int32)), (.ref b1)])) (fun t k => XS.iushr X6.here hx rfl (hb hby at_26) rfl k) ?_
  refine Go.to (g' := (mkF m 28 #[.val (.int p0), .val (.int p1), .val (.int p2), .val (.int p3), .val (.ref b1), .unset, .unset, .unset, .unset, .unset] [(.int (((p0.toUInt32 >>> ((16 : Int32) &&& 31).toUInt32).toInt32).toInt8.toInt32)), (.int (2 : Int32)), (.ref b1)])) (fun t k => XS.i2b X6.here hx rfl (hb hby at_27) rfl k) ?_
  obtain ⟨cl7, Ar7, kc7, S7, M7, H7, G7⟩ := V6
  have hin7 : ¬ ((2 : Int32) < 0 ∨ cl7.slots.size ≤ ((2 : Int32)).toNatClampNeg) := inb_of S7 ⟨by decide, by decide⟩
  obtain ⟨T8, h8, X8, e8, W8, st8⟩ := stB X6 hx hZ e6 Ar7 (j := (2 : Int32)) hin7 (g := (mkF m 28 #[.val (.int p0), .val (.int p1), .val (.int p2), .val (.int p3), .val (.ref b1), .unset, .unset, .unset, .unset, .unset] [(.int (((p0.toUInt32 >>> ((16 : Int32) &&& 31).toUInt32).toInt32).toInt8.toInt32)), (.int (2 : Int32)), (.ref b1)])) rfl rfl (hb hby at_28)
  have Z8 : n0 ≤ h8.size := Nat.le_trans Z6 (Keep.of_wr W8).1
  have K8 : Keep h0 h8 [] := K6.wr W8 (Or.inr sz_b1)
  have N8 := Fr.snoc X8 N6 g_b1
  have V8 : Arv Z h8 b1 k2 .byte (4 : Int32) [(.int ((p0.toInt8.toInt32)).toInt8.toInt32), (.int ((((p0.toUInt32 >>> ((8 : Int32) &&& 31).toUInt32).toInt32).toInt8.toInt32)).toInt8.toInt32), (.int ((((p0.toUInt32 >>> ((16 : Int32) &&& 31).toUInt32).toInt32).toInt8.toInt32)).toInt8.toInt32), (.int (0 : Int32))] (.int (0 : Int32)) := Arv.set Ar7 kc7 S7 M7 H7 G7 (fits_nar_byte _) W8 2 rfl (Nat.le_of_ble_eq_true rfl)
  refine Go.to (g' := (mkF m 29 #[.val (.int p0), .val (.int p1), .val (.int p2), .val (.int p3), .val (.ref b1), .unset, .unset, .unset, .unset, .unset] [])) st8 ?_
  refine Go.to (g' := (mkF m 31 #[.val (.int p0), .val (.int p1), .val (.int p2), .val (.int p3), .val (.ref b1), .unset, .unset, .unset, .unset, .unset] [(.ref b1)])) (fun t k => XS.aload X8.here hx rfl (hb hby at_29) rfl rfl k) ?_
  refine Go.to (g' := (mkF m 32 #[.val (.int p0), .val (.int p1), .val (.int p2), .val (.int p3), .val (.ref b1), .unset, .unset, .unset, .unset, .unset] [(.int (3 : Int32)), (.ref b1)])) (fun t k => XS.iconst X8.here hx rfl (hb hby at_31) k) ?_
  refine Go.to (g' := (mkF m 33 #[.val (.int p0), .val (.int p1), .val (.int p2), .val (.int p3), .val (.ref b1), .unset, .unset, .unset, .unset, .unset] [(.int p0), (.int (3 : Int32)), (.ref b1)])) (fun t k => XS.iloadN X8.here hx rfl (hb hby at_32) rfl k) ?_
  refine Go.to (g' := (mkF m 35 #[.val (.int p0), .val (.int p1), .val (.int p2), .val (.int p3), .val (.ref b1), .unset, .unset, .unset, .unset, .unset] [(.int (24 : Int32)), (.int p0), (.int (3 : Int32)), (.ref b1)])) (fun t k => XS.bipush X8.here hx rfl (hb hby at_33) k) ?_
  refine Go.to (g' := (mkF m 36 #[.val (.int p0), .val (.int p1), .val (.int p2), .val (.int p3), .val (.ref b1), .unset, .unset, .unset, .unset, .unset] [(.int ((p0.toUInt32 >>> ((24 : Int32) &&& 31).toUInt32).toInt32)), (.int (3 : Int32)), (.ref b1)])) (fun t k => XS.iushr X8.here hx rfl (hb hby at_35) rfl k) ?_
  refine Go.to (g' := (mkF m 37 #[.val (.int p0), .val (.int p1), .val (.int p2), .val (.int p3), .val (.ref b1), .unset, .unset, .unset, .unset, .unset] [(.int (((p0.toUInt32 >>> ((24 : Int32) &&& 31).toUInt32).toInt32).toInt8.toInt32)), (.int (3 : Int32)), (.ref b1)])) (fun t k => XS.i2b X8.here hx rfl (hb hby at_36) rfl k) ?_
  obtain ⟨cl9, Ar9, kc9, S9, M9, H9, G9⟩ := V8
  have hin9 : ¬ ((3 : Int32) < 0 ∨ cl9.slots.size ≤ ((3 : Int32)).toNatClampNeg) := inb_of S9 ⟨by decide, by decide⟩
  obtain ⟨T10, h10, X10, e10, W10, st10⟩ := stB X8 hx hZ e8 Ar9 (j := (3 : Int32)) hin9 (g := (mkF m 37 #[.val (.int p0), .val (.int p1), .val (.int p2), .val (.int p3), .val (.ref b1), .unset, .unset, .unset, .unset, .unset] [(.int (((p0.toUInt32 >>> ((24 : Int32) &&& 31).toUInt32).toInt32).toInt8.toInt32)), (.int (3 : Int32)), (.ref b1)])) rfl rfl (hb hby at_37)
  have Z10 : n0 ≤ h10.size := Nat.le_trans Z8 (Keep.of_wr W10).1
  have K10 : Keep h0 h10 [] := K8.wr W10 (Or.inr sz_b1)
  have N10 := Fr.snoc X10 N8 g_b1
  have V10 : Arv Z h10 b1 k2 .byte (4 : Int32) [(.int ((p0.toInt8.toInt32)).toInt8.toInt32), (.int ((((p0.toUInt32 >>> ((8 : Int32) &&& 31).toUInt32).toInt32).toInt8.toInt32)).toInt8.toInt32), (.int ((((p0.toUInt32 >>> ((16 : Int32) &&& 31).toUInt32).toInt32).toInt8.toInt32)).toInt8.toInt32), (.int ((((p0.toUInt32 >>> ((24 : Int32) &&& 31).toUInt32).toInt32).toInt8.toInt32)).toInt8.toInt32)] (.int (0 : Int32)) := Arv.set Ar9 kc9 S9 M9 H9 G9 (fits_nar_byte _) W10 3 rfl (Nat.le_of_ble_eq_true rfl)
  refine Go.to (g' := (mkF m 38 #[.val (.int p0), .val (.int p1), .val (.int p2), .val (.int p3), .val (.ref b1), .unset, .unset, .unset, .unset, .unset] [])) st10 ?_
  refine Go.to (g' := (mkF m 39 #[.val (.int p0), .val (.int p1), .val (.int p2), .val (.int p3), .val (.ref b1), .unset, .unset, .unset, .unset, .unset] [(.int p1)])) (fun t k => XS.iloadN X10.here hx rfl (hb hby at_38) rfl k) ?_
  refine Go.to (g' := (mkF m 41 #[.val (.int p0), .val (.int p1), .val (.int p2), .val (.int p3), .val (.ref b1), .unset, .unset, .unset, .unset, .unset] [(.int (7 : Int32)), (.int p1)])) (fun t k => XS.bipush X10.here hx rfl (hb hby at_39) k) ?_
  refine Go.to (g' := (mkF m 42 #[.val (.int p0), .val (.int p1), .val (.int p2), .val (.int p3), .val (.ref b1), .unset, .unset, .unset, .unset, .unset] [(.int (p1 &&& (7 : Int32)))])) (fun t k => XS.iand X10.here hx rfl (hb hby at_41) rfl k) ?_
  refine Go.to (g' := (mkF m 43 #[.val (.int p0), .val (.int p1), .val (.int p2), .val (.int p3), .val (.ref b1), .unset, .unset, .unset, .unset, .unset] [(.int (5 : Int32)), (.int (p1 &&& (7 : Int32)))])) (fun t k => XS.iconst X10.here hx rfl (hb hby at_42) k) ?_
  refine Go.to (g' := (mkF m 44 #[.val (.int p0), .val (.int p1), .val (.int p2), .val (.int p3), .val (.ref b1), .unset, .unset, .unset, .unset, .unset] [(.int ((p1 &&& (7 : Int32)) % (5 : Int32)))])) (fun t k => iremM X10 hx rfl (hb hby at_43) rfl (by decide) k) ?_
  obtain ⟨fr, hv_fr⟩ : ∃ z : Int32, z = ((p1 &&& (7 : Int32)) % (5 : Int32)) := ⟨_, rfl⟩
  rw [← hv_fr]
  refine Go.to (g' := (mkF m 46 #[.val (.int p0), .val (.int p1), .val (.int p2), .val (.int p3), .val (.ref b1), .val (.int fr), .unset, .unset, .unset, .unset] [])) (fun t k => XS.istore X10.here hx rfl (hb hby at_44) rfl (l' := #[.val (.int p0), .val (.int p1), .val (.int p2), .val (.int p3), .val (.ref b1), .val (.int fr), .unset, .unset, .unset, .unset]) rfl k) ?_
  refine Go.to (g' := (mkF m 47 #[.val (.int p0), .val (.int p1), .val (.int p2), .val (.int p3), .val (.ref b1), .val (.int fr), .unset, .unset, .unset, .unset] [(.int p1)])) (fun t k => XS.iloadN X10.here hx rfl (hb hby at_46) rfl k) ?_
  refine Go.to (g' := (mkF m 48 #[.val (.int p0), .val (.int p1), .val (.int p2), .val (.int p3), .val (.ref b1), .val (.int fr), .unset, .unset, .unset, .unset] [(.int (3 : Int32)), (.int p1)])) (fun t k => XS.iconst X10.here hx rfl (hb hby at_47) k) ?_
  refine Go.to (g' := (mkF m 49 #[.val (.int p0), .val (.int p1), .val (.int p2), .val (.int p3), .val (.ref b1), .val (.int fr), .unset, .unset, .unset, .unset] [(.int ((p1.toUInt32 >>> ((3 : Int32) &&& 31).toUInt32).toInt32))])) (fun t k => XS.iushr X10.here hx rfl (hb hby at_48) rfl k) ?_
  refine Go.to (g' := (mkF m 51 #[.val (.int p0), .val (.int p1), .val (.int p2), .val (.int p3), .val (.ref b1), .val (.int fr), .unset, .unset, .unset, .unset] [(.int (7 : Int32)), (.int ((p1.toUInt32 >>> ((3 : Int32) &&& 31).toUInt32).toInt32))])) (fun t k => XS.bipush X10.here hx rfl (hb hby at_49) k) ?_
  refine Go.to (g' := (mkF m 52 #[.val (.int p0), .val (.int p1), .val (.int p2), .val (.int p3), .val (.ref b1), .val (.int fr), .unset, .unset, .unset, .unset] [(.int (((p1.toUInt32 >>> ((3 : Int32) &&& 31).toUInt32).toInt32) &&& (7 : Int32)))])) (fun t k => XS.iand X10.here hx rfl (hb hby at_51) rfl k) ?_
  refine Go.to (g' := (mkF m 53 #[.val (.int p0), .val (.int p1), .val (.int p2), .val (.int p3), .val (.ref b1), .val (.int fr), .unset, .unset, .unset, .unset] [(.int (5 : Int32)), (.int (((p1.toUInt32 >>> ((3 : Int32) &&& 31).toUInt32).toInt32) &&& (7 : Int32)))])) (fun t k => XS.iconst X10.here hx rfl (hb hby at_52) k) ?_
  refine Go.to (g' := (mkF m 54 #[.val (.int p0), .val (.int p1), .val (.int p2), .val (.int p3), .val (.ref b1), .val (.int fr), .unset, .unset, .unset, .unset] [(.int ((((p1.toUInt32 >>> ((3 : Int32) &&& 31).toUInt32).toInt32) &&& (7 : Int32)) % (5 : Int32)))])) (fun t k => iremM X10 hx rfl (hb hby at_53) rfl (by decide) k) ?_
  obtain ⟨tt, hv_tt⟩ : ∃ z : Int32, z = ((((p1.toUInt32 >>> ((3 : Int32) &&& 31).toUInt32).toInt32) &&& (7 : Int32)) % (5 : Int32)) := ⟨_, rfl⟩
  rw [← hv_tt]
  refine Go.to (g' := (mkF m 56 #[.val (.int p0), .val (.int p1), .val (.int p2), .val (.int p3), .val (.ref b1), .val (.int fr), .val (.int tt), .unset, .unset, .unset] [])) (fun t k => XS.istore X10.here hx rfl (hb hby at_54) rfl (l' := #[.val (.int p0), .val (.int p1), .val (.int p2), .val (.int p3), .val (.ref b1), .val (.int fr), .val (.int tt), .unset, .unset, .unset]) rfl k) ?_
  refine Go.to (g' := (mkF m 57 #[.val (.int p0), .val (.int p1), .val (.int p2), .val (.int p3), .val (.ref b1), .val (.int fr), .val (.int tt), .unset, .unset, .unset] [(.int p3)])) (fun t k => XS.iloadN X10.here hx rfl (hb hby at_56) rfl k) ?_
  refine Go.to (g' := (mkF m 58 #[.val (.int p0), .val (.int p1), .val (.int p2), .val (.int p3), .val (.ref b1), .val (.int fr), .val (.int tt), .unset, .unset, .unset] [(.int (1 : Int32)), (.int p3)])) (fun t k => XS.iconst X10.here hx rfl (hb hby at_57) k) ?_
  refine Go.to (g' := (mkF m 59 #[.val (.int p0), .val (.int p1), .val (.int p2), .val (.int p3), .val (.ref b1), .val (.int fr), .val (.int tt), .unset, .unset, .unset] [(.int (p3 &&& (1 : Int32)))])) (fun t k => XS.iand X10.here hx rfl (hb hby at_58) rfl k) ?_
  have hfr : ¬ fr < 0 := by rw [hv_fr]; exact (own_m5 _).1
  have htt : tt.toInt ≤ 4 := by rw [hv_tt]; exact (own_m5 _).2
  obtain ⟨f, B⟩ : ∃ f, own_By Z h10 b1 4 f := own_by_of V10 rfl
  suffices J : ∀ vl : Int32, Go p e below s (Q0 Z p0 p1 p2 p3 h0 n0) room_1.cells room_1.slots (T10.setTop (mkF m 79 #[.val (.int p0), .val (.int p1), .val (.int p2), .val (.int p3), .val (.ref b1), .val (.int fr), .val (.int tt), .val (.int vl), .unset, .unset] [])) by
    by_cases c11 : (p3 &&& (1 : Int32)) = (0 : Int32)
    · refine Go.to (g' := (mkF m 75 #[.val (.int p0), .val (.int p1), .val (.int p2), .val (.int p3), .val (.ref b1), .val (.int fr), .val (.int tt), .unset, .unset, .unset] [])) (fun t k => XS.ifYes X10.here hx rfl (pc0 := 59) (pc' := 75) rfl (hb hby at_59) rfl ((if0 _ _).trans (teq c11).1) (by decide) (by decide) k) ?_
      refine Go.to (g' := (mkF m 76 #[.val (.int p0), .val (.int p1), .val (.int p2), .val (.int p3), .val (.ref b1), .val (.int fr), .val (.int tt), .unset, .unset, .unset] [(.int p2)])) (fun t k => XS.iloadN X10.here hx rfl (hb hby at_75) rfl k) ?_
      refine Go.to (g' := (mkF m 77 #[.val (.int p0), .val (.int p1), .val (.int p2), .val (.int p3), .val (.ref b1), .val (.int fr), .val (.int tt), .unset, .unset, .unset] [(.int (p2.toInt8.toInt32))])) (fun t k => XS.i2b X10.here hx rfl (hb hby at_76) rfl k) ?_
      refine Go.to (g' := (mkF m 79 #[.val (.int p0), .val (.int p1), .val (.int p2), .val (.int p3), .val (.ref b1), .val (.int fr), .val (.int tt), .val (.int (p2.toInt8.toInt32)), .unset, .unset] [])) (fun t k => XS.istore X10.here hx rfl (hb hby at_77) rfl (l' := #[.val (.int p0), .val (.int p1), .val (.int p2), .val (.int p3), .val (.ref b1), .val (.int fr), .val (.int tt), .val (.int (p2.toInt8.toInt32)), .unset, .unset]) rfl k) ?_
      exact J _
    · refine Go.to (g' := (mkF m 62 #[.val (.int p0), .val (.int p1), .val (.int p2), .val (.int p3), .val (.ref b1), .val (.int fr), .val (.int tt), .unset, .unset, .unset] [])) (fun t k => XS.ifNo X10.here hx rfl (hb hby at_59) rfl ((if0 _ _).trans (feq c11).1) k) ?_
      refine Go.to (g' := (mkF m 64 #[.val (.int p0), .val (.int p1), .val (.int p2), .val (.int p3), .val (.ref b1), .val (.int fr), .val (.int tt), .unset, .unset, .unset] [(.ref b1)])) (fun t k => XS.aload X10.here hx rfl (hb hby at_62) rfl rfl k) ?_
      refine Go.to (g' := (mkF m 65 #[.val (.int p0), .val (.int p1), .val (.int p2), .val (.int p3), .val (.ref b1), .val (.int fr), .val (.int tt), .unset, .unset, .unset] [(.int p3), (.ref b1)])) (fun t k => XS.iloadN X10.here hx rfl (hb hby at_64) rfl k) ?_
      refine Go.to (g' := (mkF m 66 #[.val (.int p0), .val (.int p1), .val (.int p2), .val (.int p3), .val (.ref b1), .val (.int fr), .val (.int tt), .unset, .unset, .unset] [(.int (1 : Int32)), (.int p3), (.ref b1)])) (fun t k => XS.iconst X10.here hx rfl (hb hby at_65) k) ?_
      refine Go.to (g' := (mkF m 67 #[.val (.int p0), .val (.int p1), .val (.int p2), .val (.int p3), .val (.ref b1), .val (.int fr), .val (.int tt), .unset, .unset, .unset] [(.int ((p3.toUInt32 >>> ((1 : Int32) &&& 31).toUInt32).toInt32)), (.ref b1)])) (fun t k => XS.iushr X10.here hx rfl (hb hby at_66) rfl k) ?_
      refine Go.to (g' := (mkF m 68 #[.val (.int p0), .val (.int p1), .val (.int p2), .val (.int p3), .val (.ref b1), .val (.int fr), .val (.int tt), .unset, .unset, .unset] [(.int (3 : Int32)), (.int ((p3.toUInt32 >>> ((1 : Int32) &&& 31).toUInt32).toInt32)), (.ref b1)])) (fun t k => XS.iconst X10.here hx rfl (hb hby at_67) k) ?_
      refine Go.to (g' := (mkF m 69 #[.val (.int p0), .val (.int p1), .val (.int p2), .val (.int p3), .val (.ref b1), .val (.int fr), .val (.int tt), .unset, .unset, .unset] [(.int (((p3.toUInt32 >>> ((1 : Int32) &&& 31).toUInt32).toInt32) &&& (3 : Int32))), (.ref b1)])) (fun t k => XS.iand X10.here hx rfl (hb hby at_68) rfl k) ?_
      obtain ⟨cl12, Ar12, kc12, S12, M12, H12, G12⟩ := id V10
      obtain ⟨xv, hat12⟩ := own_intB (z := 0) H12 G12 (inb_of S12 (own_idx _))
      refine Go.to (g' := (mkF m 70 #[.val (.int p0), .val (.int p1), .val (.int p2), .val (.int p3), .val (.ref b1), .val (.int fr), .val (.int tt), .unset, .unset, .unset] [(.int xv)])) (fun t k => X10.baloadBytes hx (j := (((p3.toUInt32 >>> ((1 : Int32) &&& 31).toUInt32).toInt32) &&& (3 : Int32))) (v := (.int xv)) (by rw [e10]; exact Ar12.1) (State.isArrayOf_alike hZ.alike Ar12.2.1) Ar12.2.2 (inb_of S12 (own_idx _)) hat12 (g := (mkF m 69 #[.val (.int p0), .val (.int p1), .val (.int p2), .val (.int p3), .val (.ref b1), .val (.int fr), .val (.int tt), .unset, .unset, .unset] [(.int (((p3.toUInt32 >>> ((1 : Int32) &&& 31).toUInt32).toInt32) &&& (3 : Int32))), (.ref b1)])) rfl rfl (hb hby at_69) _ k) ?_
      refine Go.to (g' := (mkF m 72 #[.val (.int p0), .val (.int p1), .val (.int p2), .val (.int p3), .val (.ref b1), .val (.int fr), .val (.int tt), .val (.int xv), .unset, .unset] [])) (fun t k => XS.istore X10.here hx rfl (hb hby at_70) rfl (l' := #[.val (.int p0), .val (.int p1), .val (.int p2), .val (.int p3), .val (.ref b1), .val (.int fr), .val (.int tt), .val (.int xv), .unset, .unset]) rfl k) ?_
      refine Go.to (g' := (mkF m 79 #[.val (.int p0), .val (.int p1), .val (.int p2), .val (.int p3), .val (.ref b1), .val (.int fr), .val (.int tt), .val (.int xv), .unset, .unset] [])) (fun t k => XS.goto X10.here hx rfl (pc0 := 72) (pc' := 79) rfl (hb hby at_72) (by decide) (by decide) k) ?_
      exact J _
  intro vl
  refine Go.to (g' := (mkF m 81 #[.val (.int p0), .val (.int p1), .val (.int p2), .val (.int p3), .val (.ref b1), .val (.int fr), .val (.int tt), .val (.int vl), .unset, .unset] [(.ref b1)])) (fun t k => XS.aload X10.here hx rfl (hb hby at_79) rfl rfl k) ?_
  refine Go.to (g' := (mkF m 83 #[.val (.int p0), .val (.int p1), .val (.int p2), .val (.int p3), .val (.ref b1), .val (.int fr), .val (.int tt), .val (.int vl), .unset, .unset] [(.int fr), (.ref b1)])) (fun t k => XS.iload X10.here hx rfl (hb hby at_81) rfl k) ?_
  refine Go.to (g' := (mkF m 85 #[.val (.int p0), .val (.int p1), .val (.int p2), .val (.int p3), .val (.ref b1), .val (.int fr), .val (.int tt), .val (.int vl), .unset, .unset] [(.int tt), (.int fr), (.ref b1)])) (fun t k => XS.iload X10.here hx rfl (hb hby at_83) rfl k) ?_
  refine Go.to (g' := (mkF m 87 #[.val (.int p0), .val (.int p1), .val (.int p2), .val (.int p3), .val (.ref b1), .val (.int fr), .val (.int tt), .val (.int vl), .unset, .unset] [(.int vl), (.int tt), (.int fr), (.ref b1)])) (fun t k => XS.iload X10.here hx rfl (hb hby at_85) rfl k) ?_
  obtain ⟨v13, _, ⟨T13, L13, k13, n13⟩, -, X13, ⟨Lc13, hQ13, l13, y13, z13⟩, st13⟩ := Jvm.LawKit.callS X10 hx (y := (⟨"com/example/dispatch_to_workers/dispatchtoworkers/mapreduce/LinesIndexOfPinLaw", "reference", "([BIIB)I"⟩ : MethodName)) hown (mvT hZ (hw _ (List.mem_of_getElem? (i := 1) rfl))) (mvT hZ (hw _ (List.mem_of_getElem? (i := 2) rfl))) (mvT hZ (hw _ (List.mem_of_getElem? (i := 3) rfl))) (mvT hZ (hw _ (List.mem_of_getElem? (i := 4) rfl))) (by decide) (backOf (W := 0) (rm1 l Z aw hw [] b1 fr tt vl f h10 n0 Z10 B hfr htt) hZ (hw _ (List.mem_of_getElem? (i := 4) rfl)) (hw _ (List.mem_of_getElem? (i := 3) rfl)) (by decide) (by decide)) (g := (mkF m 87 #[.val (.int p0), .val (.int p1), .val (.int p2), .val (.int p3), .val (.ref b1), .val (.int fr), .val (.int tt), .val (.int vl), .unset, .unset] [(.int vl), (.int tt), (.int fr), (.ref b1)])) rfl (by rw [hml]; rfl) (argsL := [(.ref b1), (.int fr), (.int tt), (.int vl)]) (rest := []) (lenOf pd_285bBIIB29I rfl) rfl (by show 2 * 0 + _ ≤ _; exact Nat.le_of_eq rfl) (hb hby at_87) (fun _ _ => ⟨rfl, e10, (by decide : 1 + 0 ≤ _), (by decide : 4 + 0 ≤ _)⟩)
  dsimp only [Pt.U, Pt.locs, Pt.cells, Pt.slots] at X13 l13 y13 z13 st13 hQ13
  subst l13 y13 z13
  obtain ⟨h13, e13⟩ : ∃ z, T13.heap = z := ⟨_, rfl⟩
  rw [e13] at hQ13
  obtain ⟨r13, rfl, N13q, eh13, hf13⟩ := hQ13
  rw [eh13] at e13
  have N13 := Fr.app N10 N13q
  refine Go.to (g' := (mkF m 90 #[.val (.int p0), .val (.int p1), .val (.int p2), .val (.int p3), .val (.ref b1), .val (.int fr), .val (.int tt), .val (.int vl), .unset, .unset] [(.int r13)])) st13 ?_
  refine Go.to (g' := (mkF m 92 #[.val (.int p0), .val (.int p1), .val (.int p2), .val (.int p3), .val (.ref b1), .val (.int fr), .val (.int tt), .val (.int vl), .val (.int r13), .unset] [])) (fun t k => XS.istore X13.here hx rfl (hb hby at_90) rfl (l' := #[.val (.int p0), .val (.int p1), .val (.int p2), .val (.int p3), .val (.ref b1), .val (.int fr), .val (.int tt), .val (.int vl), .val (.int r13), .unset]) rfl k) ?_
  refine Go.to (g' := (mkF m 94 #[.val (.int p0), .val (.int p1), .val (.int p2), .val (.int p3), .val (.ref b1), .val (.int fr), .val (.int tt), .val (.int vl), .val (.int r13), .unset] [(.ref b1)])) (fun t k => XS.aload X13.here hx rfl (hb hby at_92) rfl rfl k) ?_
  refine Go.to (g' := (mkF m 96 #[.val (.int p0), .val (.int p1), .val (.int p2), .val (.int p3), .val (.ref b1), .val (.int fr), .val (.int tt), .val (.int vl), .val (.int r13), .unset] [(.int fr), (.ref b1)])) (fun t k => XS.iload X13.here hx rfl (hb hby at_94) rfl k) ?_
  refine Go.to (g' := (mkF m 98 #[.val (.int p0), .val (.int p1), .val (.int p2), .val (.int p3), .val (.ref b1), .val (.int fr), .val (.int tt), .val (.int vl), .val (.int r13), .unset] [(.int tt), (.int fr), (.ref b1)])) (fun t k => XS.iload X13.here hx rfl (hb hby at_96) rfl k) ?_
  refine Go.to (g' := (mkF m 100 #[.val (.int p0), .val (.int p1), .val (.int p2), .val (.int p3), .val (.ref b1), .val (.int fr), .val (.int tt), .val (.int vl), .val (.int r13), .unset] [(.int vl), (.int tt), (.int fr), (.ref b1)])) (fun t k => XS.iload X13.here hx rfl (hb hby at_98) rfl k) ?_
  obtain ⟨v14, _, ⟨T14, L14, k14, n14⟩, -, X14, ⟨Lc14, hQ14, l14, y14, z14⟩, st14⟩ := Jvm.LawKit.callS X13 hx (y := (⟨"com/example/dispatch_to_workers/dispatchtoworkers/mapreduce/Lines", "indexOf", "([BIIB)I"⟩ : MethodName)) hown (mvT hZ (hw _ (List.mem_of_getElem? (i := 8) rfl))) (mvT hZ (hw _ (List.mem_of_getElem? (i := 9) rfl))) (mvT hZ (hw _ (List.mem_of_getElem? (i := 10) rfl))) (mvT hZ (hw _ (List.mem_of_getElem? (i := 11) rfl))) (by decide) (backOf (W := 0) (rm3 l Z aw hw [] b1 fr tt vl f h10 n0 Z10 B hfr htt) hZ (hw _ (List.mem_of_getElem? (i := 11) rfl)) (hw _ (List.mem_of_getElem? (i := 10) rfl)) (by decide) (by decide)) (g := (mkF m 100 #[.val (.int p0), .val (.int p1), .val (.int p2), .val (.int p3), .val (.ref b1), .val (.int fr), .val (.int tt), .val (.int vl), .val (.int r13), .unset] [(.int vl), (.int tt), (.int fr), (.ref b1)])) rfl (by rw [hml]; rfl) (argsL := [(.ref b1), (.int fr), (.int tt), (.int vl)]) (rest := []) (lenOf pd_285bBIIB29I rfl) rfl (by show 2 * 0 + _ ≤ _; exact Nat.le_of_eq rfl) (hb hby at_100) (fun _ _ => ⟨rfl, e13, (by decide : 1 + 0 ≤ _), (by decide : 4 + 0 ≤ _)⟩)
  dsimp only [Pt.U, Pt.locs, Pt.cells, Pt.slots] at X14 l14 y14 z14 st14 hQ14
  subst l14 y14 z14
  obtain ⟨h14, e14⟩ : ∃ z, T14.heap = z := ⟨_, rfl⟩
  rw [e14] at hQ14
  obtain ⟨r14, rfl, N14q, eh14, hf14⟩ := hQ14
  rw [eh14] at e14
  have N14 := Fr.app N13 N14q
  refine Go.to (g' := (mkF m 103 #[.val (.int p0), .val (.int p1), .val (.int p2), .val (.int p3), .val (.ref b1), .val (.int fr), .val (.int tt), .val (.int vl), .val (.int r13), .unset] [(.int r14)])) st14 ?_
  refine Go.to (g' := (mkF m 105 #[.val (.int p0), .val (.int p1), .val (.int p2), .val (.int p3), .val (.ref b1), .val (.int fr), .val (.int tt), .val (.int vl), .val (.int r13), .val (.int r14)] [])) (fun t k => XS.istore X14.here hx rfl (hb hby at_103) rfl (l' := #[.val (.int p0), .val (.int p1), .val (.int p2), .val (.int p3), .val (.ref b1), .val (.int fr), .val (.int tt), .val (.int vl), .val (.int r13), .val (.int r14)]) rfl k) ?_
  refine Go.to (g' := (mkF m 107 #[.val (.int p0), .val (.int p1), .val (.int p2), .val (.int p3), .val (.ref b1), .val (.int fr), .val (.int tt), .val (.int vl), .val (.int r13), .val (.int r14)] [(.int r14)])) (fun t k => XS.iload X14.here hx rfl (hb hby at_105) rfl k) ?_
  refine Go.to (g' := (mkF m 109 #[.val (.int p0), .val (.int p1), .val (.int p2), .val (.int p3), .val (.ref b1), .val (.int fr), .val (.int tt), .val (.int vl), .val (.int r13), .val (.int r14)] [(.int r13), (.int r14)])) (fun t k => XS.iload X14.here hx rfl (hb hby at_107) rfl k) ?_
  refine Go.to (g' := (mkF m 112 #[.val (.int p0), .val (.int p1), .val (.int p2), .val (.int p3), .val (.ref b1), .val (.int fr), .val (.int tt), .val (.int vl), .val (.int r13), .val (.int r14)] [])) (fun t k => XS.icmpNo X14.here hx rfl (hb hby at_109) rfl (teq (own_uni hfr hf14 hf13)).2 k) ?_
  refine Go.to (g' := (mkF m 113 #[.val (.int p0), .val (.int p1), .val (.int p2), .val (.int p3), .val (.ref b1), .val (.int fr), .val (.int tt), .val (.int vl), .val (.int r13), .val (.int r14)] [(.int (1 : Int32))])) (fun t k => XS.iconst X14.here hx rfl (hb hby at_112) k) ?_
  refine Go.to (g' := (mkF m 117 #[.val (.int p0), .val (.int p1), .val (.int p2), .val (.int p3), .val (.ref b1), .val (.int fr), .val (.int tt), .val (.int vl), .val (.int r13), .val (.int r14)] [(.int (1 : Int32))])) (fun t k => XS.goto X14.here hx rfl (pc0 := 113) (pc' := 117) rfl (hb hby at_113) (by decide) (by decide) k) ?_
  exact Go.retN X14 hx (t := .boolean) Bd.returns Bd.notSynchronized (by simp) (hb hby at_117) (by decide) (by decide) e14 ⟨rfl, N14⟩

set_option maxRecDepth 65536 in
set_option maxHeartbeats 40000000 in
theorem comes_1 {Post : Tables → Env → Array Value → State → Outcome → State → Prop} (hpost : ∀ tb e args s v u, (limb_1_1.after args s (.returned v) u = true ∧ limb_1_2.after args s (.returned v) u = true ∧ True) → FrameEnd s (.returned v) u (Jvm.fieldLocs frame_1_writes args s ++ Jvm.arrayLocs frame_1_arrays args s ++ Jvm.staticLocs frame_1_statics s) 16 128 → Post tb e args s (.returned v) u) :
    ArmFor flags0 classFile x code maxLocals ret World_1 tables_1 room_1 Calls_1 rest_1 Pre_1 Post := by
  intro l hfl _ _ p e ha hc hk s m args below hf hA hF happ hP
  obtain ⟨hcalls, hrest, hpre⟩ := hP
  obtain ⟨-, -, -, hnamed, -, -, -, hat⟩ := (Spec.applies_iff hf).mp happ
  obtain ⟨hg, hn⟩ := and_e (Cond.before_iff.mp (show (Jvm.Cond.and given_1 narrow_1).before args s = true from hpre))
  obtain ⟨ga0, gb0⟩ := and_e hg
  obtain ⟨ga1, gb1⟩ := and_e gb0
  obtain ⟨ga2, gb2⟩ := and_e gb1
  obtain ⟨ga3, gb3⟩ := and_e gb2
  obtain ⟨w0, w1, w2, w3, rfl⟩ : ∃ w0 w1 w2 w3 : Value, args = #[w0, w1, w2, w3] := by
    have hs : args.size = 4 := by simpa [Cond.value, given_1] using ga0
    obtain ⟨L⟩ := args
    match L, hs with
    | [w0, w1, w2, w3], _ => exact ⟨w0, w1, w2, w3, rfl⟩
  have hw := fun d (hd : d ∈ tables_1) => atoms_spec (ws := Jvm.Cond.code x code maxLocals ret :: tables_1) hat d (List.mem_cons_of_mem _ hd)
  obtain ⟨i0, ei0⟩ := is_v ga1
  obtain rfl : w0 = (.int i0) := Option.some.inj ei0
  obtain ⟨i1, ei1⟩ := is_v ga2
  obtain rfl : w1 = (.int i1) := Option.some.inj ei1
  obtain ⟨i2, ei2⟩ := is_v ga3
  obtain rfl : w2 = (.int i2) := Option.some.inj ei2
  obtain ⟨i3, ei3⟩ := is_v gb3
  obtain rfl : w3 = (.int i3) := Option.some.inj ei3
  obtain ⟨n, o, h1, h2, h3, _, L, rfl, ⟨rfl, N⟩, hq⟩ := rm0 l s _ hw tables_1 i0 i1 i2 i3 s.heap s.heap.size (Nat.le_refl _)  p e ha hc hk s m _ below hf ((Spec.applies_iff_loose hf).mp happ).1 ⟨rfl, State.Warmed39.refl s, rfl⟩ trivial
  refine ⟨n, _, h1, h2, h3, hpost _ _ _ _ _ _ ⟨Cond.after_iff.mpr rfl, Cond.after_iff.mpr (eq_i res_at (Term.int_eval (1)) rfl), trivial⟩ ⟨hq.1, hq.2.1, (hq.2.2.sift fun y hy => Or.inr (N y hy)).mono (by decide) (by decide)⟩⟩
theorem main_1_1 : Claimed_1_1 := comes_1 fun _ _ _ _ _ _ h hF => ⟨h.1, hF⟩
theorem main_1_2 : Claimed_1_2 := comes_1 fun _ _ _ _ _ _ h hF => ⟨h.2.1, hF⟩

end Jvm.Pilot.@@N@@
namespace Jvm.Pilot.@@N@@
open Jvm Jvm.ClassFile Sem Op Lib Jvm.Free Jvm.Stand Jvm.Pilot.@@N@@.Jvm.D
/-! MADE BY PROGRAM (witnessworld.py) out of the Statement's table words and the real class files: 9 classes; the members and pool entries that the words name. The judged class is class 1, her method 3. -/
namespace start1
open Jvm.ClassFile
def u (s : String) : CpInfo := .utf8 (stringToUtf16 s)
/-- a pool by its gaps: so many unusable entries, then the entry; so many at the end -/
def gap : Nat → List CpInfo → List CpInfo
  | 0, r => r
  | n + 1, r => .unusable :: gap n r
def poolList (es : List (Nat × CpInfo)) (last : Nat) : List CpInfo := es.foldr (fun e r => gap e.1 (e.2 :: r)) (gap last [])
def pool (es : List (Nat × CpInfo)) (last : Nat) : Array CpInfo := ⟨poolList es last⟩
def fileOf (pool : Array CpInfo) (this : Nat) (attrs : Array Attribute := #[]) (ms : Array MethodInfo := #[]) (fl : Nat := 33) (sup : Nat := 0) (ifs : Array Nat := #[]) (fds : Array FieldInfo := #[]) : ClassFile where
  minorVersion := 0
  majorVersion := 65
  constantPool := pool
  accessFlags := fl
  thisClass := this
  superClass := sup
  interfaces := ifs
  fields := fds
  methods := ms
  attributes := attrs
def plain (name : String) (sup : Option ClassId) : Class where
  name := name
  kind := .ordinary
  loader := none
  accessFlags := 33
  super := sup
  interfaces := #[]
  cf := none
  fields := #[]
  methods := #[]
  instanceTypes := #[]
  staticTypes := #[]
  resolved := #[]
  callSites := []
  init := .initialized
  statics := none
  mirror := none

def pool0 : Array CpInfo := pool [(5, u "<init>"), (0, u "()V"), (1, .class_ 10), (1, u "java/lang/Object")] 113

def k0m0 : Method := { name := "<init>", desc := "()V", sig := { parameters := [], returnType := none }, accessFlags := 1, code := none }
/-- java/lang/Object -/
def k0 : Class := { plain "java/lang/Object" none with
  accessFlags := 33
  interfaces := #[]
  cf := some (fileOf pool0 8 #[] #[{ accessFlags := 1, nameIndex := 5, descriptorIndex := 6, attributes := #[] }] 33 0 #[] #[])
  fields := #[]
  methods := #[k0m0]
  instanceTypes := #[]
  staticTypes := #[]
  resolved := Array.replicate 124 none
  statics := none }

def pool1 : Array CpInfo := pool [(2, .class_ 4), (1, u "java/lang/Object"), (0, u "<init>"), (0, u "()V"), (0, .methodref 8 9), (0, .class_ 10), (0, .nameAndType 11 12), (0, u "com/example/dispatch_to_workers/dispatchtoworkers/mapreduce/LinesIndexOfPinLaw"), (0, u "hit"), (0, u "([BIIIB)Z"), (0, .methodref 8 14), (0, .nameAndType 15 16), (0, u "reference"), (0, u "([BIIB)I"), (0, .methodref 18 19), (0, .class_ 20), (0, .nameAndType 21 16), (0, u "com/example/dispatch_to_workers/dispatchtoworkers/mapreduce/Lines"), (0, u "indexOf"), (3, u "law"), (0, u "(IIII)Z")] 4

def k1m0 : Method := { name := "<init>", desc := "()V", sig := { parameters := [], returnType := none }, accessFlags := 2, code := none }
def k1c1 : Code := { maxStack := 2, maxLocals := 5, code := method_2_code, exceptionTable := #[], attributes := #[] }
def k1m1 : Method := { name := "hit", desc := "([BIIIB)Z", sig := { parameters := [(.array .byte), .int, .int, .int, .byte], returnType := some .boolean }, accessFlags := 10, code := some k1c1 }
def k1c2 : Code := { maxStack := 5, maxLocals := 4, code := method_3_code, exceptionTable := #[], attributes := #[] }
def k1m2 : Method := { name := "reference", desc := "([BIIB)I", sig := { parameters := [(.array .byte), .int, .int, .byte], returnType := some .int }, accessFlags := 10, code := some k1c2 }
def k1c3 : Code := { maxStack := 4, maxLocals := 10, code := code, exceptionTable := #[], attributes := #[] }
def k1m3 : Method := { name := "law", desc := "(IIII)Z", sig := { parameters := [.int, .int, .int, .int], returnType := some .boolean }, accessFlags := 9, code := some k1c3 }
/-- com/example/dispatch_to_workers/dispatchtoworkers/mapreduce/LinesIndexOfPinLaw -/
def k1 : Class := { plain "com/example/dispatch_to_workers/dispatchtoworkers/mapreduce/LinesIndexOfPinLaw" (some 0) with
  accessFlags := 49
  interfaces := #[]
  cf := some (fileOf pool1 8 #[] #[{ accessFlags := 2, nameIndex := 5, descriptorIndex := 6, attributes := #[] }, { accessFlags := 10, nameIndex := 11, descriptorIndex := 12, attributes := #[] }, { accessFlags := 10, nameIndex := 15, descriptorIndex := 16, attributes := #[] }, { accessFlags := 9, nameIndex := 25, descriptorIndex := 26, attributes := #[] }] 49 2 #[] #[])
  fields := #[]
  methods := #[k1m0, k1m1, k1m2, k1m3]
  instanceTypes := #[]
  staticTypes := #[]
  resolved := Array.replicate 31 none
  statics := none }

def pool2 : Array CpInfo := pool [(2, .class_ 4), (1, u "java/lang/Object"), (0, u "<init>"), (0, u "()V"), (6, .class_ 14), (0, u "com/example/dispatch_to_workers/dispatchtoworkers/mapreduce/Lines"), (2, u "indexOf"), (0, u "([BIIB)I"), (36, .class_ 56), (0, u "com/example/dispatch_to_workers/dispatchtoworkers/mapreduce/Lines$1"), (15, u "NEWLINE"), (0, u "B"), (2, u "TAB"), (1, u "FNV_OFFSET"), (0, u "J"), (0, u "FNV_PRIME"), (0, u "WRITE_BYTES"), (0, u "I")] 19

def k2m0 : Method := { name := "<init>", desc := "()V", sig := { parameters := [], returnType := none }, accessFlags := 2, code := none }
def k2c1 : Code := { maxStack := 2, maxLocals := 5, code := prog_46_method_7_code, exceptionTable := #[], attributes := #[] }
def k2m1 : Method := { name := "indexOf", desc := "([BIIB)I", sig := { parameters := [(.array .byte), .int, .int, .byte], returnType := some .int }, accessFlags := 8, code := some k2c1 }
/-- com/example/dispatch_to_workers/dispatchtoworkers/mapreduce/Lines -/
def k2 : Class := { plain "com/example/dispatch_to_workers/dispatchtoworkers/mapreduce/Lines" (some 0) with
  accessFlags := 32
  interfaces := #[]
  cf := some (fileOf pool2 13 #[.nestMembers #[55]] #[{ accessFlags := 2, nameIndex := 5, descriptorIndex := 6, attributes := #[] }, { accessFlags := 8, nameIndex := 17, descriptorIndex := 18, attributes := #[] }] 32 2 #[] #[{ accessFlags := 24, nameIndex := 72, descriptorIndex := 73, attributes := #[] }, { accessFlags := 24, nameIndex := 76, descriptorIndex := 73, attributes := #[] }, { accessFlags := 26, nameIndex := 78, descriptorIndex := 79, attributes := #[] }, { accessFlags := 26, nameIndex := 80, descriptorIndex := 79, attributes := #[] }, { accessFlags := 26, nameIndex := 81, descriptorIndex := 82, attributes := #[] }])
  fields := #[{ name := "NEWLINE", type := .byte, accessFlags := 24, slot := 0, constantValue := 0 }, { name := "TAB", type := .byte, accessFlags := 24, slot := 1, constantValue := 0 }, { name := "FNV_OFFSET", type := .long, accessFlags := 26, slot := 2, constantValue := 0 }, { name := "FNV_PRIME", type := .long, accessFlags := 26, slot := 3, constantValue := 0 }, { name := "WRITE_BYTES", type := .int, accessFlags := 26, slot := 4, constantValue := 0 }]
  methods := #[k2m0, k2m1]
  instanceTypes := #[]
  staticTypes := #[.byte, .byte, .long, .long, .int]
  resolved := Array.replicate 102 none
  statics := none }

def pool3 : Array CpInfo := pool [(1, u "java/lang/Cloneable"), (0, .class_ 1), (0, u "java/lang/Object"), (0, .class_ 3)] 3

/-- java/lang/Cloneable -/
def k3 : Class := { plain "java/lang/Cloneable" (some 0) with
  accessFlags := 1537
  interfaces := #[]
  cf := some (fileOf pool3 2 #[] #[] 1537 4 #[] #[])
  fields := #[]
  methods := #[]
  instanceTypes := #[]
  staticTypes := #[]
  resolved := Array.replicate 8 none
  statics := none }

def pool4 : Array CpInfo := pool [(1, u "java/io/Serializable"), (0, .class_ 1), (0, u "java/lang/Object"), (0, .class_ 3)] 3

/-- java/io/Serializable -/
def k4 : Class := { plain "java/io/Serializable" (some 0) with
  accessFlags := 1537
  interfaces := #[]
  cf := some (fileOf pool4 2 #[] #[] 1537 4 #[] #[])
  fields := #[]
  methods := #[]
  instanceTypes := #[]
  staticTypes := #[]
  resolved := Array.replicate 8 none
  statics := none }

/-- the primitive byte -/
def k5 : Class := { plain "byte" none with kind := .primitive 'B', accessFlags := 0x411 }
/-- [B -/
def k6 : Class := { plain "[B" (some 0) with kind := .array 5 .byte, interfaces := #[3, 4], accessFlags := 1041 }

/-- the primitive int -/
def k7 : Class := { plain "int" none with kind := .primitive 'I', accessFlags := 0x411 }
/-- [I -/
def k8 : Class := { plain "[I" (some 0) with kind := .array 7 .int, interfaces := #[3, 4], accessFlags := 1041 }

def heap : Heap := #[]
def classes : Array Class := #[k0, k1, k2, k3, k4, k5, k6, k7, k8]
def interned : List (Array UInt16 × Addr) := []
def slotsUsed : Nat := 0
def theMethod : MethodId := ⟨1, 3⟩
def args0 : Array Value := #[.int 9, .int 8, .int 5, .int 2]
def aboutOver (below : List Frame) : State where
  vm := { classes := classes, interned := interned.toArray }
  heap := heap
  slotsUsed := slotsUsed
  threads := #[{ frames := .invoking theMethod args0 :: below }]
def below0 : List Frame := [.native { method := ⟨0, 0⟩, args := #[] }]
def about1 : State := aboutOver below0
def p0 : Program := .bare "" "" ""
def e0 : Env := launch0.env 0 0 0
theorem w_frames : about1.frames = Frame.invoking theMethod args0 :: below0 := rfl
set_option maxRecDepth 65536 in
theorem w_args : argsFit about1.vm theMethod args0 = true := by decide +kernel
set_option maxRecDepth 65536 in
theorem w_heap : heapFits about1 = true := by decide +kernel
set_option maxRecDepth 65536 in
theorem w_runnable : about1.curStatus? = some .runnable := by decide +kernel
set_option maxRecDepth 65536 in
theorem w_alone : about1.alone = true := by decide +kernel
set_option maxRecDepth 65536 in
theorem w_named : about1.methodNamed? x = some theMethod := by decide +kernel
set_option maxRecDepth 65536 in
theorem w_hears : about1.hears theMethod below0 = true := by decide +kernel
set_option maxRecDepth 65536 in
theorem w_ripe : about1.ripe theMethod args0 below0 = true := by decide +kernel
theorem w_running : about1.status = .running := rfl
set_option maxRecDepth 65536 in
theorem w_room : about1.hasRoom e0.platform room_1 = true :=
  launch0.hasRoom_least _ room_1 (by decide +kernel) (by decide +kernel) (by decide +kernel) (by decide +kernel) (by decide +kernel) (by decide +kernel)
theorem allAtoms_all (ts : List Jvm.Cond) (a : Array Jvm.Value) (st : Jvm.State) : (allAtoms ts).before a st = ts.all (fun c => c.before a st) := by
  induction ts with
  | nil => rfl
  | cons c t ih =>
    show (Jvm.Cond.and c (allAtoms t)).before a st = _
    rw [Jvm.Cond.before_and, ih, List.all_cons]
def words1 : List Jvm.Cond := Jvm.Cond.code x code maxLocals ret :: tables_1
/-- a 'code' word, met by the world's own term for the bytes: nothing is compared byte by byte -/
theorem code_word {y : MethodName} {bytes : ByteArray} {mx : Nat} {rt : Option FieldType} {a : Array Value} {s : State} {m : MethodId} {meth : Method} {c : Code} (h1 : s.methodNamed? y = some m) (h2 : s.vm.method? m = some meth) (h3 : meth.code = some c) (h4 : c.code = bytes)
    (h5 : (c.maxLocals == mx && c.exceptionTable.isEmpty && decide (c.maxStack ≤ mostOperands) && decide (meth.sig.returnType = rt) && !meth.locks && decide (parseMethodDescriptor y.desc = some meth.sig)) = true) : (Jvm.Cond.code y bytes mx rt).before a s = true := by
  simp only [Bool.and_eq_true, beq_iff_eq, Bool.not_eq_true', decide_eq_true_eq] at h5
  obtain ⟨⟨⟨⟨⟨g1, g2⟩, g3⟩, g4⟩, g5⟩, g6⟩ := h5
  simp [Cond.before, Cond.holds, Cond.value, h1, h2, h3, h4, g1, g2, g3, g4, g5, g6]
def isCode : Jvm.Cond → Bool
  | .code _ _ _ _ => true
  | _ => false
theorem all_split {L : List Jvm.Cond} {P : Jvm.Cond → Bool} (h1 : L.all (fun c => isCode c || P c) = true) (h2 : ∀ c ∈ L.filter isCode, P c = true) : L.all P = true := by
  refine List.all_eq_true.mpr fun c hc => ?_
  have h := List.all_eq_true.mp h1 c hc
  rcases Bool.eq_false_or_eq_true (isCode c) with hi | hi
  · exact h2 c (List.mem_filter.mpr ⟨hc, hi⟩)
  · simpa [hi] using h
set_option maxRecDepth 65536 in
theorem w_c0 : (Jvm.Cond.code x code maxLocals ret).before args0 about1 = true := code_word (m := ⟨1, 3⟩) (meth := k1m3) (c := k1c3) (by decide +kernel) rfl rfl rfl (by decide +kernel)
set_option maxRecDepth 65536 in
theorem w_c1 : (Jvm.Cond.code ({ cls := "com/example/dispatch_to_workers/dispatchtoworkers/mapreduce/LinesIndexOfPinLaw", name := "reference", desc := "([BIIB)I" } : Jvm.MethodName) method_3_code (4 : Nat) (Option.some Jvm.ClassFile.FieldType.int)).before args0 about1 = true := code_word (m := ⟨1, 2⟩) (meth := k1m2) (c := k1c2) (by decide +kernel) rfl rfl rfl (by decide +kernel)
set_option maxRecDepth 65536 in
theorem w_c2 : (Jvm.Cond.code ({ cls := "com/example/dispatch_to_workers/dispatchtoworkers/mapreduce/LinesIndexOfPinLaw", name := "hit", desc := "([BIIIB)Z" } : Jvm.MethodName) method_2_code (5 : Nat) (Option.some Jvm.ClassFile.FieldType.boolean)).before args0 about1 = true := code_word (m := ⟨1, 1⟩) (meth := k1m1) (c := k1c1) (by decide +kernel) rfl rfl rfl (by decide +kernel)
set_option maxRecDepth 65536 in
theorem w_c3 : (Jvm.Cond.code ({ cls := "com/example/dispatch_to_workers/dispatchtoworkers/mapreduce/Lines", name := "indexOf", desc := "([BIIB)I" } : Jvm.MethodName) prog_46_method_7_code (5 : Nat) (Option.some Jvm.ClassFile.FieldType.int)).before args0 about1 = true := code_word (m := ⟨2, 1⟩) (meth := k2m1) (c := k2c1) (by decide +kernel) rfl rfl rfl (by decide +kernel)
def codes1 : List Jvm.Cond := [Jvm.Cond.code x code maxLocals ret, Jvm.Cond.code ({ cls := "com/example/dispatch_to_workers/dispatchtoworkers/mapreduce/LinesIndexOfPinLaw", name := "reference", desc := "([BIIB)I" } : Jvm.MethodName) method_3_code (4 : Nat) (Option.some Jvm.ClassFile.FieldType.int), Jvm.Cond.code ({ cls := "com/example/dispatch_to_workers/dispatchtoworkers/mapreduce/LinesIndexOfPinLaw", name := "hit", desc := "([BIIIB)Z" } : Jvm.MethodName) method_2_code (5 : Nat) (Option.some Jvm.ClassFile.FieldType.boolean), Jvm.Cond.code ({ cls := "com/example/dispatch_to_workers/dispatchtoworkers/mapreduce/Lines", name := "indexOf", desc := "([BIIB)I" } : Jvm.MethodName) prog_46_method_7_code (5 : Nat) (Option.some Jvm.ClassFile.FieldType.int)]
set_option maxRecDepth 65536 in
theorem codes_eq : words1.filter isCode = codes1 := rfl
theorem w_codes : ∀ c ∈ words1.filter isCode, c.before args0 about1 = true := by
  rw [codes_eq]
  intro c hc
  simp only [codes1, List.mem_cons, List.not_mem_nil, or_false] at hc
  rcases hc with rfl | rfl | rfl | rfl
  · exact w_c0
  · exact w_c1
  · exact w_c2
  · exact w_c3
set_option maxRecDepth 65536 in
theorem w_t1 : words1.all (fun c => isCode c || c.before args0 about1) = true := by decide +kernel
theorem w_tables : (allAtoms (Jvm.Cond.code x code maxLocals ret :: tables_1)).before args0 about1 = true := by
  rw [allAtoms_all]
  show words1.all (fun c => c.before args0 about1) = true
  refine all_split ?_ w_codes
  rw [w_t1]
set_option maxRecDepth 65536 in
theorem w_case : (Jvm.Cond.and given_1 narrow_1).before args0 about1 = true := by decide +kernel
theorem w_applies : (headSpec (Jvm.Cond.code x code maxLocals ret :: tables_1) room_1).applies x e0.platform about1 = true :=
  (Spec.applies_iff w_frames).mpr ⟨w_running, w_runnable, w_alone, w_named, w_hears, w_ripe, w_room, w_tables⟩
theorem atStart : AtStart classFile x code maxLocals ret World_1 tables_1 room_1 Calls_1 rest_1 Pre_1 launch0 p0 e0 about1 theMethod args0 below0 :=
  ⟨lists_1, trivial, launch0.admits_env _ _ _, launch0.least_env, fairChoices_fair.cas, fairChoices_fair.clock, w_frames, w_args, w_heap, w_applies, trivial, trivial, w_case⟩
end start1
theorem witness_1 : WitnessClaimed_1 := ⟨start1.p0, start1.e0, start1.about1, start1.theMethod, start1.args0, start1.below0, start1.atStart⟩
end Jvm.Pilot.@@N@@
