import JvmDerived
import JvmDerived.Pilot.@@N@@Statement
import JvmDerived.Pilot.@@N@@Code
set_option linter.unusedVariables false
set_option linter.unusedSimpArgs false
namespace Jvm.RoadKit
open Sem ClassFile Op Lib Jvm.Stand Jvm.Free Jvm.LawKit
section New
variable {p : Program} {l : Launch} {e : Env} {R : Room} {s : State} {m : MethodId} {args : Array Value} {below : List Frame} {meth : Method} {c : Code} {T : State} {locs : List Loc} {cells slots : Nat}
theorem retI (X : Stand p l e R s m args below meth c T locs cells slots) (hx : p.tables.exec = Jvm.exec) {pc : Nat} {Ls : Array Slot} {z : Int32} {rest : List Value} (hret : meth.sig.returnType = some .int) (hd : decode c.code pc = .ok (.ireturn, 1)) {fs : List Frame}
    (hl : ∀ (f : JFrame) (acts : List Action), f.method = m → f.locked = none → f.entered = [] → (doReturn e (T.setTop f) acts (some (.int z))).1 = T.setFrames fs) : Steps p.tables e below (T.setTop (mkF m pc Ls (.int z :: rest))) (T.setFrames fs) := by
  have hm' : T.vm.method? m = some meth := X.method'
  have hn : narrow .int (.int z) = .int z := rfl
  show Steps p.tables e below (T.setTop { method := m, pc := pc, locals := Ls, stack := _ :: rest, locked := none }) _
  jvm_step X.here [X.here.top, hx, hd, hm', hret, hn]
  first | (intro acts; rw [hl _ acts rfl rfl rfl]) | rw [hl _ _ rfl rfl rfl]
  exact Steps.refl _
end New
end Jvm.RoadKit
namespace Jvm.Pilot.@@N@@
open Jvm Jvm.ClassFile Sem Op Lib Jvm.Free Jvm.Stand Jvm.LawKit Jvm.RoadKit Bundle Jvm.Pilot.@@N@@.Jvm.D
section OwnGo
variable {p : Program} {l : Launch} {e : Env} {R : Room} {s : State} {m : MethodId} {args : Array Value} {below : List Frame} {meth : Method} {c : Code} {T T' : State} {locs : List Loc} {cells slots : Nat} {C S : Nat} {Q : Option Value → Heap → List Loc → Prop} {h : Heap}
/-- from here the run comes to a return of which Q holds -/
def Go (p : Program) (e : Env) (below : List Frame) (s : State) (Q : Option Value → Heap → List Loc → Prop) (C S : Nat) (S0 : State) : Prop :=
  ∃ s₂ o, Steps p.tables e below S0 s₂ ∧ s₂.status = .running ∧ Ended s₂ below o ∧ ∃ v L, o = .returned v ∧ Q v s₂.heap L ∧ FrameEnd s o s₂ L C S
theorem own_go {S0 : State} (k : Go p e below s Q C S S0) : ∃ s₂ o, Steps p.tables e below S0 s₂ ∧ s₂.status = .running ∧ Ended s₂ below o ∧ ∃ v L, o = .returned v ∧ Q v s₂.heap L ∧ FrameEnd s o s₂ L C S := k
theorem Go.to {g g' : JFrame} (st : ∀ t, Steps p.tables e below (T'.setTop g') t → Steps p.tables e below (T.setTop g) t) (k : Go p e below s Q C S (T'.setTop g')) : Go p e below s Q C S (T.setTop g) := by
  obtain ⟨s₂, o, h1, r⟩ := k
  exact ⟨s₂, o, st _ h1, r⟩
theorem Go.retI (X : Stand p l e R s m args below meth c T locs cells slots) (hx : p.tables.exec = Jvm.exec) {pc : Nat} {Ls : Array Slot} {z : Int32} {rest : List Value} (hret : meth.sig.returnType = some .int) (hlk : meth.locks = false) (hd : decode c.code pc = .ok (.ireturn, 1)) (hC : cells ≤ C) (hS : slots ≤ S) (eT : T.heap = h) (hQ : Q (some (.int z)) h locs) :
    Go p e below s Q C S (T.setTop (mkF m pc Ls (.int z :: rest))) := by
  obtain ⟨fs, hr, hrun, hended, hW, hsame⟩ := X.leave (v := some (.int z)) (fun h => by rw [hret] at h; cases h) hlk
  exact ⟨_, _, Jvm.RoadKit.retI X hx hret hd hr, hrun, hended, _, _, rfl, (show Q (some (.int z)) T.heap locs from eT ▸ hQ), ⟨_, rfl⟩, hW, hsame.mono hC hS⟩
theorem Go.retN (X : Stand p l e R s m args below meth c T locs cells slots) (hx : p.tables.exec = Jvm.exec) {pc : Nat} {Ls : Array Slot} {z : Int32} {t : FieldType} {rest : List Value} (hret : meth.sig.returnType = some t) (hlk : meth.locks = false) (ht : t = .boolean ∨ t = .byte ∨ t = .char ∨ t = .short) (hd : decode c.code pc = .ok (.ireturn, 1)) (hC : cells ≤ C) (hS : slots ≤ S) (eT : T.heap = h) (hQ : Q (some (.int (nar t z))) h locs) :
    Go p e below s Q C S (T.setTop (mkF m pc Ls (.int z :: rest))) := by
  obtain ⟨fs, hr, hrun, hended, hW, hsame⟩ := X.leave (v := some (.int (nar t z))) (fun h => by rw [hret] at h; cases h) hlk
  exact ⟨_, _, Jvm.RoadKit.retN X hx hret ht hd hr, hrun, hended, _, _, rfl, (show Q (some (.int (nar t z))) T.heap locs from eT ▸ hQ), ⟨_, rfl⟩, hW, hsame.mono hC hS⟩
theorem Go.ret (X : Stand p l e R s m args below meth c T locs cells slots) (hx : p.tables.exec = Jvm.exec) {pc : Nat} {Ls : Array Slot} (hret : meth.sig.returnType = none) (hlk : meth.locks = false) (hd : decode c.code pc = .ok (.return_, 1)) (hC : cells ≤ C) (hS : slots ≤ S) (eT : T.heap = h) (hQ : Q none h locs) :
    Go p e below s Q C S (T.setTop (mkF m pc Ls [])) := by
  obtain ⟨fs, hr, hrun, hended, hW, hsame⟩ := X.leave (v := none) (fun _ => rfl) hlk
  exact ⟨_, _, X.returnOut hx hret hd hr, hrun, hended, _, _, rfl, (show Q none T.heap locs from eT ▸ hQ), ⟨_, rfl⟩, hW, hsame.mono hC hS⟩
theorem Go.retJ (X : Stand p l e R s m args below meth c T locs cells slots) (hx : p.tables.exec = Jvm.exec) {pc : Nat} {Ls : Array Slot} {z : Int64} {rest : List Value} (hret : meth.sig.returnType = some .long) (hlk : meth.locks = false) (hd : decode c.code pc = .ok (.lreturn, 1)) (hC : cells ≤ C) (hS : slots ≤ S) (eT : T.heap = h) (hQ : Q (some (.long z)) h locs) :
    Go p e below s Q C S (T.setTop (mkF m pc Ls (.long z :: rest))) := by
  obtain ⟨fs, hr, hrun, hended, hW, hsame⟩ := X.leave (v := some (.long z)) (fun h => by rw [hret] at h; cases h) hlk
  exact ⟨_, _, retOut X hx hret rfl (Or.inr (Or.inl ⟨rfl, rfl, _, rfl⟩)) hd hr, hrun, hended, _, _, rfl, (show Q (some (.long z)) T.heap locs from eT ▸ hQ), ⟨_, rfl⟩, hW, hsame.mono hC hS⟩
theorem Go.retA (X : Stand p l e R s m args below meth c T locs cells slots) (hx : p.tables.exec = Jvm.exec) {pc : Nat} {Ls : Array Slot} {z : Addr} {t : FieldType} {rest : List Value} (hret : meth.sig.returnType = some t) (hlk : meth.locks = false) (ht : t.isReference = true) (hd : decode c.code pc = .ok (.areturn, 1)) (hC : cells ≤ C) (hS : slots ≤ S) (eT : T.heap = h) (hQ : Q (some (.ref z)) h locs) :
    Go p e below s Q C S (T.setTop (mkF m pc Ls (.ref z :: rest))) := by
  obtain ⟨fs, hr, hrun, hended, hW, hsame⟩ := X.leave (v := some (.ref z)) (fun h => by rw [hret] at h; cases h) hlk
  exact ⟨_, _, retOut X hx hret (by cases t <;> first | rfl | cases ht) (Or.inr (Or.inr (Or.inr (Or.inr ⟨rfl, ht, rfl⟩)))) hd hr, hrun, hended, _, _, rfl, (show Q (some (.ref z)) T.heap locs from eT ▸ hQ), ⟨_, rfl⟩, hW, hsame.mono hC hS⟩
end OwnGo
theorem own_irr (x : Int32) : ¬ x < x := by rw [Int32.lt_iff_toInt_lt]; omega
theorem own_irrL (x : Int64) : ¬ x < x := by rw [Int64.lt_iff_toInt_lt]; omega
theorem own_lrem {p : Program} {l : Launch} {e : Env} {R : Room} {s : State} {m : MethodId} {args : Array Value} {below : List Frame} {meth : Method} {c : Code} {T target : State} {locs : List Loc} {cells slots : Nat} {g : JFrame} (X : Stand p l e R s m args below meth c T locs cells slots) (hx : p.tables.exec = Jvm.exec) (hg : g.method = m) {x y : Int64} {rest : List Value} (hd : decode c.code g.pc = .ok (.lrem, 1)) (hs : g.stack = .long y :: .long x :: rest) (hy : y ≠ 0)
    (hr : Steps p.tables e below (T.setTop { g with pc := g.pc + 1, stack := .long (x % y) :: rest }) target) : Steps p.tables e below (T.setTop g) target :=
  XS.lrem X.here hx hg hd hs hy (by rw [lrem_mod]; exact hr)
theorem own_int {c : Cell} {vs : List Value} {d : Value} {j z : Int32} (H : Has c vs d) (G : ∀ i, i < c.slots.size → fits .int (vs.getD i d) = true) (hin : ¬ (j < 0 ∨ c.slots.size ≤ j.toNatClampNeg)) : ∃ x : Int32, c.slots[j.toNatClampNeg]? = some (.int x) := by
  have hk : j.toNatClampNeg < c.slots.size := Nat.lt_of_not_le fun q => hin (Or.inr q)
  have h1 := H _ hk
  have h2 := G _ hk
  cases hv : vs.getD j.toNatClampNeg d with
  | int x => exact ⟨x, by rw [h1, hv]⟩
  | _ => rw [hv] at h2; simp [fits] at h2
theorem d1_0 : decode method_3_code 0 = .ok (.iload_n 0, 1) := by decide +kernel
theorem d1_1 : decode method_3_code 1 = .ok (.iconst 3, 1) := by decide +kernel
theorem d1_2 : decode method_3_code 2 = .ok (.iand, 1) := by decide +kernel
theorem d1_3 : decode method_3_code 3 = .ok (.istore_n 1, 1) := by decide +kernel
theorem d1_4 : decode method_3_code 4 = .ok (.iload_n 1, 1) := by decide +kernel
theorem d1_5 : decode method_3_code 5 = .ok (.ifCond .ne 6, 3) := by decide +kernel
theorem d1_8 : decode method_3_code 8 = .ok (.bipush 13, 2) := by decide +kernel
theorem d1_10 : decode method_3_code 10 = .ok (.ireturn, 1) := by decide +kernel
theorem d1_11 : decode method_3_code 11 = .ok (.iload_n 1, 1) := by decide +kernel
theorem d1_12 : decode method_3_code 12 = .ok (.iconst 1, 1) := by decide +kernel
theorem d1_13 : decode method_3_code 13 = .ok (.if_icmp .ne 6, 3) := by decide +kernel
theorem d1_16 : decode method_3_code 16 = .ok (.bipush 10, 2) := by decide +kernel
theorem d1_18 : decode method_3_code 18 = .ok (.ireturn, 1) := by decide +kernel
theorem d1_19 : decode method_3_code 19 = .ok (.iload_n 0, 1) := by decide +kernel
theorem d1_20 : decode method_3_code 20 = .ok (.iconst 2, 1) := by decide +kernel
theorem d1_21 : decode method_3_code 21 = .ok (.ishr, 1) := by decide +kernel
theorem d1_22 : decode method_3_code 22 = .ok (.i2b, 1) := by decide +kernel
theorem d1_23 : decode method_3_code 23 = .ok (.ireturn, 1) := by decide +kernel
theorem pn_com_example_headstart_headstart_server_RequestEmptyLinesPinLaw : plainName "com/example/headstart/headstart/server/RequestEmptyLinesPinLaw" = true := by first | (simp [plainName, overriddenIn]; done) | decide +kernel
theorem d2_0 : decode prog_38_method_2_code 0 = .ok (.iconst 0, 1) := by decide +kernel
theorem d2_1 : decode prog_38_method_2_code 1 = .ok (.istore_n 2, 1) := by decide +kernel
theorem d2_2 : decode prog_38_method_2_code 2 = .ok (.iload_n 2, 1) := by decide +kernel
theorem d2_3 : decode prog_38_method_2_code 3 = .ok (.iconst 1, 1) := by decide +kernel
theorem d2_4 : decode prog_38_method_2_code 4 = .ok (.iadd, 1) := by decide +kernel
theorem d2_5 : decode prog_38_method_2_code 5 = .ok (.iload_n 1, 1) := by decide +kernel
theorem d2_6 : decode prog_38_method_2_code 6 = .ok (.if_icmp .ge 27, 3) := by decide +kernel
theorem d2_9 : decode prog_38_method_2_code 9 = .ok (.aload_n 0, 1) := by decide +kernel
theorem d2_10 : decode prog_38_method_2_code 10 = .ok (.iload_n 2, 1) := by decide +kernel
theorem d2_11 : decode prog_38_method_2_code 11 = .ok (.baload, 1) := by decide +kernel
theorem d2_12 : decode prog_38_method_2_code 12 = .ok (.bipush 13, 2) := by decide +kernel
theorem d2_14 : decode prog_38_method_2_code 14 = .ok (.if_icmp .ne 19, 3) := by decide +kernel
theorem d2_17 : decode prog_38_method_2_code 17 = .ok (.aload_n 0, 1) := by decide +kernel
theorem d2_18 : decode prog_38_method_2_code 18 = .ok (.iload_n 2, 1) := by decide +kernel
theorem d2_19 : decode prog_38_method_2_code 19 = .ok (.iconst 1, 1) := by decide +kernel
theorem d2_20 : decode prog_38_method_2_code 20 = .ok (.iadd, 1) := by decide +kernel
theorem d2_21 : decode prog_38_method_2_code 21 = .ok (.baload, 1) := by decide +kernel
theorem d2_22 : decode prog_38_method_2_code 22 = .ok (.bipush 10, 2) := by decide +kernel
theorem d2_24 : decode prog_38_method_2_code 24 = .ok (.if_icmp .ne 9, 3) := by decide +kernel
theorem d2_27 : decode prog_38_method_2_code 27 = .ok (.iinc 2 2, 3) := by decide +kernel
theorem d2_30 : decode prog_38_method_2_code 30 = .ok (.goto (-28), 3) := by decide +kernel
theorem d2_33 : decode prog_38_method_2_code 33 = .ok (.iload_n 2, 1) := by decide +kernel
theorem d2_34 : decode prog_38_method_2_code 34 = .ok (.ireturn, 1) := by decide +kernel
theorem pn_com_example_headstart_headstart_server_Request : plainName "com/example/headstart/headstart/server/Request" = true := by first | (simp [plainName, overriddenIn]; done) | decide +kernel
theorem pd_28I29B : parseMethodDescriptor "(I)B" = some ⟨[.int], some .byte⟩ := by decide +kernel
theorem pd_285bBI29I : parseMethodDescriptor "([BI)I" = some ⟨[(.array .byte), .int], some .int⟩ := by decide +kernel
section OwnBytes
variable {Z : State} {h h' : Heap} {a b : Addr} {n : Int} {f : Int32 → Int32} {ws : List Addr} {sl : Nat} {v : Value}
/-- at a lies a byte array of n places; place j holds f j -/
def own_By (Z : State) (h : Heap) (a : Addr) (n : Int) (f : Int32 → Int32) : Prop := ∃ c : Cell, Arr Z h a c .byte ∧ (c.slots.size : Int) = n ∧ ∀ j : Int32, ¬ j < 0 → j.toInt < n → c.slots[j.toNatClampNeg]? = some (.int (f j))
theorem own_By.ext (B : own_By Z h a n f) (E : Ext h h') : own_By Z h' a n f := by
  obtain ⟨c, A, r⟩ := B
  exact ⟨c, A.ext E, r⟩
theorem own_By.other (B : own_By Z h b n f) (W : Wr h h' a sl v) (q : b ≠ a) : own_By Z h' b n f := by
  obtain ⟨c, A, r⟩ := B
  exact ⟨c, A.other W q, r⟩
theorem own_By.keep (B : own_By Z h a n f) (K : Keep h h' ws) (q : a ∉ ws) : own_By Z h' a n f := by
  obtain ⟨c, A, r⟩ := B
  exact ⟨c, ⟨K.2.1 a c A.1 q, A.2⟩, r⟩
theorem own_By.lt (B : own_By Z h a n f) : a < h.size := by
  obtain ⟨c, A, r⟩ := B
  exact A.lt
theorem own_nneg {j : Int32} (h : ¬ j < 0) : 0 ≤ j.toInt := by
  rw [Int32.lt_iff_toInt_lt] at h
  have e0 : (0 : Int32).toInt = 0 := rfl
  omega
theorem own_by_in {c : Cell} {j : Int32} (hs : (c.slots.size : Int) = n) (h1 : ¬ j < 0) (h2 : j.toInt < n) : ¬ (j < 0 ∨ c.slots.size ≤ j.toNatClampNeg) := by
  have h3 := own_nneg h1
  rintro (q | q)
  · exact h1 q
  · simp only [Int32.toNatClampNeg] at q
    omega
def own_iv (v : Value) : Int32 := match v with
  | .int x => x
  | _ => 0
theorem own_by_of {k : ClassId} {z : Int32} {vs : List Value} {d : Value} (V : Arv Z h a k .byte z vs d) (hz : z.toInt = n) : ∃ f, own_By Z h a n f := by
  obtain ⟨c, A, -, S, M, H, G⟩ := V
  have h3 := own_nneg M
  have hs : (c.slots.size : Int) = n := by
    rw [S]
    simp only [Int32.toNatClampNeg]
    omega
  refine ⟨fun j => own_iv (vs.getD j.toNatClampNeg d), c, A, hs, fun j h1 h2 => ?_⟩
  have hk : j.toNatClampNeg < c.slots.size := Nat.lt_of_not_le fun q => own_by_in hs h1 h2 (Or.inr q)
  have e1 := H _ hk
  have e2 := G _ hk
  rw [e1]
  show some (vs.getD j.toNatClampNeg d) = some (.int (own_iv (vs.getD j.toNatClampNeg d)))
  cases hv : vs.getD j.toNatClampNeg d with
  | int x => rfl
  | _ => rw [hv] at e2; simp [fits] at e2
end OwnBytes
theorem own_inc {i p : Int32} (h : i < p) : (i + (1 : Int32)).toInt = i.toInt + 1 := by
  have h1 := c_iadd i (1 : Int32)
  have h2 := rng32 p
  have h3 := rng32 i
  have h4 := rng32 (i + (1 : Int32))
  have e1 : (1 : Int32).toInt = 1 := rfl
  rw [Int32.lt_iff_toInt_lt] at h
  omega
theorem own_intB {c : Cell} {vs : List Value} {d : Value} {j z : Int32} (H : Has c vs d) (G : ∀ i, i < c.slots.size → fits .byte (vs.getD i d) = true) (hin : ¬ (j < 0 ∨ c.slots.size ≤ j.toNatClampNeg)) : ∃ x : Int32, c.slots[j.toNatClampNeg]? = some (.int x) := by
  have hk : j.toNatClampNeg < c.slots.size := Nat.lt_of_not_le fun q => hin (Or.inr q)
  have h1 := H _ hk
  have h2 := G _ hk
  cases hv : vs.getD j.toNatClampNeg d with
  | int x => exact ⟨x, by rw [h1, hv]⟩
  | _ => rw [hv] at h2; simp [fits] at h2
def own_upd (f : Int32 → Int32) (j x : Int32) : Int32 → Int32 := fun i => if i = j then x else f i
theorem own_upd1 {f : Int32 → Int32} {j x i : Int32} (h : i = j) : own_upd f j x i = x := if_pos h
theorem own_upd0 {f : Int32 → Int32} {j x i : Int32} (h : ¬ i = j) : own_upd f j x i = f i := if_neg h
theorem own_By.set {Z : State} {h h' : Heap} {a : Addr} {n : Int} {f : Int32 → Int32} {j x : Int32} (B : own_By Z h a n f) (hj : ¬ j < 0) (W : Wr h h' a j.toNatClampNeg (.int x)) : own_By Z h' a n (own_upd f j x) := by
  obtain ⟨c, A, S, H⟩ := B
  refine ⟨_, A.same W, by rw [sz_set]; exact S, fun i h1 h2 => ?_⟩
  by_cases q : i = j
  · rw [own_upd1 q]
    refine get_hit ?_ q
    subst q
    exact own_by_in S h1 h2
  · rw [own_upd0 q, get_miss hj h1 q]
    exact H i h1 h2

def own_A (f : Int32 → Int32) (n : Int32) (k k1 : Int32) : Prop := k1 < n ∧ f k = (13 : Int32) ∧ f k1 = (10 : Int32)
def own_el (f : Int32 → Int32) (n r : Int32) : Prop := (¬ own_A f n (0 : Int32) (1 : Int32) ∧ r = (0 : Int32)) ∨ (own_A f n (0 : Int32) (1 : Int32) ∧ ¬ own_A f n (2 : Int32) (3 : Int32) ∧ r = (2 : Int32)) ∨ (own_A f n (0 : Int32) (1 : Int32) ∧ own_A f n (2 : Int32) (3 : Int32) ∧ ¬ own_A f n (4 : Int32) (5 : Int32) ∧ r = (4 : Int32)) ∨ (own_A f n (0 : Int32) (1 : Int32) ∧ own_A f n (2 : Int32) (3 : Int32) ∧ own_A f n (4 : Int32) (5 : Int32) ∧ r = (6 : Int32))
theorem own_uni {f : Int32 → Int32} {n r t : Int32} (h1 : own_el f n r) (h2 : own_el f n t) : r = t := by
  rcases h1 with ⟨a1, a2⟩ | ⟨a1, a2, a3⟩ | ⟨a1, a2, a3, a4⟩ | ⟨a1, a2, a3, a4⟩ <;> rcases h2 with ⟨b1, b2⟩ | ⟨b1, b2, b3⟩ | ⟨b1, b2, b3, b4⟩ | ⟨b1, b2, b3, b4⟩ <;>
    first
    | exact absurd a1 b1
    | exact absurd b1 a1
    | exact absurd b2 a2
    | exact absurd a2 b2
    | exact absurd b3 a3
    | exact absurd a3 b3
    | (subst r; subst t; rfl)
theorem own_n7 {n : Int32} (h : n.toInt ≤ 6) : ¬ (7 : Int32) < n := by
  rw [Int32.lt_iff_toInt_lt, show (7 : Int32).toInt = 7 from rfl]
  omega
theorem own_p {n : Int32} {k k1 : Int32} (hk : k.toInt = k1.toInt + 1) (h : ¬ n < k) : k1 < n := by
  rw [Int32.lt_iff_toInt_lt] at h ⊢
  omega
theorem own_q {n : Int32} {k k1 : Int32} (hk : k.toInt = k1.toInt + 1) (h : n < k) : ¬ k1 < n := by
  rw [Int32.lt_iff_toInt_lt] at h ⊢
  omega
theorem own_c0 {b : Int32} {p q : Prop} (h : (b = (0 : Int32) ∧ ¬ (p ∧ q)) ∨ (¬ b = (0 : Int32) ∧ p ∧ q)) (hb : b = (0 : Int32)) : ¬ (p ∧ q) := h.elim (fun r => r.2) (fun r => absurd hb r.1)
theorem own_c1 {b : Int32} {p q : Prop} (h : (b = (0 : Int32) ∧ ¬ (p ∧ q)) ∨ (¬ b = (0 : Int32) ∧ p ∧ q)) (hb : ¬ b = (0 : Int32)) : p ∧ q := h.elim (fun r => absurd r.1 hb) (fun r => r.2)
theorem own_m7 (x : Int32) : ((x &&& (32767 : Int32)) % (7 : Int32)).toInt ≤ 6 := by
  have h1 := c_mask x (32767 : Int32) 15 (by decide) (by decide)
  have h2 := (c_irem (x &&& (32767 : Int32)) (7 : Int32) 7 rfl).1
  omega

theorem ef_rm1 (m : MethodId) (x0 : Int32) : entryFrame m #[(.int x0)] 2 = mkF m 0 #[.val (.int x0), .unset] [] := by first | (simp [entryFrame, mkF, argsToLocals, Value.category]; done) | rfl
def Q1 (Z : State) (p0 : Int32) (h0 : Heap) (n0 : Nat) (v : Option Value) (h : Heap) (L : List Loc) : Prop := ∃ r : Int32, v = some (.int r) ∧ Fr n0 L ∧ h = h0
set_option maxRecDepth 65536 in
set_option maxHeartbeats 40000000 in
theorem rm1 (l : Launch) (Z : State) (aw : Array Value) (hw : ∀ d ∈ tables_1, d.before aw Z = true) (ws : List Jvm.Cond) (p0 : Int32) (h0 : Heap) (n0 : Nat) (Z0 : n0 ≤ h0.size) :
    MetFree l (⟨"com/example/headstart/headstart/server/RequestEmptyLinesPinLaw", "pick", "(I)B"⟩ : MethodName) (head1 (Jvm.Cond.code (⟨"com/example/headstart/headstart/server/RequestEmptyLinesPinLaw", "pick", "(I)B"⟩ : MethodName) method_3_code 2 (some .byte) :: ws) ({ frames := 0, cells := 0, slots := 0, locals := 0 } : Room)) (fun a U => a = #[(.int p0)] ∧ Z.Warmed39 U.vm ∧ U.heap = h0) (fun _ _ _ _ _ => True) (fun _ U o U' => ∃ v L, o = .returned v ∧ Q1 Z p0 h0 n0 v U'.heap L ∧ FrameEnd U o U' L ({ frames := 0, cells := 0, slots := 0, locals := 0 } : Room).cells ({ frames := 0, cells := 0, slots := 0, locals := 0 } : Room).slots) := by
  refine MetFree.of_bodySF (plainFor_of_name pn_com_example_headstart_headstart_server_RequestEmptyLinesPinLaw) hisR ?_
  intro p e s m args below meth c s₁ Bd hml0 hP hK
  obtain ⟨rfl, hZ, hh⟩ := hP
  have hx := Bd.exec
  have hby := Bd.bytes
  have hml : c.maxLocals = 2 := hml0
  have hown : s.vm.findClass "com/example/headstart/headstart/server/RequestEmptyLinesPinLaw" = some m.cls := findClass_of_methodNamed Bd.named
  have hnm := (name_of_methodNamed Bd.named Bd.method).1
  have X0 : Stand p l e ({ frames := 0, cells := 0, slots := 0, locals := 0 } : Room) s m #[(.int p0)] below meth c s₁ [] 0 0 := Stand.of_body Bd
  have e0 : s₁.heap = h0 := by rw [← hh, Bd.state]; rfl
  have N0 := Fr.nil n0
  refine own_go (Q := Q1 Z p0 h0 n0) ?_
  refine Go.to (g' := (mkF m 0 #[.val (.int p0), .unset] [])) (fun t k => castTop (ef_rm1 m p0) k) ?_
  refine Go.to (g' := (mkF m 1 #[.val (.int p0), .unset] [(.int p0)])) (fun t k => XS.iloadN X0.here hx rfl (hb hby d1_0) rfl k) ?_
  refine Go.to (g' := (mkF m 2 #[.val (.int p0), .unset] [(.int (3 : Int32)), (.int p0)])) (fun t k => XS.iconst X0.here hx rfl (hb hby d1_1) k) ?_
  refine Go.to (g' := (mkF m 3 #[.val (.int p0), .unset] [(.int (p0 &&& (3 : Int32)))])) (fun t k => XS.iand X0.here hx rfl (hb hby d1_2) rfl k) ?_
  refine Go.to (g' := (mkF m 4 #[.val (.int p0), .val (.int (p0 &&& (3 : Int32)))] [])) (fun t k => XS.istoreN X0.here hx rfl (hb hby d1_3) rfl (l' := #[.val (.int p0), .val (.int (p0 &&& (3 : Int32)))]) rfl k) ?_
  refine Go.to (g' := (mkF m 5 #[.val (.int p0), .val (.int (p0 &&& (3 : Int32)))] [(.int (p0 &&& (3 : Int32)))])) (fun t k => XS.iloadN X0.here hx rfl (hb hby d1_4) rfl k) ?_
  by_cases c1 : (p0 &&& (3 : Int32)) = (0 : Int32)
  · refine Go.to (g' := (mkF m 8 #[.val (.int p0), .val (.int (p0 &&& (3 : Int32)))] [])) (fun t k => XS.ifNo X0.here hx rfl (hb hby d1_5) rfl ((if0 _ _).trans (teq c1).2) k) ?_
    refine Go.to (g' := (mkF m 10 #[.val (.int p0), .val (.int (p0 &&& (3 : Int32)))] [(.int (13 : Int32))])) (fun t k => XS.bipush X0.here hx rfl (hb hby d1_8) k) ?_
    exact Go.retN X0 hx (t := .byte) Bd.returns Bd.notSynchronized (by simp) (hb hby d1_10) (by decide) (by decide) e0 ⟨_, rfl, N0, rfl⟩
  · refine Go.to (g' := (mkF m 11 #[.val (.int p0), .val (.int (p0 &&& (3 : Int32)))] [])) (fun t k => XS.ifYes X0.here hx rfl (pc0 := 5) (pc' := 11) rfl (hb hby d1_5) rfl ((if0 _ _).trans (feq c1).2) (by decide) (by decide) k) ?_
    refine Go.to (g' := (mkF m 12 #[.val (.int p0), .val (.int (p0 &&& (3 : Int32)))] [(.int (p0 &&& (3 : Int32)))])) (fun t k => XS.iloadN X0.here hx rfl (hb hby d1_11) rfl k) ?_
    refine Go.to (g' := (mkF m 13 #[.val (.int p0), .val (.int (p0 &&& (3 : Int32)))] [(.int (1 : Int32)), (.int (p0 &&& (3 : Int32)))])) (fun t k => XS.iconst X0.here hx rfl (hb hby d1_12) k) ?_
    by_cases c2 : (p0 &&& (3 : Int32)) = (1 : Int32)
    · refine Go.to (g' := (mkF m 16 #[.val (.int p0), .val (.int (p0 &&& (3 : Int32)))] [])) (fun t k => XS.icmpNo X0.here hx rfl (hb hby d1_13) rfl (teq c2).2 k) ?_
      refine Go.to (g' := (mkF m 18 #[.val (.int p0), .val (.int (p0 &&& (3 : Int32)))] [(.int (10 : Int32))])) (fun t k => XS.bipush X0.here hx rfl (hb hby d1_16) k) ?_
      exact Go.retN X0 hx (t := .byte) Bd.returns Bd.notSynchronized (by simp) (hb hby d1_18) (by decide) (by decide) e0 ⟨_, rfl, N0, rfl⟩
    · refine Go.to (g' := (mkF m 19 #[.val (.int p0), .val (.int (p0 &&& (3 : Int32)))] [])) (fun t k => XS.icmpYes X0.here hx rfl (pc0 := 13) (pc' := 19) rfl (hb hby d1_13) rfl (feq c2).2 (by decide) (by decide) k) ?_
      refine Go.to (g' := (mkF m 20 #[.val (.int p0), .val (.int (p0 &&& (3 : Int32)))] [(.int p0)])) (fun t k => XS.iloadN X0.here hx rfl (hb hby d1_19) rfl k) ?_
      refine Go.to (g' := (mkF m 21 #[.val (.int p0), .val (.int (p0 &&& (3 : Int32)))] [(.int (2 : Int32)), (.int p0)])) (fun t k => XS.iconst X0.here hx rfl (hb hby d1_20) k) ?_
      refine Go.to (g' := (mkF m 22 #[.val (.int p0), .val (.int (p0 &&& (3 : Int32)))] [(.int (p0 >>> ((2 : Int32) &&& 31)))])) (fun t k => XS.ishr X0.here hx rfl (hb hby d1_21) rfl k) ?_
      refine Go.to (g' := (mkF m 23 #[.val (.int p0), .val (.int (p0 &&& (3 : Int32)))] [(.int ((p0 >>> ((2 : Int32) &&& 31)).toInt8.toInt32))])) (fun t k => XS.i2b X0.here hx rfl (hb hby d1_22) rfl k) ?_
      exact Go.retN X0 hx (t := .byte) Bd.returns Bd.notSynchronized (by simp) (hb hby d1_23) (by decide) (by decide) e0 ⟨_, rfl, N0, rfl⟩

theorem ef_rm2 (m : MethodId) (x0 : Addr) (x1 : Int32) : entryFrame m #[(.ref x0), (.int x1)] 3 = mkF m 0 #[.val (.ref x0), .val (.int x1), .unset] [] := by first | (simp [entryFrame, mkF, argsToLocals, Value.category]; done) | rfl
def Q2 (Z : State) (a0 : Addr) (p1 : Int32) (f : Int32 → Int32) (h0 : Heap) (n0 : Nat) (v : Option Value) (h : Heap) (L : List Loc) : Prop := ∃ r : Int32, v = some (.int r) ∧ Fr n0 L ∧ h = h0 ∧ own_el f p1 r
set_option maxRecDepth 65536 in
set_option maxHeartbeats 40000000 in
theorem rm2 (l : Launch) (Z : State) (aw : Array Value) (hw : ∀ d ∈ tables_1, d.before aw Z = true) (ws : List Jvm.Cond) (a0 : Addr) (p1 : Int32) (f : Int32 → Int32) (h0 : Heap) (n0 : Nat) (Z0 : n0 ≤ h0.size) (B : own_By Z h0 a0 6 f) (hl : p1.toInt ≤ 6) :
    MetFree l (⟨"com/example/headstart/headstart/server/Request", "emptyLines", "([BI)I"⟩ : MethodName) (head1 (Jvm.Cond.code (⟨"com/example/headstart/headstart/server/Request", "emptyLines", "([BI)I"⟩ : MethodName) prog_38_method_2_code 3 (some .int) :: ws) ({ frames := 0, cells := 0, slots := 0, locals := 0 } : Room)) (fun a U => a = #[(.ref a0), (.int p1)] ∧ Z.Warmed39 U.vm ∧ U.heap = h0) (fun _ _ _ _ _ => True) (fun _ U o U' => ∃ v L, o = .returned v ∧ Q2 Z a0 p1 f h0 n0 v U'.heap L ∧ FrameEnd U o U' L ({ frames := 0, cells := 0, slots := 0, locals := 0 } : Room).cells ({ frames := 0, cells := 0, slots := 0, locals := 0 } : Room).slots) := by
  refine MetFree.of_bodySF (plainFor_of_name pn_com_example_headstart_headstart_server_Request) hisR ?_
  intro p e s m args below meth c s₁ Bd hml0 hP hK
  obtain ⟨rfl, hZ, hh⟩ := hP
  have hx := Bd.exec
  have hby := Bd.bytes
  have hml : c.maxLocals = 3 := hml0
  have hown : s.vm.findClass "com/example/headstart/headstart/server/Request" = some m.cls := findClass_of_methodNamed Bd.named
  have hnm := (name_of_methodNamed Bd.named Bd.method).1
  have X0 : Stand p l e ({ frames := 0, cells := 0, slots := 0, locals := 0 } : Room) s m #[(.ref a0), (.int p1)] below meth c s₁ [] 0 0 := Stand.of_body Bd
  have e0 : s₁.heap = h0 := by rw [← hh, Bd.state]; rfl
  have N0 := Fr.nil n0
  refine own_go (Q := Q2 Z a0 p1 f h0 n0) ?_
  refine Go.to (g' := (mkF m 0 #[.val (.ref a0), .val (.int p1), .unset] [])) (fun t k => castTop (ef_rm2 m a0 p1) k) ?_
  have h7 := own_n7 hl
  refine Go.to (g' := (mkF m 1 #[.val (.ref a0), .val (.int p1), .unset] [(.int (0 : Int32))])) (fun t k => XS.iconst X0.here hx rfl (hb hby d2_0) k) ?_
  refine Go.to (g' := (mkF m 2 #[.val (.ref a0), .val (.int p1), .val (.int (0 : Int32))] [])) (fun t k => XS.istoreN X0.here hx rfl (hb hby d2_1) rfl (l' := #[.val (.ref a0), .val (.int p1), .val (.int (0 : Int32))]) rfl k) ?_
  refine Go.to (g' := (mkF m 3 #[.val (.ref a0), .val (.int p1), .val (.int (0 : Int32))] [(.int (0 : Int32))])) (fun t k => XS.iloadN X0.here hx rfl (hb hby d2_2) rfl k) ?_
  refine Go.to (g' := (mkF m 4 #[.val (.ref a0), .val (.int p1), .val (.int (0 : Int32))] [(.int (1 : Int32)), (.int (0 : Int32))])) (fun t k => XS.iconst X0.here hx rfl (hb hby d2_3) k) ?_
  refine Go.to (g' := (mkF m 5 #[.val (.ref a0), .val (.int p1), .val (.int (0 : Int32))] [(.int (1 : Int32))])) (fun t k => XS.iadd X0.here hx rfl (hb hby d2_4) rfl k) ?_
  refine Go.to (g' := (mkF m 6 #[.val (.ref a0), .val (.int p1), .val (.int (0 : Int32))] [(.int p1), (.int (1 : Int32))])) (fun t k => XS.iloadN X0.here hx rfl (hb hby d2_5) rfl k) ?_
  by_cases c1 : (1 : Int32) < p1
  · refine Go.to (g' := (mkF m 9 #[.val (.ref a0), .val (.int p1), .val (.int (0 : Int32))] [])) (fun t k => XS.icmpNo X0.here hx rfl (hb hby d2_6) rfl (tlt c1).2.1 k) ?_
    refine Go.to (g' := (mkF m 10 #[.val (.ref a0), .val (.int p1), .val (.int (0 : Int32))] [(.ref a0)])) (fun t k => XS.aloadN X0.here hx rfl (hb hby d2_9) rfl rfl k) ?_
    refine Go.to (g' := (mkF m 11 #[.val (.ref a0), .val (.int p1), .val (.int (0 : Int32))] [(.int (0 : Int32)), (.ref a0)])) (fun t k => XS.iloadN X0.here hx rfl (hb hby d2_10) rfl k) ?_
    obtain ⟨cl2, Ar2, Sz2, Hf2⟩ := id B
    refine Go.to (g' := (mkF m 12 #[.val (.ref a0), .val (.int p1), .val (.int (0 : Int32))] [(.int (f (0 : Int32)))])) (fun t k => X0.baloadBytes hx (j := (0 : Int32)) (v := (.int (f (0 : Int32)))) (by rw [e0]; exact Ar2.1) (State.isArrayOf_alike hZ.alike Ar2.2.1) Ar2.2.2 (own_by_in Sz2 (by decide) (by decide)) (Hf2 _ (by decide) (by decide)) (g := (mkF m 11 #[.val (.ref a0), .val (.int p1), .val (.int (0 : Int32))] [(.int (0 : Int32)), (.ref a0)])) rfl rfl (hb hby d2_11) _ k) ?_
    refine Go.to (g' := (mkF m 14 #[.val (.ref a0), .val (.int p1), .val (.int (0 : Int32))] [(.int (13 : Int32)), (.int (f (0 : Int32)))])) (fun t k => XS.bipush X0.here hx rfl (hb hby d2_12) k) ?_
    by_cases c3 : (f (0 : Int32)) = (13 : Int32)
    · refine Go.to (g' := (mkF m 17 #[.val (.ref a0), .val (.int p1), .val (.int (0 : Int32))] [])) (fun t k => XS.icmpNo X0.here hx rfl (hb hby d2_14) rfl (teq c3).2 k) ?_
      refine Go.to (g' := (mkF m 18 #[.val (.ref a0), .val (.int p1), .val (.int (0 : Int32))] [(.ref a0)])) (fun t k => XS.aloadN X0.here hx rfl (hb hby d2_17) rfl rfl k) ?_
      refine Go.to (g' := (mkF m 19 #[.val (.ref a0), .val (.int p1), .val (.int (0 : Int32))] [(.int (0 : Int32)), (.ref a0)])) (fun t k => XS.iloadN X0.here hx rfl (hb hby d2_18) rfl k) ?_
      refine Go.to (g' := (mkF m 20 #[.val (.ref a0), .val (.int p1), .val (.int (0 : Int32))] [(.int (1 : Int32)), (.int (0 : Int32)), (.ref a0)])) (fun t k => XS.iconst X0.here hx rfl (hb hby d2_19) k) ?_
      refine Go.to (g' := (mkF m 21 #[.val (.ref a0), .val (.int p1), .val (.int (0 : Int32))] [(.int (1 : Int32)), (.ref a0)])) (fun t k => XS.iadd X0.here hx rfl (hb hby d2_20) rfl k) ?_
      obtain ⟨cl4, Ar4, Sz4, Hf4⟩ := id B
      refine Go.to (g' := (mkF m 22 #[.val (.ref a0), .val (.int p1), .val (.int (0 : Int32))] [(.int (f (1 : Int32)))])) (fun t k => X0.baloadBytes hx (j := (1 : Int32)) (v := (.int (f (1 : Int32)))) (by rw [e0]; exact Ar4.1) (State.isArrayOf_alike hZ.alike Ar4.2.1) Ar4.2.2 (own_by_in Sz4 (by decide) (by decide)) (Hf4 _ (by decide) (by decide)) (g := (mkF m 21 #[.val (.ref a0), .val (.int p1), .val (.int (0 : Int32))] [(.int (1 : Int32)), (.ref a0)])) rfl rfl (hb hby d2_21) _ k) ?_
      refine Go.to (g' := (mkF m 24 #[.val (.ref a0), .val (.int p1), .val (.int (0 : Int32))] [(.int (10 : Int32)), (.int (f (1 : Int32)))])) (fun t k => XS.bipush X0.here hx rfl (hb hby d2_22) k) ?_
      by_cases c5 : (f (1 : Int32)) = (10 : Int32)
      · refine Go.to (g' := (mkF m 27 #[.val (.ref a0), .val (.int p1), .val (.int (0 : Int32))] [])) (fun t k => XS.icmpNo X0.here hx rfl (hb hby d2_24) rfl (teq c5).2 k) ?_
        refine Go.to (g' := (mkF m 30 #[.val (.ref a0), .val (.int p1), .val (.int (2 : Int32))] [])) (fun t k => XS.iinc X0.here hx rfl (hb hby d2_27) rfl (l' := #[.val (.ref a0), .val (.int p1), .val (.int (2 : Int32))]) rfl k) ?_
        refine Go.to (g' := (mkF m 2 #[.val (.ref a0), .val (.int p1), .val (.int (2 : Int32))] [])) (fun t k => XS.goto X0.here hx rfl (pc0 := 30) (pc' := 2) rfl (hb hby d2_30) (by decide) (by decide) k) ?_
        refine Go.to (g' := (mkF m 3 #[.val (.ref a0), .val (.int p1), .val (.int (2 : Int32))] [(.int (2 : Int32))])) (fun t k => XS.iloadN X0.here hx rfl (hb hby d2_2) rfl k) ?_
        refine Go.to (g' := (mkF m 4 #[.val (.ref a0), .val (.int p1), .val (.int (2 : Int32))] [(.int (1 : Int32)), (.int (2 : Int32))])) (fun t k => XS.iconst X0.here hx rfl (hb hby d2_3) k) ?_
        refine Go.to (g' := (mkF m 5 #[.val (.ref a0), .val (.int p1), .val (.int (2 : Int32))] [(.int (3 : Int32))])) (fun t k => XS.iadd X0.here hx rfl (hb hby d2_4) rfl k) ?_
        refine Go.to (g' := (mkF m 6 #[.val (.ref a0), .val (.int p1), .val (.int (2 : Int32))] [(.int p1), (.int (3 : Int32))])) (fun t k => XS.iloadN X0.here hx rfl (hb hby d2_5) rfl k) ?_
        by_cases c6 : (3 : Int32) < p1
        · refine Go.to (g' := (mkF m 9 #[.val (.ref a0), .val (.int p1), .val (.int (2 : Int32))] [])) (fun t k => XS.icmpNo X0.here hx rfl (hb hby d2_6) rfl (tlt c6).2.1 k) ?_
          refine Go.to (g' := (mkF m 10 #[.val (.ref a0), .val (.int p1), .val (.int (2 : Int32))] [(.ref a0)])) (fun t k => XS.aloadN X0.here hx rfl (hb hby d2_9) rfl rfl k) ?_
          refine Go.to (g' := (mkF m 11 #[.val (.ref a0), .val (.int p1), .val (.int (2 : Int32))] [(.int (2 : Int32)), (.ref a0)])) (fun t k => XS.iloadN X0.here hx rfl (hb hby d2_10) rfl k) ?_
          obtain ⟨cl7, Ar7, Sz7, Hf7⟩ := id B
          refine Go.to (g' := (mkF m 12 #[.val (.ref a0), .val (.int p1), .val (.int (2 : Int32))] [(.int (f (2 : Int32)))])) (fun t k => X0.baloadBytes hx (j := (2 : Int32)) (v := (.int (f (2 : Int32)))) (by rw [e0]; exact Ar7.1) (State.isArrayOf_alike hZ.alike Ar7.2.1) Ar7.2.2 (own_by_in Sz7 (by decide) (by decide)) (Hf7 _ (by decide) (by decide)) (g := (mkF m 11 #[.val (.ref a0), .val (.int p1), .val (.int (2 : Int32))] [(.int (2 : Int32)), (.ref a0)])) rfl rfl (hb hby d2_11) _ k) ?_
          refine Go.to (g' := (mkF m 14 #[.val (.ref a0), .val (.int p1), .val (.int (2 : Int32))] [(.int (13 : Int32)), (.int (f (2 : Int32)))])) (fun t k => XS.bipush X0.here hx rfl (hb hby d2_12) k) ?_
          by_cases c8 : (f (2 : Int32)) = (13 : Int32)
          · refine Go.to (g' := (mkF m 17 #[.val (.ref a0), .val (.int p1), .val (.int (2 : Int32))] [])) (fun t k => XS.icmpNo X0.here hx rfl (hb hby d2_14) rfl (teq c8).2 k) ?_
            refine Go.to (g' := (mkF m 18 #[.val (.ref a0), .val (.int p1), .val (.int (2 : Int32))] [(.ref a0)])) (fun t k => XS.aloadN X0.here hx rfl (hb hby d2_17) rfl rfl k) ?_
            refine Go.to (g' := (mkF m 19 #[.val (.ref a0), .val (.int p1), .val (.int (2 : Int32))] [(.int (2 : Int32)), (.ref a0)])) (fun t k => XS.iloadN X0.here hx rfl (hb hby d2_18) rfl k) ?_
            refine Go.to (g' := (mkF m 20 #[.val (.ref a0), .val (.int p1), .val (.int (2 : Int32))] [(.int (1 : Int32)), (.int (2 : Int32)), (.ref a0)])) (fun t k => XS.iconst X0.here hx rfl (hb hby d2_19) k) ?_
            refine Go.to (g' := (mkF m 21 #[.val (.ref a0), .val (.int p1), .val (.int (2 : Int32))] [(.int (3 : Int32)), (.ref a0)])) (fun t k => XS.iadd X0.here hx rfl (hb hby d2_20) rfl k) ?_
            obtain ⟨cl9, Ar9, Sz9, Hf9⟩ := id B
            refine Go.to (g' := (mkF m 22 #[.val (.ref a0), .val (.int p1), .val (.int (2 : Int32))] [(.int (f (3 : Int32)))])) (fun t k => X0.baloadBytes hx (j := (3 : Int32)) (v := (.int (f (3 : Int32)))) (by rw [e0]; exact Ar9.1) (State.isArrayOf_alike hZ.alike Ar9.2.1) Ar9.2.2 (own_by_in Sz9 (by decide) (by decide)) (Hf9 _ (by decide) (by decide)) (g := (mkF m 21 #[.val (.ref a0), .val (.int p1), .val (.int (2 : Int32))] [(.int (3 : Int32)), (.ref a0)])) rfl rfl (hb hby d2_21) _ k) ?_
            refine Go.to (g' := (mkF m 24 #[.val (.ref a0), .val (.int p1), .val (.int (2 : Int32))] [(.int (10 : Int32)), (.int (f (3 : Int32)))])) (fun t k => XS.bipush X0.here hx rfl (hb hby d2_22) k) ?_
            by_cases c10 : (f (3 : Int32)) = (10 : Int32)
            · refine Go.to (g' := (mkF m 27 #[.val (.ref a0), .val (.int p1), .val (.int (2 : Int32))] [])) (fun t k => XS.icmpNo X0.here hx rfl (hb hby d2_24) rfl (teq c10).2 k) ?_
              refine Go.to (g' := (mkF m 30 #[.val (.ref a0), .val (.int p1), .val (.int (4 : Int32))] [])) (fun t k => XS.iinc X0.here hx rfl (hb hby d2_27) rfl (l' := #[.val (.ref a0), .val (.int p1), .val (.int (4 : Int32))]) rfl k) ?_
              refine Go.to (g' := (mkF m 2 #[.val (.ref a0), .val (.int p1), .val (.int (4 : Int32))] [])) (fun t k => XS.goto X0.here hx rfl (pc0 := 30) (pc' := 2) rfl (hb hby d2_30) (by decide) (by decide) k) ?_
              refine Go.to (g' := (mkF m 3 #[.val (.ref a0), .val (.int p1), .val (.int (4 : Int32))] [(.int (4 : Int32))])) (fun t k => XS.iloadN X0.here hx rfl (hb hby d2_2) rfl k) ?_
              refine Go.to (g' := (mkF m 4 #[.val (.ref a0), .val (.int p1), .val (.int (4 : Int32))] [(.int (1 : Int32)), (.int (4 : Int32))])) (fun t k => XS.iconst X0.here hx rfl (hb hby d2_3) k) ?_
              refine Go.to (g' := (mkF m 5 #[.val (.ref a0), .val (.int p1), .val (.int (4 : Int32))] [(.int (5 : Int32))])) (fun t k => XS.iadd X0.here hx rfl (hb hby d2_4) rfl k) ?_
              refine Go.to (g' := (mkF m 6 #[.val (.ref a0), .val (.int p1), .val (.int (4 : Int32))] [(.int p1), (.int (5 : Int32))])) (fun t k => XS.iloadN X0.here hx rfl (hb hby d2_5) rfl k) ?_
              by_cases c11 : (5 : Int32) < p1
              · refine Go.to (g' := (mkF m 9 #[.val (.ref a0), .val (.int p1), .val (.int (4 : Int32))] [])) (fun t k => XS.icmpNo X0.here hx rfl (hb hby d2_6) rfl (tlt c11).2.1 k) ?_
                refine Go.to (g' := (mkF m 10 #[.val (.ref a0), .val (.int p1), .val (.int (4 : Int32))] [(.ref a0)])) (fun t k => XS.aloadN X0.here hx rfl (hb hby d2_9) rfl rfl k) ?_
                refine Go.to (g' := (mkF m 11 #[.val (.ref a0), .val (.int p1), .val (.int (4 : Int32))] [(.int (4 : Int32)), (.ref a0)])) (fun t k => XS.iloadN X0.here hx rfl (hb hby d2_10) rfl k) ?_
                obtain ⟨cl12, Ar12, Sz12, Hf12⟩ := id B
                refine Go.to (g' := (mkF m 12 #[.val (.ref a0), .val (.int p1), .val (.int (4 : Int32))] [(.int (f (4 : Int32)))])) (fun t k => X0.baloadBytes hx (j := (4 : Int32)) (v := (.int (f (4 : Int32)))) (by rw [e0]; exact Ar12.1) (State.isArrayOf_alike hZ.alike Ar12.2.1) Ar12.2.2 (own_by_in Sz12 (by decide) (by decide)) (Hf12 _ (by decide) (by decide)) (g := (mkF m 11 #[.val (.ref a0), .val (.int p1), .val (.int (4 : Int32))] [(.int (4 : Int32)), (.ref a0)])) rfl rfl (hb hby d2_11) _ k) ?_
                refine Go.to (g' := (mkF m 14 #[.val (.ref a0), .val (.int p1), .val (.int (4 : Int32))] [(.int (13 : Int32)), (.int (f (4 : Int32)))])) (fun t k => XS.bipush X0.here hx rfl (hb hby d2_12) k) ?_
                by_cases c13 : (f (4 : Int32)) = (13 : Int32)
                · refine Go.to (g' := (mkF m 17 #[.val (.ref a0), .val (.int p1), .val (.int (4 : Int32))] [])) (fun t k => XS.icmpNo X0.here hx rfl (hb hby d2_14) rfl (teq c13).2 k) ?_
                  refine Go.to (g' := (mkF m 18 #[.val (.ref a0), .val (.int p1), .val (.int (4 : Int32))] [(.ref a0)])) (fun t k => XS.aloadN X0.here hx rfl (hb hby d2_17) rfl rfl k) ?_
                  refine Go.to (g' := (mkF m 19 #[.val (.ref a0), .val (.int p1), .val (.int (4 : Int32))] [(.int (4 : Int32)), (.ref a0)])) (fun t k => XS.iloadN X0.here hx rfl (hb hby d2_18) rfl k) ?_
                  refine Go.to (g' := (mkF m 20 #[.val (.ref a0), .val (.int p1), .val (.int (4 : Int32))] [(.int (1 : Int32)), (.int (4 : Int32)), (.ref a0)])) (fun t k => XS.iconst X0.here hx rfl (hb hby d2_19) k) ?_
                  refine Go.to (g' := (mkF m 21 #[.val (.ref a0), .val (.int p1), .val (.int (4 : Int32))] [(.int (5 : Int32)), (.ref a0)])) (fun t k => XS.iadd X0.here hx rfl (hb hby d2_20) rfl k) ?_
                  obtain ⟨cl14, Ar14, Sz14, Hf14⟩ := id B
                  refine Go.to (g' := (mkF m 22 #[.val (.ref a0), .val (.int p1), .val (.int (4 : Int32))] [(.int (f (5 : Int32)))])) (fun t k => X0.baloadBytes hx (j := (5 : Int32)) (v := (.int (f (5 : Int32)))) (by rw [e0]; exact Ar14.1) (State.isArrayOf_alike hZ.alike Ar14.2.1) Ar14.2.2 (own_by_in Sz14 (by decide) (by decide)) (Hf14 _ (by decide) (by decide)) (g := (mkF m 21 #[.val (.ref a0), .val (.int p1), .val (.int (4 : Int32))] [(.int (5 : Int32)), (.ref a0)])) rfl rfl (hb hby d2_21) _ k) ?_
                  refine Go.to (g' := (mkF m 24 #[.val (.ref a0), .val (.int p1), .val (.int (4 : Int32))] [(.int (10 : Int32)), (.int (f (5 : Int32)))])) (fun t k => XS.bipush X0.here hx rfl (hb hby d2_22) k) ?_
                  by_cases c15 : (f (5 : Int32)) = (10 : Int32)
                  · refine Go.to (g' := (mkF m 27 #[.val (.ref a0), .val (.int p1), .val (.int (4 : Int32))] [])) (fun t k => XS.icmpNo X0.here hx rfl (hb hby d2_24) rfl (teq c15).2 k) ?_
                    refine Go.to (g' := (mkF m 30 #[.val (.ref a0), .val (.int p1), .val (.int (6 : Int32))] [])) (fun t k => XS.iinc X0.here hx rfl (hb hby d2_27) rfl (l' := #[.val (.ref a0), .val (.int p1), .val (.int (6 : Int32))]) rfl k) ?_
                    refine Go.to (g' := (mkF m 2 #[.val (.ref a0), .val (.int p1), .val (.int (6 : Int32))] [])) (fun t k => XS.goto X0.here hx rfl (pc0 := 30) (pc' := 2) rfl (hb hby d2_30) (by decide) (by decide) k) ?_
                    refine Go.to (g' := (mkF m 3 #[.val (.ref a0), .val (.int p1), .val (.int (6 : Int32))] [(.int (6 : Int32))])) (fun t k => XS.iloadN X0.here hx rfl (hb hby d2_2) rfl k) ?_
                    refine Go.to (g' := (mkF m 4 #[.val (.ref a0), .val (.int p1), .val (.int (6 : Int32))] [(.int (1 : Int32)), (.int (6 : Int32))])) (fun t k => XS.iconst X0.here hx rfl (hb hby d2_3) k) ?_
                    refine Go.to (g' := (mkF m 5 #[.val (.ref a0), .val (.int p1), .val (.int (6 : Int32))] [(.int (7 : Int32))])) (fun t k => XS.iadd X0.here hx rfl (hb hby d2_4) rfl k) ?_
                    refine Go.to (g' := (mkF m 6 #[.val (.ref a0), .val (.int p1), .val (.int (6 : Int32))] [(.int p1), (.int (7 : Int32))])) (fun t k => XS.iloadN X0.here hx rfl (hb hby d2_5) rfl k) ?_
                    refine Go.to (g' := (mkF m 33 #[.val (.ref a0), .val (.int p1), .val (.int (6 : Int32))] [])) (fun t k => XS.icmpYes X0.here hx rfl (pc0 := 6) (pc' := 33) rfl (hb hby d2_6) rfl (flt h7).2.1 (by decide) (by decide) k) ?_
                    refine Go.to (g' := (mkF m 34 #[.val (.ref a0), .val (.int p1), .val (.int (6 : Int32))] [(.int (6 : Int32))])) (fun t k => XS.iloadN X0.here hx rfl (hb hby d2_33) rfl k) ?_
                    exact Go.retI X0 hx Bd.returns Bd.notSynchronized (hb hby d2_34) (by decide) (by decide) e0 ⟨_, rfl, N0, rfl, (Or.inr (Or.inr (Or.inr ⟨⟨c1, c3, c5⟩, ⟨c6, c8, c10⟩, ⟨c11, c13, c15⟩, rfl⟩)))⟩
                  · refine Go.to (g' := (mkF m 33 #[.val (.ref a0), .val (.int p1), .val (.int (4 : Int32))] [])) (fun t k => XS.icmpYes X0.here hx rfl (pc0 := 24) (pc' := 33) rfl (hb hby d2_24) rfl (feq c15).2 (by decide) (by decide) k) ?_
                    refine Go.to (g' := (mkF m 34 #[.val (.ref a0), .val (.int p1), .val (.int (4 : Int32))] [(.int (4 : Int32))])) (fun t k => XS.iloadN X0.here hx rfl (hb hby d2_33) rfl k) ?_
                    exact Go.retI X0 hx Bd.returns Bd.notSynchronized (hb hby d2_34) (by decide) (by decide) e0 ⟨_, rfl, N0, rfl, (Or.inr (Or.inr (Or.inl ⟨⟨c1, c3, c5⟩, ⟨c6, c8, c10⟩, (fun q => c15 q.2.2), rfl⟩)))⟩
                · refine Go.to (g' := (mkF m 33 #[.val (.ref a0), .val (.int p1), .val (.int (4 : Int32))] [])) (fun t k => XS.icmpYes X0.here hx rfl (pc0 := 14) (pc' := 33) rfl (hb hby d2_14) rfl (feq c13).2 (by decide) (by decide) k) ?_
                  refine Go.to (g' := (mkF m 34 #[.val (.ref a0), .val (.int p1), .val (.int (4 : Int32))] [(.int (4 : Int32))])) (fun t k => XS.iloadN X0.here hx rfl (hb hby d2_33) rfl k) ?_
                  exact Go.retI X0 hx Bd.returns Bd.notSynchronized (hb hby d2_34) (by decide) (by decide) e0 ⟨_, rfl, N0, rfl, (Or.inr (Or.inr (Or.inl ⟨⟨c1, c3, c5⟩, ⟨c6, c8, c10⟩, (fun q => c13 q.2.1), rfl⟩)))⟩
              · refine Go.to (g' := (mkF m 33 #[.val (.ref a0), .val (.int p1), .val (.int (4 : Int32))] [])) (fun t k => XS.icmpYes X0.here hx rfl (pc0 := 6) (pc' := 33) rfl (hb hby d2_6) rfl (flt c11).2.1 (by decide) (by decide) k) ?_
                refine Go.to (g' := (mkF m 34 #[.val (.ref a0), .val (.int p1), .val (.int (4 : Int32))] [(.int (4 : Int32))])) (fun t k => XS.iloadN X0.here hx rfl (hb hby d2_33) rfl k) ?_
                exact Go.retI X0 hx Bd.returns Bd.notSynchronized (hb hby d2_34) (by decide) (by decide) e0 ⟨_, rfl, N0, rfl, (Or.inr (Or.inr (Or.inl ⟨⟨c1, c3, c5⟩, ⟨c6, c8, c10⟩, (fun q => c11 q.1), rfl⟩)))⟩
            · refine Go.to (g' := (mkF m 33 #[.val (.ref a0), .val (.int p1), .val (.int (2 : Int32))] [])) (fun t k => XS.icmpYes X0.here hx rfl (pc0 := 24) (pc' := 33) rfl (hb hby d2_24) rfl (feq c10).2 (by decide) (by decide) k) ?_
              refine Go.to (g' := (mkF m 34 #[.val (.ref a0), .val (.int p1), .val (.int (2 : Int32))] [(.int (2 : Int32))])) (fun t k => XS.iloadN X0.here hx rfl (hb hby d2_33) rfl k) ?_
              exact Go.retI X0 hx Bd.returns Bd.notSynchronized (hb hby d2_34) (by decide) (by decide) e0 ⟨_, rfl, N0, rfl, (Or.inr (Or.inl ⟨⟨c1, c3, c5⟩, (fun q => c10 q.2.2), rfl⟩))⟩
          · refine Go.to (g' := (mkF m 33 #[.val (.ref a0), .val (.int p1), .val (.int (2 : Int32))] [])) (fun t k => XS.icmpYes X0.here hx rfl (pc0 := 14) (pc' := 33) rfl (hb hby d2_14) rfl (feq c8).2 (by decide) (by decide) k) ?_
            refine Go.to (g' := (mkF m 34 #[.val (.ref a0), .val (.int p1), .val (.int (2 : Int32))] [(.int (2 : Int32))])) (fun t k => XS.iloadN X0.here hx rfl (hb hby d2_33) rfl k) ?_
            exact Go.retI X0 hx Bd.returns Bd.notSynchronized (hb hby d2_34) (by decide) (by decide) e0 ⟨_, rfl, N0, rfl, (Or.inr (Or.inl ⟨⟨c1, c3, c5⟩, (fun q => c8 q.2.1), rfl⟩))⟩
        · refine Go.to (g' := (mkF m 33 #[.val (.ref a0), .val (.int p1), .val (.int (2 : Int32))] [])) (fun t k => XS.icmpYes X0.here hx rfl (pc0 := 6) (pc' := 33) rfl (hb hby d2_6) rfl (flt c6).2.1 (by decide) (by decide) k) ?_
          refine Go.to (g' := (mkF m 34 #[.val (.ref a0), .val (.int p1), .val (.int (2 : Int32))] [(.int (2 : Int32))])) (fun t k => XS.iloadN X0.here hx rfl (hb hby d2_33) rfl k) ?_
          exact Go.retI X0 hx Bd.returns Bd.notSynchronized (hb hby d2_34) (by decide) (by decide) e0 ⟨_, rfl, N0, rfl, (Or.inr (Or.inl ⟨⟨c1, c3, c5⟩, (fun q => c6 q.1), rfl⟩))⟩
      · refine Go.to (g' := (mkF m 33 #[.val (.ref a0), .val (.int p1), .val (.int (0 : Int32))] [])) (fun t k => XS.icmpYes X0.here hx rfl (pc0 := 24) (pc' := 33) rfl (hb hby d2_24) rfl (feq c5).2 (by decide) (by decide) k) ?_
        refine Go.to (g' := (mkF m 34 #[.val (.ref a0), .val (.int p1), .val (.int (0 : Int32))] [(.int (0 : Int32))])) (fun t k => XS.iloadN X0.here hx rfl (hb hby d2_33) rfl k) ?_
        exact Go.retI X0 hx Bd.returns Bd.notSynchronized (hb hby d2_34) (by decide) (by decide) e0 ⟨_, rfl, N0, rfl, (Or.inl ⟨(fun q => c5 q.2.2), rfl⟩)⟩
    · refine Go.to (g' := (mkF m 33 #[.val (.ref a0), .val (.int p1), .val (.int (0 : Int32))] [])) (fun t k => XS.icmpYes X0.here hx rfl (pc0 := 14) (pc' := 33) rfl (hb hby d2_14) rfl (feq c3).2 (by decide) (by decide) k) ?_
      refine Go.to (g' := (mkF m 34 #[.val (.ref a0), .val (.int p1), .val (.int (0 : Int32))] [(.int (0 : Int32))])) (fun t k => XS.iloadN X0.here hx rfl (hb hby d2_33) rfl k) ?_
      exact Go.retI X0 hx Bd.returns Bd.notSynchronized (hb hby d2_34) (by decide) (by decide) e0 ⟨_, rfl, N0, rfl, (Or.inl ⟨(fun q => c3 q.2.1), rfl⟩)⟩
  · refine Go.to (g' := (mkF m 33 #[.val (.ref a0), .val (.int p1), .val (.int (0 : Int32))] [])) (fun t k => XS.icmpYes X0.here hx rfl (pc0 := 6) (pc' := 33) rfl (hb hby d2_6) rfl (flt c1).2.1 (by decide) (by decide) k) ?_
    refine Go.to (g' := (mkF m 34 #[.val (.ref a0), .val (.int p1), .val (.int (0 : Int32))] [(.int (0 : Int32))])) (fun t k => XS.iloadN X0.here hx rfl (hb hby d2_33) rfl k) ?_
    exact Go.retI X0 hx Bd.returns Bd.notSynchronized (hb hby d2_34) (by decide) (by decide) e0 ⟨_, rfl, N0, rfl, (Or.inl ⟨(fun q => c1 q.1), rfl⟩)⟩

theorem ef_rm0 (m : MethodId) (x0 : Int32) (x1 : Int32) (x2 : Int32) (x3 : Int32) (x4 : Int32) (x5 : Int32) : entryFrame m #[(.int x0), (.int x1), (.int x2), (.int x3), (.int x4), (.int x5)] maxLocals = mkF m 0 #[.val (.int x0), .val (.int x1), .val (.int x2), .val (.int x3), .val (.int x4), .val (.int x5), .unset, .unset, .unset, .unset, .unset, .unset] [] := by first | (simp [entryFrame, mkF, argsToLocals, Value.category, maxLocals]; done) | rfl
def Q0 (Z : State) (p0 : Int32) (p1 : Int32) (p2 : Int32) (p3 : Int32) (p4 : Int32) (p5 : Int32) (h0 : Heap) (n0 : Nat) (v : Option Value) (h : Heap) (L : List Loc) : Prop := v = some (.int (1 : Int32)) ∧ Fr n0 L
set_option maxRecDepth 65536 in
set_option maxHeartbeats 40000000 in
theorem rm0 (l : Launch) (Z : State) (aw : Array Value) (hw : ∀ d ∈ tables_1, d.before aw Z = true) (ws : List Jvm.Cond) (p0 : Int32) (p1 : Int32) (p2 : Int32) (p3 : Int32) (p4 : Int32) (p5 : Int32) (h0 : Heap) (n0 : Nat) (Z0 : n0 ≤ h0.size) :
    MetFree l x (head1 (Jvm.Cond.code x code maxLocals ret :: ws) room_1) (fun a U => a = #[(.int p0), (.int p1), (.int p2), (.int p3), (.int p4), (.int p5)] ∧ Z.Warmed39 U.vm ∧ U.heap = h0) (fun _ _ _ _ _ => True) (fun _ U o U' => ∃ v L, o = .returned v ∧ Q0 Z p0 p1 p2 p3 p4 p5 h0 n0 v U'.heap L ∧ FrameEnd U o U' L room_1.cells room_1.slots) := by
  refine MetFree.of_bodySF (plainFor_of_name pn_com_example_headstart_headstart_server_RequestEmptyLinesPinLaw) hisR ?_
  intro p e s m args below meth c s₁ Bd hml0 hP hK
  obtain ⟨rfl, hZ, hh⟩ := hP
  have hx := Bd.exec
  have hby := Bd.bytes
  have hml : c.maxLocals = 12 := hml0
  have hown : s.vm.findClass "com/example/headstart/headstart/server/RequestEmptyLinesPinLaw" = some m.cls := findClass_of_methodNamed Bd.named
  have hnm := (name_of_methodNamed Bd.named Bd.method).1
  have X0 : Stand p l e room_1 s m #[(.int p0), (.int p1), (.int p2), (.int p3), (.int p4), (.int p5)] below meth c s₁ [] 0 0 := Stand.of_body Bd
  have e0 : s₁.heap = h0 := by rw [← hh, Bd.state]; rfl
  have N0 := Fr.nil n0
  refine own_go (Q := Q0 Z p0 p1 p2 p3 p4 p5 h0 n0) ?_
  refine Go.to (g' := (mkF m 0 #[.val (.int p0), .val (.int p1), .val (.int p2), .val (.int p3), .val (.int p4), .val (.int p5), .unset, .unset, .unset, .unset, .unset, .unset] [])) (fun t k => castTop (ef_rm0 m p0 p1 p2 p3 p4 p5) k) ?_
  refine Go.to (g' := (mkF m 2 #[.val (.int p0), .val (.int p1), .val (.int p2), .val (.int p3), .val (.int p4), .val (.int p5), .unset, .unset, .unset, .unset, .unset, .unset] [(.int (6 : Int32))])) (fun t k => XS.bipush X0.here hx rfl (hb hby at_0) k) ?_
  obtain ⟨T2, h2, k2, X2, e2, E2, A2, st2⟩ := newP X0 hx hZ (hw _ (List.mem_of_getElem? (i := 0) rfl)) e0 (g := (mkF m 2 #[.val (.int p0), .val (.int p1), .val (.int p2), .val (.int p3), .val (.int p4), .val (.int p5), .unset, .unset, .unset, .unset, .unset, .unset] [(.int (6 : Int32))])) rfl (hb hby at_2) rfl (by decide) (cap := 6) (by decide) (by decide) (by decide) (by decide)
  obtain ⟨b1, g2⟩ : ∃ z, z = h0.size := ⟨_, rfl⟩
  rw [← g2] at A2 st2
  have g_b1 : n0 ≤ b1 := Nat.le_trans Z0 (Nat.le_of_eq g2.symm)
  have sz_b1 : h0.size ≤ b1 := Nat.le_trans (Keep.refl h0 []).1 (Nat.le_of_eq g2.symm)
  have Z2 : n0 ≤ h2.size := Nat.le_trans Z0 E2.1
  have K2 : Keep h0 h2 [] := (Keep.refl h0 []).ext E2
  have V_b1 : Arv Z h2 b1 k2 .byte (6 : Int32) [(.int (0 : Int32)), (.int (0 : Int32)), (.int (0 : Int32)), (.int (0 : Int32)), (.int (0 : Int32)), (.int (0 : Int32))] (.int (0 : Int32)) := (Arv.new A2 (by decide)).pad (pad_rep [] (.int (0 : Int32)) 6)
  refine Go.to (g' := (mkF m 4 #[.val (.int p0), .val (.int p1), .val (.int p2), .val (.int p3), .val (.int p4), .val (.int p5), .unset, .unset, .unset, .unset, .unset, .unset] [(.ref b1)])) st2 ?_
  refine Go.to (g' := (mkF m 6 #[.val (.int p0), .val (.int p1), .val (.int p2), .val (.int p3), .val (.int p4), .val (.int p5), .val (.ref b1), .unset, .unset, .unset, .unset, .unset] [])) (fun t k => XS.astore X2.here hx rfl (hb hby at_4) rfl rfl (l' := #[.val (.int p0), .val (.int p1), .val (.int p2), .val (.int p3), .val (.int p4), .val (.int p5), .val (.ref b1), .unset, .unset, .unset, .unset, .unset]) rfl k) ?_
  refine Go.to (g' := (mkF m 8 #[.val (.int p0), .val (.int p1), .val (.int p2), .val (.int p3), .val (.int p4), .val (.int p5), .val (.ref b1), .unset, .unset, .unset, .unset, .unset] [(.ref b1)])) (fun t k => XS.aload X2.here hx rfl (hb hby at_6) rfl rfl k) ?_
  refine Go.to (g' := (mkF m 9 #[.val (.int p0), .val (.int p1), .val (.int p2), .val (.int p3), .val (.int p4), .val (.int p5), .val (.ref b1), .unset, .unset, .unset, .unset, .unset] [(.int (0 : Int32)), (.ref b1)])) (fun t k => XS.iconst X2.here hx rfl (hb hby at_8) k) ?_
  refine Go.to (g' := (mkF m 10 #[.val (.int p0), .val (.int p1), .val (.int p2), .val (.int p3), .val (.int p4), .val (.int p5), .val (.ref b1), .unset, .unset, .unset, .unset, .unset] [(.int p0), (.int (0 : Int32)), (.ref b1)])) (fun t k => XS.iloadN X2.here hx rfl (hb hby at_9) rfl k) ?_
  obtain ⟨v3, _, ⟨T3, L3, k3, n3⟩, -, X3, ⟨Lc3, hQ3, l3, y3, z3⟩, st3⟩ := Jvm.LawKit.callS X2 hx (y := (⟨"com/example/headstart/headstart/server/RequestEmptyLinesPinLaw", "pick", "(I)B"⟩ : MethodName)) hown (mvT hZ (hw _ (List.mem_of_getElem? (i := 1) rfl))) (mvT hZ (hw _ (List.mem_of_getElem? (i := 2) rfl))) (mvT hZ (hw _ (List.mem_of_getElem? (i := 3) rfl))) (mvT hZ (hw _ (List.mem_of_getElem? (i := 4) rfl))) (by decide) (backOf (W := 2) (rm1 l Z aw hw [] p0  h2 n0 Z2 ) hZ (hw _ (List.mem_of_getElem? (i := 4) rfl)) (hw _ (List.mem_of_getElem? (i := 3) rfl)) (by decide) (by decide)) (g := (mkF m 10 #[.val (.int p0), .val (.int p1), .val (.int p2), .val (.int p3), .val (.int p4), .val (.int p5), .val (.ref b1), .unset, .unset, .unset, .unset, .unset] [(.int p0), (.int (0 : Int32)), (.ref b1)])) rfl (by rw [hml]; rfl) (argsL := [(.int p0)]) (rest := [(.int (0 : Int32)), (.ref b1)]) (lenOf pd_28I29B rfl) rfl (by show 2 * 0 + _ ≤ _; exact Nat.le_of_eq rfl) (hb hby at_10) (fun _ _ => ⟨rfl, e2, (by decide : 1 + 0 ≤ _), (by decide : 6 + 0 ≤ _)⟩)
  dsimp only [Pt.U, Pt.locs, Pt.cells, Pt.slots] at X3 l3 y3 z3 st3 hQ3
  subst l3 y3 z3
  obtain ⟨h3, e3⟩ : ∃ z, T3.heap = z := ⟨_, rfl⟩
  rw [e3] at hQ3
  obtain ⟨r3, rfl, N3q, eh3⟩ := hQ3
  rw [eh3] at e3
  have N3 := Fr.app N0 N3q
  refine Go.to (g' := (mkF m 13 #[.val (.int p0), .val (.int p1), .val (.int p2), .val (.int p3), .val (.int p4), .val (.int p5), .val (.ref b1), .unset, .unset, .unset, .unset, .unset] [(.int r3), (.int (0 : Int32)), (.ref b1)])) st3 ?_
  obtain ⟨cl4, Ar4, kc4, S4, M4, H4, G4⟩ := V_b1
  have hin4 : ¬ ((0 : Int32) < 0 ∨ cl4.slots.size ≤ ((0 : Int32)).toNatClampNeg) := inb_of S4 ⟨by decide, by decide⟩
  obtain ⟨T5, h5, X5, e5, W5, st5⟩ := stB X3 hx hZ e3 Ar4 (j := (0 : Int32)) hin4 (g := (mkF m 13 #[.val (.int p0), .val (.int p1), .val (.int p2), .val (.int p3), .val (.int p4), .val (.int p5), .val (.ref b1), .unset, .unset, .unset, .unset, .unset] [(.int r3), (.int (0 : Int32)), (.ref b1)])) rfl rfl (hb hby at_13)
  have Z5 : n0 ≤ h5.size := Nat.le_trans Z2 (Keep.of_wr W5).1
  have K5 : Keep h0 h5 [] := K2.wr W5 (Or.inr sz_b1)
  have N5 := Fr.snoc X5 N3 g_b1
  have V5 : Arv Z h5 b1 k2 .byte (6 : Int32) [(.int (r3).toInt8.toInt32), (.int (0 : Int32)), (.int (0 : Int32)), (.int (0 : Int32)), (.int (0 : Int32)), (.int (0 : Int32))] (.int (0 : Int32)) := Arv.set Ar4 kc4 S4 M4 H4 G4 (fits_nar_byte _) W5 0 rfl (Nat.le_of_ble_eq_true rfl)
  refine Go.to (g' := (mkF m 14 #[.val (.int p0), .val (.int p1), .val (.int p2), .val (.int p3), .val (.int p4), .val (.int p5), .val (.ref b1), .unset, .unset, .unset, .unset, .unset] [])) st5 ?_
  refine Go.to (g' := (mkF m 16 #[.val (.int p0), .val (.int p1), .val (.int p2), .val (.int p3), .val (.int p4), .val (.int p5), .val (.ref b1), .unset, .unset, .unset, .unset, .unset] [(.ref b1)])) (fun t k => XS.aload X5.here hx rfl (hb hby at_14) rfl rfl k) ?_
  refine Go.to (g' := (mkF m 17 #[.val (.int p0), .val (.int p1), .val (.int p2), .val (.int p3), .val (.int p4), .val (.int p5), .val (.ref b1), .unset, .unset, .unset, .unset, .unset] [(.int (1 : Int32)), (.ref b1)])) (fun t k => XS.iconst X5.here hx rfl (hb hby at_16) k) ?_
  refine Go.to (g' := (mkF m 18 #[.val (.int p0), .val (.int p1), .val (.int p2), .val (.int p3), .val (.int p4), .val (.int p5), .val (.ref b1), .unset, .unset, .unset, .unset, .unset] [(.int p1), (.int (1 : Int32)), (.ref b1)])) (fun t k => XS.iloadN X5.here hx rfl (hb hby at_17) rfl k) ?_
  obtain ⟨v6, _, ⟨T6, L6, k6, n6⟩, -, X6, ⟨Lc6, hQ6, l6, y6, z6⟩, st6⟩ := Jvm.LawKit.callS X5 hx (y := (⟨"com/example/headstart/headstart/server/RequestEmptyLinesPinLaw", "pick", "(I)B"⟩ : MethodName)) hown (mvT hZ (hw _ (List.mem_of_getElem? (i := 1) rfl))) (mvT hZ (hw _ (List.mem_of_getElem? (i := 2) rfl))) (mvT hZ (hw _ (List.mem_of_getElem? (i := 3) rfl))) (mvT hZ (hw _ (List.mem_of_getElem? (i := 4) rfl))) (by decide) (backOf (W := 2) (rm1 l Z aw hw [] p1  h5 n0 Z5 ) hZ (hw _ (List.mem_of_getElem? (i := 4) rfl)) (hw _ (List.mem_of_getElem? (i := 3) rfl)) (by decide) (by decide)) (g := (mkF m 18 #[.val (.int p0), .val (.int p1), .val (.int p2), .val (.int p3), .val (.int p4), .val (.int p5), .val (.ref b1), .unset, .unset, .unset, .unset, .unset] [(.int p1), (.int (1 : Int32)), (.ref b1)])) rfl (by rw [hml]; rfl) (argsL := [(.int p1)]) (rest := [(.int (1 : Int32)), (.ref b1)]) (lenOf pd_28I29B rfl) rfl (by show 2 * 0 + _ ≤ _; exact Nat.le_of_eq rfl) (hb hby at_18) (fun _ _ => ⟨rfl, e5, (by decide : 1 + 0 ≤ _), (by decide : 6 + 0 ≤ _)⟩)
  dsimp only [Pt.U, Pt.locs, Pt.cells, Pt.slots] at X6 l6 y6 z6 st6 hQ6
  subst l6 y6 z6
  obtain ⟨h6, e6⟩ : ∃ z, T6.heap = z := ⟨_, rfl⟩
  rw [e6] at hQ6
  obtain ⟨r6, rfl, N6q, eh6⟩ := hQ6
  rw [eh6] at e6
  have N6 := Fr.app N5 N6q
  refine Go.to (g' := (mkF m 21 #[.val (.int p0), .val (.int p1), .val (.int p2), .val (.int p3), .val (.int p4), .val (.int p5), .val (.ref b1), .unset, .unset, .unset, .unset, .unset] [(.int r6), (.int (1 : Int32)), (.ref b1)])) st6 ?_
  obtain ⟨cl7, Ar7, kc7, S7, M7, H7, G7⟩ := V5
  have hin7 : ¬ ((1 : Int32) < 0 ∨ cl7.slots.size ≤ ((1 : Int32)).toNatClampNeg) := inb_of S7 ⟨by decide, by decide⟩
  obtain ⟨T8, h8, X8, e8, W8, st8⟩ := stB X6 hx hZ e6 Ar7 (j := (1 : Int32)) hin7 (g := (mkF m 21 #[.val (.int p0), .val (.int p1), .val (.int p2), .val (.int p3), .val (.int p4), .val (.int p5), .val (.ref b1), .unset, .unset, .unset, .unset, .unset] [(.int r6), (.int (1 : Int32)), (.ref b1)])) rfl rfl (hb hby at_21)
  have Z8 : n0 ≤ h8.size := Nat.le_trans Z5 (Keep.of_wr W8).1
  have K8 : Keep h0 h8 [] := K5.wr W8 (Or.inr sz_b1)
  have N8 := Fr.snoc X8 N6 g_b1
  have V8 : Arv Z h8 b1 k2 .byte (6 : Int32) [(.int (r3).toInt8.toInt32), (.int (r6).toInt8.toInt32), (.int (0 : Int32)), (.int (0 : Int32)), (.int (0 : Int32)), (.int (0 : Int32))] (.int (0 : Int32)) := Arv.set Ar7 kc7 S7 M7 H7 G7 (fits_nar_byte _) W8 1 rfl (Nat.le_of_ble_eq_true rfl)
  refine Go.to (g' := (mkF m 22 #[.val (.int p0), .val (.int p1), .val (.int p2), .val (.int p3), .val (.int p4), .val (.int p5), .val (.ref b1), .unset, .unset, .unset, .unset, .unset] [])) st8 ?_
  refine Go.to (g' := (mkF m 24 #[.val (.int p0), .val (.int p1), .val (.int p2), .val (.int p3), .val (.int p4), .val (.int p5), .val (.ref b1), .unset, .unset, .unset, .unset, .unset] [(.ref b1)])) (fun t k => XS.aload X8.here hx rfl (hb hby at_22) rfl rfl k) ?_
  refine Go.to (g' := (mkF m 25 #[.val (.int p0), .val (.int p1), .val (.int p2), .val (.int p3), .val (.int p4), .val (.int p5), .val (.ref b1), .unset, .unset, .unset, .unset, .unset] [(.int (2 : Int32)), (.ref b1)])) (fun t k => XS.iconst X8.here hx rfl (hb hby at_24) k) ?_
  refine Go.to (g' := (mkF m 26 #[.val (.int p0), .val (.int p1), .val (.int p2), .val (.int p3), .val (.int p4), .val (.int p5), .val (.ref b1), .unset, .unset, .unset, .unset, .unset] [(.int p2), (.int (2 : Int32)), (.ref b1)])) (fun t k => XS.iloadN X8.here hx rfl (hb hby at_25) rfl k) ?_
  obtain ⟨v9, _, ⟨T9, L9, k9, n9⟩, -, X9, ⟨Lc9, hQ9, l9, y9, z9⟩, st9⟩ := Jvm.LawKit.callS X8 hx (y := (⟨"com/example/headstart/headstart/server/RequestEmptyLinesPinLaw", "pick", "(I)B"⟩ : MethodName)) hown (mvT hZ (hw _ (List.mem_of_getElem? (i := 1) rfl))) (mvT hZ (hw _ (List.mem_of_getElem? (i := 2) rfl))) (mvT hZ (hw _ (List.mem_of_getElem? (i := 3) rfl))) (mvT hZ (hw _ (List.mem_of_getElem? (i := 4) rfl))) (by decide) (backOf (W := 2) (rm1 l Z aw hw [] p2  h8 n0 Z8 ) hZ (hw _ (List.mem_of_getElem? (i := 4) rfl)) (hw _ (List.mem_of_getElem? (i := 3) rfl)) (by decide) (by decide)) (g := (mkF m 26 #[.val (.int p0), .val (.int p1), .val (.int p2), .val (.int p3), .val (.int p4), .val (.int p5), .val (.ref b1), .unset, .unset, .unset, .unset, .unset] [(.int p2), (.int (2 : Int32)), (.ref b1)])) rfl (by rw [hml]; rfl) (argsL := [(.int p2)]) (rest := [(.int (2 : Int32)), (.ref b1)]) (lenOf pd_28I29B rfl) rfl (by show 2 * 0 + _ ≤ _; exact Nat.le_of_eq rfl) (hb hby at_26) (fun _ _ => ⟨rfl, e8, (by decide : 1 + 0 ≤ _), (by decide : 6 + 0 ≤ _)⟩)
  dsimp only [Pt.U, Pt.locs, Pt.cells, Pt.slots] at X9 l9 y9 z9 st9 hQ9
  subst l9 y9 z9
  obtain ⟨h9, e9⟩ : ∃ z, T9.heap = z := ⟨_, rfl⟩
  rw [e9] at hQ9
  obtain ⟨r9, rfl, N9q, eh9⟩ := hQ9
  rw [eh9] at e9
  have N9 := Fr.app N8 N9q
  refine Go.to (g' := (mkF m 29 #[.val (.int p0), .val (.int p1), .val (.int p2), .val (.int p3), .val (.int p4), .val (.int p5), .val (.ref b1), .unset, .unset, .unset, .unset, .unset] [(.int r9), (.int (2 : Int32)), (.ref b1)])) st9 ?_
  obtain ⟨cl10, Ar10, kc10, S10, M10, H10, G10⟩ := V8
  have hin10 : ¬ ((2 : Int32) < 0 ∨ cl10.slots.size ≤ ((2 : Int32)).toNatClampNeg) := inb_of S10 ⟨by decide, by decide⟩
  obtain ⟨T11, h11, X11, e11, W11, st11⟩ := stB X9 hx hZ e9 Ar10 (j := (2 : Int32)) hin10 (g := (mkF m 29 #[.val (.int p0), .val (.int p1), .val (.int p2), .val (.int p3), .val (.int p4), .val (.int p5), .val (.ref b1), .unset, .unset, .unset, .unset, .unset] [(.int r9), (.int (2 : Int32)), (.ref b1)])) rfl rfl (hb hby at_29)
  have Z11 : n0 ≤ h11.size := Nat.le_trans Z8 (Keep.of_wr W11).1
  have K11 : Keep h0 h11 [] := K8.wr W11 (Or.inr sz_b1)
  have N11 := Fr.snoc X11 N9 g_b1
  have V11 : Arv Z h11 b1 k2 .byte (6 : Int32) [(.int (r3).toInt8.toInt32), (.int (r6).toInt8.toInt32), (.int (r9).toInt8.toInt32), (.int (0 : Int32)), (.int (0 : Int32)), (.int (0 : Int32))] (.int (0 : Int32)) := Arv.set Ar10 kc10 S10 M10 H10 G10 (fits_nar_byte _) W11 2 rfl (Nat.le_of_ble_eq_true rfl)
  refine Go.to (g' := (mkF m 30 #[.val (.int p0), .val (.int p1), .val (.int p2), .val (.int p3), .val (.int p4), .val (.int p5), .val (.ref b1), .unset, .unset, .unset, .unset, .unset] [])) st11 ?_
  refine Go.to (g' := (mkF m 32 #[.val (.int p0), .val (.int p1), .val (.int p2), .val (.int p3), .val (.int p4), .val (.int p5), .val (.ref b1), .unset, .unset, .unset, .unset, .unset] [(.ref b1)])) (fun t k => XS.aload X11.here hx rfl (hb hby at_30) rfl rfl k) ?_
  refine Go.to (g' := (mkF m 33 #[.val (.int p0), .val (.int p1), .val (.int p2), .val (.int p3), .val (.int p4), .val (.int p5), .val (.ref b1), .unset, .unset, .unset, .unset, .unset] [(.int (3 : Int32)), (.ref b1)])) (fun t k => XS.iconst X11.here hx rfl (hb hby at_32) k) ?_
  refine Go.to (g' := (mkF m 34 #[.val (.int p0), .val (.int p1), .val (.int p2), .val (.int p3), .val (.int p4), .val (.int p5), .val (.ref b1), .unset, .unset, .unset, .unset, .unset] [(.int p3), (.int (3 : Int32)), (.ref b1)])) (fun t k => XS.iloadN X11.here hx rfl (hb hby at_33) rfl k) ?_
  obtain ⟨v12, _, ⟨T12, L12, k12, n12⟩, -, X12, ⟨Lc12, hQ12, l12, y12, z12⟩, st12⟩ := Jvm.LawKit.callS X11 hx (y := (⟨"com/example/headstart/headstart/server/RequestEmptyLinesPinLaw", "pick", "(I)B"⟩ : MethodName)) hown (mvT hZ (hw _ (List.mem_of_getElem? (i := 1) rfl))) (mvT hZ (hw _ (List.mem_of_getElem? (i := 2) rfl))) (mvT hZ (hw _ (List.mem_of_getElem? (i := 3) rfl))) (mvT hZ (hw _ (List.mem_of_getElem? (i := 4) rfl))) (by decide) (backOf (W := 2) (rm1 l Z aw hw [] p3  h11 n0 Z11 ) hZ (hw _ (List.mem_of_getElem? (i := 4) rfl)) (hw _ (List.mem_of_getElem? (i := 3) rfl)) (by decide) (by decide)) (g := (mkF m 34 #[.val (.int p0), .val (.int p1), .val (.int p2), .val (.int p3), .val (.int p4), .val (.int p5), .val (.ref b1), .unset, .unset, .unset, .unset, .unset] [(.int p3), (.int (3 : Int32)), (.ref b1)])) rfl (by rw [hml]; rfl) (argsL := [(.int p3)]) (rest := [(.int (3 : Int32)), (.ref b1)]) (lenOf pd_28I29B rfl) rfl (by show 2 * 0 + _ ≤ _; exact Nat.le_of_eq rfl) (hb hby at_34) (fun _ _ => ⟨rfl, e11, (by decide : 1 + 0 ≤ _), (by decide : 6 + 0 ≤ _)⟩)
  dsimp only [Pt.U, Pt.locs, Pt.cells, Pt.slots] at X12 l12 y12 z12 st12 hQ12
  subst l12 y12 z12
  obtain ⟨h12, e12⟩ : ∃ z, T12.heap = z := ⟨_, rfl⟩
  rw [e12] at hQ12
  obtain ⟨r12, rfl, N12q, eh12⟩ := hQ12
  rw [eh12] at e12
  have N12 := Fr.app N11 N12q
  refine Go.to (g' := (mkF m 37 #[.val (.int p0), .val (.int p1), .val (.int p2), .val (.int p3), .val (.int p4), .val (.int p5), .val (.ref b1), .unset, .unset, .unset, .unset, .unset] [(.int r12), (.int (3 : Int32)), (.ref b1)])) st12 ?_
  obtain ⟨cl13, Ar13, kc13, S13, M13, H13, G13⟩ := V11
  have hin13 : ¬ ((3 : Int32) < 0 ∨ cl13.slots.size ≤ ((3 : Int32)).toNatClampNeg) := inb_of S13 ⟨by decide, by decide⟩
  obtain ⟨T14, h14, X14, e14, W14, st14⟩ := stB X12 hx hZ e12 Ar13 (j := (3 : Int32)) hin13 (g := (mkF m 37 #[.val (.int p0), .val (.int p1), .val (.int p2), .val (.int p3), .val (.int p4), .val (.int p5), .val (.ref b1), .unset, .unset, .unset, .unset, .unset] [(.int r12), (.int (3 : Int32)), (.ref b1)])) rfl rfl (hb hby at_37)
  have Z14 : n0 ≤ h14.size := Nat.le_trans Z11 (Keep.of_wr W14).1
  have K14 : Keep h0 h14 [] := K11.wr W14 (Or.inr sz_b1)
  have N14 := Fr.snoc X14 N12 g_b1
  have V14 : Arv Z h14 b1 k2 .byte (6 : Int32) [(.int (r3).toInt8.toInt32), (.int (r6).toInt8.toInt32), (.int (r9).toInt8.toInt32), (.int (r12).toInt8.toInt32), (.int (0 : Int32)), (.int (0 : Int32))] (.int (0 : Int32)) := Arv.set Ar13 kc13 S13 M13 H13 G13 (fits_nar_byte _) W14 3 rfl (Nat.le_of_ble_eq_true rfl)
  refine Go.to (g' := (mkF m 38 #[.val (.int p0), .val (.int p1), .val (.int p2), .val (.int p3), .val (.int p4), .val (.int p5), .val (.ref b1), .unset, .unset, .unset, .unset, .unset] [])) st14 ?_
  refine Go.to (g' := (mkF m 40 #[.val (.int p0), .val (.int p1), .val (.int p2), .val (.int p3), .val (.int p4), .val (.int p5), .val (.ref b1), .unset, .unset, .unset, .unset, .unset] [(.ref b1)])) (fun t k => XS.aload X14.here hx rfl (hb hby at_38) rfl rfl k) ?_
  refine Go.to (g' := (mkF m 41 #[.val (.int p0), .val (.int p1), .val (.int p2), .val (.int p3), .val (.int p4), .val (.int p5), .val (.ref b1), .unset, .unset, .unset, .unset, .unset] [(.int (4 : Int32)), (.ref b1)])) (fun t k => XS.iconst X14.here hx rfl (hb hby at_40) k) ?_
  refine Go.to (g' := (mkF m 43 #[.val (.int p0), .val (.int p1), .val (.int p2), .val (.int p3), .val (.int p4), .val (.int p5), .val (.ref b1), .unset, .unset, .unset, .unset, .unset] [(.int p4), (.int (4 : Int32)), (.ref b1)])) (fun t k => XS.iload X14.here hx rfl (hb hby at_41) rfl k) ?_
  obtain ⟨v15, _, ⟨T15, L15, k15, n15⟩, -, X15, ⟨Lc15, hQ15, l15, y15, z15⟩, st15⟩ := Jvm.LawKit.callS X14 hx (y := (⟨"com/example/headstart/headstart/server/RequestEmptyLinesPinLaw", "pick", "(I)B"⟩ : MethodName)) hown (mvT hZ (hw _ (List.mem_of_getElem? (i := 1) rfl))) (mvT hZ (hw _ (List.mem_of_getElem? (i := 2) rfl))) (mvT hZ (hw _ (List.mem_of_getElem? (i := 3) rfl))) (mvT hZ (hw _ (List.mem_of_getElem? (i := 4) rfl))) (by decide) (backOf (W := 2) (rm1 l Z aw hw [] p4  h14 n0 Z14 ) hZ (hw _ (List.mem_of_getElem? (i := 4) rfl)) (hw _ (List.mem_of_getElem? (i := 3) rfl)) (by decide) (by decide)) (g := (mkF m 43 #[.val (.int p0), .val (.int p1), .val (.int p2), .val (.int p3), .val (.int p4), .val (.int p5), .val (.ref b1), .unset, .unset, .unset, .unset, .unset] [(.int p4), (.int (4 : Int32)), (.ref b1)])) rfl (by rw [hml]; rfl) (argsL := [(.int p4)]) (rest := [(.int (4 : Int32)), (.ref b1)]) (lenOf pd_28I29B rfl) rfl (by show 2 * 0 + _ ≤ _; exact Nat.le_of_eq rfl) (hb hby at_43) (fun _ _ => ⟨rfl, e14, (by decide : 1 + 0 ≤ _), (by decide : 6 + 0 ≤ _)⟩)
  dsimp only [Pt.U, Pt.locs, Pt.cells, Pt.slots] at X15 l15 y15 z15 st15 hQ15
  subst l15 y15 z15
  obtain ⟨h15, e15⟩ : ∃ z, T15.heap = z := ⟨_, rfl⟩
  rw [e15] at hQ15
  obtain ⟨r15, rfl, N15q, eh15⟩ := hQ15
  rw [eh15] at e15
  have N15 := Fr.app N14 N15q
  refine Go.to (g' := (mkF m 46 #[.val (.int p0), .val (.int p1), .val (.int p2), .val (.int p3), .val (.int p4), .val (.int p5), .val (.ref b1), .unset, .unset, .unset, .unset, .unset] [(.int r15), (.int (4 : Int32)), (.ref b1)])) st15 ?_
  obtain ⟨cl16, Ar16, kc16, S16, M16, H16, G16⟩ := V14
  have hin16 : ¬ ((4 : Int32) < 0 ∨ cl16.slots.size ≤ ((4 : Int32)).toNatClampNeg) := inb_of S16 ⟨by decide, by decide⟩
  obtain ⟨T17, h17, X17, e17, W17, st17⟩ := stB X15 hx hZ e15 Ar16 (j := (4 : Int32)) hin16 (g := (mkF m 46 #[.val (.int p0), .val (.int p1), .val (.int p2), .val (.int p3), .val (.int p4), .val (.int p5), .val (.ref b1), .unset, .unset, .unset, .unset, .unset] [(.int r15), (.int (4 : Int32)), (.ref b1)])) rfl rfl (hb hby at_46)
  have Z17 : n0 ≤ h17.size := Nat.le_trans Z14 (Keep.of_wr W17).1
  have K17 : Keep h0 h17 [] := K14.wr W17 (Or.inr sz_b1)
  have N17 := Fr.snoc X17 N15 g_b1
  have V17 : Arv Z h17 b1 k2 .byte (6 : Int32) [(.int (r3).toInt8.toInt32), (.int (r6).toInt8.toInt32), (.int (r9).toInt8.toInt32), (.int (r12).toInt8.toInt32), (.int (r15).toInt8.toInt32), (.int (0 : Int32))] (.int (0 : Int32)) := Arv.set Ar16 kc16 S16 M16 H16 G16 (fits_nar_byte _) W17 4 rfl (Nat.le_of_ble_eq_true rfl)
  refine Go.to (g' := (mkF m 47 #[.val (.int p0), .val (.int p1), .val (.int p2), .val (.int p3), .val (.int p4), .val (.int p5), .val (.ref b1), .unset, .unset, .unset, .unset, .unset] [])) st17 ?_
  refine Go.to (g' := (mkF m 49 #[.val (.int p0), .val (.int p1), .val (.int p2), .val (.int p3), .val (.int p4), .val (.int p5), .val (.ref b1), .unset, .unset, .unset, .unset, .unset] [(.ref b1)])) (fun t k => XS.aload X17.here hx rfl (hb hby at_47) rfl rfl k) ?_
  refine Go.to (g' := (mkF m 50 #[.val (.int p0), .val (.int p1), .val (.int p2), .val (.int p3), .val (.int p4), .val (.int p5), .val (.ref b1), .unset, .unset, .unset, .unset, .unset] [(.int (5 : Int32)), (.ref b1)])) (fun t k => XS.iconst X17.here hx rfl (hb hby at_49) k) ?_
  refine Go.to (g' := (mkF m 52 #[.val (.int p0), .val (.int p1), .val (.int p2), .val (.int p3), .val (.int p4), .val (.int p5), .val (.ref b1), .unset, .unset, .unset, .unset, .unset] [(.int p5), (.int (5 : Int32)), (.ref b1)])) (fun t k => XS.iload X17.here hx rfl (hb hby at_50) rfl k) ?_
  obtain ⟨v18, _, ⟨T18, L18, k18, n18⟩, -, X18, ⟨Lc18, hQ18, l18, y18, z18⟩, st18⟩ := Jvm.LawKit.callS X17 hx (y := (⟨"com/example/headstart/headstart/server/RequestEmptyLinesPinLaw", "pick", "(I)B"⟩ : MethodName)) hown (mvT hZ (hw _ (List.mem_of_getElem? (i := 1) rfl))) (mvT hZ (hw _ (List.mem_of_getElem? (i := 2) rfl))) (mvT hZ (hw _ (List.mem_of_getElem? (i := 3) rfl))) (mvT hZ (hw _ (List.mem_of_getElem? (i := 4) rfl))) (by decide) (backOf (W := 2) (rm1 l Z aw hw [] p5  h17 n0 Z17 ) hZ (hw _ (List.mem_of_getElem? (i := 4) rfl)) (hw _ (List.mem_of_getElem? (i := 3) rfl)) (by decide) (by decide)) (g := (mkF m 52 #[.val (.int p0), .val (.int p1), .val (.int p2), .val (.int p3), .val (.int p4), .val (.int p5), .val (.ref b1), .unset, .unset, .unset, .unset, .unset] [(.int p5), (.int (5 : Int32)), (.ref b1)])) rfl (by rw [hml]; rfl) (argsL := [(.int p5)]) (rest := [(.int (5 : Int32)), (.ref b1)]) (lenOf pd_28I29B rfl) rfl (by show 2 * 0 + _ ≤ _; exact Nat.le_of_eq rfl) (hb hby at_52) (fun _ _ => ⟨rfl, e17, (by decide : 1 + 0 ≤ _), (by decide : 6 + 0 ≤ _)⟩)
  dsimp only [Pt.U, Pt.locs, Pt.cells, Pt.slots] at X18 l18 y18 z18 st18 hQ18
  subst l18 y18 z18
  obtain ⟨h18, e18⟩ : ∃ z, T18.heap = z := ⟨_, rfl⟩
  rw [e18] at hQ18
  obtain ⟨r18, rfl, N18q, eh18⟩ := hQ18
  rw [eh18] at e18
  have N18 := Fr.app N17 N18q
  refine Go.to (g' := (mkF m 55 #[.val (.int p0), .val (.int p1), .val (.int p2), .val (.int p3), .val (.int p4), .val (.int p5), .val (.ref b1), .unset, .unset, .unset, .unset, .unset] [(.int r18), (.int (5 : Int32)), (.ref b1)])) st18 ?_
  obtain ⟨cl19, Ar19, kc19, S19, M19, H19, G19⟩ := V17
  have hin19 : ¬ ((5 : Int32) < 0 ∨ cl19.slots.size ≤ ((5 : Int32)).toNatClampNeg) := inb_of S19 ⟨by decide, by decide⟩
  obtain ⟨T20, h20, X20, e20, W20, st20⟩ := stB X18 hx hZ e18 Ar19 (j := (5 : Int32)) hin19 (g := (mkF m 55 #[.val (.int p0), .val (.int p1), .val (.int p2), .val (.int p3), .val (.int p4), .val (.int p5), .val (.ref b1), .unset, .unset, .unset, .unset, .unset] [(.int r18), (.int (5 : Int32)), (.ref b1)])) rfl rfl (hb hby at_55)
  have Z20 : n0 ≤ h20.size := Nat.le_trans Z17 (Keep.of_wr W20).1
  have K20 : Keep h0 h20 [] := K17.wr W20 (Or.inr sz_b1)
  have N20 := Fr.snoc X20 N18 g_b1
  have V20 : Arv Z h20 b1 k2 .byte (6 : Int32) [(.int (r3).toInt8.toInt32), (.int (r6).toInt8.toInt32), (.int (r9).toInt8.toInt32), (.int (r12).toInt8.toInt32), (.int (r15).toInt8.toInt32), (.int (r18).toInt8.toInt32)] (.int (0 : Int32)) := Arv.set Ar19 kc19 S19 M19 H19 G19 (fits_nar_byte _) W20 5 rfl (Nat.le_of_ble_eq_true rfl)
  refine Go.to (g' := (mkF m 56 #[.val (.int p0), .val (.int p1), .val (.int p2), .val (.int p3), .val (.int p4), .val (.int p5), .val (.ref b1), .unset, .unset, .unset, .unset, .unset] [])) st20 ?_
  refine Go.to (g' := (mkF m 58 #[.val (.int p0), .val (.int p1), .val (.int p2), .val (.int p3), .val (.int p4), .val (.int p5), .val (.ref b1), .unset, .unset, .unset, .unset, .unset] [(.int p5)])) (fun t k => XS.iload X20.here hx rfl (hb hby at_56) rfl k) ?_
  refine Go.to (g' := (mkF m 60 #[.val (.int p0), .val (.int p1), .val (.int p2), .val (.int p3), .val (.int p4), .val (.int p5), .val (.ref b1), .unset, .unset, .unset, .unset, .unset] [(.int (16 : Int32)), (.int p5)])) (fun t k => XS.bipush X20.here hx rfl (hb hby at_58) k) ?_
  refine Go.to (g' := (mkF m 61 #[.val (.int p0), .val (.int p1), .val (.int p2), .val (.int p3), .val (.int p4), .val (.int p5), .val (.ref b1), .unset, .unset, .unset, .unset, .unset] [(.int ((p5.toUInt32 >>> ((16 : Int32) &&& 31).toUInt32).toInt32))])) (fun t k => XS.iushr X20.here hx rfl (hb hby at_60) rfl k) ?_
  refine Go.to (g' := (mkF m 64 #[.val (.int p0), .val (.int p1), .val (.int p2), .val (.int p3), .val (.int p4), .val (.int p5), .val (.ref b1), .unset, .unset, .unset, .unset, .unset] [(.int (32767 : Int32)), (.int ((p5.toUInt32 >>> ((16 : Int32) &&& 31).toUInt32).toInt32))])) (fun t k => XS.sipush X20.here hx rfl (hb hby at_61) k) ?_
  refine Go.to (g' := (mkF m 65 #[.val (.int p0), .val (.int p1), .val (.int p2), .val (.int p3), .val (.int p4), .val (.int p5), .val (.ref b1), .unset, .unset, .unset, .unset, .unset] [(.int (((p5.toUInt32 >>> ((16 : Int32) &&& 31).toUInt32).toInt32) &&& (32767 : Int32)))])) (fun t k => XS.iand X20.here hx rfl (hb hby at_64) rfl k) ?_
  refine Go.to (g' := (mkF m 67 #[.val (.int p0), .val (.int p1), .val (.int p2), .val (.int p3), .val (.int p4), .val (.int p5), .val (.ref b1), .unset, .unset, .unset, .unset, .unset] [(.int (7 : Int32)), (.int (((p5.toUInt32 >>> ((16 : Int32) &&& 31).toUInt32).toInt32) &&& (32767 : Int32)))])) (fun t k => XS.bipush X20.here hx rfl (hb hby at_65) k) ?_
  refine Go.to (g' := (mkF m 68 #[.val (.int p0), .val (.int p1), .val (.int p2), .val (.int p3), .val (.int p4), .val (.int p5), .val (.ref b1), .unset, .unset, .unset, .unset, .unset] [(.int ((((p5.toUInt32 >>> ((16 : Int32) &&& 31).toUInt32).toInt32) &&& (32767 : Int32)) % (7 : Int32)))])) (fun t k => iremM X20 hx rfl (hb hby at_67) rfl (by decide) k) ?_
  obtain ⟨ln, hv_ln⟩ : ∃ z : Int32, z = ((((p5.toUInt32 >>> ((16 : Int32) &&& 31).toUInt32).toInt32) &&& (32767 : Int32)) % (7 : Int32)) := ⟨_, rfl⟩
  rw [← hv_ln]
  refine Go.to (g' := (mkF m 70 #[.val (.int p0), .val (.int p1), .val (.int p2), .val (.int p3), .val (.int p4), .val (.int p5), .val (.ref b1), .val (.int ln), .unset, .unset, .unset, .unset] [])) (fun t k => XS.istore X20.here hx rfl (hb hby at_68) rfl (l' := #[.val (.int p0), .val (.int p1), .val (.int p2), .val (.int p3), .val (.int p4), .val (.int p5), .val (.ref b1), .val (.int ln), .unset, .unset, .unset, .unset]) rfl k) ?_
  have hln : ln.toInt ≤ 6 := by rw [hv_ln]; exact own_m7 _
  obtain ⟨f, B⟩ : ∃ f, own_By Z h20 b1 6 f := own_by_of V20 rfl
  suffices J0 : ∀ (pb0 : Int32) (hb0 : (pb0 = (0 : Int32) ∧ ¬ (f (0 : Int32) = (13 : Int32) ∧ f (1 : Int32) = (10 : Int32))) ∨ (¬ pb0 = (0 : Int32) ∧ f (0 : Int32) = (13 : Int32) ∧ f (1 : Int32) = (10 : Int32))), Go p e below s (Q0 Z p0 p1 p2 p3 p4 p5 h0 n0) room_1.cells room_1.slots (T20.setTop (mkF m 93 #[.val (.int p0), .val (.int p1), .val (.int p2), .val (.int p3), .val (.int p4), .val (.int p5), .val (.ref b1), .val (.int ln), .unset, .unset, .unset, .unset] [(.int pb0)])) by
    refine Go.to (g' := (mkF m 72 #[.val (.int p0), .val (.int p1), .val (.int p2), .val (.int p3), .val (.int p4), .val (.int p5), .val (.ref b1), .val (.int ln), .unset, .unset, .unset, .unset] [(.ref b1)])) (fun t k => XS.aload X20.here hx rfl (hb hby at_70) rfl rfl k) ?_
    refine Go.to (g' := (mkF m 73 #[.val (.int p0), .val (.int p1), .val (.int p2), .val (.int p3), .val (.int p4), .val (.int p5), .val (.ref b1), .val (.int ln), .unset, .unset, .unset, .unset] [(.int (0 : Int32)), (.ref b1)])) (fun t k => XS.iconst X20.here hx rfl (hb hby at_72) k) ?_
    obtain ⟨cl21, Ar21, Sz21, Hf21⟩ := id B
    refine Go.to (g' := (mkF m 74 #[.val (.int p0), .val (.int p1), .val (.int p2), .val (.int p3), .val (.int p4), .val (.int p5), .val (.ref b1), .val (.int ln), .unset, .unset, .unset, .unset] [(.int (f (0 : Int32)))])) (fun t k => X20.baloadBytes hx (j := (0 : Int32)) (v := (.int (f (0 : Int32)))) (by rw [e20]; exact Ar21.1) (State.isArrayOf_alike hZ.alike Ar21.2.1) Ar21.2.2 (own_by_in Sz21 (by decide) (by decide)) (Hf21 _ (by decide) (by decide)) (g := (mkF m 73 #[.val (.int p0), .val (.int p1), .val (.int p2), .val (.int p3), .val (.int p4), .val (.int p5), .val (.ref b1), .val (.int ln), .unset, .unset, .unset, .unset] [(.int (0 : Int32)), (.ref b1)])) rfl rfl (hb hby at_73) _ k) ?_
    refine Go.to (g' := (mkF m 76 #[.val (.int p0), .val (.int p1), .val (.int p2), .val (.int p3), .val (.int p4), .val (.int p5), .val (.ref b1), .val (.int ln), .unset, .unset, .unset, .unset] [(.int (13 : Int32)), (.int (f (0 : Int32)))])) (fun t k => XS.bipush X20.here hx rfl (hb hby at_74) k) ?_
    by_cases c22 : (f (0 : Int32)) = (13 : Int32)
    · refine Go.to (g' := (mkF m 79 #[.val (.int p0), .val (.int p1), .val (.int p2), .val (.int p3), .val (.int p4), .val (.int p5), .val (.ref b1), .val (.int ln), .unset, .unset, .unset, .unset] [])) (fun t k => XS.icmpNo X20.here hx rfl (hb hby at_76) rfl (teq c22).2 k) ?_
      refine Go.to (g' := (mkF m 81 #[.val (.int p0), .val (.int p1), .val (.int p2), .val (.int p3), .val (.int p4), .val (.int p5), .val (.ref b1), .val (.int ln), .unset, .unset, .unset, .unset] [(.ref b1)])) (fun t k => XS.aload X20.here hx rfl (hb hby at_79) rfl rfl k) ?_
      refine Go.to (g' := (mkF m 82 #[.val (.int p0), .val (.int p1), .val (.int p2), .val (.int p3), .val (.int p4), .val (.int p5), .val (.ref b1), .val (.int ln), .unset, .unset, .unset, .unset] [(.int (1 : Int32)), (.ref b1)])) (fun t k => XS.iconst X20.here hx rfl (hb hby at_81) k) ?_
      obtain ⟨cl23, Ar23, Sz23, Hf23⟩ := id B
      refine Go.to (g' := (mkF m 83 #[.val (.int p0), .val (.int p1), .val (.int p2), .val (.int p3), .val (.int p4), .val (.int p5), .val (.ref b1), .val (.int ln), .unset, .unset, .unset, .unset] [(.int (f (1 : Int32)))])) (fun t k => X20.baloadBytes hx (j := (1 : Int32)) (v := (.int (f (1 : Int32)))) (by rw [e20]; exact Ar23.1) (State.isArrayOf_alike hZ.alike Ar23.2.1) Ar23.2.2 (own_by_in Sz23 (by decide) (by decide)) (Hf23 _ (by decide) (by decide)) (g := (mkF m 82 #[.val (.int p0), .val (.int p1), .val (.int p2), .val (.int p3), .val (.int p4), .val (.int p5), .val (.ref b1), .val (.int ln), .unset, .unset, .unset, .unset] [(.int (1 : Int32)), (.ref b1)])) rfl rfl (hb hby at_82) _ k) ?_
      refine Go.to (g' := (mkF m 85 #[.val (.int p0), .val (.int p1), .val (.int p2), .val (.int p3), .val (.int p4), .val (.int p5), .val (.ref b1), .val (.int ln), .unset, .unset, .unset, .unset] [(.int (10 : Int32)), (.int (f (1 : Int32)))])) (fun t k => XS.bipush X20.here hx rfl (hb hby at_83) k) ?_
      by_cases c24 : (f (1 : Int32)) = (10 : Int32)
      · refine Go.to (g' := (mkF m 88 #[.val (.int p0), .val (.int p1), .val (.int p2), .val (.int p3), .val (.int p4), .val (.int p5), .val (.ref b1), .val (.int ln), .unset, .unset, .unset, .unset] [])) (fun t k => XS.icmpNo X20.here hx rfl (hb hby at_85) rfl (teq c24).2 k) ?_
        refine Go.to (g' := (mkF m 89 #[.val (.int p0), .val (.int p1), .val (.int p2), .val (.int p3), .val (.int p4), .val (.int p5), .val (.ref b1), .val (.int ln), .unset, .unset, .unset, .unset] [(.int (1 : Int32))])) (fun t k => XS.iconst X20.here hx rfl (hb hby at_88) k) ?_
        refine Go.to (g' := (mkF m 93 #[.val (.int p0), .val (.int p1), .val (.int p2), .val (.int p3), .val (.int p4), .val (.int p5), .val (.ref b1), .val (.int ln), .unset, .unset, .unset, .unset] [(.int (1 : Int32))])) (fun t k => XS.goto X20.here hx rfl (pc0 := 89) (pc' := 93) rfl (hb hby at_89) (by decide) (by decide) k) ?_
        exact J0 _ (Or.inr ⟨by decide, c22, c24⟩)
      · refine Go.to (g' := (mkF m 92 #[.val (.int p0), .val (.int p1), .val (.int p2), .val (.int p3), .val (.int p4), .val (.int p5), .val (.ref b1), .val (.int ln), .unset, .unset, .unset, .unset] [])) (fun t k => XS.icmpYes X20.here hx rfl (pc0 := 85) (pc' := 92) rfl (hb hby at_85) rfl (feq c24).2 (by decide) (by decide) k) ?_
        refine Go.to (g' := (mkF m 93 #[.val (.int p0), .val (.int p1), .val (.int p2), .val (.int p3), .val (.int p4), .val (.int p5), .val (.ref b1), .val (.int ln), .unset, .unset, .unset, .unset] [(.int (0 : Int32))])) (fun t k => XS.iconst X20.here hx rfl (hb hby at_92) k) ?_
        exact J0 _ (Or.inl ⟨rfl, fun q => c24 q.2⟩)
    · refine Go.to (g' := (mkF m 92 #[.val (.int p0), .val (.int p1), .val (.int p2), .val (.int p3), .val (.int p4), .val (.int p5), .val (.ref b1), .val (.int ln), .unset, .unset, .unset, .unset] [])) (fun t k => XS.icmpYes X20.here hx rfl (pc0 := 76) (pc' := 92) rfl (hb hby at_76) rfl (feq c22).2 (by decide) (by decide) k) ?_
      refine Go.to (g' := (mkF m 93 #[.val (.int p0), .val (.int p1), .val (.int p2), .val (.int p3), .val (.int p4), .val (.int p5), .val (.ref b1), .val (.int ln), .unset, .unset, .unset, .unset] [(.int (0 : Int32))])) (fun t k => XS.iconst X20.here hx rfl (hb hby at_92) k) ?_
      exact J0 _ (Or.inl ⟨rfl, fun q => c22 q.1⟩)
  intro pb0 hb0
  refine Go.to (g' := (mkF m 95 #[.val (.int p0), .val (.int p1), .val (.int p2), .val (.int p3), .val (.int p4), .val (.int p5), .val (.ref b1), .val (.int ln), .val (.int pb0), .unset, .unset, .unset] [])) (fun t k => XS.istore X20.here hx rfl (hb hby at_93) rfl (l' := #[.val (.int p0), .val (.int p1), .val (.int p2), .val (.int p3), .val (.int p4), .val (.int p5), .val (.ref b1), .val (.int ln), .val (.int pb0), .unset, .unset, .unset]) rfl k) ?_
  suffices J1 : ∀ (pb1 : Int32) (hb1 : (pb1 = (0 : Int32) ∧ ¬ (f (2 : Int32) = (13 : Int32) ∧ f (3 : Int32) = (10 : Int32))) ∨ (¬ pb1 = (0 : Int32) ∧ f (2 : Int32) = (13 : Int32) ∧ f (3 : Int32) = (10 : Int32))), Go p e below s (Q0 Z p0 p1 p2 p3 p4 p5 h0 n0) room_1.cells room_1.slots (T20.setTop (mkF m 118 #[.val (.int p0), .val (.int p1), .val (.int p2), .val (.int p3), .val (.int p4), .val (.int p5), .val (.ref b1), .val (.int ln), .val (.int pb0), .unset, .unset, .unset] [(.int pb1)])) by
    refine Go.to (g' := (mkF m 97 #[.val (.int p0), .val (.int p1), .val (.int p2), .val (.int p3), .val (.int p4), .val (.int p5), .val (.ref b1), .val (.int ln), .val (.int pb0), .unset, .unset, .unset] [(.ref b1)])) (fun t k => XS.aload X20.here hx rfl (hb hby at_95) rfl rfl k) ?_
    refine Go.to (g' := (mkF m 98 #[.val (.int p0), .val (.int p1), .val (.int p2), .val (.int p3), .val (.int p4), .val (.int p5), .val (.ref b1), .val (.int ln), .val (.int pb0), .unset, .unset, .unset] [(.int (2 : Int32)), (.ref b1)])) (fun t k => XS.iconst X20.here hx rfl (hb hby at_97) k) ?_
    obtain ⟨cl25, Ar25, Sz25, Hf25⟩ := id B
    refine Go.to (g' := (mkF m 99 #[.val (.int p0), .val (.int p1), .val (.int p2), .val (.int p3), .val (.int p4), .val (.int p5), .val (.ref b1), .val (.int ln), .val (.int pb0), .unset, .unset, .unset] [(.int (f (2 : Int32)))])) (fun t k => X20.baloadBytes hx (j := (2 : Int32)) (v := (.int (f (2 : Int32)))) (by rw [e20]; exact Ar25.1) (State.isArrayOf_alike hZ.alike Ar25.2.1) Ar25.2.2 (own_by_in Sz25 (by decide) (by decide)) (Hf25 _ (by decide) (by decide)) (g := (mkF m 98 #[.val (.int p0), .val (.int p1), .val (.int p2), .val (.int p3), .val (.int p4), .val (.int p5), .val (.ref b1), .val (.int ln), .val (.int pb0), .unset, .unset, .unset] [(.int (2 : Int32)), (.ref b1)])) rfl rfl (hb hby at_98) _ k) ?_
    refine Go.to (g' := (mkF m 101 #[.val (.int p0), .val (.int p1), .val (.int p2), .val (.int p3), .val (.int p4), .val (.int p5), .val (.ref b1), .val (.int ln), .val (.int pb0), .unset, .unset, .unset] [(.int (13 : Int32)), (.int (f (2 : Int32)))])) (fun t k => XS.bipush X20.here hx rfl (hb hby at_99) k) ?_
    by_cases c26 : (f (2 : Int32)) = (13 : Int32)
    · refine Go.to (g' := (mkF m 104 #[.val (.int p0), .val (.int p1), .val (.int p2), .val (.int p3), .val (.int p4), .val (.int p5), .val (.ref b1), .val (.int ln), .val (.int pb0), .unset, .unset, .unset] [])) (fun t k => XS.icmpNo X20.here hx rfl (hb hby at_101) rfl (teq c26).2 k) ?_
      refine Go.to (g' := (mkF m 106 #[.val (.int p0), .val (.int p1), .val (.int p2), .val (.int p3), .val (.int p4), .val (.int p5), .val (.ref b1), .val (.int ln), .val (.int pb0), .unset, .unset, .unset] [(.ref b1)])) (fun t k => XS.aload X20.here hx rfl (hb hby at_104) rfl rfl k) ?_
      refine Go.to (g' := (mkF m 107 #[.val (.int p0), .val (.int p1), .val (.int p2), .val (.int p3), .val (.int p4), .val (.int p5), .val (.ref b1), .val (.int ln), .val (.int pb0), .unset, .unset, .unset] [(.int (3 : Int32)), (.ref b1)])) (fun t k => XS.iconst X20.here hx rfl (hb hby at_106) k) ?_
      obtain ⟨cl27, Ar27, Sz27, Hf27⟩ := id B
      refine Go.to (g' := (mkF m 108 #[.val (.int p0), .val (.int p1), .val (.int p2), .val (.int p3), .val (.int p4), .val (.int p5), .val (.ref b1), .val (.int ln), .val (.int pb0), .unset, .unset, .unset] [(.int (f (3 : Int32)))])) (fun t k => X20.baloadBytes hx (j := (3 : Int32)) (v := (.int (f (3 : Int32)))) (by rw [e20]; exact Ar27.1) (State.isArrayOf_alike hZ.alike Ar27.2.1) Ar27.2.2 (own_by_in Sz27 (by decide) (by decide)) (Hf27 _ (by decide) (by decide)) (g := (mkF m 107 #[.val (.int p0), .val (.int p1), .val (.int p2), .val (.int p3), .val (.int p4), .val (.int p5), .val (.ref b1), .val (.int ln), .val (.int pb0), .unset, .unset, .unset] [(.int (3 : Int32)), (.ref b1)])) rfl rfl (hb hby at_107) _ k) ?_
      refine Go.to (g' := (mkF m 110 #[.val (.int p0), .val (.int p1), .val (.int p2), .val (.int p3), .val (.int p4), .val (.int p5), .val (.ref b1), .val (.int ln), .val (.int pb0), .unset, .unset, .unset] [(.int (10 : Int32)), (.int (f (3 : Int32)))])) (fun t k => XS.bipush X20.here hx rfl (hb hby at_108) k) ?_
      by_cases c28 : (f (3 : Int32)) = (10 : Int32)
      · refine Go.to (g' := (mkF m 113 #[.val (.int p0), .val (.int p1), .val (.int p2), .val (.int p3), .val (.int p4), .val (.int p5), .val (.ref b1), .val (.int ln), .val (.int pb0), .unset, .unset, .unset] [])) (fun t k => XS.icmpNo X20.here hx rfl (hb hby at_110) rfl (teq c28).2 k) ?_
        refine Go.to (g' := (mkF m 114 #[.val (.int p0), .val (.int p1), .val (.int p2), .val (.int p3), .val (.int p4), .val (.int p5), .val (.ref b1), .val (.int ln), .val (.int pb0), .unset, .unset, .unset] [(.int (1 : Int32))])) (fun t k => XS.iconst X20.here hx rfl (hb hby at_113) k) ?_
        refine Go.to (g' := (mkF m 118 #[.val (.int p0), .val (.int p1), .val (.int p2), .val (.int p3), .val (.int p4), .val (.int p5), .val (.ref b1), .val (.int ln), .val (.int pb0), .unset, .unset, .unset] [(.int (1 : Int32))])) (fun t k => XS.goto X20.here hx rfl (pc0 := 114) (pc' := 118) rfl (hb hby at_114) (by decide) (by decide) k) ?_
        exact J1 _ (Or.inr ⟨by decide, c26, c28⟩)
      · refine Go.to (g' := (mkF m 117 #[.val (.int p0), .val (.int p1), .val (.int p2), .val (.int p3), .val (.int p4), .val (.int p5), .val (.ref b1), .val (.int ln), .val (.int pb0), .unset, .unset, .unset] [])) (fun t k => XS.icmpYes X20.here hx rfl (pc0 := 110) (pc' := 117) rfl (hb hby at_110) rfl (feq c28).2 (by decide) (by decide) k) ?_
        refine Go.to (g' := (mkF m 118 #[.val (.int p0), .val (.int p1), .val (.int p2), .val (.int p3), .val (.int p4), .val (.int p5), .val (.ref b1), .val (.int ln), .val (.int pb0), .unset, .unset, .unset] [(.int (0 : Int32))])) (fun t k => XS.iconst X20.here hx rfl (hb hby at_117) k) ?_
        exact J1 _ (Or.inl ⟨rfl, fun q => c28 q.2⟩)
    · refine Go.to (g' := (mkF m 117 #[.val (.int p0), .val (.int p1), .val (.int p2), .val (.int p3), .val (.int p4), .val (.int p5), .val (.ref b1), .val (.int ln), .val (.int pb0), .unset, .unset, .unset] [])) (fun t k => XS.icmpYes X20.here hx rfl (pc0 := 101) (pc' := 117) rfl (hb hby at_101) rfl (feq c26).2 (by decide) (by decide) k) ?_
      refine Go.to (g' := (mkF m 118 #[.val (.int p0), .val (.int p1), .val (.int p2), .val (.int p3), .val (.int p4), .val (.int p5), .val (.ref b1), .val (.int ln), .val (.int pb0), .unset, .unset, .unset] [(.int (0 : Int32))])) (fun t k => XS.iconst X20.here hx rfl (hb hby at_117) k) ?_
      exact J1 _ (Or.inl ⟨rfl, fun q => c26 q.1⟩)
  intro pb1 hb1
  refine Go.to (g' := (mkF m 120 #[.val (.int p0), .val (.int p1), .val (.int p2), .val (.int p3), .val (.int p4), .val (.int p5), .val (.ref b1), .val (.int ln), .val (.int pb0), .val (.int pb1), .unset, .unset] [])) (fun t k => XS.istore X20.here hx rfl (hb hby at_118) rfl (l' := #[.val (.int p0), .val (.int p1), .val (.int p2), .val (.int p3), .val (.int p4), .val (.int p5), .val (.ref b1), .val (.int ln), .val (.int pb0), .val (.int pb1), .unset, .unset]) rfl k) ?_
  suffices J2 : ∀ (pb2 : Int32) (hb2 : (pb2 = (0 : Int32) ∧ ¬ (f (4 : Int32) = (13 : Int32) ∧ f (5 : Int32) = (10 : Int32))) ∨ (¬ pb2 = (0 : Int32) ∧ f (4 : Int32) = (13 : Int32) ∧ f (5 : Int32) = (10 : Int32))), Go p e below s (Q0 Z p0 p1 p2 p3 p4 p5 h0 n0) room_1.cells room_1.slots (T20.setTop (mkF m 143 #[.val (.int p0), .val (.int p1), .val (.int p2), .val (.int p3), .val (.int p4), .val (.int p5), .val (.ref b1), .val (.int ln), .val (.int pb0), .val (.int pb1), .unset, .unset] [(.int pb2)])) by
    refine Go.to (g' := (mkF m 122 #[.val (.int p0), .val (.int p1), .val (.int p2), .val (.int p3), .val (.int p4), .val (.int p5), .val (.ref b1), .val (.int ln), .val (.int pb0), .val (.int pb1), .unset, .unset] [(.ref b1)])) (fun t k => XS.aload X20.here hx rfl (hb hby at_120) rfl rfl k) ?_
    refine Go.to (g' := (mkF m 123 #[.val (.int p0), .val (.int p1), .val (.int p2), .val (.int p3), .val (.int p4), .val (.int p5), .val (.ref b1), .val (.int ln), .val (.int pb0), .val (.int pb1), .unset, .unset] [(.int (4 : Int32)), (.ref b1)])) (fun t k => XS.iconst X20.here hx rfl (hb hby at_122) k) ?_
    obtain ⟨cl29, Ar29, Sz29, Hf29⟩ := id B
    refine Go.to (g' := (mkF m 124 #[.val (.int p0), .val (.int p1), .val (.int p2), .val (.int p3), .val (.int p4), .val (.int p5), .val (.ref b1), .val (.int ln), .val (.int pb0), .val (.int pb1), .unset, .unset] [(.int (f (4 : Int32)))])) (fun t k => X20.baloadBytes hx (j := (4 : Int32)) (v := (.int (f (4 : Int32)))) (by rw [e20]; exact Ar29.1) (State.isArrayOf_alike hZ.alike Ar29.2.1) Ar29.2.2 (own_by_in Sz29 (by decide) (by decide)) (Hf29 _ (by decide) (by decide)) (g := (mkF m 123 #[.val (.int p0), .val (.int p1), .val (.int p2), .val (.int p3), .val (.int p4), .val (.int p5), .val (.ref b1), .val (.int ln), .val (.int pb0), .val (.int pb1), .unset, .unset] [(.int (4 : Int32)), (.ref b1)])) rfl rfl (hb hby at_123) _ k) ?_
    refine Go.to (g' := (mkF m 126 #[.val (.int p0), .val (.int p1), .val (.int p2), .val (.int p3), .val (.int p4), .val (.int p5), .val (.ref b1), .val (.int ln), .val (.int pb0), .val (.int pb1), .unset, .unset] [(.int (13 : Int32)), (.int (f (4 : Int32)))])) (fun t k => XS.bipush X20.here hx rfl (hb hby at_124) k) ?_
    by_cases c30 : (f (4 : Int32)) = (13 : Int32)
    · refine Go.to (g' := (mkF m 129 #[.val (.int p0), .val (.int p1), .val (.int p2), .val (.int p3), .val (.int p4), .val (.int p5), .val (.ref b1), .val (.int ln), .val (.int pb0), .val (.int pb1), .unset, .unset] [])) (fun t k => XS.icmpNo X20.here hx rfl (hb hby at_126) rfl (teq c30).2 k) ?_
      refine Go.to (g' := (mkF m 131 #[.val (.int p0), .val (.int p1), .val (.int p2), .val (.int p3), .val (.int p4), .val (.int p5), .val (.ref b1), .val (.int ln), .val (.int pb0), .val (.int pb1), .unset, .unset] [(.ref b1)])) (fun t k => XS.aload X20.here hx rfl (hb hby at_129) rfl rfl k) ?_
      refine Go.to (g' := (mkF m 132 #[.val (.int p0), .val (.int p1), .val (.int p2), .val (.int p3), .val (.int p4), .val (.int p5), .val (.ref b1), .val (.int ln), .val (.int pb0), .val (.int pb1), .unset, .unset] [(.int (5 : Int32)), (.ref b1)])) (fun t k => XS.iconst X20.here hx rfl (hb hby at_131) k) ?_
      obtain ⟨cl31, Ar31, Sz31, Hf31⟩ := id B
      refine Go.to (g' := (mkF m 133 #[.val (.int p0), .val (.int p1), .val (.int p2), .val (.int p3), .val (.int p4), .val (.int p5), .val (.ref b1), .val (.int ln), .val (.int pb0), .val (.int pb1), .unset, .unset] [(.int (f (5 : Int32)))])) (fun t k => X20.baloadBytes hx (j := (5 : Int32)) (v := (.int (f (5 : Int32)))) (by rw [e20]; exact Ar31.1) (State.isArrayOf_alike hZ.alike Ar31.2.1) Ar31.2.2 (own_by_in Sz31 (by decide) (by decide)) (Hf31 _ (by decide) (by decide)) (g := (mkF m 132 #[.val (.int p0), .val (.int p1), .val (.int p2), .val (.int p3), .val (.int p4), .val (.int p5), .val (.ref b1), .val (.int ln), .val (.int pb0), .val (.int pb1), .unset, .unset] [(.int (5 : Int32)), (.ref b1)])) rfl rfl (hb hby at_132) _ k) ?_
      refine Go.to (g' := (mkF m 135 #[.val (.int p0), .val (.int p1), .val (.int p2), .val (.int p3), .val (.int p4), .val (.int p5), .val (.ref b1), .val (.int ln), .val (.int pb0), .val (.int pb1), .unset, .unset] [(.int (10 : Int32)), (.int (f (5 : Int32)))])) (fun t k => XS.bipush X20.here hx rfl (hb hby at_133) k) ?_
      by_cases c32 : (f (5 : Int32)) = (10 : Int32)
      · refine Go.to (g' := (mkF m 138 #[.val (.int p0), .val (.int p1), .val (.int p2), .val (.int p3), .val (.int p4), .val (.int p5), .val (.ref b1), .val (.int ln), .val (.int pb0), .val (.int pb1), .unset, .unset] [])) (fun t k => XS.icmpNo X20.here hx rfl (hb hby at_135) rfl (teq c32).2 k) ?_
        refine Go.to (g' := (mkF m 139 #[.val (.int p0), .val (.int p1), .val (.int p2), .val (.int p3), .val (.int p4), .val (.int p5), .val (.ref b1), .val (.int ln), .val (.int pb0), .val (.int pb1), .unset, .unset] [(.int (1 : Int32))])) (fun t k => XS.iconst X20.here hx rfl (hb hby at_138) k) ?_
        refine Go.to (g' := (mkF m 143 #[.val (.int p0), .val (.int p1), .val (.int p2), .val (.int p3), .val (.int p4), .val (.int p5), .val (.ref b1), .val (.int ln), .val (.int pb0), .val (.int pb1), .unset, .unset] [(.int (1 : Int32))])) (fun t k => XS.goto X20.here hx rfl (pc0 := 139) (pc' := 143) rfl (hb hby at_139) (by decide) (by decide) k) ?_
        exact J2 _ (Or.inr ⟨by decide, c30, c32⟩)
      · refine Go.to (g' := (mkF m 142 #[.val (.int p0), .val (.int p1), .val (.int p2), .val (.int p3), .val (.int p4), .val (.int p5), .val (.ref b1), .val (.int ln), .val (.int pb0), .val (.int pb1), .unset, .unset] [])) (fun t k => XS.icmpYes X20.here hx rfl (pc0 := 135) (pc' := 142) rfl (hb hby at_135) rfl (feq c32).2 (by decide) (by decide) k) ?_
        refine Go.to (g' := (mkF m 143 #[.val (.int p0), .val (.int p1), .val (.int p2), .val (.int p3), .val (.int p4), .val (.int p5), .val (.ref b1), .val (.int ln), .val (.int pb0), .val (.int pb1), .unset, .unset] [(.int (0 : Int32))])) (fun t k => XS.iconst X20.here hx rfl (hb hby at_142) k) ?_
        exact J2 _ (Or.inl ⟨rfl, fun q => c32 q.2⟩)
    · refine Go.to (g' := (mkF m 142 #[.val (.int p0), .val (.int p1), .val (.int p2), .val (.int p3), .val (.int p4), .val (.int p5), .val (.ref b1), .val (.int ln), .val (.int pb0), .val (.int pb1), .unset, .unset] [])) (fun t k => XS.icmpYes X20.here hx rfl (pc0 := 126) (pc' := 142) rfl (hb hby at_126) rfl (feq c30).2 (by decide) (by decide) k) ?_
      refine Go.to (g' := (mkF m 143 #[.val (.int p0), .val (.int p1), .val (.int p2), .val (.int p3), .val (.int p4), .val (.int p5), .val (.ref b1), .val (.int ln), .val (.int pb0), .val (.int pb1), .unset, .unset] [(.int (0 : Int32))])) (fun t k => XS.iconst X20.here hx rfl (hb hby at_142) k) ?_
      exact J2 _ (Or.inl ⟨rfl, fun q => c30 q.1⟩)
  intro pb2 hb2
  refine Go.to (g' := (mkF m 145 #[.val (.int p0), .val (.int p1), .val (.int p2), .val (.int p3), .val (.int p4), .val (.int p5), .val (.ref b1), .val (.int ln), .val (.int pb0), .val (.int pb1), .val (.int pb2), .unset] [])) (fun t k => XS.istore X20.here hx rfl (hb hby at_143) rfl (l' := #[.val (.int p0), .val (.int p1), .val (.int p2), .val (.int p3), .val (.int p4), .val (.int p5), .val (.ref b1), .val (.int ln), .val (.int pb0), .val (.int pb1), .val (.int pb2), .unset]) rfl k) ?_
  refine Go.to (g' := (mkF m 146 #[.val (.int p0), .val (.int p1), .val (.int p2), .val (.int p3), .val (.int p4), .val (.int p5), .val (.ref b1), .val (.int ln), .val (.int pb0), .val (.int pb1), .val (.int pb2), .unset] [(.int (0 : Int32))])) (fun t k => XS.iconst X20.here hx rfl (hb hby at_145) k) ?_
  refine Go.to (g' := (mkF m 148 #[.val (.int p0), .val (.int p1), .val (.int p2), .val (.int p3), .val (.int p4), .val (.int p5), .val (.ref b1), .val (.int ln), .val (.int pb0), .val (.int pb1), .val (.int pb2), .val (.int (0 : Int32))] [])) (fun t k => XS.istore X20.here hx rfl (hb hby at_146) rfl (l' := #[.val (.int p0), .val (.int p1), .val (.int p2), .val (.int p3), .val (.int p4), .val (.int p5), .val (.ref b1), .val (.int ln), .val (.int pb0), .val (.int pb1), .val (.int pb2), .val (.int (0 : Int32))]) rfl k) ?_
  refine Go.to (g' := (mkF m 150 #[.val (.int p0), .val (.int p1), .val (.int p2), .val (.int p3), .val (.int p4), .val (.int p5), .val (.ref b1), .val (.int ln), .val (.int pb0), .val (.int pb1), .val (.int pb2), .val (.int (0 : Int32))] [(.int ln)])) (fun t k => XS.iload X20.here hx rfl (hb hby at_148) rfl k) ?_
  refine Go.to (g' := (mkF m 151 #[.val (.int p0), .val (.int p1), .val (.int p2), .val (.int p3), .val (.int p4), .val (.int p5), .val (.ref b1), .val (.int ln), .val (.int pb0), .val (.int pb1), .val (.int pb2), .val (.int (0 : Int32))] [(.int (2 : Int32)), (.int ln)])) (fun t k => XS.iconst X20.here hx rfl (hb hby at_150) k) ?_
  by_cases c33 : ln < (2 : Int32)
  · refine Go.to (g' := (mkF m 192 #[.val (.int p0), .val (.int p1), .val (.int p2), .val (.int p3), .val (.int p4), .val (.int p5), .val (.ref b1), .val (.int ln), .val (.int pb0), .val (.int pb1), .val (.int pb2), .val (.int (0 : Int32))] [])) (fun t k => XS.icmpYes X20.here hx rfl (pc0 := 151) (pc' := 192) rfl (hb hby at_151) rfl (tlt c33).1 (by decide) (by decide) k) ?_
    refine Go.to (g' := (mkF m 194 #[.val (.int p0), .val (.int p1), .val (.int p2), .val (.int p3), .val (.int p4), .val (.int p5), .val (.ref b1), .val (.int ln), .val (.int pb0), .val (.int pb1), .val (.int pb2), .val (.int (0 : Int32))] [(.ref b1)])) (fun t k => XS.aload X20.here hx rfl (hb hby at_192) rfl rfl k) ?_
    refine Go.to (g' := (mkF m 196 #[.val (.int p0), .val (.int p1), .val (.int p2), .val (.int p3), .val (.int p4), .val (.int p5), .val (.ref b1), .val (.int ln), .val (.int pb0), .val (.int pb1), .val (.int pb2), .val (.int (0 : Int32))] [(.int ln), (.ref b1)])) (fun t k => XS.iload X20.here hx rfl (hb hby at_194) rfl k) ?_
    obtain ⟨v34, _, ⟨T34, L34, k34, n34⟩, -, X34, ⟨Lc34, hQ34, l34, y34, z34⟩, st34⟩ := Jvm.LawKit.callS X20 hx (y := (⟨"com/example/headstart/headstart/server/Request", "emptyLines", "([BI)I"⟩ : MethodName)) hown (mvT hZ (hw _ (List.mem_of_getElem? (i := 5) rfl))) (mvT hZ (hw _ (List.mem_of_getElem? (i := 6) rfl))) (mvT hZ (hw _ (List.mem_of_getElem? (i := 7) rfl))) (mvT hZ (hw _ (List.mem_of_getElem? (i := 8) rfl))) (by decide) (backOf (W := 0) (rm2 l Z aw hw [] b1 ln f h20 n0 Z20 B hln) hZ (hw _ (List.mem_of_getElem? (i := 8) rfl)) (hw _ (List.mem_of_getElem? (i := 7) rfl)) (by decide) (by decide)) (g := (mkF m 196 #[.val (.int p0), .val (.int p1), .val (.int p2), .val (.int p3), .val (.int p4), .val (.int p5), .val (.ref b1), .val (.int ln), .val (.int pb0), .val (.int pb1), .val (.int pb2), .val (.int (0 : Int32))] [(.int ln), (.ref b1)])) rfl (by rw [hml]; rfl) (argsL := [(.ref b1), (.int ln)]) (rest := []) (lenOf pd_285bBI29I rfl) rfl (by show 2 * 0 + _ ≤ _; exact Nat.le_of_eq rfl) (hb hby at_196) (fun _ _ => ⟨rfl, e20, (by decide : 1 + 0 ≤ _), (by decide : 6 + 0 ≤ _)⟩)
    dsimp only [Pt.U, Pt.locs, Pt.cells, Pt.slots] at X34 l34 y34 z34 st34 hQ34
    subst l34 y34 z34
    obtain ⟨h34, e34⟩ : ∃ z, T34.heap = z := ⟨_, rfl⟩
    rw [e34] at hQ34
    obtain ⟨r34, rfl, N34q, eh34, hf34⟩ := hQ34
    rw [eh34] at e34
    have N34 := Fr.app N20 N34q
    refine Go.to (g' := (mkF m 199 #[.val (.int p0), .val (.int p1), .val (.int p2), .val (.int p3), .val (.int p4), .val (.int p5), .val (.ref b1), .val (.int ln), .val (.int pb0), .val (.int pb1), .val (.int pb2), .val (.int (0 : Int32))] [(.int r34)])) st34 ?_
    refine Go.to (g' := (mkF m 201 #[.val (.int p0), .val (.int p1), .val (.int p2), .val (.int p3), .val (.int p4), .val (.int p5), .val (.ref b1), .val (.int ln), .val (.int pb0), .val (.int pb1), .val (.int pb2), .val (.int (0 : Int32))] [(.int (0 : Int32)), (.int r34)])) (fun t k => XS.iload X34.here hx rfl (hb hby at_199) rfl k) ?_
    refine Go.to (g' := (mkF m 204 #[.val (.int p0), .val (.int p1), .val (.int p2), .val (.int p3), .val (.int p4), .val (.int p5), .val (.ref b1), .val (.int ln), .val (.int pb0), .val (.int pb1), .val (.int pb2), .val (.int (0 : Int32))] [])) (fun t k => XS.icmpNo X34.here hx rfl (hb hby at_201) rfl (teq (own_uni hf34 (Or.inl ⟨(fun q => own_q rfl c33 q.1), rfl⟩))).2 k) ?_
    refine Go.to (g' := (mkF m 205 #[.val (.int p0), .val (.int p1), .val (.int p2), .val (.int p3), .val (.int p4), .val (.int p5), .val (.ref b1), .val (.int ln), .val (.int pb0), .val (.int pb1), .val (.int pb2), .val (.int (0 : Int32))] [(.int (1 : Int32))])) (fun t k => XS.iconst X34.here hx rfl (hb hby at_204) k) ?_
    refine Go.to (g' := (mkF m 209 #[.val (.int p0), .val (.int p1), .val (.int p2), .val (.int p3), .val (.int p4), .val (.int p5), .val (.ref b1), .val (.int ln), .val (.int pb0), .val (.int pb1), .val (.int pb2), .val (.int (0 : Int32))] [(.int (1 : Int32))])) (fun t k => XS.goto X34.here hx rfl (pc0 := 205) (pc' := 209) rfl (hb hby at_205) (by decide) (by decide) k) ?_
    exact Go.retN X34 hx (t := .boolean) Bd.returns Bd.notSynchronized (by simp) (hb hby at_209) (by decide) (by decide) e34 ⟨rfl, N34⟩
  · refine Go.to (g' := (mkF m 154 #[.val (.int p0), .val (.int p1), .val (.int p2), .val (.int p3), .val (.int p4), .val (.int p5), .val (.ref b1), .val (.int ln), .val (.int pb0), .val (.int pb1), .val (.int pb2), .val (.int (0 : Int32))] [])) (fun t k => XS.icmpNo X20.here hx rfl (hb hby at_151) rfl (flt c33).1 k) ?_
    refine Go.to (g' := (mkF m 156 #[.val (.int p0), .val (.int p1), .val (.int p2), .val (.int p3), .val (.int p4), .val (.int p5), .val (.ref b1), .val (.int ln), .val (.int pb0), .val (.int pb1), .val (.int pb2), .val (.int (0 : Int32))] [(.int pb0)])) (fun t k => XS.iload X20.here hx rfl (hb hby at_154) rfl k) ?_
    by_cases c35 : pb0 = (0 : Int32)
    · refine Go.to (g' := (mkF m 192 #[.val (.int p0), .val (.int p1), .val (.int p2), .val (.int p3), .val (.int p4), .val (.int p5), .val (.ref b1), .val (.int ln), .val (.int pb0), .val (.int pb1), .val (.int pb2), .val (.int (0 : Int32))] [])) (fun t k => XS.ifYes X20.here hx rfl (pc0 := 156) (pc' := 192) rfl (hb hby at_156) rfl ((if0 _ _).trans (teq c35).1) (by decide) (by decide) k) ?_
      refine Go.to (g' := (mkF m 194 #[.val (.int p0), .val (.int p1), .val (.int p2), .val (.int p3), .val (.int p4), .val (.int p5), .val (.ref b1), .val (.int ln), .val (.int pb0), .val (.int pb1), .val (.int pb2), .val (.int (0 : Int32))] [(.ref b1)])) (fun t k => XS.aload X20.here hx rfl (hb hby at_192) rfl rfl k) ?_
      refine Go.to (g' := (mkF m 196 #[.val (.int p0), .val (.int p1), .val (.int p2), .val (.int p3), .val (.int p4), .val (.int p5), .val (.ref b1), .val (.int ln), .val (.int pb0), .val (.int pb1), .val (.int pb2), .val (.int (0 : Int32))] [(.int ln), (.ref b1)])) (fun t k => XS.iload X20.here hx rfl (hb hby at_194) rfl k) ?_
      obtain ⟨v36, _, ⟨T36, L36, k36, n36⟩, -, X36, ⟨Lc36, hQ36, l36, y36, z36⟩, st36⟩ := Jvm.LawKit.callS X20 hx (y := (⟨"com/example/headstart/headstart/server/Request", "emptyLines", "([BI)I"⟩ : MethodName)) hown (mvT hZ (hw _ (List.mem_of_getElem? (i := 5) rfl))) (mvT hZ (hw _ (List.mem_of_getElem? (i := 6) rfl))) (mvT hZ (hw _ (List.mem_of_getElem? (i := 7) rfl))) (mvT hZ (hw _ (List.mem_of_getElem? (i := 8) rfl))) (by decide) (backOf (W := 0) (rm2 l Z aw hw [] b1 ln f h20 n0 Z20 B hln) hZ (hw _ (List.mem_of_getElem? (i := 8) rfl)) (hw _ (List.mem_of_getElem? (i := 7) rfl)) (by decide) (by decide)) (g := (mkF m 196 #[.val (.int p0), .val (.int p1), .val (.int p2), .val (.int p3), .val (.int p4), .val (.int p5), .val (.ref b1), .val (.int ln), .val (.int pb0), .val (.int pb1), .val (.int pb2), .val (.int (0 : Int32))] [(.int ln), (.ref b1)])) rfl (by rw [hml]; rfl) (argsL := [(.ref b1), (.int ln)]) (rest := []) (lenOf pd_285bBI29I rfl) rfl (by show 2 * 0 + _ ≤ _; exact Nat.le_of_eq rfl) (hb hby at_196) (fun _ _ => ⟨rfl, e20, (by decide : 1 + 0 ≤ _), (by decide : 6 + 0 ≤ _)⟩)
      dsimp only [Pt.U, Pt.locs, Pt.cells, Pt.slots] at X36 l36 y36 z36 st36 hQ36
      subst l36 y36 z36
      obtain ⟨h36, e36⟩ : ∃ z, T36.heap = z := ⟨_, rfl⟩
      rw [e36] at hQ36
      obtain ⟨r36, rfl, N36q, eh36, hf36⟩ := hQ36
      rw [eh36] at e36
      have N36 := Fr.app N20 N36q
      refine Go.to (g' := (mkF m 199 #[.val (.int p0), .val (.int p1), .val (.int p2), .val (.int p3), .val (.int p4), .val (.int p5), .val (.ref b1), .val (.int ln), .val (.int pb0), .val (.int pb1), .val (.int pb2), .val (.int (0 : Int32))] [(.int r36)])) st36 ?_
      refine Go.to (g' := (mkF m 201 #[.val (.int p0), .val (.int p1), .val (.int p2), .val (.int p3), .val (.int p4), .val (.int p5), .val (.ref b1), .val (.int ln), .val (.int pb0), .val (.int pb1), .val (.int pb2), .val (.int (0 : Int32))] [(.int (0 : Int32)), (.int r36)])) (fun t k => XS.iload X36.here hx rfl (hb hby at_199) rfl k) ?_
      refine Go.to (g' := (mkF m 204 #[.val (.int p0), .val (.int p1), .val (.int p2), .val (.int p3), .val (.int p4), .val (.int p5), .val (.ref b1), .val (.int ln), .val (.int pb0), .val (.int pb1), .val (.int pb2), .val (.int (0 : Int32))] [])) (fun t k => XS.icmpNo X36.here hx rfl (hb hby at_201) rfl (teq (own_uni hf36 (Or.inl ⟨(fun q => own_c0 hb0 c35 q.2), rfl⟩))).2 k) ?_
      refine Go.to (g' := (mkF m 205 #[.val (.int p0), .val (.int p1), .val (.int p2), .val (.int p3), .val (.int p4), .val (.int p5), .val (.ref b1), .val (.int ln), .val (.int pb0), .val (.int pb1), .val (.int pb2), .val (.int (0 : Int32))] [(.int (1 : Int32))])) (fun t k => XS.iconst X36.here hx rfl (hb hby at_204) k) ?_
      refine Go.to (g' := (mkF m 209 #[.val (.int p0), .val (.int p1), .val (.int p2), .val (.int p3), .val (.int p4), .val (.int p5), .val (.ref b1), .val (.int ln), .val (.int pb0), .val (.int pb1), .val (.int pb2), .val (.int (0 : Int32))] [(.int (1 : Int32))])) (fun t k => XS.goto X36.here hx rfl (pc0 := 205) (pc' := 209) rfl (hb hby at_205) (by decide) (by decide) k) ?_
      exact Go.retN X36 hx (t := .boolean) Bd.returns Bd.notSynchronized (by simp) (hb hby at_209) (by decide) (by decide) e36 ⟨rfl, N36⟩
    · refine Go.to (g' := (mkF m 159 #[.val (.int p0), .val (.int p1), .val (.int p2), .val (.int p3), .val (.int p4), .val (.int p5), .val (.ref b1), .val (.int ln), .val (.int pb0), .val (.int pb1), .val (.int pb2), .val (.int (0 : Int32))] [])) (fun t k => XS.ifNo X20.here hx rfl (hb hby at_156) rfl ((if0 _ _).trans (feq c35).1) k) ?_
      refine Go.to (g' := (mkF m 160 #[.val (.int p0), .val (.int p1), .val (.int p2), .val (.int p3), .val (.int p4), .val (.int p5), .val (.ref b1), .val (.int ln), .val (.int pb0), .val (.int pb1), .val (.int pb2), .val (.int (0 : Int32))] [(.int (2 : Int32))])) (fun t k => XS.iconst X20.here hx rfl (hb hby at_159) k) ?_
      refine Go.to (g' := (mkF m 162 #[.val (.int p0), .val (.int p1), .val (.int p2), .val (.int p3), .val (.int p4), .val (.int p5), .val (.ref b1), .val (.int ln), .val (.int pb0), .val (.int pb1), .val (.int pb2), .val (.int (2 : Int32))] [])) (fun t k => XS.istore X20.here hx rfl (hb hby at_160) rfl (l' := #[.val (.int p0), .val (.int p1), .val (.int p2), .val (.int p3), .val (.int p4), .val (.int p5), .val (.ref b1), .val (.int ln), .val (.int pb0), .val (.int pb1), .val (.int pb2), .val (.int (2 : Int32))]) rfl k) ?_
      refine Go.to (g' := (mkF m 164 #[.val (.int p0), .val (.int p1), .val (.int p2), .val (.int p3), .val (.int p4), .val (.int p5), .val (.ref b1), .val (.int ln), .val (.int pb0), .val (.int pb1), .val (.int pb2), .val (.int (2 : Int32))] [(.int ln)])) (fun t k => XS.iload X20.here hx rfl (hb hby at_162) rfl k) ?_
      refine Go.to (g' := (mkF m 165 #[.val (.int p0), .val (.int p1), .val (.int p2), .val (.int p3), .val (.int p4), .val (.int p5), .val (.ref b1), .val (.int ln), .val (.int pb0), .val (.int pb1), .val (.int pb2), .val (.int (2 : Int32))] [(.int (4 : Int32)), (.int ln)])) (fun t k => XS.iconst X20.here hx rfl (hb hby at_164) k) ?_
      by_cases c37 : ln < (4 : Int32)
      · refine Go.to (g' := (mkF m 192 #[.val (.int p0), .val (.int p1), .val (.int p2), .val (.int p3), .val (.int p4), .val (.int p5), .val (.ref b1), .val (.int ln), .val (.int pb0), .val (.int pb1), .val (.int pb2), .val (.int (2 : Int32))] [])) (fun t k => XS.icmpYes X20.here hx rfl (pc0 := 165) (pc' := 192) rfl (hb hby at_165) rfl (tlt c37).1 (by decide) (by decide) k) ?_
        refine Go.to (g' := (mkF m 194 #[.val (.int p0), .val (.int p1), .val (.int p2), .val (.int p3), .val (.int p4), .val (.int p5), .val (.ref b1), .val (.int ln), .val (.int pb0), .val (.int pb1), .val (.int pb2), .val (.int (2 : Int32))] [(.ref b1)])) (fun t k => XS.aload X20.here hx rfl (hb hby at_192) rfl rfl k) ?_
        refine Go.to (g' := (mkF m 196 #[.val (.int p0), .val (.int p1), .val (.int p2), .val (.int p3), .val (.int p4), .val (.int p5), .val (.ref b1), .val (.int ln), .val (.int pb0), .val (.int pb1), .val (.int pb2), .val (.int (2 : Int32))] [(.int ln), (.ref b1)])) (fun t k => XS.iload X20.here hx rfl (hb hby at_194) rfl k) ?_
        obtain ⟨v38, _, ⟨T38, L38, k38, n38⟩, -, X38, ⟨Lc38, hQ38, l38, y38, z38⟩, st38⟩ := Jvm.LawKit.callS X20 hx (y := (⟨"com/example/headstart/headstart/server/Request", "emptyLines", "([BI)I"⟩ : MethodName)) hown (mvT hZ (hw _ (List.mem_of_getElem? (i := 5) rfl))) (mvT hZ (hw _ (List.mem_of_getElem? (i := 6) rfl))) (mvT hZ (hw _ (List.mem_of_getElem? (i := 7) rfl))) (mvT hZ (hw _ (List.mem_of_getElem? (i := 8) rfl))) (by decide) (backOf (W := 0) (rm2 l Z aw hw [] b1 ln f h20 n0 Z20 B hln) hZ (hw _ (List.mem_of_getElem? (i := 8) rfl)) (hw _ (List.mem_of_getElem? (i := 7) rfl)) (by decide) (by decide)) (g := (mkF m 196 #[.val (.int p0), .val (.int p1), .val (.int p2), .val (.int p3), .val (.int p4), .val (.int p5), .val (.ref b1), .val (.int ln), .val (.int pb0), .val (.int pb1), .val (.int pb2), .val (.int (2 : Int32))] [(.int ln), (.ref b1)])) rfl (by rw [hml]; rfl) (argsL := [(.ref b1), (.int ln)]) (rest := []) (lenOf pd_285bBI29I rfl) rfl (by show 2 * 0 + _ ≤ _; exact Nat.le_of_eq rfl) (hb hby at_196) (fun _ _ => ⟨rfl, e20, (by decide : 1 + 0 ≤ _), (by decide : 6 + 0 ≤ _)⟩)
        dsimp only [Pt.U, Pt.locs, Pt.cells, Pt.slots] at X38 l38 y38 z38 st38 hQ38
        subst l38 y38 z38
        obtain ⟨h38, e38⟩ : ∃ z, T38.heap = z := ⟨_, rfl⟩
        rw [e38] at hQ38
        obtain ⟨r38, rfl, N38q, eh38, hf38⟩ := hQ38
        rw [eh38] at e38
        have N38 := Fr.app N20 N38q
        refine Go.to (g' := (mkF m 199 #[.val (.int p0), .val (.int p1), .val (.int p2), .val (.int p3), .val (.int p4), .val (.int p5), .val (.ref b1), .val (.int ln), .val (.int pb0), .val (.int pb1), .val (.int pb2), .val (.int (2 : Int32))] [(.int r38)])) st38 ?_
        refine Go.to (g' := (mkF m 201 #[.val (.int p0), .val (.int p1), .val (.int p2), .val (.int p3), .val (.int p4), .val (.int p5), .val (.ref b1), .val (.int ln), .val (.int pb0), .val (.int pb1), .val (.int pb2), .val (.int (2 : Int32))] [(.int (2 : Int32)), (.int r38)])) (fun t k => XS.iload X38.here hx rfl (hb hby at_199) rfl k) ?_
        refine Go.to (g' := (mkF m 204 #[.val (.int p0), .val (.int p1), .val (.int p2), .val (.int p3), .val (.int p4), .val (.int p5), .val (.ref b1), .val (.int ln), .val (.int pb0), .val (.int pb1), .val (.int pb2), .val (.int (2 : Int32))] [])) (fun t k => XS.icmpNo X38.here hx rfl (hb hby at_201) rfl (teq (own_uni hf38 (Or.inr (Or.inl ⟨⟨own_p rfl c33, own_c1 hb0 c35⟩, (fun q => own_q rfl c37 q.1), rfl⟩)))).2 k) ?_
        refine Go.to (g' := (mkF m 205 #[.val (.int p0), .val (.int p1), .val (.int p2), .val (.int p3), .val (.int p4), .val (.int p5), .val (.ref b1), .val (.int ln), .val (.int pb0), .val (.int pb1), .val (.int pb2), .val (.int (2 : Int32))] [(.int (1 : Int32))])) (fun t k => XS.iconst X38.here hx rfl (hb hby at_204) k) ?_
        refine Go.to (g' := (mkF m 209 #[.val (.int p0), .val (.int p1), .val (.int p2), .val (.int p3), .val (.int p4), .val (.int p5), .val (.ref b1), .val (.int ln), .val (.int pb0), .val (.int pb1), .val (.int pb2), .val (.int (2 : Int32))] [(.int (1 : Int32))])) (fun t k => XS.goto X38.here hx rfl (pc0 := 205) (pc' := 209) rfl (hb hby at_205) (by decide) (by decide) k) ?_
        exact Go.retN X38 hx (t := .boolean) Bd.returns Bd.notSynchronized (by simp) (hb hby at_209) (by decide) (by decide) e38 ⟨rfl, N38⟩
      · refine Go.to (g' := (mkF m 168 #[.val (.int p0), .val (.int p1), .val (.int p2), .val (.int p3), .val (.int p4), .val (.int p5), .val (.ref b1), .val (.int ln), .val (.int pb0), .val (.int pb1), .val (.int pb2), .val (.int (2 : Int32))] [])) (fun t k => XS.icmpNo X20.here hx rfl (hb hby at_165) rfl (flt c37).1 k) ?_
        refine Go.to (g' := (mkF m 170 #[.val (.int p0), .val (.int p1), .val (.int p2), .val (.int p3), .val (.int p4), .val (.int p5), .val (.ref b1), .val (.int ln), .val (.int pb0), .val (.int pb1), .val (.int pb2), .val (.int (2 : Int32))] [(.int pb1)])) (fun t k => XS.iload X20.here hx rfl (hb hby at_168) rfl k) ?_
        by_cases c39 : pb1 = (0 : Int32)
        · refine Go.to (g' := (mkF m 192 #[.val (.int p0), .val (.int p1), .val (.int p2), .val (.int p3), .val (.int p4), .val (.int p5), .val (.ref b1), .val (.int ln), .val (.int pb0), .val (.int pb1), .val (.int pb2), .val (.int (2 : Int32))] [])) (fun t k => XS.ifYes X20.here hx rfl (pc0 := 170) (pc' := 192) rfl (hb hby at_170) rfl ((if0 _ _).trans (teq c39).1) (by decide) (by decide) k) ?_
          refine Go.to (g' := (mkF m 194 #[.val (.int p0), .val (.int p1), .val (.int p2), .val (.int p3), .val (.int p4), .val (.int p5), .val (.ref b1), .val (.int ln), .val (.int pb0), .val (.int pb1), .val (.int pb2), .val (.int (2 : Int32))] [(.ref b1)])) (fun t k => XS.aload X20.here hx rfl (hb hby at_192) rfl rfl k) ?_
          refine Go.to (g' := (mkF m 196 #[.val (.int p0), .val (.int p1), .val (.int p2), .val (.int p3), .val (.int p4), .val (.int p5), .val (.ref b1), .val (.int ln), .val (.int pb0), .val (.int pb1), .val (.int pb2), .val (.int (2 : Int32))] [(.int ln), (.ref b1)])) (fun t k => XS.iload X20.here hx rfl (hb hby at_194) rfl k) ?_
          obtain ⟨v40, _, ⟨T40, L40, k40, n40⟩, -, X40, ⟨Lc40, hQ40, l40, y40, z40⟩, st40⟩ := Jvm.LawKit.callS X20 hx (y := (⟨"com/example/headstart/headstart/server/Request", "emptyLines", "([BI)I"⟩ : MethodName)) hown (mvT hZ (hw _ (List.mem_of_getElem? (i := 5) rfl))) (mvT hZ (hw _ (List.mem_of_getElem? (i := 6) rfl))) (mvT hZ (hw _ (List.mem_of_getElem? (i := 7) rfl))) (mvT hZ (hw _ (List.mem_of_getElem? (i := 8) rfl))) (by decide) (backOf (W := 0) (rm2 l Z aw hw [] b1 ln f h20 n0 Z20 B hln) hZ (hw _ (List.mem_of_getElem? (i := 8) rfl)) (hw _ (List.mem_of_getElem? (i := 7) rfl)) (by decide) (by decide)) (g := (mkF m 196 #[.val (.int p0), .val (.int p1), .val (.int p2), .val (.int p3), .val (.int p4), .val (.int p5), .val (.ref b1), .val (.int ln), .val (.int pb0), .val (.int pb1), .val (.int pb2), .val (.int (2 : Int32))] [(.int ln), (.ref b1)])) rfl (by rw [hml]; rfl) (argsL := [(.ref b1), (.int ln)]) (rest := []) (lenOf pd_285bBI29I rfl) rfl (by show 2 * 0 + _ ≤ _; exact Nat.le_of_eq rfl) (hb hby at_196) (fun _ _ => ⟨rfl, e20, (by decide : 1 + 0 ≤ _), (by decide : 6 + 0 ≤ _)⟩)
          dsimp only [Pt.U, Pt.locs, Pt.cells, Pt.slots] at X40 l40 y40 z40 st40 hQ40
          subst l40 y40 z40
          obtain ⟨h40, e40⟩ : ∃ z, T40.heap = z := ⟨_, rfl⟩
          rw [e40] at hQ40
          obtain ⟨r40, rfl, N40q, eh40, hf40⟩ := hQ40
          rw [eh40] at e40
          have N40 := Fr.app N20 N40q
          refine Go.to (g' := (mkF m 199 #[.val (.int p0), .val (.int p1), .val (.int p2), .val (.int p3), .val (.int p4), .val (.int p5), .val (.ref b1), .val (.int ln), .val (.int pb0), .val (.int pb1), .val (.int pb2), .val (.int (2 : Int32))] [(.int r40)])) st40 ?_
          refine Go.to (g' := (mkF m 201 #[.val (.int p0), .val (.int p1), .val (.int p2), .val (.int p3), .val (.int p4), .val (.int p5), .val (.ref b1), .val (.int ln), .val (.int pb0), .val (.int pb1), .val (.int pb2), .val (.int (2 : Int32))] [(.int (2 : Int32)), (.int r40)])) (fun t k => XS.iload X40.here hx rfl (hb hby at_199) rfl k) ?_
          refine Go.to (g' := (mkF m 204 #[.val (.int p0), .val (.int p1), .val (.int p2), .val (.int p3), .val (.int p4), .val (.int p5), .val (.ref b1), .val (.int ln), .val (.int pb0), .val (.int pb1), .val (.int pb2), .val (.int (2 : Int32))] [])) (fun t k => XS.icmpNo X40.here hx rfl (hb hby at_201) rfl (teq (own_uni hf40 (Or.inr (Or.inl ⟨⟨own_p rfl c33, own_c1 hb0 c35⟩, (fun q => own_c0 hb1 c39 q.2), rfl⟩)))).2 k) ?_
          refine Go.to (g' := (mkF m 205 #[.val (.int p0), .val (.int p1), .val (.int p2), .val (.int p3), .val (.int p4), .val (.int p5), .val (.ref b1), .val (.int ln), .val (.int pb0), .val (.int pb1), .val (.int pb2), .val (.int (2 : Int32))] [(.int (1 : Int32))])) (fun t k => XS.iconst X40.here hx rfl (hb hby at_204) k) ?_
          refine Go.to (g' := (mkF m 209 #[.val (.int p0), .val (.int p1), .val (.int p2), .val (.int p3), .val (.int p4), .val (.int p5), .val (.ref b1), .val (.int ln), .val (.int pb0), .val (.int pb1), .val (.int pb2), .val (.int (2 : Int32))] [(.int (1 : Int32))])) (fun t k => XS.goto X40.here hx rfl (pc0 := 205) (pc' := 209) rfl (hb hby at_205) (by decide) (by decide) k) ?_
          exact Go.retN X40 hx (t := .boolean) Bd.returns Bd.notSynchronized (by simp) (hb hby at_209) (by decide) (by decide) e40 ⟨rfl, N40⟩
        · refine Go.to (g' := (mkF m 173 #[.val (.int p0), .val (.int p1), .val (.int p2), .val (.int p3), .val (.int p4), .val (.int p5), .val (.ref b1), .val (.int ln), .val (.int pb0), .val (.int pb1), .val (.int pb2), .val (.int (2 : Int32))] [])) (fun t k => XS.ifNo X20.here hx rfl (hb hby at_170) rfl ((if0 _ _).trans (feq c39).1) k) ?_
          refine Go.to (g' := (mkF m 174 #[.val (.int p0), .val (.int p1), .val (.int p2), .val (.int p3), .val (.int p4), .val (.int p5), .val (.ref b1), .val (.int ln), .val (.int pb0), .val (.int pb1), .val (.int pb2), .val (.int (2 : Int32))] [(.int (4 : Int32))])) (fun t k => XS.iconst X20.here hx rfl (hb hby at_173) k) ?_
          refine Go.to (g' := (mkF m 176 #[.val (.int p0), .val (.int p1), .val (.int p2), .val (.int p3), .val (.int p4), .val (.int p5), .val (.ref b1), .val (.int ln), .val (.int pb0), .val (.int pb1), .val (.int pb2), .val (.int (4 : Int32))] [])) (fun t k => XS.istore X20.here hx rfl (hb hby at_174) rfl (l' := #[.val (.int p0), .val (.int p1), .val (.int p2), .val (.int p3), .val (.int p4), .val (.int p5), .val (.ref b1), .val (.int ln), .val (.int pb0), .val (.int pb1), .val (.int pb2), .val (.int (4 : Int32))]) rfl k) ?_
          refine Go.to (g' := (mkF m 178 #[.val (.int p0), .val (.int p1), .val (.int p2), .val (.int p3), .val (.int p4), .val (.int p5), .val (.ref b1), .val (.int ln), .val (.int pb0), .val (.int pb1), .val (.int pb2), .val (.int (4 : Int32))] [(.int ln)])) (fun t k => XS.iload X20.here hx rfl (hb hby at_176) rfl k) ?_
          refine Go.to (g' := (mkF m 180 #[.val (.int p0), .val (.int p1), .val (.int p2), .val (.int p3), .val (.int p4), .val (.int p5), .val (.ref b1), .val (.int ln), .val (.int pb0), .val (.int pb1), .val (.int pb2), .val (.int (4 : Int32))] [(.int (6 : Int32)), (.int ln)])) (fun t k => XS.bipush X20.here hx rfl (hb hby at_178) k) ?_
          by_cases c41 : ln < (6 : Int32)
          · refine Go.to (g' := (mkF m 192 #[.val (.int p0), .val (.int p1), .val (.int p2), .val (.int p3), .val (.int p4), .val (.int p5), .val (.ref b1), .val (.int ln), .val (.int pb0), .val (.int pb1), .val (.int pb2), .val (.int (4 : Int32))] [])) (fun t k => XS.icmpYes X20.here hx rfl (pc0 := 180) (pc' := 192) rfl (hb hby at_180) rfl (tlt c41).1 (by decide) (by decide) k) ?_
            refine Go.to (g' := (mkF m 194 #[.val (.int p0), .val (.int p1), .val (.int p2), .val (.int p3), .val (.int p4), .val (.int p5), .val (.ref b1), .val (.int ln), .val (.int pb0), .val (.int pb1), .val (.int pb2), .val (.int (4 : Int32))] [(.ref b1)])) (fun t k => XS.aload X20.here hx rfl (hb hby at_192) rfl rfl k) ?_
            refine Go.to (g' := (mkF m 196 #[.val (.int p0), .val (.int p1), .val (.int p2), .val (.int p3), .val (.int p4), .val (.int p5), .val (.ref b1), .val (.int ln), .val (.int pb0), .val (.int pb1), .val (.int pb2), .val (.int (4 : Int32))] [(.int ln), (.ref b1)])) (fun t k => XS.iload X20.here hx rfl (hb hby at_194) rfl k) ?_
            obtain ⟨v42, _, ⟨T42, L42, k42, n42⟩, -, X42, ⟨Lc42, hQ42, l42, y42, z42⟩, st42⟩ := Jvm.LawKit.callS X20 hx (y := (⟨"com/example/headstart/headstart/server/Request", "emptyLines", "([BI)I"⟩ : MethodName)) hown (mvT hZ (hw _ (List.mem_of_getElem? (i := 5) rfl))) (mvT hZ (hw _ (List.mem_of_getElem? (i := 6) rfl))) (mvT hZ (hw _ (List.mem_of_getElem? (i := 7) rfl))) (mvT hZ (hw _ (List.mem_of_getElem? (i := 8) rfl))) (by decide) (backOf (W := 0) (rm2 l Z aw hw [] b1 ln f h20 n0 Z20 B hln) hZ (hw _ (List.mem_of_getElem? (i := 8) rfl)) (hw _ (List.mem_of_getElem? (i := 7) rfl)) (by decide) (by decide)) (g := (mkF m 196 #[.val (.int p0), .val (.int p1), .val (.int p2), .val (.int p3), .val (.int p4), .val (.int p5), .val (.ref b1), .val (.int ln), .val (.int pb0), .val (.int pb1), .val (.int pb2), .val (.int (4 : Int32))] [(.int ln), (.ref b1)])) rfl (by rw [hml]; rfl) (argsL := [(.ref b1), (.int ln)]) (rest := []) (lenOf pd_285bBI29I rfl) rfl (by show 2 * 0 + _ ≤ _; exact Nat.le_of_eq rfl) (hb hby at_196) (fun _ _ => ⟨rfl, e20, (by decide : 1 + 0 ≤ _), (by decide : 6 + 0 ≤ _)⟩)
            dsimp only [Pt.U, Pt.locs, Pt.cells, Pt.slots] at X42 l42 y42 z42 st42 hQ42
            subst l42 y42 z42
            obtain ⟨h42, e42⟩ : ∃ z, T42.heap = z := ⟨_, rfl⟩
            rw [e42] at hQ42
            obtain ⟨r42, rfl, N42q, eh42, hf42⟩ := hQ42
            rw [eh42] at e42
            have N42 := Fr.app N20 N42q
            refine Go.to (g' := (mkF m 199 #[.val (.int p0), .val (.int p1), .val (.int p2), .val (.int p3), .val (.int p4), .val (.int p5), .val (.ref b1), .val (.int ln), .val (.int pb0), .val (.int pb1), .val (.int pb2), .val (.int (4 : Int32))] [(.int r42)])) st42 ?_
            refine Go.to (g' := (mkF m 201 #[.val (.int p0), .val (.int p1), .val (.int p2), .val (.int p3), .val (.int p4), .val (.int p5), .val (.ref b1), .val (.int ln), .val (.int pb0), .val (.int pb1), .val (.int pb2), .val (.int (4 : Int32))] [(.int (4 : Int32)), (.int r42)])) (fun t k => XS.iload X42.here hx rfl (hb hby at_199) rfl k) ?_
            refine Go.to (g' := (mkF m 204 #[.val (.int p0), .val (.int p1), .val (.int p2), .val (.int p3), .val (.int p4), .val (.int p5), .val (.ref b1), .val (.int ln), .val (.int pb0), .val (.int pb1), .val (.int pb2), .val (.int (4 : Int32))] [])) (fun t k => XS.icmpNo X42.here hx rfl (hb hby at_201) rfl (teq (own_uni hf42 (Or.inr (Or.inr (Or.inl ⟨⟨own_p rfl c33, own_c1 hb0 c35⟩, ⟨own_p rfl c37, own_c1 hb1 c39⟩, (fun q => own_q rfl c41 q.1), rfl⟩))))).2 k) ?_
            refine Go.to (g' := (mkF m 205 #[.val (.int p0), .val (.int p1), .val (.int p2), .val (.int p3), .val (.int p4), .val (.int p5), .val (.ref b1), .val (.int ln), .val (.int pb0), .val (.int pb1), .val (.int pb2), .val (.int (4 : Int32))] [(.int (1 : Int32))])) (fun t k => XS.iconst X42.here hx rfl (hb hby at_204) k) ?_
            refine Go.to (g' := (mkF m 209 #[.val (.int p0), .val (.int p1), .val (.int p2), .val (.int p3), .val (.int p4), .val (.int p5), .val (.ref b1), .val (.int ln), .val (.int pb0), .val (.int pb1), .val (.int pb2), .val (.int (4 : Int32))] [(.int (1 : Int32))])) (fun t k => XS.goto X42.here hx rfl (pc0 := 205) (pc' := 209) rfl (hb hby at_205) (by decide) (by decide) k) ?_
            exact Go.retN X42 hx (t := .boolean) Bd.returns Bd.notSynchronized (by simp) (hb hby at_209) (by decide) (by decide) e42 ⟨rfl, N42⟩
          · refine Go.to (g' := (mkF m 183 #[.val (.int p0), .val (.int p1), .val (.int p2), .val (.int p3), .val (.int p4), .val (.int p5), .val (.ref b1), .val (.int ln), .val (.int pb0), .val (.int pb1), .val (.int pb2), .val (.int (4 : Int32))] [])) (fun t k => XS.icmpNo X20.here hx rfl (hb hby at_180) rfl (flt c41).1 k) ?_
            refine Go.to (g' := (mkF m 185 #[.val (.int p0), .val (.int p1), .val (.int p2), .val (.int p3), .val (.int p4), .val (.int p5), .val (.ref b1), .val (.int ln), .val (.int pb0), .val (.int pb1), .val (.int pb2), .val (.int (4 : Int32))] [(.int pb2)])) (fun t k => XS.iload X20.here hx rfl (hb hby at_183) rfl k) ?_
            by_cases c43 : pb2 = (0 : Int32)
            · refine Go.to (g' := (mkF m 192 #[.val (.int p0), .val (.int p1), .val (.int p2), .val (.int p3), .val (.int p4), .val (.int p5), .val (.ref b1), .val (.int ln), .val (.int pb0), .val (.int pb1), .val (.int pb2), .val (.int (4 : Int32))] [])) (fun t k => XS.ifYes X20.here hx rfl (pc0 := 185) (pc' := 192) rfl (hb hby at_185) rfl ((if0 _ _).trans (teq c43).1) (by decide) (by decide) k) ?_
              refine Go.to (g' := (mkF m 194 #[.val (.int p0), .val (.int p1), .val (.int p2), .val (.int p3), .val (.int p4), .val (.int p5), .val (.ref b1), .val (.int ln), .val (.int pb0), .val (.int pb1), .val (.int pb2), .val (.int (4 : Int32))] [(.ref b1)])) (fun t k => XS.aload X20.here hx rfl (hb hby at_192) rfl rfl k) ?_
              refine Go.to (g' := (mkF m 196 #[.val (.int p0), .val (.int p1), .val (.int p2), .val (.int p3), .val (.int p4), .val (.int p5), .val (.ref b1), .val (.int ln), .val (.int pb0), .val (.int pb1), .val (.int pb2), .val (.int (4 : Int32))] [(.int ln), (.ref b1)])) (fun t k => XS.iload X20.here hx rfl (hb hby at_194) rfl k) ?_
              obtain ⟨v44, _, ⟨T44, L44, k44, n44⟩, -, X44, ⟨Lc44, hQ44, l44, y44, z44⟩, st44⟩ := Jvm.LawKit.callS X20 hx (y := (⟨"com/example/headstart/headstart/server/Request", "emptyLines", "([BI)I"⟩ : MethodName)) hown (mvT hZ (hw _ (List.mem_of_getElem? (i := 5) rfl))) (mvT hZ (hw _ (List.mem_of_getElem? (i := 6) rfl))) (mvT hZ (hw _ (List.mem_of_getElem? (i := 7) rfl))) (mvT hZ (hw _ (List.mem_of_getElem? (i := 8) rfl))) (by decide) (backOf (W := 0) (rm2 l Z aw hw [] b1 ln f h20 n0 Z20 B hln) hZ (hw _ (List.mem_of_getElem? (i := 8) rfl)) (hw _ (List.mem_of_getElem? (i := 7) rfl)) (by decide) (by decide)) (g := (mkF m 196 #[.val (.int p0), .val (.int p1), .val (.int p2), .val (.int p3), .val (.int p4), .val (.int p5), .val (.ref b1), .val (.int ln), .val (.int pb0), .val (.int pb1), .val (.int pb2), .val (.int (4 : Int32))] [(.int ln), (.ref b1)])) rfl (by rw [hml]; rfl) (argsL := [(.ref b1), (.int ln)]) (rest := []) (lenOf pd_285bBI29I rfl) rfl (by show 2 * 0 + _ ≤ _; exact Nat.le_of_eq rfl) (hb hby at_196) (fun _ _ => ⟨rfl, e20, (by decide : 1 + 0 ≤ _), (by decide : 6 + 0 ≤ _)⟩)
              dsimp only [Pt.U, Pt.locs, Pt.cells, Pt.slots] at X44 l44 y44 z44 st44 hQ44
              subst l44 y44 z44
              obtain ⟨h44, e44⟩ : ∃ z, T44.heap = z := ⟨_, rfl⟩
              rw [e44] at hQ44
              obtain ⟨r44, rfl, N44q, eh44, hf44⟩ := hQ44
              rw [eh44] at e44
              have N44 := Fr.app N20 N44q
              refine Go.to (g' := (mkF m 199 #[.val (.int p0), .val (.int p1), .val (.int p2), .val (.int p3), .val (.int p4), .val (.int p5), .val (.ref b1), .val (.int ln), .val (.int pb0), .val (.int pb1), .val (.int pb2), .val (.int (4 : Int32))] [(.int r44)])) st44 ?_
              refine Go.to (g' := (mkF m 201 #[.val (.int p0), .val (.int p1), .val (.int p2), .val (.int p3), .val (.int p4), .val (.int p5), .val (.ref b1), .val (.int ln), .val (.int pb0), .val (.int pb1), .val (.int pb2), .val (.int (4 : Int32))] [(.int (4 : Int32)), (.int r44)])) (fun t k => XS.iload X44.here hx rfl (hb hby at_199) rfl k) ?_
              refine Go.to (g' := (mkF m 204 #[.val (.int p0), .val (.int p1), .val (.int p2), .val (.int p3), .val (.int p4), .val (.int p5), .val (.ref b1), .val (.int ln), .val (.int pb0), .val (.int pb1), .val (.int pb2), .val (.int (4 : Int32))] [])) (fun t k => XS.icmpNo X44.here hx rfl (hb hby at_201) rfl (teq (own_uni hf44 (Or.inr (Or.inr (Or.inl ⟨⟨own_p rfl c33, own_c1 hb0 c35⟩, ⟨own_p rfl c37, own_c1 hb1 c39⟩, (fun q => own_c0 hb2 c43 q.2), rfl⟩))))).2 k) ?_
              refine Go.to (g' := (mkF m 205 #[.val (.int p0), .val (.int p1), .val (.int p2), .val (.int p3), .val (.int p4), .val (.int p5), .val (.ref b1), .val (.int ln), .val (.int pb0), .val (.int pb1), .val (.int pb2), .val (.int (4 : Int32))] [(.int (1 : Int32))])) (fun t k => XS.iconst X44.here hx rfl (hb hby at_204) k) ?_
              refine Go.to (g' := (mkF m 209 #[.val (.int p0), .val (.int p1), .val (.int p2), .val (.int p3), .val (.int p4), .val (.int p5), .val (.ref b1), .val (.int ln), .val (.int pb0), .val (.int pb1), .val (.int pb2), .val (.int (4 : Int32))] [(.int (1 : Int32))])) (fun t k => XS.goto X44.here hx rfl (pc0 := 205) (pc' := 209) rfl (hb hby at_205) (by decide) (by decide) k) ?_
              exact Go.retN X44 hx (t := .boolean) Bd.returns Bd.notSynchronized (by simp) (hb hby at_209) (by decide) (by decide) e44 ⟨rfl, N44⟩
            · refine Go.to (g' := (mkF m 188 #[.val (.int p0), .val (.int p1), .val (.int p2), .val (.int p3), .val (.int p4), .val (.int p5), .val (.ref b1), .val (.int ln), .val (.int pb0), .val (.int pb1), .val (.int pb2), .val (.int (4 : Int32))] [])) (fun t k => XS.ifNo X20.here hx rfl (hb hby at_185) rfl ((if0 _ _).trans (feq c43).1) k) ?_
              refine Go.to (g' := (mkF m 190 #[.val (.int p0), .val (.int p1), .val (.int p2), .val (.int p3), .val (.int p4), .val (.int p5), .val (.ref b1), .val (.int ln), .val (.int pb0), .val (.int pb1), .val (.int pb2), .val (.int (4 : Int32))] [(.int (6 : Int32))])) (fun t k => XS.bipush X20.here hx rfl (hb hby at_188) k) ?_
              refine Go.to (g' := (mkF m 192 #[.val (.int p0), .val (.int p1), .val (.int p2), .val (.int p3), .val (.int p4), .val (.int p5), .val (.ref b1), .val (.int ln), .val (.int pb0), .val (.int pb1), .val (.int pb2), .val (.int (6 : Int32))] [])) (fun t k => XS.istore X20.here hx rfl (hb hby at_190) rfl (l' := #[.val (.int p0), .val (.int p1), .val (.int p2), .val (.int p3), .val (.int p4), .val (.int p5), .val (.ref b1), .val (.int ln), .val (.int pb0), .val (.int pb1), .val (.int pb2), .val (.int (6 : Int32))]) rfl k) ?_
              refine Go.to (g' := (mkF m 194 #[.val (.int p0), .val (.int p1), .val (.int p2), .val (.int p3), .val (.int p4), .val (.int p5), .val (.ref b1), .val (.int ln), .val (.int pb0), .val (.int pb1), .val (.int pb2), .val (.int (6 : Int32))] [(.ref b1)])) (fun t k => XS.aload X20.here hx rfl (hb hby at_192) rfl rfl k) ?_
              refine Go.to (g' := (mkF m 196 #[.val (.int p0), .val (.int p1), .val (.int p2), .val (.int p3), .val (.int p4), .val (.int p5), .val (.ref b1), .val (.int ln), .val (.int pb0), .val (.int pb1), .val (.int pb2), .val (.int (6 : Int32))] [(.int ln), (.ref b1)])) (fun t k => XS.iload X20.here hx rfl (hb hby at_194) rfl k) ?_
              obtain ⟨v45, _, ⟨T45, L45, k45, n45⟩, -, X45, ⟨Lc45, hQ45, l45, y45, z45⟩, st45⟩ := Jvm.LawKit.callS X20 hx (y := (⟨"com/example/headstart/headstart/server/Request", "emptyLines", "([BI)I"⟩ : MethodName)) hown (mvT hZ (hw _ (List.mem_of_getElem? (i := 5) rfl))) (mvT hZ (hw _ (List.mem_of_getElem? (i := 6) rfl))) (mvT hZ (hw _ (List.mem_of_getElem? (i := 7) rfl))) (mvT hZ (hw _ (List.mem_of_getElem? (i := 8) rfl))) (by decide) (backOf (W := 0) (rm2 l Z aw hw [] b1 ln f h20 n0 Z20 B hln) hZ (hw _ (List.mem_of_getElem? (i := 8) rfl)) (hw _ (List.mem_of_getElem? (i := 7) rfl)) (by decide) (by decide)) (g := (mkF m 196 #[.val (.int p0), .val (.int p1), .val (.int p2), .val (.int p3), .val (.int p4), .val (.int p5), .val (.ref b1), .val (.int ln), .val (.int pb0), .val (.int pb1), .val (.int pb2), .val (.int (6 : Int32))] [(.int ln), (.ref b1)])) rfl (by rw [hml]; rfl) (argsL := [(.ref b1), (.int ln)]) (rest := []) (lenOf pd_285bBI29I rfl) rfl (by show 2 * 0 + _ ≤ _; exact Nat.le_of_eq rfl) (hb hby at_196) (fun _ _ => ⟨rfl, e20, (by decide : 1 + 0 ≤ _), (by decide : 6 + 0 ≤ _)⟩)
              dsimp only [Pt.U, Pt.locs, Pt.cells, Pt.slots] at X45 l45 y45 z45 st45 hQ45
              subst l45 y45 z45
              obtain ⟨h45, e45⟩ : ∃ z, T45.heap = z := ⟨_, rfl⟩
              rw [e45] at hQ45
              obtain ⟨r45, rfl, N45q, eh45, hf45⟩ := hQ45
              rw [eh45] at e45
              have N45 := Fr.app N20 N45q
              refine Go.to (g' := (mkF m 199 #[.val (.int p0), .val (.int p1), .val (.int p2), .val (.int p3), .val (.int p4), .val (.int p5), .val (.ref b1), .val (.int ln), .val (.int pb0), .val (.int pb1), .val (.int pb2), .val (.int (6 : Int32))] [(.int r45)])) st45 ?_
              refine Go.to (g' := (mkF m 201 #[.val (.int p0), .val (.int p1), .val (.int p2), .val (.int p3), .val (.int p4), .val (.int p5), .val (.ref b1), .val (.int ln), .val (.int pb0), .val (.int pb1), .val (.int pb2), .val (.int (6 : Int32))] [(.int (6 : Int32)), (.int r45)])) (fun t k => XS.iload X45.here hx rfl (hb hby at_199) rfl k) ?_
              refine Go.to (g' := (mkF m 204 #[.val (.int p0), .val (.int p1), .val (.int p2), .val (.int p3), .val (.int p4), .val (.int p5), .val (.ref b1), .val (.int ln), .val (.int pb0), .val (.int pb1), .val (.int pb2), .val (.int (6 : Int32))] [])) (fun t k => XS.icmpNo X45.here hx rfl (hb hby at_201) rfl (teq (own_uni hf45 (Or.inr (Or.inr (Or.inr ⟨⟨own_p rfl c33, own_c1 hb0 c35⟩, ⟨own_p rfl c37, own_c1 hb1 c39⟩, ⟨own_p rfl c41, own_c1 hb2 c43⟩, rfl⟩))))).2 k) ?_
              refine Go.to (g' := (mkF m 205 #[.val (.int p0), .val (.int p1), .val (.int p2), .val (.int p3), .val (.int p4), .val (.int p5), .val (.ref b1), .val (.int ln), .val (.int pb0), .val (.int pb1), .val (.int pb2), .val (.int (6 : Int32))] [(.int (1 : Int32))])) (fun t k => XS.iconst X45.here hx rfl (hb hby at_204) k) ?_
              refine Go.to (g' := (mkF m 209 #[.val (.int p0), .val (.int p1), .val (.int p2), .val (.int p3), .val (.int p4), .val (.int p5), .val (.ref b1), .val (.int ln), .val (.int pb0), .val (.int pb1), .val (.int pb2), .val (.int (6 : Int32))] [(.int (1 : Int32))])) (fun t k => XS.goto X45.here hx rfl (pc0 := 205) (pc' := 209) rfl (hb hby at_205) (by decide) (by decide) k) ?_
              exact Go.retN X45 hx (t := .boolean) Bd.returns Bd.notSynchronized (by simp) (hb hby at_209) (by decide) (by decide) e45 ⟨rfl, N45⟩

set_option maxRecDepth 65536 in
set_option maxHeartbeats 40000000 in
theorem comes_1 {Post : Tables → Env → Array Value → State → Outcome → State → Prop} (hpost : ∀ tb e args s v u, (limb_1_1.after args s (.returned v) u = true ∧ limb_1_2.after args s (.returned v) u = true ∧ True) → FrameEnd s (.returned v) u (Jvm.fieldLocs frame_1_writes args s ++ Jvm.arrayLocs frame_1_arrays args s ++ Jvm.staticLocs frame_1_statics s) 16 128 → Post tb e args s (.returned v) u) :
    ArmFor flags0 classFile x code maxLocals ret World_1 tables_1 room_1 Calls_1 rest_1 Pre_1 Post := by
  intro l hfl _ _ p e ha hc hk s m args below hf hA hF happ hP
  obtain ⟨hcalls, hrest, hpre⟩ := hP
  obtain ⟨-, -, -, hnamed, -, -, -, hat⟩ := (Spec.applies_iff hf).mp happ
  obtain ⟨hg, hn⟩ := and_e (Cond.before_iff.mp (show (Jvm.Cond.and given_1 narrow_1).before args s = true from hpre))
  obtain ⟨ga0, gb0⟩ := and_e hg
  obtain ⟨ga1, gb1⟩ := and_e gb0
  obtain ⟨ga2, gb2⟩ := and_e gb1
  obtain ⟨ga3, gb3⟩ := and_e gb2
  obtain ⟨ga4, gb4⟩ := and_e gb3
  obtain ⟨ga5, gb5⟩ := and_e gb4
  obtain ⟨w0, w1, w2, w3, w4, w5, rfl⟩ : ∃ w0 w1 w2 w3 w4 w5 : Value, args = #[w0, w1, w2, w3, w4, w5] := by
    have hs : args.size = 6 := by simpa [Cond.value, given_1] using ga0
    obtain ⟨L⟩ := args
    match L, hs with
    | [w0, w1, w2, w3, w4, w5], _ => exact ⟨w0, w1, w2, w3, w4, w5, rfl⟩
  have hw := fun d (hd : d ∈ tables_1) => atoms_spec (ws := Jvm.Cond.code x code maxLocals ret :: tables_1) hat d (List.mem_cons_of_mem _ hd)
  obtain ⟨i0, ei0⟩ := is_v ga1
  obtain rfl : w0 = (.int i0) := Option.some.inj ei0
  obtain ⟨i1, ei1⟩ := is_v ga2
  obtain rfl : w1 = (.int i1) := Option.some.inj ei1
  obtain ⟨i2, ei2⟩ := is_v ga3
  obtain rfl : w2 = (.int i2) := Option.some.inj ei2
  obtain ⟨i3, ei3⟩ := is_v ga4
  obtain rfl : w3 = (.int i3) := Option.some.inj ei3
  obtain ⟨i4, ei4⟩ := is_v ga5
  obtain rfl : w4 = (.int i4) := Option.some.inj ei4
  obtain ⟨i5, ei5⟩ := is_v gb5
  obtain rfl : w5 = (.int i5) := Option.some.inj ei5
  obtain ⟨n, o, h1, h2, h3, _, L, rfl, ⟨rfl, N⟩, hq⟩ := rm0 l s _ hw tables_1 i0 i1 i2 i3 i4 i5 s.heap s.heap.size (Nat.le_refl _)  p e ha hc hk s m _ below hf ((Spec.applies_iff_loose hf).mp happ).1 ⟨rfl, State.Warmed39.refl s, rfl⟩ trivial
  refine ⟨n, _, h1, h2, h3, hpost _ _ _ _ _ _ ⟨Cond.after_iff.mpr rfl, Cond.after_iff.mpr (eq_i res_at (Term.int_eval (1)) rfl), trivial⟩ ⟨hq.1, hq.2.1, (hq.2.2.sift fun y hy => Or.inr (N y hy)).mono (by decide) (by decide)⟩⟩
theorem main_1_1 : Claimed_1_1 := comes_1 fun _ _ _ _ _ _ h hF => ⟨h.1, hF⟩
theorem main_1_2 : Claimed_1_2 := comes_1 fun _ _ _ _ _ _ h hF => ⟨h.2.1, hF⟩

end Jvm.Pilot.@@N@@
namespace Jvm.Pilot.@@N@@
open Jvm Jvm.ClassFile Sem Op Lib Jvm.Free Jvm.Stand Jvm.Pilot.@@N@@.Jvm.D
/-! MADE BY PROGRAM (witnessworld.py) out of the Statement's table words and the real class files: 9 classes; the members and pool entries that the words name. The judged class is class 1, her method 1. -/
namespace start1
open Jvm.ClassFile
def u (s : String) : CpInfo := .utf8 (stringToUtf16 s)
/-- a pool by its gaps: so many unusable entries, then the entry; so many at the end -/
def gap : Nat → List CpInfo → List CpInfo
  | 0, r => r
  | n + 1, r => .unusable :: gap n r
def poolList (es : List (Nat × CpInfo)) (last : Nat) : List CpInfo := es.foldr (fun e r => gap e.1 (e.2 :: r)) (gap last [])
def pool (es : List (Nat × CpInfo)) (last : Nat) : Array CpInfo := ⟨poolList es last⟩
def fileOf (pool : Array CpInfo) (this : Nat) (attrs : Array Attribute := #[]) (ms : Array MethodInfo := #[]) (fl : Nat := 33) (sup : Nat := 0) (ifs : Array Nat := #[]) (fds : Array FieldInfo := #[]) : ClassFile where
  minorVersion := 0
  majorVersion := 65
  constantPool := pool
  accessFlags := fl
  thisClass := this
  superClass := sup
  interfaces := ifs
  fields := fds
  methods := ms
  attributes := attrs
def plain (name : String) (sup : Option ClassId) : Class where
  name := name
  kind := .ordinary
  loader := none
  accessFlags := 33
  super := sup
  interfaces := #[]
  cf := none
  fields := #[]
  methods := #[]
  instanceTypes := #[]
  staticTypes := #[]
  resolved := #[]
  callSites := []
  init := .initialized
  statics := none
  mirror := none

def pool0 : Array CpInfo := pool [(5, u "<init>"), (0, u "()V"), (1, .class_ 10), (1, u "java/lang/Object")] 113

def k0m0 : Method := { name := "<init>", desc := "()V", sig := { parameters := [], returnType := none }, accessFlags := 1, code := none }
/-- java/lang/Object -/
def k0 : Class := { plain "java/lang/Object" none with
  accessFlags := 33
  interfaces := #[]
  cf := some (fileOf pool0 8 #[] #[{ accessFlags := 1, nameIndex := 5, descriptorIndex := 6, attributes := #[] }] 33 0 #[] #[])
  fields := #[]
  methods := #[k0m0]
  instanceTypes := #[]
  staticTypes := #[]
  resolved := Array.replicate 124 none
  statics := none }

def pool1 : Array CpInfo := pool [(2, .class_ 4), (1, u "java/lang/Object"), (0, u "<init>"), (0, u "()V"), (0, .methodref 8 9), (0, .class_ 10), (0, .nameAndType 11 12), (0, u "com/example/headstart/headstart/server/RequestEmptyLinesPinLaw"), (0, u "pick"), (0, u "(I)B"), (0, .methodref 14 15), (0, .class_ 16), (0, .nameAndType 17 18), (0, u "com/example/headstart/headstart/server/Request"), (0, u "emptyLines"), (0, u "([BI)I"), (2, u "law"), (0, u "(IIIIII)Z")] 5

def k1m0 : Method := { name := "<init>", desc := "()V", sig := { parameters := [], returnType := none }, accessFlags := 1, code := none }
def k1c1 : Code := { maxStack := 3, maxLocals := 12, code := code, exceptionTable := #[], attributes := #[] }
def k1m1 : Method := { name := "law", desc := "(IIIIII)Z", sig := { parameters := [.int, .int, .int, .int, .int, .int], returnType := some .boolean }, accessFlags := 9, code := some k1c1 }
def k1c2 : Code := { maxStack := 2, maxLocals := 2, code := method_3_code, exceptionTable := #[], attributes := #[] }
def k1m2 : Method := { name := "pick", desc := "(I)B", sig := { parameters := [.int], returnType := some .byte }, accessFlags := 10, code := some k1c2 }
/-- com/example/headstart/headstart/server/RequestEmptyLinesPinLaw -/
def k1 : Class := { plain "com/example/headstart/headstart/server/RequestEmptyLinesPinLaw" (some 0) with
  accessFlags := 49
  interfaces := #[]
  cf := some (fileOf pool1 8 #[] #[{ accessFlags := 1, nameIndex := 5, descriptorIndex := 6, attributes := #[] }, { accessFlags := 9, nameIndex := 21, descriptorIndex := 22, attributes := #[] }, { accessFlags := 10, nameIndex := 11, descriptorIndex := 12, attributes := #[] }] 49 2 #[] #[])
  fields := #[]
  methods := #[k1m0, k1m1, k1m2]
  instanceTypes := #[]
  staticTypes := #[]
  resolved := Array.replicate 28 none
  statics := none }

def pool2 : Array CpInfo := pool [(1, .class_ 2), (0, u "com/example/headstart/headstart/server/Request"), (1, .class_ 6), (1, u "java/lang/Object"), (4, u "method"), (0, u "Ljava/lang/String;"), (2, u "rawPath"), (2, u "http11"), (0, u "Z"), (2, u "headers"), (0, u "Lcom/example/headstart/headstart/server/Headers;"), (2, u "contentLength"), (0, u "J"), (2, u "END"), (0, u "[B"), (12, .class_ 45), (0, u "com/example/headstart/headstart/server/Request$Malformed"), (55, u "VERSION"), (0, u "Ljava/util/regex/Pattern;"), (145, u "ABSOLUTE"), (86, u "MAX_HEAD"), (0, u "I"), (2, u "TOKEN"), (0, u "SEGMENT"), (2, u "AUTHORITY"), (0, u "HEX"), (2, u "emptyLines"), (0, u "([BI)I")] 69

def k2c0 : Code := { maxStack := 3, maxLocals := 3, code := prog_38_method_2_code, exceptionTable := #[], attributes := #[] }
def k2m0 : Method := { name := "emptyLines", desc := "([BI)I", sig := { parameters := [(.array .byte), .int], returnType := some .int }, accessFlags := 8, code := some k2c0 }
/-- com/example/headstart/headstart/server/Request -/
def k2 : Class := { plain "com/example/headstart/headstart/server/Request" (some 0) with
  accessFlags := 48
  interfaces := #[]
  cf := some (fileOf pool2 1 #[.nestMembers #[44]] #[{ accessFlags := 8, nameIndex := 347, descriptorIndex := 348, attributes := #[] }] 48 4 #[] #[{ accessFlags := 24, nameIndex := 335, descriptorIndex := 336, attributes := #[] }, { accessFlags := 26, nameIndex := 30, descriptorIndex := 31, attributes := #[] }, { accessFlags := 26, nameIndex := 101, descriptorIndex := 102, attributes := #[] }, { accessFlags := 26, nameIndex := 339, descriptorIndex := 12, attributes := #[] }, { accessFlags := 26, nameIndex := 340, descriptorIndex := 12, attributes := #[] }, { accessFlags := 26, nameIndex := 343, descriptorIndex := 12, attributes := #[] }, { accessFlags := 26, nameIndex := 344, descriptorIndex := 12, attributes := #[] }, { accessFlags := 26, nameIndex := 248, descriptorIndex := 102, attributes := #[] }, { accessFlags := 18, nameIndex := 11, descriptorIndex := 12, attributes := #[] }, { accessFlags := 18, nameIndex := 15, descriptorIndex := 12, attributes := #[] }, { accessFlags := 18, nameIndex := 18, descriptorIndex := 19, attributes := #[] }, { accessFlags := 18, nameIndex := 22, descriptorIndex := 23, attributes := #[] }, { accessFlags := 18, nameIndex := 26, descriptorIndex := 27, attributes := #[] }])
  fields := #[{ name := "MAX_HEAD", type := .int, accessFlags := 24, slot := 0, constantValue := 0 }, { name := "END", type := (.array .byte), accessFlags := 26, slot := 1, constantValue := 0 }, { name := "VERSION", type := (.object "java/util/regex/Pattern"), accessFlags := 26, slot := 2, constantValue := 0 }, { name := "TOKEN", type := (.object "java/lang/String"), accessFlags := 26, slot := 3, constantValue := 0 }, { name := "SEGMENT", type := (.object "java/lang/String"), accessFlags := 26, slot := 4, constantValue := 0 }, { name := "AUTHORITY", type := (.object "java/lang/String"), accessFlags := 26, slot := 5, constantValue := 0 }, { name := "HEX", type := (.object "java/lang/String"), accessFlags := 26, slot := 6, constantValue := 0 }, { name := "ABSOLUTE", type := (.object "java/util/regex/Pattern"), accessFlags := 26, slot := 7, constantValue := 0 }, { name := "method", type := (.object "java/lang/String"), accessFlags := 18, slot := 0, constantValue := 0 }, { name := "rawPath", type := (.object "java/lang/String"), accessFlags := 18, slot := 1, constantValue := 0 }, { name := "http11", type := .boolean, accessFlags := 18, slot := 2, constantValue := 0 }, { name := "headers", type := (.object "com/example/headstart/headstart/server/Headers"), accessFlags := 18, slot := 3, constantValue := 0 }, { name := "contentLength", type := .long, accessFlags := 18, slot := 4, constantValue := 0 }]
  methods := #[k2m0]
  instanceTypes := #[(.object "java/lang/String"), (.object "java/lang/String"), .boolean, (.object "com/example/headstart/headstart/server/Headers"), .long]
  staticTypes := #[.int, (.array .byte), (.object "java/util/regex/Pattern"), (.object "java/lang/String"), (.object "java/lang/String"), (.object "java/lang/String"), (.object "java/lang/String"), (.object "java/util/regex/Pattern")]
  resolved := Array.replicate 418 none
  statics := none }

def pool3 : Array CpInfo := pool [(1, u "java/lang/Cloneable"), (0, .class_ 1), (0, u "java/lang/Object"), (0, .class_ 3)] 3

/-- java/lang/Cloneable -/
def k3 : Class := { plain "java/lang/Cloneable" (some 0) with
  accessFlags := 1537
  interfaces := #[]
  cf := some (fileOf pool3 2 #[] #[] 1537 4 #[] #[])
  fields := #[]
  methods := #[]
  instanceTypes := #[]
  staticTypes := #[]
  resolved := Array.replicate 8 none
  statics := none }

def pool4 : Array CpInfo := pool [(1, u "java/io/Serializable"), (0, .class_ 1), (0, u "java/lang/Object"), (0, .class_ 3)] 3

/-- java/io/Serializable -/
def k4 : Class := { plain "java/io/Serializable" (some 0) with
  accessFlags := 1537
  interfaces := #[]
  cf := some (fileOf pool4 2 #[] #[] 1537 4 #[] #[])
  fields := #[]
  methods := #[]
  instanceTypes := #[]
  staticTypes := #[]
  resolved := Array.replicate 8 none
  statics := none }

/-- the primitive byte -/
def k5 : Class := { plain "byte" none with kind := .primitive 'B', accessFlags := 0x411 }
/-- [B -/
def k6 : Class := { plain "[B" (some 0) with kind := .array 5 .byte, interfaces := #[3, 4], accessFlags := 1041 }

/-- the primitive int -/
def k7 : Class := { plain "int" none with kind := .primitive 'I', accessFlags := 0x411 }
/-- [I -/
def k8 : Class := { plain "[I" (some 0) with kind := .array 7 .int, interfaces := #[3, 4], accessFlags := 1041 }

def heap : Heap := #[]
def classes : Array Class := #[k0, k1, k2, k3, k4, k5, k6, k7, k8]
def interned : List (Array UInt16 × Addr) := []
def slotsUsed : Nat := 0
def theMethod : MethodId := ⟨1, 1⟩
def args0 : Array Value := #[.int 9, .int 8, .int 5, .int 2, .int 7, .int 3]
def aboutOver (below : List Frame) : State where
  vm := { classes := classes, interned := interned.toArray }
  heap := heap
  slotsUsed := slotsUsed
  threads := #[{ frames := .invoking theMethod args0 :: below }]
def below0 : List Frame := [.native { method := ⟨0, 0⟩, args := #[] }]
def about1 : State := aboutOver below0
def p0 : Program := .bare "" "" ""
def e0 : Env := launch0.env 0 0 0
theorem w_frames : about1.frames = Frame.invoking theMethod args0 :: below0 := rfl
set_option maxRecDepth 65536 in
theorem w_args : argsFit about1.vm theMethod args0 = true := by decide +kernel
set_option maxRecDepth 65536 in
theorem w_heap : heapFits about1 = true := by decide +kernel
set_option maxRecDepth 65536 in
theorem w_runnable : about1.curStatus? = some .runnable := by decide +kernel
set_option maxRecDepth 65536 in
theorem w_alone : about1.alone = true := by decide +kernel
set_option maxRecDepth 65536 in
theorem w_named : about1.methodNamed? x = some theMethod := by decide +kernel
set_option maxRecDepth 65536 in
theorem w_hears : about1.hears theMethod below0 = true := by decide +kernel
set_option maxRecDepth 65536 in
theorem w_ripe : about1.ripe theMethod args0 below0 = true := by decide +kernel
theorem w_running : about1.status = .running := rfl
set_option maxRecDepth 65536 in
theorem w_room : about1.hasRoom e0.platform room_1 = true :=
  launch0.hasRoom_least _ room_1 (by decide +kernel) (by decide +kernel) (by decide +kernel) (by decide +kernel) (by decide +kernel) (by decide +kernel)
theorem allAtoms_all (ts : List Jvm.Cond) (a : Array Jvm.Value) (st : Jvm.State) : (allAtoms ts).before a st = ts.all (fun c => c.before a st) := by
  induction ts with
  | nil => rfl
  | cons c t ih =>
    show (Jvm.Cond.and c (allAtoms t)).before a st = _
    rw [Jvm.Cond.before_and, ih, List.all_cons]
def words1 : List Jvm.Cond := Jvm.Cond.code x code maxLocals ret :: tables_1
/-- a 'code' word, met by the world's own term for the bytes: nothing is compared byte by byte -/
theorem code_word {y : MethodName} {bytes : ByteArray} {mx : Nat} {rt : Option FieldType} {a : Array Value} {s : State} {m : MethodId} {meth : Method} {c : Code} (h1 : s.methodNamed? y = some m) (h2 : s.vm.method? m = some meth) (h3 : meth.code = some c) (h4 : c.code = bytes)
    (h5 : (c.maxLocals == mx && c.exceptionTable.isEmpty && decide (c.maxStack ≤ mostOperands) && decide (meth.sig.returnType = rt) && !meth.locks && decide (parseMethodDescriptor y.desc = some meth.sig)) = true) : (Jvm.Cond.code y bytes mx rt).before a s = true := by
  simp only [Bool.and_eq_true, beq_iff_eq, Bool.not_eq_true', decide_eq_true_eq] at h5
  obtain ⟨⟨⟨⟨⟨g1, g2⟩, g3⟩, g4⟩, g5⟩, g6⟩ := h5
  simp [Cond.before, Cond.holds, Cond.value, h1, h2, h3, h4, g1, g2, g3, g4, g5, g6]
def isCode : Jvm.Cond → Bool
  | .code _ _ _ _ => true
  | _ => false
theorem all_split {L : List Jvm.Cond} {P : Jvm.Cond → Bool} (h1 : L.all (fun c => isCode c || P c) = true) (h2 : ∀ c ∈ L.filter isCode, P c = true) : L.all P = true := by
  refine List.all_eq_true.mpr fun c hc => ?_
  have h := List.all_eq_true.mp h1 c hc
  rcases Bool.eq_false_or_eq_true (isCode c) with hi | hi
  · exact h2 c (List.mem_filter.mpr ⟨hc, hi⟩)
  · simpa [hi] using h
set_option maxRecDepth 65536 in
theorem w_c0 : (Jvm.Cond.code x code maxLocals ret).before args0 about1 = true := code_word (m := ⟨1, 1⟩) (meth := k1m1) (c := k1c1) (by decide +kernel) rfl rfl rfl (by decide +kernel)
set_option maxRecDepth 65536 in
theorem w_c1 : (Jvm.Cond.code ({ cls := "com/example/headstart/headstart/server/RequestEmptyLinesPinLaw", name := "pick", desc := "(I)B" } : Jvm.MethodName) method_3_code (2 : Nat) (Option.some Jvm.ClassFile.FieldType.byte)).before args0 about1 = true := code_word (m := ⟨1, 2⟩) (meth := k1m2) (c := k1c2) (by decide +kernel) rfl rfl rfl (by decide +kernel)
set_option maxRecDepth 65536 in
theorem w_c2 : (Jvm.Cond.code ({ cls := "com/example/headstart/headstart/server/Request", name := "emptyLines", desc := "([BI)I" } : Jvm.MethodName) prog_38_method_2_code (3 : Nat) (Option.some Jvm.ClassFile.FieldType.int)).before args0 about1 = true := code_word (m := ⟨2, 0⟩) (meth := k2m0) (c := k2c0) (by decide +kernel) rfl rfl rfl (by decide +kernel)
def codes1 : List Jvm.Cond := [Jvm.Cond.code x code maxLocals ret, Jvm.Cond.code ({ cls := "com/example/headstart/headstart/server/RequestEmptyLinesPinLaw", name := "pick", desc := "(I)B" } : Jvm.MethodName) method_3_code (2 : Nat) (Option.some Jvm.ClassFile.FieldType.byte), Jvm.Cond.code ({ cls := "com/example/headstart/headstart/server/Request", name := "emptyLines", desc := "([BI)I" } : Jvm.MethodName) prog_38_method_2_code (3 : Nat) (Option.some Jvm.ClassFile.FieldType.int)]
set_option maxRecDepth 65536 in
theorem codes_eq : words1.filter isCode = codes1 := rfl
theorem w_codes : ∀ c ∈ words1.filter isCode, c.before args0 about1 = true := by
  rw [codes_eq]
  intro c hc
  simp only [codes1, List.mem_cons, List.not_mem_nil, or_false] at hc
  rcases hc with rfl | rfl | rfl
  · exact w_c0
  · exact w_c1
  · exact w_c2
set_option maxRecDepth 65536 in
theorem w_t1 : words1.all (fun c => isCode c || c.before args0 about1) = true := by decide +kernel
theorem w_tables : (allAtoms (Jvm.Cond.code x code maxLocals ret :: tables_1)).before args0 about1 = true := by
  rw [allAtoms_all]
  show words1.all (fun c => c.before args0 about1) = true
  refine all_split ?_ w_codes
  rw [w_t1]
set_option maxRecDepth 65536 in
theorem w_case : (Jvm.Cond.and given_1 narrow_1).before args0 about1 = true := by decide +kernel
theorem w_applies : (headSpec (Jvm.Cond.code x code maxLocals ret :: tables_1) room_1).applies x e0.platform about1 = true :=
  (Spec.applies_iff w_frames).mpr ⟨w_running, w_runnable, w_alone, w_named, w_hears, w_ripe, w_room, w_tables⟩
theorem atStart : AtStart classFile x code maxLocals ret World_1 tables_1 room_1 Calls_1 rest_1 Pre_1 launch0 p0 e0 about1 theMethod args0 below0 :=
  ⟨lists_1, trivial, launch0.admits_env _ _ _, launch0.least_env, fairChoices_fair.cas, fairChoices_fair.clock, w_frames, w_args, w_heap, w_applies, trivial, trivial, w_case⟩
end start1
theorem witness_1 : WitnessClaimed_1 := ⟨start1.p0, start1.e0, start1.about1, start1.theMethod, start1.args0, start1.below0, start1.atStart⟩
end Jvm.Pilot.@@N@@
