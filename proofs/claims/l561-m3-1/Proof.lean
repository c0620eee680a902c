import JvmDerived
import JvmDerived.Pilot.@@N@@Statement
import JvmDerived.Pilot.@@N@@Code
set_option linter.unusedVariables false
set_option linter.unusedSimpArgs false
namespace Jvm.RoadKit
open Sem ClassFile Op Lib Jvm.Stand Jvm.Free Jvm.LawKit
section New
variable {p : Program} {l : Launch} {e : Env} {R : Room} {s : State} {m : MethodId} {args : Array Value} {below : List Frame} {meth : Method} {c : Code} {T : State} {locs : List Loc} {cells slots : Nat}
theorem retI (X : Stand p l e R s m args below meth c T locs cells slots) (hx : p.tables.exec = Jvm.exec) {pc : Nat} {Ls : Array Slot} {z : Int32} {rest : List Value} (hret : meth.sig.returnType = some .int) (hd : decode c.code pc = .ok (.ireturn, 1)) {fs : List Frame}
    (hl : ∀ (f : JFrame) (acts : List Action), f.method = m → f.locked = none → f.entered = [] → (doReturn e (T.setTop f) acts (some (.int z))).1 = T.setFrames fs) : Steps p.tables e below (T.setTop (mkF m pc Ls (.int z :: rest))) (T.setFrames fs) := by
  have hm' : T.vm.method? m = some meth := X.method'
  have hn : narrow .int (.int z) = .int z := rfl
  show Steps p.tables e below (T.setTop { method := m, pc := pc, locals := Ls, stack := _ :: rest, locked := none }) _
  jvm_step X.here [X.here.top, hx, hd, hm', hret, hn]
  first | (intro acts; rw [hl _ acts rfl rfl rfl]) | rw [hl _ _ rfl rfl rfl]
  exact Steps.refl _
end New
end Jvm.RoadKit
namespace Jvm.Pilot.@@N@@
open Jvm Jvm.ClassFile Sem Op Lib Jvm.Free Jvm.Stand Jvm.LawKit Jvm.RoadKit Bundle Jvm.Pilot.@@N@@.Jvm.D
section OwnGo
variable {p : Program} {l : Launch} {e : Env} {R : Room} {s : State} {m : MethodId} {args : Array Value} {below : List Frame} {meth : Method} {c : Code} {T T' : State} {locs : List Loc} {cells slots : Nat} {C S : Nat} {Q : Option Value → Heap → List Loc → Prop} {h : Heap}
/-- from here the run comes to a return of which Q holds -/
def Go (p : Program) (e : Env) (below : List Frame) (s : State) (Q : Option Value → Heap → List Loc → Prop) (C S : Nat) (S0 : State) : Prop :=
  ∃ s₂ o, Steps p.tables e below S0 s₂ ∧ s₂.status = .running ∧ Ended s₂ below o ∧ ∃ v L, o = .returned v ∧ Q v s₂.heap L ∧ FrameEnd s o s₂ L C S
theorem own_go {S0 : State} (k : Go p e below s Q C S S0) : ∃ s₂ o, Steps p.tables e below S0 s₂ ∧ s₂.status = .running ∧ Ended s₂ below o ∧ ∃ v L, o = .returned v ∧ Q v s₂.heap L ∧ FrameEnd s o s₂ L C S := k
theorem Go.to {g g' : JFrame} (st : ∀ t, Steps p.tables e below (T'.setTop g') t → Steps p.tables e below (T.setTop g) t) (k : Go p e below s Q C S (T'.setTop g')) : Go p e below s Q C S (T.setTop g) := by
  obtain ⟨s₂, o, h1, r⟩ := k
  exact ⟨s₂, o, st _ h1, r⟩
theorem Go.retI (X : Stand p l e R s m args below meth c T locs cells slots) (hx : p.tables.exec = Jvm.exec) {pc : Nat} {Ls : Array Slot} {z : Int32} {rest : List Value} (hret : meth.sig.returnType = some .int) (hlk : meth.locks = false) (hd : decode c.code pc = .ok (.ireturn, 1)) (hC : cells ≤ C) (hS : slots ≤ S) (eT : T.heap = h) (hQ : Q (some (.int z)) h locs) :
    Go p e below s Q C S (T.setTop (mkF m pc Ls (.int z :: rest))) := by
  obtain ⟨fs, hr, hrun, hended, hW, hsame⟩ := X.leave (v := some (.int z)) (fun h => by rw [hret] at h; cases h) hlk
  exact ⟨_, _, Jvm.RoadKit.retI X hx hret hd hr, hrun, hended, _, _, rfl, (show Q (some (.int z)) T.heap locs from eT ▸ hQ), ⟨_, rfl⟩, hW, hsame.mono hC hS⟩
theorem Go.retN (X : Stand p l e R s m args below meth c T locs cells slots) (hx : p.tables.exec = Jvm.exec) {pc : Nat} {Ls : Array Slot} {z : Int32} {t : FieldType} {rest : List Value} (hret : meth.sig.returnType = some t) (hlk : meth.locks = false) (ht : t = .boolean ∨ t = .byte ∨ t = .char ∨ t = .short) (hd : decode c.code pc = .ok (.ireturn, 1)) (hC : cells ≤ C) (hS : slots ≤ S) (eT : T.heap = h) (hQ : Q (some (.int (nar t z))) h locs) :
    Go p e below s Q C S (T.setTop (mkF m pc Ls (.int z :: rest))) := by
  obtain ⟨fs, hr, hrun, hended, hW, hsame⟩ := X.leave (v := some (.int (nar t z))) (fun h => by rw [hret] at h; cases h) hlk
  exact ⟨_, _, Jvm.RoadKit.retN X hx hret ht hd hr, hrun, hended, _, _, rfl, (show Q (some (.int (nar t z))) T.heap locs from eT ▸ hQ), ⟨_, rfl⟩, hW, hsame.mono hC hS⟩
theorem Go.ret (X : Stand p l e R s m args below meth c T locs cells slots) (hx : p.tables.exec = Jvm.exec) {pc : Nat} {Ls : Array Slot} (hret : meth.sig.returnType = none) (hlk : meth.locks = false) (hd : decode c.code pc = .ok (.return_, 1)) (hC : cells ≤ C) (hS : slots ≤ S) (eT : T.heap = h) (hQ : Q none h locs) :
    Go p e below s Q C S (T.setTop (mkF m pc Ls [])) := by
  obtain ⟨fs, hr, hrun, hended, hW, hsame⟩ := X.leave (v := none) (fun _ => rfl) hlk
  exact ⟨_, _, X.returnOut hx hret hd hr, hrun, hended, _, _, rfl, (show Q none T.heap locs from eT ▸ hQ), ⟨_, rfl⟩, hW, hsame.mono hC hS⟩
theorem Go.retJ (X : Stand p l e R s m args below meth c T locs cells slots) (hx : p.tables.exec = Jvm.exec) {pc : Nat} {Ls : Array Slot} {z : Int64} {rest : List Value} (hret : meth.sig.returnType = some .long) (hlk : meth.locks = false) (hd : decode c.code pc = .ok (.lreturn, 1)) (hC : cells ≤ C) (hS : slots ≤ S) (eT : T.heap = h) (hQ : Q (some (.long z)) h locs) :
    Go p e below s Q C S (T.setTop (mkF m pc Ls (.long z :: rest))) := by
  obtain ⟨fs, hr, hrun, hended, hW, hsame⟩ := X.leave (v := some (.long z)) (fun h => by rw [hret] at h; cases h) hlk
  exact ⟨_, _, retOut X hx hret rfl (Or.inr (Or.inl ⟨rfl, rfl, _, rfl⟩)) hd hr, hrun, hended, _, _, rfl, (show Q (some (.long z)) T.heap locs from eT ▸ hQ), ⟨_, rfl⟩, hW, hsame.mono hC hS⟩
theorem Go.retA (X : Stand p l e R s m args below meth c T locs cells slots) (hx : p.tables.exec = Jvm.exec) {pc : Nat} {Ls : Array Slot} {z : Addr} {t : FieldType} {rest : List Value} (hret : meth.sig.returnType = some t) (hlk : meth.locks = false) (ht : t.isReference = true) (hd : decode c.code pc = .ok (.areturn, 1)) (hC : cells ≤ C) (hS : slots ≤ S) (eT : T.heap = h) (hQ : Q (some (.ref z)) h locs) :
    Go p e below s Q C S (T.setTop (mkF m pc Ls (.ref z :: rest))) := by
  obtain ⟨fs, hr, hrun, hended, hW, hsame⟩ := X.leave (v := some (.ref z)) (fun h => by rw [hret] at h; cases h) hlk
  exact ⟨_, _, retOut X hx hret (by cases t <;> first | rfl | cases ht) (Or.inr (Or.inr (Or.inr (Or.inr ⟨rfl, ht, rfl⟩)))) hd hr, hrun, hended, _, _, rfl, (show Q (some (.ref z)) T.heap locs from eT ▸ hQ), ⟨_, rfl⟩, hW, hsame.mono hC hS⟩
end OwnGo
theorem own_irr (x : Int32) : ¬ x < x := by rw [Int32.lt_iff_toInt_lt]; omega
theorem own_irrL (x : Int64) : ¬ x < x := by rw [Int64.lt_iff_toInt_lt]; omega
theorem own_lrem {p : Program} {l : Launch} {e : Env} {R : Room} {s : State} {m : MethodId} {args : Array Value} {below : List Frame} {meth : Method} {c : Code} {T target : State} {locs : List Loc} {cells slots : Nat} {g : JFrame} (X : Stand p l e R s m args below meth c T locs cells slots) (hx : p.tables.exec = Jvm.exec) (hg : g.method = m) {x y : Int64} {rest : List Value} (hd : decode c.code g.pc = .ok (.lrem, 1)) (hs : g.stack = .long y :: .long x :: rest) (hy : y ≠ 0)
    (hr : Steps p.tables e below (T.setTop { g with pc := g.pc + 1, stack := .long (x % y) :: rest }) target) : Steps p.tables e below (T.setTop g) target :=
  XS.lrem X.here hx hg hd hs hy (by rw [lrem_mod]; exact hr)
theorem own_int {c : Cell} {vs : List Value} {d : Value} {j z : Int32} (H : Has c vs d) (G : ∀ i, i < c.slots.size → fits .int (vs.getD i d) = true) (hin : ¬ (j < 0 ∨ c.slots.size ≤ j.toNatClampNeg)) : ∃ x : Int32, c.slots[j.toNatClampNeg]? = some (.int x) := by
  have hk : j.toNatClampNeg < c.slots.size := Nat.lt_of_not_le fun q => hin (Or.inr q)
  have h1 := H _ hk
  have h2 := G _ hk
  cases hv : vs.getD j.toNatClampNeg d with
  | int x => exact ⟨x, by rw [h1, hv]⟩
  | _ => rw [hv] at h2; simp [fits] at h2
theorem d1_0 : decode prog_134_method_4_code 0 = .ok (.iload_n 0, 1) := by decide +kernel
theorem d1_1 : decode prog_134_method_4_code 1 = .ok (.bipush 32, 2) := by decide +kernel
theorem d1_3 : decode prog_134_method_4_code 3 = .ok (.if_icmp .eq 21, 3) := by decide +kernel
theorem d1_24 : decode prog_134_method_4_code 24 = .ok (.iconst 1, 1) := by decide +kernel
theorem d1_25 : decode prog_134_method_4_code 25 = .ok (.goto 4, 3) := by decide +kernel
theorem d1_29 : decode prog_134_method_4_code 29 = .ok (.ireturn, 1) := by decide +kernel
theorem d1_6 : decode prog_134_method_4_code 6 = .ok (.iload_n 0, 1) := by decide +kernel
theorem d1_7 : decode prog_134_method_4_code 7 = .ok (.bipush 9, 2) := by decide +kernel
theorem d1_9 : decode prog_134_method_4_code 9 = .ok (.if_icmp .eq 15, 3) := by decide +kernel
theorem d1_12 : decode prog_134_method_4_code 12 = .ok (.iload_n 0, 1) := by decide +kernel
theorem d1_13 : decode prog_134_method_4_code 13 = .ok (.bipush 10, 2) := by decide +kernel
theorem d1_15 : decode prog_134_method_4_code 15 = .ok (.if_icmp .eq 9, 3) := by decide +kernel
theorem d1_18 : decode prog_134_method_4_code 18 = .ok (.iload_n 0, 1) := by decide +kernel
theorem d1_19 : decode prog_134_method_4_code 19 = .ok (.bipush 13, 2) := by decide +kernel
theorem d1_21 : decode prog_134_method_4_code 21 = .ok (.if_icmp .ne 7, 3) := by decide +kernel
theorem d1_28 : decode prog_134_method_4_code 28 = .ok (.iconst 0, 1) := by decide +kernel
theorem pn_com_example_descant_descant_xml_XmlNames : plainName "com/example/descant/descant/xml/XmlNames" = true := by first | (simp [plainName, overriddenIn]; done) | decide +kernel
theorem pd_28I29Z : parseMethodDescriptor "(I)Z" = some ⟨[.int], some .boolean⟩ := by decide +kernel
theorem pn_com_example_descant_descant_xml_XmlNamesIsWhiteSpacePinLaw : plainName "com/example/descant/descant/xml/XmlNamesIsWhiteSpacePinLaw" = true := by first | (simp [plainName, overriddenIn]; done) | decide +kernel
def own_ws (c : Int32) : Int32 := if c = (32 : Int32) ∨ c = (9 : Int32) ∨ c = (10 : Int32) ∨ c = (13 : Int32) then (1 : Int32) else (0 : Int32)
theorem own_ws1 {c : Int32} (h : c = (32 : Int32) ∨ c = (9 : Int32) ∨ c = (10 : Int32) ∨ c = (13 : Int32)) : own_ws c = (1 : Int32) := if_pos h
theorem own_ws0 {c : Int32} (h : ¬ (c = (32 : Int32) ∨ c = (9 : Int32) ∨ c = (10 : Int32) ∨ c = (13 : Int32))) : own_ws c = (0 : Int32) := if_neg h
theorem own_wn {c : Int32} (h : c < (0 : Int32) ∨ ¬ c < (64 : Int32)) : ¬ (c = (32 : Int32) ∨ c = (9 : Int32) ∨ c = (10 : Int32) ∨ c = (13 : Int32)) := by
  rintro (rfl | rfl | rfl | rfl) <;> exact absurd h (by decide)
theorem own_all : ∀ k : Fin 64, ((((((4294977024 : Int64).toUInt64 >>> ((Int32.ofNat k.val) &&& 0x3f).toInt64.toUInt64).toInt64) &&& (1 : Int64)) = (0 : Int64)) ↔ own_ws (Int32.ofNat k.val) = (0 : Int32)) ∧ (own_ws (Int32.ofNat k.val) = (0 : Int32) ∨ own_ws (Int32.ofNat k.val) = (1 : Int32)) := by decide +kernel
theorem own_fin {c : Int32} (h0 : ¬ c < (0 : Int32)) (h1 : c < (64 : Int32)) : ∃ k : Fin 64, c = Int32.ofNat k.val := by
  rw [Int32.lt_iff_toInt_lt] at h0 h1
  have e0 : (0 : Int32).toInt = 0 := rfl
  have e1 : (64 : Int32).toInt = 64 := rfl
  refine ⟨⟨c.toInt.toNat, by omega⟩, Int32.toInt_inj.mp ?_⟩
  rw [Int32.toInt_ofNat_of_lt (by show c.toInt.toNat < 2 ^ 31; omega)]
  show c.toInt = ((c.toInt.toNat : Nat) : Int)
  omega
theorem own_b0 {c : Int32} (h0 : ¬ c < (0 : Int32)) (h1 : c < (64 : Int32)) (h : ((((4294977024 : Int64).toUInt64 >>> (c &&& 0x3f).toInt64.toUInt64).toInt64) &&& (1 : Int64)) = (0 : Int64)) : own_ws c = (0 : Int32) := by
  obtain ⟨k, rfl⟩ := own_fin h0 h1
  exact (own_all k).1.mp h
theorem own_b1 {c : Int32} (h0 : ¬ c < (0 : Int32)) (h1 : c < (64 : Int32)) (h : ¬ ((((4294977024 : Int64).toUInt64 >>> (c &&& 0x3f).toInt64.toUInt64).toInt64) &&& (1 : Int64)) = (0 : Int64)) : own_ws c = (1 : Int32) := by
  obtain ⟨k, rfl⟩ := own_fin h0 h1
  exact (own_all k).2.resolve_left fun q => h ((own_all k).1.mpr q)
theorem own_idx (x : Int32) : ¬ (x &&& (15 : Int32)) < 0 ∧ (x &&& (15 : Int32)) < (16 : Int32) := by
  have h1 := c_mask x (15 : Int32) 4 (by decide) (by decide)
  have e0 : (0 : Int32).toInt = 0 := rfl
  have e1 : (16 : Int32).toInt = 16 := rfl
  rw [Int32.lt_iff_toInt_lt, Int32.lt_iff_toInt_lt]
  omega

theorem ef_rm1 (m : MethodId) (x0 : Int32) : entryFrame m #[(.int x0)] 1 = mkF m 0 #[.val (.int x0)] [] := by first | (simp [entryFrame, mkF, argsToLocals, Value.category]; done) | rfl
def Q1 (Z : State) (p0 : Int32) (h0 : Heap) (n0 : Nat) (v : Option Value) (h : Heap) (L : List Loc) : Prop := v = some (.int (own_ws p0)) ∧ Fr n0 L ∧ h = h0
set_option maxRecDepth 65536 in
set_option maxHeartbeats 40000000 in
theorem rm1 (l : Launch) (Z : State) (aw : Array Value) (hw : ∀ d ∈ tables_1, d.before aw Z = true) (ws : List Jvm.Cond) (p0 : Int32) (h0 : Heap) (n0 : Nat) (Z0 : n0 ≤ h0.size) :
    MetFree l (⟨"com/example/descant/descant/xml/XmlNames", "isWhiteSpace", "(I)Z"⟩ : MethodName) (head1 (Jvm.Cond.code (⟨"com/example/descant/descant/xml/XmlNames", "isWhiteSpace", "(I)Z"⟩ : MethodName) prog_134_method_4_code 1 (some .boolean) :: ws) ({ frames := 0, cells := 0, slots := 0, locals := 0 } : Room)) (fun a U => a = #[(.int p0)] ∧ Z.Warmed39 U.vm ∧ U.heap = h0) (fun _ _ _ _ _ => True) (fun _ U o U' => ∃ v L, o = .returned v ∧ Q1 Z p0 h0 n0 v U'.heap L ∧ FrameEnd U o U' L ({ frames := 0, cells := 0, slots := 0, locals := 0 } : Room).cells ({ frames := 0, cells := 0, slots := 0, locals := 0 } : Room).slots) := by
  refine MetFree.of_bodySF (plainFor_of_name pn_com_example_descant_descant_xml_XmlNames) hisR ?_
  intro p e s m args below meth c s₁ Bd hml0 hP hK
  obtain ⟨rfl, hZ, hh⟩ := hP
  have hx := Bd.exec
  have hby := Bd.bytes
  have hml : c.maxLocals = 1 := hml0
  have hown : s.vm.findClass "com/example/descant/descant/xml/XmlNames" = some m.cls := findClass_of_methodNamed Bd.named
  have hnm := (name_of_methodNamed Bd.named Bd.method).1
  have X0 : Stand p l e ({ frames := 0, cells := 0, slots := 0, locals := 0 } : Room) s m #[(.int p0)] below meth c s₁ [] 0 0 := Stand.of_body Bd
  have e0 : s₁.heap = h0 := by rw [← hh, Bd.state]; rfl
  have N0 := Fr.nil n0
  refine own_go (Q := Q1 Z p0 h0 n0) ?_
  refine Go.to (g' := (mkF m 0 #[.val (.int p0)] [])) (fun t k => castTop (ef_rm1 m p0) k) ?_
  refine Go.to (g' := (mkF m 1 #[.val (.int p0)] [(.int p0)])) (fun t k => XS.iloadN X0.here hx rfl (hb hby d1_0) rfl k) ?_
  refine Go.to (g' := (mkF m 3 #[.val (.int p0)] [(.int (32 : Int32)), (.int p0)])) (fun t k => XS.bipush X0.here hx rfl (hb hby d1_1) k) ?_
  by_cases c1 : p0 = (32 : Int32)
  · refine Go.to (g' := (mkF m 24 #[.val (.int p0)] [])) (fun t k => XS.icmpYes X0.here hx rfl (pc0 := 3) (pc' := 24) rfl (hb hby d1_3) rfl (teq c1).1 (by decide) (by decide) k) ?_
    refine Go.to (g' := (mkF m 25 #[.val (.int p0)] [(.int (1 : Int32))])) (fun t k => XS.iconst X0.here hx rfl (hb hby d1_24) k) ?_
    refine Go.to (g' := (mkF m 29 #[.val (.int p0)] [(.int (1 : Int32))])) (fun t k => XS.goto X0.here hx rfl (pc0 := 25) (pc' := 29) rfl (hb hby d1_25) (by decide) (by decide) k) ?_
    exact Go.retN X0 hx (t := .boolean) Bd.returns Bd.notSynchronized (by simp) (hb hby d1_29) (by decide) (by decide) e0 ⟨by rw [own_ws1 (Or.inl c1)]; rfl, N0, rfl⟩
  · refine Go.to (g' := (mkF m 6 #[.val (.int p0)] [])) (fun t k => XS.icmpNo X0.here hx rfl (hb hby d1_3) rfl (feq c1).1 k) ?_
    refine Go.to (g' := (mkF m 7 #[.val (.int p0)] [(.int p0)])) (fun t k => XS.iloadN X0.here hx rfl (hb hby d1_6) rfl k) ?_
    refine Go.to (g' := (mkF m 9 #[.val (.int p0)] [(.int (9 : Int32)), (.int p0)])) (fun t k => XS.bipush X0.here hx rfl (hb hby d1_7) k) ?_
    by_cases c2 : p0 = (9 : Int32)
    · refine Go.to (g' := (mkF m 24 #[.val (.int p0)] [])) (fun t k => XS.icmpYes X0.here hx rfl (pc0 := 9) (pc' := 24) rfl (hb hby d1_9) rfl (teq c2).1 (by decide) (by decide) k) ?_
      refine Go.to (g' := (mkF m 25 #[.val (.int p0)] [(.int (1 : Int32))])) (fun t k => XS.iconst X0.here hx rfl (hb hby d1_24) k) ?_
      refine Go.to (g' := (mkF m 29 #[.val (.int p0)] [(.int (1 : Int32))])) (fun t k => XS.goto X0.here hx rfl (pc0 := 25) (pc' := 29) rfl (hb hby d1_25) (by decide) (by decide) k) ?_
      exact Go.retN X0 hx (t := .boolean) Bd.returns Bd.notSynchronized (by simp) (hb hby d1_29) (by decide) (by decide) e0 ⟨by rw [own_ws1 (Or.inr (Or.inl c2))]; rfl, N0, rfl⟩
    · refine Go.to (g' := (mkF m 12 #[.val (.int p0)] [])) (fun t k => XS.icmpNo X0.here hx rfl (hb hby d1_9) rfl (feq c2).1 k) ?_
      refine Go.to (g' := (mkF m 13 #[.val (.int p0)] [(.int p0)])) (fun t k => XS.iloadN X0.here hx rfl (hb hby d1_12) rfl k) ?_
      refine Go.to (g' := (mkF m 15 #[.val (.int p0)] [(.int (10 : Int32)), (.int p0)])) (fun t k => XS.bipush X0.here hx rfl (hb hby d1_13) k) ?_
      by_cases c3 : p0 = (10 : Int32)
      · refine Go.to (g' := (mkF m 24 #[.val (.int p0)] [])) (fun t k => XS.icmpYes X0.here hx rfl (pc0 := 15) (pc' := 24) rfl (hb hby d1_15) rfl (teq c3).1 (by decide) (by decide) k) ?_
        refine Go.to (g' := (mkF m 25 #[.val (.int p0)] [(.int (1 : Int32))])) (fun t k => XS.iconst X0.here hx rfl (hb hby d1_24) k) ?_
        refine Go.to (g' := (mkF m 29 #[.val (.int p0)] [(.int (1 : Int32))])) (fun t k => XS.goto X0.here hx rfl (pc0 := 25) (pc' := 29) rfl (hb hby d1_25) (by decide) (by decide) k) ?_
        exact Go.retN X0 hx (t := .boolean) Bd.returns Bd.notSynchronized (by simp) (hb hby d1_29) (by decide) (by decide) e0 ⟨by rw [own_ws1 (Or.inr (Or.inr (Or.inl c3)))]; rfl, N0, rfl⟩
      · refine Go.to (g' := (mkF m 18 #[.val (.int p0)] [])) (fun t k => XS.icmpNo X0.here hx rfl (hb hby d1_15) rfl (feq c3).1 k) ?_
        refine Go.to (g' := (mkF m 19 #[.val (.int p0)] [(.int p0)])) (fun t k => XS.iloadN X0.here hx rfl (hb hby d1_18) rfl k) ?_
        refine Go.to (g' := (mkF m 21 #[.val (.int p0)] [(.int (13 : Int32)), (.int p0)])) (fun t k => XS.bipush X0.here hx rfl (hb hby d1_19) k) ?_
        by_cases c4 : p0 = (13 : Int32)
        · refine Go.to (g' := (mkF m 24 #[.val (.int p0)] [])) (fun t k => XS.icmpNo X0.here hx rfl (hb hby d1_21) rfl (teq c4).2 k) ?_
          refine Go.to (g' := (mkF m 25 #[.val (.int p0)] [(.int (1 : Int32))])) (fun t k => XS.iconst X0.here hx rfl (hb hby d1_24) k) ?_
          refine Go.to (g' := (mkF m 29 #[.val (.int p0)] [(.int (1 : Int32))])) (fun t k => XS.goto X0.here hx rfl (pc0 := 25) (pc' := 29) rfl (hb hby d1_25) (by decide) (by decide) k) ?_
          exact Go.retN X0 hx (t := .boolean) Bd.returns Bd.notSynchronized (by simp) (hb hby d1_29) (by decide) (by decide) e0 ⟨by rw [own_ws1 (Or.inr (Or.inr (Or.inr c4)))]; rfl, N0, rfl⟩
        · refine Go.to (g' := (mkF m 28 #[.val (.int p0)] [])) (fun t k => XS.icmpYes X0.here hx rfl (pc0 := 21) (pc' := 28) rfl (hb hby d1_21) rfl (feq c4).2 (by decide) (by decide) k) ?_
          refine Go.to (g' := (mkF m 29 #[.val (.int p0)] [(.int (0 : Int32))])) (fun t k => XS.iconst X0.here hx rfl (hb hby d1_28) k) ?_
          exact Go.retN X0 hx (t := .boolean) Bd.returns Bd.notSynchronized (by simp) (hb hby d1_29) (by decide) (by decide) e0 ⟨by rw [own_ws0 (fun q => q.elim c1 (fun q => q.elim c2 (fun q => q.elim c3 c4)))]; rfl, N0, rfl⟩

theorem ef_rm0 (m : MethodId) (x0 : Int32) (x1 : Int32) : entryFrame m #[(.int x0), (.int x1)] maxLocals = mkF m 0 #[.val (.int x0), .val (.int x1), .unset, .unset, .unset, .unset, .unset] [] := by first | (simp [entryFrame, mkF, argsToLocals, Value.category, maxLocals]; done) | rfl
def Q0 (Z : State) (p0 : Int32) (p1 : Int32) (h0 : Heap) (n0 : Nat) (v : Option Value) (h : Heap) (L : List Loc) : Prop := v = some (.int (1 : Int32)) ∧ Fr n0 L
set_option maxRecDepth 65536 in
set_option maxHeartbeats 40000000 in
theorem rm0 (l : Launch) (Z : State) (aw : Array Value) (hw : ∀ d ∈ tables_1, d.before aw Z = true) (ws : List Jvm.Cond) (p0 : Int32) (p1 : Int32) (h0 : Heap) (n0 : Nat) (Z0 : n0 ≤ h0.size) :
    MetFree l x (head1 (Jvm.Cond.code x code maxLocals ret :: ws) room_1) (fun a U => a = #[(.int p0), (.int p1)] ∧ Z.Warmed39 U.vm ∧ U.heap = h0) (fun _ _ _ _ _ => True) (fun _ U o U' => ∃ v L, o = .returned v ∧ Q0 Z p0 p1 h0 n0 v U'.heap L ∧ FrameEnd U o U' L room_1.cells room_1.slots) := by
  refine MetFree.of_bodySF (plainFor_of_name pn_com_example_descant_descant_xml_XmlNamesIsWhiteSpacePinLaw) hisR ?_
  intro p e s m args below meth c s₁ Bd hml0 hP hK
  obtain ⟨rfl, hZ, hh⟩ := hP
  have hx := Bd.exec
  have hby := Bd.bytes
  have hml : c.maxLocals = 7 := hml0
  have hown : s.vm.findClass "com/example/descant/descant/xml/XmlNamesIsWhiteSpacePinLaw" = some m.cls := findClass_of_methodNamed Bd.named
  have hnm := (name_of_methodNamed Bd.named Bd.method).1
  have X0 : Stand p l e room_1 s m #[(.int p0), (.int p1)] below meth c s₁ [] 0 0 := Stand.of_body Bd
  have e0 : s₁.heap = h0 := by rw [← hh, Bd.state]; rfl
  have N0 := Fr.nil n0
  refine own_go (Q := Q0 Z p0 p1 h0 n0) ?_
  refine Go.to (g' := (mkF m 0 #[.val (.int p0), .val (.int p1), .unset, .unset, .unset, .unset, .unset] [])) (fun t k => castTop (ef_rm0 m p0 p1) k) ?_
  refine Go.to (g' := (mkF m 2 #[.val (.int p0), .val (.int p1), .unset, .unset, .unset, .unset, .unset] [(.int (16 : Int32))])) (fun t k => XS.bipush X0.here hx rfl (hb hby at_0) k) ?_
  obtain ⟨T2, h2, k2, X2, e2, E2, A2, st2⟩ := newP X0 hx hZ (hw _ (List.mem_of_getElem? (i := 0) rfl)) e0 (g := (mkF m 2 #[.val (.int p0), .val (.int p1), .unset, .unset, .unset, .unset, .unset] [(.int (16 : Int32))])) rfl (hb hby at_2) rfl (by decide) (cap := 16) (by decide) (by decide) (by decide) (by decide)
  obtain ⟨b1, g2⟩ : ∃ z, z = h0.size := ⟨_, rfl⟩
  rw [← g2] at A2 st2
  have g_b1 : n0 ≤ b1 := Nat.le_trans Z0 (Nat.le_of_eq g2.symm)
  have sz_b1 : h0.size ≤ b1 := Nat.le_trans (Keep.refl h0 []).1 (Nat.le_of_eq g2.symm)
  have Z2 : n0 ≤ h2.size := Nat.le_trans Z0 E2.1
  have K2 : Keep h0 h2 [] := (Keep.refl h0 []).ext E2
  have V_b1 : Arv Z h2 b1 k2 .int (16 : Int32) [(.int (0 : Int32)), (.int (0 : Int32)), (.int (0 : Int32)), (.int (0 : Int32)), (.int (0 : Int32)), (.int (0 : Int32)), (.int (0 : Int32)), (.int (0 : Int32)), (.int (0 : Int32)), (.int (0 : Int32)), (.int (0 : Int32)), (.int (0 : Int32)), (.int (0 : Int32)), (.int (0 : Int32)), (.int (0 : Int32)), (.int (0 : Int32))] (.int (0 : Int32)) := (Arv.new A2 (by decide)).pad (pad_rep [] (.int (0 : Int32)) 16)
  refine Go.to (g' := (mkF m 4 #[.val (.int p0), .val (.int p1), .unset, .unset, .unset, .unset, .unset] [(.ref b1)])) st2 ?_
  refine Go.to (g' := (mkF m 5 #[.val (.int p0), .val (.int p1), .unset, .unset, .unset, .unset, .unset] [(.ref b1), (.ref b1)])) (fun t k => XS.dup X2.here hx rfl (hb hby at_4) rfl rfl k) ?_
  refine Go.to (g' := (mkF m 6 #[.val (.int p0), .val (.int p1), .unset, .unset, .unset, .unset, .unset] [(.int (0 : Int32)), (.ref b1), (.ref b1)])) (fun t k => XS.iconst X2.here hx rfl (hb hby at_5) k) ?_
  refine Go.to (g' := (mkF m 8 #[.val (.int p0), .val (.int p1), .unset, .unset, .unset, .unset, .unset] [(.int (9 : Int32)), (.int (0 : Int32)), (.ref b1), (.ref b1)])) (fun t k => XS.bipush X2.here hx rfl (hb hby at_6) k) ?_
  obtain ⟨cl3, Ar3, kc3, S3, M3, H3, G3⟩ := V_b1
  have hin3 : ¬ ((0 : Int32) < 0 ∨ cl3.slots.size ≤ ((0 : Int32)).toNatClampNeg) := inb_of S3 ⟨by decide, by decide⟩
  obtain ⟨T4, h4, X4, e4, W4, st4⟩ := stI X2 hx hZ e2 Ar3 (j := (0 : Int32)) hin3 (g := (mkF m 8 #[.val (.int p0), .val (.int p1), .unset, .unset, .unset, .unset, .unset] [(.int (9 : Int32)), (.int (0 : Int32)), (.ref b1), (.ref b1)])) rfl rfl (hb hby at_8)
  have Z4 : n0 ≤ h4.size := Nat.le_trans Z2 (Keep.of_wr W4).1
  have K4 : Keep h0 h4 [] := K2.wr W4 (Or.inr sz_b1)
  have N4 := Fr.snoc X4 N0 g_b1
  have V4 : Arv Z h4 b1 k2 .int (16 : Int32) [(.int (9 : Int32)), (.int (0 : Int32)), (.int (0 : Int32)), (.int (0 : Int32)), (.int (0 : Int32)), (.int (0 : Int32)), (.int (0 : Int32)), (.int (0 : Int32)), (.int (0 : Int32)), (.int (0 : Int32)), (.int (0 : Int32)), (.int (0 : Int32)), (.int (0 : Int32)), (.int (0 : Int32)), (.int (0 : Int32)), (.int (0 : Int32))] (.int (0 : Int32)) := Arv.set Ar3 kc3 S3 M3 H3 G3 rfl W4 0 rfl (Nat.le_of_ble_eq_true rfl)
  refine Go.to (g' := (mkF m 9 #[.val (.int p0), .val (.int p1), .unset, .unset, .unset, .unset, .unset] [(.ref b1)])) st4 ?_
  refine Go.to (g' := (mkF m 10 #[.val (.int p0), .val (.int p1), .unset, .unset, .unset, .unset, .unset] [(.ref b1), (.ref b1)])) (fun t k => XS.dup X4.here hx rfl (hb hby at_9) rfl rfl k) ?_
  refine Go.to (g' := (mkF m 11 #[.val (.int p0), .val (.int p1), .unset, .unset, .unset, .unset, .unset] [(.int (1 : Int32)), (.ref b1), (.ref b1)])) (fun t k => XS.iconst X4.here hx rfl (hb hby at_10) k) ?_
  refine Go.to (g' := (mkF m 13 #[.val (.int p0), .val (.int p1), .unset, .unset, .unset, .unset, .unset] [(.int (10 : Int32)), (.int (1 : Int32)), (.ref b1), (.ref b1)])) (fun t k => XS.bipush X4.here hx rfl (hb hby at_11) k) ?_
  obtain ⟨cl5, Ar5, kc5, S5, M5, H5, G5⟩ := V4
  have hin5 : ¬ ((1 : Int32) < 0 ∨ cl5.slots.size ≤ ((1 : Int32)).toNatClampNeg) := inb_of S5 ⟨by decide, by decide⟩
  obtain ⟨T6, h6, X6, e6, W6, st6⟩ := stI X4 hx hZ e4 Ar5 (j := (1 : Int32)) hin5 (g := (mkF m 13 #[.val (.int p0), .val (.int p1), .unset, .unset, .unset, .unset, .unset] [(.int (10 : Int32)), (.int (1 : Int32)), (.ref b1), (.ref b1)])) rfl rfl (hb hby at_13)
  have Z6 : n0 ≤ h6.size := Nat.le_trans Z4 (Keep.of_wr W6).1
  have K6 : Keep h0 h6 [] := K4.wr W6 (Or.inr sz_b1)
  have N6 := Fr.snoc X6 N4 g_b1
  have V6 : Arv Z h6 b1 k2 .int (16 : Int32) [(.int (9 : Int32)), (.int (10 : Int32)), (.int (0 : Int32)), (.int (0 : Int32)), (.int (0 : Int32)), (.int (0 : Int32)), (.int (0 : Int32)), (.int (0 : Int32)), (.int (0 : Int32)), (.int (0 : Int32)), (.int (0 : Int32)), (.int (0 : Int32)), (.int (0 : Int32)), (.int (0 : Int32)), (.int (0 : Int32)), (.int (0 : Int32))] (.int (0 : Int32)) := Arv.set Ar5 kc5 S5 M5 H5 G5 rfl W6 1 rfl (Nat.le_of_ble_eq_true rfl)
  refine Go.to (g' := (mkF m 14 #[.val (.int p0), .val (.int p1), .unset, .unset, .unset, .unset, .unset] [(.ref b1)])) st6 ?_
  refine Go.to (g' := (mkF m 15 #[.val (.int p0), .val (.int p1), .unset, .unset, .unset, .unset, .unset] [(.ref b1), (.ref b1)])) (fun t k => XS.dup X6.here hx rfl (hb hby at_14) rfl rfl k) ?_
  refine Go.to (g' := (mkF m 16 #[.val (.int p0), .val (.int p1), .unset, .unset, .unset, .unset, .unset] [(.int (2 : Int32)), (.ref b1), (.ref b1)])) (fun t k => XS.iconst X6.here hx rfl (hb hby at_15) k) ?_
  refine Go.to (g' := (mkF m 18 #[.val (.int p0), .val (.int p1), .unset, .unset, .unset, .unset, .unset] [(.int (13 : Int32)), (.int (2 : Int32)), (.ref b1), (.ref b1)])) (fun t k => XS.bipush X6.here hx rfl (hb hby at_16) k) ?_
  obtain ⟨cl7, Ar7, kc7, S7, M7, H7, G7⟩ := V6
  have hin7 : ¬ ((2 : Int32) < 0 ∨ cl7.slots.size ≤ ((2 : Int32)).toNatClampNeg) := inb_of S7 ⟨by decide, by decide⟩
  obtain ⟨T8, h8, X8, e8, W8, st8⟩ := stI X6 hx hZ e6 Ar7 (j := (2 : Int32)) hin7 (g := (mkF m 18 #[.val (.int p0), .val (.int p1), .unset, .unset, .unset, .unset, .unset] [(.int (13 : Int32)), (.int (2 : Int32)), (.ref b1), (.ref b1)])) rfl rfl (hb hby at_18)
  have Z8 : n0 ≤ h8.size := Nat.le_trans Z6 (Keep.of_wr W8).1
  have K8 : Keep h0 h8 [] := K6.wr W8 (Or.inr sz_b1)
  have N8 := Fr.snoc X8 N6 g_b1
  have V8 : Arv Z h8 b1 k2 .int (16 : Int32) [(.int (9 : Int32)), (.int (10 : Int32)), (.int (13 : Int32)), (.int (0 : Int32)), (.int (0 : Int32)), (.int (0 : Int32)), (.int (0 : Int32)), (.int (0 : Int32)), (.int (0 : Int32)), (.int (0 : Int32)), (.int (0 : Int32)), (.int (0 : Int32)), (.int (0 : Int32)), (.int (0 : Int32)), (.int (0 : Int32)), (.int (0 : Int32))] (.int (0 : Int32)) := Arv.set Ar7 kc7 S7 M7 H7 G7 rfl W8 2 rfl (Nat.le_of_ble_eq_true rfl)
  refine Go.to (g' := (mkF m 19 #[.val (.int p0), .val (.int p1), .unset, .unset, .unset, .unset, .unset] [(.ref b1)])) st8 ?_
  refine Go.to (g' := (mkF m 20 #[.val (.int p0), .val (.int p1), .unset, .unset, .unset, .unset, .unset] [(.ref b1), (.ref b1)])) (fun t k => XS.dup X8.here hx rfl (hb hby at_19) rfl rfl k) ?_
  refine Go.to (g' := (mkF m 21 #[.val (.int p0), .val (.int p1), .unset, .unset, .unset, .unset, .unset] [(.int (3 : Int32)), (.ref b1), (.ref b1)])) (fun t k => XS.iconst X8.here hx rfl (hb hby at_20) k) ?_
  refine Go.to (g' := (mkF m 23 #[.val (.int p0), .val (.int p1), .unset, .unset, .unset, .unset, .unset] [(.int (32 : Int32)), (.int (3 : Int32)), (.ref b1), (.ref b1)])) (fun t k => XS.bipush X8.here hx rfl (hb hby at_21) k) ?_
  obtain ⟨cl9, Ar9, kc9, S9, M9, H9, G9⟩ := V8
  have hin9 : ¬ ((3 : Int32) < 0 ∨ cl9.slots.size ≤ ((3 : Int32)).toNatClampNeg) := inb_of S9 ⟨by decide, by decide⟩
  obtain ⟨T10, h10, X10, e10, W10, st10⟩ := stI X8 hx hZ e8 Ar9 (j := (3 : Int32)) hin9 (g := (mkF m 23 #[.val (.int p0), .val (.int p1), .unset, .unset, .unset, .unset, .unset] [(.int (32 : Int32)), (.int (3 : Int32)), (.ref b1), (.ref b1)])) rfl rfl (hb hby at_23)
  have Z10 : n0 ≤ h10.size := Nat.le_trans Z8 (Keep.of_wr W10).1
  have K10 : Keep h0 h10 [] := K8.wr W10 (Or.inr sz_b1)
  have N10 := Fr.snoc X10 N8 g_b1
  have V10 : Arv Z h10 b1 k2 .int (16 : Int32) [(.int (9 : Int32)), (.int (10 : Int32)), (.int (13 : Int32)), (.int (32 : Int32)), (.int (0 : Int32)), (.int (0 : Int32)), (.int (0 : Int32)), (.int (0 : Int32)), (.int (0 : Int32)), (.int (0 : Int32)), (.int (0 : Int32)), (.int (0 : Int32)), (.int (0 : Int32)), (.int (0 : Int32)), (.int (0 : Int32)), (.int (0 : Int32))] (.int (0 : Int32)) := Arv.set Ar9 kc9 S9 M9 H9 G9 rfl W10 3 rfl (Nat.le_of_ble_eq_true rfl)
  refine Go.to (g' := (mkF m 24 #[.val (.int p0), .val (.int p1), .unset, .unset, .unset, .unset, .unset] [(.ref b1)])) st10 ?_
  refine Go.to (g' := (mkF m 25 #[.val (.int p0), .val (.int p1), .unset, .unset, .unset, .unset, .unset] [(.ref b1), (.ref b1)])) (fun t k => XS.dup X10.here hx rfl (hb hby at_24) rfl rfl k) ?_
  refine Go.to (g' := (mkF m 26 #[.val (.int p0), .val (.int p1), .unset, .unset, .unset, .unset, .unset] [(.int (4 : Int32)), (.ref b1), (.ref b1)])) (fun t k => XS.iconst X10.here hx rfl (hb hby at_25) k) ?_
  refine Go.to (g' := (mkF m 28 #[.val (.int p0), .val (.int p1), .unset, .unset, .unset, .unset, .unset] [(.int (8 : Int32)), (.int (4 : Int32)), (.ref b1), (.ref b1)])) (fun t k => XS.bipush X10.here hx rfl (hb hby at_26) k) ?_
  obtain ⟨cl11, Ar11, kc11, S11, M11, H11, G11⟩ := V10
  have hin11 : ¬ ((4 : Int32) < 0 ∨ cl11.slots.size ≤ ((4 : Int32)).toNatClampNeg) := inb_of S11 ⟨by decide, by decide⟩
  obtain ⟨T12, h12, X12, e12, W12, st12⟩ := stI X10 hx hZ e10 Ar11 (j := (4 : Int32)) hin11 (g := (mkF m 28 #[.val (.int p0), .val (.int p1), .unset, .unset, .unset, .unset, .unset] [(.int (8 : Int32)), (.int (4 : Int32)), (.ref b1), (.ref b1)])) rfl rfl (hb hby at_28)
  have Z12 : n0 ≤ h12.size := Nat.le_trans Z10 (Keep.of_wr W12).1
  have K12 : Keep h0 h12 [] := K10.wr W12 (Or.inr sz_b1)
  have N12 := Fr.snoc X12 N10 g_b1
  have V12 : Arv Z h12 b1 k2 .int (16 : Int32) [(.int (9 : Int32)), (.int (10 : Int32)), (.int (13 : Int32)), (.int (32 : Int32)), (.int (8 : Int32)), (.int (0 : Int32)), (.int (0 : Int32)), (.int (0 : Int32)), (.int (0 : Int32)), (.int (0 : Int32)), (.int (0 : Int32)), (.int (0 : Int32)), (.int (0 : Int32)), (.int (0 : Int32)), (.int (0 : Int32)), (.int (0 : Int32))] (.int (0 : Int32)) := Arv.set Ar11 kc11 S11 M11 H11 G11 rfl W12 4 rfl (Nat.le_of_ble_eq_true rfl)
  refine Go.to (g' := (mkF m 29 #[.val (.int p0), .val (.int p1), .unset, .unset, .unset, .unset, .unset] [(.ref b1)])) st12 ?_
  refine Go.to (g' := (mkF m 30 #[.val (.int p0), .val (.int p1), .unset, .unset, .unset, .unset, .unset] [(.ref b1), (.ref b1)])) (fun t k => XS.dup X12.here hx rfl (hb hby at_29) rfl rfl k) ?_
  refine Go.to (g' := (mkF m 31 #[.val (.int p0), .val (.int p1), .unset, .unset, .unset, .unset, .unset] [(.int (5 : Int32)), (.ref b1), (.ref b1)])) (fun t k => XS.iconst X12.here hx rfl (hb hby at_30) k) ?_
  refine Go.to (g' := (mkF m 33 #[.val (.int p0), .val (.int p1), .unset, .unset, .unset, .unset, .unset] [(.int (11 : Int32)), (.int (5 : Int32)), (.ref b1), (.ref b1)])) (fun t k => XS.bipush X12.here hx rfl (hb hby at_31) k) ?_
  obtain ⟨cl13, Ar13, kc13, S13, M13, H13, G13⟩ := V12
  have hin13 : ¬ ((5 : Int32) < 0 ∨ cl13.slots.size ≤ ((5 : Int32)).toNatClampNeg) := inb_of S13 ⟨by decide, by decide⟩
  obtain ⟨T14, h14, X14, e14, W14, st14⟩ := stI X12 hx hZ e12 Ar13 (j := (5 : Int32)) hin13 (g := (mkF m 33 #[.val (.int p0), .val (.int p1), .unset, .unset, .unset, .unset, .unset] [(.int (11 : Int32)), (.int (5 : Int32)), (.ref b1), (.ref b1)])) rfl rfl (hb hby at_33)
  have Z14 : n0 ≤ h14.size := Nat.le_trans Z12 (Keep.of_wr W14).1
  have K14 : Keep h0 h14 [] := K12.wr W14 (Or.inr sz_b1)
  have N14 := Fr.snoc X14 N12 g_b1
  have V14 : Arv Z h14 b1 k2 .int (16 : Int32) [(.int (9 : Int32)), (.int (10 : Int32)), (.int (13 : Int32)), (.int (32 : Int32)), (.int (8 : Int32)), (.int (11 : Int32)), (.int (0 : Int32)), (.int (0 : Int32)), (.int (0 : Int32)), (.int (0 : Int32)), (.int (0 : Int32)), (.int (0 : Int32)), (.int (0 : Int32)), (.int (0 : Int32)), (.int (0 : Int32)), (.int (0 : Int32))] (.int (0 : Int32)) := Arv.set Ar13 kc13 S13 M13 H13 G13 rfl W14 5 rfl (Nat.le_of_ble_eq_true rfl)
  refine Go.to (g' := (mkF m 34 #[.val (.int p0), .val (.int p1), .unset, .unset, .unset, .unset, .unset] [(.ref b1)])) st14 ?_
  refine Go.to (g' := (mkF m 35 #[.val (.int p0), .val (.int p1), .unset, .unset, .unset, .unset, .unset] [(.ref b1), (.ref b1)])) (fun t k => XS.dup X14.here hx rfl (hb hby at_34) rfl rfl k) ?_
  refine Go.to (g' := (mkF m 37 #[.val (.int p0), .val (.int p1), .unset, .unset, .unset, .unset, .unset] [(.int (6 : Int32)), (.ref b1), (.ref b1)])) (fun t k => XS.bipush X14.here hx rfl (hb hby at_35) k) ?_
  refine Go.to (g' := (mkF m 39 #[.val (.int p0), .val (.int p1), .unset, .unset, .unset, .unset, .unset] [(.int (12 : Int32)), (.int (6 : Int32)), (.ref b1), (.ref b1)])) (fun t k => XS.bipush X14.here hx rfl (hb hby at_37) k) ?_
  obtain ⟨cl15, Ar15, kc15, S15, M15, H15, G15⟩ := V14
  have hin15 : ¬ ((6 : Int32) < 0 ∨ cl15.slots.size ≤ ((6 : Int32)).toNatClampNeg) := inb_of S15 ⟨by decide, by decide⟩
  obtain ⟨T16, h16, X16, e16, W16, st16⟩ := stI X14 hx hZ e14 Ar15 (j := (6 : Int32)) hin15 (g := (mkF m 39 #[.val (.int p0), .val (.int p1), .unset, .unset, .unset, .unset, .unset] [(.int (12 : Int32)), (.int (6 : Int32)), (.ref b1), (.ref b1)])) rfl rfl (hb hby at_39)
  have Z16 : n0 ≤ h16.size := Nat.le_trans Z14 (Keep.of_wr W16).1
  have K16 : Keep h0 h16 [] := K14.wr W16 (Or.inr sz_b1)
  have N16 := Fr.snoc X16 N14 g_b1
  have V16 : Arv Z h16 b1 k2 .int (16 : Int32) [(.int (9 : Int32)), (.int (10 : Int32)), (.int (13 : Int32)), (.int (32 : Int32)), (.int (8 : Int32)), (.int (11 : Int32)), (.int (12 : Int32)), (.int (0 : Int32)), (.int (0 : Int32)), (.int (0 : Int32)), (.int (0 : Int32)), (.int (0 : Int32)), (.int (0 : Int32)), (.int (0 : Int32)), (.int (0 : Int32)), (.int (0 : Int32))] (.int (0 : Int32)) := Arv.set Ar15 kc15 S15 M15 H15 G15 rfl W16 6 rfl (Nat.le_of_ble_eq_true rfl)
  refine Go.to (g' := (mkF m 40 #[.val (.int p0), .val (.int p1), .unset, .unset, .unset, .unset, .unset] [(.ref b1)])) st16 ?_
  refine Go.to (g' := (mkF m 41 #[.val (.int p0), .val (.int p1), .unset, .unset, .unset, .unset, .unset] [(.ref b1), (.ref b1)])) (fun t k => XS.dup X16.here hx rfl (hb hby at_40) rfl rfl k) ?_
  refine Go.to (g' := (mkF m 43 #[.val (.int p0), .val (.int p1), .unset, .unset, .unset, .unset, .unset] [(.int (7 : Int32)), (.ref b1), (.ref b1)])) (fun t k => XS.bipush X16.here hx rfl (hb hby at_41) k) ?_
  refine Go.to (g' := (mkF m 45 #[.val (.int p0), .val (.int p1), .unset, .unset, .unset, .unset, .unset] [(.int (14 : Int32)), (.int (7 : Int32)), (.ref b1), (.ref b1)])) (fun t k => XS.bipush X16.here hx rfl (hb hby at_43) k) ?_
  obtain ⟨cl17, Ar17, kc17, S17, M17, H17, G17⟩ := V16
  have hin17 : ¬ ((7 : Int32) < 0 ∨ cl17.slots.size ≤ ((7 : Int32)).toNatClampNeg) := inb_of S17 ⟨by decide, by decide⟩
  obtain ⟨T18, h18, X18, e18, W18, st18⟩ := stI X16 hx hZ e16 Ar17 (j := (7 : Int32)) hin17 (g := (mkF m 45 #[.val (.int p0), .val (.int p1), .unset, .unset, .unset, .unset, .unset] [(.int (14 : Int32)), (.int (7 : Int32)), (.ref b1), (.ref b1)])) rfl rfl (hb hby at_45)
  have Z18 : n0 ≤ h18.size := Nat.le_trans Z16 (Keep.of_wr W18).1
  have K18 : Keep h0 h18 [] := K16.wr W18 (Or.inr sz_b1)
  have N18 := Fr.snoc X18 N16 g_b1
  have V18 : Arv Z h18 b1 k2 .int (16 : Int32) [(.int (9 : Int32)), (.int (10 : Int32)), (.int (13 : Int32)), (.int (32 : Int32)), (.int (8 : Int32)), (.int (11 : Int32)), (.int (12 : Int32)), (.int (14 : Int32)), (.int (0 : Int32)), (.int (0 : Int32)), (.int (0 : Int32)), (.int (0 : Int32)), (.int (0 : Int32)), (.int (0 : Int32)), (.int (0 : Int32)), (.int (0 : Int32))] (.int (0 : Int32)) := Arv.set Ar17 kc17 S17 M17 H17 G17 rfl W18 7 rfl (Nat.le_of_ble_eq_true rfl)
  refine Go.to (g' := (mkF m 46 #[.val (.int p0), .val (.int p1), .unset, .unset, .unset, .unset, .unset] [(.ref b1)])) st18 ?_
  refine Go.to (g' := (mkF m 47 #[.val (.int p0), .val (.int p1), .unset, .unset, .unset, .unset, .unset] [(.ref b1), (.ref b1)])) (fun t k => XS.dup X18.here hx rfl (hb hby at_46) rfl rfl k) ?_
  refine Go.to (g' := (mkF m 49 #[.val (.int p0), .val (.int p1), .unset, .unset, .unset, .unset, .unset] [(.int (8 : Int32)), (.ref b1), (.ref b1)])) (fun t k => XS.bipush X18.here hx rfl (hb hby at_47) k) ?_
  refine Go.to (g' := (mkF m 51 #[.val (.int p0), .val (.int p1), .unset, .unset, .unset, .unset, .unset] [(.int (31 : Int32)), (.int (8 : Int32)), (.ref b1), (.ref b1)])) (fun t k => XS.bipush X18.here hx rfl (hb hby at_49) k) ?_
  obtain ⟨cl19, Ar19, kc19, S19, M19, H19, G19⟩ := V18
  have hin19 : ¬ ((8 : Int32) < 0 ∨ cl19.slots.size ≤ ((8 : Int32)).toNatClampNeg) := inb_of S19 ⟨by decide, by decide⟩
  obtain ⟨T20, h20, X20, e20, W20, st20⟩ := stI X18 hx hZ e18 Ar19 (j := (8 : Int32)) hin19 (g := (mkF m 51 #[.val (.int p0), .val (.int p1), .unset, .unset, .unset, .unset, .unset] [(.int (31 : Int32)), (.int (8 : Int32)), (.ref b1), (.ref b1)])) rfl rfl (hb hby at_51)
  have Z20 : n0 ≤ h20.size := Nat.le_trans Z18 (Keep.of_wr W20).1
  have K20 : Keep h0 h20 [] := K18.wr W20 (Or.inr sz_b1)
  have N20 := Fr.snoc X20 N18 g_b1
  have V20 : Arv Z h20 b1 k2 .int (16 : Int32) [(.int (9 : Int32)), (.int (10 : Int32)), (.int (13 : Int32)), (.int (32 : Int32)), (.int (8 : Int32)), (.int (11 : Int32)), (.int (12 : Int32)), (.int (14 : Int32)), (.int (31 : Int32)), (.int (0 : Int32)), (.int (0 : Int32)), (.int (0 : Int32)), (.int (0 : Int32)), (.int (0 : Int32)), (.int (0 : Int32)), (.int (0 : Int32))] (.int (0 : Int32)) := Arv.set Ar19 kc19 S19 M19 H19 G19 rfl W20 8 rfl (Nat.le_of_ble_eq_true rfl)
  refine Go.to (g' := (mkF m 52 #[.val (.int p0), .val (.int p1), .unset, .unset, .unset, .unset, .unset] [(.ref b1)])) st20 ?_
  refine Go.to (g' := (mkF m 53 #[.val (.int p0), .val (.int p1), .unset, .unset, .unset, .unset, .unset] [(.ref b1), (.ref b1)])) (fun t k => XS.dup X20.here hx rfl (hb hby at_52) rfl rfl k) ?_
  refine Go.to (g' := (mkF m 55 #[.val (.int p0), .val (.int p1), .unset, .unset, .unset, .unset, .unset] [(.int (9 : Int32)), (.ref b1), (.ref b1)])) (fun t k => XS.bipush X20.here hx rfl (hb hby at_53) k) ?_
  refine Go.to (g' := (mkF m 57 #[.val (.int p0), .val (.int p1), .unset, .unset, .unset, .unset, .unset] [(.int (33 : Int32)), (.int (9 : Int32)), (.ref b1), (.ref b1)])) (fun t k => XS.bipush X20.here hx rfl (hb hby at_55) k) ?_
  obtain ⟨cl21, Ar21, kc21, S21, M21, H21, G21⟩ := V20
  have hin21 : ¬ ((9 : Int32) < 0 ∨ cl21.slots.size ≤ ((9 : Int32)).toNatClampNeg) := inb_of S21 ⟨by decide, by decide⟩
  obtain ⟨T22, h22, X22, e22, W22, st22⟩ := stI X20 hx hZ e20 Ar21 (j := (9 : Int32)) hin21 (g := (mkF m 57 #[.val (.int p0), .val (.int p1), .unset, .unset, .unset, .unset, .unset] [(.int (33 : Int32)), (.int (9 : Int32)), (.ref b1), (.ref b1)])) rfl rfl (hb hby at_57)
  have Z22 : n0 ≤ h22.size := Nat.le_trans Z20 (Keep.of_wr W22).1
  have K22 : Keep h0 h22 [] := K20.wr W22 (Or.inr sz_b1)
  have N22 := Fr.snoc X22 N20 g_b1
  have V22 : Arv Z h22 b1 k2 .int (16 : Int32) [(.int (9 : Int32)), (.int (10 : Int32)), (.int (13 : Int32)), (.int (32 : Int32)), (.int (8 : Int32)), (.int (11 : Int32)), (.int (12 : Int32)), (.int (14 : Int32)), (.int (31 : Int32)), (.int (33 : Int32)), (.int (0 : Int32)), (.int (0 : Int32)), (.int (0 : Int32)), (.int (0 : Int32)), (.int (0 : Int32)), (.int (0 : Int32))] (.int (0 : Int32)) := Arv.set Ar21 kc21 S21 M21 H21 G21 rfl W22 9 rfl (Nat.le_of_ble_eq_true rfl)
  refine Go.to (g' := (mkF m 58 #[.val (.int p0), .val (.int p1), .unset, .unset, .unset, .unset, .unset] [(.ref b1)])) st22 ?_
  refine Go.to (g' := (mkF m 59 #[.val (.int p0), .val (.int p1), .unset, .unset, .unset, .unset, .unset] [(.ref b1), (.ref b1)])) (fun t k => XS.dup X22.here hx rfl (hb hby at_58) rfl rfl k) ?_
  refine Go.to (g' := (mkF m 61 #[.val (.int p0), .val (.int p1), .unset, .unset, .unset, .unset, .unset] [(.int (10 : Int32)), (.ref b1), (.ref b1)])) (fun t k => XS.bipush X22.here hx rfl (hb hby at_59) k) ?_
  refine Go.to (g' := (mkF m 64 #[.val (.int p0), .val (.int p1), .unset, .unset, .unset, .unset, .unset] [(.int (160 : Int32)), (.int (10 : Int32)), (.ref b1), (.ref b1)])) (fun t k => XS.sipush X22.here hx rfl (hb hby at_61) k) ?_
  obtain ⟨cl23, Ar23, kc23, S23, M23, H23, G23⟩ := V22
  have hin23 : ¬ ((10 : Int32) < 0 ∨ cl23.slots.size ≤ ((10 : Int32)).toNatClampNeg) := inb_of S23 ⟨by decide, by decide⟩
  obtain ⟨T24, h24, X24, e24, W24, st24⟩ := stI X22 hx hZ e22 Ar23 (j := (10 : Int32)) hin23 (g := (mkF m 64 #[.val (.int p0), .val (.int p1), .unset, .unset, .unset, .unset, .unset] [(.int (160 : Int32)), (.int (10 : Int32)), (.ref b1), (.ref b1)])) rfl rfl (hb hby at_64)
  have Z24 : n0 ≤ h24.size := Nat.le_trans Z22 (Keep.of_wr W24).1
  have K24 : Keep h0 h24 [] := K22.wr W24 (Or.inr sz_b1)
  have N24 := Fr.snoc X24 N22 g_b1
  have V24 : Arv Z h24 b1 k2 .int (16 : Int32) [(.int (9 : Int32)), (.int (10 : Int32)), (.int (13 : Int32)), (.int (32 : Int32)), (.int (8 : Int32)), (.int (11 : Int32)), (.int (12 : Int32)), (.int (14 : Int32)), (.int (31 : Int32)), (.int (33 : Int32)), (.int (160 : Int32)), (.int (0 : Int32)), (.int (0 : Int32)), (.int (0 : Int32)), (.int (0 : Int32)), (.int (0 : Int32))] (.int (0 : Int32)) := Arv.set Ar23 kc23 S23 M23 H23 G23 rfl W24 10 rfl (Nat.le_of_ble_eq_true rfl)
  refine Go.to (g' := (mkF m 65 #[.val (.int p0), .val (.int p1), .unset, .unset, .unset, .unset, .unset] [(.ref b1)])) st24 ?_
  refine Go.to (g' := (mkF m 66 #[.val (.int p0), .val (.int p1), .unset, .unset, .unset, .unset, .unset] [(.ref b1), (.ref b1)])) (fun t k => XS.dup X24.here hx rfl (hb hby at_65) rfl rfl k) ?_
  refine Go.to (g' := (mkF m 68 #[.val (.int p0), .val (.int p1), .unset, .unset, .unset, .unset, .unset] [(.int (11 : Int32)), (.ref b1), (.ref b1)])) (fun t k => XS.bipush X24.here hx rfl (hb hby at_66) k) ?_
  refine Go.to (g' := (mkF m 71 #[.val (.int p0), .val (.int p1), .unset, .unset, .unset, .unset, .unset] [(.int (133 : Int32)), (.int (11 : Int32)), (.ref b1), (.ref b1)])) (fun t k => XS.sipush X24.here hx rfl (hb hby at_68) k) ?_
  obtain ⟨cl25, Ar25, kc25, S25, M25, H25, G25⟩ := V24
  have hin25 : ¬ ((11 : Int32) < 0 ∨ cl25.slots.size ≤ ((11 : Int32)).toNatClampNeg) := inb_of S25 ⟨by decide, by decide⟩
  obtain ⟨T26, h26, X26, e26, W26, st26⟩ := stI X24 hx hZ e24 Ar25 (j := (11 : Int32)) hin25 (g := (mkF m 71 #[.val (.int p0), .val (.int p1), .unset, .unset, .unset, .unset, .unset] [(.int (133 : Int32)), (.int (11 : Int32)), (.ref b1), (.ref b1)])) rfl rfl (hb hby at_71)
  have Z26 : n0 ≤ h26.size := Nat.le_trans Z24 (Keep.of_wr W26).1
  have K26 : Keep h0 h26 [] := K24.wr W26 (Or.inr sz_b1)
  have N26 := Fr.snoc X26 N24 g_b1
  have V26 : Arv Z h26 b1 k2 .int (16 : Int32) [(.int (9 : Int32)), (.int (10 : Int32)), (.int (13 : Int32)), (.int (32 : Int32)), (.int (8 : Int32)), (.int (11 : Int32)), (.int (12 : Int32)), (.int (14 : Int32)), (.int (31 : Int32)), (.int (33 : Int32)), (.int (160 : Int32)), (.int (133 : Int32)), (.int (0 : Int32)), (.int (0 : Int32)), (.int (0 : Int32)), (.int (0 : Int32))] (.int (0 : Int32)) := Arv.set Ar25 kc25 S25 M25 H25 G25 rfl W26 11 rfl (Nat.le_of_ble_eq_true rfl)
  refine Go.to (g' := (mkF m 72 #[.val (.int p0), .val (.int p1), .unset, .unset, .unset, .unset, .unset] [(.ref b1)])) st26 ?_
  refine Go.to (g' := (mkF m 73 #[.val (.int p0), .val (.int p1), .unset, .unset, .unset, .unset, .unset] [(.ref b1), (.ref b1)])) (fun t k => XS.dup X26.here hx rfl (hb hby at_72) rfl rfl k) ?_
  refine Go.to (g' := (mkF m 75 #[.val (.int p0), .val (.int p1), .unset, .unset, .unset, .unset, .unset] [(.int (12 : Int32)), (.ref b1), (.ref b1)])) (fun t k => XS.bipush X26.here hx rfl (hb hby at_73) k) ?_
  refine Go.to (g' := (mkF m 77 #[.val (.int p0), .val (.int p1), .unset, .unset, .unset, .unset, .unset] [(.int (65545 : Int32)), (.int (12 : Int32)), (.ref b1), (.ref b1)])) (fun t k => X26.ldcInt hx hown (mvT hZ (hw _ (List.mem_of_getElem? (i := 1) rfl))) (g := (mkF m 75 #[.val (.int p0), .val (.int p1), .unset, .unset, .unset, .unset, .unset] [(.int (12 : Int32)), (.ref b1), (.ref b1)])) rfl (hb hby at_75) _ k) ?_
  obtain ⟨cl27, Ar27, kc27, S27, M27, H27, G27⟩ := V26
  have hin27 : ¬ ((12 : Int32) < 0 ∨ cl27.slots.size ≤ ((12 : Int32)).toNatClampNeg) := inb_of S27 ⟨by decide, by decide⟩
  obtain ⟨T28, h28, X28, e28, W28, st28⟩ := stI X26 hx hZ e26 Ar27 (j := (12 : Int32)) hin27 (g := (mkF m 77 #[.val (.int p0), .val (.int p1), .unset, .unset, .unset, .unset, .unset] [(.int (65545 : Int32)), (.int (12 : Int32)), (.ref b1), (.ref b1)])) rfl rfl (hb hby at_77)
  have Z28 : n0 ≤ h28.size := Nat.le_trans Z26 (Keep.of_wr W28).1
  have K28 : Keep h0 h28 [] := K26.wr W28 (Or.inr sz_b1)
  have N28 := Fr.snoc X28 N26 g_b1
  have V28 : Arv Z h28 b1 k2 .int (16 : Int32) [(.int (9 : Int32)), (.int (10 : Int32)), (.int (13 : Int32)), (.int (32 : Int32)), (.int (8 : Int32)), (.int (11 : Int32)), (.int (12 : Int32)), (.int (14 : Int32)), (.int (31 : Int32)), (.int (33 : Int32)), (.int (160 : Int32)), (.int (133 : Int32)), (.int (65545 : Int32)), (.int (0 : Int32)), (.int (0 : Int32)), (.int (0 : Int32))] (.int (0 : Int32)) := Arv.set Ar27 kc27 S27 M27 H27 G27 rfl W28 12 rfl (Nat.le_of_ble_eq_true rfl)
  refine Go.to (g' := (mkF m 78 #[.val (.int p0), .val (.int p1), .unset, .unset, .unset, .unset, .unset] [(.ref b1)])) st28 ?_
  refine Go.to (g' := (mkF m 79 #[.val (.int p0), .val (.int p1), .unset, .unset, .unset, .unset, .unset] [(.ref b1), (.ref b1)])) (fun t k => XS.dup X28.here hx rfl (hb hby at_78) rfl rfl k) ?_
  refine Go.to (g' := (mkF m 81 #[.val (.int p0), .val (.int p1), .unset, .unset, .unset, .unset, .unset] [(.int (13 : Int32)), (.ref b1), (.ref b1)])) (fun t k => XS.bipush X28.here hx rfl (hb hby at_79) k) ?_
  refine Go.to (g' := (mkF m 83 #[.val (.int p0), .val (.int p1), .unset, .unset, .unset, .unset, .unset] [(.int (65546 : Int32)), (.int (13 : Int32)), (.ref b1), (.ref b1)])) (fun t k => X28.ldcInt hx hown (mvT hZ (hw _ (List.mem_of_getElem? (i := 2) rfl))) (g := (mkF m 81 #[.val (.int p0), .val (.int p1), .unset, .unset, .unset, .unset, .unset] [(.int (13 : Int32)), (.ref b1), (.ref b1)])) rfl (hb hby at_81) _ k) ?_
  obtain ⟨cl29, Ar29, kc29, S29, M29, H29, G29⟩ := V28
  have hin29 : ¬ ((13 : Int32) < 0 ∨ cl29.slots.size ≤ ((13 : Int32)).toNatClampNeg) := inb_of S29 ⟨by decide, by decide⟩
  obtain ⟨T30, h30, X30, e30, W30, st30⟩ := stI X28 hx hZ e28 Ar29 (j := (13 : Int32)) hin29 (g := (mkF m 83 #[.val (.int p0), .val (.int p1), .unset, .unset, .unset, .unset, .unset] [(.int (65546 : Int32)), (.int (13 : Int32)), (.ref b1), (.ref b1)])) rfl rfl (hb hby at_83)
  have Z30 : n0 ≤ h30.size := Nat.le_trans Z28 (Keep.of_wr W30).1
  have K30 : Keep h0 h30 [] := K28.wr W30 (Or.inr sz_b1)
  have N30 := Fr.snoc X30 N28 g_b1
  have V30 : Arv Z h30 b1 k2 .int (16 : Int32) [(.int (9 : Int32)), (.int (10 : Int32)), (.int (13 : Int32)), (.int (32 : Int32)), (.int (8 : Int32)), (.int (11 : Int32)), (.int (12 : Int32)), (.int (14 : Int32)), (.int (31 : Int32)), (.int (33 : Int32)), (.int (160 : Int32)), (.int (133 : Int32)), (.int (65545 : Int32)), (.int (65546 : Int32)), (.int (0 : Int32)), (.int (0 : Int32))] (.int (0 : Int32)) := Arv.set Ar29 kc29 S29 M29 H29 G29 rfl W30 13 rfl (Nat.le_of_ble_eq_true rfl)
  refine Go.to (g' := (mkF m 84 #[.val (.int p0), .val (.int p1), .unset, .unset, .unset, .unset, .unset] [(.ref b1)])) st30 ?_
  refine Go.to (g' := (mkF m 85 #[.val (.int p0), .val (.int p1), .unset, .unset, .unset, .unset, .unset] [(.ref b1), (.ref b1)])) (fun t k => XS.dup X30.here hx rfl (hb hby at_84) rfl rfl k) ?_
  refine Go.to (g' := (mkF m 87 #[.val (.int p0), .val (.int p1), .unset, .unset, .unset, .unset, .unset] [(.int (14 : Int32)), (.ref b1), (.ref b1)])) (fun t k => XS.bipush X30.here hx rfl (hb hby at_85) k) ?_
  refine Go.to (g' := (mkF m 89 #[.val (.int p0), .val (.int p1), .unset, .unset, .unset, .unset, .unset] [(.int (65549 : Int32)), (.int (14 : Int32)), (.ref b1), (.ref b1)])) (fun t k => X30.ldcInt hx hown (mvT hZ (hw _ (List.mem_of_getElem? (i := 3) rfl))) (g := (mkF m 87 #[.val (.int p0), .val (.int p1), .unset, .unset, .unset, .unset, .unset] [(.int (14 : Int32)), (.ref b1), (.ref b1)])) rfl (hb hby at_87) _ k) ?_
  obtain ⟨cl31, Ar31, kc31, S31, M31, H31, G31⟩ := V30
  have hin31 : ¬ ((14 : Int32) < 0 ∨ cl31.slots.size ≤ ((14 : Int32)).toNatClampNeg) := inb_of S31 ⟨by decide, by decide⟩
  obtain ⟨T32, h32, X32, e32, W32, st32⟩ := stI X30 hx hZ e30 Ar31 (j := (14 : Int32)) hin31 (g := (mkF m 89 #[.val (.int p0), .val (.int p1), .unset, .unset, .unset, .unset, .unset] [(.int (65549 : Int32)), (.int (14 : Int32)), (.ref b1), (.ref b1)])) rfl rfl (hb hby at_89)
  have Z32 : n0 ≤ h32.size := Nat.le_trans Z30 (Keep.of_wr W32).1
  have K32 : Keep h0 h32 [] := K30.wr W32 (Or.inr sz_b1)
  have N32 := Fr.snoc X32 N30 g_b1
  have V32 : Arv Z h32 b1 k2 .int (16 : Int32) [(.int (9 : Int32)), (.int (10 : Int32)), (.int (13 : Int32)), (.int (32 : Int32)), (.int (8 : Int32)), (.int (11 : Int32)), (.int (12 : Int32)), (.int (14 : Int32)), (.int (31 : Int32)), (.int (33 : Int32)), (.int (160 : Int32)), (.int (133 : Int32)), (.int (65545 : Int32)), (.int (65546 : Int32)), (.int (65549 : Int32)), (.int (0 : Int32))] (.int (0 : Int32)) := Arv.set Ar31 kc31 S31 M31 H31 G31 rfl W32 14 rfl (Nat.le_of_ble_eq_true rfl)
  refine Go.to (g' := (mkF m 90 #[.val (.int p0), .val (.int p1), .unset, .unset, .unset, .unset, .unset] [(.ref b1)])) st32 ?_
  refine Go.to (g' := (mkF m 91 #[.val (.int p0), .val (.int p1), .unset, .unset, .unset, .unset, .unset] [(.ref b1), (.ref b1)])) (fun t k => XS.dup X32.here hx rfl (hb hby at_90) rfl rfl k) ?_
  refine Go.to (g' := (mkF m 93 #[.val (.int p0), .val (.int p1), .unset, .unset, .unset, .unset, .unset] [(.int (15 : Int32)), (.ref b1), (.ref b1)])) (fun t k => XS.bipush X32.here hx rfl (hb hby at_91) k) ?_
  refine Go.to (g' := (mkF m 95 #[.val (.int p0), .val (.int p1), .unset, .unset, .unset, .unset, .unset] [(.int (65568 : Int32)), (.int (15 : Int32)), (.ref b1), (.ref b1)])) (fun t k => X32.ldcInt hx hown (mvT hZ (hw _ (List.mem_of_getElem? (i := 4) rfl))) (g := (mkF m 93 #[.val (.int p0), .val (.int p1), .unset, .unset, .unset, .unset, .unset] [(.int (15 : Int32)), (.ref b1), (.ref b1)])) rfl (hb hby at_93) _ k) ?_
  obtain ⟨cl33, Ar33, kc33, S33, M33, H33, G33⟩ := V32
  have hin33 : ¬ ((15 : Int32) < 0 ∨ cl33.slots.size ≤ ((15 : Int32)).toNatClampNeg) := inb_of S33 ⟨by decide, by decide⟩
  obtain ⟨T34, h34, X34, e34, W34, st34⟩ := stI X32 hx hZ e32 Ar33 (j := (15 : Int32)) hin33 (g := (mkF m 95 #[.val (.int p0), .val (.int p1), .unset, .unset, .unset, .unset, .unset] [(.int (65568 : Int32)), (.int (15 : Int32)), (.ref b1), (.ref b1)])) rfl rfl (hb hby at_95)
  have Z34 : n0 ≤ h34.size := Nat.le_trans Z32 (Keep.of_wr W34).1
  have K34 : Keep h0 h34 [] := K32.wr W34 (Or.inr sz_b1)
  have N34 := Fr.snoc X34 N32 g_b1
  have V34 : Arv Z h34 b1 k2 .int (16 : Int32) [(.int (9 : Int32)), (.int (10 : Int32)), (.int (13 : Int32)), (.int (32 : Int32)), (.int (8 : Int32)), (.int (11 : Int32)), (.int (12 : Int32)), (.int (14 : Int32)), (.int (31 : Int32)), (.int (33 : Int32)), (.int (160 : Int32)), (.int (133 : Int32)), (.int (65545 : Int32)), (.int (65546 : Int32)), (.int (65549 : Int32)), (.int (65568 : Int32))] (.int (0 : Int32)) := Arv.set Ar33 kc33 S33 M33 H33 G33 rfl W34 15 rfl (Nat.le_of_ble_eq_true rfl)
  refine Go.to (g' := (mkF m 96 #[.val (.int p0), .val (.int p1), .unset, .unset, .unset, .unset, .unset] [(.ref b1)])) st34 ?_
  refine Go.to (g' := (mkF m 97 #[.val (.int p0), .val (.int p1), .val (.ref b1), .unset, .unset, .unset, .unset] [])) (fun t k => XS.astoreN X34.here hx rfl (hb hby at_96) rfl rfl (l' := #[.val (.int p0), .val (.int p1), .val (.ref b1), .unset, .unset, .unset, .unset]) rfl k) ?_
  refine Go.to (g' := (mkF m 98 #[.val (.int p0), .val (.int p1), .val (.ref b1), .unset, .unset, .unset, .unset] [(.int p1)])) (fun t k => XS.iloadN X34.here hx rfl (hb hby at_97) rfl k) ?_
  refine Go.to (g' := (mkF m 99 #[.val (.int p0), .val (.int p1), .val (.ref b1), .unset, .unset, .unset, .unset] [(.int (4 : Int32)), (.int p1)])) (fun t k => XS.iconst X34.here hx rfl (hb hby at_98) k) ?_
  refine Go.to (g' := (mkF m 100 #[.val (.int p0), .val (.int p1), .val (.ref b1), .unset, .unset, .unset, .unset] [(.int ((p1.toUInt32 >>> ((4 : Int32) &&& 31).toUInt32).toInt32))])) (fun t k => XS.iushr X34.here hx rfl (hb hby at_99) rfl k) ?_
  refine Go.to (g' := (mkF m 101 #[.val (.int p0), .val (.int p1), .val (.ref b1), .unset, .unset, .unset, .unset] [(.int (1 : Int32)), (.int ((p1.toUInt32 >>> ((4 : Int32) &&& 31).toUInt32).toInt32))])) (fun t k => XS.iconst X34.here hx rfl (hb hby at_100) k) ?_
  refine Go.to (g' := (mkF m 102 #[.val (.int p0), .val (.int p1), .val (.ref b1), .unset, .unset, .unset, .unset] [(.int (((p1.toUInt32 >>> ((4 : Int32) &&& 31).toUInt32).toInt32) &&& (1 : Int32)))])) (fun t k => XS.iand X34.here hx rfl (hb hby at_101) rfl k) ?_
  suffices J : ∀ ch : Int32, Go p e below s (Q0 Z p0 p1 h0 n0) room_1.cells room_1.slots (T34.setTop (mkF m 117 #[.val (.int p0), .val (.int p1), .val (.ref b1), .val (.int ch), .unset, .unset, .unset] [])) by
    by_cases c35 : (((p1.toUInt32 >>> ((4 : Int32) &&& 31).toUInt32).toInt32) &&& (1 : Int32)) = (0 : Int32)
    · refine Go.to (g' := (mkF m 105 #[.val (.int p0), .val (.int p1), .val (.ref b1), .unset, .unset, .unset, .unset] [])) (fun t k => XS.ifNo X34.here hx rfl (hb hby at_102) rfl ((if0 _ _).trans (teq c35).2) k) ?_
      refine Go.to (g' := (mkF m 106 #[.val (.int p0), .val (.int p1), .val (.ref b1), .unset, .unset, .unset, .unset] [(.ref b1)])) (fun t k => XS.aloadN X34.here hx rfl (hb hby at_105) rfl rfl k) ?_
      refine Go.to (g' := (mkF m 107 #[.val (.int p0), .val (.int p1), .val (.ref b1), .unset, .unset, .unset, .unset] [(.int p1), (.ref b1)])) (fun t k => XS.iloadN X34.here hx rfl (hb hby at_106) rfl k) ?_
      refine Go.to (g' := (mkF m 109 #[.val (.int p0), .val (.int p1), .val (.ref b1), .unset, .unset, .unset, .unset] [(.int (15 : Int32)), (.int p1), (.ref b1)])) (fun t k => XS.bipush X34.here hx rfl (hb hby at_107) k) ?_
      refine Go.to (g' := (mkF m 110 #[.val (.int p0), .val (.int p1), .val (.ref b1), .unset, .unset, .unset, .unset] [(.int (p1 &&& (15 : Int32))), (.ref b1)])) (fun t k => XS.iand X34.here hx rfl (hb hby at_109) rfl k) ?_
      obtain ⟨cl36, Ar36, kc36, S36, M36, H36, G36⟩ := id V34
      obtain ⟨xv, hat36⟩ := own_int (z := 0) H36 G36 (inb_of S36 (own_idx _))
      refine Go.to (g' := (mkF m 111 #[.val (.int p0), .val (.int p1), .val (.ref b1), .unset, .unset, .unset, .unset] [(.int xv)])) (fun t k => X34.iaload hx (j := (p1 &&& (15 : Int32))) (v := (.int xv)) (by rw [e34]; exact Ar36.1) (State.isArrayOf_alike hZ.alike Ar36.2.1) Ar36.2.2 (inb_of S36 (own_idx _)) hat36 (g := (mkF m 110 #[.val (.int p0), .val (.int p1), .val (.ref b1), .unset, .unset, .unset, .unset] [(.int (p1 &&& (15 : Int32))), (.ref b1)])) rfl rfl (hb hby at_110) _ k) ?_
      refine Go.to (g' := (mkF m 112 #[.val (.int p0), .val (.int p1), .val (.ref b1), .val (.int xv), .unset, .unset, .unset] [])) (fun t k => XS.istoreN X34.here hx rfl (hb hby at_111) rfl (l' := #[.val (.int p0), .val (.int p1), .val (.ref b1), .val (.int xv), .unset, .unset, .unset]) rfl k) ?_
      refine Go.to (g' := (mkF m 117 #[.val (.int p0), .val (.int p1), .val (.ref b1), .val (.int xv), .unset, .unset, .unset] [])) (fun t k => XS.goto X34.here hx rfl (pc0 := 112) (pc' := 117) rfl (hb hby at_112) (by decide) (by decide) k) ?_
      exact J _
    · refine Go.to (g' := (mkF m 115 #[.val (.int p0), .val (.int p1), .val (.ref b1), .unset, .unset, .unset, .unset] [])) (fun t k => XS.ifYes X34.here hx rfl (pc0 := 102) (pc' := 115) rfl (hb hby at_102) rfl ((if0 _ _).trans (feq c35).2) (by decide) (by decide) k) ?_
      refine Go.to (g' := (mkF m 116 #[.val (.int p0), .val (.int p1), .val (.ref b1), .unset, .unset, .unset, .unset] [(.int p0)])) (fun t k => XS.iloadN X34.here hx rfl (hb hby at_115) rfl k) ?_
      refine Go.to (g' := (mkF m 117 #[.val (.int p0), .val (.int p1), .val (.ref b1), .val (.int p0), .unset, .unset, .unset] [])) (fun t k => XS.istoreN X34.here hx rfl (hb hby at_116) rfl (l' := #[.val (.int p0), .val (.int p1), .val (.ref b1), .val (.int p0), .unset, .unset, .unset]) rfl k) ?_
      exact J _
  intro ch
  refine Go.to (g' := (mkF m 120 #[.val (.int p0), .val (.int p1), .val (.ref b1), .val (.int ch), .unset, .unset, .unset] [(.long (4294977024 : Int64))])) (fun t k => X34.ldc2Long hx hown (mvT hZ (hw _ (List.mem_of_getElem? (i := 5) rfl))) (g := (mkF m 117 #[.val (.int p0), .val (.int p1), .val (.ref b1), .val (.int ch), .unset, .unset, .unset] [])) rfl (hb hby at_117) _ k) ?_
  refine Go.to (g' := (mkF m 122 #[.val (.int p0), .val (.int p1), .val (.ref b1), .val (.int ch), .val (.long (4294977024 : Int64)), .second, .unset] [])) (fun t k => XS.lstore X34.here hx rfl (hb hby at_120) rfl (l' := #[.val (.int p0), .val (.int p1), .val (.ref b1), .val (.int ch), .val (.long (4294977024 : Int64)), .second, .unset]) rfl k) ?_
  refine Go.to (g' := (mkF m 123 #[.val (.int p0), .val (.int p1), .val (.ref b1), .val (.int ch), .val (.long (4294977024 : Int64)), .second, .unset] [(.int ch)])) (fun t k => XS.iloadN X34.here hx rfl (hb hby at_122) rfl k) ?_
  by_cases c37 : ch < (0 : Int32)
  · refine Go.to (g' := (mkF m 147 #[.val (.int p0), .val (.int p1), .val (.ref b1), .val (.int ch), .val (.long (4294977024 : Int64)), .second, .unset] [])) (fun t k => XS.ifYes X34.here hx rfl (pc0 := 123) (pc' := 147) rfl (hb hby at_123) rfl ((if0 _ _).trans (tlt c37).1) (by decide) (by decide) k) ?_
    refine Go.to (g' := (mkF m 148 #[.val (.int p0), .val (.int p1), .val (.ref b1), .val (.int ch), .val (.long (4294977024 : Int64)), .second, .unset] [(.int (0 : Int32))])) (fun t k => XS.iconst X34.here hx rfl (hb hby at_147) k) ?_
    refine Go.to (g' := (mkF m 150 #[.val (.int p0), .val (.int p1), .val (.ref b1), .val (.int ch), .val (.long (4294977024 : Int64)), .second, .val (.int (0 : Int32))] [])) (fun t k => XS.istore X34.here hx rfl (hb hby at_148) rfl (l' := #[.val (.int p0), .val (.int p1), .val (.ref b1), .val (.int ch), .val (.long (4294977024 : Int64)), .second, .val (.int (0 : Int32))]) rfl k) ?_
    refine Go.to (g' := (mkF m 151 #[.val (.int p0), .val (.int p1), .val (.ref b1), .val (.int ch), .val (.long (4294977024 : Int64)), .second, .val (.int (0 : Int32))] [(.int ch)])) (fun t k => XS.iloadN X34.here hx rfl (hb hby at_150) rfl k) ?_
    obtain ⟨v38, _, ⟨T38, L38, k38, n38⟩, -, X38, ⟨Lc38, hQ38, l38, y38, z38⟩, st38⟩ := Jvm.LawKit.callS X34 hx (y := (⟨"com/example/descant/descant/xml/XmlNames", "isWhiteSpace", "(I)Z"⟩ : MethodName)) hown (mvT hZ (hw _ (List.mem_of_getElem? (i := 6) rfl))) (mvT hZ (hw _ (List.mem_of_getElem? (i := 7) rfl))) (mvT hZ (hw _ (List.mem_of_getElem? (i := 8) rfl))) (mvT hZ (hw _ (List.mem_of_getElem? (i := 9) rfl))) (by decide) (backOf (W := 0) (rm1 l Z aw hw [] ch  h34 n0 Z34 ) hZ (hw _ (List.mem_of_getElem? (i := 9) rfl)) (hw _ (List.mem_of_getElem? (i := 8) rfl)) (by decide) (by decide)) (g := (mkF m 151 #[.val (.int p0), .val (.int p1), .val (.ref b1), .val (.int ch), .val (.long (4294977024 : Int64)), .second, .val (.int (0 : Int32))] [(.int ch)])) rfl (by rw [hml]; rfl) (argsL := [(.int ch)]) (rest := []) (lenOf pd_28I29Z rfl) rfl (by show 2 * 0 + _ ≤ _; exact Nat.le_of_eq rfl) (hb hby at_151) (fun _ _ => ⟨rfl, e34, (by decide : 1 + 0 ≤ _), (by decide : 16 + 0 ≤ _)⟩)
    dsimp only [Pt.U, Pt.locs, Pt.cells, Pt.slots] at X38 l38 y38 z38 st38 hQ38
    subst l38 y38 z38
    obtain ⟨rfl, N38q, e38⟩ := hQ38
    have N38 := Fr.app N34 N38q
    refine Go.to (g' := (mkF m 154 #[.val (.int p0), .val (.int p1), .val (.ref b1), .val (.int ch), .val (.long (4294977024 : Int64)), .second, .val (.int (0 : Int32))] [(.int (own_ws ch))])) st38 ?_
    refine Go.to (g' := (mkF m 156 #[.val (.int p0), .val (.int p1), .val (.ref b1), .val (.int ch), .val (.long (4294977024 : Int64)), .second, .val (.int (0 : Int32))] [(.int (0 : Int32)), (.int (own_ws ch))])) (fun t k => XS.iload X38.here hx rfl (hb hby at_154) rfl k) ?_
    refine Go.to (g' := (mkF m 159 #[.val (.int p0), .val (.int p1), .val (.ref b1), .val (.int ch), .val (.long (4294977024 : Int64)), .second, .val (.int (0 : Int32))] [])) (fun t k => XS.icmpNo X38.here hx rfl (hb hby at_156) rfl (teq (own_ws0 (own_wn (Or.inl c37)))).2 k) ?_
    refine Go.to (g' := (mkF m 160 #[.val (.int p0), .val (.int p1), .val (.ref b1), .val (.int ch), .val (.long (4294977024 : Int64)), .second, .val (.int (0 : Int32))] [(.int (1 : Int32))])) (fun t k => XS.iconst X38.here hx rfl (hb hby at_159) k) ?_
    refine Go.to (g' := (mkF m 164 #[.val (.int p0), .val (.int p1), .val (.ref b1), .val (.int ch), .val (.long (4294977024 : Int64)), .second, .val (.int (0 : Int32))] [(.int (1 : Int32))])) (fun t k => XS.goto X38.here hx rfl (pc0 := 160) (pc' := 164) rfl (hb hby at_160) (by decide) (by decide) k) ?_
    exact Go.retN X38 hx (t := .boolean) Bd.returns Bd.notSynchronized (by simp) (hb hby at_164) (by decide) (by decide) e38 ⟨rfl, N38⟩
  · refine Go.to (g' := (mkF m 126 #[.val (.int p0), .val (.int p1), .val (.ref b1), .val (.int ch), .val (.long (4294977024 : Int64)), .second, .unset] [])) (fun t k => XS.ifNo X34.here hx rfl (hb hby at_123) rfl ((if0 _ _).trans (flt c37).1) k) ?_
    refine Go.to (g' := (mkF m 127 #[.val (.int p0), .val (.int p1), .val (.ref b1), .val (.int ch), .val (.long (4294977024 : Int64)), .second, .unset] [(.int ch)])) (fun t k => XS.iloadN X34.here hx rfl (hb hby at_126) rfl k) ?_
    refine Go.to (g' := (mkF m 129 #[.val (.int p0), .val (.int p1), .val (.ref b1), .val (.int ch), .val (.long (4294977024 : Int64)), .second, .unset] [(.int (64 : Int32)), (.int ch)])) (fun t k => XS.bipush X34.here hx rfl (hb hby at_127) k) ?_
    by_cases c39 : ch < (64 : Int32)
    · refine Go.to (g' := (mkF m 132 #[.val (.int p0), .val (.int p1), .val (.ref b1), .val (.int ch), .val (.long (4294977024 : Int64)), .second, .unset] [])) (fun t k => XS.icmpNo X34.here hx rfl (hb hby at_129) rfl (tlt c39).2.1 k) ?_
      refine Go.to (g' := (mkF m 134 #[.val (.int p0), .val (.int p1), .val (.ref b1), .val (.int ch), .val (.long (4294977024 : Int64)), .second, .unset] [(.long (4294977024 : Int64))])) (fun t k => XS.lload X34.here hx rfl (hb hby at_132) rfl k) ?_
      refine Go.to (g' := (mkF m 135 #[.val (.int p0), .val (.int p1), .val (.ref b1), .val (.int ch), .val (.long (4294977024 : Int64)), .second, .unset] [(.int ch), (.long (4294977024 : Int64))])) (fun t k => XS.iloadN X34.here hx rfl (hb hby at_134) rfl k) ?_
      refine Go.to (g' := (mkF m 136 #[.val (.int p0), .val (.int p1), .val (.ref b1), .val (.int ch), .val (.long (4294977024 : Int64)), .second, .unset] [(.long (((4294977024 : Int64).toUInt64 >>> (ch &&& 0x3f).toInt64.toUInt64).toInt64))])) (fun t k => XS.lushr X34.here hx rfl (hb hby at_135) rfl k) ?_
      refine Go.to (g' := (mkF m 137 #[.val (.int p0), .val (.int p1), .val (.ref b1), .val (.int ch), .val (.long (4294977024 : Int64)), .second, .unset] [(.long (1 : Int64)), (.long (((4294977024 : Int64).toUInt64 >>> (ch &&& 0x3f).toInt64.toUInt64).toInt64))])) (fun t k => XS.lconst X34.here hx rfl (hb hby at_136) k) ?_
      refine Go.to (g' := (mkF m 138 #[.val (.int p0), .val (.int p1), .val (.ref b1), .val (.int ch), .val (.long (4294977024 : Int64)), .second, .unset] [(.long ((((4294977024 : Int64).toUInt64 >>> (ch &&& 0x3f).toInt64.toUInt64).toInt64) &&& (1 : Int64)))])) (fun t k => XS.land X34.here hx rfl (hb hby at_137) rfl k) ?_
      refine Go.to (g' := (mkF m 139 #[.val (.int p0), .val (.int p1), .val (.ref b1), .val (.int ch), .val (.long (4294977024 : Int64)), .second, .unset] [(.long (0 : Int64)), (.long ((((4294977024 : Int64).toUInt64 >>> (ch &&& 0x3f).toInt64.toUInt64).toInt64) &&& (1 : Int64)))])) (fun t k => XS.lconst X34.here hx rfl (hb hby at_138) k) ?_
      refine Go.to (g' := (mkF m 140 #[.val (.int p0), .val (.int p1), .val (.ref b1), .val (.int ch), .val (.long (4294977024 : Int64)), .second, .unset] [(.int (lcmpW ((((4294977024 : Int64).toUInt64 >>> (ch &&& 0x3f).toInt64.toUInt64).toInt64) &&& (1 : Int64)) (0 : Int64)))])) (fun t k => XS.lcmp X34.here hx rfl (hb hby at_139) rfl k) ?_
      by_cases c40 : ((((4294977024 : Int64).toUInt64 >>> (ch &&& 0x3f).toInt64.toUInt64).toInt64) &&& (1 : Int64)) = (0 : Int64)
      · refine Go.to (g' := (mkF m 147 #[.val (.int p0), .val (.int p1), .val (.ref b1), .val (.int ch), .val (.long (4294977024 : Int64)), .second, .unset] [])) (fun t k => XS.ifYes X34.here hx rfl (pc0 := 140) (pc' := 147) rfl (hb hby at_140) rfl ((if0 _ _).trans (teq ((lw_eq ((((4294977024 : Int64).toUInt64 >>> (ch &&& 0x3f).toInt64.toUInt64).toInt64) &&& (1 : Int64)) (0 : Int64)).mpr c40)).1) (by decide) (by decide) k) ?_
        refine Go.to (g' := (mkF m 148 #[.val (.int p0), .val (.int p1), .val (.ref b1), .val (.int ch), .val (.long (4294977024 : Int64)), .second, .unset] [(.int (0 : Int32))])) (fun t k => XS.iconst X34.here hx rfl (hb hby at_147) k) ?_
        refine Go.to (g' := (mkF m 150 #[.val (.int p0), .val (.int p1), .val (.ref b1), .val (.int ch), .val (.long (4294977024 : Int64)), .second, .val (.int (0 : Int32))] [])) (fun t k => XS.istore X34.here hx rfl (hb hby at_148) rfl (l' := #[.val (.int p0), .val (.int p1), .val (.ref b1), .val (.int ch), .val (.long (4294977024 : Int64)), .second, .val (.int (0 : Int32))]) rfl k) ?_
        refine Go.to (g' := (mkF m 151 #[.val (.int p0), .val (.int p1), .val (.ref b1), .val (.int ch), .val (.long (4294977024 : Int64)), .second, .val (.int (0 : Int32))] [(.int ch)])) (fun t k => XS.iloadN X34.here hx rfl (hb hby at_150) rfl k) ?_
        obtain ⟨v41, _, ⟨T41, L41, k41, n41⟩, -, X41, ⟨Lc41, hQ41, l41, y41, z41⟩, st41⟩ := Jvm.LawKit.callS X34 hx (y := (⟨"com/example/descant/descant/xml/XmlNames", "isWhiteSpace", "(I)Z"⟩ : MethodName)) hown (mvT hZ (hw _ (List.mem_of_getElem? (i := 6) rfl))) (mvT hZ (hw _ (List.mem_of_getElem? (i := 7) rfl))) (mvT hZ (hw _ (List.mem_of_getElem? (i := 8) rfl))) (mvT hZ (hw _ (List.mem_of_getElem? (i := 9) rfl))) (by decide) (backOf (W := 0) (rm1 l Z aw hw [] ch  h34 n0 Z34 ) hZ (hw _ (List.mem_of_getElem? (i := 9) rfl)) (hw _ (List.mem_of_getElem? (i := 8) rfl)) (by decide) (by decide)) (g := (mkF m 151 #[.val (.int p0), .val (.int p1), .val (.ref b1), .val (.int ch), .val (.long (4294977024 : Int64)), .second, .val (.int (0 : Int32))] [(.int ch)])) rfl (by rw [hml]; rfl) (argsL := [(.int ch)]) (rest := []) (lenOf pd_28I29Z rfl) rfl (by show 2 * 0 + _ ≤ _; exact Nat.le_of_eq rfl) (hb hby at_151) (fun _ _ => ⟨rfl, e34, (by decide : 1 + 0 ≤ _), (by decide : 16 + 0 ≤ _)⟩)
        dsimp only [Pt.U, Pt.locs, Pt.cells, Pt.slots] at X41 l41 y41 z41 st41 hQ41
        subst l41 y41 z41
        obtain ⟨rfl, N41q, e41⟩ := hQ41
        have N41 := Fr.app N34 N41q
        refine Go.to (g' := (mkF m 154 #[.val (.int p0), .val (.int p1), .val (.ref b1), .val (.int ch), .val (.long (4294977024 : Int64)), .second, .val (.int (0 : Int32))] [(.int (own_ws ch))])) st41 ?_
        refine Go.to (g' := (mkF m 156 #[.val (.int p0), .val (.int p1), .val (.ref b1), .val (.int ch), .val (.long (4294977024 : Int64)), .second, .val (.int (0 : Int32))] [(.int (0 : Int32)), (.int (own_ws ch))])) (fun t k => XS.iload X41.here hx rfl (hb hby at_154) rfl k) ?_
        refine Go.to (g' := (mkF m 159 #[.val (.int p0), .val (.int p1), .val (.ref b1), .val (.int ch), .val (.long (4294977024 : Int64)), .second, .val (.int (0 : Int32))] [])) (fun t k => XS.icmpNo X41.here hx rfl (hb hby at_156) rfl (teq (own_b0 c37 c39 c40)).2 k) ?_
        refine Go.to (g' := (mkF m 160 #[.val (.int p0), .val (.int p1), .val (.ref b1), .val (.int ch), .val (.long (4294977024 : Int64)), .second, .val (.int (0 : Int32))] [(.int (1 : Int32))])) (fun t k => XS.iconst X41.here hx rfl (hb hby at_159) k) ?_
        refine Go.to (g' := (mkF m 164 #[.val (.int p0), .val (.int p1), .val (.ref b1), .val (.int ch), .val (.long (4294977024 : Int64)), .second, .val (.int (0 : Int32))] [(.int (1 : Int32))])) (fun t k => XS.goto X41.here hx rfl (pc0 := 160) (pc' := 164) rfl (hb hby at_160) (by decide) (by decide) k) ?_
        exact Go.retN X41 hx (t := .boolean) Bd.returns Bd.notSynchronized (by simp) (hb hby at_164) (by decide) (by decide) e41 ⟨rfl, N41⟩
      · refine Go.to (g' := (mkF m 143 #[.val (.int p0), .val (.int p1), .val (.ref b1), .val (.int ch), .val (.long (4294977024 : Int64)), .second, .unset] [])) (fun t k => XS.ifNo X34.here hx rfl (hb hby at_140) rfl ((if0 _ _).trans (feq (fun q => c40 ((lw_eq ((((4294977024 : Int64).toUInt64 >>> (ch &&& 0x3f).toInt64.toUInt64).toInt64) &&& (1 : Int64)) (0 : Int64)).mp q))).1) k) ?_
        refine Go.to (g' := (mkF m 144 #[.val (.int p0), .val (.int p1), .val (.ref b1), .val (.int ch), .val (.long (4294977024 : Int64)), .second, .unset] [(.int (1 : Int32))])) (fun t k => XS.iconst X34.here hx rfl (hb hby at_143) k) ?_
        refine Go.to (g' := (mkF m 148 #[.val (.int p0), .val (.int p1), .val (.ref b1), .val (.int ch), .val (.long (4294977024 : Int64)), .second, .unset] [(.int (1 : Int32))])) (fun t k => XS.goto X34.here hx rfl (pc0 := 144) (pc' := 148) rfl (hb hby at_144) (by decide) (by decide) k) ?_
        refine Go.to (g' := (mkF m 150 #[.val (.int p0), .val (.int p1), .val (.ref b1), .val (.int ch), .val (.long (4294977024 : Int64)), .second, .val (.int (1 : Int32))] [])) (fun t k => XS.istore X34.here hx rfl (hb hby at_148) rfl (l' := #[.val (.int p0), .val (.int p1), .val (.ref b1), .val (.int ch), .val (.long (4294977024 : Int64)), .second, .val (.int (1 : Int32))]) rfl k) ?_
        refine Go.to (g' := (mkF m 151 #[.val (.int p0), .val (.int p1), .val (.ref b1), .val (.int ch), .val (.long (4294977024 : Int64)), .second, .val (.int (1 : Int32))] [(.int ch)])) (fun t k => XS.iloadN X34.here hx rfl (hb hby at_150) rfl k) ?_
        obtain ⟨v42, _, ⟨T42, L42, k42, n42⟩, -, X42, ⟨Lc42, hQ42, l42, y42, z42⟩, st42⟩ := Jvm.LawKit.callS X34 hx (y := (⟨"com/example/descant/descant/xml/XmlNames", "isWhiteSpace", "(I)Z"⟩ : MethodName)) hown (mvT hZ (hw _ (List.mem_of_getElem? (i := 6) rfl))) (mvT hZ (hw _ (List.mem_of_getElem? (i := 7) rfl))) (mvT hZ (hw _ (List.mem_of_getElem? (i := 8) rfl))) (mvT hZ (hw _ (List.mem_of_getElem? (i := 9) rfl))) (by decide) (backOf (W := 0) (rm1 l Z aw hw [] ch  h34 n0 Z34 ) hZ (hw _ (List.mem_of_getElem? (i := 9) rfl)) (hw _ (List.mem_of_getElem? (i := 8) rfl)) (by decide) (by decide)) (g := (mkF m 151 #[.val (.int p0), .val (.int p1), .val (.ref b1), .val (.int ch), .val (.long (4294977024 : Int64)), .second, .val (.int (1 : Int32))] [(.int ch)])) rfl (by rw [hml]; rfl) (argsL := [(.int ch)]) (rest := []) (lenOf pd_28I29Z rfl) rfl (by show 2 * 0 + _ ≤ _; exact Nat.le_of_eq rfl) (hb hby at_151) (fun _ _ => ⟨rfl, e34, (by decide : 1 + 0 ≤ _), (by decide : 16 + 0 ≤ _)⟩)
        dsimp only [Pt.U, Pt.locs, Pt.cells, Pt.slots] at X42 l42 y42 z42 st42 hQ42
        subst l42 y42 z42
        obtain ⟨rfl, N42q, e42⟩ := hQ42
        have N42 := Fr.app N34 N42q
        refine Go.to (g' := (mkF m 154 #[.val (.int p0), .val (.int p1), .val (.ref b1), .val (.int ch), .val (.long (4294977024 : Int64)), .second, .val (.int (1 : Int32))] [(.int (own_ws ch))])) st42 ?_
        refine Go.to (g' := (mkF m 156 #[.val (.int p0), .val (.int p1), .val (.ref b1), .val (.int ch), .val (.long (4294977024 : Int64)), .second, .val (.int (1 : Int32))] [(.int (1 : Int32)), (.int (own_ws ch))])) (fun t k => XS.iload X42.here hx rfl (hb hby at_154) rfl k) ?_
        refine Go.to (g' := (mkF m 159 #[.val (.int p0), .val (.int p1), .val (.ref b1), .val (.int ch), .val (.long (4294977024 : Int64)), .second, .val (.int (1 : Int32))] [])) (fun t k => XS.icmpNo X42.here hx rfl (hb hby at_156) rfl (teq (own_b1 c37 c39 c40)).2 k) ?_
        refine Go.to (g' := (mkF m 160 #[.val (.int p0), .val (.int p1), .val (.ref b1), .val (.int ch), .val (.long (4294977024 : Int64)), .second, .val (.int (1 : Int32))] [(.int (1 : Int32))])) (fun t k => XS.iconst X42.here hx rfl (hb hby at_159) k) ?_
        refine Go.to (g' := (mkF m 164 #[.val (.int p0), .val (.int p1), .val (.ref b1), .val (.int ch), .val (.long (4294977024 : Int64)), .second, .val (.int (1 : Int32))] [(.int (1 : Int32))])) (fun t k => XS.goto X42.here hx rfl (pc0 := 160) (pc' := 164) rfl (hb hby at_160) (by decide) (by decide) k) ?_
        exact Go.retN X42 hx (t := .boolean) Bd.returns Bd.notSynchronized (by simp) (hb hby at_164) (by decide) (by decide) e42 ⟨rfl, N42⟩
    · refine Go.to (g' := (mkF m 147 #[.val (.int p0), .val (.int p1), .val (.ref b1), .val (.int ch), .val (.long (4294977024 : Int64)), .second, .unset] [])) (fun t k => XS.icmpYes X34.here hx rfl (pc0 := 129) (pc' := 147) rfl (hb hby at_129) rfl (flt c39).2.1 (by decide) (by decide) k) ?_
      refine Go.to (g' := (mkF m 148 #[.val (.int p0), .val (.int p1), .val (.ref b1), .val (.int ch), .val (.long (4294977024 : Int64)), .second, .unset] [(.int (0 : Int32))])) (fun t k => XS.iconst X34.here hx rfl (hb hby at_147) k) ?_
      refine Go.to (g' := (mkF m 150 #[.val (.int p0), .val (.int p1), .val (.ref b1), .val (.int ch), .val (.long (4294977024 : Int64)), .second, .val (.int (0 : Int32))] [])) (fun t k => XS.istore X34.here hx rfl (hb hby at_148) rfl (l' := #[.val (.int p0), .val (.int p1), .val (.ref b1), .val (.int ch), .val (.long (4294977024 : Int64)), .second, .val (.int (0 : Int32))]) rfl k) ?_
      refine Go.to (g' := (mkF m 151 #[.val (.int p0), .val (.int p1), .val (.ref b1), .val (.int ch), .val (.long (4294977024 : Int64)), .second, .val (.int (0 : Int32))] [(.int ch)])) (fun t k => XS.iloadN X34.here hx rfl (hb hby at_150) rfl k) ?_
      obtain ⟨v43, _, ⟨T43, L43, k43, n43⟩, -, X43, ⟨Lc43, hQ43, l43, y43, z43⟩, st43⟩ := Jvm.LawKit.callS X34 hx (y := (⟨"com/example/descant/descant/xml/XmlNames", "isWhiteSpace", "(I)Z"⟩ : MethodName)) hown (mvT hZ (hw _ (List.mem_of_getElem? (i := 6) rfl))) (mvT hZ (hw _ (List.mem_of_getElem? (i := 7) rfl))) (mvT hZ (hw _ (List.mem_of_getElem? (i := 8) rfl))) (mvT hZ (hw _ (List.mem_of_getElem? (i := 9) rfl))) (by decide) (backOf (W := 0) (rm1 l Z aw hw [] ch  h34 n0 Z34 ) hZ (hw _ (List.mem_of_getElem? (i := 9) rfl)) (hw _ (List.mem_of_getElem? (i := 8) rfl)) (by decide) (by decide)) (g := (mkF m 151 #[.val (.int p0), .val (.int p1), .val (.ref b1), .val (.int ch), .val (.long (4294977024 : Int64)), .second, .val (.int (0 : Int32))] [(.int ch)])) rfl (by rw [hml]; rfl) (argsL := [(.int ch)]) (rest := []) (lenOf pd_28I29Z rfl) rfl (by show 2 * 0 + _ ≤ _; exact Nat.le_of_eq rfl) (hb hby at_151) (fun _ _ => ⟨rfl, e34, (by decide : 1 + 0 ≤ _), (by decide : 16 + 0 ≤ _)⟩)
      dsimp only [Pt.U, Pt.locs, Pt.cells, Pt.slots] at X43 l43 y43 z43 st43 hQ43
      subst l43 y43 z43
      obtain ⟨rfl, N43q, e43⟩ := hQ43
      have N43 := Fr.app N34 N43q
      refine Go.to (g' := (mkF m 154 #[.val (.int p0), .val (.int p1), .val (.ref b1), .val (.int ch), .val (.long (4294977024 : Int64)), .second, .val (.int (0 : Int32))] [(.int (own_ws ch))])) st43 ?_
      refine Go.to (g' := (mkF m 156 #[.val (.int p0), .val (.int p1), .val (.ref b1), .val (.int ch), .val (.long (4294977024 : Int64)), .second, .val (.int (0 : Int32))] [(.int (0 : Int32)), (.int (own_ws ch))])) (fun t k => XS.iload X43.here hx rfl (hb hby at_154) rfl k) ?_
      refine Go.to (g' := (mkF m 159 #[.val (.int p0), .val (.int p1), .val (.ref b1), .val (.int ch), .val (.long (4294977024 : Int64)), .second, .val (.int (0 : Int32))] [])) (fun t k => XS.icmpNo X43.here hx rfl (hb hby at_156) rfl (teq (own_ws0 (own_wn (Or.inr c39)))).2 k) ?_
      refine Go.to (g' := (mkF m 160 #[.val (.int p0), .val (.int p1), .val (.ref b1), .val (.int ch), .val (.long (4294977024 : Int64)), .second, .val (.int (0 : Int32))] [(.int (1 : Int32))])) (fun t k => XS.iconst X43.here hx rfl (hb hby at_159) k) ?_
      refine Go.to (g' := (mkF m 164 #[.val (.int p0), .val (.int p1), .val (.ref b1), .val (.int ch), .val (.long (4294977024 : Int64)), .second, .val (.int (0 : Int32))] [(.int (1 : Int32))])) (fun t k => XS.goto X43.here hx rfl (pc0 := 160) (pc' := 164) rfl (hb hby at_160) (by decide) (by decide) k) ?_
      exact Go.retN X43 hx (t := .boolean) Bd.returns Bd.notSynchronized (by simp) (hb hby at_164) (by decide) (by decide) e43 ⟨rfl, N43⟩

set_option maxRecDepth 65536 in
set_option maxHeartbeats 40000000 in
theorem comes_1 {Post : Tables → Env → Array Value → State → Outcome → State → Prop} (hpost : ∀ tb e args s v u, (limb_1_1.after args s (.returned v) u = true ∧ limb_1_2.after args s (.returned v) u = true ∧ True) → FrameEnd s (.returned v) u (Jvm.fieldLocs frame_1_writes args s ++ Jvm.arrayLocs frame_1_arrays args s ++ Jvm.staticLocs frame_1_statics s) 16 128 → Post tb e args s (.returned v) u) :
    ArmFor flags0 classFile x code maxLocals ret World_1 tables_1 room_1 Calls_1 rest_1 Pre_1 Post := by
  intro l hfl _ _ p e ha hc hk s m args below hf hA hF happ hP
  obtain ⟨hcalls, hrest, hpre⟩ := hP
  obtain ⟨-, -, -, hnamed, -, -, -, hat⟩ := (Spec.applies_iff hf).mp happ
  obtain ⟨hg, hn⟩ := and_e (Cond.before_iff.mp (show (Jvm.Cond.and given_1 narrow_1).before args s = true from hpre))
  obtain ⟨ga0, gb0⟩ := and_e hg
  obtain ⟨ga1, gb1⟩ := and_e gb0
  obtain ⟨w0, w1, rfl⟩ : ∃ w0 w1 : Value, args = #[w0, w1] := by
    have hs : args.size = 2 := by simpa [Cond.value, given_1] using ga0
    obtain ⟨L⟩ := args
    match L, hs with
    | [w0, w1], _ => exact ⟨w0, w1, rfl⟩
  have hw := fun d (hd : d ∈ tables_1) => atoms_spec (ws := Jvm.Cond.code x code maxLocals ret :: tables_1) hat d (List.mem_cons_of_mem _ hd)
  obtain ⟨i0, ei0⟩ := is_v ga1
  obtain rfl : w0 = (.int i0) := Option.some.inj ei0
  obtain ⟨i1, ei1⟩ := is_v gb1
  obtain rfl : w1 = (.int i1) := Option.some.inj ei1
  obtain ⟨n, o, h1, h2, h3, _, L, rfl, ⟨rfl, N⟩, hq⟩ := rm0 l s _ hw tables_1 i0 i1 s.heap s.heap.size (Nat.le_refl _)  p e ha hc hk s m _ below hf ((Spec.applies_iff_loose hf).mp happ).1 ⟨rfl, State.Warmed39.refl s, rfl⟩ trivial
  refine ⟨n, _, h1, h2, h3, hpost _ _ _ _ _ _ ⟨Cond.after_iff.mpr rfl, Cond.after_iff.mpr (eq_i res_at (Term.int_eval (1)) rfl), trivial⟩ ⟨hq.1, hq.2.1, (hq.2.2.sift fun y hy => Or.inr (N y hy)).mono (by decide) (by decide)⟩⟩
theorem main_1_1 : Claimed_1_1 := comes_1 fun _ _ _ _ _ _ h hF => ⟨h.1, hF⟩
theorem main_1_2 : Claimed_1_2 := comes_1 fun _ _ _ _ _ _ h hF => ⟨h.2.1, hF⟩

end Jvm.Pilot.@@N@@
namespace Jvm.Pilot.@@N@@
open Jvm Jvm.ClassFile Sem Op Lib Jvm.Free Jvm.Stand Jvm.Pilot.@@N@@.Jvm.D
/-! MADE BY PROGRAM (witnessworld.py) out of the Statement's table words and the real class files: 9 classes; the members and pool entries that the words name. The judged class is class 1, her method 1. -/
namespace start1
open Jvm.ClassFile
def u (s : String) : CpInfo := .utf8 (stringToUtf16 s)
/-- a pool by its gaps: so many unusable entries, then the entry; so many at the end -/
def gap : Nat → List CpInfo → List CpInfo
  | 0, r => r
  | n + 1, r => .unusable :: gap n r
def poolList (es : List (Nat × CpInfo)) (last : Nat) : List CpInfo := es.foldr (fun e r => gap e.1 (e.2 :: r)) (gap last [])
def pool (es : List (Nat × CpInfo)) (last : Nat) : Array CpInfo := ⟨poolList es last⟩
def fileOf (pool : Array CpInfo) (this : Nat) (attrs : Array Attribute := #[]) (ms : Array MethodInfo := #[]) (fl : Nat := 33) (sup : Nat := 0) (ifs : Array Nat := #[]) (fds : Array FieldInfo := #[]) : ClassFile where
  minorVersion := 0
  majorVersion := 65
  constantPool := pool
  accessFlags := fl
  thisClass := this
  superClass := sup
  interfaces := ifs
  fields := fds
  methods := ms
  attributes := attrs
def plain (name : String) (sup : Option ClassId) : Class where
  name := name
  kind := .ordinary
  loader := none
  accessFlags := 33
  super := sup
  interfaces := #[]
  cf := none
  fields := #[]
  methods := #[]
  instanceTypes := #[]
  staticTypes := #[]
  resolved := #[]
  callSites := []
  init := .initialized
  statics := none
  mirror := none

def pool0 : Array CpInfo := pool [(5, u "<init>"), (0, u "()V"), (1, .class_ 10), (1, u "java/lang/Object")] 113

def k0m0 : Method := { name := "<init>", desc := "()V", sig := { parameters := [], returnType := none }, accessFlags := 1, code := none }
/-- java/lang/Object -/
def k0 : Class := { plain "java/lang/Object" none with
  accessFlags := 33
  interfaces := #[]
  cf := some (fileOf pool0 8 #[] #[{ accessFlags := 1, nameIndex := 5, descriptorIndex := 6, attributes := #[] }] 33 0 #[] #[])
  fields := #[]
  methods := #[k0m0]
  instanceTypes := #[]
  staticTypes := #[]
  resolved := Array.replicate 124 none
  statics := none }

def pool1 : Array CpInfo := pool [(2, .class_ 4), (1, u "java/lang/Object"), (0, u "<init>"), (0, u "()V"), (0, .integer 65545), (0, .integer 65546), (0, .integer 65549), (0, .integer 65568), (0, .long 4294977024), (1, .methodref 14 15), (0, .class_ 16), (0, .nameAndType 17 18), (0, u "com/example/descant/descant/xml/XmlNames"), (0, u "isWhiteSpace"), (0, u "(I)Z"), (0, .class_ 20), (0, u "com/example/descant/descant/xml/XmlNamesIsWhiteSpacePinLaw"), (2, u "law"), (0, u "(II)Z")] 5

def k1m0 : Method := { name := "<init>", desc := "()V", sig := { parameters := [], returnType := none }, accessFlags := 2, code := none }
def k1c1 : Code := { maxStack := 4, maxLocals := 7, code := code, exceptionTable := #[], attributes := #[] }
def k1m1 : Method := { name := "law", desc := "(II)Z", sig := { parameters := [.int, .int], returnType := some .boolean }, accessFlags := 9, code := some k1c1 }
/-- com/example/descant/descant/xml/XmlNamesIsWhiteSpacePinLaw -/
def k1 : Class := { plain "com/example/descant/descant/xml/XmlNamesIsWhiteSpacePinLaw" (some 0) with
  accessFlags := 49
  interfaces := #[]
  cf := some (fileOf pool1 19 #[] #[{ accessFlags := 2, nameIndex := 5, descriptorIndex := 6, attributes := #[] }, { accessFlags := 9, nameIndex := 23, descriptorIndex := 24, attributes := #[] }] 49 2 #[] #[])
  fields := #[]
  methods := #[k1m0, k1m1]
  instanceTypes := #[]
  staticTypes := #[]
  resolved := Array.replicate 30 none
  statics := none }

def pool2 : Array CpInfo := pool [(2, .class_ 4), (1, u "java/lang/Object"), (0, u "<init>"), (0, u "()V"), (11, .class_ 20), (1, u "com/example/descant/descant/xml/XmlNames"), (1, u "(I)Z"), (18, u "isWhiteSpace")] 34

def k2m0 : Method := { name := "<init>", desc := "()V", sig := { parameters := [], returnType := none }, accessFlags := 2, code := none }
def k2c1 : Code := { maxStack := 2, maxLocals := 1, code := prog_134_method_4_code, exceptionTable := #[], attributes := #[] }
def k2m1 : Method := { name := "isWhiteSpace", desc := "(I)Z", sig := { parameters := [.int], returnType := some .boolean }, accessFlags := 8, code := some k2c1 }
/-- com/example/descant/descant/xml/XmlNames -/
def k2 : Class := { plain "com/example/descant/descant/xml/XmlNames" (some 0) with
  accessFlags := 48
  interfaces := #[]
  cf := some (fileOf pool2 18 #[] #[{ accessFlags := 2, nameIndex := 5, descriptorIndex := 6, attributes := #[] }, { accessFlags := 8, nameIndex := 41, descriptorIndex := 22, attributes := #[] }] 48 2 #[] #[])
  fields := #[]
  methods := #[k2m0, k2m1]
  instanceTypes := #[]
  staticTypes := #[]
  resolved := Array.replicate 76 none
  statics := none }

def pool3 : Array CpInfo := pool [(1, u "java/lang/Cloneable"), (0, .class_ 1), (0, u "java/lang/Object"), (0, .class_ 3)] 3

/-- java/lang/Cloneable -/
def k3 : Class := { plain "java/lang/Cloneable" (some 0) with
  accessFlags := 1537
  interfaces := #[]
  cf := some (fileOf pool3 2 #[] #[] 1537 4 #[] #[])
  fields := #[]
  methods := #[]
  instanceTypes := #[]
  staticTypes := #[]
  resolved := Array.replicate 8 none
  statics := none }

def pool4 : Array CpInfo := pool [(1, u "java/io/Serializable"), (0, .class_ 1), (0, u "java/lang/Object"), (0, .class_ 3)] 3

/-- java/io/Serializable -/
def k4 : Class := { plain "java/io/Serializable" (some 0) with
  accessFlags := 1537
  interfaces := #[]
  cf := some (fileOf pool4 2 #[] #[] 1537 4 #[] #[])
  fields := #[]
  methods := #[]
  instanceTypes := #[]
  staticTypes := #[]
  resolved := Array.replicate 8 none
  statics := none }

/-- the primitive byte -/
def k5 : Class := { plain "byte" none with kind := .primitive 'B', accessFlags := 0x411 }
/-- [B -/
def k6 : Class := { plain "[B" (some 0) with kind := .array 5 .byte, interfaces := #[3, 4], accessFlags := 1041 }

/-- the primitive int -/
def k7 : Class := { plain "int" none with kind := .primitive 'I', accessFlags := 0x411 }
/-- [I -/
def k8 : Class := { plain "[I" (some 0) with kind := .array 7 .int, interfaces := #[3, 4], accessFlags := 1041 }

def heap : Heap := #[]
def classes : Array Class := #[k0, k1, k2, k3, k4, k5, k6, k7, k8]
def interned : List (Array UInt16 × Addr) := []
def slotsUsed : Nat := 0
def theMethod : MethodId := ⟨1, 1⟩
def args0 : Array Value := #[.int 9, .int 8]
def aboutOver (below : List Frame) : State where
  vm := { classes := classes, interned := interned.toArray }
  heap := heap
  slotsUsed := slotsUsed
  threads := #[{ frames := .invoking theMethod args0 :: below }]
def below0 : List Frame := [.native { method := ⟨0, 0⟩, args := #[] }]
def about1 : State := aboutOver below0
def p0 : Program := .bare "" "" ""
def e0 : Env := launch0.env 0 0 0
theorem w_frames : about1.frames = Frame.invoking theMethod args0 :: below0 := rfl
set_option maxRecDepth 65536 in
theorem w_args : argsFit about1.vm theMethod args0 = true := by decide +kernel
set_option maxRecDepth 65536 in
theorem w_heap : heapFits about1 = true := by decide +kernel
set_option maxRecDepth 65536 in
theorem w_runnable : about1.curStatus? = some .runnable := by decide +kernel
set_option maxRecDepth 65536 in
theorem w_alone : about1.alone = true := by decide +kernel
set_option maxRecDepth 65536 in
theorem w_named : about1.methodNamed? x = some theMethod := by decide +kernel
set_option maxRecDepth 65536 in
theorem w_hears : about1.hears theMethod below0 = true := by decide +kernel
set_option maxRecDepth 65536 in
theorem w_ripe : about1.ripe theMethod args0 below0 = true := by decide +kernel
theorem w_running : about1.status = .running := rfl
set_option maxRecDepth 65536 in
theorem w_room : about1.hasRoom e0.platform room_1 = true :=
  launch0.hasRoom_least _ room_1 (by decide +kernel) (by decide +kernel) (by decide +kernel) (by decide +kernel) (by decide +kernel) (by decide +kernel)
theorem allAtoms_all (ts : List Jvm.Cond) (a : Array Jvm.Value) (st : Jvm.State) : (allAtoms ts).before a st = ts.all (fun c => c.before a st) := by
  induction ts with
  | nil => rfl
  | cons c t ih =>
    show (Jvm.Cond.and c (allAtoms t)).before a st = _
    rw [Jvm.Cond.before_and, ih, List.all_cons]
def words1 : List Jvm.Cond := Jvm.Cond.code x code maxLocals ret :: tables_1
/-- a 'code' word, met by the world's own term for the bytes: nothing is compared byte by byte -/
theorem code_word {y : MethodName} {bytes : ByteArray} {mx : Nat} {rt : Option FieldType} {a : Array Value} {s : State} {m : MethodId} {meth : Method} {c : Code} (h1 : s.methodNamed? y = some m) (h2 : s.vm.method? m = some meth) (h3 : meth.code = some c) (h4 : c.code = bytes)
    (h5 : (c.maxLocals == mx && c.exceptionTable.isEmpty && decide (c.maxStack ≤ mostOperands) && decide (meth.sig.returnType = rt) && !meth.locks && decide (parseMethodDescriptor y.desc = some meth.sig)) = true) : (Jvm.Cond.code y bytes mx rt).before a s = true := by
  simp only [Bool.and_eq_true, beq_iff_eq, Bool.not_eq_true', decide_eq_true_eq] at h5
  obtain ⟨⟨⟨⟨⟨g1, g2⟩, g3⟩, g4⟩, g5⟩, g6⟩ := h5
  simp [Cond.before, Cond.holds, Cond.value, h1, h2, h3, h4, g1, g2, g3, g4, g5, g6]
def isCode : Jvm.Cond → Bool
  | .code _ _ _ _ => true
  | _ => false
theorem all_split {L : List Jvm.Cond} {P : Jvm.Cond → Bool} (h1 : L.all (fun c => isCode c || P c) = true) (h2 : ∀ c ∈ L.filter isCode, P c = true) : L.all P = true := by
  refine List.all_eq_true.mpr fun c hc => ?_
  have h := List.all_eq_true.mp h1 c hc
  rcases Bool.eq_false_or_eq_true (isCode c) with hi | hi
  · exact h2 c (List.mem_filter.mpr ⟨hc, hi⟩)
  · simpa [hi] using h
set_option maxRecDepth 65536 in
theorem w_c0 : (Jvm.Cond.code x code maxLocals ret).before args0 about1 = true := code_word (m := ⟨1, 1⟩) (meth := k1m1) (c := k1c1) (by decide +kernel) rfl rfl rfl (by decide +kernel)
set_option maxRecDepth 65536 in
theorem w_c1 : (Jvm.Cond.code ({ cls := "com/example/descant/descant/xml/XmlNames", name := "isWhiteSpace", desc := "(I)Z" } : Jvm.MethodName) prog_134_method_4_code (1 : Nat) (Option.some Jvm.ClassFile.FieldType.boolean)).before args0 about1 = true := code_word (m := ⟨2, 1⟩) (meth := k2m1) (c := k2c1) (by decide +kernel) rfl rfl rfl (by decide +kernel)
def codes1 : List Jvm.Cond := [Jvm.Cond.code x code maxLocals ret, Jvm.Cond.code ({ cls := "com/example/descant/descant/xml/XmlNames", name := "isWhiteSpace", desc := "(I)Z" } : Jvm.MethodName) prog_134_method_4_code (1 : Nat) (Option.some Jvm.ClassFile.FieldType.boolean)]
set_option maxRecDepth 65536 in
theorem codes_eq : words1.filter isCode = codes1 := rfl
theorem w_codes : ∀ c ∈ words1.filter isCode, c.before args0 about1 = true := by
  rw [codes_eq]
  intro c hc
  simp only [codes1, List.mem_cons, List.not_mem_nil, or_false] at hc
  rcases hc with rfl | rfl
  · exact w_c0
  · exact w_c1
set_option maxRecDepth 65536 in
theorem w_t1 : words1.all (fun c => isCode c || c.before args0 about1) = true := by decide +kernel
theorem w_tables : (allAtoms (Jvm.Cond.code x code maxLocals ret :: tables_1)).before args0 about1 = true := by
  rw [allAtoms_all]
  show words1.all (fun c => c.before args0 about1) = true
  refine all_split ?_ w_codes
  rw [w_t1]
set_option maxRecDepth 65536 in
theorem w_case : (Jvm.Cond.and given_1 narrow_1).before args0 about1 = true := by decide +kernel
theorem w_applies : (headSpec (Jvm.Cond.code x code maxLocals ret :: tables_1) room_1).applies x e0.platform about1 = true :=
  (Spec.applies_iff w_frames).mpr ⟨w_running, w_runnable, w_alone, w_named, w_hears, w_ripe, w_room, w_tables⟩
theorem atStart : AtStart classFile x code maxLocals ret World_1 tables_1 room_1 Calls_1 rest_1 Pre_1 launch0 p0 e0 about1 theMethod args0 below0 :=
  ⟨lists_1, trivial, launch0.admits_env _ _ _, launch0.least_env, fairChoices_fair.cas, fairChoices_fair.clock, w_frames, w_args, w_heap, w_applies, trivial, trivial, w_case⟩
end start1
theorem witness_1 : WitnessClaimed_1 := ⟨start1.p0, start1.e0, start1.about1, start1.theMethod, start1.args0, start1.below0, start1.atStart⟩
end Jvm.Pilot.@@N@@
