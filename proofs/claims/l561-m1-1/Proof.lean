import JvmDerived
import JvmDerived.Pilot.@@N@@Statement
import JvmDerived.Pilot.@@N@@Code
set_option linter.unusedVariables false
set_option linter.unusedSimpArgs false
namespace Jvm.RoadKit
open Sem ClassFile Op Lib Jvm.Stand Jvm.Free Jvm.LawKit
section New
variable {p : Program} {l : Launch} {e : Env} {R : Room} {s : State} {m : MethodId} {args : Array Value} {below : List Frame} {meth : Method} {c : Code} {T : State} {locs : List Loc} {cells slots : Nat}
theorem retI (X : Stand p l e R s m args below meth c T locs cells slots) (hx : p.tables.exec = Jvm.exec) {pc : Nat} {Ls : Array Slot} {z : Int32} {rest : List Value} (hret : meth.sig.returnType = some .int) (hd : decode c.code pc = .ok (.ireturn, 1)) {fs : List Frame}
    (hl : ∀ (f : JFrame) (acts : List Action), f.method = m → f.locked = none → f.entered = [] → (doReturn e (T.setTop f) acts (some (.int z))).1 = T.setFrames fs) : Steps p.tables e below (T.setTop (mkF m pc Ls (.int z :: rest))) (T.setFrames fs) := by
  have hm' : T.vm.method? m = some meth := X.method'
  have hn : narrow .int (.int z) = .int z := rfl
  show Steps p.tables e below (T.setTop { method := m, pc := pc, locals := Ls, stack := _ :: rest, locked := none }) _
  jvm_step X.here [X.here.top, hx, hd, hm', hret, hn]
  first | (intro acts; rw [hl _ acts rfl rfl rfl]) | rw [hl _ _ rfl rfl rfl]
  exact Steps.refl _
end New
end Jvm.RoadKit
namespace Jvm.Pilot.@@N@@
open Jvm Jvm.ClassFile Sem Op Lib Jvm.Free Jvm.Stand Jvm.LawKit Jvm.RoadKit Bundle Jvm.Pilot.@@N@@.Jvm.D
section OwnGo
variable {p : Program} {l : Launch} {e : Env} {R : Room} {s : State} {m : MethodId} {args : Array Value} {below : List Frame} {meth : Method} {c : Code} {T T' : State} {locs : List Loc} {cells slots : Nat} {C S : Nat} {Q : Option Value → Heap → List Loc → Prop} {h : Heap}
/-- from here the run comes to a return of which Q holds -/
def Go (p : Program) (e : Env) (below : List Frame) (s : State) (Q : Option Value → Heap → List Loc → Prop) (C S : Nat) (S0 : State) : Prop :=
  ∃ s₂ o, Steps p.tables e below S0 s₂ ∧ s₂.status = .running ∧ Ended s₂ below o ∧ ∃ v L, o = .returned v ∧ Q v s₂.heap L ∧ FrameEnd s o s₂ L C S
theorem own_go {S0 : State} (k : Go p e below s Q C S S0) : ∃ s₂ o, Steps p.tables e below S0 s₂ ∧ s₂.status = .running ∧ Ended s₂ below o ∧ ∃ v L, o = .returned v ∧ Q v s₂.heap L ∧ FrameEnd s o s₂ L C S := k
theorem Go.to {g g' : JFrame} (st : ∀ t, Steps p.tables e below (T'.setTop g') t → Steps p.tables e below (T.setTop g) t) (k : Go p e below s Q C S (T'.setTop g')) : Go p e below s Q C S (T.setTop g) := by
  obtain ⟨s₂, o, h1, r⟩ := k
  exact ⟨s₂, o, st _ h1, r⟩
theorem Go.retI (X : Stand p l e R s m args below meth c T locs cells slots) (hx : p.tables.exec = Jvm.exec) {pc : Nat} {Ls : Array Slot} {z : Int32} {rest : List Value} (hret : meth.sig.returnType = some .int) (hlk : meth.locks = false) (hd : decode c.code pc = .ok (.ireturn, 1)) (hC : cells ≤ C) (hS : slots ≤ S) (eT : T.heap = h) (hQ : Q (some (.int z)) h locs) :
    Go p e below s Q C S (T.setTop (mkF m pc Ls (.int z :: rest))) := by
  obtain ⟨fs, hr, hrun, hended, hW, hsame⟩ := X.leave (v := some (.int z)) (fun h => by rw [hret] at h; cases h) hlk
  exact ⟨_, _, Jvm.RoadKit.retI X hx hret hd hr, hrun, hended, _, _, rfl, (show Q (some (.int z)) T.heap locs from eT ▸ hQ), ⟨_, rfl⟩, hW, hsame.mono hC hS⟩
theorem Go.retN (X : Stand p l e R s m args below meth c T locs cells slots) (hx : p.tables.exec = Jvm.exec) {pc : Nat} {Ls : Array Slot} {z : Int32} {t : FieldType} {rest : List Value} (hret : meth.sig.returnType = some t) (hlk : meth.locks = false) (ht : t = .boolean ∨ t = .byte ∨ t = .char ∨ t = .short) (hd : decode c.code pc = .ok (.ireturn, 1)) (hC : cells ≤ C) (hS : slots ≤ S) (eT : T.heap = h) (hQ : Q (some (.int (nar t z))) h locs) :
    Go p e below s Q C S (T.setTop (mkF m pc Ls (.int z :: rest))) := by
  obtain ⟨fs, hr, hrun, hended, hW, hsame⟩ := X.leave (v := some (.int (nar t z))) (fun h => by rw [hret] at h; cases h) hlk
  exact ⟨_, _, Jvm.RoadKit.retN X hx hret ht hd hr, hrun, hended, _, _, rfl, (show Q (some (.int (nar t z))) T.heap locs from eT ▸ hQ), ⟨_, rfl⟩, hW, hsame.mono hC hS⟩
theorem Go.ret (X : Stand p l e R s m args below meth c T locs cells slots) (hx : p.tables.exec = Jvm.exec) {pc : Nat} {Ls : Array Slot} (hret : meth.sig.returnType = none) (hlk : meth.locks = false) (hd : decode c.code pc = .ok (.return_, 1)) (hC : cells ≤ C) (hS : slots ≤ S) (eT : T.heap = h) (hQ : Q none h locs) :
    Go p e below s Q C S (T.setTop (mkF m pc Ls [])) := by
  obtain ⟨fs, hr, hrun, hended, hW, hsame⟩ := X.leave (v := none) (fun _ => rfl) hlk
  exact ⟨_, _, X.returnOut hx hret hd hr, hrun, hended, _, _, rfl, (show Q none T.heap locs from eT ▸ hQ), ⟨_, rfl⟩, hW, hsame.mono hC hS⟩
theorem Go.retJ (X : Stand p l e R s m args below meth c T locs cells slots) (hx : p.tables.exec = Jvm.exec) {pc : Nat} {Ls : Array Slot} {z : Int64} {rest : List Value} (hret : meth.sig.returnType = some .long) (hlk : meth.locks = false) (hd : decode c.code pc = .ok (.lreturn, 1)) (hC : cells ≤ C) (hS : slots ≤ S) (eT : T.heap = h) (hQ : Q (some (.long z)) h locs) :
    Go p e below s Q C S (T.setTop (mkF m pc Ls (.long z :: rest))) := by
  obtain ⟨fs, hr, hrun, hended, hW, hsame⟩ := X.leave (v := some (.long z)) (fun h => by rw [hret] at h; cases h) hlk
  exact ⟨_, _, retOut X hx hret rfl (Or.inr (Or.inl ⟨rfl, rfl, _, rfl⟩)) hd hr, hrun, hended, _, _, rfl, (show Q (some (.long z)) T.heap locs from eT ▸ hQ), ⟨_, rfl⟩, hW, hsame.mono hC hS⟩
theorem Go.retA (X : Stand p l e R s m args below meth c T locs cells slots) (hx : p.tables.exec = Jvm.exec) {pc : Nat} {Ls : Array Slot} {z : Addr} {t : FieldType} {rest : List Value} (hret : meth.sig.returnType = some t) (hlk : meth.locks = false) (ht : t.isReference = true) (hd : decode c.code pc = .ok (.areturn, 1)) (hC : cells ≤ C) (hS : slots ≤ S) (eT : T.heap = h) (hQ : Q (some (.ref z)) h locs) :
    Go p e below s Q C S (T.setTop (mkF m pc Ls (.ref z :: rest))) := by
  obtain ⟨fs, hr, hrun, hended, hW, hsame⟩ := X.leave (v := some (.ref z)) (fun h => by rw [hret] at h; cases h) hlk
  exact ⟨_, _, retOut X hx hret (by cases t <;> first | rfl | cases ht) (Or.inr (Or.inr (Or.inr (Or.inr ⟨rfl, ht, rfl⟩)))) hd hr, hrun, hended, _, _, rfl, (show Q (some (.ref z)) T.heap locs from eT ▸ hQ), ⟨_, rfl⟩, hW, hsame.mono hC hS⟩
end OwnGo
theorem own_irr (x : Int32) : ¬ x < x := by rw [Int32.lt_iff_toInt_lt]; omega
theorem own_irrL (x : Int64) : ¬ x < x := by rw [Int64.lt_iff_toInt_lt]; omega
theorem own_lrem {p : Program} {l : Launch} {e : Env} {R : Room} {s : State} {m : MethodId} {args : Array Value} {below : List Frame} {meth : Method} {c : Code} {T target : State} {locs : List Loc} {cells slots : Nat} {g : JFrame} (X : Stand p l e R s m args below meth c T locs cells slots) (hx : p.tables.exec = Jvm.exec) (hg : g.method = m) {x y : Int64} {rest : List Value} (hd : decode c.code g.pc = .ok (.lrem, 1)) (hs : g.stack = .long y :: .long x :: rest) (hy : y ≠ 0)
    (hr : Steps p.tables e below (T.setTop { g with pc := g.pc + 1, stack := .long (x % y) :: rest }) target) : Steps p.tables e below (T.setTop g) target :=
  XS.lrem X.here hx hg hd hs hy (by rw [lrem_mod]; exact hr)
theorem own_int {c : Cell} {vs : List Value} {d : Value} {j z : Int32} (H : Has c vs d) (G : ∀ i, i < c.slots.size → fits .int (vs.getD i d) = true) (hin : ¬ (j < 0 ∨ c.slots.size ≤ j.toNatClampNeg)) : ∃ x : Int32, c.slots[j.toNatClampNeg]? = some (.int x) := by
  have hk : j.toNatClampNeg < c.slots.size := Nat.lt_of_not_le fun q => hin (Or.inr q)
  have h1 := H _ hk
  have h2 := G _ hk
  cases hv : vs.getD j.toNatClampNeg d with
  | int x => exact ⟨x, by rw [h1, hv]⟩
  | _ => rw [hv] at h2; simp [fits] at h2
theorem d1_0 : decode prog_134_method_7_code 0 = .ok (.iload_n 0, 1) := by decide +kernel
theorem d1_1 : decode prog_134_method_7_code 1 = .ok (.bipush 58, 2) := by decide +kernel
theorem d1_3 : decode prog_134_method_7_code 3 = .ok (.if_icmp .eq 194, 3) := by decide +kernel
theorem d1_197 : decode prog_134_method_7_code 197 = .ok (.iconst 1, 1) := by decide +kernel
theorem d1_198 : decode prog_134_method_7_code 198 = .ok (.goto 4, 3) := by decide +kernel
theorem d1_202 : decode prog_134_method_7_code 202 = .ok (.ireturn, 1) := by decide +kernel
theorem d1_6 : decode prog_134_method_7_code 6 = .ok (.iload_n 0, 1) := by decide +kernel
theorem d1_7 : decode prog_134_method_7_code 7 = .ok (.bipush 95, 2) := by decide +kernel
theorem d1_9 : decode prog_134_method_7_code 9 = .ok (.if_icmp .eq 188, 3) := by decide +kernel
theorem d1_12 : decode prog_134_method_7_code 12 = .ok (.iload_n 0, 1) := by decide +kernel
theorem d1_13 : decode prog_134_method_7_code 13 = .ok (.bipush 65, 2) := by decide +kernel
theorem d1_15 : decode prog_134_method_7_code 15 = .ok (.if_icmp .lt 9, 3) := by decide +kernel
theorem d1_18 : decode prog_134_method_7_code 18 = .ok (.iload_n 0, 1) := by decide +kernel
theorem d1_19 : decode prog_134_method_7_code 19 = .ok (.bipush 90, 2) := by decide +kernel
theorem d1_21 : decode prog_134_method_7_code 21 = .ok (.if_icmp .le 176, 3) := by decide +kernel
theorem d1_24 : decode prog_134_method_7_code 24 = .ok (.iload_n 0, 1) := by decide +kernel
theorem d1_25 : decode prog_134_method_7_code 25 = .ok (.bipush 97, 2) := by decide +kernel
theorem d1_27 : decode prog_134_method_7_code 27 = .ok (.if_icmp .lt 9, 3) := by decide +kernel
theorem d1_30 : decode prog_134_method_7_code 30 = .ok (.iload_n 0, 1) := by decide +kernel
theorem d1_31 : decode prog_134_method_7_code 31 = .ok (.bipush 122, 2) := by decide +kernel
theorem d1_33 : decode prog_134_method_7_code 33 = .ok (.if_icmp .le 164, 3) := by decide +kernel
theorem d1_36 : decode prog_134_method_7_code 36 = .ok (.iload_n 0, 1) := by decide +kernel
theorem d1_37 : decode prog_134_method_7_code 37 = .ok (.sipush 192, 3) := by decide +kernel
theorem d1_40 : decode prog_134_method_7_code 40 = .ok (.if_icmp .lt 10, 3) := by decide +kernel
theorem d1_43 : decode prog_134_method_7_code 43 = .ok (.iload_n 0, 1) := by decide +kernel
theorem d1_44 : decode prog_134_method_7_code 44 = .ok (.sipush 214, 3) := by decide +kernel
theorem d1_47 : decode prog_134_method_7_code 47 = .ok (.if_icmp .le 150, 3) := by decide +kernel
theorem d1_50 : decode prog_134_method_7_code 50 = .ok (.iload_n 0, 1) := by decide +kernel
theorem d1_51 : decode prog_134_method_7_code 51 = .ok (.sipush 216, 3) := by decide +kernel
theorem d1_54 : decode prog_134_method_7_code 54 = .ok (.if_icmp .lt 10, 3) := by decide +kernel
theorem d1_57 : decode prog_134_method_7_code 57 = .ok (.iload_n 0, 1) := by decide +kernel
theorem d1_58 : decode prog_134_method_7_code 58 = .ok (.sipush 246, 3) := by decide +kernel
theorem d1_61 : decode prog_134_method_7_code 61 = .ok (.if_icmp .le 136, 3) := by decide +kernel
theorem d1_64 : decode prog_134_method_7_code 64 = .ok (.iload_n 0, 1) := by decide +kernel
theorem d1_65 : decode prog_134_method_7_code 65 = .ok (.sipush 248, 3) := by decide +kernel
theorem d1_68 : decode prog_134_method_7_code 68 = .ok (.if_icmp .lt 10, 3) := by decide +kernel
theorem d1_71 : decode prog_134_method_7_code 71 = .ok (.iload_n 0, 1) := by decide +kernel
theorem d1_72 : decode prog_134_method_7_code 72 = .ok (.sipush 767, 3) := by decide +kernel
theorem d1_75 : decode prog_134_method_7_code 75 = .ok (.if_icmp .le 122, 3) := by decide +kernel
theorem d1_78 : decode prog_134_method_7_code 78 = .ok (.iload_n 0, 1) := by decide +kernel
theorem d1_79 : decode prog_134_method_7_code 79 = .ok (.sipush 880, 3) := by decide +kernel
theorem d1_82 : decode prog_134_method_7_code 82 = .ok (.if_icmp .lt 10, 3) := by decide +kernel
theorem d1_85 : decode prog_134_method_7_code 85 = .ok (.iload_n 0, 1) := by decide +kernel
theorem d1_86 : decode prog_134_method_7_code 86 = .ok (.sipush 893, 3) := by decide +kernel
theorem d1_89 : decode prog_134_method_7_code 89 = .ok (.if_icmp .le 108, 3) := by decide +kernel
theorem d1_92 : decode prog_134_method_7_code 92 = .ok (.iload_n 0, 1) := by decide +kernel
theorem d1_93 : decode prog_134_method_7_code 93 = .ok (.sipush 895, 3) := by decide +kernel
theorem d1_96 : decode prog_134_method_7_code 96 = .ok (.if_icmp .lt 10, 3) := by decide +kernel
theorem d1_99 : decode prog_134_method_7_code 99 = .ok (.iload_n 0, 1) := by decide +kernel
theorem d1_100 : decode prog_134_method_7_code 100 = .ok (.sipush 8191, 3) := by decide +kernel
theorem d1_103 : decode prog_134_method_7_code 103 = .ok (.if_icmp .le 94, 3) := by decide +kernel
theorem d1_106 : decode prog_134_method_7_code 106 = .ok (.iload_n 0, 1) := by decide +kernel
theorem d1_107 : decode prog_134_method_7_code 107 = .ok (.sipush 8204, 3) := by decide +kernel
theorem d1_110 : decode prog_134_method_7_code 110 = .ok (.if_icmp .lt 10, 3) := by decide +kernel
theorem d1_113 : decode prog_134_method_7_code 113 = .ok (.iload_n 0, 1) := by decide +kernel
theorem d1_114 : decode prog_134_method_7_code 114 = .ok (.sipush 8205, 3) := by decide +kernel
theorem d1_117 : decode prog_134_method_7_code 117 = .ok (.if_icmp .le 80, 3) := by decide +kernel
theorem d1_120 : decode prog_134_method_7_code 120 = .ok (.iload_n 0, 1) := by decide +kernel
theorem d1_121 : decode prog_134_method_7_code 121 = .ok (.sipush 8304, 3) := by decide +kernel
theorem d1_124 : decode prog_134_method_7_code 124 = .ok (.if_icmp .lt 10, 3) := by decide +kernel
theorem d1_127 : decode prog_134_method_7_code 127 = .ok (.iload_n 0, 1) := by decide +kernel
theorem d1_128 : decode prog_134_method_7_code 128 = .ok (.sipush 8591, 3) := by decide +kernel
theorem d1_131 : decode prog_134_method_7_code 131 = .ok (.if_icmp .le 66, 3) := by decide +kernel
theorem d1_134 : decode prog_134_method_7_code 134 = .ok (.iload_n 0, 1) := by decide +kernel
theorem d1_135 : decode prog_134_method_7_code 135 = .ok (.sipush 11264, 3) := by decide +kernel
theorem d1_138 : decode prog_134_method_7_code 138 = .ok (.if_icmp .lt 10, 3) := by decide +kernel
theorem d1_141 : decode prog_134_method_7_code 141 = .ok (.iload_n 0, 1) := by decide +kernel
theorem d1_142 : decode prog_134_method_7_code 142 = .ok (.sipush 12271, 3) := by decide +kernel
theorem d1_145 : decode prog_134_method_7_code 145 = .ok (.if_icmp .le 52, 3) := by decide +kernel
theorem d1_148 : decode prog_134_method_7_code 148 = .ok (.iload_n 0, 1) := by decide +kernel
theorem d1_149 : decode prog_134_method_7_code 149 = .ok (.sipush 12289, 3) := by decide +kernel
theorem d1_152 : decode prog_134_method_7_code 152 = .ok (.if_icmp .lt 9, 3) := by decide +kernel
theorem d1_155 : decode prog_134_method_7_code 155 = .ok (.iload_n 0, 1) := by decide +kernel
theorem d1_156 : decode prog_134_method_7_code 156 = .ok (.ldc 46, 2) := by decide +kernel
theorem d1_158 : decode prog_134_method_7_code 158 = .ok (.if_icmp .le 39, 3) := by decide +kernel
theorem d1_161 : decode prog_134_method_7_code 161 = .ok (.iload_n 0, 1) := by decide +kernel
theorem d1_162 : decode prog_134_method_7_code 162 = .ok (.ldc 47, 2) := by decide +kernel
theorem d1_164 : decode prog_134_method_7_code 164 = .ok (.if_icmp .lt 9, 3) := by decide +kernel
theorem d1_167 : decode prog_134_method_7_code 167 = .ok (.iload_n 0, 1) := by decide +kernel
theorem d1_168 : decode prog_134_method_7_code 168 = .ok (.ldc 48, 2) := by decide +kernel
theorem d1_170 : decode prog_134_method_7_code 170 = .ok (.if_icmp .le 27, 3) := by decide +kernel
theorem d1_173 : decode prog_134_method_7_code 173 = .ok (.iload_n 0, 1) := by decide +kernel
theorem d1_174 : decode prog_134_method_7_code 174 = .ok (.ldc 49, 2) := by decide +kernel
theorem d1_176 : decode prog_134_method_7_code 176 = .ok (.if_icmp .lt 9, 3) := by decide +kernel
theorem d1_179 : decode prog_134_method_7_code 179 = .ok (.iload_n 0, 1) := by decide +kernel
theorem d1_180 : decode prog_134_method_7_code 180 = .ok (.ldc 50, 2) := by decide +kernel
theorem d1_182 : decode prog_134_method_7_code 182 = .ok (.if_icmp .le 15, 3) := by decide +kernel
theorem d1_185 : decode prog_134_method_7_code 185 = .ok (.iload_n 0, 1) := by decide +kernel
theorem d1_186 : decode prog_134_method_7_code 186 = .ok (.ldc 51, 2) := by decide +kernel
theorem d1_188 : decode prog_134_method_7_code 188 = .ok (.if_icmp .lt 13, 3) := by decide +kernel
theorem d1_191 : decode prog_134_method_7_code 191 = .ok (.iload_n 0, 1) := by decide +kernel
theorem d1_192 : decode prog_134_method_7_code 192 = .ok (.ldc 52, 2) := by decide +kernel
theorem d1_194 : decode prog_134_method_7_code 194 = .ok (.if_icmp .gt 7, 3) := by decide +kernel
theorem d1_201 : decode prog_134_method_7_code 201 = .ok (.iconst 0, 1) := by decide +kernel
theorem pn_com_example_descant_descant_xml_XmlNames : plainName "com/example/descant/descant/xml/XmlNames" = true := by first | (simp [plainName, overriddenIn]; done) | decide +kernel
theorem d3_0 : decode method_2_code 0 = .ok (.iload_n 0, 1) := by decide +kernel
theorem d3_1 : decode method_2_code 1 = .ok (.iload_n 1, 1) := by decide +kernel
theorem d3_2 : decode method_2_code 2 = .ok (.if_icmp .lt 12, 3) := by decide +kernel
theorem d3_14 : decode method_2_code 14 = .ok (.iconst 0, 1) := by decide +kernel
theorem d3_15 : decode method_2_code 15 = .ok (.ireturn, 1) := by decide +kernel
theorem d3_5 : decode method_2_code 5 = .ok (.iload_n 0, 1) := by decide +kernel
theorem d3_6 : decode method_2_code 6 = .ok (.iload_n 2, 1) := by decide +kernel
theorem d3_7 : decode method_2_code 7 = .ok (.if_icmp .gt 7, 3) := by decide +kernel
theorem d3_10 : decode method_2_code 10 = .ok (.iconst 1, 1) := by decide +kernel
theorem d3_11 : decode method_2_code 11 = .ok (.goto 4, 3) := by decide +kernel
theorem pn_com_example_descant_descant_xml_XmlNamesIsNameStartPinLaw : plainName "com/example/descant/descant/xml/XmlNamesIsNameStartPinLaw" = true := by first | (simp [plainName, overriddenIn]; done) | decide +kernel
theorem d2_0 : decode method_3_code 0 = .ok (.iload_n 0, 1) := by decide +kernel
theorem d2_1 : decode method_3_code 1 = .ok (.ifCond .lt 9, 3) := by decide +kernel
theorem d2_10 : decode method_3_code 10 = .ok (.iconst 0, 1) := by decide +kernel
theorem d2_11 : decode method_3_code 11 = .ok (.ireturn, 1) := by decide +kernel
theorem d2_4 : decode method_3_code 4 = .ok (.iload_n 0, 1) := by decide +kernel
theorem d2_5 : decode method_3_code 5 = .ok (.ldc 7, 2) := by decide +kernel
theorem d2_7 : decode method_3_code 7 = .ok (.if_icmp .le 5, 3) := by decide +kernel
theorem d2_12 : decode method_3_code 12 = .ok (.iload_n 0, 1) := by decide +kernel
theorem d2_13 : decode method_3_code 13 = .ok (.iconst 0, 1) := by decide +kernel
theorem d2_14 : decode method_3_code 14 = .ok (.bipush 57, 2) := by decide +kernel
theorem d2_16 : decode method_3_code 16 = .ok (.invokestatic 8, 3) := by decide +kernel
theorem pd_28III29Z : parseMethodDescriptor "(III)Z" = some ⟨[.int, .int, .int], some .boolean⟩ := by decide +kernel
theorem d2_19 : decode method_3_code 19 = .ok (.ifCond .ne 162, 3) := by decide +kernel
theorem d2_22 : decode method_3_code 22 = .ok (.iload_n 0, 1) := by decide +kernel
theorem d2_23 : decode method_3_code 23 = .ok (.bipush 59, 2) := by decide +kernel
theorem d2_25 : decode method_3_code 25 = .ok (.bipush 64, 2) := by decide +kernel
theorem d2_27 : decode method_3_code 27 = .ok (.invokestatic 8, 3) := by decide +kernel
theorem d2_30 : decode method_3_code 30 = .ok (.ifCond .ne 151, 3) := by decide +kernel
theorem d2_33 : decode method_3_code 33 = .ok (.iload_n 0, 1) := by decide +kernel
theorem d2_34 : decode method_3_code 34 = .ok (.bipush 91, 2) := by decide +kernel
theorem d2_36 : decode method_3_code 36 = .ok (.bipush 94, 2) := by decide +kernel
theorem d2_38 : decode method_3_code 38 = .ok (.invokestatic 8, 3) := by decide +kernel
theorem d2_41 : decode method_3_code 41 = .ok (.ifCond .ne 140, 3) := by decide +kernel
theorem d2_44 : decode method_3_code 44 = .ok (.iload_n 0, 1) := by decide +kernel
theorem d2_45 : decode method_3_code 45 = .ok (.bipush 96, 2) := by decide +kernel
theorem d2_47 : decode method_3_code 47 = .ok (.if_icmp .eq 134, 3) := by decide +kernel
theorem d2_181 : decode method_3_code 181 = .ok (.iconst 0, 1) := by decide +kernel
theorem d2_182 : decode method_3_code 182 = .ok (.ireturn, 1) := by decide +kernel
theorem d2_50 : decode method_3_code 50 = .ok (.iload_n 0, 1) := by decide +kernel
theorem d2_51 : decode method_3_code 51 = .ok (.bipush 123, 2) := by decide +kernel
theorem d2_53 : decode method_3_code 53 = .ok (.sipush 191, 3) := by decide +kernel
theorem d2_56 : decode method_3_code 56 = .ok (.invokestatic 8, 3) := by decide +kernel
theorem d2_59 : decode method_3_code 59 = .ok (.ifCond .ne 122, 3) := by decide +kernel
theorem d2_62 : decode method_3_code 62 = .ok (.iload_n 0, 1) := by decide +kernel
theorem d2_63 : decode method_3_code 63 = .ok (.sipush 215, 3) := by decide +kernel
theorem d2_66 : decode method_3_code 66 = .ok (.if_icmp .eq 115, 3) := by decide +kernel
theorem d2_69 : decode method_3_code 69 = .ok (.iload_n 0, 1) := by decide +kernel
theorem d2_70 : decode method_3_code 70 = .ok (.sipush 247, 3) := by decide +kernel
theorem d2_73 : decode method_3_code 73 = .ok (.if_icmp .eq 108, 3) := by decide +kernel
theorem d2_76 : decode method_3_code 76 = .ok (.iload_n 0, 1) := by decide +kernel
theorem d2_77 : decode method_3_code 77 = .ok (.sipush 768, 3) := by decide +kernel
theorem d2_80 : decode method_3_code 80 = .ok (.sipush 879, 3) := by decide +kernel
theorem d2_83 : decode method_3_code 83 = .ok (.invokestatic 8, 3) := by decide +kernel
theorem d2_86 : decode method_3_code 86 = .ok (.ifCond .ne 95, 3) := by decide +kernel
theorem d2_89 : decode method_3_code 89 = .ok (.iload_n 0, 1) := by decide +kernel
theorem d2_90 : decode method_3_code 90 = .ok (.sipush 894, 3) := by decide +kernel
theorem d2_93 : decode method_3_code 93 = .ok (.if_icmp .eq 88, 3) := by decide +kernel
theorem d2_96 : decode method_3_code 96 = .ok (.iload_n 0, 1) := by decide +kernel
theorem d2_97 : decode method_3_code 97 = .ok (.sipush 8192, 3) := by decide +kernel
theorem d2_100 : decode method_3_code 100 = .ok (.sipush 8203, 3) := by decide +kernel
theorem d2_103 : decode method_3_code 103 = .ok (.invokestatic 8, 3) := by decide +kernel
theorem d2_106 : decode method_3_code 106 = .ok (.ifCond .ne 75, 3) := by decide +kernel
theorem d2_109 : decode method_3_code 109 = .ok (.iload_n 0, 1) := by decide +kernel
theorem d2_110 : decode method_3_code 110 = .ok (.sipush 8206, 3) := by decide +kernel
theorem d2_113 : decode method_3_code 113 = .ok (.sipush 8303, 3) := by decide +kernel
theorem d2_116 : decode method_3_code 116 = .ok (.invokestatic 8, 3) := by decide +kernel
theorem d2_119 : decode method_3_code 119 = .ok (.ifCond .ne 62, 3) := by decide +kernel
theorem d2_122 : decode method_3_code 122 = .ok (.iload_n 0, 1) := by decide +kernel
theorem d2_123 : decode method_3_code 123 = .ok (.sipush 8592, 3) := by decide +kernel
theorem d2_126 : decode method_3_code 126 = .ok (.sipush 11263, 3) := by decide +kernel
theorem d2_129 : decode method_3_code 129 = .ok (.invokestatic 8, 3) := by decide +kernel
theorem d2_132 : decode method_3_code 132 = .ok (.ifCond .ne 49, 3) := by decide +kernel
theorem d2_135 : decode method_3_code 135 = .ok (.iload_n 0, 1) := by decide +kernel
theorem d2_136 : decode method_3_code 136 = .ok (.sipush 12272, 3) := by decide +kernel
theorem d2_139 : decode method_3_code 139 = .ok (.sipush 12288, 3) := by decide +kernel
theorem d2_142 : decode method_3_code 142 = .ok (.invokestatic 8, 3) := by decide +kernel
theorem d2_145 : decode method_3_code 145 = .ok (.ifCond .ne 36, 3) := by decide +kernel
theorem d2_148 : decode method_3_code 148 = .ok (.iload_n 0, 1) := by decide +kernel
theorem d2_149 : decode method_3_code 149 = .ok (.ldc 14, 2) := by decide +kernel
theorem d2_151 : decode method_3_code 151 = .ok (.ldc 15, 2) := by decide +kernel
theorem d2_153 : decode method_3_code 153 = .ok (.invokestatic 8, 3) := by decide +kernel
theorem d2_156 : decode method_3_code 156 = .ok (.ifCond .ne 25, 3) := by decide +kernel
theorem d2_159 : decode method_3_code 159 = .ok (.iload_n 0, 1) := by decide +kernel
theorem d2_160 : decode method_3_code 160 = .ok (.ldc 16, 2) := by decide +kernel
theorem d2_162 : decode method_3_code 162 = .ok (.ldc 17, 2) := by decide +kernel
theorem d2_164 : decode method_3_code 164 = .ok (.invokestatic 8, 3) := by decide +kernel
theorem d2_167 : decode method_3_code 167 = .ok (.ifCond .ne 14, 3) := by decide +kernel
theorem d2_170 : decode method_3_code 170 = .ok (.iload_n 0, 1) := by decide +kernel
theorem d2_171 : decode method_3_code 171 = .ok (.ldc 18, 2) := by decide +kernel
theorem d2_173 : decode method_3_code 173 = .ok (.ldc 19, 2) := by decide +kernel
theorem d2_175 : decode method_3_code 175 = .ok (.invokestatic 8, 3) := by decide +kernel
theorem d2_178 : decode method_3_code 178 = .ok (.ifCond .eq 5, 3) := by decide +kernel
theorem d2_183 : decode method_3_code 183 = .ok (.iconst 1, 1) := by decide +kernel
theorem d2_184 : decode method_3_code 184 = .ok (.ireturn, 1) := by decide +kernel
theorem pd_28I29Z : parseMethodDescriptor "(I)Z" = some ⟨[.int], some .boolean⟩ := by decide +kernel
section OwnInts
variable {Z : State} {h h' : Heap} {a b : Addr} {n : Int} {f : Int32 → Int32} {ws : List Addr} {sl : Nat} {v : Value}
theorem own_nneg {j : Int32} (h : ¬ j < 0) : 0 ≤ j.toInt := by
  rw [Int32.lt_iff_toInt_lt] at h
  have e0 : (0 : Int32).toInt = 0 := rfl
  omega
/-- at a lies an int array of n places; place j holds f j -/
def own_In (Z : State) (h : Heap) (a : Addr) (n : Int) (f : Int32 → Int32) : Prop := ∃ c : Cell, Arr Z h a c .int ∧ (c.slots.size : Int) = n ∧ ∀ j : Int32, ¬ j < 0 → j.toInt < n → c.slots[j.toNatClampNeg]? = some (.int (f j))
theorem own_In.ext (B : own_In Z h a n f) (E : Ext h h') : own_In Z h' a n f := by
  obtain ⟨c, A, r⟩ := B
  exact ⟨c, A.ext E, r⟩
theorem own_In.other (B : own_In Z h b n f) (W : Wr h h' a sl v) (q : b ≠ a) : own_In Z h' b n f := by
  obtain ⟨c, A, r⟩ := B
  exact ⟨c, A.other W q, r⟩
theorem own_In.keep (B : own_In Z h a n f) (K : Keep h h' ws) (q : a ∉ ws) : own_In Z h' a n f := by
  obtain ⟨c, A, r⟩ := B
  exact ⟨c, ⟨K.2.1 a c A.1 q, A.2⟩, r⟩
theorem own_In.lt (B : own_In Z h a n f) : a < h.size := by
  obtain ⟨c, A, r⟩ := B
  exact A.lt
theorem own_by_in {c : Cell} {j : Int32} (hs : (c.slots.size : Int) = n) (h1 : ¬ j < 0) (h2 : j.toInt < n) : ¬ (j < 0 ∨ c.slots.size ≤ j.toNatClampNeg) := by
  have h3 := own_nneg h1
  rintro (q | q)
  · exact h1 q
  · simp only [Int32.toNatClampNeg] at q
    omega
theorem own_in_of {k : ClassId} {z : Int32} (V : Arv Z h a k .int z [] (.int (0 : Int32))) (hz : z.toInt = n) : own_In Z h a n (fun _ => (0 : Int32)) := by
  obtain ⟨c, A, -, S, M, H, -⟩ := V
  have h3 := own_nneg M
  have hs : (c.slots.size : Int) = n := by
    rw [S]
    simp only [Int32.toNatClampNeg]
    omega
  refine ⟨c, A, hs, fun j h1 h2 => ?_⟩
  have hk : j.toNatClampNeg < c.slots.size := Nat.lt_of_not_le fun q => own_by_in hs h1 h2 (Or.inr q)
  rw [H _ hk]
  rfl
def own_upd (f : Int32 → Int32) (j x : Int32) : Int32 → Int32 := fun i => if i = j then x else f i
theorem own_upd1 {f : Int32 → Int32} {j x i : Int32} (h : i = j) : own_upd f j x i = x := if_pos h
theorem own_upd0 {f : Int32 → Int32} {j x i : Int32} (h : ¬ i = j) : own_upd f j x i = f i := if_neg h
theorem own_In.set {j x : Int32} (B : own_In Z h a n f) (hj : ¬ j < 0) (W : Wr h h' a j.toNatClampNeg (.int x)) : own_In Z h' a n (own_upd f j x) := by
  obtain ⟨c, A, S, H⟩ := B
  refine ⟨_, A.same W, by rw [sz_set]; exact S, fun i h1 h2 => ?_⟩
  by_cases q : i = j
  · rw [own_upd1 q]
    refine get_hit ?_ q
    subst q
    exact own_by_in S h1 h2
  · rw [own_upd0 q, get_miss hj h1 q]
    exact H i h1 h2
end OwnInts
theorem own_getD {l : List Value} {d : Value} (h : ∀ x ∈ l, x = d) (i : Nat) : l.getD i d = d := by
  rw [List.getD_eq_getElem?_getD]
  cases hq : l[i]? with
  | none => rfl
  | some x => exact h x (List.mem_of_getElem? hq)
theorem own_nil (i : Nat) (d : Value) : ([] : List Value).getD i d = d := rfl
theorem own_cat {d : Value} {z nn dp sp : Nat} (i : Nat) : ([] : List Value).getD i d = ((([] : List Value) ++ List.replicate z d).take dp ++ (List.range nn).map (fun i => ([] : List Value).getD (sp + i) d) ++ (([] : List Value) ++ List.replicate z d).drop (dp + nn)).getD i d := by
  rw [own_nil, own_getD]
  intro x hx
  rcases List.mem_append.mp hx with hx | hx
  · rcases List.mem_append.mp hx with hx | hx
    · exact List.eq_of_mem_replicate (by simpa using List.mem_of_mem_take hx)
    · obtain ⟨j, -, rfl⟩ := List.mem_map.mp hx
      rfl
  · exact List.eq_of_mem_replicate (by simpa using List.mem_of_mem_drop hx)
theorem own_sz {c : Cell} {n : Int} {z : Int32} (hs : (c.slots.size : Int) = n) (hz : z.toInt = n) : c.slots.size = z.toNatClampNeg := by
  simp only [Int32.toNatClampNeg]
  omega

def own_ns (c : Int32) : Int32 := if c = (58 : Int32) ∨ c = (95 : Int32) ∨ (¬ c < (65 : Int32) ∧ ¬ (90 : Int32) < c) ∨ (¬ c < (97 : Int32) ∧ ¬ (122 : Int32) < c) ∨ (¬ c < (192 : Int32) ∧ ¬ (214 : Int32) < c) ∨ (¬ c < (216 : Int32) ∧ ¬ (246 : Int32) < c) ∨ (¬ c < (248 : Int32) ∧ ¬ (767 : Int32) < c) ∨ (¬ c < (880 : Int32) ∧ ¬ (893 : Int32) < c) ∨ (¬ c < (895 : Int32) ∧ ¬ (8191 : Int32) < c) ∨ (¬ c < (8204 : Int32) ∧ ¬ (8205 : Int32) < c) ∨ (¬ c < (8304 : Int32) ∧ ¬ (8591 : Int32) < c) ∨ (¬ c < (11264 : Int32) ∧ ¬ (12271 : Int32) < c) ∨ (¬ c < (12289 : Int32) ∧ ¬ (55295 : Int32) < c) ∨ (¬ c < (63744 : Int32) ∧ ¬ (64975 : Int32) < c) ∨ (¬ c < (65008 : Int32) ∧ ¬ (65533 : Int32) < c) ∨ (¬ c < (65536 : Int32) ∧ ¬ (983039 : Int32) < c) then (1 : Int32) else (0 : Int32)
theorem own_ns1 {c : Int32} (h : c = (58 : Int32) ∨ c = (95 : Int32) ∨ (¬ c < (65 : Int32) ∧ ¬ (90 : Int32) < c) ∨ (¬ c < (97 : Int32) ∧ ¬ (122 : Int32) < c) ∨ (¬ c < (192 : Int32) ∧ ¬ (214 : Int32) < c) ∨ (¬ c < (216 : Int32) ∧ ¬ (246 : Int32) < c) ∨ (¬ c < (248 : Int32) ∧ ¬ (767 : Int32) < c) ∨ (¬ c < (880 : Int32) ∧ ¬ (893 : Int32) < c) ∨ (¬ c < (895 : Int32) ∧ ¬ (8191 : Int32) < c) ∨ (¬ c < (8204 : Int32) ∧ ¬ (8205 : Int32) < c) ∨ (¬ c < (8304 : Int32) ∧ ¬ (8591 : Int32) < c) ∨ (¬ c < (11264 : Int32) ∧ ¬ (12271 : Int32) < c) ∨ (¬ c < (12289 : Int32) ∧ ¬ (55295 : Int32) < c) ∨ (¬ c < (63744 : Int32) ∧ ¬ (64975 : Int32) < c) ∨ (¬ c < (65008 : Int32) ∧ ¬ (65533 : Int32) < c) ∨ (¬ c < (65536 : Int32) ∧ ¬ (983039 : Int32) < c)) : own_ns c = (1 : Int32) := if_pos h
theorem own_ns0 {c : Int32} (h : ¬ (c = (58 : Int32) ∨ c = (95 : Int32) ∨ (¬ c < (65 : Int32) ∧ ¬ (90 : Int32) < c) ∨ (¬ c < (97 : Int32) ∧ ¬ (122 : Int32) < c) ∨ (¬ c < (192 : Int32) ∧ ¬ (214 : Int32) < c) ∨ (¬ c < (216 : Int32) ∧ ¬ (246 : Int32) < c) ∨ (¬ c < (248 : Int32) ∧ ¬ (767 : Int32) < c) ∨ (¬ c < (880 : Int32) ∧ ¬ (893 : Int32) < c) ∨ (¬ c < (895 : Int32) ∧ ¬ (8191 : Int32) < c) ∨ (¬ c < (8204 : Int32) ∧ ¬ (8205 : Int32) < c) ∨ (¬ c < (8304 : Int32) ∧ ¬ (8591 : Int32) < c) ∨ (¬ c < (11264 : Int32) ∧ ¬ (12271 : Int32) < c) ∨ (¬ c < (12289 : Int32) ∧ ¬ (55295 : Int32) < c) ∨ (¬ c < (63744 : Int32) ∧ ¬ (64975 : Int32) < c) ∨ (¬ c < (65008 : Int32) ∧ ¬ (65533 : Int32) < c) ∨ (¬ c < (65536 : Int32) ∧ ¬ (983039 : Int32) < c))) : own_ns c = (0 : Int32) := if_neg h
def own_ref (c : Int32) : Int32 := if (c < (0 : Int32)) ∨ ((983039 : Int32) < c) ∨ (¬ (c < (0 : Int32) ∨ (57 : Int32) < c)) ∨ (¬ (c < (59 : Int32) ∨ (64 : Int32) < c)) ∨ (¬ (c < (91 : Int32) ∨ (94 : Int32) < c)) ∨ (c = (96 : Int32)) ∨ (¬ (c < (123 : Int32) ∨ (191 : Int32) < c)) ∨ (c = (215 : Int32)) ∨ (c = (247 : Int32)) ∨ (¬ (c < (768 : Int32) ∨ (879 : Int32) < c)) ∨ (c = (894 : Int32)) ∨ (¬ (c < (8192 : Int32) ∨ (8203 : Int32) < c)) ∨ (¬ (c < (8206 : Int32) ∨ (8303 : Int32) < c)) ∨ (¬ (c < (8592 : Int32) ∨ (11263 : Int32) < c)) ∨ (¬ (c < (12272 : Int32) ∨ (12288 : Int32) < c)) ∨ (¬ (c < (55296 : Int32) ∨ (63743 : Int32) < c)) ∨ (¬ (c < (64976 : Int32) ∨ (65007 : Int32) < c)) ∨ (¬ (c < (65534 : Int32) ∨ (65535 : Int32) < c)) then (0 : Int32) else (1 : Int32)
theorem own_ref0 {c : Int32} (h : (c < (0 : Int32)) ∨ ((983039 : Int32) < c) ∨ (¬ (c < (0 : Int32) ∨ (57 : Int32) < c)) ∨ (¬ (c < (59 : Int32) ∨ (64 : Int32) < c)) ∨ (¬ (c < (91 : Int32) ∨ (94 : Int32) < c)) ∨ (c = (96 : Int32)) ∨ (¬ (c < (123 : Int32) ∨ (191 : Int32) < c)) ∨ (c = (215 : Int32)) ∨ (c = (247 : Int32)) ∨ (¬ (c < (768 : Int32) ∨ (879 : Int32) < c)) ∨ (c = (894 : Int32)) ∨ (¬ (c < (8192 : Int32) ∨ (8203 : Int32) < c)) ∨ (¬ (c < (8206 : Int32) ∨ (8303 : Int32) < c)) ∨ (¬ (c < (8592 : Int32) ∨ (11263 : Int32) < c)) ∨ (¬ (c < (12272 : Int32) ∨ (12288 : Int32) < c)) ∨ (¬ (c < (55296 : Int32) ∨ (63743 : Int32) < c)) ∨ (¬ (c < (64976 : Int32) ∨ (65007 : Int32) < c)) ∨ (¬ (c < (65534 : Int32) ∨ (65535 : Int32) < c))) : own_ref c = (0 : Int32) := if_pos h
theorem own_ref1 {c : Int32} (h : ¬ ((c < (0 : Int32)) ∨ ((983039 : Int32) < c) ∨ (¬ (c < (0 : Int32) ∨ (57 : Int32) < c)) ∨ (¬ (c < (59 : Int32) ∨ (64 : Int32) < c)) ∨ (¬ (c < (91 : Int32) ∨ (94 : Int32) < c)) ∨ (c = (96 : Int32)) ∨ (¬ (c < (123 : Int32) ∨ (191 : Int32) < c)) ∨ (c = (215 : Int32)) ∨ (c = (247 : Int32)) ∨ (¬ (c < (768 : Int32) ∨ (879 : Int32) < c)) ∨ (c = (894 : Int32)) ∨ (¬ (c < (8192 : Int32) ∨ (8203 : Int32) < c)) ∨ (¬ (c < (8206 : Int32) ∨ (8303 : Int32) < c)) ∨ (¬ (c < (8592 : Int32) ∨ (11263 : Int32) < c)) ∨ (¬ (c < (12272 : Int32) ∨ (12288 : Int32) < c)) ∨ (¬ (c < (55296 : Int32) ∨ (63743 : Int32) < c)) ∨ (¬ (c < (64976 : Int32) ∨ (65007 : Int32) < c)) ∨ (¬ (c < (65534 : Int32) ∨ (65535 : Int32) < c)))) : own_ref c = (1 : Int32) := if_neg h
def own_PX (x : Int) : Prop := x = 58 ∨ x = 95 ∨ (¬ x < 65 ∧ ¬ 90 < x) ∨ (¬ x < 97 ∧ ¬ 122 < x) ∨ (¬ x < 192 ∧ ¬ 214 < x) ∨ (¬ x < 216 ∧ ¬ 246 < x) ∨ (¬ x < 248 ∧ ¬ 767 < x) ∨ (¬ x < 880 ∧ ¬ 893 < x) ∨ (¬ x < 895 ∧ ¬ 8191 < x) ∨ (¬ x < 8204 ∧ ¬ 8205 < x) ∨ (¬ x < 8304 ∧ ¬ 8591 < x) ∨ (¬ x < 11264 ∧ ¬ 12271 < x) ∨ (¬ x < 12289 ∧ ¬ 55295 < x) ∨ (¬ x < 63744 ∧ ¬ 64975 < x) ∨ (¬ x < 65008 ∧ ¬ 65533 < x) ∨ (¬ x < 65536 ∧ ¬ 983039 < x)
def own_RX (x : Int) : Prop := (x < 0) ∨ (983039 < x) ∨ (¬ (x < 0 ∨ 57 < x)) ∨ (¬ (x < 59 ∨ 64 < x)) ∨ (¬ (x < 91 ∨ 94 < x)) ∨ (x = 96) ∨ (¬ (x < 123 ∨ 191 < x)) ∨ (x = 215) ∨ (x = 247) ∨ (¬ (x < 768 ∨ 879 < x)) ∨ (x = 894) ∨ (¬ (x < 8192 ∨ 8203 < x)) ∨ (¬ (x < 8206 ∨ 8303 < x)) ∨ (¬ (x < 8592 ∨ 11263 < x)) ∨ (¬ (x < 12272 ∨ 12288 < x)) ∨ (¬ (x < 55296 ∨ 63743 < x)) ∨ (¬ (x < 64976 ∨ 65007 < x)) ∨ (¬ (x < 65534 ∨ 65535 < x))
theorem own_iff (x : Int) : own_PX x ↔ ¬ own_RX x := by
  by_cases h0 : x < 0
  · exact iff_of_false (by unfold own_PX; omega) (fun h => h (Or.inl (by omega)))
  by_cases g0 : x ≤ 57
  · exact iff_of_false (by unfold own_PX; omega) (fun h => h (Or.inr (Or.inr (Or.inl (by omega)))))
  by_cases g1 : x ≤ 58
  · exact iff_of_true (Or.inl (show x = 58 by omega)) (by unfold own_RX; omega)
  by_cases g2 : x ≤ 64
  · exact iff_of_false (by unfold own_PX; omega) (fun h => h (Or.inr (Or.inr (Or.inr (Or.inl (by omega))))))
  by_cases g3 : x ≤ 90
  · exact iff_of_true (Or.inr (Or.inr (Or.inl ⟨by omega, by omega⟩))) (by unfold own_RX; omega)
  by_cases g4 : x ≤ 94
  · exact iff_of_false (by unfold own_PX; omega) (fun h => h (Or.inr (Or.inr (Or.inr (Or.inr (Or.inl (by omega)))))))
  by_cases g5 : x ≤ 95
  · exact iff_of_true (Or.inr (Or.inl (show x = 95 by omega))) (by unfold own_RX; omega)
  by_cases g6 : x ≤ 96
  · exact iff_of_false (by unfold own_PX; omega) (fun h => h (Or.inr (Or.inr (Or.inr (Or.inr (Or.inr (Or.inl (by omega))))))))
  by_cases g7 : x ≤ 122
  · exact iff_of_true (Or.inr (Or.inr (Or.inr (Or.inl ⟨by omega, by omega⟩)))) (by unfold own_RX; omega)
  by_cases g8 : x ≤ 191
  · exact iff_of_false (by unfold own_PX; omega) (fun h => h (Or.inr (Or.inr (Or.inr (Or.inr (Or.inr (Or.inr (Or.inl (by omega)))))))))
  by_cases g9 : x ≤ 214
  · exact iff_of_true (Or.inr (Or.inr (Or.inr (Or.inr (Or.inl ⟨by omega, by omega⟩))))) (by unfold own_RX; omega)
  by_cases g10 : x ≤ 215
  · exact iff_of_false (by unfold own_PX; omega) (fun h => h (Or.inr (Or.inr (Or.inr (Or.inr (Or.inr (Or.inr (Or.inr (Or.inl (by omega))))))))))
  by_cases g11 : x ≤ 246
  · exact iff_of_true (Or.inr (Or.inr (Or.inr (Or.inr (Or.inr (Or.inl ⟨by omega, by omega⟩)))))) (by unfold own_RX; omega)
  by_cases g12 : x ≤ 247
  · exact iff_of_false (by unfold own_PX; omega) (fun h => h (Or.inr (Or.inr (Or.inr (Or.inr (Or.inr (Or.inr (Or.inr (Or.inr (Or.inl (by omega)))))))))))
  by_cases g13 : x ≤ 767
  · exact iff_of_true (Or.inr (Or.inr (Or.inr (Or.inr (Or.inr (Or.inr (Or.inl ⟨by omega, by omega⟩))))))) (by unfold own_RX; omega)
  by_cases g14 : x ≤ 879
  · exact iff_of_false (by unfold own_PX; omega) (fun h => h (Or.inr (Or.inr (Or.inr (Or.inr (Or.inr (Or.inr (Or.inr (Or.inr (Or.inr (Or.inl (by omega))))))))))))
  by_cases g15 : x ≤ 893
  · exact iff_of_true (Or.inr (Or.inr (Or.inr (Or.inr (Or.inr (Or.inr (Or.inr (Or.inl ⟨by omega, by omega⟩)))))))) (by unfold own_RX; omega)
  by_cases g16 : x ≤ 894
  · exact iff_of_false (by unfold own_PX; omega) (fun h => h (Or.inr (Or.inr (Or.inr (Or.inr (Or.inr (Or.inr (Or.inr (Or.inr (Or.inr (Or.inr (Or.inl (by omega)))))))))))))
  by_cases g17 : x ≤ 8191
  · exact iff_of_true (Or.inr (Or.inr (Or.inr (Or.inr (Or.inr (Or.inr (Or.inr (Or.inr (Or.inl ⟨by omega, by omega⟩))))))))) (by unfold own_RX; omega)
  by_cases g18 : x ≤ 8203
  · exact iff_of_false (by unfold own_PX; omega) (fun h => h (Or.inr (Or.inr (Or.inr (Or.inr (Or.inr (Or.inr (Or.inr (Or.inr (Or.inr (Or.inr (Or.inr (Or.inl (by omega))))))))))))))
  by_cases g19 : x ≤ 8205
  · exact iff_of_true (Or.inr (Or.inr (Or.inr (Or.inr (Or.inr (Or.inr (Or.inr (Or.inr (Or.inr (Or.inl ⟨by omega, by omega⟩)))))))))) (by unfold own_RX; omega)
  by_cases g20 : x ≤ 8303
  · exact iff_of_false (by unfold own_PX; omega) (fun h => h (Or.inr (Or.inr (Or.inr (Or.inr (Or.inr (Or.inr (Or.inr (Or.inr (Or.inr (Or.inr (Or.inr (Or.inr (Or.inl (by omega)))))))))))))))
  by_cases g21 : x ≤ 8591
  · exact iff_of_true (Or.inr (Or.inr (Or.inr (Or.inr (Or.inr (Or.inr (Or.inr (Or.inr (Or.inr (Or.inr (Or.inl ⟨by omega, by omega⟩))))))))))) (by unfold own_RX; omega)
  by_cases g22 : x ≤ 11263
  · exact iff_of_false (by unfold own_PX; omega) (fun h => h (Or.inr (Or.inr (Or.inr (Or.inr (Or.inr (Or.inr (Or.inr (Or.inr (Or.inr (Or.inr (Or.inr (Or.inr (Or.inr (Or.inl (by omega))))))))))))))))
  by_cases g23 : x ≤ 12271
  · exact iff_of_true (Or.inr (Or.inr (Or.inr (Or.inr (Or.inr (Or.inr (Or.inr (Or.inr (Or.inr (Or.inr (Or.inr (Or.inl ⟨by omega, by omega⟩)))))))))))) (by unfold own_RX; omega)
  by_cases g24 : x ≤ 12288
  · exact iff_of_false (by unfold own_PX; omega) (fun h => h (Or.inr (Or.inr (Or.inr (Or.inr (Or.inr (Or.inr (Or.inr (Or.inr (Or.inr (Or.inr (Or.inr (Or.inr (Or.inr (Or.inr (Or.inl (by omega)))))))))))))))))
  by_cases g25 : x ≤ 55295
  · exact iff_of_true (Or.inr (Or.inr (Or.inr (Or.inr (Or.inr (Or.inr (Or.inr (Or.inr (Or.inr (Or.inr (Or.inr (Or.inr (Or.inl ⟨by omega, by omega⟩))))))))))))) (by unfold own_RX; omega)
  by_cases g26 : x ≤ 63743
  · exact iff_of_false (by unfold own_PX; omega) (fun h => h (Or.inr (Or.inr (Or.inr (Or.inr (Or.inr (Or.inr (Or.inr (Or.inr (Or.inr (Or.inr (Or.inr (Or.inr (Or.inr (Or.inr (Or.inr (Or.inl (by omega))))))))))))))))))
  by_cases g27 : x ≤ 64975
  · exact iff_of_true (Or.inr (Or.inr (Or.inr (Or.inr (Or.inr (Or.inr (Or.inr (Or.inr (Or.inr (Or.inr (Or.inr (Or.inr (Or.inr (Or.inl ⟨by omega, by omega⟩)))))))))))))) (by unfold own_RX; omega)
  by_cases g28 : x ≤ 65007
  · exact iff_of_false (by unfold own_PX; omega) (fun h => h (Or.inr (Or.inr (Or.inr (Or.inr (Or.inr (Or.inr (Or.inr (Or.inr (Or.inr (Or.inr (Or.inr (Or.inr (Or.inr (Or.inr (Or.inr (Or.inr (Or.inl (by omega)))))))))))))))))))
  by_cases g29 : x ≤ 65533
  · exact iff_of_true (Or.inr (Or.inr (Or.inr (Or.inr (Or.inr (Or.inr (Or.inr (Or.inr (Or.inr (Or.inr (Or.inr (Or.inr (Or.inr (Or.inr (Or.inl ⟨by omega, by omega⟩))))))))))))))) (by unfold own_RX; omega)
  by_cases g30 : x ≤ 65535
  · exact iff_of_false (by unfold own_PX; omega) (fun h => h (Or.inr (Or.inr (Or.inr (Or.inr (Or.inr (Or.inr (Or.inr (Or.inr (Or.inr (Or.inr (Or.inr (Or.inr (Or.inr (Or.inr (Or.inr (Or.inr (Or.inr (by omega)))))))))))))))))))
  by_cases g31 : x ≤ 983039
  · exact iff_of_true (Or.inr (Or.inr (Or.inr (Or.inr (Or.inr (Or.inr (Or.inr (Or.inr (Or.inr (Or.inr (Or.inr (Or.inr (Or.inr (Or.inr (Or.inr ⟨by omega, by omega⟩))))))))))))))) (by unfold own_RX; omega)
  exact iff_of_false (by unfold own_PX; omega) (fun h => h (Or.inr (Or.inl (by omega))))
theorem own_eq (c : Int32) : own_ns c = own_ref c := by
  have h := own_iff c.toInt
  unfold own_PX own_RX at h
  by_cases q : c = (58 : Int32) ∨ c = (95 : Int32) ∨ (¬ c < (65 : Int32) ∧ ¬ (90 : Int32) < c) ∨ (¬ c < (97 : Int32) ∧ ¬ (122 : Int32) < c) ∨ (¬ c < (192 : Int32) ∧ ¬ (214 : Int32) < c) ∨ (¬ c < (216 : Int32) ∧ ¬ (246 : Int32) < c) ∨ (¬ c < (248 : Int32) ∧ ¬ (767 : Int32) < c) ∨ (¬ c < (880 : Int32) ∧ ¬ (893 : Int32) < c) ∨ (¬ c < (895 : Int32) ∧ ¬ (8191 : Int32) < c) ∨ (¬ c < (8204 : Int32) ∧ ¬ (8205 : Int32) < c) ∨ (¬ c < (8304 : Int32) ∧ ¬ (8591 : Int32) < c) ∨ (¬ c < (11264 : Int32) ∧ ¬ (12271 : Int32) < c) ∨ (¬ c < (12289 : Int32) ∧ ¬ (55295 : Int32) < c) ∨ (¬ c < (63744 : Int32) ∧ ¬ (64975 : Int32) < c) ∨ (¬ c < (65008 : Int32) ∧ ¬ (65533 : Int32) < c) ∨ (¬ c < (65536 : Int32) ∧ ¬ (983039 : Int32) < c)
  · rw [own_ns1 q, own_ref1]
    simp only [Int32.lt_iff_toInt_lt, ← Int32.toInt_inj, show (0 : Int32).toInt = 0 from rfl, show (57 : Int32).toInt = 57 from rfl, show (58 : Int32).toInt = 58 from rfl, show (59 : Int32).toInt = 59 from rfl, show (64 : Int32).toInt = 64 from rfl, show (65 : Int32).toInt = 65 from rfl, show (90 : Int32).toInt = 90 from rfl, show (91 : Int32).toInt = 91 from rfl, show (94 : Int32).toInt = 94 from rfl, show (95 : Int32).toInt = 95 from rfl, show (96 : Int32).toInt = 96 from rfl, show (97 : Int32).toInt = 97 from rfl, show (122 : Int32).toInt = 122 from rfl, show (123 : Int32).toInt = 123 from rfl, show (191 : Int32).toInt = 191 from rfl, show (192 : Int32).toInt = 192 from rfl, show (214 : Int32).toInt = 214 from rfl, show (215 : Int32).toInt = 215 from rfl, show (216 : Int32).toInt = 216 from rfl, show (246 : Int32).toInt = 246 from rfl, show (247 : Int32).toInt = 247 from rfl, show (248 : Int32).toInt = 248 from rfl, show (767 : Int32).toInt = 767 from rfl, show (768 : Int32).toInt = 768 from rfl, show (879 : Int32).toInt = 879 from rfl, show (880 : Int32).toInt = 880 from rfl, show (893 : Int32).toInt = 893 from rfl, show (894 : Int32).toInt = 894 from rfl, show (895 : Int32).toInt = 895 from rfl, show (8191 : Int32).toInt = 8191 from rfl, show (8192 : Int32).toInt = 8192 from rfl, show (8203 : Int32).toInt = 8203 from rfl, show (8204 : Int32).toInt = 8204 from rfl, show (8205 : Int32).toInt = 8205 from rfl, show (8206 : Int32).toInt = 8206 from rfl, show (8303 : Int32).toInt = 8303 from rfl, show (8304 : Int32).toInt = 8304 from rfl, show (8591 : Int32).toInt = 8591 from rfl, show (8592 : Int32).toInt = 8592 from rfl, show (11263 : Int32).toInt = 11263 from rfl, show (11264 : Int32).toInt = 11264 from rfl, show (12271 : Int32).toInt = 12271 from rfl, show (12272 : Int32).toInt = 12272 from rfl, show (12288 : Int32).toInt = 12288 from rfl, show (12289 : Int32).toInt = 12289 from rfl, show (55295 : Int32).toInt = 55295 from rfl, show (55296 : Int32).toInt = 55296 from rfl, show (63743 : Int32).toInt = 63743 from rfl, show (63744 : Int32).toInt = 63744 from rfl, show (64975 : Int32).toInt = 64975 from rfl, show (64976 : Int32).toInt = 64976 from rfl, show (65007 : Int32).toInt = 65007 from rfl, show (65008 : Int32).toInt = 65008 from rfl, show (65533 : Int32).toInt = 65533 from rfl, show (65534 : Int32).toInt = 65534 from rfl, show (65535 : Int32).toInt = 65535 from rfl, show (65536 : Int32).toInt = 65536 from rfl, show (983039 : Int32).toInt = 983039 from rfl] at q ⊢
    exact h.mp q
  · rw [own_ns0 q, own_ref0]
    simp only [Int32.lt_iff_toInt_lt, ← Int32.toInt_inj, show (0 : Int32).toInt = 0 from rfl, show (57 : Int32).toInt = 57 from rfl, show (58 : Int32).toInt = 58 from rfl, show (59 : Int32).toInt = 59 from rfl, show (64 : Int32).toInt = 64 from rfl, show (65 : Int32).toInt = 65 from rfl, show (90 : Int32).toInt = 90 from rfl, show (91 : Int32).toInt = 91 from rfl, show (94 : Int32).toInt = 94 from rfl, show (95 : Int32).toInt = 95 from rfl, show (96 : Int32).toInt = 96 from rfl, show (97 : Int32).toInt = 97 from rfl, show (122 : Int32).toInt = 122 from rfl, show (123 : Int32).toInt = 123 from rfl, show (191 : Int32).toInt = 191 from rfl, show (192 : Int32).toInt = 192 from rfl, show (214 : Int32).toInt = 214 from rfl, show (215 : Int32).toInt = 215 from rfl, show (216 : Int32).toInt = 216 from rfl, show (246 : Int32).toInt = 246 from rfl, show (247 : Int32).toInt = 247 from rfl, show (248 : Int32).toInt = 248 from rfl, show (767 : Int32).toInt = 767 from rfl, show (768 : Int32).toInt = 768 from rfl, show (879 : Int32).toInt = 879 from rfl, show (880 : Int32).toInt = 880 from rfl, show (893 : Int32).toInt = 893 from rfl, show (894 : Int32).toInt = 894 from rfl, show (895 : Int32).toInt = 895 from rfl, show (8191 : Int32).toInt = 8191 from rfl, show (8192 : Int32).toInt = 8192 from rfl, show (8203 : Int32).toInt = 8203 from rfl, show (8204 : Int32).toInt = 8204 from rfl, show (8205 : Int32).toInt = 8205 from rfl, show (8206 : Int32).toInt = 8206 from rfl, show (8303 : Int32).toInt = 8303 from rfl, show (8304 : Int32).toInt = 8304 from rfl, show (8591 : Int32).toInt = 8591 from rfl, show (8592 : Int32).toInt = 8592 from rfl, show (11263 : Int32).toInt = 11263 from rfl, show (11264 : Int32).toInt = 11264 from rfl, show (12271 : Int32).toInt = 12271 from rfl, show (12272 : Int32).toInt = 12272 from rfl, show (12288 : Int32).toInt = 12288 from rfl, show (12289 : Int32).toInt = 12289 from rfl, show (55295 : Int32).toInt = 55295 from rfl, show (55296 : Int32).toInt = 55296 from rfl, show (63743 : Int32).toInt = 63743 from rfl, show (63744 : Int32).toInt = 63744 from rfl, show (64975 : Int32).toInt = 64975 from rfl, show (64976 : Int32).toInt = 64976 from rfl, show (65007 : Int32).toInt = 65007 from rfl, show (65008 : Int32).toInt = 65008 from rfl, show (65533 : Int32).toInt = 65533 from rfl, show (65534 : Int32).toInt = 65534 from rfl, show (65535 : Int32).toInt = 65535 from rfl, show (65536 : Int32).toInt = 65536 from rfl, show (983039 : Int32).toInt = 983039 from rfl] at q ⊢
    exact Classical.not_not.mp fun r => q (h.mpr r)
theorem own_idx (x : Int32) : ¬ ((x &&& (2147483647 : Int32)) % (32 : Int32)) < 0 ∧ ((x &&& (2147483647 : Int32)) % (32 : Int32)) < (32 : Int32) := by
  have h1 := c_mask x (2147483647 : Int32) 31 (by decide) (by decide)
  have h2 := (c_irem (x &&& (2147483647 : Int32)) (32 : Int32) 32 rfl).1
  have e0 : (0 : Int32).toInt = 0 := rfl
  have e1 : (32 : Int32).toInt = 32 := rfl
  rw [Int32.lt_iff_toInt_lt, Int32.lt_iff_toInt_lt]
  omega
theorem own_idx2 (x : Int32) : ((x &&& (2147483647 : Int32)) % (32 : Int32)).toInt < 32 := by
  have h := (own_idx x).2
  rw [Int32.lt_iff_toInt_lt, show (32 : Int32).toInt = 32 from rfl] at h
  exact h

theorem ef_rm1 (m : MethodId) (x0 : Int32) : entryFrame m #[(.int x0)] 1 = mkF m 0 #[.val (.int x0)] [] := by first | (simp [entryFrame, mkF, argsToLocals, Value.category]; done) | rfl
def Q1 (Z : State) (p0 : Int32) (h0 : Heap) (n0 : Nat) (v : Option Value) (h : Heap) (L : List Loc) : Prop := v = some (.int (own_ns p0)) ∧ Fr n0 L ∧ h = h0
set_option maxRecDepth 65536 in
set_option maxHeartbeats 40000000 in
theorem rm1 (l : Launch) (Z : State) (aw : Array Value) (hw : ∀ d ∈ tables_1, d.before aw Z = true) (ws : List Jvm.Cond) (p0 : Int32) (h0 : Heap) (n0 : Nat) (Z0 : n0 ≤ h0.size) :
    MetFree l (⟨"com/example/descant/descant/xml/XmlNames", "isNameStart", "(I)Z"⟩ : MethodName) (head1 (Jvm.Cond.code (⟨"com/example/descant/descant/xml/XmlNames", "isNameStart", "(I)Z"⟩ : MethodName) prog_134_method_7_code 1 (some .boolean) :: ws) ({ frames := 0, cells := 0, slots := 0, locals := 0 } : Room)) (fun a U => a = #[(.int p0)] ∧ Z.Warmed39 U.vm ∧ U.heap = h0) (fun _ _ _ _ _ => True) (fun _ U o U' => ∃ v L, o = .returned v ∧ Q1 Z p0 h0 n0 v U'.heap L ∧ FrameEnd U o U' L ({ frames := 0, cells := 0, slots := 0, locals := 0 } : Room).cells ({ frames := 0, cells := 0, slots := 0, locals := 0 } : Room).slots) := by
  refine MetFree.of_bodySF (plainFor_of_name pn_com_example_descant_descant_xml_XmlNames) hisR ?_
  intro p e s m args below meth c s₁ Bd hml0 hP hK
  obtain ⟨rfl, hZ, hh⟩ := hP
  have hx := Bd.exec
  have hby := Bd.bytes
  have hml : c.maxLocals = 1 := hml0
  have hown : s.vm.findClass "com/example/descant/descant/xml/XmlNames" = some m.cls := findClass_of_methodNamed Bd.named
  have hnm := (name_of_methodNamed Bd.named Bd.method).1
  have X0 : Stand p l e ({ frames := 0, cells := 0, slots := 0, locals := 0 } : Room) s m #[(.int p0)] below meth c s₁ [] 0 0 := Stand.of_body Bd
  have e0 : s₁.heap = h0 := by rw [← hh, Bd.state]; rfl
  have N0 := Fr.nil n0
  refine own_go (Q := Q1 Z p0 h0 n0) ?_
  refine Go.to (g' := (mkF m 0 #[.val (.int p0)] [])) (fun t k => castTop (ef_rm1 m p0) k) ?_
  refine Go.to (g' := (mkF m 1 #[.val (.int p0)] [(.int p0)])) (fun t k => XS.iloadN X0.here hx rfl (hb hby d1_0) rfl k) ?_
  refine Go.to (g' := (mkF m 3 #[.val (.int p0)] [(.int (58 : Int32)), (.int p0)])) (fun t k => XS.bipush X0.here hx rfl (hb hby d1_1) k) ?_
  by_cases s0 : p0 = (58 : Int32)
  · refine Go.to (g' := (mkF m 197 #[.val (.int p0)] [])) (fun t k => XS.icmpYes X0.here hx rfl (pc0 := 3) (pc' := 197) rfl (hb hby d1_3) rfl (teq s0).1 (by decide) (by decide) k) ?_
    refine Go.to (g' := (mkF m 198 #[.val (.int p0)] [(.int (1 : Int32))])) (fun t k => XS.iconst X0.here hx rfl (hb hby d1_197) k) ?_
    refine Go.to (g' := (mkF m 202 #[.val (.int p0)] [(.int (1 : Int32))])) (fun t k => XS.goto X0.here hx rfl (pc0 := 198) (pc' := 202) rfl (hb hby d1_198) (by decide) (by decide) k) ?_
    exact Go.retN X0 hx (t := .boolean) Bd.returns Bd.notSynchronized (by simp) (hb hby d1_202) (by decide) (by decide) e0 ⟨by rw [own_ns1 (Or.inl s0)]; rfl, N0, rfl⟩
  · refine Go.to (g' := (mkF m 6 #[.val (.int p0)] [])) (fun t k => XS.icmpNo X0.here hx rfl (hb hby d1_3) rfl (feq s0).1 k) ?_
    refine Go.to (g' := (mkF m 7 #[.val (.int p0)] [(.int p0)])) (fun t k => XS.iloadN X0.here hx rfl (hb hby d1_6) rfl k) ?_
    refine Go.to (g' := (mkF m 9 #[.val (.int p0)] [(.int (95 : Int32)), (.int p0)])) (fun t k => XS.bipush X0.here hx rfl (hb hby d1_7) k) ?_
    by_cases s1 : p0 = (95 : Int32)
    · refine Go.to (g' := (mkF m 197 #[.val (.int p0)] [])) (fun t k => XS.icmpYes X0.here hx rfl (pc0 := 9) (pc' := 197) rfl (hb hby d1_9) rfl (teq s1).1 (by decide) (by decide) k) ?_
      refine Go.to (g' := (mkF m 198 #[.val (.int p0)] [(.int (1 : Int32))])) (fun t k => XS.iconst X0.here hx rfl (hb hby d1_197) k) ?_
      refine Go.to (g' := (mkF m 202 #[.val (.int p0)] [(.int (1 : Int32))])) (fun t k => XS.goto X0.here hx rfl (pc0 := 198) (pc' := 202) rfl (hb hby d1_198) (by decide) (by decide) k) ?_
      exact Go.retN X0 hx (t := .boolean) Bd.returns Bd.notSynchronized (by simp) (hb hby d1_202) (by decide) (by decide) e0 ⟨by rw [own_ns1 (Or.inr (Or.inl s1))]; rfl, N0, rfl⟩
    · refine Go.to (g' := (mkF m 12 #[.val (.int p0)] [])) (fun t k => XS.icmpNo X0.here hx rfl (hb hby d1_9) rfl (feq s1).1 k) ?_
      suffices J2 : ∀ (r2 : p0 < (65 : Int32) ∨ (90 : Int32) < p0), Go p e below s (Q1 Z p0 h0 n0) ({ frames := 0, cells := 0, slots := 0, locals := 0 } : Room).cells ({ frames := 0, cells := 0, slots := 0, locals := 0 } : Room).slots (s₁.setTop (mkF m 24 #[.val (.int p0)] [])) by
        refine Go.to (g' := (mkF m 13 #[.val (.int p0)] [(.int p0)])) (fun t k => XS.iloadN X0.here hx rfl (hb hby d1_12) rfl k) ?_
        refine Go.to (g' := (mkF m 15 #[.val (.int p0)] [(.int (65 : Int32)), (.int p0)])) (fun t k => XS.bipush X0.here hx rfl (hb hby d1_13) k) ?_
        by_cases c1 : p0 < (65 : Int32)
        · refine Go.to (g' := (mkF m 24 #[.val (.int p0)] [])) (fun t k => XS.icmpYes X0.here hx rfl (pc0 := 15) (pc' := 24) rfl (hb hby d1_15) rfl (tlt c1).1 (by decide) (by decide) k) ?_
          exact J2 (Or.inl c1)
        · refine Go.to (g' := (mkF m 18 #[.val (.int p0)] [])) (fun t k => XS.icmpNo X0.here hx rfl (hb hby d1_15) rfl (flt c1).1 k) ?_
          refine Go.to (g' := (mkF m 19 #[.val (.int p0)] [(.int p0)])) (fun t k => XS.iloadN X0.here hx rfl (hb hby d1_18) rfl k) ?_
          refine Go.to (g' := (mkF m 21 #[.val (.int p0)] [(.int (90 : Int32)), (.int p0)])) (fun t k => XS.bipush X0.here hx rfl (hb hby d1_19) k) ?_
          by_cases c2 : (90 : Int32) < p0
          · refine Go.to (g' := (mkF m 24 #[.val (.int p0)] [])) (fun t k => XS.icmpNo X0.here hx rfl (hb hby d1_21) rfl (tlt c2).2.2.2 k) ?_
            exact J2 (Or.inr c2)
          · refine Go.to (g' := (mkF m 197 #[.val (.int p0)] [])) (fun t k => XS.icmpYes X0.here hx rfl (pc0 := 21) (pc' := 197) rfl (hb hby d1_21) rfl (flt c2).2.2.2 (by decide) (by decide) k) ?_
            refine Go.to (g' := (mkF m 198 #[.val (.int p0)] [(.int (1 : Int32))])) (fun t k => XS.iconst X0.here hx rfl (hb hby d1_197) k) ?_
            refine Go.to (g' := (mkF m 202 #[.val (.int p0)] [(.int (1 : Int32))])) (fun t k => XS.goto X0.here hx rfl (pc0 := 198) (pc' := 202) rfl (hb hby d1_198) (by decide) (by decide) k) ?_
            exact Go.retN X0 hx (t := .boolean) Bd.returns Bd.notSynchronized (by simp) (hb hby d1_202) (by decide) (by decide) e0 ⟨by rw [own_ns1 (Or.inr (Or.inr (Or.inl ⟨c1, c2⟩)))]; rfl, N0, rfl⟩
      intro r2
      suffices J3 : ∀ (r3 : p0 < (97 : Int32) ∨ (122 : Int32) < p0), Go p e below s (Q1 Z p0 h0 n0) ({ frames := 0, cells := 0, slots := 0, locals := 0 } : Room).cells ({ frames := 0, cells := 0, slots := 0, locals := 0 } : Room).slots (s₁.setTop (mkF m 36 #[.val (.int p0)] [])) by
        refine Go.to (g' := (mkF m 25 #[.val (.int p0)] [(.int p0)])) (fun t k => XS.iloadN X0.here hx rfl (hb hby d1_24) rfl k) ?_
        refine Go.to (g' := (mkF m 27 #[.val (.int p0)] [(.int (97 : Int32)), (.int p0)])) (fun t k => XS.bipush X0.here hx rfl (hb hby d1_25) k) ?_
        by_cases c3 : p0 < (97 : Int32)
        · refine Go.to (g' := (mkF m 36 #[.val (.int p0)] [])) (fun t k => XS.icmpYes X0.here hx rfl (pc0 := 27) (pc' := 36) rfl (hb hby d1_27) rfl (tlt c3).1 (by decide) (by decide) k) ?_
          exact J3 (Or.inl c3)
        · refine Go.to (g' := (mkF m 30 #[.val (.int p0)] [])) (fun t k => XS.icmpNo X0.here hx rfl (hb hby d1_27) rfl (flt c3).1 k) ?_
          refine Go.to (g' := (mkF m 31 #[.val (.int p0)] [(.int p0)])) (fun t k => XS.iloadN X0.here hx rfl (hb hby d1_30) rfl k) ?_
          refine Go.to (g' := (mkF m 33 #[.val (.int p0)] [(.int (122 : Int32)), (.int p0)])) (fun t k => XS.bipush X0.here hx rfl (hb hby d1_31) k) ?_
          by_cases c4 : (122 : Int32) < p0
          · refine Go.to (g' := (mkF m 36 #[.val (.int p0)] [])) (fun t k => XS.icmpNo X0.here hx rfl (hb hby d1_33) rfl (tlt c4).2.2.2 k) ?_
            exact J3 (Or.inr c4)
          · refine Go.to (g' := (mkF m 197 #[.val (.int p0)] [])) (fun t k => XS.icmpYes X0.here hx rfl (pc0 := 33) (pc' := 197) rfl (hb hby d1_33) rfl (flt c4).2.2.2 (by decide) (by decide) k) ?_
            refine Go.to (g' := (mkF m 198 #[.val (.int p0)] [(.int (1 : Int32))])) (fun t k => XS.iconst X0.here hx rfl (hb hby d1_197) k) ?_
            refine Go.to (g' := (mkF m 202 #[.val (.int p0)] [(.int (1 : Int32))])) (fun t k => XS.goto X0.here hx rfl (pc0 := 198) (pc' := 202) rfl (hb hby d1_198) (by decide) (by decide) k) ?_
            exact Go.retN X0 hx (t := .boolean) Bd.returns Bd.notSynchronized (by simp) (hb hby d1_202) (by decide) (by decide) e0 ⟨by rw [own_ns1 (Or.inr (Or.inr (Or.inr (Or.inl ⟨c3, c4⟩))))]; rfl, N0, rfl⟩
      intro r3
      suffices J4 : ∀ (r4 : p0 < (192 : Int32) ∨ (214 : Int32) < p0), Go p e below s (Q1 Z p0 h0 n0) ({ frames := 0, cells := 0, slots := 0, locals := 0 } : Room).cells ({ frames := 0, cells := 0, slots := 0, locals := 0 } : Room).slots (s₁.setTop (mkF m 50 #[.val (.int p0)] [])) by
        refine Go.to (g' := (mkF m 37 #[.val (.int p0)] [(.int p0)])) (fun t k => XS.iloadN X0.here hx rfl (hb hby d1_36) rfl k) ?_
        refine Go.to (g' := (mkF m 40 #[.val (.int p0)] [(.int (192 : Int32)), (.int p0)])) (fun t k => XS.sipush X0.here hx rfl (hb hby d1_37) k) ?_
        by_cases c5 : p0 < (192 : Int32)
        · refine Go.to (g' := (mkF m 50 #[.val (.int p0)] [])) (fun t k => XS.icmpYes X0.here hx rfl (pc0 := 40) (pc' := 50) rfl (hb hby d1_40) rfl (tlt c5).1 (by decide) (by decide) k) ?_
          exact J4 (Or.inl c5)
        · refine Go.to (g' := (mkF m 43 #[.val (.int p0)] [])) (fun t k => XS.icmpNo X0.here hx rfl (hb hby d1_40) rfl (flt c5).1 k) ?_
          refine Go.to (g' := (mkF m 44 #[.val (.int p0)] [(.int p0)])) (fun t k => XS.iloadN X0.here hx rfl (hb hby d1_43) rfl k) ?_
          refine Go.to (g' := (mkF m 47 #[.val (.int p0)] [(.int (214 : Int32)), (.int p0)])) (fun t k => XS.sipush X0.here hx rfl (hb hby d1_44) k) ?_
          by_cases c6 : (214 : Int32) < p0
          · refine Go.to (g' := (mkF m 50 #[.val (.int p0)] [])) (fun t k => XS.icmpNo X0.here hx rfl (hb hby d1_47) rfl (tlt c6).2.2.2 k) ?_
            exact J4 (Or.inr c6)
          · refine Go.to (g' := (mkF m 197 #[.val (.int p0)] [])) (fun t k => XS.icmpYes X0.here hx rfl (pc0 := 47) (pc' := 197) rfl (hb hby d1_47) rfl (flt c6).2.2.2 (by decide) (by decide) k) ?_
            refine Go.to (g' := (mkF m 198 #[.val (.int p0)] [(.int (1 : Int32))])) (fun t k => XS.iconst X0.here hx rfl (hb hby d1_197) k) ?_
            refine Go.to (g' := (mkF m 202 #[.val (.int p0)] [(.int (1 : Int32))])) (fun t k => XS.goto X0.here hx rfl (pc0 := 198) (pc' := 202) rfl (hb hby d1_198) (by decide) (by decide) k) ?_
            exact Go.retN X0 hx (t := .boolean) Bd.returns Bd.notSynchronized (by simp) (hb hby d1_202) (by decide) (by decide) e0 ⟨by rw [own_ns1 (Or.inr (Or.inr (Or.inr (Or.inr (Or.inl ⟨c5, c6⟩)))))]; rfl, N0, rfl⟩
      intro r4
      suffices J5 : ∀ (r5 : p0 < (216 : Int32) ∨ (246 : Int32) < p0), Go p e below s (Q1 Z p0 h0 n0) ({ frames := 0, cells := 0, slots := 0, locals := 0 } : Room).cells ({ frames := 0, cells := 0, slots := 0, locals := 0 } : Room).slots (s₁.setTop (mkF m 64 #[.val (.int p0)] [])) by
        refine Go.to (g' := (mkF m 51 #[.val (.int p0)] [(.int p0)])) (fun t k => XS.iloadN X0.here hx rfl (hb hby d1_50) rfl k) ?_
        refine Go.to (g' := (mkF m 54 #[.val (.int p0)] [(.int (216 : Int32)), (.int p0)])) (fun t k => XS.sipush X0.here hx rfl (hb hby d1_51) k) ?_
        by_cases c7 : p0 < (216 : Int32)
        · refine Go.to (g' := (mkF m 64 #[.val (.int p0)] [])) (fun t k => XS.icmpYes X0.here hx rfl (pc0 := 54) (pc' := 64) rfl (hb hby d1_54) rfl (tlt c7).1 (by decide) (by decide) k) ?_
          exact J5 (Or.inl c7)
        · refine Go.to (g' := (mkF m 57 #[.val (.int p0)] [])) (fun t k => XS.icmpNo X0.here hx rfl (hb hby d1_54) rfl (flt c7).1 k) ?_
          refine Go.to (g' := (mkF m 58 #[.val (.int p0)] [(.int p0)])) (fun t k => XS.iloadN X0.here hx rfl (hb hby d1_57) rfl k) ?_
          refine Go.to (g' := (mkF m 61 #[.val (.int p0)] [(.int (246 : Int32)), (.int p0)])) (fun t k => XS.sipush X0.here hx rfl (hb hby d1_58) k) ?_
          by_cases c8 : (246 : Int32) < p0
          · refine Go.to (g' := (mkF m 64 #[.val (.int p0)] [])) (fun t k => XS.icmpNo X0.here hx rfl (hb hby d1_61) rfl (tlt c8).2.2.2 k) ?_
            exact J5 (Or.inr c8)
          · refine Go.to (g' := (mkF m 197 #[.val (.int p0)] [])) (fun t k => XS.icmpYes X0.here hx rfl (pc0 := 61) (pc' := 197) rfl (hb hby d1_61) rfl (flt c8).2.2.2 (by decide) (by decide) k) ?_
            refine Go.to (g' := (mkF m 198 #[.val (.int p0)] [(.int (1 : Int32))])) (fun t k => XS.iconst X0.here hx rfl (hb hby d1_197) k) ?_
            refine Go.to (g' := (mkF m 202 #[.val (.int p0)] [(.int (1 : Int32))])) (fun t k => XS.goto X0.here hx rfl (pc0 := 198) (pc' := 202) rfl (hb hby d1_198) (by decide) (by decide) k) ?_
            exact Go.retN X0 hx (t := .boolean) Bd.returns Bd.notSynchronized (by simp) (hb hby d1_202) (by decide) (by decide) e0 ⟨by rw [own_ns1 (Or.inr (Or.inr (Or.inr (Or.inr (Or.inr (Or.inl ⟨c7, c8⟩))))))]; rfl, N0, rfl⟩
      intro r5
      suffices J6 : ∀ (r6 : p0 < (248 : Int32) ∨ (767 : Int32) < p0), Go p e below s (Q1 Z p0 h0 n0) ({ frames := 0, cells := 0, slots := 0, locals := 0 } : Room).cells ({ frames := 0, cells := 0, slots := 0, locals := 0 } : Room).slots (s₁.setTop (mkF m 78 #[.val (.int p0)] [])) by
        refine Go.to (g' := (mkF m 65 #[.val (.int p0)] [(.int p0)])) (fun t k => XS.iloadN X0.here hx rfl (hb hby d1_64) rfl k) ?_
        refine Go.to (g' := (mkF m 68 #[.val (.int p0)] [(.int (248 : Int32)), (.int p0)])) (fun t k => XS.sipush X0.here hx rfl (hb hby d1_65) k) ?_
        by_cases c9 : p0 < (248 : Int32)
        · refine Go.to (g' := (mkF m 78 #[.val (.int p0)] [])) (fun t k => XS.icmpYes X0.here hx rfl (pc0 := 68) (pc' := 78) rfl (hb hby d1_68) rfl (tlt c9).1 (by decide) (by decide) k) ?_
          exact J6 (Or.inl c9)
        · refine Go.to (g' := (mkF m 71 #[.val (.int p0)] [])) (fun t k => XS.icmpNo X0.here hx rfl (hb hby d1_68) rfl (flt c9).1 k) ?_
          refine Go.to (g' := (mkF m 72 #[.val (.int p0)] [(.int p0)])) (fun t k => XS.iloadN X0.here hx rfl (hb hby d1_71) rfl k) ?_
          refine Go.to (g' := (mkF m 75 #[.val (.int p0)] [(.int (767 : Int32)), (.int p0)])) (fun t k => XS.sipush X0.here hx rfl (hb hby d1_72) k) ?_
          by_cases c10 : (767 : Int32) < p0
          · refine Go.to (g' := (mkF m 78 #[.val (.int p0)] [])) (fun t k => XS.icmpNo X0.here hx rfl (hb hby d1_75) rfl (tlt c10).2.2.2 k) ?_
            exact J6 (Or.inr c10)
          · refine Go.to (g' := (mkF m 197 #[.val (.int p0)] [])) (fun t k => XS.icmpYes X0.here hx rfl (pc0 := 75) (pc' := 197) rfl (hb hby d1_75) rfl (flt c10).2.2.2 (by decide) (by decide) k) ?_
            refine Go.to (g' := (mkF m 198 #[.val (.int p0)] [(.int (1 : Int32))])) (fun t k => XS.iconst X0.here hx rfl (hb hby d1_197) k) ?_
            refine Go.to (g' := (mkF m 202 #[.val (.int p0)] [(.int (1 : Int32))])) (fun t k => XS.goto X0.here hx rfl (pc0 := 198) (pc' := 202) rfl (hb hby d1_198) (by decide) (by decide) k) ?_
            exact Go.retN X0 hx (t := .boolean) Bd.returns Bd.notSynchronized (by simp) (hb hby d1_202) (by decide) (by decide) e0 ⟨by rw [own_ns1 (Or.inr (Or.inr (Or.inr (Or.inr (Or.inr (Or.inr (Or.inl ⟨c9, c10⟩)))))))]; rfl, N0, rfl⟩
      intro r6
      suffices J7 : ∀ (r7 : p0 < (880 : Int32) ∨ (893 : Int32) < p0), Go p e below s (Q1 Z p0 h0 n0) ({ frames := 0, cells := 0, slots := 0, locals := 0 } : Room).cells ({ frames := 0, cells := 0, slots := 0, locals := 0 } : Room).slots (s₁.setTop (mkF m 92 #[.val (.int p0)] [])) by
        refine Go.to (g' := (mkF m 79 #[.val (.int p0)] [(.int p0)])) (fun t k => XS.iloadN X0.here hx rfl (hb hby d1_78) rfl k) ?_
        refine Go.to (g' := (mkF m 82 #[.val (.int p0)] [(.int (880 : Int32)), (.int p0)])) (fun t k => XS.sipush X0.here hx rfl (hb hby d1_79) k) ?_
        by_cases c11 : p0 < (880 : Int32)
        · refine Go.to (g' := (mkF m 92 #[.val (.int p0)] [])) (fun t k => XS.icmpYes X0.here hx rfl (pc0 := 82) (pc' := 92) rfl (hb hby d1_82) rfl (tlt c11).1 (by decide) (by decide) k) ?_
          exact J7 (Or.inl c11)
        · refine Go.to (g' := (mkF m 85 #[.val (.int p0)] [])) (fun t k => XS.icmpNo X0.here hx rfl (hb hby d1_82) rfl (flt c11).1 k) ?_
          refine Go.to (g' := (mkF m 86 #[.val (.int p0)] [(.int p0)])) (fun t k => XS.iloadN X0.here hx rfl (hb hby d1_85) rfl k) ?_
          refine Go.to (g' := (mkF m 89 #[.val (.int p0)] [(.int (893 : Int32)), (.int p0)])) (fun t k => XS.sipush X0.here hx rfl (hb hby d1_86) k) ?_
          by_cases c12 : (893 : Int32) < p0
          · refine Go.to (g' := (mkF m 92 #[.val (.int p0)] [])) (fun t k => XS.icmpNo X0.here hx rfl (hb hby d1_89) rfl (tlt c12).2.2.2 k) ?_
            exact J7 (Or.inr c12)
          · refine Go.to (g' := (mkF m 197 #[.val (.int p0)] [])) (fun t k => XS.icmpYes X0.here hx rfl (pc0 := 89) (pc' := 197) rfl (hb hby d1_89) rfl (flt c12).2.2.2 (by decide) (by decide) k) ?_
            refine Go.to (g' := (mkF m 198 #[.val (.int p0)] [(.int (1 : Int32))])) (fun t k => XS.iconst X0.here hx rfl (hb hby d1_197) k) ?_
            refine Go.to (g' := (mkF m 202 #[.val (.int p0)] [(.int (1 : Int32))])) (fun t k => XS.goto X0.here hx rfl (pc0 := 198) (pc' := 202) rfl (hb hby d1_198) (by decide) (by decide) k) ?_
            exact Go.retN X0 hx (t := .boolean) Bd.returns Bd.notSynchronized (by simp) (hb hby d1_202) (by decide) (by decide) e0 ⟨by rw [own_ns1 (Or.inr (Or.inr (Or.inr (Or.inr (Or.inr (Or.inr (Or.inr (Or.inl ⟨c11, c12⟩))))))))]; rfl, N0, rfl⟩
      intro r7
      suffices J8 : ∀ (r8 : p0 < (895 : Int32) ∨ (8191 : Int32) < p0), Go p e below s (Q1 Z p0 h0 n0) ({ frames := 0, cells := 0, slots := 0, locals := 0 } : Room).cells ({ frames := 0, cells := 0, slots := 0, locals := 0 } : Room).slots (s₁.setTop (mkF m 106 #[.val (.int p0)] [])) by
        refine Go.to (g' := (mkF m 93 #[.val (.int p0)] [(.int p0)])) (fun t k => XS.iloadN X0.here hx rfl (hb hby d1_92) rfl k) ?_
        refine Go.to (g' := (mkF m 96 #[.val (.int p0)] [(.int (895 : Int32)), (.int p0)])) (fun t k => XS.sipush X0.here hx rfl (hb hby d1_93) k) ?_
        by_cases c13 : p0 < (895 : Int32)
        · refine Go.to (g' := (mkF m 106 #[.val (.int p0)] [])) (fun t k => XS.icmpYes X0.here hx rfl (pc0 := 96) (pc' := 106) rfl (hb hby d1_96) rfl (tlt c13).1 (by decide) (by decide) k) ?_
          exact J8 (Or.inl c13)
        · refine Go.to (g' := (mkF m 99 #[.val (.int p0)] [])) (fun t k => XS.icmpNo X0.here hx rfl (hb hby d1_96) rfl (flt c13).1 k) ?_
          refine Go.to (g' := (mkF m 100 #[.val (.int p0)] [(.int p0)])) (fun t k => XS.iloadN X0.here hx rfl (hb hby d1_99) rfl k) ?_
          refine Go.to (g' := (mkF m 103 #[.val (.int p0)] [(.int (8191 : Int32)), (.int p0)])) (fun t k => XS.sipush X0.here hx rfl (hb hby d1_100) k) ?_
          by_cases c14 : (8191 : Int32) < p0
          · refine Go.to (g' := (mkF m 106 #[.val (.int p0)] [])) (fun t k => XS.icmpNo X0.here hx rfl (hb hby d1_103) rfl (tlt c14).2.2.2 k) ?_
            exact J8 (Or.inr c14)
          · refine Go.to (g' := (mkF m 197 #[.val (.int p0)] [])) (fun t k => XS.icmpYes X0.here hx rfl (pc0 := 103) (pc' := 197) rfl (hb hby d1_103) rfl (flt c14).2.2.2 (by decide) (by decide) k) ?_
            refine Go.to (g' := (mkF m 198 #[.val (.int p0)] [(.int (1 : Int32))])) (fun t k => XS.iconst X0.here hx rfl (hb hby d1_197) k) ?_
            refine Go.to (g' := (mkF m 202 #[.val (.int p0)] [(.int (1 : Int32))])) (fun t k => XS.goto X0.here hx rfl (pc0 := 198) (pc' := 202) rfl (hb hby d1_198) (by decide) (by decide) k) ?_
            exact Go.retN X0 hx (t := .boolean) Bd.returns Bd.notSynchronized (by simp) (hb hby d1_202) (by decide) (by decide) e0 ⟨by rw [own_ns1 (Or.inr (Or.inr (Or.inr (Or.inr (Or.inr (Or.inr (Or.inr (Or.inr (Or.inl ⟨c13, c14⟩)))))))))]; rfl, N0, rfl⟩
      intro r8
      suffices J9 : ∀ (r9 : p0 < (8204 : Int32) ∨ (8205 : Int32) < p0), Go p e below s (Q1 Z p0 h0 n0) ({ frames := 0, cells := 0, slots := 0, locals := 0 } : Room).cells ({ frames := 0, cells := 0, slots := 0, locals := 0 } : Room).slots (s₁.setTop (mkF m 120 #[.val (.int p0)] [])) by
        refine Go.to (g' := (mkF m 107 #[.val (.int p0)] [(.int p0)])) (fun t k => XS.iloadN X0.here hx rfl (hb hby d1_106) rfl k) ?_
        refine Go.to (g' := (mkF m 110 #[.val (.int p0)] [(.int (8204 : Int32)), (.int p0)])) (fun t k => XS.sipush X0.here hx rfl (hb hby d1_107) k) ?_
        by_cases c15 : p0 < (8204 : Int32)
        · refine Go.to (g' := (mkF m 120 #[.val (.int p0)] [])) (fun t k => XS.icmpYes X0.here hx rfl (pc0 := 110) (pc' := 120) rfl (hb hby d1_110) rfl (tlt c15).1 (by decide) (by decide) k) ?_
          exact J9 (Or.inl c15)
        · refine Go.to (g' := (mkF m 113 #[.val (.int p0)] [])) (fun t k => XS.icmpNo X0.here hx rfl (hb hby d1_110) rfl (flt c15).1 k) ?_
          refine Go.to (g' := (mkF m 114 #[.val (.int p0)] [(.int p0)])) (fun t k => XS.iloadN X0.here hx rfl (hb hby d1_113) rfl k) ?_
          refine Go.to (g' := (mkF m 117 #[.val (.int p0)] [(.int (8205 : Int32)), (.int p0)])) (fun t k => XS.sipush X0.here hx rfl (hb hby d1_114) k) ?_
          by_cases c16 : (8205 : Int32) < p0
          · refine Go.to (g' := (mkF m 120 #[.val (.int p0)] [])) (fun t k => XS.icmpNo X0.here hx rfl (hb hby d1_117) rfl (tlt c16).2.2.2 k) ?_
            exact J9 (Or.inr c16)
          · refine Go.to (g' := (mkF m 197 #[.val (.int p0)] [])) (fun t k => XS.icmpYes X0.here hx rfl (pc0 := 117) (pc' := 197) rfl (hb hby d1_117) rfl (flt c16).2.2.2 (by decide) (by decide) k) ?_
            refine Go.to (g' := (mkF m 198 #[.val (.int p0)] [(.int (1 : Int32))])) (fun t k => XS.iconst X0.here hx rfl (hb hby d1_197) k) ?_
            refine Go.to (g' := (mkF m 202 #[.val (.int p0)] [(.int (1 : Int32))])) (fun t k => XS.goto X0.here hx rfl (pc0 := 198) (pc' := 202) rfl (hb hby d1_198) (by decide) (by decide) k) ?_
            exact Go.retN X0 hx (t := .boolean) Bd.returns Bd.notSynchronized (by simp) (hb hby d1_202) (by decide) (by decide) e0 ⟨by rw [own_ns1 (Or.inr (Or.inr (Or.inr (Or.inr (Or.inr (Or.inr (Or.inr (Or.inr (Or.inr (Or.inl ⟨c15, c16⟩))))))))))]; rfl, N0, rfl⟩
      intro r9
      suffices J10 : ∀ (r10 : p0 < (8304 : Int32) ∨ (8591 : Int32) < p0), Go p e below s (Q1 Z p0 h0 n0) ({ frames := 0, cells := 0, slots := 0, locals := 0 } : Room).cells ({ frames := 0, cells := 0, slots := 0, locals := 0 } : Room).slots (s₁.setTop (mkF m 134 #[.val (.int p0)] [])) by
        refine Go.to (g' := (mkF m 121 #[.val (.int p0)] [(.int p0)])) (fun t k => XS.iloadN X0.here hx rfl (hb hby d1_120) rfl k) ?_
        refine Go.to (g' := (mkF m 124 #[.val (.int p0)] [(.int (8304 : Int32)), (.int p0)])) (fun t k => XS.sipush X0.here hx rfl (hb hby d1_121) k) ?_
        by_cases c17 : p0 < (8304 : Int32)
        · refine Go.to (g' := (mkF m 134 #[.val (.int p0)] [])) (fun t k => XS.icmpYes X0.here hx rfl (pc0 := 124) (pc' := 134) rfl (hb hby d1_124) rfl (tlt c17).1 (by decide) (by decide) k) ?_
          exact J10 (Or.inl c17)
        · refine Go.to (g' := (mkF m 127 #[.val (.int p0)] [])) (fun t k => XS.icmpNo X0.here hx rfl (hb hby d1_124) rfl (flt c17).1 k) ?_
          refine Go.to (g' := (mkF m 128 #[.val (.int p0)] [(.int p0)])) (fun t k => XS.iloadN X0.here hx rfl (hb hby d1_127) rfl k) ?_
          refine Go.to (g' := (mkF m 131 #[.val (.int p0)] [(.int (8591 : Int32)), (.int p0)])) (fun t k => XS.sipush X0.here hx rfl (hb hby d1_128) k) ?_
          by_cases c18 : (8591 : Int32) < p0
          · refine Go.to (g' := (mkF m 134 #[.val (.int p0)] [])) (fun t k => XS.icmpNo X0.here hx rfl (hb hby d1_131) rfl (tlt c18).2.2.2 k) ?_
            exact J10 (Or.inr c18)
          · refine Go.to (g' := (mkF m 197 #[.val (.int p0)] [])) (fun t k => XS.icmpYes X0.here hx rfl (pc0 := 131) (pc' := 197) rfl (hb hby d1_131) rfl (flt c18).2.2.2 (by decide) (by decide) k) ?_
            refine Go.to (g' := (mkF m 198 #[.val (.int p0)] [(.int (1 : Int32))])) (fun t k => XS.iconst X0.here hx rfl (hb hby d1_197) k) ?_
            refine Go.to (g' := (mkF m 202 #[.val (.int p0)] [(.int (1 : Int32))])) (fun t k => XS.goto X0.here hx rfl (pc0 := 198) (pc' := 202) rfl (hb hby d1_198) (by decide) (by decide) k) ?_
            exact Go.retN X0 hx (t := .boolean) Bd.returns Bd.notSynchronized (by simp) (hb hby d1_202) (by decide) (by decide) e0 ⟨by rw [own_ns1 (Or.inr (Or.inr (Or.inr (Or.inr (Or.inr (Or.inr (Or.inr (Or.inr (Or.inr (Or.inr (Or.inl ⟨c17, c18⟩)))))))))))]; rfl, N0, rfl⟩
      intro r10
      suffices J11 : ∀ (r11 : p0 < (11264 : Int32) ∨ (12271 : Int32) < p0), Go p e below s (Q1 Z p0 h0 n0) ({ frames := 0, cells := 0, slots := 0, locals := 0 } : Room).cells ({ frames := 0, cells := 0, slots := 0, locals := 0 } : Room).slots (s₁.setTop (mkF m 148 #[.val (.int p0)] [])) by
        refine Go.to (g' := (mkF m 135 #[.val (.int p0)] [(.int p0)])) (fun t k => XS.iloadN X0.here hx rfl (hb hby d1_134) rfl k) ?_
        refine Go.to (g' := (mkF m 138 #[.val (.int p0)] [(.int (11264 : Int32)), (.int p0)])) (fun t k => XS.sipush X0.here hx rfl (hb hby d1_135) k) ?_
        by_cases c19 : p0 < (11264 : Int32)
        · refine Go.to (g' := (mkF m 148 #[.val (.int p0)] [])) (fun t k => XS.icmpYes X0.here hx rfl (pc0 := 138) (pc' := 148) rfl (hb hby d1_138) rfl (tlt c19).1 (by decide) (by decide) k) ?_
          exact J11 (Or.inl c19)
        · refine Go.to (g' := (mkF m 141 #[.val (.int p0)] [])) (fun t k => XS.icmpNo X0.here hx rfl (hb hby d1_138) rfl (flt c19).1 k) ?_
          refine Go.to (g' := (mkF m 142 #[.val (.int p0)] [(.int p0)])) (fun t k => XS.iloadN X0.here hx rfl (hb hby d1_141) rfl k) ?_
          refine Go.to (g' := (mkF m 145 #[.val (.int p0)] [(.int (12271 : Int32)), (.int p0)])) (fun t k => XS.sipush X0.here hx rfl (hb hby d1_142) k) ?_
          by_cases c20 : (12271 : Int32) < p0
          · refine Go.to (g' := (mkF m 148 #[.val (.int p0)] [])) (fun t k => XS.icmpNo X0.here hx rfl (hb hby d1_145) rfl (tlt c20).2.2.2 k) ?_
            exact J11 (Or.inr c20)
          · refine Go.to (g' := (mkF m 197 #[.val (.int p0)] [])) (fun t k => XS.icmpYes X0.here hx rfl (pc0 := 145) (pc' := 197) rfl (hb hby d1_145) rfl (flt c20).2.2.2 (by decide) (by decide) k) ?_
            refine Go.to (g' := (mkF m 198 #[.val (.int p0)] [(.int (1 : Int32))])) (fun t k => XS.iconst X0.here hx rfl (hb hby d1_197) k) ?_
            refine Go.to (g' := (mkF m 202 #[.val (.int p0)] [(.int (1 : Int32))])) (fun t k => XS.goto X0.here hx rfl (pc0 := 198) (pc' := 202) rfl (hb hby d1_198) (by decide) (by decide) k) ?_
            exact Go.retN X0 hx (t := .boolean) Bd.returns Bd.notSynchronized (by simp) (hb hby d1_202) (by decide) (by decide) e0 ⟨by rw [own_ns1 (Or.inr (Or.inr (Or.inr (Or.inr (Or.inr (Or.inr (Or.inr (Or.inr (Or.inr (Or.inr (Or.inr (Or.inl ⟨c19, c20⟩))))))))))))]; rfl, N0, rfl⟩
      intro r11
      suffices J12 : ∀ (r12 : p0 < (12289 : Int32) ∨ (55295 : Int32) < p0), Go p e below s (Q1 Z p0 h0 n0) ({ frames := 0, cells := 0, slots := 0, locals := 0 } : Room).cells ({ frames := 0, cells := 0, slots := 0, locals := 0 } : Room).slots (s₁.setTop (mkF m 161 #[.val (.int p0)] [])) by
        refine Go.to (g' := (mkF m 149 #[.val (.int p0)] [(.int p0)])) (fun t k => XS.iloadN X0.here hx rfl (hb hby d1_148) rfl k) ?_
        refine Go.to (g' := (mkF m 152 #[.val (.int p0)] [(.int (12289 : Int32)), (.int p0)])) (fun t k => XS.sipush X0.here hx rfl (hb hby d1_149) k) ?_
        by_cases c21 : p0 < (12289 : Int32)
        · refine Go.to (g' := (mkF m 161 #[.val (.int p0)] [])) (fun t k => XS.icmpYes X0.here hx rfl (pc0 := 152) (pc' := 161) rfl (hb hby d1_152) rfl (tlt c21).1 (by decide) (by decide) k) ?_
          exact J12 (Or.inl c21)
        · refine Go.to (g' := (mkF m 155 #[.val (.int p0)] [])) (fun t k => XS.icmpNo X0.here hx rfl (hb hby d1_152) rfl (flt c21).1 k) ?_
          refine Go.to (g' := (mkF m 156 #[.val (.int p0)] [(.int p0)])) (fun t k => XS.iloadN X0.here hx rfl (hb hby d1_155) rfl k) ?_
          refine Go.to (g' := (mkF m 158 #[.val (.int p0)] [(.int (55295 : Int32)), (.int p0)])) (fun t k => X0.ldcInt hx hown (mvT hZ (hw _ (List.mem_of_getElem? (i := 30) rfl))) (g := (mkF m 156 #[.val (.int p0)] [(.int p0)])) rfl (hb hby d1_156) _ k) ?_
          by_cases c22 : (55295 : Int32) < p0
          · refine Go.to (g' := (mkF m 161 #[.val (.int p0)] [])) (fun t k => XS.icmpNo X0.here hx rfl (hb hby d1_158) rfl (tlt c22).2.2.2 k) ?_
            exact J12 (Or.inr c22)
          · refine Go.to (g' := (mkF m 197 #[.val (.int p0)] [])) (fun t k => XS.icmpYes X0.here hx rfl (pc0 := 158) (pc' := 197) rfl (hb hby d1_158) rfl (flt c22).2.2.2 (by decide) (by decide) k) ?_
            refine Go.to (g' := (mkF m 198 #[.val (.int p0)] [(.int (1 : Int32))])) (fun t k => XS.iconst X0.here hx rfl (hb hby d1_197) k) ?_
            refine Go.to (g' := (mkF m 202 #[.val (.int p0)] [(.int (1 : Int32))])) (fun t k => XS.goto X0.here hx rfl (pc0 := 198) (pc' := 202) rfl (hb hby d1_198) (by decide) (by decide) k) ?_
            exact Go.retN X0 hx (t := .boolean) Bd.returns Bd.notSynchronized (by simp) (hb hby d1_202) (by decide) (by decide) e0 ⟨by rw [own_ns1 (Or.inr (Or.inr (Or.inr (Or.inr (Or.inr (Or.inr (Or.inr (Or.inr (Or.inr (Or.inr (Or.inr (Or.inr (Or.inl ⟨c21, c22⟩)))))))))))))]; rfl, N0, rfl⟩
      intro r12
      suffices J13 : ∀ (r13 : p0 < (63744 : Int32) ∨ (64975 : Int32) < p0), Go p e below s (Q1 Z p0 h0 n0) ({ frames := 0, cells := 0, slots := 0, locals := 0 } : Room).cells ({ frames := 0, cells := 0, slots := 0, locals := 0 } : Room).slots (s₁.setTop (mkF m 173 #[.val (.int p0)] [])) by
        refine Go.to (g' := (mkF m 162 #[.val (.int p0)] [(.int p0)])) (fun t k => XS.iloadN X0.here hx rfl (hb hby d1_161) rfl k) ?_
        refine Go.to (g' := (mkF m 164 #[.val (.int p0)] [(.int (63744 : Int32)), (.int p0)])) (fun t k => X0.ldcInt hx hown (mvT hZ (hw _ (List.mem_of_getElem? (i := 13) rfl))) (g := (mkF m 162 #[.val (.int p0)] [(.int p0)])) rfl (hb hby d1_162) _ k) ?_
        by_cases c23 : p0 < (63744 : Int32)
        · refine Go.to (g' := (mkF m 173 #[.val (.int p0)] [])) (fun t k => XS.icmpYes X0.here hx rfl (pc0 := 164) (pc' := 173) rfl (hb hby d1_164) rfl (tlt c23).1 (by decide) (by decide) k) ?_
          exact J13 (Or.inl c23)
        · refine Go.to (g' := (mkF m 167 #[.val (.int p0)] [])) (fun t k => XS.icmpNo X0.here hx rfl (hb hby d1_164) rfl (flt c23).1 k) ?_
          refine Go.to (g' := (mkF m 168 #[.val (.int p0)] [(.int p0)])) (fun t k => XS.iloadN X0.here hx rfl (hb hby d1_167) rfl k) ?_
          refine Go.to (g' := (mkF m 170 #[.val (.int p0)] [(.int (64975 : Int32)), (.int p0)])) (fun t k => X0.ldcInt hx hown (mvT hZ (hw _ (List.mem_of_getElem? (i := 31) rfl))) (g := (mkF m 168 #[.val (.int p0)] [(.int p0)])) rfl (hb hby d1_168) _ k) ?_
          by_cases c24 : (64975 : Int32) < p0
          · refine Go.to (g' := (mkF m 173 #[.val (.int p0)] [])) (fun t k => XS.icmpNo X0.here hx rfl (hb hby d1_170) rfl (tlt c24).2.2.2 k) ?_
            exact J13 (Or.inr c24)
          · refine Go.to (g' := (mkF m 197 #[.val (.int p0)] [])) (fun t k => XS.icmpYes X0.here hx rfl (pc0 := 170) (pc' := 197) rfl (hb hby d1_170) rfl (flt c24).2.2.2 (by decide) (by decide) k) ?_
            refine Go.to (g' := (mkF m 198 #[.val (.int p0)] [(.int (1 : Int32))])) (fun t k => XS.iconst X0.here hx rfl (hb hby d1_197) k) ?_
            refine Go.to (g' := (mkF m 202 #[.val (.int p0)] [(.int (1 : Int32))])) (fun t k => XS.goto X0.here hx rfl (pc0 := 198) (pc' := 202) rfl (hb hby d1_198) (by decide) (by decide) k) ?_
            exact Go.retN X0 hx (t := .boolean) Bd.returns Bd.notSynchronized (by simp) (hb hby d1_202) (by decide) (by decide) e0 ⟨by rw [own_ns1 (Or.inr (Or.inr (Or.inr (Or.inr (Or.inr (Or.inr (Or.inr (Or.inr (Or.inr (Or.inr (Or.inr (Or.inr (Or.inr (Or.inl ⟨c23, c24⟩))))))))))))))]; rfl, N0, rfl⟩
      intro r13
      suffices J14 : ∀ (r14 : p0 < (65008 : Int32) ∨ (65533 : Int32) < p0), Go p e below s (Q1 Z p0 h0 n0) ({ frames := 0, cells := 0, slots := 0, locals := 0 } : Room).cells ({ frames := 0, cells := 0, slots := 0, locals := 0 } : Room).slots (s₁.setTop (mkF m 185 #[.val (.int p0)] [])) by
        refine Go.to (g' := (mkF m 174 #[.val (.int p0)] [(.int p0)])) (fun t k => XS.iloadN X0.here hx rfl (hb hby d1_173) rfl k) ?_
        refine Go.to (g' := (mkF m 176 #[.val (.int p0)] [(.int (65008 : Int32)), (.int p0)])) (fun t k => X0.ldcInt hx hown (mvT hZ (hw _ (List.mem_of_getElem? (i := 14) rfl))) (g := (mkF m 174 #[.val (.int p0)] [(.int p0)])) rfl (hb hby d1_174) _ k) ?_
        by_cases c25 : p0 < (65008 : Int32)
        · refine Go.to (g' := (mkF m 185 #[.val (.int p0)] [])) (fun t k => XS.icmpYes X0.here hx rfl (pc0 := 176) (pc' := 185) rfl (hb hby d1_176) rfl (tlt c25).1 (by decide) (by decide) k) ?_
          exact J14 (Or.inl c25)
        · refine Go.to (g' := (mkF m 179 #[.val (.int p0)] [])) (fun t k => XS.icmpNo X0.here hx rfl (hb hby d1_176) rfl (flt c25).1 k) ?_
          refine Go.to (g' := (mkF m 180 #[.val (.int p0)] [(.int p0)])) (fun t k => XS.iloadN X0.here hx rfl (hb hby d1_179) rfl k) ?_
          refine Go.to (g' := (mkF m 182 #[.val (.int p0)] [(.int (65533 : Int32)), (.int p0)])) (fun t k => X0.ldcInt hx hown (mvT hZ (hw _ (List.mem_of_getElem? (i := 32) rfl))) (g := (mkF m 180 #[.val (.int p0)] [(.int p0)])) rfl (hb hby d1_180) _ k) ?_
          by_cases c26 : (65533 : Int32) < p0
          · refine Go.to (g' := (mkF m 185 #[.val (.int p0)] [])) (fun t k => XS.icmpNo X0.here hx rfl (hb hby d1_182) rfl (tlt c26).2.2.2 k) ?_
            exact J14 (Or.inr c26)
          · refine Go.to (g' := (mkF m 197 #[.val (.int p0)] [])) (fun t k => XS.icmpYes X0.here hx rfl (pc0 := 182) (pc' := 197) rfl (hb hby d1_182) rfl (flt c26).2.2.2 (by decide) (by decide) k) ?_
            refine Go.to (g' := (mkF m 198 #[.val (.int p0)] [(.int (1 : Int32))])) (fun t k => XS.iconst X0.here hx rfl (hb hby d1_197) k) ?_
            refine Go.to (g' := (mkF m 202 #[.val (.int p0)] [(.int (1 : Int32))])) (fun t k => XS.goto X0.here hx rfl (pc0 := 198) (pc' := 202) rfl (hb hby d1_198) (by decide) (by decide) k) ?_
            exact Go.retN X0 hx (t := .boolean) Bd.returns Bd.notSynchronized (by simp) (hb hby d1_202) (by decide) (by decide) e0 ⟨by rw [own_ns1 (Or.inr (Or.inr (Or.inr (Or.inr (Or.inr (Or.inr (Or.inr (Or.inr (Or.inr (Or.inr (Or.inr (Or.inr (Or.inr (Or.inr (Or.inl ⟨c25, c26⟩)))))))))))))))]; rfl, N0, rfl⟩
      intro r14
      suffices J15 : ∀ (r15 : p0 < (65536 : Int32) ∨ (983039 : Int32) < p0), Go p e below s (Q1 Z p0 h0 n0) ({ frames := 0, cells := 0, slots := 0, locals := 0 } : Room).cells ({ frames := 0, cells := 0, slots := 0, locals := 0 } : Room).slots (s₁.setTop (mkF m 201 #[.val (.int p0)] [])) by
        refine Go.to (g' := (mkF m 186 #[.val (.int p0)] [(.int p0)])) (fun t k => XS.iloadN X0.here hx rfl (hb hby d1_185) rfl k) ?_
        refine Go.to (g' := (mkF m 188 #[.val (.int p0)] [(.int (65536 : Int32)), (.int p0)])) (fun t k => X0.ldcInt hx hown (mvT hZ (hw _ (List.mem_of_getElem? (i := 15) rfl))) (g := (mkF m 186 #[.val (.int p0)] [(.int p0)])) rfl (hb hby d1_186) _ k) ?_
        by_cases c27 : p0 < (65536 : Int32)
        · refine Go.to (g' := (mkF m 201 #[.val (.int p0)] [])) (fun t k => XS.icmpYes X0.here hx rfl (pc0 := 188) (pc' := 201) rfl (hb hby d1_188) rfl (tlt c27).1 (by decide) (by decide) k) ?_
          exact J15 (Or.inl c27)
        · refine Go.to (g' := (mkF m 191 #[.val (.int p0)] [])) (fun t k => XS.icmpNo X0.here hx rfl (hb hby d1_188) rfl (flt c27).1 k) ?_
          refine Go.to (g' := (mkF m 192 #[.val (.int p0)] [(.int p0)])) (fun t k => XS.iloadN X0.here hx rfl (hb hby d1_191) rfl k) ?_
          refine Go.to (g' := (mkF m 194 #[.val (.int p0)] [(.int (983039 : Int32)), (.int p0)])) (fun t k => X0.ldcInt hx hown (mvT hZ (hw _ (List.mem_of_getElem? (i := 33) rfl))) (g := (mkF m 192 #[.val (.int p0)] [(.int p0)])) rfl (hb hby d1_192) _ k) ?_
          by_cases c28 : (983039 : Int32) < p0
          · refine Go.to (g' := (mkF m 201 #[.val (.int p0)] [])) (fun t k => XS.icmpYes X0.here hx rfl (pc0 := 194) (pc' := 201) rfl (hb hby d1_194) rfl (tlt c28).2.2.1 (by decide) (by decide) k) ?_
            exact J15 (Or.inr c28)
          · refine Go.to (g' := (mkF m 197 #[.val (.int p0)] [])) (fun t k => XS.icmpNo X0.here hx rfl (hb hby d1_194) rfl (flt c28).2.2.1 k) ?_
            refine Go.to (g' := (mkF m 198 #[.val (.int p0)] [(.int (1 : Int32))])) (fun t k => XS.iconst X0.here hx rfl (hb hby d1_197) k) ?_
            refine Go.to (g' := (mkF m 202 #[.val (.int p0)] [(.int (1 : Int32))])) (fun t k => XS.goto X0.here hx rfl (pc0 := 198) (pc' := 202) rfl (hb hby d1_198) (by decide) (by decide) k) ?_
            exact Go.retN X0 hx (t := .boolean) Bd.returns Bd.notSynchronized (by simp) (hb hby d1_202) (by decide) (by decide) e0 ⟨by rw [own_ns1 (Or.inr (Or.inr (Or.inr (Or.inr (Or.inr (Or.inr (Or.inr (Or.inr (Or.inr (Or.inr (Or.inr (Or.inr (Or.inr (Or.inr (Or.inr ⟨c27, c28⟩)))))))))))))))]; rfl, N0, rfl⟩
      intro r15
      refine Go.to (g' := (mkF m 202 #[.val (.int p0)] [(.int (0 : Int32))])) (fun t k => XS.iconst X0.here hx rfl (hb hby d1_201) k) ?_
      exact Go.retN X0 hx (t := .boolean) Bd.returns Bd.notSynchronized (by simp) (hb hby d1_202) (by decide) (by decide) e0 ⟨by rw [own_ns0 (fun q => q.elim s0 (fun q => q.elim s1 (fun q => q.elim (fun q => r2.elim q.1 q.2) (fun q => q.elim (fun q => r3.elim q.1 q.2) (fun q => q.elim (fun q => r4.elim q.1 q.2) (fun q => q.elim (fun q => r5.elim q.1 q.2) (fun q => q.elim (fun q => r6.elim q.1 q.2) (fun q => q.elim (fun q => r7.elim q.1 q.2) (fun q => q.elim (fun q => r8.elim q.1 q.2) (fun q => q.elim (fun q => r9.elim q.1 q.2) (fun q => q.elim (fun q => r10.elim q.1 q.2) (fun q => q.elim (fun q => r11.elim q.1 q.2) (fun q => q.elim (fun q => r12.elim q.1 q.2) (fun q => q.elim (fun q => r13.elim q.1 q.2) (fun q => q.elim (fun q => r14.elim q.1 q.2) (fun q => r15.elim q.1 q.2))))))))))))))))]; rfl, N0, rfl⟩

theorem ef_rm3 (m : MethodId) (x0 : Int32) (x1 : Int32) (x2 : Int32) : entryFrame m #[(.int x0), (.int x1), (.int x2)] 3 = mkF m 0 #[.val (.int x0), .val (.int x1), .val (.int x2)] [] := by first | (simp [entryFrame, mkF, argsToLocals, Value.category]; done) | rfl
def Q3 (Z : State) (p0 : Int32) (p1 : Int32) (p2 : Int32) (h0 : Heap) (n0 : Nat) (v : Option Value) (h : Heap) (L : List Loc) : Prop := v = some (.int (if p0 < p1 ∨ p2 < p0 then (0 : Int32) else (1 : Int32))) ∧ Fr n0 L ∧ h = h0
set_option maxRecDepth 65536 in
set_option maxHeartbeats 40000000 in
theorem rm3 (l : Launch) (Z : State) (aw : Array Value) (hw : ∀ d ∈ tables_1, d.before aw Z = true) (ws : List Jvm.Cond) (p0 : Int32) (p1 : Int32) (p2 : Int32) (h0 : Heap) (n0 : Nat) (Z0 : n0 ≤ h0.size) :
    MetFree l (⟨"com/example/descant/descant/xml/XmlNamesIsNameStartPinLaw", "in", "(III)Z"⟩ : MethodName) (head1 (Jvm.Cond.code (⟨"com/example/descant/descant/xml/XmlNamesIsNameStartPinLaw", "in", "(III)Z"⟩ : MethodName) method_2_code 3 (some .boolean) :: ws) ({ frames := 0, cells := 0, slots := 0, locals := 0 } : Room)) (fun a U => a = #[(.int p0), (.int p1), (.int p2)] ∧ Z.Warmed39 U.vm ∧ U.heap = h0) (fun _ _ _ _ _ => True) (fun _ U o U' => ∃ v L, o = .returned v ∧ Q3 Z p0 p1 p2 h0 n0 v U'.heap L ∧ FrameEnd U o U' L ({ frames := 0, cells := 0, slots := 0, locals := 0 } : Room).cells ({ frames := 0, cells := 0, slots := 0, locals := 0 } : Room).slots) := by
  refine MetFree.of_bodySF (plainFor_of_name pn_com_example_descant_descant_xml_XmlNamesIsNameStartPinLaw) hisR ?_
  intro p e s m args below meth c s₁ Bd hml0 hP hK
  obtain ⟨rfl, hZ, hh⟩ := hP
  have hx := Bd.exec
  have hby := Bd.bytes
  have hml : c.maxLocals = 3 := hml0
  have hown : s.vm.findClass "com/example/descant/descant/xml/XmlNamesIsNameStartPinLaw" = some m.cls := findClass_of_methodNamed Bd.named
  have hnm := (name_of_methodNamed Bd.named Bd.method).1
  have X0 : Stand p l e ({ frames := 0, cells := 0, slots := 0, locals := 0 } : Room) s m #[(.int p0), (.int p1), (.int p2)] below meth c s₁ [] 0 0 := Stand.of_body Bd
  have e0 : s₁.heap = h0 := by rw [← hh, Bd.state]; rfl
  have N0 := Fr.nil n0
  refine own_go (Q := Q3 Z p0 p1 p2 h0 n0) ?_
  refine Go.to (g' := (mkF m 0 #[.val (.int p0), .val (.int p1), .val (.int p2)] [])) (fun t k => castTop (ef_rm3 m p0 p1 p2) k) ?_
  refine Go.to (g' := (mkF m 1 #[.val (.int p0), .val (.int p1), .val (.int p2)] [(.int p0)])) (fun t k => XS.iloadN X0.here hx rfl (hb hby d3_0) rfl k) ?_
  refine Go.to (g' := (mkF m 2 #[.val (.int p0), .val (.int p1), .val (.int p2)] [(.int p1), (.int p0)])) (fun t k => XS.iloadN X0.here hx rfl (hb hby d3_1) rfl k) ?_
  by_cases c1 : p0 < p1
  · refine Go.to (g' := (mkF m 14 #[.val (.int p0), .val (.int p1), .val (.int p2)] [])) (fun t k => XS.icmpYes X0.here hx rfl (pc0 := 2) (pc' := 14) rfl (hb hby d3_2) rfl (tlt c1).1 (by decide) (by decide) k) ?_
    refine Go.to (g' := (mkF m 15 #[.val (.int p0), .val (.int p1), .val (.int p2)] [(.int (0 : Int32))])) (fun t k => XS.iconst X0.here hx rfl (hb hby d3_14) k) ?_
    exact Go.retN X0 hx (t := .boolean) Bd.returns Bd.notSynchronized (by simp) (hb hby d3_15) (by decide) (by decide) e0 ⟨by rw [if_pos (Or.inl c1)]; rfl, N0, rfl⟩
  · refine Go.to (g' := (mkF m 5 #[.val (.int p0), .val (.int p1), .val (.int p2)] [])) (fun t k => XS.icmpNo X0.here hx rfl (hb hby d3_2) rfl (flt c1).1 k) ?_
    refine Go.to (g' := (mkF m 6 #[.val (.int p0), .val (.int p1), .val (.int p2)] [(.int p0)])) (fun t k => XS.iloadN X0.here hx rfl (hb hby d3_5) rfl k) ?_
    refine Go.to (g' := (mkF m 7 #[.val (.int p0), .val (.int p1), .val (.int p2)] [(.int p2), (.int p0)])) (fun t k => XS.iloadN X0.here hx rfl (hb hby d3_6) rfl k) ?_
    by_cases c2 : p2 < p0
    · refine Go.to (g' := (mkF m 14 #[.val (.int p0), .val (.int p1), .val (.int p2)] [])) (fun t k => XS.icmpYes X0.here hx rfl (pc0 := 7) (pc' := 14) rfl (hb hby d3_7) rfl (tlt c2).2.2.1 (by decide) (by decide) k) ?_
      refine Go.to (g' := (mkF m 15 #[.val (.int p0), .val (.int p1), .val (.int p2)] [(.int (0 : Int32))])) (fun t k => XS.iconst X0.here hx rfl (hb hby d3_14) k) ?_
      exact Go.retN X0 hx (t := .boolean) Bd.returns Bd.notSynchronized (by simp) (hb hby d3_15) (by decide) (by decide) e0 ⟨by rw [if_pos (Or.inr c2)]; rfl, N0, rfl⟩
    · refine Go.to (g' := (mkF m 10 #[.val (.int p0), .val (.int p1), .val (.int p2)] [])) (fun t k => XS.icmpNo X0.here hx rfl (hb hby d3_7) rfl (flt c2).2.2.1 k) ?_
      refine Go.to (g' := (mkF m 11 #[.val (.int p0), .val (.int p1), .val (.int p2)] [(.int (1 : Int32))])) (fun t k => XS.iconst X0.here hx rfl (hb hby d3_10) k) ?_
      refine Go.to (g' := (mkF m 15 #[.val (.int p0), .val (.int p1), .val (.int p2)] [(.int (1 : Int32))])) (fun t k => XS.goto X0.here hx rfl (pc0 := 11) (pc' := 15) rfl (hb hby d3_11) (by decide) (by decide) k) ?_
      exact Go.retN X0 hx (t := .boolean) Bd.returns Bd.notSynchronized (by simp) (hb hby d3_15) (by decide) (by decide) e0 ⟨by rw [if_neg (fun q => q.elim c1 c2)]; rfl, N0, rfl⟩

theorem ef_rm2 (m : MethodId) (x0 : Int32) : entryFrame m #[(.int x0)] 1 = mkF m 0 #[.val (.int x0)] [] := by first | (simp [entryFrame, mkF, argsToLocals, Value.category]; done) | rfl
def Q2 (Z : State) (p0 : Int32) (h0 : Heap) (n0 : Nat) (v : Option Value) (h : Heap) (L : List Loc) : Prop := v = some (.int (own_ref p0)) ∧ Fr n0 L ∧ h = h0
set_option maxRecDepth 65536 in
set_option maxHeartbeats 40000000 in
theorem rm2 (l : Launch) (Z : State) (aw : Array Value) (hw : ∀ d ∈ tables_1, d.before aw Z = true) (ws : List Jvm.Cond) (p0 : Int32) (h0 : Heap) (n0 : Nat) (Z0 : n0 ≤ h0.size) :
    MetFree l (⟨"com/example/descant/descant/xml/XmlNamesIsNameStartPinLaw", "reference", "(I)Z"⟩ : MethodName) (head1 (Jvm.Cond.code (⟨"com/example/descant/descant/xml/XmlNamesIsNameStartPinLaw", "reference", "(I)Z"⟩ : MethodName) method_3_code 1 (some .boolean) :: ws) ({ frames := 1, cells := 0, slots := 0, locals := 14 } : Room)) (fun a U => a = #[(.int p0)] ∧ Z.Warmed39 U.vm ∧ U.heap = h0) (fun _ _ _ _ _ => True) (fun _ U o U' => ∃ v L, o = .returned v ∧ Q2 Z p0 h0 n0 v U'.heap L ∧ FrameEnd U o U' L ({ frames := 1, cells := 0, slots := 0, locals := 14 } : Room).cells ({ frames := 1, cells := 0, slots := 0, locals := 14 } : Room).slots) := by
  refine MetFree.of_bodySF (plainFor_of_name pn_com_example_descant_descant_xml_XmlNamesIsNameStartPinLaw) hisR ?_
  intro p e s m args below meth c s₁ Bd hml0 hP hK
  obtain ⟨rfl, hZ, hh⟩ := hP
  have hx := Bd.exec
  have hby := Bd.bytes
  have hml : c.maxLocals = 1 := hml0
  have hown : s.vm.findClass "com/example/descant/descant/xml/XmlNamesIsNameStartPinLaw" = some m.cls := findClass_of_methodNamed Bd.named
  have hnm := (name_of_methodNamed Bd.named Bd.method).1
  have X0 : Stand p l e ({ frames := 1, cells := 0, slots := 0, locals := 14 } : Room) s m #[(.int p0)] below meth c s₁ [] 0 0 := Stand.of_body Bd
  have e0 : s₁.heap = h0 := by rw [← hh, Bd.state]; rfl
  have N0 := Fr.nil n0
  refine own_go (Q := Q2 Z p0 h0 n0) ?_
  refine Go.to (g' := (mkF m 0 #[.val (.int p0)] [])) (fun t k => castTop (ef_rm2 m p0) k) ?_
  refine Go.to (g' := (mkF m 1 #[.val (.int p0)] [(.int p0)])) (fun t k => XS.iloadN X0.here hx rfl (hb hby d2_0) rfl k) ?_
  by_cases c1 : p0 < (0 : Int32)
  · refine Go.to (g' := (mkF m 10 #[.val (.int p0)] [])) (fun t k => XS.ifYes X0.here hx rfl (pc0 := 1) (pc' := 10) rfl (hb hby d2_1) rfl ((if0 _ _).trans (tlt c1).1) (by decide) (by decide) k) ?_
    refine Go.to (g' := (mkF m 11 #[.val (.int p0)] [(.int (0 : Int32))])) (fun t k => XS.iconst X0.here hx rfl (hb hby d2_10) k) ?_
    exact Go.retN X0 hx (t := .boolean) Bd.returns Bd.notSynchronized (by simp) (hb hby d2_11) (by decide) (by decide) e0 ⟨by rw [own_ref0 (Or.inl c1)]; rfl, N0, rfl⟩
  · refine Go.to (g' := (mkF m 4 #[.val (.int p0)] [])) (fun t k => XS.ifNo X0.here hx rfl (hb hby d2_1) rfl ((if0 _ _).trans (flt c1).1) k) ?_
    refine Go.to (g' := (mkF m 5 #[.val (.int p0)] [(.int p0)])) (fun t k => XS.iloadN X0.here hx rfl (hb hby d2_4) rfl k) ?_
    refine Go.to (g' := (mkF m 7 #[.val (.int p0)] [(.int (983039 : Int32)), (.int p0)])) (fun t k => X0.ldcInt hx hown (mvT hZ (hw _ (List.mem_of_getElem? (i := 7) rfl))) (g := (mkF m 5 #[.val (.int p0)] [(.int p0)])) rfl (hb hby d2_5) _ k) ?_
    by_cases c2 : (983039 : Int32) < p0
    · refine Go.to (g' := (mkF m 10 #[.val (.int p0)] [])) (fun t k => XS.icmpNo X0.here hx rfl (hb hby d2_7) rfl (tlt c2).2.2.2 k) ?_
      refine Go.to (g' := (mkF m 11 #[.val (.int p0)] [(.int (0 : Int32))])) (fun t k => XS.iconst X0.here hx rfl (hb hby d2_10) k) ?_
      exact Go.retN X0 hx (t := .boolean) Bd.returns Bd.notSynchronized (by simp) (hb hby d2_11) (by decide) (by decide) e0 ⟨by rw [own_ref0 (Or.inr (Or.inl c2))]; rfl, N0, rfl⟩
    · refine Go.to (g' := (mkF m 12 #[.val (.int p0)] [])) (fun t k => XS.icmpYes X0.here hx rfl (pc0 := 7) (pc' := 12) rfl (hb hby d2_7) rfl (flt c2).2.2.2 (by decide) (by decide) k) ?_
      refine Go.to (g' := (mkF m 13 #[.val (.int p0)] [(.int p0)])) (fun t k => XS.iloadN X0.here hx rfl (hb hby d2_12) rfl k) ?_
      refine Go.to (g' := (mkF m 14 #[.val (.int p0)] [(.int (0 : Int32)), (.int p0)])) (fun t k => XS.iconst X0.here hx rfl (hb hby d2_13) k) ?_
      refine Go.to (g' := (mkF m 16 #[.val (.int p0)] [(.int (57 : Int32)), (.int (0 : Int32)), (.int p0)])) (fun t k => XS.bipush X0.here hx rfl (hb hby d2_14) k) ?_
      obtain ⟨v3, _, ⟨T3, L3, k3, n3⟩, -, X3, ⟨Lc3, hQ3, l3, y3, z3⟩, st3⟩ := Jvm.LawKit.callS X0 hx (y := (⟨"com/example/descant/descant/xml/XmlNamesIsNameStartPinLaw", "in", "(III)Z"⟩ : MethodName)) hown (mvT hZ (hw _ (List.mem_of_getElem? (i := 20) rfl))) (mvT hZ (hw _ (List.mem_of_getElem? (i := 21) rfl))) (mvT hZ (hw _ (List.mem_of_getElem? (i := 18) rfl))) (mvT hZ (hw _ (List.mem_of_getElem? (i := 22) rfl))) (by decide) (backOf (W := 0) (rm3 l Z aw hw [] p0 (0 : Int32) (57 : Int32)  h0 n0 Z0 ) hZ (hw _ (List.mem_of_getElem? (i := 22) rfl)) (hw _ (List.mem_of_getElem? (i := 18) rfl)) (by decide) (by decide)) (g := (mkF m 16 #[.val (.int p0)] [(.int (57 : Int32)), (.int (0 : Int32)), (.int p0)])) rfl (by rw [hml]; rfl) (argsL := [(.int p0), (.int (0 : Int32)), (.int (57 : Int32))]) (rest := []) (lenOf pd_28III29Z rfl) rfl (by show 2 * 0 + _ ≤ _; exact Nat.le_of_eq rfl) (hb hby d2_16) (fun _ _ => ⟨rfl, e0, (by decide : 0 + 0 ≤ _), (by decide : 0 + 0 ≤ _)⟩)
      dsimp only [Pt.U, Pt.locs, Pt.cells, Pt.slots] at X3 l3 y3 z3 st3 hQ3
      subst l3 y3 z3
      obtain ⟨rfl, N3q, e3⟩ := hQ3
      have N3 := Fr.app N0 N3q
      refine Go.to (g' := (mkF m 19 #[.val (.int p0)] [(.int (if p0 < (0 : Int32) ∨ (57 : Int32) < p0 then (0 : Int32) else (1 : Int32)))])) st3 ?_
      by_cases i4 : p0 < (0 : Int32) ∨ (57 : Int32) < p0
      · rw [show (if p0 < (0 : Int32) ∨ (57 : Int32) < p0 then (0 : Int32) else (1 : Int32)) = (0 : Int32) from if_pos i4]
        refine Go.to (g' := (mkF m 22 #[.val (.int p0)] [])) (fun t k => XS.ifNo X3.here hx rfl (hb hby d2_19) rfl ((if0 _ _).trans (teq (by decide)).2) k) ?_
        refine Go.to (g' := (mkF m 23 #[.val (.int p0)] [(.int p0)])) (fun t k => XS.iloadN X3.here hx rfl (hb hby d2_22) rfl k) ?_
        refine Go.to (g' := (mkF m 25 #[.val (.int p0)] [(.int (59 : Int32)), (.int p0)])) (fun t k => XS.bipush X3.here hx rfl (hb hby d2_23) k) ?_
        refine Go.to (g' := (mkF m 27 #[.val (.int p0)] [(.int (64 : Int32)), (.int (59 : Int32)), (.int p0)])) (fun t k => XS.bipush X3.here hx rfl (hb hby d2_25) k) ?_
        obtain ⟨v5, _, ⟨T5, L5, k5, n5⟩, -, X5, ⟨Lc5, hQ5, l5, y5, z5⟩, st5⟩ := Jvm.LawKit.callS X3 hx (y := (⟨"com/example/descant/descant/xml/XmlNamesIsNameStartPinLaw", "in", "(III)Z"⟩ : MethodName)) hown (mvT hZ (hw _ (List.mem_of_getElem? (i := 20) rfl))) (mvT hZ (hw _ (List.mem_of_getElem? (i := 21) rfl))) (mvT hZ (hw _ (List.mem_of_getElem? (i := 18) rfl))) (mvT hZ (hw _ (List.mem_of_getElem? (i := 22) rfl))) (by decide) (backOf (W := 0) (rm3 l Z aw hw [] p0 (59 : Int32) (64 : Int32)  h0 n0 Z0 ) hZ (hw _ (List.mem_of_getElem? (i := 22) rfl)) (hw _ (List.mem_of_getElem? (i := 18) rfl)) (by decide) (by decide)) (g := (mkF m 27 #[.val (.int p0)] [(.int (64 : Int32)), (.int (59 : Int32)), (.int p0)])) rfl (by rw [hml]; rfl) (argsL := [(.int p0), (.int (59 : Int32)), (.int (64 : Int32))]) (rest := []) (lenOf pd_28III29Z rfl) rfl (by show 2 * 0 + _ ≤ _; exact Nat.le_of_eq rfl) (hb hby d2_27) (fun _ _ => ⟨rfl, e3, (by decide : 0 + 0 ≤ _), (by decide : 0 + 0 ≤ _)⟩)
        dsimp only [Pt.U, Pt.locs, Pt.cells, Pt.slots] at X5 l5 y5 z5 st5 hQ5
        subst l5 y5 z5
        obtain ⟨rfl, N5q, e5⟩ := hQ5
        have N5 := Fr.app N3 N5q
        refine Go.to (g' := (mkF m 30 #[.val (.int p0)] [(.int (if p0 < (59 : Int32) ∨ (64 : Int32) < p0 then (0 : Int32) else (1 : Int32)))])) st5 ?_
        by_cases i6 : p0 < (59 : Int32) ∨ (64 : Int32) < p0
        · rw [show (if p0 < (59 : Int32) ∨ (64 : Int32) < p0 then (0 : Int32) else (1 : Int32)) = (0 : Int32) from if_pos i6]
          refine Go.to (g' := (mkF m 33 #[.val (.int p0)] [])) (fun t k => XS.ifNo X5.here hx rfl (hb hby d2_30) rfl ((if0 _ _).trans (teq (by decide)).2) k) ?_
          refine Go.to (g' := (mkF m 34 #[.val (.int p0)] [(.int p0)])) (fun t k => XS.iloadN X5.here hx rfl (hb hby d2_33) rfl k) ?_
          refine Go.to (g' := (mkF m 36 #[.val (.int p0)] [(.int (91 : Int32)), (.int p0)])) (fun t k => XS.bipush X5.here hx rfl (hb hby d2_34) k) ?_
          refine Go.to (g' := (mkF m 38 #[.val (.int p0)] [(.int (94 : Int32)), (.int (91 : Int32)), (.int p0)])) (fun t k => XS.bipush X5.here hx rfl (hb hby d2_36) k) ?_
          obtain ⟨v7, _, ⟨T7, L7, k7, n7⟩, -, X7, ⟨Lc7, hQ7, l7, y7, z7⟩, st7⟩ := Jvm.LawKit.callS X5 hx (y := (⟨"com/example/descant/descant/xml/XmlNamesIsNameStartPinLaw", "in", "(III)Z"⟩ : MethodName)) hown (mvT hZ (hw _ (List.mem_of_getElem? (i := 20) rfl))) (mvT hZ (hw _ (List.mem_of_getElem? (i := 21) rfl))) (mvT hZ (hw _ (List.mem_of_getElem? (i := 18) rfl))) (mvT hZ (hw _ (List.mem_of_getElem? (i := 22) rfl))) (by decide) (backOf (W := 0) (rm3 l Z aw hw [] p0 (91 : Int32) (94 : Int32)  h0 n0 Z0 ) hZ (hw _ (List.mem_of_getElem? (i := 22) rfl)) (hw _ (List.mem_of_getElem? (i := 18) rfl)) (by decide) (by decide)) (g := (mkF m 38 #[.val (.int p0)] [(.int (94 : Int32)), (.int (91 : Int32)), (.int p0)])) rfl (by rw [hml]; rfl) (argsL := [(.int p0), (.int (91 : Int32)), (.int (94 : Int32))]) (rest := []) (lenOf pd_28III29Z rfl) rfl (by show 2 * 0 + _ ≤ _; exact Nat.le_of_eq rfl) (hb hby d2_38) (fun _ _ => ⟨rfl, e5, (by decide : 0 + 0 ≤ _), (by decide : 0 + 0 ≤ _)⟩)
          dsimp only [Pt.U, Pt.locs, Pt.cells, Pt.slots] at X7 l7 y7 z7 st7 hQ7
          subst l7 y7 z7
          obtain ⟨rfl, N7q, e7⟩ := hQ7
          have N7 := Fr.app N5 N7q
          refine Go.to (g' := (mkF m 41 #[.val (.int p0)] [(.int (if p0 < (91 : Int32) ∨ (94 : Int32) < p0 then (0 : Int32) else (1 : Int32)))])) st7 ?_
          by_cases i8 : p0 < (91 : Int32) ∨ (94 : Int32) < p0
          · rw [show (if p0 < (91 : Int32) ∨ (94 : Int32) < p0 then (0 : Int32) else (1 : Int32)) = (0 : Int32) from if_pos i8]
            refine Go.to (g' := (mkF m 44 #[.val (.int p0)] [])) (fun t k => XS.ifNo X7.here hx rfl (hb hby d2_41) rfl ((if0 _ _).trans (teq (by decide)).2) k) ?_
            refine Go.to (g' := (mkF m 45 #[.val (.int p0)] [(.int p0)])) (fun t k => XS.iloadN X7.here hx rfl (hb hby d2_44) rfl k) ?_
            refine Go.to (g' := (mkF m 47 #[.val (.int p0)] [(.int (96 : Int32)), (.int p0)])) (fun t k => XS.bipush X7.here hx rfl (hb hby d2_45) k) ?_
            by_cases c9 : p0 = (96 : Int32)
            · refine Go.to (g' := (mkF m 181 #[.val (.int p0)] [])) (fun t k => XS.icmpYes X7.here hx rfl (pc0 := 47) (pc' := 181) rfl (hb hby d2_47) rfl (teq c9).1 (by decide) (by decide) k) ?_
              refine Go.to (g' := (mkF m 182 #[.val (.int p0)] [(.int (0 : Int32))])) (fun t k => XS.iconst X7.here hx rfl (hb hby d2_181) k) ?_
              exact Go.retN X7 hx (t := .boolean) Bd.returns Bd.notSynchronized (by simp) (hb hby d2_182) (by decide) (by decide) e7 ⟨by rw [own_ref0 (Or.inr (Or.inr (Or.inr (Or.inr (Or.inr (Or.inl c9))))))]; rfl, N7, rfl⟩
            · refine Go.to (g' := (mkF m 50 #[.val (.int p0)] [])) (fun t k => XS.icmpNo X7.here hx rfl (hb hby d2_47) rfl (feq c9).1 k) ?_
              refine Go.to (g' := (mkF m 51 #[.val (.int p0)] [(.int p0)])) (fun t k => XS.iloadN X7.here hx rfl (hb hby d2_50) rfl k) ?_
              refine Go.to (g' := (mkF m 53 #[.val (.int p0)] [(.int (123 : Int32)), (.int p0)])) (fun t k => XS.bipush X7.here hx rfl (hb hby d2_51) k) ?_
              refine Go.to (g' := (mkF m 56 #[.val (.int p0)] [(.int (191 : Int32)), (.int (123 : Int32)), (.int p0)])) (fun t k => XS.sipush X7.here hx rfl (hb hby d2_53) k) ?_
              obtain ⟨v10, _, ⟨T10, L10, k10, n10⟩, -, X10, ⟨Lc10, hQ10, l10, y10, z10⟩, st10⟩ := Jvm.LawKit.callS X7 hx (y := (⟨"com/example/descant/descant/xml/XmlNamesIsNameStartPinLaw", "in", "(III)Z"⟩ : MethodName)) hown (mvT hZ (hw _ (List.mem_of_getElem? (i := 20) rfl))) (mvT hZ (hw _ (List.mem_of_getElem? (i := 21) rfl))) (mvT hZ (hw _ (List.mem_of_getElem? (i := 18) rfl))) (mvT hZ (hw _ (List.mem_of_getElem? (i := 22) rfl))) (by decide) (backOf (W := 0) (rm3 l Z aw hw [] p0 (123 : Int32) (191 : Int32)  h0 n0 Z0 ) hZ (hw _ (List.mem_of_getElem? (i := 22) rfl)) (hw _ (List.mem_of_getElem? (i := 18) rfl)) (by decide) (by decide)) (g := (mkF m 56 #[.val (.int p0)] [(.int (191 : Int32)), (.int (123 : Int32)), (.int p0)])) rfl (by rw [hml]; rfl) (argsL := [(.int p0), (.int (123 : Int32)), (.int (191 : Int32))]) (rest := []) (lenOf pd_28III29Z rfl) rfl (by show 2 * 0 + _ ≤ _; exact Nat.le_of_eq rfl) (hb hby d2_56) (fun _ _ => ⟨rfl, e7, (by decide : 0 + 0 ≤ _), (by decide : 0 + 0 ≤ _)⟩)
              dsimp only [Pt.U, Pt.locs, Pt.cells, Pt.slots] at X10 l10 y10 z10 st10 hQ10
              subst l10 y10 z10
              obtain ⟨rfl, N10q, e10⟩ := hQ10
              have N10 := Fr.app N7 N10q
              refine Go.to (g' := (mkF m 59 #[.val (.int p0)] [(.int (if p0 < (123 : Int32) ∨ (191 : Int32) < p0 then (0 : Int32) else (1 : Int32)))])) st10 ?_
              by_cases i11 : p0 < (123 : Int32) ∨ (191 : Int32) < p0
              · rw [show (if p0 < (123 : Int32) ∨ (191 : Int32) < p0 then (0 : Int32) else (1 : Int32)) = (0 : Int32) from if_pos i11]
                refine Go.to (g' := (mkF m 62 #[.val (.int p0)] [])) (fun t k => XS.ifNo X10.here hx rfl (hb hby d2_59) rfl ((if0 _ _).trans (teq (by decide)).2) k) ?_
                refine Go.to (g' := (mkF m 63 #[.val (.int p0)] [(.int p0)])) (fun t k => XS.iloadN X10.here hx rfl (hb hby d2_62) rfl k) ?_
                refine Go.to (g' := (mkF m 66 #[.val (.int p0)] [(.int (215 : Int32)), (.int p0)])) (fun t k => XS.sipush X10.here hx rfl (hb hby d2_63) k) ?_
                by_cases c12 : p0 = (215 : Int32)
                · refine Go.to (g' := (mkF m 181 #[.val (.int p0)] [])) (fun t k => XS.icmpYes X10.here hx rfl (pc0 := 66) (pc' := 181) rfl (hb hby d2_66) rfl (teq c12).1 (by decide) (by decide) k) ?_
                  refine Go.to (g' := (mkF m 182 #[.val (.int p0)] [(.int (0 : Int32))])) (fun t k => XS.iconst X10.here hx rfl (hb hby d2_181) k) ?_
                  exact Go.retN X10 hx (t := .boolean) Bd.returns Bd.notSynchronized (by simp) (hb hby d2_182) (by decide) (by decide) e10 ⟨by rw [own_ref0 (Or.inr (Or.inr (Or.inr (Or.inr (Or.inr (Or.inr (Or.inr (Or.inl c12))))))))]; rfl, N10, rfl⟩
                · refine Go.to (g' := (mkF m 69 #[.val (.int p0)] [])) (fun t k => XS.icmpNo X10.here hx rfl (hb hby d2_66) rfl (feq c12).1 k) ?_
                  refine Go.to (g' := (mkF m 70 #[.val (.int p0)] [(.int p0)])) (fun t k => XS.iloadN X10.here hx rfl (hb hby d2_69) rfl k) ?_
                  refine Go.to (g' := (mkF m 73 #[.val (.int p0)] [(.int (247 : Int32)), (.int p0)])) (fun t k => XS.sipush X10.here hx rfl (hb hby d2_70) k) ?_
                  by_cases c13 : p0 = (247 : Int32)
                  · refine Go.to (g' := (mkF m 181 #[.val (.int p0)] [])) (fun t k => XS.icmpYes X10.here hx rfl (pc0 := 73) (pc' := 181) rfl (hb hby d2_73) rfl (teq c13).1 (by decide) (by decide) k) ?_
                    refine Go.to (g' := (mkF m 182 #[.val (.int p0)] [(.int (0 : Int32))])) (fun t k => XS.iconst X10.here hx rfl (hb hby d2_181) k) ?_
                    exact Go.retN X10 hx (t := .boolean) Bd.returns Bd.notSynchronized (by simp) (hb hby d2_182) (by decide) (by decide) e10 ⟨by rw [own_ref0 (Or.inr (Or.inr (Or.inr (Or.inr (Or.inr (Or.inr (Or.inr (Or.inr (Or.inl c13)))))))))]; rfl, N10, rfl⟩
                  · refine Go.to (g' := (mkF m 76 #[.val (.int p0)] [])) (fun t k => XS.icmpNo X10.here hx rfl (hb hby d2_73) rfl (feq c13).1 k) ?_
                    refine Go.to (g' := (mkF m 77 #[.val (.int p0)] [(.int p0)])) (fun t k => XS.iloadN X10.here hx rfl (hb hby d2_76) rfl k) ?_
                    refine Go.to (g' := (mkF m 80 #[.val (.int p0)] [(.int (768 : Int32)), (.int p0)])) (fun t k => XS.sipush X10.here hx rfl (hb hby d2_77) k) ?_
                    refine Go.to (g' := (mkF m 83 #[.val (.int p0)] [(.int (879 : Int32)), (.int (768 : Int32)), (.int p0)])) (fun t k => XS.sipush X10.here hx rfl (hb hby d2_80) k) ?_
                    obtain ⟨v14, _, ⟨T14, L14, k14, n14⟩, -, X14, ⟨Lc14, hQ14, l14, y14, z14⟩, st14⟩ := Jvm.LawKit.callS X10 hx (y := (⟨"com/example/descant/descant/xml/XmlNamesIsNameStartPinLaw", "in", "(III)Z"⟩ : MethodName)) hown (mvT hZ (hw _ (List.mem_of_getElem? (i := 20) rfl))) (mvT hZ (hw _ (List.mem_of_getElem? (i := 21) rfl))) (mvT hZ (hw _ (List.mem_of_getElem? (i := 18) rfl))) (mvT hZ (hw _ (List.mem_of_getElem? (i := 22) rfl))) (by decide) (backOf (W := 0) (rm3 l Z aw hw [] p0 (768 : Int32) (879 : Int32)  h0 n0 Z0 ) hZ (hw _ (List.mem_of_getElem? (i := 22) rfl)) (hw _ (List.mem_of_getElem? (i := 18) rfl)) (by decide) (by decide)) (g := (mkF m 83 #[.val (.int p0)] [(.int (879 : Int32)), (.int (768 : Int32)), (.int p0)])) rfl (by rw [hml]; rfl) (argsL := [(.int p0), (.int (768 : Int32)), (.int (879 : Int32))]) (rest := []) (lenOf pd_28III29Z rfl) rfl (by show 2 * 0 + _ ≤ _; exact Nat.le_of_eq rfl) (hb hby d2_83) (fun _ _ => ⟨rfl, e10, (by decide : 0 + 0 ≤ _), (by decide : 0 + 0 ≤ _)⟩)
                    dsimp only [Pt.U, Pt.locs, Pt.cells, Pt.slots] at X14 l14 y14 z14 st14 hQ14
                    subst l14 y14 z14
                    obtain ⟨rfl, N14q, e14⟩ := hQ14
                    have N14 := Fr.app N10 N14q
                    refine Go.to (g' := (mkF m 86 #[.val (.int p0)] [(.int (if p0 < (768 : Int32) ∨ (879 : Int32) < p0 then (0 : Int32) else (1 : Int32)))])) st14 ?_
                    by_cases i15 : p0 < (768 : Int32) ∨ (879 : Int32) < p0
                    · rw [show (if p0 < (768 : Int32) ∨ (879 : Int32) < p0 then (0 : Int32) else (1 : Int32)) = (0 : Int32) from if_pos i15]
                      refine Go.to (g' := (mkF m 89 #[.val (.int p0)] [])) (fun t k => XS.ifNo X14.here hx rfl (hb hby d2_86) rfl ((if0 _ _).trans (teq (by decide)).2) k) ?_
                      refine Go.to (g' := (mkF m 90 #[.val (.int p0)] [(.int p0)])) (fun t k => XS.iloadN X14.here hx rfl (hb hby d2_89) rfl k) ?_
                      refine Go.to (g' := (mkF m 93 #[.val (.int p0)] [(.int (894 : Int32)), (.int p0)])) (fun t k => XS.sipush X14.here hx rfl (hb hby d2_90) k) ?_
                      by_cases c16 : p0 = (894 : Int32)
                      · refine Go.to (g' := (mkF m 181 #[.val (.int p0)] [])) (fun t k => XS.icmpYes X14.here hx rfl (pc0 := 93) (pc' := 181) rfl (hb hby d2_93) rfl (teq c16).1 (by decide) (by decide) k) ?_
                        refine Go.to (g' := (mkF m 182 #[.val (.int p0)] [(.int (0 : Int32))])) (fun t k => XS.iconst X14.here hx rfl (hb hby d2_181) k) ?_
                        exact Go.retN X14 hx (t := .boolean) Bd.returns Bd.notSynchronized (by simp) (hb hby d2_182) (by decide) (by decide) e14 ⟨by rw [own_ref0 (Or.inr (Or.inr (Or.inr (Or.inr (Or.inr (Or.inr (Or.inr (Or.inr (Or.inr (Or.inr (Or.inl c16)))))))))))]; rfl, N14, rfl⟩
                      · refine Go.to (g' := (mkF m 96 #[.val (.int p0)] [])) (fun t k => XS.icmpNo X14.here hx rfl (hb hby d2_93) rfl (feq c16).1 k) ?_
                        refine Go.to (g' := (mkF m 97 #[.val (.int p0)] [(.int p0)])) (fun t k => XS.iloadN X14.here hx rfl (hb hby d2_96) rfl k) ?_
                        refine Go.to (g' := (mkF m 100 #[.val (.int p0)] [(.int (8192 : Int32)), (.int p0)])) (fun t k => XS.sipush X14.here hx rfl (hb hby d2_97) k) ?_
                        refine Go.to (g' := (mkF m 103 #[.val (.int p0)] [(.int (8203 : Int32)), (.int (8192 : Int32)), (.int p0)])) (fun t k => XS.sipush X14.here hx rfl (hb hby d2_100) k) ?_
                        obtain ⟨v17, _, ⟨T17, L17, k17, n17⟩, -, X17, ⟨Lc17, hQ17, l17, y17, z17⟩, st17⟩ := Jvm.LawKit.callS X14 hx (y := (⟨"com/example/descant/descant/xml/XmlNamesIsNameStartPinLaw", "in", "(III)Z"⟩ : MethodName)) hown (mvT hZ (hw _ (List.mem_of_getElem? (i := 20) rfl))) (mvT hZ (hw _ (List.mem_of_getElem? (i := 21) rfl))) (mvT hZ (hw _ (List.mem_of_getElem? (i := 18) rfl))) (mvT hZ (hw _ (List.mem_of_getElem? (i := 22) rfl))) (by decide) (backOf (W := 0) (rm3 l Z aw hw [] p0 (8192 : Int32) (8203 : Int32)  h0 n0 Z0 ) hZ (hw _ (List.mem_of_getElem? (i := 22) rfl)) (hw _ (List.mem_of_getElem? (i := 18) rfl)) (by decide) (by decide)) (g := (mkF m 103 #[.val (.int p0)] [(.int (8203 : Int32)), (.int (8192 : Int32)), (.int p0)])) rfl (by rw [hml]; rfl) (argsL := [(.int p0), (.int (8192 : Int32)), (.int (8203 : Int32))]) (rest := []) (lenOf pd_28III29Z rfl) rfl (by show 2 * 0 + _ ≤ _; exact Nat.le_of_eq rfl) (hb hby d2_103) (fun _ _ => ⟨rfl, e14, (by decide : 0 + 0 ≤ _), (by decide : 0 + 0 ≤ _)⟩)
                        dsimp only [Pt.U, Pt.locs, Pt.cells, Pt.slots] at X17 l17 y17 z17 st17 hQ17
                        subst l17 y17 z17
                        obtain ⟨rfl, N17q, e17⟩ := hQ17
                        have N17 := Fr.app N14 N17q
                        refine Go.to (g' := (mkF m 106 #[.val (.int p0)] [(.int (if p0 < (8192 : Int32) ∨ (8203 : Int32) < p0 then (0 : Int32) else (1 : Int32)))])) st17 ?_
                        by_cases i18 : p0 < (8192 : Int32) ∨ (8203 : Int32) < p0
                        · rw [show (if p0 < (8192 : Int32) ∨ (8203 : Int32) < p0 then (0 : Int32) else (1 : Int32)) = (0 : Int32) from if_pos i18]
                          refine Go.to (g' := (mkF m 109 #[.val (.int p0)] [])) (fun t k => XS.ifNo X17.here hx rfl (hb hby d2_106) rfl ((if0 _ _).trans (teq (by decide)).2) k) ?_
                          refine Go.to (g' := (mkF m 110 #[.val (.int p0)] [(.int p0)])) (fun t k => XS.iloadN X17.here hx rfl (hb hby d2_109) rfl k) ?_
                          refine Go.to (g' := (mkF m 113 #[.val (.int p0)] [(.int (8206 : Int32)), (.int p0)])) (fun t k => XS.sipush X17.here hx rfl (hb hby d2_110) k) ?_
                          refine Go.to (g' := (mkF m 116 #[.val (.int p0)] [(.int (8303 : Int32)), (.int (8206 : Int32)), (.int p0)])) (fun t k => XS.sipush X17.here hx rfl (hb hby d2_113) k) ?_
                          obtain ⟨v19, _, ⟨T19, L19, k19, n19⟩, -, X19, ⟨Lc19, hQ19, l19, y19, z19⟩, st19⟩ := Jvm.LawKit.callS X17 hx (y := (⟨"com/example/descant/descant/xml/XmlNamesIsNameStartPinLaw", "in", "(III)Z"⟩ : MethodName)) hown (mvT hZ (hw _ (List.mem_of_getElem? (i := 20) rfl))) (mvT hZ (hw _ (List.mem_of_getElem? (i := 21) rfl))) (mvT hZ (hw _ (List.mem_of_getElem? (i := 18) rfl))) (mvT hZ (hw _ (List.mem_of_getElem? (i := 22) rfl))) (by decide) (backOf (W := 0) (rm3 l Z aw hw [] p0 (8206 : Int32) (8303 : Int32)  h0 n0 Z0 ) hZ (hw _ (List.mem_of_getElem? (i := 22) rfl)) (hw _ (List.mem_of_getElem? (i := 18) rfl)) (by decide) (by decide)) (g := (mkF m 116 #[.val (.int p0)] [(.int (8303 : Int32)), (.int (8206 : Int32)), (.int p0)])) rfl (by rw [hml]; rfl) (argsL := [(.int p0), (.int (8206 : Int32)), (.int (8303 : Int32))]) (rest := []) (lenOf pd_28III29Z rfl) rfl (by show 2 * 0 + _ ≤ _; exact Nat.le_of_eq rfl) (hb hby d2_116) (fun _ _ => ⟨rfl, e17, (by decide : 0 + 0 ≤ _), (by decide : 0 + 0 ≤ _)⟩)
                          dsimp only [Pt.U, Pt.locs, Pt.cells, Pt.slots] at X19 l19 y19 z19 st19 hQ19
                          subst l19 y19 z19
                          obtain ⟨rfl, N19q, e19⟩ := hQ19
                          have N19 := Fr.app N17 N19q
                          refine Go.to (g' := (mkF m 119 #[.val (.int p0)] [(.int (if p0 < (8206 : Int32) ∨ (8303 : Int32) < p0 then (0 : Int32) else (1 : Int32)))])) st19 ?_
                          by_cases i20 : p0 < (8206 : Int32) ∨ (8303 : Int32) < p0
                          · rw [show (if p0 < (8206 : Int32) ∨ (8303 : Int32) < p0 then (0 : Int32) else (1 : Int32)) = (0 : Int32) from if_pos i20]
                            refine Go.to (g' := (mkF m 122 #[.val (.int p0)] [])) (fun t k => XS.ifNo X19.here hx rfl (hb hby d2_119) rfl ((if0 _ _).trans (teq (by decide)).2) k) ?_
                            refine Go.to (g' := (mkF m 123 #[.val (.int p0)] [(.int p0)])) (fun t k => XS.iloadN X19.here hx rfl (hb hby d2_122) rfl k) ?_
                            refine Go.to (g' := (mkF m 126 #[.val (.int p0)] [(.int (8592 : Int32)), (.int p0)])) (fun t k => XS.sipush X19.here hx rfl (hb hby d2_123) k) ?_
                            refine Go.to (g' := (mkF m 129 #[.val (.int p0)] [(.int (11263 : Int32)), (.int (8592 : Int32)), (.int p0)])) (fun t k => XS.sipush X19.here hx rfl (hb hby d2_126) k) ?_
                            obtain ⟨v21, _, ⟨T21, L21, k21, n21⟩, -, X21, ⟨Lc21, hQ21, l21, y21, z21⟩, st21⟩ := Jvm.LawKit.callS X19 hx (y := (⟨"com/example/descant/descant/xml/XmlNamesIsNameStartPinLaw", "in", "(III)Z"⟩ : MethodName)) hown (mvT hZ (hw _ (List.mem_of_getElem? (i := 20) rfl))) (mvT hZ (hw _ (List.mem_of_getElem? (i := 21) rfl))) (mvT hZ (hw _ (List.mem_of_getElem? (i := 18) rfl))) (mvT hZ (hw _ (List.mem_of_getElem? (i := 22) rfl))) (by decide) (backOf (W := 0) (rm3 l Z aw hw [] p0 (8592 : Int32) (11263 : Int32)  h0 n0 Z0 ) hZ (hw _ (List.mem_of_getElem? (i := 22) rfl)) (hw _ (List.mem_of_getElem? (i := 18) rfl)) (by decide) (by decide)) (g := (mkF m 129 #[.val (.int p0)] [(.int (11263 : Int32)), (.int (8592 : Int32)), (.int p0)])) rfl (by rw [hml]; rfl) (argsL := [(.int p0), (.int (8592 : Int32)), (.int (11263 : Int32))]) (rest := []) (lenOf pd_28III29Z rfl) rfl (by show 2 * 0 + _ ≤ _; exact Nat.le_of_eq rfl) (hb hby d2_129) (fun _ _ => ⟨rfl, e19, (by decide : 0 + 0 ≤ _), (by decide : 0 + 0 ≤ _)⟩)
                            dsimp only [Pt.U, Pt.locs, Pt.cells, Pt.slots] at X21 l21 y21 z21 st21 hQ21
                            subst l21 y21 z21
                            obtain ⟨rfl, N21q, e21⟩ := hQ21
                            have N21 := Fr.app N19 N21q
                            refine Go.to (g' := (mkF m 132 #[.val (.int p0)] [(.int (if p0 < (8592 : Int32) ∨ (11263 : Int32) < p0 then (0 : Int32) else (1 : Int32)))])) st21 ?_
                            by_cases i22 : p0 < (8592 : Int32) ∨ (11263 : Int32) < p0
                            · rw [show (if p0 < (8592 : Int32) ∨ (11263 : Int32) < p0 then (0 : Int32) else (1 : Int32)) = (0 : Int32) from if_pos i22]
                              refine Go.to (g' := (mkF m 135 #[.val (.int p0)] [])) (fun t k => XS.ifNo X21.here hx rfl (hb hby d2_132) rfl ((if0 _ _).trans (teq (by decide)).2) k) ?_
                              refine Go.to (g' := (mkF m 136 #[.val (.int p0)] [(.int p0)])) (fun t k => XS.iloadN X21.here hx rfl (hb hby d2_135) rfl k) ?_
                              refine Go.to (g' := (mkF m 139 #[.val (.int p0)] [(.int (12272 : Int32)), (.int p0)])) (fun t k => XS.sipush X21.here hx rfl (hb hby d2_136) k) ?_
                              refine Go.to (g' := (mkF m 142 #[.val (.int p0)] [(.int (12288 : Int32)), (.int (12272 : Int32)), (.int p0)])) (fun t k => XS.sipush X21.here hx rfl (hb hby d2_139) k) ?_
                              obtain ⟨v23, _, ⟨T23, L23, k23, n23⟩, -, X23, ⟨Lc23, hQ23, l23, y23, z23⟩, st23⟩ := Jvm.LawKit.callS X21 hx (y := (⟨"com/example/descant/descant/xml/XmlNamesIsNameStartPinLaw", "in", "(III)Z"⟩ : MethodName)) hown (mvT hZ (hw _ (List.mem_of_getElem? (i := 20) rfl))) (mvT hZ (hw _ (List.mem_of_getElem? (i := 21) rfl))) (mvT hZ (hw _ (List.mem_of_getElem? (i := 18) rfl))) (mvT hZ (hw _ (List.mem_of_getElem? (i := 22) rfl))) (by decide) (backOf (W := 0) (rm3 l Z aw hw [] p0 (12272 : Int32) (12288 : Int32)  h0 n0 Z0 ) hZ (hw _ (List.mem_of_getElem? (i := 22) rfl)) (hw _ (List.mem_of_getElem? (i := 18) rfl)) (by decide) (by decide)) (g := (mkF m 142 #[.val (.int p0)] [(.int (12288 : Int32)), (.int (12272 : Int32)), (.int p0)])) rfl (by rw [hml]; rfl) (argsL := [(.int p0), (.int (12272 : Int32)), (.int (12288 : Int32))]) (rest := []) (lenOf pd_28III29Z rfl) rfl (by show 2 * 0 + _ ≤ _; exact Nat.le_of_eq rfl) (hb hby d2_142) (fun _ _ => ⟨rfl, e21, (by decide : 0 + 0 ≤ _), (by decide : 0 + 0 ≤ _)⟩)
                              dsimp only [Pt.U, Pt.locs, Pt.cells, Pt.slots] at X23 l23 y23 z23 st23 hQ23
                              subst l23 y23 z23
                              obtain ⟨rfl, N23q, e23⟩ := hQ23
                              have N23 := Fr.app N21 N23q
                              refine Go.to (g' := (mkF m 145 #[.val (.int p0)] [(.int (if p0 < (12272 : Int32) ∨ (12288 : Int32) < p0 then (0 : Int32) else (1 : Int32)))])) st23 ?_
                              by_cases i24 : p0 < (12272 : Int32) ∨ (12288 : Int32) < p0
                              · rw [show (if p0 < (12272 : Int32) ∨ (12288 : Int32) < p0 then (0 : Int32) else (1 : Int32)) = (0 : Int32) from if_pos i24]
                                refine Go.to (g' := (mkF m 148 #[.val (.int p0)] [])) (fun t k => XS.ifNo X23.here hx rfl (hb hby d2_145) rfl ((if0 _ _).trans (teq (by decide)).2) k) ?_
                                refine Go.to (g' := (mkF m 149 #[.val (.int p0)] [(.int p0)])) (fun t k => XS.iloadN X23.here hx rfl (hb hby d2_148) rfl k) ?_
                                refine Go.to (g' := (mkF m 151 #[.val (.int p0)] [(.int (55296 : Int32)), (.int p0)])) (fun t k => X23.ldcInt hx hown (mvT hZ (hw _ (List.mem_of_getElem? (i := 24) rfl))) (g := (mkF m 149 #[.val (.int p0)] [(.int p0)])) rfl (hb hby d2_149) _ k) ?_
                                refine Go.to (g' := (mkF m 153 #[.val (.int p0)] [(.int (63743 : Int32)), (.int (55296 : Int32)), (.int p0)])) (fun t k => X23.ldcInt hx hown (mvT hZ (hw _ (List.mem_of_getElem? (i := 25) rfl))) (g := (mkF m 151 #[.val (.int p0)] [(.int (55296 : Int32)), (.int p0)])) rfl (hb hby d2_151) _ k) ?_
                                obtain ⟨v25, _, ⟨T25, L25, k25, n25⟩, -, X25, ⟨Lc25, hQ25, l25, y25, z25⟩, st25⟩ := Jvm.LawKit.callS X23 hx (y := (⟨"com/example/descant/descant/xml/XmlNamesIsNameStartPinLaw", "in", "(III)Z"⟩ : MethodName)) hown (mvT hZ (hw _ (List.mem_of_getElem? (i := 20) rfl))) (mvT hZ (hw _ (List.mem_of_getElem? (i := 21) rfl))) (mvT hZ (hw _ (List.mem_of_getElem? (i := 18) rfl))) (mvT hZ (hw _ (List.mem_of_getElem? (i := 22) rfl))) (by decide) (backOf (W := 0) (rm3 l Z aw hw [] p0 (55296 : Int32) (63743 : Int32)  h0 n0 Z0 ) hZ (hw _ (List.mem_of_getElem? (i := 22) rfl)) (hw _ (List.mem_of_getElem? (i := 18) rfl)) (by decide) (by decide)) (g := (mkF m 153 #[.val (.int p0)] [(.int (63743 : Int32)), (.int (55296 : Int32)), (.int p0)])) rfl (by rw [hml]; rfl) (argsL := [(.int p0), (.int (55296 : Int32)), (.int (63743 : Int32))]) (rest := []) (lenOf pd_28III29Z rfl) rfl (by show 2 * 0 + _ ≤ _; exact Nat.le_of_eq rfl) (hb hby d2_153) (fun _ _ => ⟨rfl, e23, (by decide : 0 + 0 ≤ _), (by decide : 0 + 0 ≤ _)⟩)
                                dsimp only [Pt.U, Pt.locs, Pt.cells, Pt.slots] at X25 l25 y25 z25 st25 hQ25
                                subst l25 y25 z25
                                obtain ⟨rfl, N25q, e25⟩ := hQ25
                                have N25 := Fr.app N23 N25q
                                refine Go.to (g' := (mkF m 156 #[.val (.int p0)] [(.int (if p0 < (55296 : Int32) ∨ (63743 : Int32) < p0 then (0 : Int32) else (1 : Int32)))])) st25 ?_
                                by_cases i26 : p0 < (55296 : Int32) ∨ (63743 : Int32) < p0
                                · rw [show (if p0 < (55296 : Int32) ∨ (63743 : Int32) < p0 then (0 : Int32) else (1 : Int32)) = (0 : Int32) from if_pos i26]
                                  refine Go.to (g' := (mkF m 159 #[.val (.int p0)] [])) (fun t k => XS.ifNo X25.here hx rfl (hb hby d2_156) rfl ((if0 _ _).trans (teq (by decide)).2) k) ?_
                                  refine Go.to (g' := (mkF m 160 #[.val (.int p0)] [(.int p0)])) (fun t k => XS.iloadN X25.here hx rfl (hb hby d2_159) rfl k) ?_
                                  refine Go.to (g' := (mkF m 162 #[.val (.int p0)] [(.int (64976 : Int32)), (.int p0)])) (fun t k => X25.ldcInt hx hown (mvT hZ (hw _ (List.mem_of_getElem? (i := 26) rfl))) (g := (mkF m 160 #[.val (.int p0)] [(.int p0)])) rfl (hb hby d2_160) _ k) ?_
                                  refine Go.to (g' := (mkF m 164 #[.val (.int p0)] [(.int (65007 : Int32)), (.int (64976 : Int32)), (.int p0)])) (fun t k => X25.ldcInt hx hown (mvT hZ (hw _ (List.mem_of_getElem? (i := 27) rfl))) (g := (mkF m 162 #[.val (.int p0)] [(.int (64976 : Int32)), (.int p0)])) rfl (hb hby d2_162) _ k) ?_
                                  obtain ⟨v27, _, ⟨T27, L27, k27, n27⟩, -, X27, ⟨Lc27, hQ27, l27, y27, z27⟩, st27⟩ := Jvm.LawKit.callS X25 hx (y := (⟨"com/example/descant/descant/xml/XmlNamesIsNameStartPinLaw", "in", "(III)Z"⟩ : MethodName)) hown (mvT hZ (hw _ (List.mem_of_getElem? (i := 20) rfl))) (mvT hZ (hw _ (List.mem_of_getElem? (i := 21) rfl))) (mvT hZ (hw _ (List.mem_of_getElem? (i := 18) rfl))) (mvT hZ (hw _ (List.mem_of_getElem? (i := 22) rfl))) (by decide) (backOf (W := 0) (rm3 l Z aw hw [] p0 (64976 : Int32) (65007 : Int32)  h0 n0 Z0 ) hZ (hw _ (List.mem_of_getElem? (i := 22) rfl)) (hw _ (List.mem_of_getElem? (i := 18) rfl)) (by decide) (by decide)) (g := (mkF m 164 #[.val (.int p0)] [(.int (65007 : Int32)), (.int (64976 : Int32)), (.int p0)])) rfl (by rw [hml]; rfl) (argsL := [(.int p0), (.int (64976 : Int32)), (.int (65007 : Int32))]) (rest := []) (lenOf pd_28III29Z rfl) rfl (by show 2 * 0 + _ ≤ _; exact Nat.le_of_eq rfl) (hb hby d2_164) (fun _ _ => ⟨rfl, e25, (by decide : 0 + 0 ≤ _), (by decide : 0 + 0 ≤ _)⟩)
                                  dsimp only [Pt.U, Pt.locs, Pt.cells, Pt.slots] at X27 l27 y27 z27 st27 hQ27
                                  subst l27 y27 z27
                                  obtain ⟨rfl, N27q, e27⟩ := hQ27
                                  have N27 := Fr.app N25 N27q
                                  refine Go.to (g' := (mkF m 167 #[.val (.int p0)] [(.int (if p0 < (64976 : Int32) ∨ (65007 : Int32) < p0 then (0 : Int32) else (1 : Int32)))])) st27 ?_
                                  by_cases i28 : p0 < (64976 : Int32) ∨ (65007 : Int32) < p0
                                  · rw [show (if p0 < (64976 : Int32) ∨ (65007 : Int32) < p0 then (0 : Int32) else (1 : Int32)) = (0 : Int32) from if_pos i28]
                                    refine Go.to (g' := (mkF m 170 #[.val (.int p0)] [])) (fun t k => XS.ifNo X27.here hx rfl (hb hby d2_167) rfl ((if0 _ _).trans (teq (by decide)).2) k) ?_
                                    refine Go.to (g' := (mkF m 171 #[.val (.int p0)] [(.int p0)])) (fun t k => XS.iloadN X27.here hx rfl (hb hby d2_170) rfl k) ?_
                                    refine Go.to (g' := (mkF m 173 #[.val (.int p0)] [(.int (65534 : Int32)), (.int p0)])) (fun t k => X27.ldcInt hx hown (mvT hZ (hw _ (List.mem_of_getElem? (i := 28) rfl))) (g := (mkF m 171 #[.val (.int p0)] [(.int p0)])) rfl (hb hby d2_171) _ k) ?_
                                    refine Go.to (g' := (mkF m 175 #[.val (.int p0)] [(.int (65535 : Int32)), (.int (65534 : Int32)), (.int p0)])) (fun t k => X27.ldcInt hx hown (mvT hZ (hw _ (List.mem_of_getElem? (i := 29) rfl))) (g := (mkF m 173 #[.val (.int p0)] [(.int (65534 : Int32)), (.int p0)])) rfl (hb hby d2_173) _ k) ?_
                                    obtain ⟨v29, _, ⟨T29, L29, k29, n29⟩, -, X29, ⟨Lc29, hQ29, l29, y29, z29⟩, st29⟩ := Jvm.LawKit.callS X27 hx (y := (⟨"com/example/descant/descant/xml/XmlNamesIsNameStartPinLaw", "in", "(III)Z"⟩ : MethodName)) hown (mvT hZ (hw _ (List.mem_of_getElem? (i := 20) rfl))) (mvT hZ (hw _ (List.mem_of_getElem? (i := 21) rfl))) (mvT hZ (hw _ (List.mem_of_getElem? (i := 18) rfl))) (mvT hZ (hw _ (List.mem_of_getElem? (i := 22) rfl))) (by decide) (backOf (W := 0) (rm3 l Z aw hw [] p0 (65534 : Int32) (65535 : Int32)  h0 n0 Z0 ) hZ (hw _ (List.mem_of_getElem? (i := 22) rfl)) (hw _ (List.mem_of_getElem? (i := 18) rfl)) (by decide) (by decide)) (g := (mkF m 175 #[.val (.int p0)] [(.int (65535 : Int32)), (.int (65534 : Int32)), (.int p0)])) rfl (by rw [hml]; rfl) (argsL := [(.int p0), (.int (65534 : Int32)), (.int (65535 : Int32))]) (rest := []) (lenOf pd_28III29Z rfl) rfl (by show 2 * 0 + _ ≤ _; exact Nat.le_of_eq rfl) (hb hby d2_175) (fun _ _ => ⟨rfl, e27, (by decide : 0 + 0 ≤ _), (by decide : 0 + 0 ≤ _)⟩)
                                    dsimp only [Pt.U, Pt.locs, Pt.cells, Pt.slots] at X29 l29 y29 z29 st29 hQ29
                                    subst l29 y29 z29
                                    obtain ⟨rfl, N29q, e29⟩ := hQ29
                                    have N29 := Fr.app N27 N29q
                                    refine Go.to (g' := (mkF m 178 #[.val (.int p0)] [(.int (if p0 < (65534 : Int32) ∨ (65535 : Int32) < p0 then (0 : Int32) else (1 : Int32)))])) st29 ?_
                                    by_cases i30 : p0 < (65534 : Int32) ∨ (65535 : Int32) < p0
                                    · rw [show (if p0 < (65534 : Int32) ∨ (65535 : Int32) < p0 then (0 : Int32) else (1 : Int32)) = (0 : Int32) from if_pos i30]
                                      refine Go.to (g' := (mkF m 183 #[.val (.int p0)] [])) (fun t k => XS.ifYes X29.here hx rfl (pc0 := 178) (pc' := 183) rfl (hb hby d2_178) rfl ((if0 _ _).trans (teq (by decide)).1) (by decide) (by decide) k) ?_
                                      refine Go.to (g' := (mkF m 184 #[.val (.int p0)] [(.int (1 : Int32))])) (fun t k => XS.iconst X29.here hx rfl (hb hby d2_183) k) ?_
                                      exact Go.retN X29 hx (t := .boolean) Bd.returns Bd.notSynchronized (by simp) (hb hby d2_184) (by decide) (by decide) e29 ⟨by rw [own_ref1 (fun q => q.elim c1 (fun q => q.elim c2 (fun q => q.elim (fun q => q i4) (fun q => q.elim (fun q => q i6) (fun q => q.elim (fun q => q i8) (fun q => q.elim c9 (fun q => q.elim (fun q => q i11) (fun q => q.elim c12 (fun q => q.elim c13 (fun q => q.elim (fun q => q i15) (fun q => q.elim c16 (fun q => q.elim (fun q => q i18) (fun q => q.elim (fun q => q i20) (fun q => q.elim (fun q => q i22) (fun q => q.elim (fun q => q i24) (fun q => q.elim (fun q => q i26) (fun q => q.elim (fun q => q i28) (fun q => q i30))))))))))))))))))]; rfl, N29, rfl⟩
                                    · rw [show (if p0 < (65534 : Int32) ∨ (65535 : Int32) < p0 then (0 : Int32) else (1 : Int32)) = (1 : Int32) from if_neg i30]
                                      refine Go.to (g' := (mkF m 181 #[.val (.int p0)] [])) (fun t k => XS.ifNo X29.here hx rfl (hb hby d2_178) rfl ((if0 _ _).trans (feq (by decide)).1) k) ?_
                                      refine Go.to (g' := (mkF m 182 #[.val (.int p0)] [(.int (0 : Int32))])) (fun t k => XS.iconst X29.here hx rfl (hb hby d2_181) k) ?_
                                      exact Go.retN X29 hx (t := .boolean) Bd.returns Bd.notSynchronized (by simp) (hb hby d2_182) (by decide) (by decide) e29 ⟨by rw [own_ref0 (Or.inr (Or.inr (Or.inr (Or.inr (Or.inr (Or.inr (Or.inr (Or.inr (Or.inr (Or.inr (Or.inr (Or.inr (Or.inr (Or.inr (Or.inr (Or.inr (Or.inr i30)))))))))))))))))]; rfl, N29, rfl⟩
                                  · rw [show (if p0 < (64976 : Int32) ∨ (65007 : Int32) < p0 then (0 : Int32) else (1 : Int32)) = (1 : Int32) from if_neg i28]
                                    refine Go.to (g' := (mkF m 181 #[.val (.int p0)] [])) (fun t k => XS.ifYes X27.here hx rfl (pc0 := 167) (pc' := 181) rfl (hb hby d2_167) rfl ((if0 _ _).trans (feq (by decide)).2) (by decide) (by decide) k) ?_
                                    refine Go.to (g' := (mkF m 182 #[.val (.int p0)] [(.int (0 : Int32))])) (fun t k => XS.iconst X27.here hx rfl (hb hby d2_181) k) ?_
                                    exact Go.retN X27 hx (t := .boolean) Bd.returns Bd.notSynchronized (by simp) (hb hby d2_182) (by decide) (by decide) e27 ⟨by rw [own_ref0 (Or.inr (Or.inr (Or.inr (Or.inr (Or.inr (Or.inr (Or.inr (Or.inr (Or.inr (Or.inr (Or.inr (Or.inr (Or.inr (Or.inr (Or.inr (Or.inr (Or.inl i28)))))))))))))))))]; rfl, N27, rfl⟩
                                · rw [show (if p0 < (55296 : Int32) ∨ (63743 : Int32) < p0 then (0 : Int32) else (1 : Int32)) = (1 : Int32) from if_neg i26]
                                  refine Go.to (g' := (mkF m 181 #[.val (.int p0)] [])) (fun t k => XS.ifYes X25.here hx rfl (pc0 := 156) (pc' := 181) rfl (hb hby d2_156) rfl ((if0 _ _).trans (feq (by decide)).2) (by decide) (by decide) k) ?_
                                  refine Go.to (g' := (mkF m 182 #[.val (.int p0)] [(.int (0 : Int32))])) (fun t k => XS.iconst X25.here hx rfl (hb hby d2_181) k) ?_
                                  exact Go.retN X25 hx (t := .boolean) Bd.returns Bd.notSynchronized (by simp) (hb hby d2_182) (by decide) (by decide) e25 ⟨by rw [own_ref0 (Or.inr (Or.inr (Or.inr (Or.inr (Or.inr (Or.inr (Or.inr (Or.inr (Or.inr (Or.inr (Or.inr (Or.inr (Or.inr (Or.inr (Or.inr (Or.inl i26))))))))))))))))]; rfl, N25, rfl⟩
                              · rw [show (if p0 < (12272 : Int32) ∨ (12288 : Int32) < p0 then (0 : Int32) else (1 : Int32)) = (1 : Int32) from if_neg i24]
                                refine Go.to (g' := (mkF m 181 #[.val (.int p0)] [])) (fun t k => XS.ifYes X23.here hx rfl (pc0 := 145) (pc' := 181) rfl (hb hby d2_145) rfl ((if0 _ _).trans (feq (by decide)).2) (by decide) (by decide) k) ?_
                                refine Go.to (g' := (mkF m 182 #[.val (.int p0)] [(.int (0 : Int32))])) (fun t k => XS.iconst X23.here hx rfl (hb hby d2_181) k) ?_
                                exact Go.retN X23 hx (t := .boolean) Bd.returns Bd.notSynchronized (by simp) (hb hby d2_182) (by decide) (by decide) e23 ⟨by rw [own_ref0 (Or.inr (Or.inr (Or.inr (Or.inr (Or.inr (Or.inr (Or.inr (Or.inr (Or.inr (Or.inr (Or.inr (Or.inr (Or.inr (Or.inr (Or.inl i24)))))))))))))))]; rfl, N23, rfl⟩
                            · rw [show (if p0 < (8592 : Int32) ∨ (11263 : Int32) < p0 then (0 : Int32) else (1 : Int32)) = (1 : Int32) from if_neg i22]
                              refine Go.to (g' := (mkF m 181 #[.val (.int p0)] [])) (fun t k => XS.ifYes X21.here hx rfl (pc0 := 132) (pc' := 181) rfl (hb hby d2_132) rfl ((if0 _ _).trans (feq (by decide)).2) (by decide) (by decide) k) ?_
                              refine Go.to (g' := (mkF m 182 #[.val (.int p0)] [(.int (0 : Int32))])) (fun t k => XS.iconst X21.here hx rfl (hb hby d2_181) k) ?_
                              exact Go.retN X21 hx (t := .boolean) Bd.returns Bd.notSynchronized (by simp) (hb hby d2_182) (by decide) (by decide) e21 ⟨by rw [own_ref0 (Or.inr (Or.inr (Or.inr (Or.inr (Or.inr (Or.inr (Or.inr (Or.inr (Or.inr (Or.inr (Or.inr (Or.inr (Or.inr (Or.inl i22))))))))))))))]; rfl, N21, rfl⟩
                          · rw [show (if p0 < (8206 : Int32) ∨ (8303 : Int32) < p0 then (0 : Int32) else (1 : Int32)) = (1 : Int32) from if_neg i20]
                            refine Go.to (g' := (mkF m 181 #[.val (.int p0)] [])) (fun t k => XS.ifYes X19.here hx rfl (pc0 := 119) (pc' := 181) rfl (hb hby d2_119) rfl ((if0 _ _).trans (feq (by decide)).2) (by decide) (by decide) k) ?_
                            refine Go.to (g' := (mkF m 182 #[.val (.int p0)] [(.int (0 : Int32))])) (fun t k => XS.iconst X19.here hx rfl (hb hby d2_181) k) ?_
                            exact Go.retN X19 hx (t := .boolean) Bd.returns Bd.notSynchronized (by simp) (hb hby d2_182) (by decide) (by decide) e19 ⟨by rw [own_ref0 (Or.inr (Or.inr (Or.inr (Or.inr (Or.inr (Or.inr (Or.inr (Or.inr (Or.inr (Or.inr (Or.inr (Or.inr (Or.inl i20)))))))))))))]; rfl, N19, rfl⟩
                        · rw [show (if p0 < (8192 : Int32) ∨ (8203 : Int32) < p0 then (0 : Int32) else (1 : Int32)) = (1 : Int32) from if_neg i18]
                          refine Go.to (g' := (mkF m 181 #[.val (.int p0)] [])) (fun t k => XS.ifYes X17.here hx rfl (pc0 := 106) (pc' := 181) rfl (hb hby d2_106) rfl ((if0 _ _).trans (feq (by decide)).2) (by decide) (by decide) k) ?_
                          refine Go.to (g' := (mkF m 182 #[.val (.int p0)] [(.int (0 : Int32))])) (fun t k => XS.iconst X17.here hx rfl (hb hby d2_181) k) ?_
                          exact Go.retN X17 hx (t := .boolean) Bd.returns Bd.notSynchronized (by simp) (hb hby d2_182) (by decide) (by decide) e17 ⟨by rw [own_ref0 (Or.inr (Or.inr (Or.inr (Or.inr (Or.inr (Or.inr (Or.inr (Or.inr (Or.inr (Or.inr (Or.inr (Or.inl i18))))))))))))]; rfl, N17, rfl⟩
                    · rw [show (if p0 < (768 : Int32) ∨ (879 : Int32) < p0 then (0 : Int32) else (1 : Int32)) = (1 : Int32) from if_neg i15]
                      refine Go.to (g' := (mkF m 181 #[.val (.int p0)] [])) (fun t k => XS.ifYes X14.here hx rfl (pc0 := 86) (pc' := 181) rfl (hb hby d2_86) rfl ((if0 _ _).trans (feq (by decide)).2) (by decide) (by decide) k) ?_
                      refine Go.to (g' := (mkF m 182 #[.val (.int p0)] [(.int (0 : Int32))])) (fun t k => XS.iconst X14.here hx rfl (hb hby d2_181) k) ?_
                      exact Go.retN X14 hx (t := .boolean) Bd.returns Bd.notSynchronized (by simp) (hb hby d2_182) (by decide) (by decide) e14 ⟨by rw [own_ref0 (Or.inr (Or.inr (Or.inr (Or.inr (Or.inr (Or.inr (Or.inr (Or.inr (Or.inr (Or.inl i15))))))))))]; rfl, N14, rfl⟩
              · rw [show (if p0 < (123 : Int32) ∨ (191 : Int32) < p0 then (0 : Int32) else (1 : Int32)) = (1 : Int32) from if_neg i11]
                refine Go.to (g' := (mkF m 181 #[.val (.int p0)] [])) (fun t k => XS.ifYes X10.here hx rfl (pc0 := 59) (pc' := 181) rfl (hb hby d2_59) rfl ((if0 _ _).trans (feq (by decide)).2) (by decide) (by decide) k) ?_
                refine Go.to (g' := (mkF m 182 #[.val (.int p0)] [(.int (0 : Int32))])) (fun t k => XS.iconst X10.here hx rfl (hb hby d2_181) k) ?_
                exact Go.retN X10 hx (t := .boolean) Bd.returns Bd.notSynchronized (by simp) (hb hby d2_182) (by decide) (by decide) e10 ⟨by rw [own_ref0 (Or.inr (Or.inr (Or.inr (Or.inr (Or.inr (Or.inr (Or.inl i11)))))))]; rfl, N10, rfl⟩
          · rw [show (if p0 < (91 : Int32) ∨ (94 : Int32) < p0 then (0 : Int32) else (1 : Int32)) = (1 : Int32) from if_neg i8]
            refine Go.to (g' := (mkF m 181 #[.val (.int p0)] [])) (fun t k => XS.ifYes X7.here hx rfl (pc0 := 41) (pc' := 181) rfl (hb hby d2_41) rfl ((if0 _ _).trans (feq (by decide)).2) (by decide) (by decide) k) ?_
            refine Go.to (g' := (mkF m 182 #[.val (.int p0)] [(.int (0 : Int32))])) (fun t k => XS.iconst X7.here hx rfl (hb hby d2_181) k) ?_
            exact Go.retN X7 hx (t := .boolean) Bd.returns Bd.notSynchronized (by simp) (hb hby d2_182) (by decide) (by decide) e7 ⟨by rw [own_ref0 (Or.inr (Or.inr (Or.inr (Or.inr (Or.inl i8)))))]; rfl, N7, rfl⟩
        · rw [show (if p0 < (59 : Int32) ∨ (64 : Int32) < p0 then (0 : Int32) else (1 : Int32)) = (1 : Int32) from if_neg i6]
          refine Go.to (g' := (mkF m 181 #[.val (.int p0)] [])) (fun t k => XS.ifYes X5.here hx rfl (pc0 := 30) (pc' := 181) rfl (hb hby d2_30) rfl ((if0 _ _).trans (feq (by decide)).2) (by decide) (by decide) k) ?_
          refine Go.to (g' := (mkF m 182 #[.val (.int p0)] [(.int (0 : Int32))])) (fun t k => XS.iconst X5.here hx rfl (hb hby d2_181) k) ?_
          exact Go.retN X5 hx (t := .boolean) Bd.returns Bd.notSynchronized (by simp) (hb hby d2_182) (by decide) (by decide) e5 ⟨by rw [own_ref0 (Or.inr (Or.inr (Or.inr (Or.inl i6))))]; rfl, N5, rfl⟩
      · rw [show (if p0 < (0 : Int32) ∨ (57 : Int32) < p0 then (0 : Int32) else (1 : Int32)) = (1 : Int32) from if_neg i4]
        refine Go.to (g' := (mkF m 181 #[.val (.int p0)] [])) (fun t k => XS.ifYes X3.here hx rfl (pc0 := 19) (pc' := 181) rfl (hb hby d2_19) rfl ((if0 _ _).trans (feq (by decide)).2) (by decide) (by decide) k) ?_
        refine Go.to (g' := (mkF m 182 #[.val (.int p0)] [(.int (0 : Int32))])) (fun t k => XS.iconst X3.here hx rfl (hb hby d2_181) k) ?_
        exact Go.retN X3 hx (t := .boolean) Bd.returns Bd.notSynchronized (by simp) (hb hby d2_182) (by decide) (by decide) e3 ⟨by rw [own_ref0 (Or.inr (Or.inr (Or.inl i4)))]; rfl, N3, rfl⟩

theorem ef_rm0 (m : MethodId) (x0 : Int32) (x1 : Int32) (x2 : Int32) (x3 : Int32) : entryFrame m #[(.int x0), (.int x1), (.int x2), (.int x3)] maxLocals = mkF m 0 #[.val (.int x0), .val (.int x1), .val (.int x2), .val (.int x3), .unset, .unset, .unset, .unset] [] := by first | (simp [entryFrame, mkF, argsToLocals, Value.category, maxLocals]; done) | rfl
def Q0 (Z : State) (p0 : Int32) (p1 : Int32) (p2 : Int32) (p3 : Int32) (h0 : Heap) (n0 : Nat) (v : Option Value) (h : Heap) (L : List Loc) : Prop := v = some (.int (1 : Int32)) ∧ Fr n0 L
set_option maxRecDepth 65536 in
set_option maxHeartbeats 40000000 in
theorem rm0 (l : Launch) (Z : State) (aw : Array Value) (hw : ∀ d ∈ tables_1, d.before aw Z = true) (ws : List Jvm.Cond) (p0 : Int32) (p1 : Int32) (p2 : Int32) (p3 : Int32) (h0 : Heap) (n0 : Nat) (Z0 : n0 ≤ h0.size) :
    MetFree l x (head1 (Jvm.Cond.code x code maxLocals ret :: ws) room_1) (fun a U => a = #[(.int p0), (.int p1), (.int p2), (.int p3)] ∧ Z.Warmed39 U.vm ∧ U.heap = h0) (fun _ _ _ _ _ => True) (fun _ U o U' => ∃ v L, o = .returned v ∧ Q0 Z p0 p1 p2 p3 h0 n0 v U'.heap L ∧ FrameEnd U o U' L room_1.cells room_1.slots) := by
  refine MetFree.of_bodySF (plainFor_of_name pn_com_example_descant_descant_xml_XmlNamesIsNameStartPinLaw) hisR ?_
  intro p e s m args below meth c s₁ Bd hml0 hP hK
  obtain ⟨rfl, hZ, hh⟩ := hP
  have hx := Bd.exec
  have hby := Bd.bytes
  have hml : c.maxLocals = 8 := hml0
  have hown : s.vm.findClass "com/example/descant/descant/xml/XmlNamesIsNameStartPinLaw" = some m.cls := findClass_of_methodNamed Bd.named
  have hnm := (name_of_methodNamed Bd.named Bd.method).1
  have X0 : Stand p l e room_1 s m #[(.int p0), (.int p1), (.int p2), (.int p3)] below meth c s₁ [] 0 0 := Stand.of_body Bd
  have e0 : s₁.heap = h0 := by rw [← hh, Bd.state]; rfl
  have N0 := Fr.nil n0
  refine own_go (Q := Q0 Z p0 p1 p2 p3 h0 n0) ?_
  refine Go.to (g' := (mkF m 0 #[.val (.int p0), .val (.int p1), .val (.int p2), .val (.int p3), .unset, .unset, .unset, .unset] [])) (fun t k => castTop (ef_rm0 m p0 p1 p2 p3) k) ?_
  refine Go.to (g' := (mkF m 2 #[.val (.int p0), .val (.int p1), .val (.int p2), .val (.int p3), .unset, .unset, .unset, .unset] [(.int (32 : Int32))])) (fun t k => XS.bipush X0.here hx rfl (hb hby at_0) k) ?_
  obtain ⟨T1, h1, k1, X1, e1, E1, A1, st1⟩ := newP X0 hx hZ (hw _ (List.mem_of_getElem? (i := 0) rfl)) e0 (g := (mkF m 2 #[.val (.int p0), .val (.int p1), .val (.int p2), .val (.int p3), .unset, .unset, .unset, .unset] [(.int (32 : Int32))])) rfl (hb hby at_2) rfl (by decide) (cap := 32) (by decide) (by decide) (by decide) (by decide)
  obtain ⟨bb, g1⟩ : ∃ z, z = h0.size := ⟨_, rfl⟩
  rw [← g1] at A1 st1
  have g_bb : n0 ≤ bb := Nat.le_trans Z0 (Nat.le_of_eq g1.symm)
  have sz_bb : h0.size ≤ bb := Nat.le_trans (Keep.refl h0 []).1 (Nat.le_of_eq g1.symm)
  have Z1 : n0 ≤ h1.size := Nat.le_trans Z0 E1.1
  have K1 : Keep h0 h1 [] := (Keep.refl h0 []).ext E1
  have V_bb : Arv Z h1 bb k1 .int (32 : Int32) [] (.int (0 : Int32)) := Arv.new A1 (by decide)
  refine Go.to (g' := (mkF m 4 #[.val (.int p0), .val (.int p1), .val (.int p2), .val (.int p3), .unset, .unset, .unset, .unset] [(.ref bb)])) st1 ?_
  have I_bb : own_In Z h1 bb 32 (fun _ => (0 : Int32)) := own_in_of V_bb rfl
  refine Go.to (g' := (mkF m 5 #[.val (.int p0), .val (.int p1), .val (.int p2), .val (.int p3), .unset, .unset, .unset, .unset] [(.ref bb), (.ref bb)])) (fun t k => XS.dup X1.here hx rfl (hb hby at_4) rfl rfl k) ?_
  refine Go.to (g' := (mkF m 6 #[.val (.int p0), .val (.int p1), .val (.int p2), .val (.int p3), .unset, .unset, .unset, .unset] [(.int (0 : Int32)), (.ref bb), (.ref bb)])) (fun t k => XS.iconst X1.here hx rfl (hb hby at_5) k) ?_
  refine Go.to (g' := (mkF m 8 #[.val (.int p0), .val (.int p1), .val (.int p2), .val (.int p3), .unset, .unset, .unset, .unset] [(.int (58 : Int32)), (.int (0 : Int32)), (.ref bb), (.ref bb)])) (fun t k => XS.bipush X1.here hx rfl (hb hby at_6) k) ?_
  obtain ⟨cl2, Ar2, Sz2, Hf2⟩ := id I_bb
  obtain ⟨T3, h3, X3, e3, W3, st3⟩ := stI X1 hx hZ e1 Ar2 (j := (0 : Int32)) (own_by_in Sz2 (by decide) (by decide)) (g := (mkF m 8 #[.val (.int p0), .val (.int p1), .val (.int p2), .val (.int p3), .unset, .unset, .unset, .unset] [(.int (58 : Int32)), (.int (0 : Int32)), (.ref bb), (.ref bb)])) rfl rfl (hb hby at_8)
  have Z3 : n0 ≤ h3.size := Nat.le_trans Z1 (Keep.of_wr W3).1
  have K3 : Keep h0 h3 [] := K1.wr W3 (Or.inr sz_bb)
  have N3 := Fr.snoc X3 N0 g_bb
  have B3 : own_In Z h3 bb 32 (own_upd (fun _ => (0 : Int32)) (0 : Int32) (58 : Int32)) := I_bb.set (by decide) W3
  refine Go.to (g' := (mkF m 9 #[.val (.int p0), .val (.int p1), .val (.int p2), .val (.int p3), .unset, .unset, .unset, .unset] [(.ref bb)])) st3 ?_
  obtain ⟨ff3, Bf3⟩ : ∃ f, own_In Z h3 bb 32 f := ⟨_, B3⟩
  refine Go.to (g' := (mkF m 10 #[.val (.int p0), .val (.int p1), .val (.int p2), .val (.int p3), .unset, .unset, .unset, .unset] [(.ref bb), (.ref bb)])) (fun t k => XS.dup X3.here hx rfl (hb hby at_9) rfl rfl k) ?_
  refine Go.to (g' := (mkF m 11 #[.val (.int p0), .val (.int p1), .val (.int p2), .val (.int p3), .unset, .unset, .unset, .unset] [(.int (1 : Int32)), (.ref bb), (.ref bb)])) (fun t k => XS.iconst X3.here hx rfl (hb hby at_10) k) ?_
  refine Go.to (g' := (mkF m 13 #[.val (.int p0), .val (.int p1), .val (.int p2), .val (.int p3), .unset, .unset, .unset, .unset] [(.int (95 : Int32)), (.int (1 : Int32)), (.ref bb), (.ref bb)])) (fun t k => XS.bipush X3.here hx rfl (hb hby at_11) k) ?_
  obtain ⟨cl4, Ar4, Sz4, Hf4⟩ := id Bf3
  obtain ⟨T5, h5, X5, e5, W5, st5⟩ := stI X3 hx hZ e3 Ar4 (j := (1 : Int32)) (own_by_in Sz4 (by decide) (by decide)) (g := (mkF m 13 #[.val (.int p0), .val (.int p1), .val (.int p2), .val (.int p3), .unset, .unset, .unset, .unset] [(.int (95 : Int32)), (.int (1 : Int32)), (.ref bb), (.ref bb)])) rfl rfl (hb hby at_13)
  have Z5 : n0 ≤ h5.size := Nat.le_trans Z3 (Keep.of_wr W5).1
  have K5 : Keep h0 h5 [] := K3.wr W5 (Or.inr sz_bb)
  have N5 := Fr.snoc X5 N3 g_bb
  have B5 : own_In Z h5 bb 32 (own_upd ff3 (1 : Int32) (95 : Int32)) := Bf3.set (by decide) W5
  refine Go.to (g' := (mkF m 14 #[.val (.int p0), .val (.int p1), .val (.int p2), .val (.int p3), .unset, .unset, .unset, .unset] [(.ref bb)])) st5 ?_
  obtain ⟨ff5, Bf5⟩ : ∃ f, own_In Z h5 bb 32 f := ⟨_, B5⟩
  refine Go.to (g' := (mkF m 15 #[.val (.int p0), .val (.int p1), .val (.int p2), .val (.int p3), .unset, .unset, .unset, .unset] [(.ref bb), (.ref bb)])) (fun t k => XS.dup X5.here hx rfl (hb hby at_14) rfl rfl k) ?_
  refine Go.to (g' := (mkF m 16 #[.val (.int p0), .val (.int p1), .val (.int p2), .val (.int p3), .unset, .unset, .unset, .unset] [(.int (2 : Int32)), (.ref bb), (.ref bb)])) (fun t k => XS.iconst X5.here hx rfl (hb hby at_15) k) ?_
  refine Go.to (g' := (mkF m 18 #[.val (.int p0), .val (.int p1), .val (.int p2), .val (.int p3), .unset, .unset, .unset, .unset] [(.int (65 : Int32)), (.int (2 : Int32)), (.ref bb), (.ref bb)])) (fun t k => XS.bipush X5.here hx rfl (hb hby at_16) k) ?_
  obtain ⟨cl6, Ar6, Sz6, Hf6⟩ := id Bf5
  obtain ⟨T7, h7, X7, e7, W7, st7⟩ := stI X5 hx hZ e5 Ar6 (j := (2 : Int32)) (own_by_in Sz6 (by decide) (by decide)) (g := (mkF m 18 #[.val (.int p0), .val (.int p1), .val (.int p2), .val (.int p3), .unset, .unset, .unset, .unset] [(.int (65 : Int32)), (.int (2 : Int32)), (.ref bb), (.ref bb)])) rfl rfl (hb hby at_18)
  have Z7 : n0 ≤ h7.size := Nat.le_trans Z5 (Keep.of_wr W7).1
  have K7 : Keep h0 h7 [] := K5.wr W7 (Or.inr sz_bb)
  have N7 := Fr.snoc X7 N5 g_bb
  have B7 : own_In Z h7 bb 32 (own_upd ff5 (2 : Int32) (65 : Int32)) := Bf5.set (by decide) W7
  refine Go.to (g' := (mkF m 19 #[.val (.int p0), .val (.int p1), .val (.int p2), .val (.int p3), .unset, .unset, .unset, .unset] [(.ref bb)])) st7 ?_
  obtain ⟨ff7, Bf7⟩ : ∃ f, own_In Z h7 bb 32 f := ⟨_, B7⟩
  refine Go.to (g' := (mkF m 20 #[.val (.int p0), .val (.int p1), .val (.int p2), .val (.int p3), .unset, .unset, .unset, .unset] [(.ref bb), (.ref bb)])) (fun t k => XS.dup X7.here hx rfl (hb hby at_19) rfl rfl k) ?_
  refine Go.to (g' := (mkF m 21 #[.val (.int p0), .val (.int p1), .val (.int p2), .val (.int p3), .unset, .unset, .unset, .unset] [(.int (3 : Int32)), (.ref bb), (.ref bb)])) (fun t k => XS.iconst X7.here hx rfl (hb hby at_20) k) ?_
  refine Go.to (g' := (mkF m 23 #[.val (.int p0), .val (.int p1), .val (.int p2), .val (.int p3), .unset, .unset, .unset, .unset] [(.int (90 : Int32)), (.int (3 : Int32)), (.ref bb), (.ref bb)])) (fun t k => XS.bipush X7.here hx rfl (hb hby at_21) k) ?_
  obtain ⟨cl8, Ar8, Sz8, Hf8⟩ := id Bf7
  obtain ⟨T9, h9, X9, e9, W9, st9⟩ := stI X7 hx hZ e7 Ar8 (j := (3 : Int32)) (own_by_in Sz8 (by decide) (by decide)) (g := (mkF m 23 #[.val (.int p0), .val (.int p1), .val (.int p2), .val (.int p3), .unset, .unset, .unset, .unset] [(.int (90 : Int32)), (.int (3 : Int32)), (.ref bb), (.ref bb)])) rfl rfl (hb hby at_23)
  have Z9 : n0 ≤ h9.size := Nat.le_trans Z7 (Keep.of_wr W9).1
  have K9 : Keep h0 h9 [] := K7.wr W9 (Or.inr sz_bb)
  have N9 := Fr.snoc X9 N7 g_bb
  have B9 : own_In Z h9 bb 32 (own_upd ff7 (3 : Int32) (90 : Int32)) := Bf7.set (by decide) W9
  refine Go.to (g' := (mkF m 24 #[.val (.int p0), .val (.int p1), .val (.int p2), .val (.int p3), .unset, .unset, .unset, .unset] [(.ref bb)])) st9 ?_
  obtain ⟨ff9, Bf9⟩ : ∃ f, own_In Z h9 bb 32 f := ⟨_, B9⟩
  refine Go.to (g' := (mkF m 25 #[.val (.int p0), .val (.int p1), .val (.int p2), .val (.int p3), .unset, .unset, .unset, .unset] [(.ref bb), (.ref bb)])) (fun t k => XS.dup X9.here hx rfl (hb hby at_24) rfl rfl k) ?_
  refine Go.to (g' := (mkF m 26 #[.val (.int p0), .val (.int p1), .val (.int p2), .val (.int p3), .unset, .unset, .unset, .unset] [(.int (4 : Int32)), (.ref bb), (.ref bb)])) (fun t k => XS.iconst X9.here hx rfl (hb hby at_25) k) ?_
  refine Go.to (g' := (mkF m 28 #[.val (.int p0), .val (.int p1), .val (.int p2), .val (.int p3), .unset, .unset, .unset, .unset] [(.int (97 : Int32)), (.int (4 : Int32)), (.ref bb), (.ref bb)])) (fun t k => XS.bipush X9.here hx rfl (hb hby at_26) k) ?_
  obtain ⟨cl10, Ar10, Sz10, Hf10⟩ := id Bf9
  obtain ⟨T11, h11, X11, e11, W11, st11⟩ := stI X9 hx hZ e9 Ar10 (j := (4 : Int32)) (own_by_in Sz10 (by decide) (by decide)) (g := (mkF m 28 #[.val (.int p0), .val (.int p1), .val (.int p2), .val (.int p3), .unset, .unset, .unset, .unset] [(.int (97 : Int32)), (.int (4 : Int32)), (.ref bb), (.ref bb)])) rfl rfl (hb hby at_28)
  have Z11 : n0 ≤ h11.size := Nat.le_trans Z9 (Keep.of_wr W11).1
  have K11 : Keep h0 h11 [] := K9.wr W11 (Or.inr sz_bb)
  have N11 := Fr.snoc X11 N9 g_bb
  have B11 : own_In Z h11 bb 32 (own_upd ff9 (4 : Int32) (97 : Int32)) := Bf9.set (by decide) W11
  refine Go.to (g' := (mkF m 29 #[.val (.int p0), .val (.int p1), .val (.int p2), .val (.int p3), .unset, .unset, .unset, .unset] [(.ref bb)])) st11 ?_
  obtain ⟨ff11, Bf11⟩ : ∃ f, own_In Z h11 bb 32 f := ⟨_, B11⟩
  refine Go.to (g' := (mkF m 30 #[.val (.int p0), .val (.int p1), .val (.int p2), .val (.int p3), .unset, .unset, .unset, .unset] [(.ref bb), (.ref bb)])) (fun t k => XS.dup X11.here hx rfl (hb hby at_29) rfl rfl k) ?_
  refine Go.to (g' := (mkF m 31 #[.val (.int p0), .val (.int p1), .val (.int p2), .val (.int p3), .unset, .unset, .unset, .unset] [(.int (5 : Int32)), (.ref bb), (.ref bb)])) (fun t k => XS.iconst X11.here hx rfl (hb hby at_30) k) ?_
  refine Go.to (g' := (mkF m 33 #[.val (.int p0), .val (.int p1), .val (.int p2), .val (.int p3), .unset, .unset, .unset, .unset] [(.int (122 : Int32)), (.int (5 : Int32)), (.ref bb), (.ref bb)])) (fun t k => XS.bipush X11.here hx rfl (hb hby at_31) k) ?_
  obtain ⟨cl12, Ar12, Sz12, Hf12⟩ := id Bf11
  obtain ⟨T13, h13, X13, e13, W13, st13⟩ := stI X11 hx hZ e11 Ar12 (j := (5 : Int32)) (own_by_in Sz12 (by decide) (by decide)) (g := (mkF m 33 #[.val (.int p0), .val (.int p1), .val (.int p2), .val (.int p3), .unset, .unset, .unset, .unset] [(.int (122 : Int32)), (.int (5 : Int32)), (.ref bb), (.ref bb)])) rfl rfl (hb hby at_33)
  have Z13 : n0 ≤ h13.size := Nat.le_trans Z11 (Keep.of_wr W13).1
  have K13 : Keep h0 h13 [] := K11.wr W13 (Or.inr sz_bb)
  have N13 := Fr.snoc X13 N11 g_bb
  have B13 : own_In Z h13 bb 32 (own_upd ff11 (5 : Int32) (122 : Int32)) := Bf11.set (by decide) W13
  refine Go.to (g' := (mkF m 34 #[.val (.int p0), .val (.int p1), .val (.int p2), .val (.int p3), .unset, .unset, .unset, .unset] [(.ref bb)])) st13 ?_
  obtain ⟨ff13, Bf13⟩ : ∃ f, own_In Z h13 bb 32 f := ⟨_, B13⟩
  refine Go.to (g' := (mkF m 35 #[.val (.int p0), .val (.int p1), .val (.int p2), .val (.int p3), .unset, .unset, .unset, .unset] [(.ref bb), (.ref bb)])) (fun t k => XS.dup X13.here hx rfl (hb hby at_34) rfl rfl k) ?_
  refine Go.to (g' := (mkF m 37 #[.val (.int p0), .val (.int p1), .val (.int p2), .val (.int p3), .unset, .unset, .unset, .unset] [(.int (6 : Int32)), (.ref bb), (.ref bb)])) (fun t k => XS.bipush X13.here hx rfl (hb hby at_35) k) ?_
  refine Go.to (g' := (mkF m 40 #[.val (.int p0), .val (.int p1), .val (.int p2), .val (.int p3), .unset, .unset, .unset, .unset] [(.int (192 : Int32)), (.int (6 : Int32)), (.ref bb), (.ref bb)])) (fun t k => XS.sipush X13.here hx rfl (hb hby at_37) k) ?_
  obtain ⟨cl14, Ar14, Sz14, Hf14⟩ := id Bf13
  obtain ⟨T15, h15, X15, e15, W15, st15⟩ := stI X13 hx hZ e13 Ar14 (j := (6 : Int32)) (own_by_in Sz14 (by decide) (by decide)) (g := (mkF m 40 #[.val (.int p0), .val (.int p1), .val (.int p2), .val (.int p3), .unset, .unset, .unset, .unset] [(.int (192 : Int32)), (.int (6 : Int32)), (.ref bb), (.ref bb)])) rfl rfl (hb hby at_40)
  have Z15 : n0 ≤ h15.size := Nat.le_trans Z13 (Keep.of_wr W15).1
  have K15 : Keep h0 h15 [] := K13.wr W15 (Or.inr sz_bb)
  have N15 := Fr.snoc X15 N13 g_bb
  have B15 : own_In Z h15 bb 32 (own_upd ff13 (6 : Int32) (192 : Int32)) := Bf13.set (by decide) W15
  refine Go.to (g' := (mkF m 41 #[.val (.int p0), .val (.int p1), .val (.int p2), .val (.int p3), .unset, .unset, .unset, .unset] [(.ref bb)])) st15 ?_
  obtain ⟨ff15, Bf15⟩ : ∃ f, own_In Z h15 bb 32 f := ⟨_, B15⟩
  refine Go.to (g' := (mkF m 42 #[.val (.int p0), .val (.int p1), .val (.int p2), .val (.int p3), .unset, .unset, .unset, .unset] [(.ref bb), (.ref bb)])) (fun t k => XS.dup X15.here hx rfl (hb hby at_41) rfl rfl k) ?_
  refine Go.to (g' := (mkF m 44 #[.val (.int p0), .val (.int p1), .val (.int p2), .val (.int p3), .unset, .unset, .unset, .unset] [(.int (7 : Int32)), (.ref bb), (.ref bb)])) (fun t k => XS.bipush X15.here hx rfl (hb hby at_42) k) ?_
  refine Go.to (g' := (mkF m 47 #[.val (.int p0), .val (.int p1), .val (.int p2), .val (.int p3), .unset, .unset, .unset, .unset] [(.int (214 : Int32)), (.int (7 : Int32)), (.ref bb), (.ref bb)])) (fun t k => XS.sipush X15.here hx rfl (hb hby at_44) k) ?_
  obtain ⟨cl16, Ar16, Sz16, Hf16⟩ := id Bf15
  obtain ⟨T17, h17, X17, e17, W17, st17⟩ := stI X15 hx hZ e15 Ar16 (j := (7 : Int32)) (own_by_in Sz16 (by decide) (by decide)) (g := (mkF m 47 #[.val (.int p0), .val (.int p1), .val (.int p2), .val (.int p3), .unset, .unset, .unset, .unset] [(.int (214 : Int32)), (.int (7 : Int32)), (.ref bb), (.ref bb)])) rfl rfl (hb hby at_47)
  have Z17 : n0 ≤ h17.size := Nat.le_trans Z15 (Keep.of_wr W17).1
  have K17 : Keep h0 h17 [] := K15.wr W17 (Or.inr sz_bb)
  have N17 := Fr.snoc X17 N15 g_bb
  have B17 : own_In Z h17 bb 32 (own_upd ff15 (7 : Int32) (214 : Int32)) := Bf15.set (by decide) W17
  refine Go.to (g' := (mkF m 48 #[.val (.int p0), .val (.int p1), .val (.int p2), .val (.int p3), .unset, .unset, .unset, .unset] [(.ref bb)])) st17 ?_
  obtain ⟨ff17, Bf17⟩ : ∃ f, own_In Z h17 bb 32 f := ⟨_, B17⟩
  refine Go.to (g' := (mkF m 49 #[.val (.int p0), .val (.int p1), .val (.int p2), .val (.int p3), .unset, .unset, .unset, .unset] [(.ref bb), (.ref bb)])) (fun t k => XS.dup X17.here hx rfl (hb hby at_48) rfl rfl k) ?_
  refine Go.to (g' := (mkF m 51 #[.val (.int p0), .val (.int p1), .val (.int p2), .val (.int p3), .unset, .unset, .unset, .unset] [(.int (8 : Int32)), (.ref bb), (.ref bb)])) (fun t k => XS.bipush X17.here hx rfl (hb hby at_49) k) ?_
  refine Go.to (g' := (mkF m 54 #[.val (.int p0), .val (.int p1), .val (.int p2), .val (.int p3), .unset, .unset, .unset, .unset] [(.int (216 : Int32)), (.int (8 : Int32)), (.ref bb), (.ref bb)])) (fun t k => XS.sipush X17.here hx rfl (hb hby at_51) k) ?_
  obtain ⟨cl18, Ar18, Sz18, Hf18⟩ := id Bf17
  obtain ⟨T19, h19, X19, e19, W19, st19⟩ := stI X17 hx hZ e17 Ar18 (j := (8 : Int32)) (own_by_in Sz18 (by decide) (by decide)) (g := (mkF m 54 #[.val (.int p0), .val (.int p1), .val (.int p2), .val (.int p3), .unset, .unset, .unset, .unset] [(.int (216 : Int32)), (.int (8 : Int32)), (.ref bb), (.ref bb)])) rfl rfl (hb hby at_54)
  have Z19 : n0 ≤ h19.size := Nat.le_trans Z17 (Keep.of_wr W19).1
  have K19 : Keep h0 h19 [] := K17.wr W19 (Or.inr sz_bb)
  have N19 := Fr.snoc X19 N17 g_bb
  have B19 : own_In Z h19 bb 32 (own_upd ff17 (8 : Int32) (216 : Int32)) := Bf17.set (by decide) W19
  refine Go.to (g' := (mkF m 55 #[.val (.int p0), .val (.int p1), .val (.int p2), .val (.int p3), .unset, .unset, .unset, .unset] [(.ref bb)])) st19 ?_
  obtain ⟨ff19, Bf19⟩ : ∃ f, own_In Z h19 bb 32 f := ⟨_, B19⟩
  refine Go.to (g' := (mkF m 56 #[.val (.int p0), .val (.int p1), .val (.int p2), .val (.int p3), .unset, .unset, .unset, .unset] [(.ref bb), (.ref bb)])) (fun t k => XS.dup X19.here hx rfl (hb hby at_55) rfl rfl k) ?_
  refine Go.to (g' := (mkF m 58 #[.val (.int p0), .val (.int p1), .val (.int p2), .val (.int p3), .unset, .unset, .unset, .unset] [(.int (9 : Int32)), (.ref bb), (.ref bb)])) (fun t k => XS.bipush X19.here hx rfl (hb hby at_56) k) ?_
  refine Go.to (g' := (mkF m 61 #[.val (.int p0), .val (.int p1), .val (.int p2), .val (.int p3), .unset, .unset, .unset, .unset] [(.int (246 : Int32)), (.int (9 : Int32)), (.ref bb), (.ref bb)])) (fun t k => XS.sipush X19.here hx rfl (hb hby at_58) k) ?_
  obtain ⟨cl20, Ar20, Sz20, Hf20⟩ := id Bf19
  obtain ⟨T21, h21, X21, e21, W21, st21⟩ := stI X19 hx hZ e19 Ar20 (j := (9 : Int32)) (own_by_in Sz20 (by decide) (by decide)) (g := (mkF m 61 #[.val (.int p0), .val (.int p1), .val (.int p2), .val (.int p3), .unset, .unset, .unset, .unset] [(.int (246 : Int32)), (.int (9 : Int32)), (.ref bb), (.ref bb)])) rfl rfl (hb hby at_61)
  have Z21 : n0 ≤ h21.size := Nat.le_trans Z19 (Keep.of_wr W21).1
  have K21 : Keep h0 h21 [] := K19.wr W21 (Or.inr sz_bb)
  have N21 := Fr.snoc X21 N19 g_bb
  have B21 : own_In Z h21 bb 32 (own_upd ff19 (9 : Int32) (246 : Int32)) := Bf19.set (by decide) W21
  refine Go.to (g' := (mkF m 62 #[.val (.int p0), .val (.int p1), .val (.int p2), .val (.int p3), .unset, .unset, .unset, .unset] [(.ref bb)])) st21 ?_
  obtain ⟨ff21, Bf21⟩ : ∃ f, own_In Z h21 bb 32 f := ⟨_, B21⟩
  refine Go.to (g' := (mkF m 63 #[.val (.int p0), .val (.int p1), .val (.int p2), .val (.int p3), .unset, .unset, .unset, .unset] [(.ref bb), (.ref bb)])) (fun t k => XS.dup X21.here hx rfl (hb hby at_62) rfl rfl k) ?_
  refine Go.to (g' := (mkF m 65 #[.val (.int p0), .val (.int p1), .val (.int p2), .val (.int p3), .unset, .unset, .unset, .unset] [(.int (10 : Int32)), (.ref bb), (.ref bb)])) (fun t k => XS.bipush X21.here hx rfl (hb hby at_63) k) ?_
  refine Go.to (g' := (mkF m 68 #[.val (.int p0), .val (.int p1), .val (.int p2), .val (.int p3), .unset, .unset, .unset, .unset] [(.int (248 : Int32)), (.int (10 : Int32)), (.ref bb), (.ref bb)])) (fun t k => XS.sipush X21.here hx rfl (hb hby at_65) k) ?_
  obtain ⟨cl22, Ar22, Sz22, Hf22⟩ := id Bf21
  obtain ⟨T23, h23, X23, e23, W23, st23⟩ := stI X21 hx hZ e21 Ar22 (j := (10 : Int32)) (own_by_in Sz22 (by decide) (by decide)) (g := (mkF m 68 #[.val (.int p0), .val (.int p1), .val (.int p2), .val (.int p3), .unset, .unset, .unset, .unset] [(.int (248 : Int32)), (.int (10 : Int32)), (.ref bb), (.ref bb)])) rfl rfl (hb hby at_68)
  have Z23 : n0 ≤ h23.size := Nat.le_trans Z21 (Keep.of_wr W23).1
  have K23 : Keep h0 h23 [] := K21.wr W23 (Or.inr sz_bb)
  have N23 := Fr.snoc X23 N21 g_bb
  have B23 : own_In Z h23 bb 32 (own_upd ff21 (10 : Int32) (248 : Int32)) := Bf21.set (by decide) W23
  refine Go.to (g' := (mkF m 69 #[.val (.int p0), .val (.int p1), .val (.int p2), .val (.int p3), .unset, .unset, .unset, .unset] [(.ref bb)])) st23 ?_
  obtain ⟨ff23, Bf23⟩ : ∃ f, own_In Z h23 bb 32 f := ⟨_, B23⟩
  refine Go.to (g' := (mkF m 70 #[.val (.int p0), .val (.int p1), .val (.int p2), .val (.int p3), .unset, .unset, .unset, .unset] [(.ref bb), (.ref bb)])) (fun t k => XS.dup X23.here hx rfl (hb hby at_69) rfl rfl k) ?_
  refine Go.to (g' := (mkF m 72 #[.val (.int p0), .val (.int p1), .val (.int p2), .val (.int p3), .unset, .unset, .unset, .unset] [(.int (11 : Int32)), (.ref bb), (.ref bb)])) (fun t k => XS.bipush X23.here hx rfl (hb hby at_70) k) ?_
  refine Go.to (g' := (mkF m 75 #[.val (.int p0), .val (.int p1), .val (.int p2), .val (.int p3), .unset, .unset, .unset, .unset] [(.int (767 : Int32)), (.int (11 : Int32)), (.ref bb), (.ref bb)])) (fun t k => XS.sipush X23.here hx rfl (hb hby at_72) k) ?_
  obtain ⟨cl24, Ar24, Sz24, Hf24⟩ := id Bf23
  obtain ⟨T25, h25, X25, e25, W25, st25⟩ := stI X23 hx hZ e23 Ar24 (j := (11 : Int32)) (own_by_in Sz24 (by decide) (by decide)) (g := (mkF m 75 #[.val (.int p0), .val (.int p1), .val (.int p2), .val (.int p3), .unset, .unset, .unset, .unset] [(.int (767 : Int32)), (.int (11 : Int32)), (.ref bb), (.ref bb)])) rfl rfl (hb hby at_75)
  have Z25 : n0 ≤ h25.size := Nat.le_trans Z23 (Keep.of_wr W25).1
  have K25 : Keep h0 h25 [] := K23.wr W25 (Or.inr sz_bb)
  have N25 := Fr.snoc X25 N23 g_bb
  have B25 : own_In Z h25 bb 32 (own_upd ff23 (11 : Int32) (767 : Int32)) := Bf23.set (by decide) W25
  refine Go.to (g' := (mkF m 76 #[.val (.int p0), .val (.int p1), .val (.int p2), .val (.int p3), .unset, .unset, .unset, .unset] [(.ref bb)])) st25 ?_
  obtain ⟨ff25, Bf25⟩ : ∃ f, own_In Z h25 bb 32 f := ⟨_, B25⟩
  refine Go.to (g' := (mkF m 77 #[.val (.int p0), .val (.int p1), .val (.int p2), .val (.int p3), .unset, .unset, .unset, .unset] [(.ref bb), (.ref bb)])) (fun t k => XS.dup X25.here hx rfl (hb hby at_76) rfl rfl k) ?_
  refine Go.to (g' := (mkF m 79 #[.val (.int p0), .val (.int p1), .val (.int p2), .val (.int p3), .unset, .unset, .unset, .unset] [(.int (12 : Int32)), (.ref bb), (.ref bb)])) (fun t k => XS.bipush X25.here hx rfl (hb hby at_77) k) ?_
  refine Go.to (g' := (mkF m 82 #[.val (.int p0), .val (.int p1), .val (.int p2), .val (.int p3), .unset, .unset, .unset, .unset] [(.int (880 : Int32)), (.int (12 : Int32)), (.ref bb), (.ref bb)])) (fun t k => XS.sipush X25.here hx rfl (hb hby at_79) k) ?_
  obtain ⟨cl26, Ar26, Sz26, Hf26⟩ := id Bf25
  obtain ⟨T27, h27, X27, e27, W27, st27⟩ := stI X25 hx hZ e25 Ar26 (j := (12 : Int32)) (own_by_in Sz26 (by decide) (by decide)) (g := (mkF m 82 #[.val (.int p0), .val (.int p1), .val (.int p2), .val (.int p3), .unset, .unset, .unset, .unset] [(.int (880 : Int32)), (.int (12 : Int32)), (.ref bb), (.ref bb)])) rfl rfl (hb hby at_82)
  have Z27 : n0 ≤ h27.size := Nat.le_trans Z25 (Keep.of_wr W27).1
  have K27 : Keep h0 h27 [] := K25.wr W27 (Or.inr sz_bb)
  have N27 := Fr.snoc X27 N25 g_bb
  have B27 : own_In Z h27 bb 32 (own_upd ff25 (12 : Int32) (880 : Int32)) := Bf25.set (by decide) W27
  refine Go.to (g' := (mkF m 83 #[.val (.int p0), .val (.int p1), .val (.int p2), .val (.int p3), .unset, .unset, .unset, .unset] [(.ref bb)])) st27 ?_
  obtain ⟨ff27, Bf27⟩ : ∃ f, own_In Z h27 bb 32 f := ⟨_, B27⟩
  refine Go.to (g' := (mkF m 84 #[.val (.int p0), .val (.int p1), .val (.int p2), .val (.int p3), .unset, .unset, .unset, .unset] [(.ref bb), (.ref bb)])) (fun t k => XS.dup X27.here hx rfl (hb hby at_83) rfl rfl k) ?_
  refine Go.to (g' := (mkF m 86 #[.val (.int p0), .val (.int p1), .val (.int p2), .val (.int p3), .unset, .unset, .unset, .unset] [(.int (13 : Int32)), (.ref bb), (.ref bb)])) (fun t k => XS.bipush X27.here hx rfl (hb hby at_84) k) ?_
  refine Go.to (g' := (mkF m 89 #[.val (.int p0), .val (.int p1), .val (.int p2), .val (.int p3), .unset, .unset, .unset, .unset] [(.int (893 : Int32)), (.int (13 : Int32)), (.ref bb), (.ref bb)])) (fun t k => XS.sipush X27.here hx rfl (hb hby at_86) k) ?_
  obtain ⟨cl28, Ar28, Sz28, Hf28⟩ := id Bf27
  obtain ⟨T29, h29, X29, e29, W29, st29⟩ := stI X27 hx hZ e27 Ar28 (j := (13 : Int32)) (own_by_in Sz28 (by decide) (by decide)) (g := (mkF m 89 #[.val (.int p0), .val (.int p1), .val (.int p2), .val (.int p3), .unset, .unset, .unset, .unset] [(.int (893 : Int32)), (.int (13 : Int32)), (.ref bb), (.ref bb)])) rfl rfl (hb hby at_89)
  have Z29 : n0 ≤ h29.size := Nat.le_trans Z27 (Keep.of_wr W29).1
  have K29 : Keep h0 h29 [] := K27.wr W29 (Or.inr sz_bb)
  have N29 := Fr.snoc X29 N27 g_bb
  have B29 : own_In Z h29 bb 32 (own_upd ff27 (13 : Int32) (893 : Int32)) := Bf27.set (by decide) W29
  refine Go.to (g' := (mkF m 90 #[.val (.int p0), .val (.int p1), .val (.int p2), .val (.int p3), .unset, .unset, .unset, .unset] [(.ref bb)])) st29 ?_
  obtain ⟨ff29, Bf29⟩ : ∃ f, own_In Z h29 bb 32 f := ⟨_, B29⟩
  refine Go.to (g' := (mkF m 91 #[.val (.int p0), .val (.int p1), .val (.int p2), .val (.int p3), .unset, .unset, .unset, .unset] [(.ref bb), (.ref bb)])) (fun t k => XS.dup X29.here hx rfl (hb hby at_90) rfl rfl k) ?_
  refine Go.to (g' := (mkF m 93 #[.val (.int p0), .val (.int p1), .val (.int p2), .val (.int p3), .unset, .unset, .unset, .unset] [(.int (14 : Int32)), (.ref bb), (.ref bb)])) (fun t k => XS.bipush X29.here hx rfl (hb hby at_91) k) ?_
  refine Go.to (g' := (mkF m 96 #[.val (.int p0), .val (.int p1), .val (.int p2), .val (.int p3), .unset, .unset, .unset, .unset] [(.int (895 : Int32)), (.int (14 : Int32)), (.ref bb), (.ref bb)])) (fun t k => XS.sipush X29.here hx rfl (hb hby at_93) k) ?_
  obtain ⟨cl30, Ar30, Sz30, Hf30⟩ := id Bf29
  obtain ⟨T31, h31, X31, e31, W31, st31⟩ := stI X29 hx hZ e29 Ar30 (j := (14 : Int32)) (own_by_in Sz30 (by decide) (by decide)) (g := (mkF m 96 #[.val (.int p0), .val (.int p1), .val (.int p2), .val (.int p3), .unset, .unset, .unset, .unset] [(.int (895 : Int32)), (.int (14 : Int32)), (.ref bb), (.ref bb)])) rfl rfl (hb hby at_96)
  have Z31 : n0 ≤ h31.size := Nat.le_trans Z29 (Keep.of_wr W31).1
  have K31 : Keep h0 h31 [] := K29.wr W31 (Or.inr sz_bb)
  have N31 := Fr.snoc X31 N29 g_bb
  have B31 : own_In Z h31 bb 32 (own_upd ff29 (14 : Int32) (895 : Int32)) := Bf29.set (by decide) W31
  refine Go.to (g' := (mkF m 97 #[.val (.int p0), .val (.int p1), .val (.int p2), .val (.int p3), .unset, .unset, .unset, .unset] [(.ref bb)])) st31 ?_
  obtain ⟨ff31, Bf31⟩ : ∃ f, own_In Z h31 bb 32 f := ⟨_, B31⟩
  refine Go.to (g' := (mkF m 98 #[.val (.int p0), .val (.int p1), .val (.int p2), .val (.int p3), .unset, .unset, .unset, .unset] [(.ref bb), (.ref bb)])) (fun t k => XS.dup X31.here hx rfl (hb hby at_97) rfl rfl k) ?_
  refine Go.to (g' := (mkF m 100 #[.val (.int p0), .val (.int p1), .val (.int p2), .val (.int p3), .unset, .unset, .unset, .unset] [(.int (15 : Int32)), (.ref bb), (.ref bb)])) (fun t k => XS.bipush X31.here hx rfl (hb hby at_98) k) ?_
  refine Go.to (g' := (mkF m 103 #[.val (.int p0), .val (.int p1), .val (.int p2), .val (.int p3), .unset, .unset, .unset, .unset] [(.int (8191 : Int32)), (.int (15 : Int32)), (.ref bb), (.ref bb)])) (fun t k => XS.sipush X31.here hx rfl (hb hby at_100) k) ?_
  obtain ⟨cl32, Ar32, Sz32, Hf32⟩ := id Bf31
  obtain ⟨T33, h33, X33, e33, W33, st33⟩ := stI X31 hx hZ e31 Ar32 (j := (15 : Int32)) (own_by_in Sz32 (by decide) (by decide)) (g := (mkF m 103 #[.val (.int p0), .val (.int p1), .val (.int p2), .val (.int p3), .unset, .unset, .unset, .unset] [(.int (8191 : Int32)), (.int (15 : Int32)), (.ref bb), (.ref bb)])) rfl rfl (hb hby at_103)
  have Z33 : n0 ≤ h33.size := Nat.le_trans Z31 (Keep.of_wr W33).1
  have K33 : Keep h0 h33 [] := K31.wr W33 (Or.inr sz_bb)
  have N33 := Fr.snoc X33 N31 g_bb
  have B33 : own_In Z h33 bb 32 (own_upd ff31 (15 : Int32) (8191 : Int32)) := Bf31.set (by decide) W33
  refine Go.to (g' := (mkF m 104 #[.val (.int p0), .val (.int p1), .val (.int p2), .val (.int p3), .unset, .unset, .unset, .unset] [(.ref bb)])) st33 ?_
  obtain ⟨ff33, Bf33⟩ : ∃ f, own_In Z h33 bb 32 f := ⟨_, B33⟩
  refine Go.to (g' := (mkF m 105 #[.val (.int p0), .val (.int p1), .val (.int p2), .val (.int p3), .unset, .unset, .unset, .unset] [(.ref bb), (.ref bb)])) (fun t k => XS.dup X33.here hx rfl (hb hby at_104) rfl rfl k) ?_
  refine Go.to (g' := (mkF m 107 #[.val (.int p0), .val (.int p1), .val (.int p2), .val (.int p3), .unset, .unset, .unset, .unset] [(.int (16 : Int32)), (.ref bb), (.ref bb)])) (fun t k => XS.bipush X33.here hx rfl (hb hby at_105) k) ?_
  refine Go.to (g' := (mkF m 110 #[.val (.int p0), .val (.int p1), .val (.int p2), .val (.int p3), .unset, .unset, .unset, .unset] [(.int (8204 : Int32)), (.int (16 : Int32)), (.ref bb), (.ref bb)])) (fun t k => XS.sipush X33.here hx rfl (hb hby at_107) k) ?_
  obtain ⟨cl34, Ar34, Sz34, Hf34⟩ := id Bf33
  obtain ⟨T35, h35, X35, e35, W35, st35⟩ := stI X33 hx hZ e33 Ar34 (j := (16 : Int32)) (own_by_in Sz34 (by decide) (by decide)) (g := (mkF m 110 #[.val (.int p0), .val (.int p1), .val (.int p2), .val (.int p3), .unset, .unset, .unset, .unset] [(.int (8204 : Int32)), (.int (16 : Int32)), (.ref bb), (.ref bb)])) rfl rfl (hb hby at_110)
  have Z35 : n0 ≤ h35.size := Nat.le_trans Z33 (Keep.of_wr W35).1
  have K35 : Keep h0 h35 [] := K33.wr W35 (Or.inr sz_bb)
  have N35 := Fr.snoc X35 N33 g_bb
  have B35 : own_In Z h35 bb 32 (own_upd ff33 (16 : Int32) (8204 : Int32)) := Bf33.set (by decide) W35
  refine Go.to (g' := (mkF m 111 #[.val (.int p0), .val (.int p1), .val (.int p2), .val (.int p3), .unset, .unset, .unset, .unset] [(.ref bb)])) st35 ?_
  obtain ⟨ff35, Bf35⟩ : ∃ f, own_In Z h35 bb 32 f := ⟨_, B35⟩
  refine Go.to (g' := (mkF m 112 #[.val (.int p0), .val (.int p1), .val (.int p2), .val (.int p3), .unset, .unset, .unset, .unset] [(.ref bb), (.ref bb)])) (fun t k => XS.dup X35.here hx rfl (hb hby at_111) rfl rfl k) ?_
  refine Go.to (g' := (mkF m 114 #[.val (.int p0), .val (.int p1), .val (.int p2), .val (.int p3), .unset, .unset, .unset, .unset] [(.int (17 : Int32)), (.ref bb), (.ref bb)])) (fun t k => XS.bipush X35.here hx rfl (hb hby at_112) k) ?_
  refine Go.to (g' := (mkF m 117 #[.val (.int p0), .val (.int p1), .val (.int p2), .val (.int p3), .unset, .unset, .unset, .unset] [(.int (8205 : Int32)), (.int (17 : Int32)), (.ref bb), (.ref bb)])) (fun t k => XS.sipush X35.here hx rfl (hb hby at_114) k) ?_
  obtain ⟨cl36, Ar36, Sz36, Hf36⟩ := id Bf35
  obtain ⟨T37, h37, X37, e37, W37, st37⟩ := stI X35 hx hZ e35 Ar36 (j := (17 : Int32)) (own_by_in Sz36 (by decide) (by decide)) (g := (mkF m 117 #[.val (.int p0), .val (.int p1), .val (.int p2), .val (.int p3), .unset, .unset, .unset, .unset] [(.int (8205 : Int32)), (.int (17 : Int32)), (.ref bb), (.ref bb)])) rfl rfl (hb hby at_117)
  have Z37 : n0 ≤ h37.size := Nat.le_trans Z35 (Keep.of_wr W37).1
  have K37 : Keep h0 h37 [] := K35.wr W37 (Or.inr sz_bb)
  have N37 := Fr.snoc X37 N35 g_bb
  have B37 : own_In Z h37 bb 32 (own_upd ff35 (17 : Int32) (8205 : Int32)) := Bf35.set (by decide) W37
  refine Go.to (g' := (mkF m 118 #[.val (.int p0), .val (.int p1), .val (.int p2), .val (.int p3), .unset, .unset, .unset, .unset] [(.ref bb)])) st37 ?_
  obtain ⟨ff37, Bf37⟩ : ∃ f, own_In Z h37 bb 32 f := ⟨_, B37⟩
  refine Go.to (g' := (mkF m 119 #[.val (.int p0), .val (.int p1), .val (.int p2), .val (.int p3), .unset, .unset, .unset, .unset] [(.ref bb), (.ref bb)])) (fun t k => XS.dup X37.here hx rfl (hb hby at_118) rfl rfl k) ?_
  refine Go.to (g' := (mkF m 121 #[.val (.int p0), .val (.int p1), .val (.int p2), .val (.int p3), .unset, .unset, .unset, .unset] [(.int (18 : Int32)), (.ref bb), (.ref bb)])) (fun t k => XS.bipush X37.here hx rfl (hb hby at_119) k) ?_
  refine Go.to (g' := (mkF m 124 #[.val (.int p0), .val (.int p1), .val (.int p2), .val (.int p3), .unset, .unset, .unset, .unset] [(.int (8304 : Int32)), (.int (18 : Int32)), (.ref bb), (.ref bb)])) (fun t k => XS.sipush X37.here hx rfl (hb hby at_121) k) ?_
  obtain ⟨cl38, Ar38, Sz38, Hf38⟩ := id Bf37
  obtain ⟨T39, h39, X39, e39, W39, st39⟩ := stI X37 hx hZ e37 Ar38 (j := (18 : Int32)) (own_by_in Sz38 (by decide) (by decide)) (g := (mkF m 124 #[.val (.int p0), .val (.int p1), .val (.int p2), .val (.int p3), .unset, .unset, .unset, .unset] [(.int (8304 : Int32)), (.int (18 : Int32)), (.ref bb), (.ref bb)])) rfl rfl (hb hby at_124)
  have Z39 : n0 ≤ h39.size := Nat.le_trans Z37 (Keep.of_wr W39).1
  have K39 : Keep h0 h39 [] := K37.wr W39 (Or.inr sz_bb)
  have N39 := Fr.snoc X39 N37 g_bb
  have B39 : own_In Z h39 bb 32 (own_upd ff37 (18 : Int32) (8304 : Int32)) := Bf37.set (by decide) W39
  refine Go.to (g' := (mkF m 125 #[.val (.int p0), .val (.int p1), .val (.int p2), .val (.int p3), .unset, .unset, .unset, .unset] [(.ref bb)])) st39 ?_
  obtain ⟨ff39, Bf39⟩ : ∃ f, own_In Z h39 bb 32 f := ⟨_, B39⟩
  refine Go.to (g' := (mkF m 126 #[.val (.int p0), .val (.int p1), .val (.int p2), .val (.int p3), .unset, .unset, .unset, .unset] [(.ref bb), (.ref bb)])) (fun t k => XS.dup X39.here hx rfl (hb hby at_125) rfl rfl k) ?_
  refine Go.to (g' := (mkF m 128 #[.val (.int p0), .val (.int p1), .val (.int p2), .val (.int p3), .unset, .unset, .unset, .unset] [(.int (19 : Int32)), (.ref bb), (.ref bb)])) (fun t k => XS.bipush X39.here hx rfl (hb hby at_126) k) ?_
  refine Go.to (g' := (mkF m 131 #[.val (.int p0), .val (.int p1), .val (.int p2), .val (.int p3), .unset, .unset, .unset, .unset] [(.int (8591 : Int32)), (.int (19 : Int32)), (.ref bb), (.ref bb)])) (fun t k => XS.sipush X39.here hx rfl (hb hby at_128) k) ?_
  obtain ⟨cl40, Ar40, Sz40, Hf40⟩ := id Bf39
  obtain ⟨T41, h41, X41, e41, W41, st41⟩ := stI X39 hx hZ e39 Ar40 (j := (19 : Int32)) (own_by_in Sz40 (by decide) (by decide)) (g := (mkF m 131 #[.val (.int p0), .val (.int p1), .val (.int p2), .val (.int p3), .unset, .unset, .unset, .unset] [(.int (8591 : Int32)), (.int (19 : Int32)), (.ref bb), (.ref bb)])) rfl rfl (hb hby at_131)
  have Z41 : n0 ≤ h41.size := Nat.le_trans Z39 (Keep.of_wr W41).1
  have K41 : Keep h0 h41 [] := K39.wr W41 (Or.inr sz_bb)
  have N41 := Fr.snoc X41 N39 g_bb
  have B41 : own_In Z h41 bb 32 (own_upd ff39 (19 : Int32) (8591 : Int32)) := Bf39.set (by decide) W41
  refine Go.to (g' := (mkF m 132 #[.val (.int p0), .val (.int p1), .val (.int p2), .val (.int p3), .unset, .unset, .unset, .unset] [(.ref bb)])) st41 ?_
  obtain ⟨ff41, Bf41⟩ : ∃ f, own_In Z h41 bb 32 f := ⟨_, B41⟩
  refine Go.to (g' := (mkF m 133 #[.val (.int p0), .val (.int p1), .val (.int p2), .val (.int p3), .unset, .unset, .unset, .unset] [(.ref bb), (.ref bb)])) (fun t k => XS.dup X41.here hx rfl (hb hby at_132) rfl rfl k) ?_
  refine Go.to (g' := (mkF m 135 #[.val (.int p0), .val (.int p1), .val (.int p2), .val (.int p3), .unset, .unset, .unset, .unset] [(.int (20 : Int32)), (.ref bb), (.ref bb)])) (fun t k => XS.bipush X41.here hx rfl (hb hby at_133) k) ?_
  refine Go.to (g' := (mkF m 138 #[.val (.int p0), .val (.int p1), .val (.int p2), .val (.int p3), .unset, .unset, .unset, .unset] [(.int (11264 : Int32)), (.int (20 : Int32)), (.ref bb), (.ref bb)])) (fun t k => XS.sipush X41.here hx rfl (hb hby at_135) k) ?_
  obtain ⟨cl42, Ar42, Sz42, Hf42⟩ := id Bf41
  obtain ⟨T43, h43, X43, e43, W43, st43⟩ := stI X41 hx hZ e41 Ar42 (j := (20 : Int32)) (own_by_in Sz42 (by decide) (by decide)) (g := (mkF m 138 #[.val (.int p0), .val (.int p1), .val (.int p2), .val (.int p3), .unset, .unset, .unset, .unset] [(.int (11264 : Int32)), (.int (20 : Int32)), (.ref bb), (.ref bb)])) rfl rfl (hb hby at_138)
  have Z43 : n0 ≤ h43.size := Nat.le_trans Z41 (Keep.of_wr W43).1
  have K43 : Keep h0 h43 [] := K41.wr W43 (Or.inr sz_bb)
  have N43 := Fr.snoc X43 N41 g_bb
  have B43 : own_In Z h43 bb 32 (own_upd ff41 (20 : Int32) (11264 : Int32)) := Bf41.set (by decide) W43
  refine Go.to (g' := (mkF m 139 #[.val (.int p0), .val (.int p1), .val (.int p2), .val (.int p3), .unset, .unset, .unset, .unset] [(.ref bb)])) st43 ?_
  obtain ⟨ff43, Bf43⟩ : ∃ f, own_In Z h43 bb 32 f := ⟨_, B43⟩
  refine Go.to (g' := (mkF m 140 #[.val (.int p0), .val (.int p1), .val (.int p2), .val (.int p3), .unset, .unset, .unset, .unset] [(.ref bb), (.ref bb)])) (fun t k => XS.dup X43.here hx rfl (hb hby at_139) rfl rfl k) ?_
  refine Go.to (g' := (mkF m 142 #[.val (.int p0), .val (.int p1), .val (.int p2), .val (.int p3), .unset, .unset, .unset, .unset] [(.int (21 : Int32)), (.ref bb), (.ref bb)])) (fun t k => XS.bipush X43.here hx rfl (hb hby at_140) k) ?_
  refine Go.to (g' := (mkF m 145 #[.val (.int p0), .val (.int p1), .val (.int p2), .val (.int p3), .unset, .unset, .unset, .unset] [(.int (12271 : Int32)), (.int (21 : Int32)), (.ref bb), (.ref bb)])) (fun t k => XS.sipush X43.here hx rfl (hb hby at_142) k) ?_
  obtain ⟨cl44, Ar44, Sz44, Hf44⟩ := id Bf43
  obtain ⟨T45, h45, X45, e45, W45, st45⟩ := stI X43 hx hZ e43 Ar44 (j := (21 : Int32)) (own_by_in Sz44 (by decide) (by decide)) (g := (mkF m 145 #[.val (.int p0), .val (.int p1), .val (.int p2), .val (.int p3), .unset, .unset, .unset, .unset] [(.int (12271 : Int32)), (.int (21 : Int32)), (.ref bb), (.ref bb)])) rfl rfl (hb hby at_145)
  have Z45 : n0 ≤ h45.size := Nat.le_trans Z43 (Keep.of_wr W45).1
  have K45 : Keep h0 h45 [] := K43.wr W45 (Or.inr sz_bb)
  have N45 := Fr.snoc X45 N43 g_bb
  have B45 : own_In Z h45 bb 32 (own_upd ff43 (21 : Int32) (12271 : Int32)) := Bf43.set (by decide) W45
  refine Go.to (g' := (mkF m 146 #[.val (.int p0), .val (.int p1), .val (.int p2), .val (.int p3), .unset, .unset, .unset, .unset] [(.ref bb)])) st45 ?_
  obtain ⟨ff45, Bf45⟩ : ∃ f, own_In Z h45 bb 32 f := ⟨_, B45⟩
  refine Go.to (g' := (mkF m 147 #[.val (.int p0), .val (.int p1), .val (.int p2), .val (.int p3), .unset, .unset, .unset, .unset] [(.ref bb), (.ref bb)])) (fun t k => XS.dup X45.here hx rfl (hb hby at_146) rfl rfl k) ?_
  refine Go.to (g' := (mkF m 149 #[.val (.int p0), .val (.int p1), .val (.int p2), .val (.int p3), .unset, .unset, .unset, .unset] [(.int (22 : Int32)), (.ref bb), (.ref bb)])) (fun t k => XS.bipush X45.here hx rfl (hb hby at_147) k) ?_
  refine Go.to (g' := (mkF m 152 #[.val (.int p0), .val (.int p1), .val (.int p2), .val (.int p3), .unset, .unset, .unset, .unset] [(.int (12289 : Int32)), (.int (22 : Int32)), (.ref bb), (.ref bb)])) (fun t k => XS.sipush X45.here hx rfl (hb hby at_149) k) ?_
  obtain ⟨cl46, Ar46, Sz46, Hf46⟩ := id Bf45
  obtain ⟨T47, h47, X47, e47, W47, st47⟩ := stI X45 hx hZ e45 Ar46 (j := (22 : Int32)) (own_by_in Sz46 (by decide) (by decide)) (g := (mkF m 152 #[.val (.int p0), .val (.int p1), .val (.int p2), .val (.int p3), .unset, .unset, .unset, .unset] [(.int (12289 : Int32)), (.int (22 : Int32)), (.ref bb), (.ref bb)])) rfl rfl (hb hby at_152)
  have Z47 : n0 ≤ h47.size := Nat.le_trans Z45 (Keep.of_wr W47).1
  have K47 : Keep h0 h47 [] := K45.wr W47 (Or.inr sz_bb)
  have N47 := Fr.snoc X47 N45 g_bb
  have B47 : own_In Z h47 bb 32 (own_upd ff45 (22 : Int32) (12289 : Int32)) := Bf45.set (by decide) W47
  refine Go.to (g' := (mkF m 153 #[.val (.int p0), .val (.int p1), .val (.int p2), .val (.int p3), .unset, .unset, .unset, .unset] [(.ref bb)])) st47 ?_
  obtain ⟨ff47, Bf47⟩ : ∃ f, own_In Z h47 bb 32 f := ⟨_, B47⟩
  refine Go.to (g' := (mkF m 154 #[.val (.int p0), .val (.int p1), .val (.int p2), .val (.int p3), .unset, .unset, .unset, .unset] [(.ref bb), (.ref bb)])) (fun t k => XS.dup X47.here hx rfl (hb hby at_153) rfl rfl k) ?_
  refine Go.to (g' := (mkF m 156 #[.val (.int p0), .val (.int p1), .val (.int p2), .val (.int p3), .unset, .unset, .unset, .unset] [(.int (23 : Int32)), (.ref bb), (.ref bb)])) (fun t k => XS.bipush X47.here hx rfl (hb hby at_154) k) ?_
  refine Go.to (g' := (mkF m 158 #[.val (.int p0), .val (.int p1), .val (.int p2), .val (.int p3), .unset, .unset, .unset, .unset] [(.int (55295 : Int32)), (.int (23 : Int32)), (.ref bb), (.ref bb)])) (fun t k => X47.ldcInt hx hown (mvT hZ (hw _ (List.mem_of_getElem? (i := 1) rfl))) (g := (mkF m 156 #[.val (.int p0), .val (.int p1), .val (.int p2), .val (.int p3), .unset, .unset, .unset, .unset] [(.int (23 : Int32)), (.ref bb), (.ref bb)])) rfl (hb hby at_156) _ k) ?_
  obtain ⟨cl48, Ar48, Sz48, Hf48⟩ := id Bf47
  obtain ⟨T49, h49, X49, e49, W49, st49⟩ := stI X47 hx hZ e47 Ar48 (j := (23 : Int32)) (own_by_in Sz48 (by decide) (by decide)) (g := (mkF m 158 #[.val (.int p0), .val (.int p1), .val (.int p2), .val (.int p3), .unset, .unset, .unset, .unset] [(.int (55295 : Int32)), (.int (23 : Int32)), (.ref bb), (.ref bb)])) rfl rfl (hb hby at_158)
  have Z49 : n0 ≤ h49.size := Nat.le_trans Z47 (Keep.of_wr W49).1
  have K49 : Keep h0 h49 [] := K47.wr W49 (Or.inr sz_bb)
  have N49 := Fr.snoc X49 N47 g_bb
  have B49 : own_In Z h49 bb 32 (own_upd ff47 (23 : Int32) (55295 : Int32)) := Bf47.set (by decide) W49
  refine Go.to (g' := (mkF m 159 #[.val (.int p0), .val (.int p1), .val (.int p2), .val (.int p3), .unset, .unset, .unset, .unset] [(.ref bb)])) st49 ?_
  obtain ⟨ff49, Bf49⟩ : ∃ f, own_In Z h49 bb 32 f := ⟨_, B49⟩
  refine Go.to (g' := (mkF m 160 #[.val (.int p0), .val (.int p1), .val (.int p2), .val (.int p3), .unset, .unset, .unset, .unset] [(.ref bb), (.ref bb)])) (fun t k => XS.dup X49.here hx rfl (hb hby at_159) rfl rfl k) ?_
  refine Go.to (g' := (mkF m 162 #[.val (.int p0), .val (.int p1), .val (.int p2), .val (.int p3), .unset, .unset, .unset, .unset] [(.int (24 : Int32)), (.ref bb), (.ref bb)])) (fun t k => XS.bipush X49.here hx rfl (hb hby at_160) k) ?_
  refine Go.to (g' := (mkF m 164 #[.val (.int p0), .val (.int p1), .val (.int p2), .val (.int p3), .unset, .unset, .unset, .unset] [(.int (63744 : Int32)), (.int (24 : Int32)), (.ref bb), (.ref bb)])) (fun t k => X49.ldcInt hx hown (mvT hZ (hw _ (List.mem_of_getElem? (i := 2) rfl))) (g := (mkF m 162 #[.val (.int p0), .val (.int p1), .val (.int p2), .val (.int p3), .unset, .unset, .unset, .unset] [(.int (24 : Int32)), (.ref bb), (.ref bb)])) rfl (hb hby at_162) _ k) ?_
  obtain ⟨cl50, Ar50, Sz50, Hf50⟩ := id Bf49
  obtain ⟨T51, h51, X51, e51, W51, st51⟩ := stI X49 hx hZ e49 Ar50 (j := (24 : Int32)) (own_by_in Sz50 (by decide) (by decide)) (g := (mkF m 164 #[.val (.int p0), .val (.int p1), .val (.int p2), .val (.int p3), .unset, .unset, .unset, .unset] [(.int (63744 : Int32)), (.int (24 : Int32)), (.ref bb), (.ref bb)])) rfl rfl (hb hby at_164)
  have Z51 : n0 ≤ h51.size := Nat.le_trans Z49 (Keep.of_wr W51).1
  have K51 : Keep h0 h51 [] := K49.wr W51 (Or.inr sz_bb)
  have N51 := Fr.snoc X51 N49 g_bb
  have B51 : own_In Z h51 bb 32 (own_upd ff49 (24 : Int32) (63744 : Int32)) := Bf49.set (by decide) W51
  refine Go.to (g' := (mkF m 165 #[.val (.int p0), .val (.int p1), .val (.int p2), .val (.int p3), .unset, .unset, .unset, .unset] [(.ref bb)])) st51 ?_
  obtain ⟨ff51, Bf51⟩ : ∃ f, own_In Z h51 bb 32 f := ⟨_, B51⟩
  refine Go.to (g' := (mkF m 166 #[.val (.int p0), .val (.int p1), .val (.int p2), .val (.int p3), .unset, .unset, .unset, .unset] [(.ref bb), (.ref bb)])) (fun t k => XS.dup X51.here hx rfl (hb hby at_165) rfl rfl k) ?_
  refine Go.to (g' := (mkF m 168 #[.val (.int p0), .val (.int p1), .val (.int p2), .val (.int p3), .unset, .unset, .unset, .unset] [(.int (25 : Int32)), (.ref bb), (.ref bb)])) (fun t k => XS.bipush X51.here hx rfl (hb hby at_166) k) ?_
  refine Go.to (g' := (mkF m 170 #[.val (.int p0), .val (.int p1), .val (.int p2), .val (.int p3), .unset, .unset, .unset, .unset] [(.int (64975 : Int32)), (.int (25 : Int32)), (.ref bb), (.ref bb)])) (fun t k => X51.ldcInt hx hown (mvT hZ (hw _ (List.mem_of_getElem? (i := 3) rfl))) (g := (mkF m 168 #[.val (.int p0), .val (.int p1), .val (.int p2), .val (.int p3), .unset, .unset, .unset, .unset] [(.int (25 : Int32)), (.ref bb), (.ref bb)])) rfl (hb hby at_168) _ k) ?_
  obtain ⟨cl52, Ar52, Sz52, Hf52⟩ := id Bf51
  obtain ⟨T53, h53, X53, e53, W53, st53⟩ := stI X51 hx hZ e51 Ar52 (j := (25 : Int32)) (own_by_in Sz52 (by decide) (by decide)) (g := (mkF m 170 #[.val (.int p0), .val (.int p1), .val (.int p2), .val (.int p3), .unset, .unset, .unset, .unset] [(.int (64975 : Int32)), (.int (25 : Int32)), (.ref bb), (.ref bb)])) rfl rfl (hb hby at_170)
  have Z53 : n0 ≤ h53.size := Nat.le_trans Z51 (Keep.of_wr W53).1
  have K53 : Keep h0 h53 [] := K51.wr W53 (Or.inr sz_bb)
  have N53 := Fr.snoc X53 N51 g_bb
  have B53 : own_In Z h53 bb 32 (own_upd ff51 (25 : Int32) (64975 : Int32)) := Bf51.set (by decide) W53
  refine Go.to (g' := (mkF m 171 #[.val (.int p0), .val (.int p1), .val (.int p2), .val (.int p3), .unset, .unset, .unset, .unset] [(.ref bb)])) st53 ?_
  obtain ⟨ff53, Bf53⟩ : ∃ f, own_In Z h53 bb 32 f := ⟨_, B53⟩
  refine Go.to (g' := (mkF m 172 #[.val (.int p0), .val (.int p1), .val (.int p2), .val (.int p3), .unset, .unset, .unset, .unset] [(.ref bb), (.ref bb)])) (fun t k => XS.dup X53.here hx rfl (hb hby at_171) rfl rfl k) ?_
  refine Go.to (g' := (mkF m 174 #[.val (.int p0), .val (.int p1), .val (.int p2), .val (.int p3), .unset, .unset, .unset, .unset] [(.int (26 : Int32)), (.ref bb), (.ref bb)])) (fun t k => XS.bipush X53.here hx rfl (hb hby at_172) k) ?_
  refine Go.to (g' := (mkF m 176 #[.val (.int p0), .val (.int p1), .val (.int p2), .val (.int p3), .unset, .unset, .unset, .unset] [(.int (65008 : Int32)), (.int (26 : Int32)), (.ref bb), (.ref bb)])) (fun t k => X53.ldcInt hx hown (mvT hZ (hw _ (List.mem_of_getElem? (i := 4) rfl))) (g := (mkF m 174 #[.val (.int p0), .val (.int p1), .val (.int p2), .val (.int p3), .unset, .unset, .unset, .unset] [(.int (26 : Int32)), (.ref bb), (.ref bb)])) rfl (hb hby at_174) _ k) ?_
  obtain ⟨cl54, Ar54, Sz54, Hf54⟩ := id Bf53
  obtain ⟨T55, h55, X55, e55, W55, st55⟩ := stI X53 hx hZ e53 Ar54 (j := (26 : Int32)) (own_by_in Sz54 (by decide) (by decide)) (g := (mkF m 176 #[.val (.int p0), .val (.int p1), .val (.int p2), .val (.int p3), .unset, .unset, .unset, .unset] [(.int (65008 : Int32)), (.int (26 : Int32)), (.ref bb), (.ref bb)])) rfl rfl (hb hby at_176)
  have Z55 : n0 ≤ h55.size := Nat.le_trans Z53 (Keep.of_wr W55).1
  have K55 : Keep h0 h55 [] := K53.wr W55 (Or.inr sz_bb)
  have N55 := Fr.snoc X55 N53 g_bb
  have B55 : own_In Z h55 bb 32 (own_upd ff53 (26 : Int32) (65008 : Int32)) := Bf53.set (by decide) W55
  refine Go.to (g' := (mkF m 177 #[.val (.int p0), .val (.int p1), .val (.int p2), .val (.int p3), .unset, .unset, .unset, .unset] [(.ref bb)])) st55 ?_
  obtain ⟨ff55, Bf55⟩ : ∃ f, own_In Z h55 bb 32 f := ⟨_, B55⟩
  refine Go.to (g' := (mkF m 178 #[.val (.int p0), .val (.int p1), .val (.int p2), .val (.int p3), .unset, .unset, .unset, .unset] [(.ref bb), (.ref bb)])) (fun t k => XS.dup X55.here hx rfl (hb hby at_177) rfl rfl k) ?_
  refine Go.to (g' := (mkF m 180 #[.val (.int p0), .val (.int p1), .val (.int p2), .val (.int p3), .unset, .unset, .unset, .unset] [(.int (27 : Int32)), (.ref bb), (.ref bb)])) (fun t k => XS.bipush X55.here hx rfl (hb hby at_178) k) ?_
  refine Go.to (g' := (mkF m 182 #[.val (.int p0), .val (.int p1), .val (.int p2), .val (.int p3), .unset, .unset, .unset, .unset] [(.int (65533 : Int32)), (.int (27 : Int32)), (.ref bb), (.ref bb)])) (fun t k => X55.ldcInt hx hown (mvT hZ (hw _ (List.mem_of_getElem? (i := 5) rfl))) (g := (mkF m 180 #[.val (.int p0), .val (.int p1), .val (.int p2), .val (.int p3), .unset, .unset, .unset, .unset] [(.int (27 : Int32)), (.ref bb), (.ref bb)])) rfl (hb hby at_180) _ k) ?_
  obtain ⟨cl56, Ar56, Sz56, Hf56⟩ := id Bf55
  obtain ⟨T57, h57, X57, e57, W57, st57⟩ := stI X55 hx hZ e55 Ar56 (j := (27 : Int32)) (own_by_in Sz56 (by decide) (by decide)) (g := (mkF m 182 #[.val (.int p0), .val (.int p1), .val (.int p2), .val (.int p3), .unset, .unset, .unset, .unset] [(.int (65533 : Int32)), (.int (27 : Int32)), (.ref bb), (.ref bb)])) rfl rfl (hb hby at_182)
  have Z57 : n0 ≤ h57.size := Nat.le_trans Z55 (Keep.of_wr W57).1
  have K57 : Keep h0 h57 [] := K55.wr W57 (Or.inr sz_bb)
  have N57 := Fr.snoc X57 N55 g_bb
  have B57 : own_In Z h57 bb 32 (own_upd ff55 (27 : Int32) (65533 : Int32)) := Bf55.set (by decide) W57
  refine Go.to (g' := (mkF m 183 #[.val (.int p0), .val (.int p1), .val (.int p2), .val (.int p3), .unset, .unset, .unset, .unset] [(.ref bb)])) st57 ?_
  obtain ⟨ff57, Bf57⟩ : ∃ f, own_In Z h57 bb 32 f := ⟨_, B57⟩
  refine Go.to (g' := (mkF m 184 #[.val (.int p0), .val (.int p1), .val (.int p2), .val (.int p3), .unset, .unset, .unset, .unset] [(.ref bb), (.ref bb)])) (fun t k => XS.dup X57.here hx rfl (hb hby at_183) rfl rfl k) ?_
  refine Go.to (g' := (mkF m 186 #[.val (.int p0), .val (.int p1), .val (.int p2), .val (.int p3), .unset, .unset, .unset, .unset] [(.int (28 : Int32)), (.ref bb), (.ref bb)])) (fun t k => XS.bipush X57.here hx rfl (hb hby at_184) k) ?_
  refine Go.to (g' := (mkF m 188 #[.val (.int p0), .val (.int p1), .val (.int p2), .val (.int p3), .unset, .unset, .unset, .unset] [(.int (65536 : Int32)), (.int (28 : Int32)), (.ref bb), (.ref bb)])) (fun t k => X57.ldcInt hx hown (mvT hZ (hw _ (List.mem_of_getElem? (i := 6) rfl))) (g := (mkF m 186 #[.val (.int p0), .val (.int p1), .val (.int p2), .val (.int p3), .unset, .unset, .unset, .unset] [(.int (28 : Int32)), (.ref bb), (.ref bb)])) rfl (hb hby at_186) _ k) ?_
  obtain ⟨cl58, Ar58, Sz58, Hf58⟩ := id Bf57
  obtain ⟨T59, h59, X59, e59, W59, st59⟩ := stI X57 hx hZ e57 Ar58 (j := (28 : Int32)) (own_by_in Sz58 (by decide) (by decide)) (g := (mkF m 188 #[.val (.int p0), .val (.int p1), .val (.int p2), .val (.int p3), .unset, .unset, .unset, .unset] [(.int (65536 : Int32)), (.int (28 : Int32)), (.ref bb), (.ref bb)])) rfl rfl (hb hby at_188)
  have Z59 : n0 ≤ h59.size := Nat.le_trans Z57 (Keep.of_wr W59).1
  have K59 : Keep h0 h59 [] := K57.wr W59 (Or.inr sz_bb)
  have N59 := Fr.snoc X59 N57 g_bb
  have B59 : own_In Z h59 bb 32 (own_upd ff57 (28 : Int32) (65536 : Int32)) := Bf57.set (by decide) W59
  refine Go.to (g' := (mkF m 189 #[.val (.int p0), .val (.int p1), .val (.int p2), .val (.int p3), .unset, .unset, .unset, .unset] [(.ref bb)])) st59 ?_
  obtain ⟨ff59, Bf59⟩ : ∃ f, own_In Z h59 bb 32 f := ⟨_, B59⟩
  refine Go.to (g' := (mkF m 190 #[.val (.int p0), .val (.int p1), .val (.int p2), .val (.int p3), .unset, .unset, .unset, .unset] [(.ref bb), (.ref bb)])) (fun t k => XS.dup X59.here hx rfl (hb hby at_189) rfl rfl k) ?_
  refine Go.to (g' := (mkF m 192 #[.val (.int p0), .val (.int p1), .val (.int p2), .val (.int p3), .unset, .unset, .unset, .unset] [(.int (29 : Int32)), (.ref bb), (.ref bb)])) (fun t k => XS.bipush X59.here hx rfl (hb hby at_190) k) ?_
  refine Go.to (g' := (mkF m 194 #[.val (.int p0), .val (.int p1), .val (.int p2), .val (.int p3), .unset, .unset, .unset, .unset] [(.int (983039 : Int32)), (.int (29 : Int32)), (.ref bb), (.ref bb)])) (fun t k => X59.ldcInt hx hown (mvT hZ (hw _ (List.mem_of_getElem? (i := 7) rfl))) (g := (mkF m 192 #[.val (.int p0), .val (.int p1), .val (.int p2), .val (.int p3), .unset, .unset, .unset, .unset] [(.int (29 : Int32)), (.ref bb), (.ref bb)])) rfl (hb hby at_192) _ k) ?_
  obtain ⟨cl60, Ar60, Sz60, Hf60⟩ := id Bf59
  obtain ⟨T61, h61, X61, e61, W61, st61⟩ := stI X59 hx hZ e59 Ar60 (j := (29 : Int32)) (own_by_in Sz60 (by decide) (by decide)) (g := (mkF m 194 #[.val (.int p0), .val (.int p1), .val (.int p2), .val (.int p3), .unset, .unset, .unset, .unset] [(.int (983039 : Int32)), (.int (29 : Int32)), (.ref bb), (.ref bb)])) rfl rfl (hb hby at_194)
  have Z61 : n0 ≤ h61.size := Nat.le_trans Z59 (Keep.of_wr W61).1
  have K61 : Keep h0 h61 [] := K59.wr W61 (Or.inr sz_bb)
  have N61 := Fr.snoc X61 N59 g_bb
  have B61 : own_In Z h61 bb 32 (own_upd ff59 (29 : Int32) (983039 : Int32)) := Bf59.set (by decide) W61
  refine Go.to (g' := (mkF m 195 #[.val (.int p0), .val (.int p1), .val (.int p2), .val (.int p3), .unset, .unset, .unset, .unset] [(.ref bb)])) st61 ?_
  obtain ⟨ff61, Bf61⟩ : ∃ f, own_In Z h61 bb 32 f := ⟨_, B61⟩
  refine Go.to (g' := (mkF m 196 #[.val (.int p0), .val (.int p1), .val (.int p2), .val (.int p3), .unset, .unset, .unset, .unset] [(.ref bb), (.ref bb)])) (fun t k => XS.dup X61.here hx rfl (hb hby at_195) rfl rfl k) ?_
  refine Go.to (g' := (mkF m 198 #[.val (.int p0), .val (.int p1), .val (.int p2), .val (.int p3), .unset, .unset, .unset, .unset] [(.int (30 : Int32)), (.ref bb), (.ref bb)])) (fun t k => XS.bipush X61.here hx rfl (hb hby at_196) k) ?_
  refine Go.to (g' := (mkF m 199 #[.val (.int p0), .val (.int p1), .val (.int p2), .val (.int p3), .unset, .unset, .unset, .unset] [(.int (0 : Int32)), (.int (30 : Int32)), (.ref bb), (.ref bb)])) (fun t k => XS.iconst X61.here hx rfl (hb hby at_198) k) ?_
  obtain ⟨cl62, Ar62, Sz62, Hf62⟩ := id Bf61
  obtain ⟨T63, h63, X63, e63, W63, st63⟩ := stI X61 hx hZ e61 Ar62 (j := (30 : Int32)) (own_by_in Sz62 (by decide) (by decide)) (g := (mkF m 199 #[.val (.int p0), .val (.int p1), .val (.int p2), .val (.int p3), .unset, .unset, .unset, .unset] [(.int (0 : Int32)), (.int (30 : Int32)), (.ref bb), (.ref bb)])) rfl rfl (hb hby at_199)
  have Z63 : n0 ≤ h63.size := Nat.le_trans Z61 (Keep.of_wr W63).1
  have K63 : Keep h0 h63 [] := K61.wr W63 (Or.inr sz_bb)
  have N63 := Fr.snoc X63 N61 g_bb
  have B63 : own_In Z h63 bb 32 (own_upd ff61 (30 : Int32) (0 : Int32)) := Bf61.set (by decide) W63
  refine Go.to (g' := (mkF m 200 #[.val (.int p0), .val (.int p1), .val (.int p2), .val (.int p3), .unset, .unset, .unset, .unset] [(.ref bb)])) st63 ?_
  obtain ⟨ff63, Bf63⟩ : ∃ f, own_In Z h63 bb 32 f := ⟨_, B63⟩
  refine Go.to (g' := (mkF m 201 #[.val (.int p0), .val (.int p1), .val (.int p2), .val (.int p3), .unset, .unset, .unset, .unset] [(.ref bb), (.ref bb)])) (fun t k => XS.dup X63.here hx rfl (hb hby at_200) rfl rfl k) ?_
  refine Go.to (g' := (mkF m 203 #[.val (.int p0), .val (.int p1), .val (.int p2), .val (.int p3), .unset, .unset, .unset, .unset] [(.int (31 : Int32)), (.ref bb), (.ref bb)])) (fun t k => XS.bipush X63.here hx rfl (hb hby at_201) k) ?_
  refine Go.to (g' := (mkF m 204 #[.val (.int p0), .val (.int p1), .val (.int p2), .val (.int p3), .unset, .unset, .unset, .unset] [(.int (-1 : Int32)), (.int (31 : Int32)), (.ref bb), (.ref bb)])) (fun t k => XS.iconst X63.here hx rfl (hb hby at_203) k) ?_
  obtain ⟨cl64, Ar64, Sz64, Hf64⟩ := id Bf63
  obtain ⟨T65, h65, X65, e65, W65, st65⟩ := stI X63 hx hZ e63 Ar64 (j := (31 : Int32)) (own_by_in Sz64 (by decide) (by decide)) (g := (mkF m 204 #[.val (.int p0), .val (.int p1), .val (.int p2), .val (.int p3), .unset, .unset, .unset, .unset] [(.int (-1 : Int32)), (.int (31 : Int32)), (.ref bb), (.ref bb)])) rfl rfl (hb hby at_204)
  have Z65 : n0 ≤ h65.size := Nat.le_trans Z63 (Keep.of_wr W65).1
  have K65 : Keep h0 h65 [] := K63.wr W65 (Or.inr sz_bb)
  have N65 := Fr.snoc X65 N63 g_bb
  have B65 : own_In Z h65 bb 32 (own_upd ff63 (31 : Int32) (-1 : Int32)) := Bf63.set (by decide) W65
  refine Go.to (g' := (mkF m 205 #[.val (.int p0), .val (.int p1), .val (.int p2), .val (.int p3), .unset, .unset, .unset, .unset] [(.ref bb)])) st65 ?_
  obtain ⟨ff65, Bf65⟩ : ∃ f, own_In Z h65 bb 32 f := ⟨_, B65⟩
  obtain ⟨LL, XL, NL⟩ : ∃ L, Stand p l e room_1 s m #[(.int p0), (.int p1), (.int p2), (.int p3)] below meth c T65 L 1 32 ∧ Fr n0 L := ⟨_, X65, N65⟩
  refine Go.to (g' := (mkF m 207 #[.val (.int p0), .val (.int p1), .val (.int p2), .val (.int p3), .val (.ref bb), .unset, .unset, .unset] [])) (fun t k => XS.astore XL.here hx rfl (hb hby at_205) rfl rfl (l' := #[.val (.int p0), .val (.int p1), .val (.int p2), .val (.int p3), .val (.ref bb), .unset, .unset, .unset]) rfl k) ?_
  refine Go.to (g' := (mkF m 208 #[.val (.int p0), .val (.int p1), .val (.int p2), .val (.int p3), .val (.ref bb), .unset, .unset, .unset] [(.int p3)])) (fun t k => XS.iloadN XL.here hx rfl (hb hby at_207) rfl k) ?_
  refine Go.to (g' := (mkF m 209 #[.val (.int p0), .val (.int p1), .val (.int p2), .val (.int p3), .val (.ref bb), .unset, .unset, .unset] [(.int (3 : Int32)), (.int p3)])) (fun t k => XS.iconst XL.here hx rfl (hb hby at_208) k) ?_
  refine Go.to (g' := (mkF m 210 #[.val (.int p0), .val (.int p1), .val (.int p2), .val (.int p3), .val (.ref bb), .unset, .unset, .unset] [(.int (p3 &&& (3 : Int32)))])) (fun t k => XS.iand XL.here hx rfl (hb hby at_209) rfl k) ?_
  obtain ⟨md, hv_md⟩ : ∃ z : Int32, z = (p3 &&& (3 : Int32)) := ⟨_, rfl⟩
  rw [← hv_md]
  refine Go.to (g' := (mkF m 212 #[.val (.int p0), .val (.int p1), .val (.int p2), .val (.int p3), .val (.ref bb), .val (.int md), .unset, .unset] [])) (fun t k => XS.istore XL.here hx rfl (hb hby at_210) rfl (l' := #[.val (.int p0), .val (.int p1), .val (.int p2), .val (.int p3), .val (.ref bb), .val (.int md), .unset, .unset]) rfl k) ?_
  refine Go.to (g' := (mkF m 214 #[.val (.int p0), .val (.int p1), .val (.int p2), .val (.int p3), .val (.ref bb), .val (.int md), .unset, .unset] [(.int md)])) (fun t k => XS.iload XL.here hx rfl (hb hby at_212) rfl k) ?_
  by_cases c66 : md = (0 : Int32)
  · refine Go.to (g' := (mkF m 217 #[.val (.int p0), .val (.int p1), .val (.int p2), .val (.int p3), .val (.ref bb), .val (.int md), .unset, .unset] [])) (fun t k => XS.ifNo XL.here hx rfl (hb hby at_214) rfl ((if0 _ _).trans (teq c66).2) k) ?_
    refine Go.to (g' := (mkF m 218 #[.val (.int p0), .val (.int p1), .val (.int p2), .val (.int p3), .val (.ref bb), .val (.int md), .unset, .unset] [(.int p0)])) (fun t k => XS.iloadN XL.here hx rfl (hb hby at_217) rfl k) ?_
    refine Go.to (g' := (mkF m 220 #[.val (.int p0), .val (.int p1), .val (.int p2), .val (.int p3), .val (.ref bb), .val (.int md), .val (.int p0), .unset] [])) (fun t k => XS.istore XL.here hx rfl (hb hby at_218) rfl (l' := #[.val (.int p0), .val (.int p1), .val (.int p2), .val (.int p3), .val (.ref bb), .val (.int md), .val (.int p0), .unset]) rfl k) ?_
    refine Go.to (g' := (mkF m 259 #[.val (.int p0), .val (.int p1), .val (.int p2), .val (.int p3), .val (.ref bb), .val (.int md), .val (.int p0), .unset] [])) (fun t k => XS.goto XL.here hx rfl (pc0 := 220) (pc' := 259) rfl (hb hby at_220) (by decide) (by decide) k) ?_
    obtain ⟨ch, hv_ch⟩ : ∃ z : Int32, z = p0 := ⟨_, rfl⟩
    rw [← hv_ch]
    refine Go.to (g' := (mkF m 261 #[.val (.int ch), .val (.int p1), .val (.int p2), .val (.int p3), .val (.ref bb), .val (.int md), .val (.int ch), .unset] [(.int ch)])) (fun t k => XS.iload XL.here hx rfl (hb hby at_259) rfl k) ?_
    obtain ⟨v67, _, ⟨T67, L67, k67, n67⟩, -, X67, ⟨Lc67, hQ67, l67, y67, z67⟩, st67⟩ := Jvm.LawKit.callS XL hx (y := (⟨"com/example/descant/descant/xml/XmlNames", "isNameStart", "(I)Z"⟩ : MethodName)) hown (mvT hZ (hw _ (List.mem_of_getElem? (i := 9) rfl))) (mvT hZ (hw _ (List.mem_of_getElem? (i := 10) rfl))) (mvT hZ (hw _ (List.mem_of_getElem? (i := 11) rfl))) (mvT hZ (hw _ (List.mem_of_getElem? (i := 12) rfl))) (by decide) (backOf (W := 0) (rm1 l Z aw hw [] ch  h65 n0 Z65 ) hZ (hw _ (List.mem_of_getElem? (i := 12) rfl)) (hw _ (List.mem_of_getElem? (i := 11) rfl)) (by decide) (by decide)) (g := (mkF m 261 #[.val (.int ch), .val (.int p1), .val (.int p2), .val (.int p3), .val (.ref bb), .val (.int md), .val (.int ch), .unset] [(.int ch)])) rfl (by rw [hml]; rfl) (argsL := [(.int ch)]) (rest := []) (lenOf pd_28I29Z rfl) rfl (by show 2 * 0 + _ ≤ _; exact Nat.le_of_eq rfl) (hb hby at_261) (fun _ _ => ⟨rfl, e65, (by decide : 1 + 0 ≤ _), (by decide : 32 + 0 ≤ _)⟩)
    dsimp only [Pt.U, Pt.locs, Pt.cells, Pt.slots] at X67 l67 y67 z67 st67 hQ67
    subst l67 y67 z67
    obtain ⟨rfl, N67q, e67⟩ := hQ67
    have N67 := Fr.app NL N67q
    refine Go.to (g' := (mkF m 264 #[.val (.int ch), .val (.int p1), .val (.int p2), .val (.int p3), .val (.ref bb), .val (.int md), .val (.int ch), .unset] [(.int (own_ns ch))])) st67 ?_
    obtain ⟨nv, hv_nv⟩ : ∃ z : Int32, z = (own_ns ch) := ⟨_, rfl⟩
    rw [← hv_nv]
    refine Go.to (g' := (mkF m 266 #[.val (.int ch), .val (.int p1), .val (.int p2), .val (.int p3), .val (.ref bb), .val (.int md), .val (.int ch), .unset] [(.int ch), (.int nv)])) (fun t k => XS.iload X67.here hx rfl (hb hby at_264) rfl k) ?_
    obtain ⟨v68, _, ⟨T68, L68, k68, n68⟩, -, X68, ⟨Lc68, hQ68, l68, y68, z68⟩, st68⟩ := Jvm.LawKit.callS X67 hx (y := (⟨"com/example/descant/descant/xml/XmlNamesIsNameStartPinLaw", "reference", "(I)Z"⟩ : MethodName)) hown (mvT hZ (hw _ (List.mem_of_getElem? (i := 16) rfl))) (mvT hZ (hw _ (List.mem_of_getElem? (i := 17) rfl))) (mvT hZ (hw _ (List.mem_of_getElem? (i := 18) rfl))) (mvT hZ (hw _ (List.mem_of_getElem? (i := 19) rfl))) (by decide) (backOf (W := 1) (rm2 l Z aw hw [] ch  h65 n0 Z65 ) hZ (hw _ (List.mem_of_getElem? (i := 19) rfl)) (hw _ (List.mem_of_getElem? (i := 18) rfl)) (by decide) (by decide)) (g := (mkF m 266 #[.val (.int ch), .val (.int p1), .val (.int p2), .val (.int p3), .val (.ref bb), .val (.int md), .val (.int ch), .unset] [(.int ch), (.int nv)])) rfl (by rw [hml]; rfl) (argsL := [(.int ch)]) (rest := [(.int nv)]) (lenOf pd_28I29Z rfl) rfl (by show 2 * 0 + _ ≤ _; exact Nat.le_of_eq rfl) (hb hby at_266) (fun _ _ => ⟨rfl, e67, (by decide : 1 + 0 ≤ _), (by decide : 32 + 0 ≤ _)⟩)
    dsimp only [Pt.U, Pt.locs, Pt.cells, Pt.slots] at X68 l68 y68 z68 st68 hQ68
    subst l68 y68 z68
    obtain ⟨rfl, N68q, e68⟩ := hQ68
    have N68 := Fr.app N67 N68q
    refine Go.to (g' := (mkF m 269 #[.val (.int ch), .val (.int p1), .val (.int p2), .val (.int p3), .val (.ref bb), .val (.int md), .val (.int ch), .unset] [(.int (own_ref ch)), (.int nv)])) st68 ?_
    obtain ⟨rf, hv_rf⟩ : ∃ z : Int32, z = (own_ref ch) := ⟨_, rfl⟩
    rw [← hv_rf]
    refine Go.to (g' := (mkF m 272 #[.val (.int ch), .val (.int p1), .val (.int p2), .val (.int p3), .val (.ref bb), .val (.int md), .val (.int ch), .unset] [])) (fun t k => XS.icmpNo X68.here hx rfl (hb hby at_269) rfl (teq (show nv = rf from by rw [hv_nv, hv_rf]; exact own_eq ch)).2 k) ?_
    refine Go.to (g' := (mkF m 273 #[.val (.int ch), .val (.int p1), .val (.int p2), .val (.int p3), .val (.ref bb), .val (.int md), .val (.int ch), .unset] [(.int (1 : Int32))])) (fun t k => XS.iconst X68.here hx rfl (hb hby at_272) k) ?_
    refine Go.to (g' := (mkF m 277 #[.val (.int ch), .val (.int p1), .val (.int p2), .val (.int p3), .val (.ref bb), .val (.int md), .val (.int ch), .unset] [(.int (1 : Int32))])) (fun t k => XS.goto X68.here hx rfl (pc0 := 273) (pc' := 277) rfl (hb hby at_273) (by decide) (by decide) k) ?_
    exact Go.retN X68 hx (t := .boolean) Bd.returns Bd.notSynchronized (by simp) (hb hby at_277) (by decide) (by decide) e68 ⟨rfl, N68⟩
  · refine Go.to (g' := (mkF m 223 #[.val (.int p0), .val (.int p1), .val (.int p2), .val (.int p3), .val (.ref bb), .val (.int md), .unset, .unset] [])) (fun t k => XS.ifYes XL.here hx rfl (pc0 := 214) (pc' := 223) rfl (hb hby at_214) rfl ((if0 _ _).trans (feq c66).2) (by decide) (by decide) k) ?_
    refine Go.to (g' := (mkF m 225 #[.val (.int p0), .val (.int p1), .val (.int p2), .val (.int p3), .val (.ref bb), .val (.int md), .unset, .unset] [(.int md)])) (fun t k => XS.iload XL.here hx rfl (hb hby at_223) rfl k) ?_
    refine Go.to (g' := (mkF m 226 #[.val (.int p0), .val (.int p1), .val (.int p2), .val (.int p3), .val (.ref bb), .val (.int md), .unset, .unset] [(.int (1 : Int32)), (.int md)])) (fun t k => XS.iconst XL.here hx rfl (hb hby at_225) k) ?_
    by_cases c69 : md = (1 : Int32)
    · refine Go.to (g' := (mkF m 229 #[.val (.int p0), .val (.int p1), .val (.int p2), .val (.int p3), .val (.ref bb), .val (.int md), .unset, .unset] [])) (fun t k => XS.icmpNo XL.here hx rfl (hb hby at_226) rfl (teq c69).2 k) ?_
      refine Go.to (g' := (mkF m 230 #[.val (.int p0), .val (.int p1), .val (.int p2), .val (.int p3), .val (.ref bb), .val (.int md), .unset, .unset] [(.int p0)])) (fun t k => XS.iloadN XL.here hx rfl (hb hby at_229) rfl k) ?_
      refine Go.to (g' := (mkF m 232 #[.val (.int p0), .val (.int p1), .val (.int p2), .val (.int p3), .val (.ref bb), .val (.int md), .unset, .unset] [(.int (2097151 : Int32)), (.int p0)])) (fun t k => XL.ldcInt hx hown (mvT hZ (hw _ (List.mem_of_getElem? (i := 8) rfl))) (g := (mkF m 230 #[.val (.int p0), .val (.int p1), .val (.int p2), .val (.int p3), .val (.ref bb), .val (.int md), .unset, .unset] [(.int p0)])) rfl (hb hby at_230) _ k) ?_
      refine Go.to (g' := (mkF m 233 #[.val (.int p0), .val (.int p1), .val (.int p2), .val (.int p3), .val (.ref bb), .val (.int md), .unset, .unset] [(.int (p0 &&& (2097151 : Int32)))])) (fun t k => XS.iand XL.here hx rfl (hb hby at_232) rfl k) ?_
      refine Go.to (g' := (mkF m 235 #[.val (.int p0), .val (.int p1), .val (.int p2), .val (.int p3), .val (.ref bb), .val (.int md), .val (.int (p0 &&& (2097151 : Int32))), .unset] [])) (fun t k => XS.istore XL.here hx rfl (hb hby at_233) rfl (l' := #[.val (.int p0), .val (.int p1), .val (.int p2), .val (.int p3), .val (.ref bb), .val (.int md), .val (.int (p0 &&& (2097151 : Int32))), .unset]) rfl k) ?_
      refine Go.to (g' := (mkF m 259 #[.val (.int p0), .val (.int p1), .val (.int p2), .val (.int p3), .val (.ref bb), .val (.int md), .val (.int (p0 &&& (2097151 : Int32))), .unset] [])) (fun t k => XS.goto XL.here hx rfl (pc0 := 235) (pc' := 259) rfl (hb hby at_235) (by decide) (by decide) k) ?_
      obtain ⟨ch, hv_ch⟩ : ∃ z : Int32, z = (p0 &&& (2097151 : Int32)) := ⟨_, rfl⟩
      rw [← hv_ch]
      refine Go.to (g' := (mkF m 261 #[.val (.int p0), .val (.int p1), .val (.int p2), .val (.int p3), .val (.ref bb), .val (.int md), .val (.int ch), .unset] [(.int ch)])) (fun t k => XS.iload XL.here hx rfl (hb hby at_259) rfl k) ?_
      obtain ⟨v70, _, ⟨T70, L70, k70, n70⟩, -, X70, ⟨Lc70, hQ70, l70, y70, z70⟩, st70⟩ := Jvm.LawKit.callS XL hx (y := (⟨"com/example/descant/descant/xml/XmlNames", "isNameStart", "(I)Z"⟩ : MethodName)) hown (mvT hZ (hw _ (List.mem_of_getElem? (i := 9) rfl))) (mvT hZ (hw _ (List.mem_of_getElem? (i := 10) rfl))) (mvT hZ (hw _ (List.mem_of_getElem? (i := 11) rfl))) (mvT hZ (hw _ (List.mem_of_getElem? (i := 12) rfl))) (by decide) (backOf (W := 0) (rm1 l Z aw hw [] ch  h65 n0 Z65 ) hZ (hw _ (List.mem_of_getElem? (i := 12) rfl)) (hw _ (List.mem_of_getElem? (i := 11) rfl)) (by decide) (by decide)) (g := (mkF m 261 #[.val (.int p0), .val (.int p1), .val (.int p2), .val (.int p3), .val (.ref bb), .val (.int md), .val (.int ch), .unset] [(.int ch)])) rfl (by rw [hml]; rfl) (argsL := [(.int ch)]) (rest := []) (lenOf pd_28I29Z rfl) rfl (by show 2 * 0 + _ ≤ _; exact Nat.le_of_eq rfl) (hb hby at_261) (fun _ _ => ⟨rfl, e65, (by decide : 1 + 0 ≤ _), (by decide : 32 + 0 ≤ _)⟩)
      dsimp only [Pt.U, Pt.locs, Pt.cells, Pt.slots] at X70 l70 y70 z70 st70 hQ70
      subst l70 y70 z70
      obtain ⟨rfl, N70q, e70⟩ := hQ70
      have N70 := Fr.app NL N70q
      refine Go.to (g' := (mkF m 264 #[.val (.int p0), .val (.int p1), .val (.int p2), .val (.int p3), .val (.ref bb), .val (.int md), .val (.int ch), .unset] [(.int (own_ns ch))])) st70 ?_
      obtain ⟨nv, hv_nv⟩ : ∃ z : Int32, z = (own_ns ch) := ⟨_, rfl⟩
      rw [← hv_nv]
      refine Go.to (g' := (mkF m 266 #[.val (.int p0), .val (.int p1), .val (.int p2), .val (.int p3), .val (.ref bb), .val (.int md), .val (.int ch), .unset] [(.int ch), (.int nv)])) (fun t k => XS.iload X70.here hx rfl (hb hby at_264) rfl k) ?_
      obtain ⟨v71, _, ⟨T71, L71, k71, n71⟩, -, X71, ⟨Lc71, hQ71, l71, y71, z71⟩, st71⟩ := Jvm.LawKit.callS X70 hx (y := (⟨"com/example/descant/descant/xml/XmlNamesIsNameStartPinLaw", "reference", "(I)Z"⟩ : MethodName)) hown (mvT hZ (hw _ (List.mem_of_getElem? (i := 16) rfl))) (mvT hZ (hw _ (List.mem_of_getElem? (i := 17) rfl))) (mvT hZ (hw _ (List.mem_of_getElem? (i := 18) rfl))) (mvT hZ (hw _ (List.mem_of_getElem? (i := 19) rfl))) (by decide) (backOf (W := 1) (rm2 l Z aw hw [] ch  h65 n0 Z65 ) hZ (hw _ (List.mem_of_getElem? (i := 19) rfl)) (hw _ (List.mem_of_getElem? (i := 18) rfl)) (by decide) (by decide)) (g := (mkF m 266 #[.val (.int p0), .val (.int p1), .val (.int p2), .val (.int p3), .val (.ref bb), .val (.int md), .val (.int ch), .unset] [(.int ch), (.int nv)])) rfl (by rw [hml]; rfl) (argsL := [(.int ch)]) (rest := [(.int nv)]) (lenOf pd_28I29Z rfl) rfl (by show 2 * 0 + _ ≤ _; exact Nat.le_of_eq rfl) (hb hby at_266) (fun _ _ => ⟨rfl, e70, (by decide : 1 + 0 ≤ _), (by decide : 32 + 0 ≤ _)⟩)
      dsimp only [Pt.U, Pt.locs, Pt.cells, Pt.slots] at X71 l71 y71 z71 st71 hQ71
      subst l71 y71 z71
      obtain ⟨rfl, N71q, e71⟩ := hQ71
      have N71 := Fr.app N70 N71q
      refine Go.to (g' := (mkF m 269 #[.val (.int p0), .val (.int p1), .val (.int p2), .val (.int p3), .val (.ref bb), .val (.int md), .val (.int ch), .unset] [(.int (own_ref ch)), (.int nv)])) st71 ?_
      obtain ⟨rf, hv_rf⟩ : ∃ z : Int32, z = (own_ref ch) := ⟨_, rfl⟩
      rw [← hv_rf]
      refine Go.to (g' := (mkF m 272 #[.val (.int p0), .val (.int p1), .val (.int p2), .val (.int p3), .val (.ref bb), .val (.int md), .val (.int ch), .unset] [])) (fun t k => XS.icmpNo X71.here hx rfl (hb hby at_269) rfl (teq (show nv = rf from by rw [hv_nv, hv_rf]; exact own_eq ch)).2 k) ?_
      refine Go.to (g' := (mkF m 273 #[.val (.int p0), .val (.int p1), .val (.int p2), .val (.int p3), .val (.ref bb), .val (.int md), .val (.int ch), .unset] [(.int (1 : Int32))])) (fun t k => XS.iconst X71.here hx rfl (hb hby at_272) k) ?_
      refine Go.to (g' := (mkF m 277 #[.val (.int p0), .val (.int p1), .val (.int p2), .val (.int p3), .val (.ref bb), .val (.int md), .val (.int ch), .unset] [(.int (1 : Int32))])) (fun t k => XS.goto X71.here hx rfl (pc0 := 273) (pc' := 277) rfl (hb hby at_273) (by decide) (by decide) k) ?_
      exact Go.retN X71 hx (t := .boolean) Bd.returns Bd.notSynchronized (by simp) (hb hby at_277) (by decide) (by decide) e71 ⟨rfl, N71⟩
    · refine Go.to (g' := (mkF m 238 #[.val (.int p0), .val (.int p1), .val (.int p2), .val (.int p3), .val (.ref bb), .val (.int md), .unset, .unset] [])) (fun t k => XS.icmpYes XL.here hx rfl (pc0 := 226) (pc' := 238) rfl (hb hby at_226) rfl (feq c69).2 (by decide) (by decide) k) ?_
      refine Go.to (g' := (mkF m 239 #[.val (.int p0), .val (.int p1), .val (.int p2), .val (.int p3), .val (.ref bb), .val (.int md), .unset, .unset] [(.int p1)])) (fun t k => XS.iloadN XL.here hx rfl (hb hby at_238) rfl k) ?_
      refine Go.to (g' := (mkF m 241 #[.val (.int p0), .val (.int p1), .val (.int p2), .val (.int p3), .val (.ref bb), .val (.int md), .unset, .unset] [(.int (2147483647 : Int32)), (.int p1)])) (fun t k => XL.ldcInt hx hown (mvT hZ (hw _ (List.mem_of_getElem? (i := 23) rfl))) (g := (mkF m 239 #[.val (.int p0), .val (.int p1), .val (.int p2), .val (.int p3), .val (.ref bb), .val (.int md), .unset, .unset] [(.int p1)])) rfl (hb hby at_239) _ k) ?_
      refine Go.to (g' := (mkF m 242 #[.val (.int p0), .val (.int p1), .val (.int p2), .val (.int p3), .val (.ref bb), .val (.int md), .unset, .unset] [(.int (p1 &&& (2147483647 : Int32)))])) (fun t k => XS.iand XL.here hx rfl (hb hby at_241) rfl k) ?_
      refine Go.to (g' := (mkF m 244 #[.val (.int p0), .val (.int p1), .val (.int p2), .val (.int p3), .val (.ref bb), .val (.int md), .unset, .unset] [(.ref bb), (.int (p1 &&& (2147483647 : Int32)))])) (fun t k => XS.aload XL.here hx rfl (hb hby at_242) rfl rfl k) ?_
      obtain ⟨cl72, Ar72, Sz72, -⟩ := id Bf65
      refine Go.to (g' := (mkF m 245 #[.val (.int p0), .val (.int p1), .val (.int p2), .val (.int p3), .val (.ref bb), .val (.int md), .unset, .unset] [(.int (32 : Int32)), (.int (p1 &&& (2147483647 : Int32)))])) (fun t k => XL.arraylength hx (by rw [e65]; exact Ar72.1) (State.isArrayOf_alike hZ.alike Ar72.2.1) (g := (mkF m 244 #[.val (.int p0), .val (.int p1), .val (.int p2), .val (.int p3), .val (.ref bb), .val (.int md), .unset, .unset] [(.ref bb), (.int (p1 &&& (2147483647 : Int32)))])) rfl rfl (hb hby at_244) _ (by rw [len_of (z := (32 : Int32)) (own_sz Sz72 rfl) (by decide)]; exact k)) ?_
      refine Go.to (g' := (mkF m 246 #[.val (.int p0), .val (.int p1), .val (.int p2), .val (.int p3), .val (.ref bb), .val (.int md), .unset, .unset] [(.int ((p1 &&& (2147483647 : Int32)) % (32 : Int32)))])) (fun t k => iremM XL hx rfl (hb hby at_245) rfl (by decide) k) ?_
      refine Go.to (g' := (mkF m 248 #[.val (.int p0), .val (.int p1), .val (.int p2), .val (.int p3), .val (.ref bb), .val (.int md), .unset, .val (.int ((p1 &&& (2147483647 : Int32)) % (32 : Int32)))] [])) (fun t k => XS.istore XL.here hx rfl (hb hby at_246) rfl (l' := #[.val (.int p0), .val (.int p1), .val (.int p2), .val (.int p3), .val (.ref bb), .val (.int md), .unset, .val (.int ((p1 &&& (2147483647 : Int32)) % (32 : Int32)))]) rfl k) ?_
      refine Go.to (g' := (mkF m 250 #[.val (.int p0), .val (.int p1), .val (.int p2), .val (.int p3), .val (.ref bb), .val (.int md), .unset, .val (.int ((p1 &&& (2147483647 : Int32)) % (32 : Int32)))] [(.ref bb)])) (fun t k => XS.aload XL.here hx rfl (hb hby at_248) rfl rfl k) ?_
      refine Go.to (g' := (mkF m 252 #[.val (.int p0), .val (.int p1), .val (.int p2), .val (.int p3), .val (.ref bb), .val (.int md), .unset, .val (.int ((p1 &&& (2147483647 : Int32)) % (32 : Int32)))] [(.int ((p1 &&& (2147483647 : Int32)) % (32 : Int32))), (.ref bb)])) (fun t k => XS.iload XL.here hx rfl (hb hby at_250) rfl k) ?_
      obtain ⟨cl73, Ar73, Sz73, Hf73⟩ := id Bf65
      refine Go.to (g' := (mkF m 253 #[.val (.int p0), .val (.int p1), .val (.int p2), .val (.int p3), .val (.ref bb), .val (.int md), .unset, .val (.int ((p1 &&& (2147483647 : Int32)) % (32 : Int32)))] [(.int (ff65 ((p1 &&& (2147483647 : Int32)) % (32 : Int32))))])) (fun t k => XL.iaload hx (j := ((p1 &&& (2147483647 : Int32)) % (32 : Int32))) (v := (.int (ff65 ((p1 &&& (2147483647 : Int32)) % (32 : Int32))))) (by rw [e65]; exact Ar73.1) (State.isArrayOf_alike hZ.alike Ar73.2.1) Ar73.2.2 (own_by_in Sz73 (own_idx _).1 (own_idx2 _)) (Hf73 _ (own_idx _).1 (own_idx2 _)) (g := (mkF m 252 #[.val (.int p0), .val (.int p1), .val (.int p2), .val (.int p3), .val (.ref bb), .val (.int md), .unset, .val (.int ((p1 &&& (2147483647 : Int32)) % (32 : Int32)))] [(.int ((p1 &&& (2147483647 : Int32)) % (32 : Int32))), (.ref bb)])) rfl rfl (hb hby at_252) _ k) ?_
      refine Go.to (g' := (mkF m 254 #[.val (.int p0), .val (.int p1), .val (.int p2), .val (.int p3), .val (.ref bb), .val (.int md), .unset, .val (.int ((p1 &&& (2147483647 : Int32)) % (32 : Int32)))] [(.int p2), (.int (ff65 ((p1 &&& (2147483647 : Int32)) % (32 : Int32))))])) (fun t k => XS.iloadN XL.here hx rfl (hb hby at_253) rfl k) ?_
      refine Go.to (g' := (mkF m 255 #[.val (.int p0), .val (.int p1), .val (.int p2), .val (.int p3), .val (.ref bb), .val (.int md), .unset, .val (.int ((p1 &&& (2147483647 : Int32)) % (32 : Int32)))] [(.int (4 : Int32)), (.int p2), (.int (ff65 ((p1 &&& (2147483647 : Int32)) % (32 : Int32))))])) (fun t k => XS.iconst XL.here hx rfl (hb hby at_254) k) ?_
      refine Go.to (g' := (mkF m 256 #[.val (.int p0), .val (.int p1), .val (.int p2), .val (.int p3), .val (.ref bb), .val (.int md), .unset, .val (.int ((p1 &&& (2147483647 : Int32)) % (32 : Int32)))] [(.int (p2 % (4 : Int32))), (.int (ff65 ((p1 &&& (2147483647 : Int32)) % (32 : Int32))))])) (fun t k => iremM XL hx rfl (hb hby at_255) rfl (by decide) k) ?_
      refine Go.to (g' := (mkF m 257 #[.val (.int p0), .val (.int p1), .val (.int p2), .val (.int p3), .val (.ref bb), .val (.int md), .unset, .val (.int ((p1 &&& (2147483647 : Int32)) % (32 : Int32)))] [(.int ((ff65 ((p1 &&& (2147483647 : Int32)) % (32 : Int32))) + (p2 % (4 : Int32))))])) (fun t k => XS.iadd XL.here hx rfl (hb hby at_256) rfl k) ?_
      refine Go.to (g' := (mkF m 259 #[.val (.int p0), .val (.int p1), .val (.int p2), .val (.int p3), .val (.ref bb), .val (.int md), .val (.int ((ff65 ((p1 &&& (2147483647 : Int32)) % (32 : Int32))) + (p2 % (4 : Int32)))), .val (.int ((p1 &&& (2147483647 : Int32)) % (32 : Int32)))] [])) (fun t k => XS.istore XL.here hx rfl (hb hby at_257) rfl (l' := #[.val (.int p0), .val (.int p1), .val (.int p2), .val (.int p3), .val (.ref bb), .val (.int md), .val (.int ((ff65 ((p1 &&& (2147483647 : Int32)) % (32 : Int32))) + (p2 % (4 : Int32)))), .val (.int ((p1 &&& (2147483647 : Int32)) % (32 : Int32)))]) rfl k) ?_
      obtain ⟨ch, hv_ch⟩ : ∃ z : Int32, z = ((ff65 ((p1 &&& (2147483647 : Int32)) % (32 : Int32))) + (p2 % (4 : Int32))) := ⟨_, rfl⟩
      rw [← hv_ch]
      refine Go.to (g' := (mkF m 261 #[.val (.int p0), .val (.int p1), .val (.int p2), .val (.int p3), .val (.ref bb), .val (.int md), .val (.int ch), .val (.int ((p1 &&& (2147483647 : Int32)) % (32 : Int32)))] [(.int ch)])) (fun t k => XS.iload XL.here hx rfl (hb hby at_259) rfl k) ?_
      obtain ⟨v74, _, ⟨T74, L74, k74, n74⟩, -, X74, ⟨Lc74, hQ74, l74, y74, z74⟩, st74⟩ := Jvm.LawKit.callS XL hx (y := (⟨"com/example/descant/descant/xml/XmlNames", "isNameStart", "(I)Z"⟩ : MethodName)) hown (mvT hZ (hw _ (List.mem_of_getElem? (i := 9) rfl))) (mvT hZ (hw _ (List.mem_of_getElem? (i := 10) rfl))) (mvT hZ (hw _ (List.mem_of_getElem? (i := 11) rfl))) (mvT hZ (hw _ (List.mem_of_getElem? (i := 12) rfl))) (by decide) (backOf (W := 0) (rm1 l Z aw hw [] ch  h65 n0 Z65 ) hZ (hw _ (List.mem_of_getElem? (i := 12) rfl)) (hw _ (List.mem_of_getElem? (i := 11) rfl)) (by decide) (by decide)) (g := (mkF m 261 #[.val (.int p0), .val (.int p1), .val (.int p2), .val (.int p3), .val (.ref bb), .val (.int md), .val (.int ch), .val (.int ((p1 &&& (2147483647 : Int32)) % (32 : Int32)))] [(.int ch)])) rfl (by rw [hml]; rfl) (argsL := [(.int ch)]) (rest := []) (lenOf pd_28I29Z rfl) rfl (by show 2 * 0 + _ ≤ _; exact Nat.le_of_eq rfl) (hb hby at_261) (fun _ _ => ⟨rfl, e65, (by decide : 1 + 0 ≤ _), (by decide : 32 + 0 ≤ _)⟩)
      dsimp only [Pt.U, Pt.locs, Pt.cells, Pt.slots] at X74 l74 y74 z74 st74 hQ74
      subst l74 y74 z74
      obtain ⟨rfl, N74q, e74⟩ := hQ74
      have N74 := Fr.app NL N74q
      refine Go.to (g' := (mkF m 264 #[.val (.int p0), .val (.int p1), .val (.int p2), .val (.int p3), .val (.ref bb), .val (.int md), .val (.int ch), .val (.int ((p1 &&& (2147483647 : Int32)) % (32 : Int32)))] [(.int (own_ns ch))])) st74 ?_
      obtain ⟨nv, hv_nv⟩ : ∃ z : Int32, z = (own_ns ch) := ⟨_, rfl⟩
      rw [← hv_nv]
      refine Go.to (g' := (mkF m 266 #[.val (.int p0), .val (.int p1), .val (.int p2), .val (.int p3), .val (.ref bb), .val (.int md), .val (.int ch), .val (.int ((p1 &&& (2147483647 : Int32)) % (32 : Int32)))] [(.int ch), (.int nv)])) (fun t k => XS.iload X74.here hx rfl (hb hby at_264) rfl k) ?_
      obtain ⟨v75, _, ⟨T75, L75, k75, n75⟩, -, X75, ⟨Lc75, hQ75, l75, y75, z75⟩, st75⟩ := Jvm.LawKit.callS X74 hx (y := (⟨"com/example/descant/descant/xml/XmlNamesIsNameStartPinLaw", "reference", "(I)Z"⟩ : MethodName)) hown (mvT hZ (hw _ (List.mem_of_getElem? (i := 16) rfl))) (mvT hZ (hw _ (List.mem_of_getElem? (i := 17) rfl))) (mvT hZ (hw _ (List.mem_of_getElem? (i := 18) rfl))) (mvT hZ (hw _ (List.mem_of_getElem? (i := 19) rfl))) (by decide) (backOf (W := 1) (rm2 l Z aw hw [] ch  h65 n0 Z65 ) hZ (hw _ (List.mem_of_getElem? (i := 19) rfl)) (hw _ (List.mem_of_getElem? (i := 18) rfl)) (by decide) (by decide)) (g := (mkF m 266 #[.val (.int p0), .val (.int p1), .val (.int p2), .val (.int p3), .val (.ref bb), .val (.int md), .val (.int ch), .val (.int ((p1 &&& (2147483647 : Int32)) % (32 : Int32)))] [(.int ch), (.int nv)])) rfl (by rw [hml]; rfl) (argsL := [(.int ch)]) (rest := [(.int nv)]) (lenOf pd_28I29Z rfl) rfl (by show 2 * 0 + _ ≤ _; exact Nat.le_of_eq rfl) (hb hby at_266) (fun _ _ => ⟨rfl, e74, (by decide : 1 + 0 ≤ _), (by decide : 32 + 0 ≤ _)⟩)
      dsimp only [Pt.U, Pt.locs, Pt.cells, Pt.slots] at X75 l75 y75 z75 st75 hQ75
      subst l75 y75 z75
      obtain ⟨rfl, N75q, e75⟩ := hQ75
      have N75 := Fr.app N74 N75q
      refine Go.to (g' := (mkF m 269 #[.val (.int p0), .val (.int p1), .val (.int p2), .val (.int p3), .val (.ref bb), .val (.int md), .val (.int ch), .val (.int ((p1 &&& (2147483647 : Int32)) % (32 : Int32)))] [(.int (own_ref ch)), (.int nv)])) st75 ?_
      obtain ⟨rf, hv_rf⟩ : ∃ z : Int32, z = (own_ref ch) := ⟨_, rfl⟩
      rw [← hv_rf]
      refine Go.to (g' := (mkF m 272 #[.val (.int p0), .val (.int p1), .val (.int p2), .val (.int p3), .val (.ref bb), .val (.int md), .val (.int ch), .val (.int ((p1 &&& (2147483647 : Int32)) % (32 : Int32)))] [])) (fun t k => XS.icmpNo X75.here hx rfl (hb hby at_269) rfl (teq (show nv = rf from by rw [hv_nv, hv_rf]; exact own_eq ch)).2 k) ?_
      refine Go.to (g' := (mkF m 273 #[.val (.int p0), .val (.int p1), .val (.int p2), .val (.int p3), .val (.ref bb), .val (.int md), .val (.int ch), .val (.int ((p1 &&& (2147483647 : Int32)) % (32 : Int32)))] [(.int (1 : Int32))])) (fun t k => XS.iconst X75.here hx rfl (hb hby at_272) k) ?_
      refine Go.to (g' := (mkF m 277 #[.val (.int p0), .val (.int p1), .val (.int p2), .val (.int p3), .val (.ref bb), .val (.int md), .val (.int ch), .val (.int ((p1 &&& (2147483647 : Int32)) % (32 : Int32)))] [(.int (1 : Int32))])) (fun t k => XS.goto X75.here hx rfl (pc0 := 273) (pc' := 277) rfl (hb hby at_273) (by decide) (by decide) k) ?_
      exact Go.retN X75 hx (t := .boolean) Bd.returns Bd.notSynchronized (by simp) (hb hby at_277) (by decide) (by decide) e75 ⟨rfl, N75⟩

set_option maxRecDepth 65536 in
set_option maxHeartbeats 40000000 in
theorem comes_1 {Post : Tables → Env → Array Value → State → Outcome → State → Prop} (hpost : ∀ tb e args s v u, (limb_1_1.after args s (.returned v) u = true ∧ limb_1_2.after args s (.returned v) u = true ∧ True) → FrameEnd s (.returned v) u (Jvm.fieldLocs frame_1_writes args s ++ Jvm.arrayLocs frame_1_arrays args s ++ Jvm.staticLocs frame_1_statics s) 16 128 → Post tb e args s (.returned v) u) :
    ArmFor flags0 classFile x code maxLocals ret World_1 tables_1 room_1 Calls_1 rest_1 Pre_1 Post := by
  intro l hfl _ _ p e ha hc hk s m args below hf hA hF happ hP
  obtain ⟨hcalls, hrest, hpre⟩ := hP
  obtain ⟨-, -, -, hnamed, -, -, -, hat⟩ := (Spec.applies_iff hf).mp happ
  obtain ⟨hg, hn⟩ := and_e (Cond.before_iff.mp (show (Jvm.Cond.and given_1 narrow_1).before args s = true from hpre))
  obtain ⟨ga0, gb0⟩ := and_e hg
  obtain ⟨ga1, gb1⟩ := and_e gb0
  obtain ⟨ga2, gb2⟩ := and_e gb1
  obtain ⟨ga3, gb3⟩ := and_e gb2
  obtain ⟨w0, w1, w2, w3, rfl⟩ : ∃ w0 w1 w2 w3 : Value, args = #[w0, w1, w2, w3] := by
    have hs : args.size = 4 := by simpa [Cond.value, given_1] using ga0
    obtain ⟨L⟩ := args
    match L, hs with
    | [w0, w1, w2, w3], _ => exact ⟨w0, w1, w2, w3, rfl⟩
  have hw := fun d (hd : d ∈ tables_1) => atoms_spec (ws := Jvm.Cond.code x code maxLocals ret :: tables_1) hat d (List.mem_cons_of_mem _ hd)
  obtain ⟨i0, ei0⟩ := is_v ga1
  obtain rfl : w0 = (.int i0) := Option.some.inj ei0
  obtain ⟨i1, ei1⟩ := is_v ga2
  obtain rfl : w1 = (.int i1) := Option.some.inj ei1
  obtain ⟨i2, ei2⟩ := is_v ga3
  obtain rfl : w2 = (.int i2) := Option.some.inj ei2
  obtain ⟨i3, ei3⟩ := is_v gb3
  obtain rfl : w3 = (.int i3) := Option.some.inj ei3
  obtain ⟨n, o, h1, h2, h3, _, L, rfl, ⟨rfl, N⟩, hq⟩ := rm0 l s _ hw tables_1 i0 i1 i2 i3 s.heap s.heap.size (Nat.le_refl _)  p e ha hc hk s m _ below hf ((Spec.applies_iff_loose hf).mp happ).1 ⟨rfl, State.Warmed39.refl s, rfl⟩ trivial
  refine ⟨n, _, h1, h2, h3, hpost _ _ _ _ _ _ ⟨Cond.after_iff.mpr rfl, Cond.after_iff.mpr (eq_i res_at (Term.int_eval (1)) rfl), trivial⟩ ⟨hq.1, hq.2.1, (hq.2.2.sift fun y hy => Or.inr (N y hy)).mono (by decide) (by decide)⟩⟩
theorem main_1_1 : Claimed_1_1 := comes_1 fun _ _ _ _ _ _ h hF => ⟨h.1, hF⟩
theorem main_1_2 : Claimed_1_2 := comes_1 fun _ _ _ _ _ _ h hF => ⟨h.2.1, hF⟩

end Jvm.Pilot.@@N@@
namespace Jvm.Pilot.@@N@@
open Jvm Jvm.ClassFile Sem Op Lib Jvm.Free Jvm.Stand Jvm.Pilot.@@N@@.Jvm.D
/-! MADE BY PROGRAM (witnessworld.py) out of the Statement's table words and the real class files: 9 classes; the members and pool entries that the words name. The judged class is class 1, her method 3. -/
namespace start1
open Jvm.ClassFile
def u (s : String) : CpInfo := .utf8 (stringToUtf16 s)
/-- a pool by its gaps: so many unusable entries, then the entry; so many at the end -/
def gap : Nat → List CpInfo → List CpInfo
  | 0, r => r
  | n + 1, r => .unusable :: gap n r
def poolList (es : List (Nat × CpInfo)) (last : Nat) : List CpInfo := es.foldr (fun e r => gap e.1 (e.2 :: r)) (gap last [])
def pool (es : List (Nat × CpInfo)) (last : Nat) : Array CpInfo := ⟨poolList es last⟩
def fileOf (pool : Array CpInfo) (this : Nat) (attrs : Array Attribute := #[]) (ms : Array MethodInfo := #[]) (fl : Nat := 33) (sup : Nat := 0) (ifs : Array Nat := #[]) (fds : Array FieldInfo := #[]) : ClassFile where
  minorVersion := 0
  majorVersion := 65
  constantPool := pool
  accessFlags := fl
  thisClass := this
  superClass := sup
  interfaces := ifs
  fields := fds
  methods := ms
  attributes := attrs
def plain (name : String) (sup : Option ClassId) : Class where
  name := name
  kind := .ordinary
  loader := none
  accessFlags := 33
  super := sup
  interfaces := #[]
  cf := none
  fields := #[]
  methods := #[]
  instanceTypes := #[]
  staticTypes := #[]
  resolved := #[]
  callSites := []
  init := .initialized
  statics := none
  mirror := none

def pool0 : Array CpInfo := pool [(5, u "<init>"), (0, u "()V"), (1, .class_ 10), (1, u "java/lang/Object")] 113

def k0m0 : Method := { name := "<init>", desc := "()V", sig := { parameters := [], returnType := none }, accessFlags := 1, code := none }
/-- java/lang/Object -/
def k0 : Class := { plain "java/lang/Object" none with
  accessFlags := 33
  interfaces := #[]
  cf := some (fileOf pool0 8 #[] #[{ accessFlags := 1, nameIndex := 5, descriptorIndex := 6, attributes := #[] }] 33 0 #[] #[])
  fields := #[]
  methods := #[k0m0]
  instanceTypes := #[]
  staticTypes := #[]
  resolved := Array.replicate 124 none
  statics := none }

def pool1 : Array CpInfo := pool [(2, .class_ 4), (1, u "java/lang/Object"), (0, u "<init>"), (0, u "()V"), (0, .integer 983039), (0, .methodref 9 10), (0, .class_ 11), (0, .nameAndType 12 13), (0, u "com/example/descant/descant/xml/XmlNamesIsNameStartPinLaw"), (0, u "in"), (0, u "(III)Z"), (0, .integer 55296), (0, .integer 63743), (0, .integer 64976), (0, .integer 65007), (0, .integer 65534), (0, .integer 65535), (0, .integer 55295), (0, .integer 63744), (0, .integer 64975), (0, .integer 65008), (0, .integer 65533), (0, .integer 65536), (0, .integer 2097151), (0, .integer 2147483647), (0, .methodref 29 30), (0, .class_ 31), (0, .nameAndType 32 33), (0, u "com/example/descant/descant/xml/XmlNames"), (0, u "isNameStart"), (0, u "(I)Z"), (0, .methodref 9 35), (0, .nameAndType 36 33), (0, u "reference"), (3, u "law"), (0, u "(IIII)Z")] 4

def k1m0 : Method := { name := "<init>", desc := "()V", sig := { parameters := [], returnType := none }, accessFlags := 2, code := none }
def k1c1 : Code := { maxStack := 2, maxLocals := 3, code := method_2_code, exceptionTable := #[], attributes := #[] }
def k1m1 : Method := { name := "in", desc := "(III)Z", sig := { parameters := [.int, .int, .int], returnType := some .boolean }, accessFlags := 10, code := some k1c1 }
def k1c2 : Code := { maxStack := 3, maxLocals := 1, code := method_3_code, exceptionTable := #[], attributes := #[] }
def k1m2 : Method := { name := "reference", desc := "(I)Z", sig := { parameters := [.int], returnType := some .boolean }, accessFlags := 10, code := some k1c2 }
def k1c3 : Code := { maxStack := 4, maxLocals := 8, code := code, exceptionTable := #[], attributes := #[] }
def k1m3 : Method := { name := "law", desc := "(IIII)Z", sig := { parameters := [.int, .int, .int, .int], returnType := some .boolean }, accessFlags := 9, code := some k1c3 }
/-- com/example/descant/descant/xml/XmlNamesIsNameStartPinLaw -/
def k1 : Class := { plain "com/example/descant/descant/xml/XmlNamesIsNameStartPinLaw" (some 0) with
  accessFlags := 49
  interfaces := #[]
  cf := some (fileOf pool1 9 #[] #[{ accessFlags := 2, nameIndex := 5, descriptorIndex := 6, attributes := #[] }, { accessFlags := 10, nameIndex := 12, descriptorIndex := 13, attributes := #[] }, { accessFlags := 10, nameIndex := 36, descriptorIndex := 33, attributes := #[] }, { accessFlags := 9, nameIndex := 40, descriptorIndex := 41, attributes := #[] }] 49 2 #[] #[])
  fields := #[]
  methods := #[k1m0, k1m1, k1m2, k1m3]
  instanceTypes := #[]
  staticTypes := #[]
  resolved := Array.replicate 46 none
  statics := none }

def pool2 : Array CpInfo := pool [(2, .class_ 4), (1, u "java/lang/Object"), (0, u "<init>"), (0, u "()V"), (11, .class_ 20), (1, u "com/example/descant/descant/xml/XmlNames"), (0, u "isNameStart"), (0, u "(I)Z"), (23, .integer 55295), (0, .integer 63744), (0, .integer 64975), (0, .integer 65008), (0, .integer 65533), (0, .integer 65536), (0, .integer 983039)] 23

def k2m0 : Method := { name := "<init>", desc := "()V", sig := { parameters := [], returnType := none }, accessFlags := 2, code := none }
def k2c1 : Code := { maxStack := 2, maxLocals := 1, code := prog_134_method_7_code, exceptionTable := #[], attributes := #[] }
def k2m1 : Method := { name := "isNameStart", desc := "(I)Z", sig := { parameters := [.int], returnType := some .boolean }, accessFlags := 8, code := some k2c1 }
/-- com/example/descant/descant/xml/XmlNames -/
def k2 : Class := { plain "com/example/descant/descant/xml/XmlNames" (some 0) with
  accessFlags := 48
  interfaces := #[]
  cf := some (fileOf pool2 18 #[] #[{ accessFlags := 2, nameIndex := 5, descriptorIndex := 6, attributes := #[] }, { accessFlags := 8, nameIndex := 21, descriptorIndex := 22, attributes := #[] }] 48 2 #[] #[])
  fields := #[]
  methods := #[k2m0, k2m1]
  instanceTypes := #[]
  staticTypes := #[]
  resolved := Array.replicate 76 none
  statics := none }

def pool3 : Array CpInfo := pool [(1, u "java/lang/Cloneable"), (0, .class_ 1), (0, u "java/lang/Object"), (0, .class_ 3)] 3

/-- java/lang/Cloneable -/
def k3 : Class := { plain "java/lang/Cloneable" (some 0) with
  accessFlags := 1537
  interfaces := #[]
  cf := some (fileOf pool3 2 #[] #[] 1537 4 #[] #[])
  fields := #[]
  methods := #[]
  instanceTypes := #[]
  staticTypes := #[]
  resolved := Array.replicate 8 none
  statics := none }

def pool4 : Array CpInfo := pool [(1, u "java/io/Serializable"), (0, .class_ 1), (0, u "java/lang/Object"), (0, .class_ 3)] 3

/-- java/io/Serializable -/
def k4 : Class := { plain "java/io/Serializable" (some 0) with
  accessFlags := 1537
  interfaces := #[]
  cf := some (fileOf pool4 2 #[] #[] 1537 4 #[] #[])
  fields := #[]
  methods := #[]
  instanceTypes := #[]
  staticTypes := #[]
  resolved := Array.replicate 8 none
  statics := none }

/-- the primitive byte -/
def k5 : Class := { plain "byte" none with kind := .primitive 'B', accessFlags := 0x411 }
/-- [B -/
def k6 : Class := { plain "[B" (some 0) with kind := .array 5 .byte, interfaces := #[3, 4], accessFlags := 1041 }

/-- the primitive int -/
def k7 : Class := { plain "int" none with kind := .primitive 'I', accessFlags := 0x411 }
/-- [I -/
def k8 : Class := { plain "[I" (some 0) with kind := .array 7 .int, interfaces := #[3, 4], accessFlags := 1041 }

def heap : Heap := #[]
def classes : Array Class := #[k0, k1, k2, k3, k4, k5, k6, k7, k8]
def interned : List (Array UInt16 × Addr) := []
def slotsUsed : Nat := 0
def theMethod : MethodId := ⟨1, 3⟩
def args0 : Array Value := #[.int 9, .int 8, .int 5, .int 2]
def aboutOver (below : List Frame) : State where
  vm := { classes := classes, interned := interned.toArray }
  heap := heap
  slotsUsed := slotsUsed
  threads := #[{ frames := .invoking theMethod args0 :: below }]
def below0 : List Frame := [.native { method := ⟨0, 0⟩, args := #[] }]
def about1 : State := aboutOver below0
def p0 : Program := .bare "" "" ""
def e0 : Env := launch0.env 0 0 0
theorem w_frames : about1.frames = Frame.invoking theMethod args0 :: below0 := rfl
set_option maxRecDepth 65536 in
theorem w_args : argsFit about1.vm theMethod args0 = true := by decide +kernel
set_option maxRecDepth 65536 in
theorem w_heap : heapFits about1 = true := by decide +kernel
set_option maxRecDepth 65536 in
theorem w_runnable : about1.curStatus? = some .runnable := by decide +kernel
set_option maxRecDepth 65536 in
theorem w_alone : about1.alone = true := by decide +kernel
set_option maxRecDepth 65536 in
theorem w_named : about1.methodNamed? x = some theMethod := by decide +kernel
set_option maxRecDepth 65536 in
theorem w_hears : about1.hears theMethod below0 = true := by decide +kernel
set_option maxRecDepth 65536 in
theorem w_ripe : about1.ripe theMethod args0 below0 = true := by decide +kernel
theorem w_running : about1.status = .running := rfl
set_option maxRecDepth 65536 in
theorem w_room : about1.hasRoom e0.platform room_1 = true :=
  launch0.hasRoom_least _ room_1 (by decide +kernel) (by decide +kernel) (by decide +kernel) (by decide +kernel) (by decide +kernel) (by decide +kernel)
theorem allAtoms_all (ts : List Jvm.Cond) (a : Array Jvm.Value) (st : Jvm.State) : (allAtoms ts).before a st = ts.all (fun c => c.before a st) := by
  induction ts with
  | nil => rfl
  | cons c t ih =>
    show (Jvm.Cond.and c (allAtoms t)).before a st = _
    rw [Jvm.Cond.before_and, ih, List.all_cons]
def words1 : List Jvm.Cond := Jvm.Cond.code x code maxLocals ret :: tables_1
/-- a 'code' word, met by the world's own term for the bytes: nothing is compared byte by byte -/
theorem code_word {y : MethodName} {bytes : ByteArray} {mx : Nat} {rt : Option FieldType} {a : Array Value} {s : State} {m : MethodId} {meth : Method} {c : Code} (h1 : s.methodNamed? y = some m) (h2 : s.vm.method? m = some meth) (h3 : meth.code = some c) (h4 : c.code = bytes)
    (h5 : (c.maxLocals == mx && c.exceptionTable.isEmpty && decide (c.maxStack ≤ mostOperands) && decide (meth.sig.returnType = rt) && !meth.locks && decide (parseMethodDescriptor y.desc = some meth.sig)) = true) : (Jvm.Cond.code y bytes mx rt).before a s = true := by
  simp only [Bool.and_eq_true, beq_iff_eq, Bool.not_eq_true', decide_eq_true_eq] at h5
  obtain ⟨⟨⟨⟨⟨g1, g2⟩, g3⟩, g4⟩, g5⟩, g6⟩ := h5
  simp [Cond.before, Cond.holds, Cond.value, h1, h2, h3, h4, g1, g2, g3, g4, g5, g6]
def isCode : Jvm.Cond → Bool
  | .code _ _ _ _ => true
  | _ => false
theorem all_split {L : List Jvm.Cond} {P : Jvm.Cond → Bool} (h1 : L.all (fun c => isCode c || P c) = true) (h2 : ∀ c ∈ L.filter isCode, P c = true) : L.all P = true := by
  refine List.all_eq_true.mpr fun c hc => ?_
  have h := List.all_eq_true.mp h1 c hc
  rcases Bool.eq_false_or_eq_true (isCode c) with hi | hi
  · exact h2 c (List.mem_filter.mpr ⟨hc, hi⟩)
  · simpa [hi] using h
set_option maxRecDepth 65536 in
theorem w_c0 : (Jvm.Cond.code x code maxLocals ret).before args0 about1 = true := code_word (m := ⟨1, 3⟩) (meth := k1m3) (c := k1c3) (by decide +kernel) rfl rfl rfl (by decide +kernel)
set_option maxRecDepth 65536 in
theorem w_c1 : (Jvm.Cond.code ({ cls := "com/example/descant/descant/xml/XmlNames", name := "isNameStart", desc := "(I)Z" } : Jvm.MethodName) prog_134_method_7_code (1 : Nat) (Option.some Jvm.ClassFile.FieldType.boolean)).before args0 about1 = true := code_word (m := ⟨2, 1⟩) (meth := k2m1) (c := k2c1) (by decide +kernel) rfl rfl rfl (by decide +kernel)
set_option maxRecDepth 65536 in
theorem w_c2 : (Jvm.Cond.code ({ cls := "com/example/descant/descant/xml/XmlNamesIsNameStartPinLaw", name := "reference", desc := "(I)Z" } : Jvm.MethodName) method_3_code (1 : Nat) (Option.some Jvm.ClassFile.FieldType.boolean)).before args0 about1 = true := code_word (m := ⟨1, 2⟩) (meth := k1m2) (c := k1c2) (by decide +kernel) rfl rfl rfl (by decide +kernel)
set_option maxRecDepth 65536 in
theorem w_c3 : (Jvm.Cond.code ({ cls := "com/example/descant/descant/xml/XmlNamesIsNameStartPinLaw", name := "in", desc := "(III)Z" } : Jvm.MethodName) method_2_code (3 : Nat) (Option.some Jvm.ClassFile.FieldType.boolean)).before args0 about1 = true := code_word (m := ⟨1, 1⟩) (meth := k1m1) (c := k1c1) (by decide +kernel) rfl rfl rfl (by decide +kernel)
def codes1 : List Jvm.Cond := [Jvm.Cond.code x code maxLocals ret, Jvm.Cond.code ({ cls := "com/example/descant/descant/xml/XmlNames", name := "isNameStart", desc := "(I)Z" } : Jvm.MethodName) prog_134_method_7_code (1 : Nat) (Option.some Jvm.ClassFile.FieldType.boolean), Jvm.Cond.code ({ cls := "com/example/descant/descant/xml/XmlNamesIsNameStartPinLaw", name := "reference", desc := "(I)Z" } : Jvm.MethodName) method_3_code (1 : Nat) (Option.some Jvm.ClassFile.FieldType.boolean), Jvm.Cond.code ({ cls := "com/example/descant/descant/xml/XmlNamesIsNameStartPinLaw", name := "in", desc := "(III)Z" } : Jvm.MethodName) method_2_code (3 : Nat) (Option.some Jvm.ClassFile.FieldType.boolean)]
set_option maxRecDepth 65536 in
theorem codes_eq : words1.filter isCode = codes1 := rfl
theorem w_codes : ∀ c ∈ words1.filter isCode, c.before args0 about1 = true := by
  rw [codes_eq]
  intro c hc
  simp only [codes1, List.mem_cons, List.not_mem_nil, or_false] at hc
  rcases hc with rfl | rfl | rfl | rfl
  · exact w_c0
  · exact w_c1
  · exact w_c2
  · exact w_c3
set_option maxRecDepth 65536 in
theorem w_t1 : (words1.take 24).all (fun c => isCode c || c.before args0 about1) = true := by decide +kernel
set_option maxRecDepth 65536 in
theorem w_t2 : (words1.drop 24).all (fun c => isCode c || c.before args0 about1) = true := by decide +kernel
theorem w_tables : (allAtoms (Jvm.Cond.code x code maxLocals ret :: tables_1)).before args0 about1 = true := by
  rw [allAtoms_all]
  show words1.all (fun c => c.before args0 about1) = true
  refine all_split ?_ w_codes
  rw [← List.take_append_drop 24 words1, List.all_append, w_t1, w_t2]
  rfl
set_option maxRecDepth 65536 in
theorem w_case : (Jvm.Cond.and given_1 narrow_1).before args0 about1 = true := by decide +kernel
theorem w_applies : (headSpec (Jvm.Cond.code x code maxLocals ret :: tables_1) room_1).applies x e0.platform about1 = true :=
  (Spec.applies_iff w_frames).mpr ⟨w_running, w_runnable, w_alone, w_named, w_hears, w_ripe, w_room, w_tables⟩
theorem atStart : AtStart classFile x code maxLocals ret World_1 tables_1 room_1 Calls_1 rest_1 Pre_1 launch0 p0 e0 about1 theMethod args0 below0 :=
  ⟨lists_1, trivial, launch0.admits_env _ _ _, launch0.least_env, fairChoices_fair.cas, fairChoices_fair.clock, w_frames, w_args, w_heap, w_applies, trivial, trivial, w_case⟩
end start1
theorem witness_1 : WitnessClaimed_1 := ⟨start1.p0, start1.e0, start1.about1, start1.theMethod, start1.args0, start1.below0, start1.atStart⟩
end Jvm.Pilot.@@N@@
