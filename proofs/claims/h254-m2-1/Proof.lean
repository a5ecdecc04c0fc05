import JvmDerived
import JvmDerived.Pilot.@@N@@Statement
import JvmDerived.Pilot.@@N@@Code
set_option linter.unusedVariables false
set_option linter.unusedSimpArgs false
@@BLOCK:NumsL.lean.txt@@
namespace Jvm.Pilot.@@N@@
open Jvm Jvm.ClassFile Sem Op Lib Jvm.Free Jvm.Stand Jvm.LawKit Jvm.RoadKit Bundle Jvm.Pilot.@@N@@.Jvm.D

section OwnKit
variable {p : Program} {l : Launch} {e : Env} {R : Room} {s : State} {m : MethodId} {args : Array Value} {below : List Frame} {meth : Method} {c : Code} {T T' : State} {locs : List Loc} {cells slots : Nat} {Z : State} {h h' : Heap}
/-- from the state T with the frame g on top the run ends well -/
def own_G (p : Program) (e : Env) (below : List Frame) (s : State) (kc ks : Nat) (Q : Option Value → Heap → List Loc → Prop) (T : State) (g : JFrame) : Prop :=
  ∃ (U : State) (o : Outcome), Steps p.tables e below (T.setTop g) U ∧ U.status = .running ∧ Ended U below o ∧ ∃ v L, o = .returned v ∧ Q v U.heap L ∧ FrameEnd s o U L kc ks
variable {kc ks : Nat} {Q : Option Value → Heap → List Loc → Prop}
theorem own_step {g g' : JFrame} (k : ∀ t, Steps p.tables e below (T'.setTop g') t → Steps p.tables e below (T.setTop g) t) (hh : own_G p e below s kc ks Q T' g') : own_G p e below s kc ks Q T g := by
  obtain ⟨U, o, h1, h2⟩ := hh
  exact ⟨U, o, k _ h1, h2⟩
theorem own_retN (X : Stand p l e R s m args below meth c T locs cells slots) (hx : p.tables.exec = Jvm.exec) (hlk : meth.locks = false) {pc : Nat} {Ls : Array Slot} {z w : Int32} {t : FieldType} {rest : List Value} (hret : meth.sig.returnType = some t) (ht : t = .boolean ∨ t = .byte ∨ t = .char ∨ t = .short) (hd : decode c.code pc = .ok (.ireturn, 1)) (hw : nar t z = w) (hc : cells ≤ kc) (hs : slots ≤ ks) (hQ : Q (some (.int w)) T.heap locs) :
    own_G p e below s kc ks Q T (mkF m pc Ls (.int z :: rest)) := by
  subst hw
  obtain ⟨fs, hr, hrun, hended, hW, hsame⟩ := X.leave (v := some (.int (nar t z))) (fun q => by rw [hret] at q; cases q) hlk
  exact ⟨_, _, retN X hx hret ht hd hr, hrun, hended, _, _, rfl, hQ, ⟨_, rfl⟩, hW, hsame.mono hc hs⟩
theorem own_retI (X : Stand p l e R s m args below meth c T locs cells slots) (hx : p.tables.exec = Jvm.exec) (hlk : meth.locks = false) {pc : Nat} {Ls : Array Slot} {z : Int32} {rest : List Value} (hret : meth.sig.returnType = some .int) (hd : decode c.code pc = .ok (.ireturn, 1)) (hc : cells ≤ kc) (hs : slots ≤ ks) (hQ : Q (some (.int z)) T.heap locs) :
    own_G p e below s kc ks Q T (mkF m pc Ls (.int z :: rest)) := by
  obtain ⟨fs, hr, hrun, hended, hW, hsame⟩ := X.leave (v := some (.int z)) (fun q => by rw [hret] at q; cases q) hlk
  exact ⟨_, _, retOut X hx hret rfl (Or.inl ⟨rfl, Or.inl rfl, z, rfl⟩) hd hr, hrun, hended, _, _, rfl, hQ, ⟨_, rfl⟩, hW, hsame.mono hc hs⟩
theorem own_retJ (X : Stand p l e R s m args below meth c T locs cells slots) (hx : p.tables.exec = Jvm.exec) (hlk : meth.locks = false) {pc : Nat} {Ls : Array Slot} {z : Int64} {rest : List Value} (hret : meth.sig.returnType = some .long) (hd : decode c.code pc = .ok (.lreturn, 1)) (hc : cells ≤ kc) (hs : slots ≤ ks) (hQ : Q (some (.long z)) T.heap locs) :
    own_G p e below s kc ks Q T (mkF m pc Ls (.long z :: rest)) := by
  obtain ⟨fs, hr, hrun, hended, hW, hsame⟩ := X.leave (v := some (.long z)) (fun q => by rw [hret] at q; cases q) hlk
  exact ⟨_, _, retOut X hx hret rfl (Or.inr (Or.inl ⟨rfl, rfl, z, rfl⟩)) hd hr, hrun, hended, _, _, rfl, hQ, ⟨_, rfl⟩, hW, hsame.mono hc hs⟩
theorem own_retR (X : Stand p l e R s m args below meth c T locs cells slots) (hx : p.tables.exec = Jvm.exec) (hlk : meth.locks = false) {pc : Nat} {Ls : Array Slot} {w : Value} {t : FieldType} {rest : List Value} (hret : meth.sig.returnType = some t) (ht : t.isReference = true) (hw : w.isRef = true) (hd : decode c.code pc = .ok (.areturn, 1)) (hc : cells ≤ kc) (hs : slots ≤ ks) (hQ : Q (some w) T.heap locs) :
    own_G p e below s kc ks Q T (mkF m pc Ls (w :: rest)) := by
  obtain ⟨fs, hr, hrun, hended, hW, hsame⟩ := X.leave (v := some w) (fun q => by rw [hret] at q; cases q) hlk
  have hn : narrow t w = w := by cases w <;> cases t <;> first | rfl | (cases hw; done) | (cases ht; done)
  exact ⟨_, _, retOut X hx hret hn (Or.inr (Or.inr (Or.inr (Or.inr ⟨rfl, ht, hw⟩)))) hd hr, hrun, hended, _, _, rfl, hQ, ⟨_, rfl⟩, hW, hsame.mono hc hs⟩
theorem own_retV (X : Stand p l e R s m args below meth c T locs cells slots) (hx : p.tables.exec = Jvm.exec) (hlk : meth.locks = false) {pc : Nat} {Ls : Array Slot} (hret : meth.sig.returnType = none) (hd : decode c.code pc = .ok (.return_, 1)) (hc : cells ≤ kc) (hs : slots ≤ ks) (hQ : Q none T.heap locs) :
    own_G p e below s kc ks Q T (mkF m pc Ls []) := by
  obtain ⟨fs, hr, hrun, hended, hW, hsame⟩ := X.leave (v := none) (fun _ => rfl) hlk
  exact ⟨_, _, X.returnOut hx hret hd hr, hrun, hended, _, _, rfl, hQ, ⟨_, rfl⟩, hW, hsame.mono hc hs⟩
theorem own_lksw (X : Stand p l e R s m args below meth c T locs cells slots) (hx : p.tables.exec = Jvm.exec) {g : JFrame} (hg : g.method = m) {d : Int} {prs : Array (Int × Int)} {len : Nat} (hd : decode c.code g.pc = .ok (.lookupswitch d prs, len)) {x : Int32} {rest : List Value} (hs : g.stack = .int x :: rest) (hp : (prs.toList.zip (prs.toList.drop 1)).all (fun (a, next) => a.1 < next.1) = true)
    {o : Int} (ho : lookupswitch.offset prs.toList d x.toInt = o) {pc0 pc' : Nat} (hpc : g.pc = pc0) (h0 : 0 ≤ (pc0 : Int) + o) (hq : ((pc0 : Int) + o).toNat = pc') {target : State}
    (k : Steps p.tables e below (T.setTop { g with pc := pc', stack := rest }) target) : Steps p.tables e below (T.setTop g) target := by
  subst hg hpc hq ho
  jvm_step X.here [X.here.top, hx, hd, hs, lookupswitch.wp_chain, hp, h0]
  exact ⟨by simpa using hp, k⟩
theorem own_sta_keep {C n d : String} {v : Value} {ws : List Addr} (F : Sta Z h C n d v) (K : Keep h h' ws) (q : ∀ a ∈ ws, ∀ cell : Cell, h[a]? = some cell → cell.vm.isStatics = false) : Sta Z h' C n d v := by
  obtain ⟨cf, i, k, f, st, cell, h1, h2, h3, h4, h5, h6, h7⟩ := F
  exact ⟨cf, i, k, f, st, cell, h1, h2, h3, h4, K.2.1 st cell h5 (fun hm => by rw [q st hm cell h5] at h6; cases h6), h6, h7⟩
end OwnKit
theorem pd_0 : parseMethodDescriptor "(II)I" = some ⟨[.int, .int], some .int⟩ := by decide +kernel
theorem pd_1 : parseMethodDescriptor "(I)I" = some ⟨[.int], some .int⟩ := by decide +kernel
theorem pn_0 : plainName "com/example/ontolith/ontolith/core/RoleHierarchyInversePinLaw" = true := by first | (simp [plainName, overriddenIn]; done) | decide +kernel
theorem d1_0 : decode jdk_29_method_65_code 0 = .ok (.iload_n 0, 1) := by decide +kernel
theorem d1_1 : decode jdk_29_method_65_code 1 = .ok (.iload_n 1, 1) := by decide +kernel
theorem d1_2 : decode jdk_29_method_65_code 2 = .ok (.if_icmp .lt 7, 3) := by decide +kernel
theorem d1_5 : decode jdk_29_method_65_code 5 = .ok (.iload_n 0, 1) := by decide +kernel
theorem d1_6 : decode jdk_29_method_65_code 6 = .ok (.goto 4, 3) := by decide +kernel
theorem d1_9 : decode jdk_29_method_65_code 9 = .ok (.iload_n 1, 1) := by decide +kernel
theorem d1_10 : decode jdk_29_method_65_code 10 = .ok (.ireturn, 1) := by decide +kernel
theorem d2_0 : decode prog_65_method_3_code 0 = .ok (.iload_n 0, 1) := by decide +kernel
theorem d2_1 : decode prog_65_method_3_code 1 = .ok (.iload_n 1, 1) := by decide +kernel
theorem d2_2 : decode prog_65_method_3_code 2 = .ok (.if_icmp .ge 9, 3) := by decide +kernel
theorem d2_5 : decode prog_65_method_3_code 5 = .ok (.iload_n 0, 1) := by decide +kernel
theorem d2_6 : decode prog_65_method_3_code 6 = .ok (.iload_n 1, 1) := by decide +kernel
theorem d2_7 : decode prog_65_method_3_code 7 = .ok (.iadd, 1) := by decide +kernel
theorem d2_8 : decode prog_65_method_3_code 8 = .ok (.goto 6, 3) := by decide +kernel
theorem d2_11 : decode prog_65_method_3_code 11 = .ok (.iload_n 0, 1) := by decide +kernel
theorem d2_12 : decode prog_65_method_3_code 12 = .ok (.iload_n 1, 1) := by decide +kernel
theorem d2_13 : decode prog_65_method_3_code 13 = .ok (.isub, 1) := by decide +kernel
theorem d2_14 : decode prog_65_method_3_code 14 = .ok (.ireturn, 1) := by decide +kernel
theorem pn_2 : plainName "com/example/ontolith/ontolith/core/RoleHierarchy" = true := by first | (simp [plainName, overriddenIn]; done) | decide +kernel
theorem d3_0 : decode jdk_29_method_59_code 0 = .ok (.iload_n 0, 1) := by decide +kernel
theorem d3_1 : decode jdk_29_method_59_code 1 = .ok (.ifCond .ge 8, 3) := by decide +kernel
theorem d3_4 : decode jdk_29_method_59_code 4 = .ok (.iload_n 0, 1) := by decide +kernel
theorem d3_5 : decode jdk_29_method_59_code 5 = .ok (.ineg, 1) := by decide +kernel
theorem d3_6 : decode jdk_29_method_59_code 6 = .ok (.goto 4, 3) := by decide +kernel
theorem d3_9 : decode jdk_29_method_59_code 9 = .ok (.iload_n 0, 1) := by decide +kernel
theorem d3_10 : decode jdk_29_method_59_code 10 = .ok (.ireturn, 1) := by decide +kernel
def fn1 (p0 : Int32) (p1 : Int32) : Int32 := if p0 < p1 then p1 else p0
theorem ef_rm1 (m : MethodId) (x0 : Int32) (x1 : Int32) : entryFrame m #[(.int x0), (.int x1)] 2 = mkF m 0 #[.val (.int x0), .val (.int x1)] [] := by first | (simp [entryFrame, mkF, argsToLocals, Value.category]; done) | rfl
def Qrm1 (Z : State) (p0 : Int32) (p1 : Int32) (h0 : Heap) (n0 : Nat) (v : Option Value) (h : Heap) (L : List Loc) : Prop := v = some (.int (fn1 p0 p1)) ∧ Fr n0 L ∧ h = h0
set_option maxRecDepth 65536 in
set_option maxHeartbeats 40000000 in
theorem rm1 (l : Launch) (Z : State) (a0 : Array Value) (hw : ∀ d ∈ tables_1, d.before a0 Z = true) (ws : List Jvm.Cond) (p0 : Int32) (p1 : Int32) (h0 : Heap) (n0 : Nat) (Z0 : n0 ≤ h0.size) :
    MetFree l (⟨"java/lang/Math", "max", "(II)I"⟩ : MethodName) (head1 (Jvm.Cond.code (⟨"java/lang/Math", "max", "(II)I"⟩ : MethodName) jdk_29_method_65_code 2 (some .int) :: ws) ({ frames := 0, cells := 0, slots := 0, locals := 0 } : Room)) (fun a U => a = #[(.int p0), (.int p1)] ∧ Z.Warmed39 U.vm ∧ U.heap = h0) (fun _ _ _ _ _ => True) (fun _ U o U' => ∃ v L, o = .returned v ∧ Qrm1 Z p0 p1 h0 n0 v U'.heap L ∧ FrameEnd U o U' L ({ frames := 0, cells := 0, slots := 0, locals := 0 } : Room).cells ({ frames := 0, cells := 0, slots := 0, locals := 0 } : Room).slots) := by
  refine MetFree.of_bodySF (Jvm.Free.JP.mathPlain rfl (by decide +kernel)) hisR ?_
  intro p e s m args below meth c s₁ Bd hml0 hP hK
  obtain ⟨rfl, hZ, hh⟩ := hP
  have hx := Bd.exec
  have hby := Bd.bytes
  have hlk : meth.locks = false := BodyLoose.notSynchronized Bd
  have hml : c.maxLocals = 2 := hml0
  have hown : s.vm.findClass "java/lang/Math" = some m.cls := findClass_of_methodNamed Bd.named
  have hnm := (name_of_methodNamed Bd.named Bd.method).1
  have X0 : Stand p l e ({ frames := 0, cells := 0, slots := 0, locals := 0 } : Room) s m #[(.int p0), (.int p1)] below meth c s₁ [] 0 0 := Stand.of_body Bd
  have e0 : s₁.heap = h0 := by rw [← hh, Bd.state]; rfl
  have N0 := Fr.nil n0
  have K0 : Keep h0 h0 [] := Keep.refl h0 []
  show own_G p e below s 0 0 (Qrm1 Z p0 p1 h0 n0) s₁ (entryFrame m #[(.int p0), (.int p1)] 2)
  rw [ef_rm1 m p0 p1]
  refine own_step (T' := s₁) (g' := (mkF m 1 #[.val (.int p0), .val (.int p1)] [(.int p0)])) (fun t k => XS.iloadN X0.here hx rfl (hb hby d1_0) rfl k) ?_
  refine own_step (T' := s₁) (g' := (mkF m 2 #[.val (.int p0), .val (.int p1)] [(.int p1), (.int p0)])) (fun t k => XS.iloadN X0.here hx rfl (hb hby d1_1) rfl k) ?_
  by_cases hc2_1 : p0 < p1
  · refine own_step (T' := s₁) (g' := (mkF m 9 #[.val (.int p0), .val (.int p1)] [])) (fun t k => XS.icmpYes X0.here hx rfl (pc0 := 2) (pc' := 9) rfl (hb hby d1_2) rfl (tlt hc2_1).1 (by decide) (by decide) k) ?_
    refine own_step (T' := s₁) (g' := (mkF m 10 #[.val (.int p0), .val (.int p1)] [(.int p1)])) (fun t k => XS.iloadN X0.here hx rfl (hb hby d1_9) rfl k) ?_
    refine own_retI X0 hx hlk Bd.returns (hb hby d1_10) (by decide) (by decide) ?_
    exact ⟨congrArg some (congrArg Value.int (show p1 = (fn1 p0 p1) from by unfold fn1; rw [if_pos hc2_1])), N0, e0⟩
  · refine own_step (T' := s₁) (g' := (mkF m 5 #[.val (.int p0), .val (.int p1)] [])) (fun t k => XS.icmpNo X0.here hx rfl (hb hby d1_2) rfl (flt hc2_1).1 k) ?_
    refine own_step (T' := s₁) (g' := (mkF m 6 #[.val (.int p0), .val (.int p1)] [(.int p0)])) (fun t k => XS.iloadN X0.here hx rfl (hb hby d1_5) rfl k) ?_
    refine own_step (T' := s₁) (g' := (mkF m 10 #[.val (.int p0), .val (.int p1)] [(.int p0)])) (fun t k => XS.goto X0.here hx rfl (pc0 := 6) (pc' := 10) rfl (hb hby d1_6) (by decide) (by decide) k) ?_
    refine own_retI X0 hx hlk Bd.returns (hb hby d1_10) (by decide) (by decide) ?_
    exact ⟨congrArg some (congrArg Value.int (show p0 = (fn1 p0 p1) from by unfold fn1; rw [if_neg hc2_1])), N0, e0⟩
def fn2 (p0 : Int32) (p1 : Int32) : Int32 := if p0 < p1 then (p0 + p1) else (p0 - p1)
theorem ef_rm2 (m : MethodId) (x0 : Int32) (x1 : Int32) : entryFrame m #[(.int x0), (.int x1)] 2 = mkF m 0 #[.val (.int x0), .val (.int x1)] [] := by first | (simp [entryFrame, mkF, argsToLocals, Value.category]; done) | rfl
def Qrm2 (Z : State) (p0 : Int32) (p1 : Int32) (h0 : Heap) (n0 : Nat) (v : Option Value) (h : Heap) (L : List Loc) : Prop := v = some (.int (fn2 p0 p1)) ∧ Fr n0 L ∧ h = h0
set_option maxRecDepth 65536 in
set_option maxHeartbeats 40000000 in
theorem rm2 (l : Launch) (Z : State) (a0 : Array Value) (hw : ∀ d ∈ tables_1, d.before a0 Z = true) (ws : List Jvm.Cond) (p0 : Int32) (p1 : Int32) (h0 : Heap) (n0 : Nat) (Z0 : n0 ≤ h0.size) :
    MetFree l (⟨"com/example/ontolith/ontolith/core/RoleHierarchy", "inverse", "(II)I"⟩ : MethodName) (head1 (Jvm.Cond.code (⟨"com/example/ontolith/ontolith/core/RoleHierarchy", "inverse", "(II)I"⟩ : MethodName) prog_65_method_3_code 2 (some .int) :: ws) ({ frames := 0, cells := 0, slots := 0, locals := 0 } : Room)) (fun a U => a = #[(.int p0), (.int p1)] ∧ Z.Warmed39 U.vm ∧ U.heap = h0) (fun _ _ _ _ _ => True) (fun _ U o U' => ∃ v L, o = .returned v ∧ Qrm2 Z p0 p1 h0 n0 v U'.heap L ∧ FrameEnd U o U' L ({ frames := 0, cells := 0, slots := 0, locals := 0 } : Room).cells ({ frames := 0, cells := 0, slots := 0, locals := 0 } : Room).slots) := by
  refine MetFree.of_bodySF (plainFor_of_name pn_2) hisR ?_
  intro p e s m args below meth c s₁ Bd hml0 hP hK
  obtain ⟨rfl, hZ, hh⟩ := hP
  have hx := Bd.exec
  have hby := Bd.bytes
  have hlk : meth.locks = false := BodyLoose.notSynchronized Bd
  have hml : c.maxLocals = 2 := hml0
  have hown : s.vm.findClass "com/example/ontolith/ontolith/core/RoleHierarchy" = some m.cls := findClass_of_methodNamed Bd.named
  have hnm := (name_of_methodNamed Bd.named Bd.method).1
  have X0 : Stand p l e ({ frames := 0, cells := 0, slots := 0, locals := 0 } : Room) s m #[(.int p0), (.int p1)] below meth c s₁ [] 0 0 := Stand.of_body Bd
  have e0 : s₁.heap = h0 := by rw [← hh, Bd.state]; rfl
  have N0 := Fr.nil n0
  have K0 : Keep h0 h0 [] := Keep.refl h0 []
  show own_G p e below s 0 0 (Qrm2 Z p0 p1 h0 n0) s₁ (entryFrame m #[(.int p0), (.int p1)] 2)
  rw [ef_rm2 m p0 p1]
  refine own_step (T' := s₁) (g' := (mkF m 1 #[.val (.int p0), .val (.int p1)] [(.int p0)])) (fun t k => XS.iloadN X0.here hx rfl (hb hby d2_0) rfl k) ?_
  refine own_step (T' := s₁) (g' := (mkF m 2 #[.val (.int p0), .val (.int p1)] [(.int p1), (.int p0)])) (fun t k => XS.iloadN X0.here hx rfl (hb hby d2_1) rfl k) ?_
  by_cases hc2_1 : p0 < p1
  · refine own_step (T' := s₁) (g' := (mkF m 5 #[.val (.int p0), .val (.int p1)] [])) (fun t k => XS.icmpNo X0.here hx rfl (hb hby d2_2) rfl (tlt hc2_1).2.1 k) ?_
    refine own_step (T' := s₁) (g' := (mkF m 6 #[.val (.int p0), .val (.int p1)] [(.int p0)])) (fun t k => XS.iloadN X0.here hx rfl (hb hby d2_5) rfl k) ?_
    refine own_step (T' := s₁) (g' := (mkF m 7 #[.val (.int p0), .val (.int p1)] [(.int p1), (.int p0)])) (fun t k => XS.iloadN X0.here hx rfl (hb hby d2_6) rfl k) ?_
    refine own_step (T' := s₁) (g' := (mkF m 8 #[.val (.int p0), .val (.int p1)] [(.int (p0 + p1))])) (fun t k => XS.iadd X0.here hx rfl (hb hby d2_7) rfl k) ?_
    refine own_step (T' := s₁) (g' := (mkF m 14 #[.val (.int p0), .val (.int p1)] [(.int (p0 + p1))])) (fun t k => XS.goto X0.here hx rfl (pc0 := 8) (pc' := 14) rfl (hb hby d2_8) (by decide) (by decide) k) ?_
    refine own_retI X0 hx hlk Bd.returns (hb hby d2_14) (by decide) (by decide) ?_
    exact ⟨congrArg some (congrArg Value.int (show (p0 + p1) = (fn2 p0 p1) from by unfold fn2; rw [if_pos hc2_1])), N0, e0⟩
  · refine own_step (T' := s₁) (g' := (mkF m 11 #[.val (.int p0), .val (.int p1)] [])) (fun t k => XS.icmpYes X0.here hx rfl (pc0 := 2) (pc' := 11) rfl (hb hby d2_2) rfl (flt hc2_1).2.1 (by decide) (by decide) k) ?_
    refine own_step (T' := s₁) (g' := (mkF m 12 #[.val (.int p0), .val (.int p1)] [(.int p0)])) (fun t k => XS.iloadN X0.here hx rfl (hb hby d2_11) rfl k) ?_
    refine own_step (T' := s₁) (g' := (mkF m 13 #[.val (.int p0), .val (.int p1)] [(.int p1), (.int p0)])) (fun t k => XS.iloadN X0.here hx rfl (hb hby d2_12) rfl k) ?_
    refine own_step (T' := s₁) (g' := (mkF m 14 #[.val (.int p0), .val (.int p1)] [(.int (p0 - p1))])) (fun t k => XS.isub X0.here hx rfl (hb hby d2_13) rfl k) ?_
    refine own_retI X0 hx hlk Bd.returns (hb hby d2_14) (by decide) (by decide) ?_
    exact ⟨congrArg some (congrArg Value.int (show (p0 - p1) = (fn2 p0 p1) from by unfold fn2; rw [if_neg hc2_1])), N0, e0⟩
def fn3 (p0 : Int32) : Int32 := if p0 < (0 : Int32) then (-p0) else p0
theorem ef_rm3 (m : MethodId) (x0 : Int32) : entryFrame m #[(.int x0)] 1 = mkF m 0 #[.val (.int x0)] [] := by first | (simp [entryFrame, mkF, argsToLocals, Value.category]; done) | rfl
def Qrm3 (Z : State) (p0 : Int32) (h0 : Heap) (n0 : Nat) (v : Option Value) (h : Heap) (L : List Loc) : Prop := v = some (.int (fn3 p0)) ∧ Fr n0 L ∧ h = h0
set_option maxRecDepth 65536 in
set_option maxHeartbeats 40000000 in
theorem rm3 (l : Launch) (Z : State) (a0 : Array Value) (hw : ∀ d ∈ tables_1, d.before a0 Z = true) (ws : List Jvm.Cond) (p0 : Int32) (h0 : Heap) (n0 : Nat) (Z0 : n0 ≤ h0.size) :
    MetFree l (⟨"java/lang/Math", "abs", "(I)I"⟩ : MethodName) (head1 (Jvm.Cond.code (⟨"java/lang/Math", "abs", "(I)I"⟩ : MethodName) jdk_29_method_59_code 1 (some .int) :: ws) ({ frames := 0, cells := 0, slots := 0, locals := 0 } : Room)) (fun a U => a = #[(.int p0)] ∧ Z.Warmed39 U.vm ∧ U.heap = h0) (fun _ _ _ _ _ => True) (fun _ U o U' => ∃ v L, o = .returned v ∧ Qrm3 Z p0 h0 n0 v U'.heap L ∧ FrameEnd U o U' L ({ frames := 0, cells := 0, slots := 0, locals := 0 } : Room).cells ({ frames := 0, cells := 0, slots := 0, locals := 0 } : Room).slots) := by
  refine MetFree.of_bodySF (Jvm.Free.JP.mathPlain rfl (by decide +kernel)) hisR ?_
  intro p e s m args below meth c s₁ Bd hml0 hP hK
  obtain ⟨rfl, hZ, hh⟩ := hP
  have hx := Bd.exec
  have hby := Bd.bytes
  have hlk : meth.locks = false := BodyLoose.notSynchronized Bd
  have hml : c.maxLocals = 1 := hml0
  have hown : s.vm.findClass "java/lang/Math" = some m.cls := findClass_of_methodNamed Bd.named
  have hnm := (name_of_methodNamed Bd.named Bd.method).1
  have X0 : Stand p l e ({ frames := 0, cells := 0, slots := 0, locals := 0 } : Room) s m #[(.int p0)] below meth c s₁ [] 0 0 := Stand.of_body Bd
  have e0 : s₁.heap = h0 := by rw [← hh, Bd.state]; rfl
  have N0 := Fr.nil n0
  have K0 : Keep h0 h0 [] := Keep.refl h0 []
  show own_G p e below s 0 0 (Qrm3 Z p0 h0 n0) s₁ (entryFrame m #[(.int p0)] 1)
  rw [ef_rm3 m p0]
  refine own_step (T' := s₁) (g' := (mkF m 1 #[.val (.int p0)] [(.int p0)])) (fun t k => XS.iloadN X0.here hx rfl (hb hby d3_0) rfl k) ?_
  by_cases hc1_1 : p0 < (0 : Int32)
  · refine own_step (T' := s₁) (g' := (mkF m 4 #[.val (.int p0)] [])) (fun t k => XS.ifNo X0.here hx rfl (hb hby d3_1) rfl ((if0 _ _).trans (tlt hc1_1).2.1) k) ?_
    refine own_step (T' := s₁) (g' := (mkF m 5 #[.val (.int p0)] [(.int p0)])) (fun t k => XS.iloadN X0.here hx rfl (hb hby d3_4) rfl k) ?_
    refine own_step (T' := s₁) (g' := (mkF m 6 #[.val (.int p0)] [(.int (-p0))])) (fun t k => XS.ineg X0.here hx rfl (hb hby d3_5) rfl k) ?_
    refine own_step (T' := s₁) (g' := (mkF m 10 #[.val (.int p0)] [(.int (-p0))])) (fun t k => XS.goto X0.here hx rfl (pc0 := 6) (pc' := 10) rfl (hb hby d3_6) (by decide) (by decide) k) ?_
    refine own_retI X0 hx hlk Bd.returns (hb hby d3_10) (by decide) (by decide) ?_
    exact ⟨congrArg some (congrArg Value.int (show (-p0) = (fn3 p0) from by unfold fn3; rw [if_pos hc1_1])), N0, e0⟩
  · refine own_step (T' := s₁) (g' := (mkF m 9 #[.val (.int p0)] [])) (fun t k => XS.ifYes X0.here hx rfl (pc0 := 1) (pc' := 9) rfl (hb hby d3_1) rfl ((if0 _ _).trans (flt hc1_1).2.1) (by decide) (by decide) k) ?_
    refine own_step (T' := s₁) (g' := (mkF m 10 #[.val (.int p0)] [(.int p0)])) (fun t k => XS.iloadN X0.here hx rfl (hb hby d3_9) rfl k) ?_
    refine own_retI X0 hx hlk Bd.returns (hb hby d3_10) (by decide) (by decide) ?_
    exact ⟨congrArg some (congrArg Value.int (show p0 = (fn3 p0) from by unfold fn3; rw [if_neg hc1_1])), N0, e0⟩

theorem own_max (p v : Int32) (hv : fn1 1 (p &&& 1073741823) = v) : 1 ≤ v.toInt ∧ v.toInt ≤ 1073741823 := by
  have e1 : (p &&& 1073741823).toInt = p.toInt % 2 ^ 30 := Jvm.Kit.i32_mask p 1073741823 (k := 30) (by decide) (by decide)
  subst hv
  have e2 : (1 : Int32).toInt = 1 := by decide
  unfold fn1
  split
  · rename_i q
    rw [Int32.lt_iff_toInt_lt, e2] at q
    constructor <;> omega
  · rw [e2]
    constructor <;> omega
theorem own_dbl (n v : Int32) (h1 : 1 ≤ n.toInt ∧ n.toInt ≤ 1073741823) (hv : (2 : Int32) * n = v) : v.toInt = 2 * n.toInt := by
  subst hv
  have h2 : (2 : Int32).toInt = 2 := by decide
  rw [Int32.toInt_mul, h2]
  exact Int.bmod_eq_of_le (by omega) (by omega)
theorem own_rem (r c v : Int32) (hc : 2 ≤ c.toInt) (hv : (r &&& 2147483647) % c = v) : 0 ≤ v.toInt ∧ v.toInt < c.toInt := by
  have e1 : (r &&& 2147483647).toInt = r.toInt % 2 ^ 31 := Jvm.Kit.i32_mask r 2147483647 (k := 31) (by decide) (by decide)
  subst hv
  rw [Int32.toInt_mod, Int.tmod_eq_emod_of_nonneg (by omega)]
  exact ⟨Int.emod_nonneg _ (by omega), Int.emod_lt_of_pos _ (by omega)⟩
theorem own_inv (r n v : Int32) (h1 : 1 ≤ n.toInt ∧ n.toInt ≤ 1073741823) (h2 : 0 ≤ r.toInt ∧ r.toInt < 2 * n.toInt) (hv : fn2 r n = v) : (r.toInt < n.toInt ∧ v.toInt = r.toInt + n.toInt) ∨ (n.toInt ≤ r.toInt ∧ v.toInt = r.toInt - n.toInt) := by
  subst hv
  unfold fn2
  split
  · rename_i q
    rw [Int32.lt_iff_toInt_lt] at q
    left
    refine ⟨q, ?_⟩
    rw [Int32.toInt_add]; exact Int.bmod_eq_of_le (by omega) (by omega)
  · rename_i q
    rw [Int32.lt_iff_toInt_lt] at q
    right
    refine ⟨by omega, ?_⟩
    rw [Int32.toInt_sub]; exact Int.bmod_eq_of_le (by omega) (by omega)
theorem own_abs (x r n : Int32) (h1 : 1 ≤ n.toInt ∧ n.toInt ≤ 1073741823) (h2 : 0 ≤ r.toInt ∧ r.toInt < 2 * n.toInt) (h3 : (r.toInt < n.toInt ∧ x.toInt = r.toInt + n.toInt) ∨ (n.toInt ≤ r.toInt ∧ x.toInt = r.toInt - n.toInt)) : fn3 (x - r) = n := by
  have e1 : (x - r).toInt = x.toInt - r.toInt := by rw [Int32.toInt_sub]; exact Int.bmod_eq_of_le (by omega) (by omega)
  have e0 : (0 : Int32).toInt = 0 := by decide
  unfold fn3
  apply Int32.toInt_inj.mp
  split
  · rename_i q
    rw [Int32.lt_iff_toInt_lt] at q
    rw [Int32.toInt_neg, Int.bmod_eq_of_le (by omega) (by omega)]; omega
  · rename_i q
    rw [Int32.lt_iff_toInt_lt] at q
    omega
theorem own_back (x r n : Int32) (h1 : 1 ≤ n.toInt ∧ n.toInt ≤ 1073741823) (h2 : 0 ≤ r.toInt ∧ r.toInt < 2 * n.toInt) (h3 : (r.toInt < n.toInt ∧ x.toInt = r.toInt + n.toInt) ∨ (n.toInt ≤ r.toInt ∧ x.toInt = r.toInt - n.toInt)) : fn2 x n = r := by
  have := own_inv x n _ h1 (by omega) rfl
  apply Int32.toInt_inj.mp
  omega
theorem ef_rm0 (m : MethodId) (x0 : Int32) (x1 : Int32) : entryFrame m #[(.int x0), (.int x1)] maxLocals = mkF m 0 #[.val (.int x0), .val (.int x1), .unset, .unset, .unset, .unset, .unset, .unset] [] := by first | (simp [entryFrame, mkF, argsToLocals, Value.category, maxLocals]; done) | rfl
def Qrm0 (Z : State) (p0 : Int32) (p1 : Int32) (h0 : Heap) (n0 : Nat) (v : Option Value) (h : Heap) (L : List Loc) : Prop := v = some (.int (1 : Int32)) ∧ Fr n0 L
set_option maxRecDepth 65536 in
set_option maxHeartbeats 40000000 in
theorem rm0 (l : Launch) (Z : State) (a0 : Array Value) (hw : ∀ d ∈ tables_1, d.before a0 Z = true) (ws : List Jvm.Cond) (p0 : Int32) (p1 : Int32) (h0 : Heap) (n0 : Nat) (Z0 : n0 ≤ h0.size) :
    MetFree l x (head1 (Jvm.Cond.code x code maxLocals ret :: ws) room_1) (fun a U => a = #[(.int p0), (.int p1)] ∧ Z.Warmed39 U.vm ∧ U.heap = h0) (fun _ _ _ _ _ => True) (fun _ U o U' => ∃ v L, o = .returned v ∧ Qrm0 Z p0 p1 h0 n0 v U'.heap L ∧ FrameEnd U o U' L 0 0) := by
  refine MetFree.of_bodySF (plainFor_of_name pn_0) hisR ?_
  intro p e s m args below meth c s₁ Bd hml0 hP hK
  obtain ⟨rfl, hZ, hh⟩ := hP
  have hx := Bd.exec
  have hby := Bd.bytes
  have hlk : meth.locks = false := BodyLoose.notSynchronized Bd
  have hml : c.maxLocals = 8 := hml0
  have hown : s.vm.findClass "com/example/ontolith/ontolith/core/RoleHierarchyInversePinLaw" = some m.cls := findClass_of_methodNamed Bd.named
  have hnm := (name_of_methodNamed Bd.named Bd.method).1
  have X0 : Stand p l e room_1 s m #[(.int p0), (.int p1)] below meth c s₁ [] 0 0 := Stand.of_body Bd
  have e0 : s₁.heap = h0 := by rw [← hh, Bd.state]; rfl
  have N0 := Fr.nil n0
  have K0 : Keep h0 h0 [] := Keep.refl h0 []
  show own_G p e below s 0 0 (Qrm0 Z p0 p1 h0 n0) s₁ (entryFrame m #[(.int p0), (.int p1)] maxLocals)
  rw [ef_rm0 m p0 p1]
  refine own_step (T' := s₁) (g' := (mkF m 1 #[.val (.int p0), .val (.int p1), .unset, .unset, .unset, .unset, .unset, .unset] [(.int (1 : Int32))])) (fun t k => XS.iconst X0.here hx rfl (hb hby at_0) k) ?_
  refine own_step (T' := s₁) (g' := (mkF m 2 #[.val (.int p0), .val (.int p1), .unset, .unset, .unset, .unset, .unset, .unset] [(.int p0), (.int (1 : Int32))])) (fun t k => XS.iloadN X0.here hx rfl (hb hby at_1) rfl k) ?_
  refine own_step (T' := s₁) (g' := (mkF m 4 #[.val (.int p0), .val (.int p1), .unset, .unset, .unset, .unset, .unset, .unset] [(.int (1073741823 : Int32)), (.int p0), (.int (1 : Int32))])) (fun t k => X0.ldcInt hx hown (mvT hZ (hw _ (List.mem_of_getElem? (i := 0) rfl))) (g := (mkF m 2 #[.val (.int p0), .val (.int p1), .unset, .unset, .unset, .unset, .unset, .unset] [(.int p0), (.int (1 : Int32))])) rfl (hb hby at_2) t k) ?_
  refine own_step (T' := s₁) (g' := (mkF m 5 #[.val (.int p0), .val (.int p1), .unset, .unset, .unset, .unset, .unset, .unset] [(.int (p0 &&& (1073741823 : Int32))), (.int (1 : Int32))])) (fun t k => XS.iand X0.here hx rfl (hb hby at_4) rfl k) ?_
  obtain ⟨_, _, ⟨T1, L1, kk1, nn1⟩, -, X1, ⟨Lc1, hQ1, l1, y1, z1⟩, st1⟩ := Jvm.LawKit.callS X0 hx (y := (⟨"java/lang/Math", "max", "(II)I"⟩ : MethodName)) hown (mvT hZ (hw _ (List.mem_of_getElem? (i := 1) rfl))) (mvT hZ (hw _ (List.mem_of_getElem? (i := 2) rfl))) (mvT hZ (hw _ (List.mem_of_getElem? (i := 3) rfl))) (mvT hZ (hw _ (List.mem_of_getElem? (i := 4) rfl))) (by decide) (backOf (W := 0) (rm1 l Z a0 hw [] (1 : Int32) (p0 &&& (1073741823 : Int32)) h0 n0 (Nat.le_trans Z0 K0.1) ) hZ (hw _ (List.mem_of_getElem? (i := 4) rfl)) (hw _ (List.mem_of_getElem? (i := 3) rfl)) (by decide) (by decide)) (g := (mkF m 5 #[.val (.int p0), .val (.int p1), .unset, .unset, .unset, .unset, .unset, .unset] [(.int (p0 &&& (1073741823 : Int32))), (.int (1 : Int32))])) rfl (by rw [hml]; rfl) (argsL := [(.int (1 : Int32)), (.int (p0 &&& (1073741823 : Int32)))]) (rest := []) (lenOf pd_0 rfl) rfl (by show 2 * 0 + _ ≤ _; exact Nat.le_of_eq rfl) (hb hby at_5) (fun _ _ => ⟨rfl, e0, (by decide : 0 + 0 ≤ _), (by decide : 0 + 0 ≤ _)⟩)
  dsimp only [Pt.U, Pt.locs, Pt.cells, Pt.slots] at X1 l1 y1 z1 st1 hQ1
  subst l1 y1 z1
  obtain ⟨rfl, N1q, eq1⟩ := hQ1
  have N1 := Fr.app N0 N1q
  refine own_step (T' := T1) (g' := (mkF m 8 #[.val (.int p0), .val (.int p1), .unset, .unset, .unset, .unset, .unset, .unset] [(.int (fn1 (1 : Int32) (p0 &&& (1073741823 : Int32))))])) st1 ?_
  generalize hv2 : (fn1 (1 : Int32) (p0 &&& (1073741823 : Int32))) = v2
  refine own_step (T' := T1) (g' := (mkF m 9 #[.val (.int p0), .val (.int p1), .val (.int v2), .unset, .unset, .unset, .unset, .unset] [])) (fun t k => XS.istoreN X1.here hx rfl (hb hby at_8) rfl (l' := #[.val (.int p0), .val (.int p1), .val (.int v2), .unset, .unset, .unset, .unset, .unset]) rfl k) ?_
  have b2 := own_max p0 v2 hv2
  refine own_step (T' := T1) (g' := (mkF m 10 #[.val (.int p0), .val (.int p1), .val (.int v2), .unset, .unset, .unset, .unset, .unset] [(.int (2 : Int32))])) (fun t k => XS.iconst X1.here hx rfl (hb hby at_9) k) ?_
  refine own_step (T' := T1) (g' := (mkF m 11 #[.val (.int p0), .val (.int p1), .val (.int v2), .unset, .unset, .unset, .unset, .unset] [(.int v2), (.int (2 : Int32))])) (fun t k => XS.iloadN X1.here hx rfl (hb hby at_10) rfl k) ?_
  refine own_step (T' := T1) (g' := (mkF m 12 #[.val (.int p0), .val (.int p1), .val (.int v2), .unset, .unset, .unset, .unset, .unset] [(.int ((2 : Int32) * v2))])) (fun t k => XS.imul X1.here hx rfl (hb hby at_11) rfl k) ?_
  generalize hv3 : ((2 : Int32) * v2) = v3
  refine own_step (T' := T1) (g' := (mkF m 13 #[.val (.int p0), .val (.int p1), .val (.int v2), .val (.int v3), .unset, .unset, .unset, .unset] [])) (fun t k => XS.istoreN X1.here hx rfl (hb hby at_12) rfl (l' := #[.val (.int p0), .val (.int p1), .val (.int v2), .val (.int v3), .unset, .unset, .unset, .unset]) rfl k) ?_
  have b3 := own_dbl v2 v3 b2 hv3
  refine own_step (T' := T1) (g' := (mkF m 14 #[.val (.int p0), .val (.int p1), .val (.int v2), .val (.int v3), .unset, .unset, .unset, .unset] [(.int p1)])) (fun t k => XS.iloadN X1.here hx rfl (hb hby at_13) rfl k) ?_
  refine own_step (T' := T1) (g' := (mkF m 16 #[.val (.int p0), .val (.int p1), .val (.int v2), .val (.int v3), .unset, .unset, .unset, .unset] [(.int (2147483647 : Int32)), (.int p1)])) (fun t k => X1.ldcInt hx hown (mvT hZ (hw _ (List.mem_of_getElem? (i := 5) rfl))) (g := (mkF m 14 #[.val (.int p0), .val (.int p1), .val (.int v2), .val (.int v3), .unset, .unset, .unset, .unset] [(.int p1)])) rfl (hb hby at_14) t k) ?_
  refine own_step (T' := T1) (g' := (mkF m 17 #[.val (.int p0), .val (.int p1), .val (.int v2), .val (.int v3), .unset, .unset, .unset, .unset] [(.int (p1 &&& (2147483647 : Int32)))])) (fun t k => XS.iand X1.here hx rfl (hb hby at_16) rfl k) ?_
  refine own_step (T' := T1) (g' := (mkF m 18 #[.val (.int p0), .val (.int p1), .val (.int v2), .val (.int v3), .unset, .unset, .unset, .unset] [(.int v3), (.int (p1 &&& (2147483647 : Int32)))])) (fun t k => XS.iloadN X1.here hx rfl (hb hby at_17) rfl k) ?_
  refine own_step (T' := T1) (g' := (mkF m 19 #[.val (.int p0), .val (.int p1), .val (.int v2), .val (.int v3), .unset, .unset, .unset, .unset] [(.int ((p1 &&& (2147483647 : Int32)) % v3))])) (fun t k => Jvm.RoadKit.iremM X1 hx rfl (hb hby at_18) rfl (fun q => by rw [q] at b3; simp only [Int32.reduceToInt] at b3; omega) k) ?_
  generalize hv4 : ((p1 &&& (2147483647 : Int32)) % v3) = v4
  refine own_step (T' := T1) (g' := (mkF m 21 #[.val (.int p0), .val (.int p1), .val (.int v2), .val (.int v3), .val (.int v4), .unset, .unset, .unset] [])) (fun t k => XS.istore X1.here hx rfl (hb hby at_19) rfl (l' := #[.val (.int p0), .val (.int p1), .val (.int v2), .val (.int v3), .val (.int v4), .unset, .unset, .unset]) rfl k) ?_
  have b4 := own_rem p1 v3 v4 (by omega) hv4
  rw [b3] at b4
  refine own_step (T' := T1) (g' := (mkF m 23 #[.val (.int p0), .val (.int p1), .val (.int v2), .val (.int v3), .val (.int v4), .unset, .unset, .unset] [(.int v4)])) (fun t k => XS.iload X1.here hx rfl (hb hby at_21) rfl k) ?_
  refine own_step (T' := T1) (g' := (mkF m 24 #[.val (.int p0), .val (.int p1), .val (.int v2), .val (.int v3), .val (.int v4), .unset, .unset, .unset] [(.int v2), (.int v4)])) (fun t k => XS.iloadN X1.here hx rfl (hb hby at_23) rfl k) ?_
  obtain ⟨_, _, ⟨T5, L5, kk5, nn5⟩, -, X5, ⟨Lc5, hQ5, l5, y5, z5⟩, st5⟩ := Jvm.LawKit.callS X1 hx (y := (⟨"com/example/ontolith/ontolith/core/RoleHierarchy", "inverse", "(II)I"⟩ : MethodName)) hown (mvT hZ (hw _ (List.mem_of_getElem? (i := 6) rfl))) (mvT hZ (hw _ (List.mem_of_getElem? (i := 7) rfl))) (mvT hZ (hw _ (List.mem_of_getElem? (i := 8) rfl))) (mvT hZ (hw _ (List.mem_of_getElem? (i := 9) rfl))) (by decide) (backOf (W := 0) (rm2 l Z a0 hw [] v4 v2 h0 n0 (Nat.le_trans Z0 K0.1) ) hZ (hw _ (List.mem_of_getElem? (i := 9) rfl)) (hw _ (List.mem_of_getElem? (i := 8) rfl)) (by decide) (by decide)) (g := (mkF m 24 #[.val (.int p0), .val (.int p1), .val (.int v2), .val (.int v3), .val (.int v4), .unset, .unset, .unset] [(.int v2), (.int v4)])) rfl (by rw [hml]; rfl) (argsL := [(.int v4), (.int v2)]) (rest := []) (lenOf pd_0 rfl) rfl (by show 2 * 0 + _ ≤ _; exact Nat.le_of_eq rfl) (hb hby at_24) (fun _ _ => ⟨rfl, eq1, (by decide : 0 + 0 ≤ _), (by decide : 0 + 0 ≤ _)⟩)
  dsimp only [Pt.U, Pt.locs, Pt.cells, Pt.slots] at X5 l5 y5 z5 st5 hQ5
  subst l5 y5 z5
  obtain ⟨rfl, N5q, eq5⟩ := hQ5
  have N5 := Fr.app N1 N5q
  refine own_step (T' := T5) (g' := (mkF m 27 #[.val (.int p0), .val (.int p1), .val (.int v2), .val (.int v3), .val (.int v4), .unset, .unset, .unset] [(.int (fn2 v4 v2))])) st5 ?_
  generalize hv6 : (fn2 v4 v2) = v6
  refine own_step (T' := T5) (g' := (mkF m 29 #[.val (.int p0), .val (.int p1), .val (.int v2), .val (.int v3), .val (.int v4), .val (.int v6), .unset, .unset] [])) (fun t k => XS.istore X5.here hx rfl (hb hby at_27) rfl (l' := #[.val (.int p0), .val (.int p1), .val (.int v2), .val (.int v3), .val (.int v4), .val (.int v6), .unset, .unset]) rfl k) ?_
  have b5 := own_inv v4 v2 v6 b2 b4 hv6
  refine own_step (T' := T5) (g' := (mkF m 31 #[.val (.int p0), .val (.int p1), .val (.int v2), .val (.int v3), .val (.int v4), .val (.int v6), .unset, .unset] [(.int v6)])) (fun t k => XS.iload X5.here hx rfl (hb hby at_29) rfl k) ?_
  refine own_step (T' := T5) (g' := (mkF m 34 #[.val (.int p0), .val (.int p1), .val (.int v2), .val (.int v3), .val (.int v4), .val (.int v6), .unset, .unset] [])) (fun t k => XS.ifNo X5.here hx rfl (hb hby at_31) rfl ((if0 _ _).trans (flt (by simp only [Int32.lt_iff_toInt_lt, ← Int32.toInt_inj, Int32.reduceToInt]; omega)).1) k) ?_
  refine own_step (T' := T5) (g' := (mkF m 36 #[.val (.int p0), .val (.int p1), .val (.int v2), .val (.int v3), .val (.int v4), .val (.int v6), .unset, .unset] [(.int v6)])) (fun t k => XS.iload X5.here hx rfl (hb hby at_34) rfl k) ?_
  refine own_step (T' := T5) (g' := (mkF m 37 #[.val (.int p0), .val (.int p1), .val (.int v2), .val (.int v3), .val (.int v4), .val (.int v6), .unset, .unset] [(.int v3), (.int v6)])) (fun t k => XS.iloadN X5.here hx rfl (hb hby at_36) rfl k) ?_
  refine own_step (T' := T5) (g' := (mkF m 42 #[.val (.int p0), .val (.int p1), .val (.int v2), .val (.int v3), .val (.int v4), .val (.int v6), .unset, .unset] [])) (fun t k => XS.icmpYes X5.here hx rfl (pc0 := 37) (pc' := 42) rfl (hb hby at_37) rfl (tlt (by simp only [Int32.lt_iff_toInt_lt, ← Int32.toInt_inj, Int32.reduceToInt]; omega)).1 (by decide) (by decide) k) ?_
  refine own_step (T' := T5) (g' := (mkF m 44 #[.val (.int p0), .val (.int p1), .val (.int v2), .val (.int v3), .val (.int v4), .val (.int v6), .unset, .unset] [(.int v4)])) (fun t k => XS.iload X5.here hx rfl (hb hby at_42) rfl k) ?_
  refine own_step (T' := T5) (g' := (mkF m 45 #[.val (.int p0), .val (.int p1), .val (.int v2), .val (.int v3), .val (.int v4), .val (.int v6), .unset, .unset] [(.int v2), (.int v4)])) (fun t k => XS.iloadN X5.here hx rfl (hb hby at_44) rfl k) ?_
  by_cases hc45_7 : v4 < v2
  · have ichc45_7 := hc45_7
    simp only [Int32.lt_iff_toInt_lt, ← Int32.toInt_inj, Int32.reduceToInt] at ichc45_7
    refine own_step (T' := T5) (g' := (mkF m 48 #[.val (.int p0), .val (.int p1), .val (.int v2), .val (.int v3), .val (.int v4), .val (.int v6), .unset, .unset] [])) (fun t k => XS.icmpNo X5.here hx rfl (hb hby at_45) rfl (tlt hc45_7).2.1 k) ?_
    refine own_step (T' := T5) (g' := (mkF m 49 #[.val (.int p0), .val (.int p1), .val (.int v2), .val (.int v3), .val (.int v4), .val (.int v6), .unset, .unset] [(.int (1 : Int32))])) (fun t k => XS.iconst X5.here hx rfl (hb hby at_48) k) ?_
    refine own_step (T' := T5) (g' := (mkF m 53 #[.val (.int p0), .val (.int p1), .val (.int v2), .val (.int v3), .val (.int v4), .val (.int v6), .unset, .unset] [(.int (1 : Int32))])) (fun t k => XS.goto X5.here hx rfl (pc0 := 49) (pc' := 53) rfl (hb hby at_49) (by decide) (by decide) k) ?_
    refine own_step (T' := T5) (g' := (mkF m 55 #[.val (.int p0), .val (.int p1), .val (.int v2), .val (.int v3), .val (.int v4), .val (.int v6), .val (.int (1 : Int32)), .unset] [])) (fun t k => XS.istore X5.here hx rfl (hb hby at_53) rfl (l' := #[.val (.int p0), .val (.int p1), .val (.int v2), .val (.int v3), .val (.int v4), .val (.int v6), .val (.int (1 : Int32)), .unset]) rfl k) ?_
    refine own_step (T' := T5) (g' := (mkF m 57 #[.val (.int p0), .val (.int p1), .val (.int v2), .val (.int v3), .val (.int v4), .val (.int v6), .val (.int (1 : Int32)), .unset] [(.int v6)])) (fun t k => XS.iload X5.here hx rfl (hb hby at_55) rfl k) ?_
    refine own_step (T' := T5) (g' := (mkF m 58 #[.val (.int p0), .val (.int p1), .val (.int v2), .val (.int v3), .val (.int v4), .val (.int v6), .val (.int (1 : Int32)), .unset] [(.int v2), (.int v6)])) (fun t k => XS.iloadN X5.here hx rfl (hb hby at_57) rfl k) ?_
    refine own_step (T' := T5) (g' := (mkF m 65 #[.val (.int p0), .val (.int p1), .val (.int v2), .val (.int v3), .val (.int v4), .val (.int v6), .val (.int (1 : Int32)), .unset] [])) (fun t k => XS.icmpYes X5.here hx rfl (pc0 := 58) (pc' := 65) rfl (hb hby at_58) rfl (flt (by simp only [Int32.lt_iff_toInt_lt, ← Int32.toInt_inj, Int32.reduceToInt]; omega)).2.1 (by decide) (by decide) k) ?_
    refine own_step (T' := T5) (g' := (mkF m 66 #[.val (.int p0), .val (.int p1), .val (.int v2), .val (.int v3), .val (.int v4), .val (.int v6), .val (.int (1 : Int32)), .unset] [(.int (0 : Int32))])) (fun t k => XS.iconst X5.here hx rfl (hb hby at_65) k) ?_
    refine own_step (T' := T5) (g' := (mkF m 68 #[.val (.int p0), .val (.int p1), .val (.int v2), .val (.int v3), .val (.int v4), .val (.int v6), .val (.int (1 : Int32)), .val (.int (0 : Int32))] [])) (fun t k => XS.istore X5.here hx rfl (hb hby at_66) rfl (l' := #[.val (.int p0), .val (.int p1), .val (.int v2), .val (.int v3), .val (.int v4), .val (.int v6), .val (.int (1 : Int32)), .val (.int (0 : Int32))]) rfl k) ?_
    refine own_step (T' := T5) (g' := (mkF m 70 #[.val (.int p0), .val (.int p1), .val (.int v2), .val (.int v3), .val (.int v4), .val (.int v6), .val (.int (1 : Int32)), .val (.int (0 : Int32))] [(.int (1 : Int32))])) (fun t k => XS.iload X5.here hx rfl (hb hby at_68) rfl k) ?_
    refine own_step (T' := T5) (g' := (mkF m 72 #[.val (.int p0), .val (.int p1), .val (.int v2), .val (.int v3), .val (.int v4), .val (.int v6), .val (.int (1 : Int32)), .val (.int (0 : Int32))] [(.int (0 : Int32)), (.int (1 : Int32))])) (fun t k => XS.iload X5.here hx rfl (hb hby at_70) rfl k) ?_
    refine own_step (T' := T5) (g' := (mkF m 77 #[.val (.int p0), .val (.int p1), .val (.int v2), .val (.int v3), .val (.int v4), .val (.int v6), .val (.int (1 : Int32)), .val (.int (0 : Int32))] [])) (fun t k => XS.icmpYes X5.here hx rfl (pc0 := 72) (pc' := 77) rfl (hb hby at_72) rfl (feq (by decide : ¬ ((1 : Int32) = (0 : Int32)))).2 (by decide) (by decide) k) ?_
    refine own_step (T' := T5) (g' := (mkF m 79 #[.val (.int p0), .val (.int p1), .val (.int v2), .val (.int v3), .val (.int v4), .val (.int v6), .val (.int (1 : Int32)), .val (.int (0 : Int32))] [(.int v6)])) (fun t k => XS.iload X5.here hx rfl (hb hby at_77) rfl k) ?_
    refine own_step (T' := T5) (g' := (mkF m 81 #[.val (.int p0), .val (.int p1), .val (.int v2), .val (.int v3), .val (.int v4), .val (.int v6), .val (.int (1 : Int32)), .val (.int (0 : Int32))] [(.int v4), (.int v6)])) (fun t k => XS.iload X5.here hx rfl (hb hby at_79) rfl k) ?_
    refine own_step (T' := T5) (g' := (mkF m 82 #[.val (.int p0), .val (.int p1), .val (.int v2), .val (.int v3), .val (.int v4), .val (.int v6), .val (.int (1 : Int32)), .val (.int (0 : Int32))] [(.int (v6 - v4))])) (fun t k => XS.isub X5.here hx rfl (hb hby at_81) rfl k) ?_
    obtain ⟨_, _, ⟨T8, L8, kk8, nn8⟩, -, X8, ⟨Lc8, hQ8, l8, y8, z8⟩, st8⟩ := Jvm.LawKit.callS X5 hx (y := (⟨"java/lang/Math", "abs", "(I)I"⟩ : MethodName)) hown (mvT hZ (hw _ (List.mem_of_getElem? (i := 10) rfl))) (mvT hZ (hw _ (List.mem_of_getElem? (i := 11) rfl))) (mvT hZ (hw _ (List.mem_of_getElem? (i := 3) rfl))) (mvT hZ (hw _ (List.mem_of_getElem? (i := 12) rfl))) (by decide) (backOf (W := 0) (rm3 l Z a0 hw [] (v6 - v4) h0 n0 (Nat.le_trans Z0 K0.1) ) hZ (hw _ (List.mem_of_getElem? (i := 12) rfl)) (hw _ (List.mem_of_getElem? (i := 3) rfl)) (by decide) (by decide)) (g := (mkF m 82 #[.val (.int p0), .val (.int p1), .val (.int v2), .val (.int v3), .val (.int v4), .val (.int v6), .val (.int (1 : Int32)), .val (.int (0 : Int32))] [(.int (v6 - v4))])) rfl (by rw [hml]; rfl) (argsL := [(.int (v6 - v4))]) (rest := []) (lenOf pd_1 rfl) rfl (by show 2 * 0 + _ ≤ _; exact Nat.le_of_eq rfl) (hb hby at_82) (fun _ _ => ⟨rfl, eq5, (by decide : 0 + 0 ≤ _), (by decide : 0 + 0 ≤ _)⟩)
    dsimp only [Pt.U, Pt.locs, Pt.cells, Pt.slots] at X8 l8 y8 z8 st8 hQ8
    subst l8 y8 z8
    obtain ⟨rfl, N8q, eq8⟩ := hQ8
    have N8 := Fr.app N5 N8q
    refine own_step (T' := T8) (g' := (mkF m 85 #[.val (.int p0), .val (.int p1), .val (.int v2), .val (.int v3), .val (.int v4), .val (.int v6), .val (.int (1 : Int32)), .val (.int (0 : Int32))] [(.int (fn3 (v6 - v4)))])) st8 ?_
    refine own_step (T' := T8) (g' := (mkF m 86 #[.val (.int p0), .val (.int p1), .val (.int v2), .val (.int v3), .val (.int v4), .val (.int v6), .val (.int (1 : Int32)), .val (.int (0 : Int32))] [(.int v2), (.int (fn3 (v6 - v4)))])) (fun t k => XS.iloadN X8.here hx rfl (hb hby at_85) rfl k) ?_
    refine own_step (T' := T8) (g' := (mkF m 91 #[.val (.int p0), .val (.int p1), .val (.int v2), .val (.int v3), .val (.int v4), .val (.int v6), .val (.int (1 : Int32)), .val (.int (0 : Int32))] [])) (fun t k => XS.icmpYes X8.here hx rfl (pc0 := 86) (pc' := 91) rfl (hb hby at_86) rfl (teq (own_abs _ _ _ b2 b4 b5)).1 (by decide) (by decide) k) ?_
    refine own_step (T' := T8) (g' := (mkF m 93 #[.val (.int p0), .val (.int p1), .val (.int v2), .val (.int v3), .val (.int v4), .val (.int v6), .val (.int (1 : Int32)), .val (.int (0 : Int32))] [(.int v6)])) (fun t k => XS.iload X8.here hx rfl (hb hby at_91) rfl k) ?_
    refine own_step (T' := T8) (g' := (mkF m 94 #[.val (.int p0), .val (.int p1), .val (.int v2), .val (.int v3), .val (.int v4), .val (.int v6), .val (.int (1 : Int32)), .val (.int (0 : Int32))] [(.int v2), (.int v6)])) (fun t k => XS.iloadN X8.here hx rfl (hb hby at_93) rfl k) ?_
    obtain ⟨_, _, ⟨T9, L9, kk9, nn9⟩, -, X9, ⟨Lc9, hQ9, l9, y9, z9⟩, st9⟩ := Jvm.LawKit.callS X8 hx (y := (⟨"com/example/ontolith/ontolith/core/RoleHierarchy", "inverse", "(II)I"⟩ : MethodName)) hown (mvT hZ (hw _ (List.mem_of_getElem? (i := 6) rfl))) (mvT hZ (hw _ (List.mem_of_getElem? (i := 7) rfl))) (mvT hZ (hw _ (List.mem_of_getElem? (i := 8) rfl))) (mvT hZ (hw _ (List.mem_of_getElem? (i := 9) rfl))) (by decide) (backOf (W := 0) (rm2 l Z a0 hw [] v6 v2 h0 n0 (Nat.le_trans Z0 K0.1) ) hZ (hw _ (List.mem_of_getElem? (i := 9) rfl)) (hw _ (List.mem_of_getElem? (i := 8) rfl)) (by decide) (by decide)) (g := (mkF m 94 #[.val (.int p0), .val (.int p1), .val (.int v2), .val (.int v3), .val (.int v4), .val (.int v6), .val (.int (1 : Int32)), .val (.int (0 : Int32))] [(.int v2), (.int v6)])) rfl (by rw [hml]; rfl) (argsL := [(.int v6), (.int v2)]) (rest := []) (lenOf pd_0 rfl) rfl (by show 2 * 0 + _ ≤ _; exact Nat.le_of_eq rfl) (hb hby at_94) (fun _ _ => ⟨rfl, eq8, (by decide : 0 + 0 ≤ _), (by decide : 0 + 0 ≤ _)⟩)
    dsimp only [Pt.U, Pt.locs, Pt.cells, Pt.slots] at X9 l9 y9 z9 st9 hQ9
    subst l9 y9 z9
    obtain ⟨rfl, N9q, eq9⟩ := hQ9
    have N9 := Fr.app N8 N9q
    refine own_step (T' := T9) (g' := (mkF m 97 #[.val (.int p0), .val (.int p1), .val (.int v2), .val (.int v3), .val (.int v4), .val (.int v6), .val (.int (1 : Int32)), .val (.int (0 : Int32))] [(.int (fn2 v6 v2))])) st9 ?_
    refine own_step (T' := T9) (g' := (mkF m 99 #[.val (.int p0), .val (.int p1), .val (.int v2), .val (.int v3), .val (.int v4), .val (.int v6), .val (.int (1 : Int32)), .val (.int (0 : Int32))] [(.int v4), (.int (fn2 v6 v2))])) (fun t k => XS.iload X9.here hx rfl (hb hby at_97) rfl k) ?_
    refine own_step (T' := T9) (g' := (mkF m 102 #[.val (.int p0), .val (.int p1), .val (.int v2), .val (.int v3), .val (.int v4), .val (.int v6), .val (.int (1 : Int32)), .val (.int (0 : Int32))] [])) (fun t k => XS.icmpNo X9.here hx rfl (hb hby at_99) rfl (teq (own_back _ _ _ b2 b4 b5)).2 k) ?_
    refine own_step (T' := T9) (g' := (mkF m 103 #[.val (.int p0), .val (.int p1), .val (.int v2), .val (.int v3), .val (.int v4), .val (.int v6), .val (.int (1 : Int32)), .val (.int (0 : Int32))] [(.int (1 : Int32))])) (fun t k => XS.iconst X9.here hx rfl (hb hby at_102) k) ?_
    refine own_step (T' := T9) (g' := (mkF m 107 #[.val (.int p0), .val (.int p1), .val (.int v2), .val (.int v3), .val (.int v4), .val (.int v6), .val (.int (1 : Int32)), .val (.int (0 : Int32))] [(.int (1 : Int32))])) (fun t k => XS.goto X9.here hx rfl (pc0 := 103) (pc' := 107) rfl (hb hby at_103) (by decide) (by decide) k) ?_
    refine own_retN X9 hx hlk (t := .boolean) (w := (1 : Int32)) Bd.returns (by simp) (hb hby at_107) rfl (by decide) (by decide) ?_
    exact ⟨rfl, N9⟩
  · have ichc45_7 := hc45_7
    simp only [Int32.lt_iff_toInt_lt, ← Int32.toInt_inj, Int32.reduceToInt] at ichc45_7
    refine own_step (T' := T5) (g' := (mkF m 52 #[.val (.int p0), .val (.int p1), .val (.int v2), .val (.int v3), .val (.int v4), .val (.int v6), .unset, .unset] [])) (fun t k => XS.icmpYes X5.here hx rfl (pc0 := 45) (pc' := 52) rfl (hb hby at_45) rfl (flt hc45_7).2.1 (by decide) (by decide) k) ?_
    refine own_step (T' := T5) (g' := (mkF m 53 #[.val (.int p0), .val (.int p1), .val (.int v2), .val (.int v3), .val (.int v4), .val (.int v6), .unset, .unset] [(.int (0 : Int32))])) (fun t k => XS.iconst X5.here hx rfl (hb hby at_52) k) ?_
    refine own_step (T' := T5) (g' := (mkF m 55 #[.val (.int p0), .val (.int p1), .val (.int v2), .val (.int v3), .val (.int v4), .val (.int v6), .val (.int (0 : Int32)), .unset] [])) (fun t k => XS.istore X5.here hx rfl (hb hby at_53) rfl (l' := #[.val (.int p0), .val (.int p1), .val (.int v2), .val (.int v3), .val (.int v4), .val (.int v6), .val (.int (0 : Int32)), .unset]) rfl k) ?_
    refine own_step (T' := T5) (g' := (mkF m 57 #[.val (.int p0), .val (.int p1), .val (.int v2), .val (.int v3), .val (.int v4), .val (.int v6), .val (.int (0 : Int32)), .unset] [(.int v6)])) (fun t k => XS.iload X5.here hx rfl (hb hby at_55) rfl k) ?_
    refine own_step (T' := T5) (g' := (mkF m 58 #[.val (.int p0), .val (.int p1), .val (.int v2), .val (.int v3), .val (.int v4), .val (.int v6), .val (.int (0 : Int32)), .unset] [(.int v2), (.int v6)])) (fun t k => XS.iloadN X5.here hx rfl (hb hby at_57) rfl k) ?_
    refine own_step (T' := T5) (g' := (mkF m 61 #[.val (.int p0), .val (.int p1), .val (.int v2), .val (.int v3), .val (.int v4), .val (.int v6), .val (.int (0 : Int32)), .unset] [])) (fun t k => XS.icmpNo X5.here hx rfl (hb hby at_58) rfl (tlt (by simp only [Int32.lt_iff_toInt_lt, ← Int32.toInt_inj, Int32.reduceToInt]; omega)).2.1 k) ?_
    refine own_step (T' := T5) (g' := (mkF m 62 #[.val (.int p0), .val (.int p1), .val (.int v2), .val (.int v3), .val (.int v4), .val (.int v6), .val (.int (0 : Int32)), .unset] [(.int (1 : Int32))])) (fun t k => XS.iconst X5.here hx rfl (hb hby at_61) k) ?_
    refine own_step (T' := T5) (g' := (mkF m 66 #[.val (.int p0), .val (.int p1), .val (.int v2), .val (.int v3), .val (.int v4), .val (.int v6), .val (.int (0 : Int32)), .unset] [(.int (1 : Int32))])) (fun t k => XS.goto X5.here hx rfl (pc0 := 62) (pc' := 66) rfl (hb hby at_62) (by decide) (by decide) k) ?_
    refine own_step (T' := T5) (g' := (mkF m 68 #[.val (.int p0), .val (.int p1), .val (.int v2), .val (.int v3), .val (.int v4), .val (.int v6), .val (.int (0 : Int32)), .val (.int (1 : Int32))] [])) (fun t k => XS.istore X5.here hx rfl (hb hby at_66) rfl (l' := #[.val (.int p0), .val (.int p1), .val (.int v2), .val (.int v3), .val (.int v4), .val (.int v6), .val (.int (0 : Int32)), .val (.int (1 : Int32))]) rfl k) ?_
    refine own_step (T' := T5) (g' := (mkF m 70 #[.val (.int p0), .val (.int p1), .val (.int v2), .val (.int v3), .val (.int v4), .val (.int v6), .val (.int (0 : Int32)), .val (.int (1 : Int32))] [(.int (0 : Int32))])) (fun t k => XS.iload X5.here hx rfl (hb hby at_68) rfl k) ?_
    refine own_step (T' := T5) (g' := (mkF m 72 #[.val (.int p0), .val (.int p1), .val (.int v2), .val (.int v3), .val (.int v4), .val (.int v6), .val (.int (0 : Int32)), .val (.int (1 : Int32))] [(.int (1 : Int32)), (.int (0 : Int32))])) (fun t k => XS.iload X5.here hx rfl (hb hby at_70) rfl k) ?_
    refine own_step (T' := T5) (g' := (mkF m 77 #[.val (.int p0), .val (.int p1), .val (.int v2), .val (.int v3), .val (.int v4), .val (.int v6), .val (.int (0 : Int32)), .val (.int (1 : Int32))] [])) (fun t k => XS.icmpYes X5.here hx rfl (pc0 := 72) (pc' := 77) rfl (hb hby at_72) rfl (feq (by decide : ¬ ((0 : Int32) = (1 : Int32)))).2 (by decide) (by decide) k) ?_
    refine own_step (T' := T5) (g' := (mkF m 79 #[.val (.int p0), .val (.int p1), .val (.int v2), .val (.int v3), .val (.int v4), .val (.int v6), .val (.int (0 : Int32)), .val (.int (1 : Int32))] [(.int v6)])) (fun t k => XS.iload X5.here hx rfl (hb hby at_77) rfl k) ?_
    refine own_step (T' := T5) (g' := (mkF m 81 #[.val (.int p0), .val (.int p1), .val (.int v2), .val (.int v3), .val (.int v4), .val (.int v6), .val (.int (0 : Int32)), .val (.int (1 : Int32))] [(.int v4), (.int v6)])) (fun t k => XS.iload X5.here hx rfl (hb hby at_79) rfl k) ?_
    refine own_step (T' := T5) (g' := (mkF m 82 #[.val (.int p0), .val (.int p1), .val (.int v2), .val (.int v3), .val (.int v4), .val (.int v6), .val (.int (0 : Int32)), .val (.int (1 : Int32))] [(.int (v6 - v4))])) (fun t k => XS.isub X5.here hx rfl (hb hby at_81) rfl k) ?_
    obtain ⟨_, _, ⟨T11, L11, kk11, nn11⟩, -, X11, ⟨Lc11, hQ11, l11, y11, z11⟩, st11⟩ := Jvm.LawKit.callS X5 hx (y := (⟨"java/lang/Math", "abs", "(I)I"⟩ : MethodName)) hown (mvT hZ (hw _ (List.mem_of_getElem? (i := 10) rfl))) (mvT hZ (hw _ (List.mem_of_getElem? (i := 11) rfl))) (mvT hZ (hw _ (List.mem_of_getElem? (i := 3) rfl))) (mvT hZ (hw _ (List.mem_of_getElem? (i := 12) rfl))) (by decide) (backOf (W := 0) (rm3 l Z a0 hw [] (v6 - v4) h0 n0 (Nat.le_trans Z0 K0.1) ) hZ (hw _ (List.mem_of_getElem? (i := 12) rfl)) (hw _ (List.mem_of_getElem? (i := 3) rfl)) (by decide) (by decide)) (g := (mkF m 82 #[.val (.int p0), .val (.int p1), .val (.int v2), .val (.int v3), .val (.int v4), .val (.int v6), .val (.int (0 : Int32)), .val (.int (1 : Int32))] [(.int (v6 - v4))])) rfl (by rw [hml]; rfl) (argsL := [(.int (v6 - v4))]) (rest := []) (lenOf pd_1 rfl) rfl (by show 2 * 0 + _ ≤ _; exact Nat.le_of_eq rfl) (hb hby at_82) (fun _ _ => ⟨rfl, eq5, (by decide : 0 + 0 ≤ _), (by decide : 0 + 0 ≤ _)⟩)
    dsimp only [Pt.U, Pt.locs, Pt.cells, Pt.slots] at X11 l11 y11 z11 st11 hQ11
    subst l11 y11 z11
    obtain ⟨rfl, N11q, eq11⟩ := hQ11
    have N11 := Fr.app N5 N11q
    refine own_step (T' := T11) (g' := (mkF m 85 #[.val (.int p0), .val (.int p1), .val (.int v2), .val (.int v3), .val (.int v4), .val (.int v6), .val (.int (0 : Int32)), .val (.int (1 : Int32))] [(.int (fn3 (v6 - v4)))])) st11 ?_
    refine own_step (T' := T11) (g' := (mkF m 86 #[.val (.int p0), .val (.int p1), .val (.int v2), .val (.int v3), .val (.int v4), .val (.int v6), .val (.int (0 : Int32)), .val (.int (1 : Int32))] [(.int v2), (.int (fn3 (v6 - v4)))])) (fun t k => XS.iloadN X11.here hx rfl (hb hby at_85) rfl k) ?_
    refine own_step (T' := T11) (g' := (mkF m 91 #[.val (.int p0), .val (.int p1), .val (.int v2), .val (.int v3), .val (.int v4), .val (.int v6), .val (.int (0 : Int32)), .val (.int (1 : Int32))] [])) (fun t k => XS.icmpYes X11.here hx rfl (pc0 := 86) (pc' := 91) rfl (hb hby at_86) rfl (teq (own_abs _ _ _ b2 b4 b5)).1 (by decide) (by decide) k) ?_
    refine own_step (T' := T11) (g' := (mkF m 93 #[.val (.int p0), .val (.int p1), .val (.int v2), .val (.int v3), .val (.int v4), .val (.int v6), .val (.int (0 : Int32)), .val (.int (1 : Int32))] [(.int v6)])) (fun t k => XS.iload X11.here hx rfl (hb hby at_91) rfl k) ?_
    refine own_step (T' := T11) (g' := (mkF m 94 #[.val (.int p0), .val (.int p1), .val (.int v2), .val (.int v3), .val (.int v4), .val (.int v6), .val (.int (0 : Int32)), .val (.int (1 : Int32))] [(.int v2), (.int v6)])) (fun t k => XS.iloadN X11.here hx rfl (hb hby at_93) rfl k) ?_
    obtain ⟨_, _, ⟨T12, L12, kk12, nn12⟩, -, X12, ⟨Lc12, hQ12, l12, y12, z12⟩, st12⟩ := Jvm.LawKit.callS X11 hx (y := (⟨"com/example/ontolith/ontolith/core/RoleHierarchy", "inverse", "(II)I"⟩ : MethodName)) hown (mvT hZ (hw _ (List.mem_of_getElem? (i := 6) rfl))) (mvT hZ (hw _ (List.mem_of_getElem? (i := 7) rfl))) (mvT hZ (hw _ (List.mem_of_getElem? (i := 8) rfl))) (mvT hZ (hw _ (List.mem_of_getElem? (i := 9) rfl))) (by decide) (backOf (W := 0) (rm2 l Z a0 hw [] v6 v2 h0 n0 (Nat.le_trans Z0 K0.1) ) hZ (hw _ (List.mem_of_getElem? (i := 9) rfl)) (hw _ (List.mem_of_getElem? (i := 8) rfl)) (by decide) (by decide)) (g := (mkF m 94 #[.val (.int p0), .val (.int p1), .val (.int v2), .val (.int v3), .val (.int v4), .val (.int v6), .val (.int (0 : Int32)), .val (.int (1 : Int32))] [(.int v2), (.int v6)])) rfl (by rw [hml]; rfl) (argsL := [(.int v6), (.int v2)]) (rest := []) (lenOf pd_0 rfl) rfl (by show 2 * 0 + _ ≤ _; exact Nat.le_of_eq rfl) (hb hby at_94) (fun _ _ => ⟨rfl, eq11, (by decide : 0 + 0 ≤ _), (by decide : 0 + 0 ≤ _)⟩)
    dsimp only [Pt.U, Pt.locs, Pt.cells, Pt.slots] at X12 l12 y12 z12 st12 hQ12
    subst l12 y12 z12
    obtain ⟨rfl, N12q, eq12⟩ := hQ12
    have N12 := Fr.app N11 N12q
    refine own_step (T' := T12) (g' := (mkF m 97 #[.val (.int p0), .val (.int p1), .val (.int v2), .val (.int v3), .val (.int v4), .val (.int v6), .val (.int (0 : Int32)), .val (.int (1 : Int32))] [(.int (fn2 v6 v2))])) st12 ?_
    refine own_step (T' := T12) (g' := (mkF m 99 #[.val (.int p0), .val (.int p1), .val (.int v2), .val (.int v3), .val (.int v4), .val (.int v6), .val (.int (0 : Int32)), .val (.int (1 : Int32))] [(.int v4), (.int (fn2 v6 v2))])) (fun t k => XS.iload X12.here hx rfl (hb hby at_97) rfl k) ?_
    refine own_step (T' := T12) (g' := (mkF m 102 #[.val (.int p0), .val (.int p1), .val (.int v2), .val (.int v3), .val (.int v4), .val (.int v6), .val (.int (0 : Int32)), .val (.int (1 : Int32))] [])) (fun t k => XS.icmpNo X12.here hx rfl (hb hby at_99) rfl (teq (own_back _ _ _ b2 b4 b5)).2 k) ?_
    refine own_step (T' := T12) (g' := (mkF m 103 #[.val (.int p0), .val (.int p1), .val (.int v2), .val (.int v3), .val (.int v4), .val (.int v6), .val (.int (0 : Int32)), .val (.int (1 : Int32))] [(.int (1 : Int32))])) (fun t k => XS.iconst X12.here hx rfl (hb hby at_102) k) ?_
    refine own_step (T' := T12) (g' := (mkF m 107 #[.val (.int p0), .val (.int p1), .val (.int v2), .val (.int v3), .val (.int v4), .val (.int v6), .val (.int (0 : Int32)), .val (.int (1 : Int32))] [(.int (1 : Int32))])) (fun t k => XS.goto X12.here hx rfl (pc0 := 103) (pc' := 107) rfl (hb hby at_103) (by decide) (by decide) k) ?_
    refine own_retN X12 hx hlk (t := .boolean) (w := (1 : Int32)) Bd.returns (by simp) (hb hby at_107) rfl (by decide) (by decide) ?_
    exact ⟨rfl, N12⟩
set_option maxRecDepth 65536 in
set_option maxHeartbeats 40000000 in
theorem comes_1 {Post : Tables → Env → Array Value → State → Outcome → State → Prop} (hpost : ∀ tb e args s v u, (limb_1_1.after args s (.returned v) u = true ∧ limb_1_2.after args s (.returned v) u = true ∧ True) → FrameEnd s (.returned v) u (Jvm.fieldLocs frame_1_writes args s ++ Jvm.arrayLocs frame_1_arrays args s ++ Jvm.staticLocs frame_1_statics s) 0 0 → Post tb e args s (.returned v) u) :
    ArmFor flags0 classFile x code maxLocals ret World_1 tables_1 room_1 Calls_1 rest_1 Pre_1 Post := by
  intro l hfl _ _ p e ha hc hk s m args below hf hA hF happ hP
  obtain ⟨hcalls, hrest, hpre⟩ := hP
  obtain ⟨-, -, -, hnamed, -, -, -, hat⟩ := (Spec.applies_iff hf).mp happ
  obtain ⟨hg, hn⟩ := and_e (Cond.before_iff.mp (show (Jvm.Cond.and given_1 narrow_1).before args s = true from hpre))
  obtain ⟨g0, r0⟩ := and_e hg
  obtain ⟨g1, r1⟩ := and_e r0
  obtain ⟨w0, w1, rfl⟩ : ∃ w0 w1 : Value, args = #[w0, w1] := by
    have hs : args.size = 2 := by simpa [Cond.value, given_1] using g0
    obtain ⟨L⟩ := args
    match L, hs with
    | [w0, w1], _ => exact ⟨w0, w1, rfl⟩
  have hw := fun d (hd : d ∈ tables_1) => atoms_spec (ws := Jvm.Cond.code x code maxLocals ret :: tables_1) hat d (List.mem_cons_of_mem _ hd)
  have hfit : Fit s := fun {y c} hc i hi => by
    obtain ⟨ha, rfl⟩ := Array.getElem?_eq_some_iff.mp hc
    have q := List.all_eq_true.mp ((Array.all_eq_true_iff_forall_mem.mp hF) _ (Array.getElem_mem ha)) i (List.mem_range.mpr hi)
    simpa [Array.getElem?_eq_getElem hi] using q
  obtain ⟨i0, ei0⟩ := is_v g1
  obtain rfl : w0 = (.int i0) := Option.some.inj ei0
  obtain ⟨i1, ei1⟩ := is_v r1
  obtain rfl : w1 = (.int i1) := Option.some.inj ei1
  obtain ⟨n, o, h1, h2, h3, _, L, rfl, ⟨rfl, N⟩, hq⟩ := rm0 l s _ hw tables_1 i0 i1  s.heap s.heap.size (Nat.le_refl _)  p e ha hc hk s m _ below hf ((Spec.applies_iff_loose hf).mp happ).1 ⟨rfl, State.Warmed39.refl s, rfl⟩ trivial
  refine ⟨n, _, h1, h2, h3, hpost _ _ _ _ _ _ ⟨Cond.after_iff.mpr rfl, Cond.after_iff.mpr (eq_i res_at (Term.int_eval (1)) rfl), trivial⟩ ⟨hq.1, hq.2.1, (hq.2.2.sift fun y hy => Or.inr (N y hy)).mono (by decide) (by decide)⟩⟩
theorem main_1_1 : Claimed_1_1 := comes_1 fun _ _ _ _ _ _ h hF => ⟨h.1, hF⟩
theorem main_1_2 : Claimed_1_2 := comes_1 fun _ _ _ _ _ _ h hF => ⟨h.2.1, hF⟩
end Jvm.Pilot.@@N@@
namespace Jvm.Pilot.@@N@@
open Jvm Jvm.ClassFile Sem Op Lib Jvm.Free Jvm.Stand Jvm.Pilot.@@N@@.Jvm.D
/-! MADE BY PROGRAM (witnessworld.py) out of the Statement's table words and the real class files: 10 classes; the members and pool entries that the words name. The judged class is class 1, her method 1. -/
namespace start1
open Jvm.ClassFile
def u (s : String) : CpInfo := .utf8 (stringToUtf16 s)
/-- a pool by its gaps: so many unusable entries, then the entry; so many at the end -/
def gap : Nat → List CpInfo → List CpInfo
  | 0, r => r
  | n + 1, r => .unusable :: gap n r
def poolList (es : List (Nat × CpInfo)) (last : Nat) : List CpInfo := es.foldr (fun e r => gap e.1 (e.2 :: r)) (gap last [])
def pool (es : List (Nat × CpInfo)) (last : Nat) : Array CpInfo := ⟨poolList es last⟩
def fileOf (pool : Array CpInfo) (this : Nat) (attrs : Array Attribute := #[]) (ms : Array MethodInfo := #[]) (fl : Nat := 33) (sup : Nat := 0) (ifs : Array Nat := #[]) (fds : Array FieldInfo := #[]) : ClassFile where
  minorVersion := 0
  majorVersion := 65
  constantPool := pool
  accessFlags := fl
  thisClass := this
  superClass := sup
  interfaces := ifs
  fields := fds
  methods := ms
  attributes := attrs
def plain (name : String) (sup : Option ClassId) : Class where
  name := name
  kind := .ordinary
  loader := none
  accessFlags := 33
  super := sup
  interfaces := #[]
  cf := none
  fields := #[]
  methods := #[]
  instanceTypes := #[]
  staticTypes := #[]
  resolved := #[]
  callSites := []
  init := .initialized
  statics := none
  mirror := none

def pool0 : Array CpInfo := pool [(5, u "<init>"), (0, u "()V"), (1, .class_ 10), (1, u "java/lang/Object")] 113

def k0m0 : Method := { name := "<init>", desc := "()V", sig := { parameters := [], returnType := none }, accessFlags := 1, code := none }
/-- java/lang/Object -/
def k0 : Class := { plain "java/lang/Object" none with
  accessFlags := 33
  interfaces := #[]
  cf := some (fileOf pool0 8 #[] #[{ accessFlags := 1, nameIndex := 5, descriptorIndex := 6, attributes := #[] }] 33 0 #[] #[])
  fields := #[]
  methods := #[k0m0]
  instanceTypes := #[]
  staticTypes := #[]
  resolved := Array.replicate 124 none
  statics := none }

def pool1 : Array CpInfo := pool [(2, .class_ 4), (1, u "java/lang/Object"), (0, u "<init>"), (0, u "()V"), (0, .integer 1073741823), (0, .methodref 9 10), (0, .class_ 11), (0, .nameAndType 12 13), (0, u "java/lang/Math"), (0, u "max"), (0, u "(II)I"), (0, .integer 2147483647), (0, .methodref 16 17), (0, .class_ 18), (0, .nameAndType 19 13), (0, u "com/example/ontolith/ontolith/core/RoleHierarchy"), (0, u "inverse"), (0, .methodref 9 21), (0, .nameAndType 22 23), (0, u "abs"), (0, u "(I)I"), (0, .class_ 25), (0, u "com/example/ontolith/ontolith/core/RoleHierarchyInversePinLaw"), (2, u "law"), (0, u "(II)Z")] 3

def k1m0 : Method := { name := "<init>", desc := "()V", sig := { parameters := [], returnType := none }, accessFlags := 1, code := none }
def k1c1 : Code := { maxStack := 3, maxLocals := 8, code := code, exceptionTable := #[], attributes := #[] }
def k1m1 : Method := { name := "law", desc := "(II)Z", sig := { parameters := [.int, .int], returnType := some .boolean }, accessFlags := 9, code := some k1c1 }
/-- com/example/ontolith/ontolith/core/RoleHierarchyInversePinLaw -/
def k1 : Class := { plain "com/example/ontolith/ontolith/core/RoleHierarchyInversePinLaw" (some 0) with
  accessFlags := 49
  interfaces := #[]
  cf := some (fileOf pool1 24 #[] #[{ accessFlags := 1, nameIndex := 5, descriptorIndex := 6, attributes := #[] }, { accessFlags := 9, nameIndex := 28, descriptorIndex := 29, attributes := #[] }] 49 2 #[] #[])
  fields := #[]
  methods := #[k1m0, k1m1]
  instanceTypes := #[]
  staticTypes := #[]
  resolved := Array.replicate 33 none
  statics := none }

def pool2 : Array CpInfo := pool [(1, .class_ 2), (0, u "java/lang/Math"), (1, .class_ 6), (1, u "java/lang/Object"), (0, u "<init>"), (0, u "()V"), (89, .class_ 100), (1, u "java/lang/Math$RandomNumberGeneratorHolder"), (23, u "abs"), (34, u "(I)I"), (12, u "negativeZeroFloatBits"), (0, u "J"), (2, u "negativeZeroDoubleBits"), (21, u "max"), (46, u "$assertionsDisabled"), (0, u "Z"), (88, u "(II)I"), (2, u "twoToTheDoubleScaleDown"), (0, u "D"), (4, u "twoToTheDoubleScaleUp"), (9, u "E"), (3, u "PI"), (2, u "TAU"), (2, u "DEGREES_TO_RADIANS"), (0, u "RADIANS_TO_DEGREES")] 94

def k2m0 : Method := { name := "<init>", desc := "()V", sig := { parameters := [], returnType := none }, accessFlags := 2, code := none }
def k2c1 : Code := { maxStack := 1, maxLocals := 1, code := jdk_29_method_59_code, exceptionTable := #[], attributes := #[] }
def k2m1 : Method := { name := "abs", desc := "(I)I", sig := { parameters := [.int], returnType := some .int }, accessFlags := 9, code := some k2c1 }
def k2c2 : Code := { maxStack := 2, maxLocals := 2, code := jdk_29_method_65_code, exceptionTable := #[], attributes := #[] }
def k2m2 : Method := { name := "max", desc := "(II)I", sig := { parameters := [.int, .int], returnType := some .int }, accessFlags := 9, code := some k2c2 }
/-- java/lang/Math -/
def k2 : Class := { plain "java/lang/Math" (some 0) with
  accessFlags := 49
  interfaces := #[]
  cf := some (fileOf pool2 1 #[.nestMembers #[98]] #[{ accessFlags := 2, nameIndex := 7, descriptorIndex := 8, attributes := #[] }, { accessFlags := 9, nameIndex := 124, descriptorIndex := 159, attributes := #[] }, { accessFlags := 9, nameIndex := 198, descriptorIndex := 335, attributes := #[] }] 49 4 #[] #[{ accessFlags := 25, nameIndex := 354, descriptorIndex := 339, attributes := #[] }, { accessFlags := 25, nameIndex := 358, descriptorIndex := 339, attributes := #[] }, { accessFlags := 25, nameIndex := 361, descriptorIndex := 339, attributes := #[] }, { accessFlags := 26, nameIndex := 364, descriptorIndex := 339, attributes := #[] }, { accessFlags := 26, nameIndex := 365, descriptorIndex := 339, attributes := #[] }, { accessFlags := 26, nameIndex := 172, descriptorIndex := 173, attributes := #[] }, { accessFlags := 26, nameIndex := 176, descriptorIndex := 173, attributes := #[] }, { accessFlags := 8, nameIndex := 344, descriptorIndex := 339, attributes := #[] }, { accessFlags := 8, nameIndex := 338, descriptorIndex := 339, attributes := #[] }, { accessFlags := 4120, nameIndex := 245, descriptorIndex := 246, attributes := #[] }])
  fields := #[{ name := "E", type := .double, accessFlags := 25, slot := 0, constantValue := 0 }, { name := "PI", type := .double, accessFlags := 25, slot := 1, constantValue := 0 }, { name := "TAU", type := .double, accessFlags := 25, slot := 2, constantValue := 0 }, { name := "DEGREES_TO_RADIANS", type := .double, accessFlags := 26, slot := 3, constantValue := 0 }, { name := "RADIANS_TO_DEGREES", type := .double, accessFlags := 26, slot := 4, constantValue := 0 }, { name := "negativeZeroFloatBits", type := .long, accessFlags := 26, slot := 5, constantValue := 0 }, { name := "negativeZeroDoubleBits", type := .long, accessFlags := 26, slot := 6, constantValue := 0 }, { name := "twoToTheDoubleScaleUp", type := .double, accessFlags := 8, slot := 7, constantValue := 0 }, { name := "twoToTheDoubleScaleDown", type := .double, accessFlags := 8, slot := 8, constantValue := 0 }, { name := "$assertionsDisabled", type := .boolean, accessFlags := 4120, slot := 9, constantValue := 0 }]
  methods := #[k2m0, k2m1, k2m2]
  instanceTypes := #[]
  staticTypes := #[.double, .double, .double, .double, .double, .long, .long, .double, .double, .boolean]
  resolved := Array.replicate 460 none
  statics := none }

def pool3 : Array CpInfo := pool [(8, .class_ 10), (1, u "com/example/ontolith/ontolith/core/RoleHierarchy"), (3, .class_ 16), (1, u "java/lang/Object"), (6, u "transitiveSubRoles"), (0, u "Ljava/util/List;"), (2, u "properties"), (0, u "I"), (2, u "firstData"), (6, u "disjoint"), (5, u "[[Z"), (2, u "below"), (18, u "inverse"), (13, u "(II)I")] 29

def k3c0 : Code := { maxStack := 2, maxLocals := 2, code := prog_65_method_3_code, exceptionTable := #[], attributes := #[] }
def k3m0 : Method := { name := "inverse", desc := "(II)I", sig := { parameters := [.int, .int], returnType := some .int }, accessFlags := 8, code := some k3c0 }
/-- com/example/ontolith/ontolith/core/RoleHierarchy -/
def k3 : Class := { plain "com/example/ontolith/ontolith/core/RoleHierarchy" (some 0) with
  accessFlags := 48
  interfaces := #[]
  cf := some (fileOf pool3 8 #[] #[{ accessFlags := 8, nameIndex := 66, descriptorIndex := 80, attributes := #[] }] 48 14 #[] #[{ accessFlags := 18, nameIndex := 27, descriptorIndex := 28, attributes := #[] }, { accessFlags := 18, nameIndex := 31, descriptorIndex := 28, attributes := #[] }, { accessFlags := 18, nameIndex := 47, descriptorIndex := 44, attributes := #[] }, { accessFlags := 18, nameIndex := 23, descriptorIndex := 24, attributes := #[] }, { accessFlags := 18, nameIndex := 38, descriptorIndex := 24, attributes := #[] }])
  fields := #[{ name := "properties", type := .int, accessFlags := 18, slot := 0, constantValue := 0 }, { name := "firstData", type := .int, accessFlags := 18, slot := 1, constantValue := 0 }, { name := "below", type := (.array (.array .boolean)), accessFlags := 18, slot := 2, constantValue := 0 }, { name := "transitiveSubRoles", type := (.object "java/util/List"), accessFlags := 18, slot := 3, constantValue := 0 }, { name := "disjoint", type := (.object "java/util/List"), accessFlags := 18, slot := 4, constantValue := 0 }]
  methods := #[k3m0]
  instanceTypes := #[.int, .int, (.array (.array .boolean)), (.object "java/util/List"), (.object "java/util/List")]
  staticTypes := #[]
  resolved := Array.replicate 110 none
  statics := none }

def pool4 : Array CpInfo := pool [(1, u "java/lang/Cloneable"), (0, .class_ 1), (0, u "java/lang/Object"), (0, .class_ 3)] 3

/-- java/lang/Cloneable -/
def k4 : Class := { plain "java/lang/Cloneable" (some 0) with
  accessFlags := 1537
  interfaces := #[]
  cf := some (fileOf pool4 2 #[] #[] 1537 4 #[] #[])
  fields := #[]
  methods := #[]
  instanceTypes := #[]
  staticTypes := #[]
  resolved := Array.replicate 8 none
  statics := none }

def pool5 : Array CpInfo := pool [(1, u "java/io/Serializable"), (0, .class_ 1), (0, u "java/lang/Object"), (0, .class_ 3)] 3

/-- java/io/Serializable -/
def k5 : Class := { plain "java/io/Serializable" (some 0) with
  accessFlags := 1537
  interfaces := #[]
  cf := some (fileOf pool5 2 #[] #[] 1537 4 #[] #[])
  fields := #[]
  methods := #[]
  instanceTypes := #[]
  staticTypes := #[]
  resolved := Array.replicate 8 none
  statics := none }

/-- the primitive byte -/
def k6 : Class := { plain "byte" none with kind := .primitive 'B', accessFlags := 0x411 }
/-- [B -/
def k7 : Class := { plain "[B" (some 0) with kind := .array 6 .byte, interfaces := #[4, 5], accessFlags := 1041 }

/-- the primitive int -/
def k8 : Class := { plain "int" none with kind := .primitive 'I', accessFlags := 0x411 }
/-- [I -/
def k9 : Class := { plain "[I" (some 0) with kind := .array 8 .int, interfaces := #[4, 5], accessFlags := 1041 }

def heap : Heap := #[]
def classes : Array Class := #[k0, k1, k2, k3, k4, k5, k6, k7, k8, k9]
def interned : List (Array UInt16 × Addr) := []
def slotsUsed : Nat := 0
def theMethod : MethodId := ⟨1, 1⟩
def args0 : Array Value := #[.int 5, .int 7]
def aboutOver (below : List Frame) : State where
  vm := { classes := classes, interned := interned.toArray }
  heap := heap
  slotsUsed := slotsUsed
  threads := #[{ frames := .invoking theMethod args0 :: below }]
def below0 : List Frame := [.native { method := ⟨0, 0⟩, args := #[] }]
def about1 : State := aboutOver below0
def p0 : Program := .bare "" "" ""
def e0 : Env := launch0.env 0 0 0
theorem w_frames : about1.frames = Frame.invoking theMethod args0 :: below0 := rfl
set_option maxRecDepth 65536 in
theorem w_args : argsFit about1.vm theMethod args0 = true := by decide +kernel
set_option maxRecDepth 65536 in
theorem w_heap : heapFits about1 = true := by decide +kernel
set_option maxRecDepth 65536 in
theorem w_runnable : about1.curStatus? = some .runnable := by decide +kernel
set_option maxRecDepth 65536 in
theorem w_alone : about1.alone = true := by decide +kernel
set_option maxRecDepth 65536 in
theorem w_named : about1.methodNamed? x = some theMethod := by decide +kernel
set_option maxRecDepth 65536 in
theorem w_hears : about1.hears theMethod below0 = true := by decide +kernel
set_option maxRecDepth 65536 in
theorem w_ripe : about1.ripe theMethod args0 below0 = true := by decide +kernel
theorem w_running : about1.status = .running := rfl
set_option maxRecDepth 65536 in
theorem w_room : about1.hasRoom e0.platform room_1 = true :=
  launch0.hasRoom_least _ room_1 (by decide +kernel) (by decide +kernel) (by decide +kernel) (by decide +kernel) (by decide +kernel) (by decide +kernel)
theorem allAtoms_all (ts : List Jvm.Cond) (a : Array Jvm.Value) (st : Jvm.State) : (allAtoms ts).before a st = ts.all (fun c => c.before a st) := by
  induction ts with
  | nil => rfl
  | cons c t ih =>
    show (Jvm.Cond.and c (allAtoms t)).before a st = _
    rw [Jvm.Cond.before_and, ih, List.all_cons]
def words1 : List Jvm.Cond := Jvm.Cond.code x code maxLocals ret :: tables_1
/-- a 'code' word, met by the world's own term for the bytes: nothing is compared byte by byte -/
theorem code_word {y : MethodName} {bytes : ByteArray} {mx : Nat} {rt : Option FieldType} {a : Array Value} {s : State} {m : MethodId} {meth : Method} {c : Code} (h1 : s.methodNamed? y = some m) (h2 : s.vm.method? m = some meth) (h3 : meth.code = some c) (h4 : c.code = bytes)
    (h5 : (c.maxLocals == mx && c.exceptionTable.isEmpty && decide (c.maxStack ≤ mostOperands) && decide (meth.sig.returnType = rt) && !meth.locks && decide (parseMethodDescriptor y.desc = some meth.sig)) = true) : (Jvm.Cond.code y bytes mx rt).before a s = true := by
  simp only [Bool.and_eq_true, beq_iff_eq, Bool.not_eq_true', decide_eq_true_eq] at h5
  obtain ⟨⟨⟨⟨⟨g1, g2⟩, g3⟩, g4⟩, g5⟩, g6⟩ := h5
  simp [Cond.before, Cond.holds, Cond.value, h1, h2, h3, h4, g1, g2, g3, g4, g5, g6]
def isCode : Jvm.Cond → Bool
  | .code _ _ _ _ => true
  | _ => false
theorem all_split {L : List Jvm.Cond} {P : Jvm.Cond → Bool} (h1 : L.all (fun c => isCode c || P c) = true) (h2 : ∀ c ∈ L.filter isCode, P c = true) : L.all P = true := by
  refine List.all_eq_true.mpr fun c hc => ?_
  have h := List.all_eq_true.mp h1 c hc
  rcases Bool.eq_false_or_eq_true (isCode c) with hi | hi
  · exact h2 c (List.mem_filter.mpr ⟨hc, hi⟩)
  · simpa [hi] using h
set_option maxRecDepth 65536 in
theorem w_c0 : (Jvm.Cond.code x code maxLocals ret).before args0 about1 = true := code_word (m := ⟨1, 1⟩) (meth := k1m1) (c := k1c1) (by decide +kernel) rfl rfl rfl (by decide +kernel)
set_option maxRecDepth 65536 in
theorem w_c1 : (Jvm.Cond.code ({ cls := "java/lang/Math", name := "max", desc := "(II)I" } : Jvm.MethodName) jdk_29_method_65_code (2 : Nat) (Option.some Jvm.ClassFile.FieldType.int)).before args0 about1 = true := code_word (m := ⟨2, 2⟩) (meth := k2m2) (c := k2c2) (by decide +kernel) rfl rfl rfl (by decide +kernel)
set_option maxRecDepth 65536 in
theorem w_c2 : (Jvm.Cond.code ({ cls := "com/example/ontolith/ontolith/core/RoleHierarchy", name := "inverse", desc := "(II)I" } : Jvm.MethodName) prog_65_method_3_code (2 : Nat) (Option.some Jvm.ClassFile.FieldType.int)).before args0 about1 = true := code_word (m := ⟨3, 0⟩) (meth := k3m0) (c := k3c0) (by decide +kernel) rfl rfl rfl (by decide +kernel)
set_option maxRecDepth 65536 in
theorem w_c3 : (Jvm.Cond.code ({ cls := "java/lang/Math", name := "abs", desc := "(I)I" } : Jvm.MethodName) jdk_29_method_59_code (1 : Nat) (Option.some Jvm.ClassFile.FieldType.int)).before args0 about1 = true := code_word (m := ⟨2, 1⟩) (meth := k2m1) (c := k2c1) (by decide +kernel) rfl rfl rfl (by decide +kernel)
def codes1 : List Jvm.Cond := [Jvm.Cond.code x code maxLocals ret, Jvm.Cond.code ({ cls := "java/lang/Math", name := "max", desc := "(II)I" } : Jvm.MethodName) jdk_29_method_65_code (2 : Nat) (Option.some Jvm.ClassFile.FieldType.int), Jvm.Cond.code ({ cls := "com/example/ontolith/ontolith/core/RoleHierarchy", name := "inverse", desc := "(II)I" } : Jvm.MethodName) prog_65_method_3_code (2 : Nat) (Option.some Jvm.ClassFile.FieldType.int), Jvm.Cond.code ({ cls := "java/lang/Math", name := "abs", desc := "(I)I" } : Jvm.MethodName) jdk_29_method_59_code (1 : Nat) (Option.some Jvm.ClassFile.FieldType.int)]
set_option maxRecDepth 65536 in
theorem codes_eq : words1.filter isCode = codes1 := rfl
theorem w_codes : ∀ c ∈ words1.filter isCode, c.before args0 about1 = true := by
  rw [codes_eq]
  intro c hc
  simp only [codes1, List.mem_cons, List.not_mem_nil, or_false] at hc
  rcases hc with rfl | rfl | rfl | rfl
  · exact w_c0
  · exact w_c1
  · exact w_c2
  · exact w_c3
set_option maxRecDepth 65536 in
theorem w_t1 : words1.all (fun c => isCode c || c.before args0 about1) = true := by decide +kernel
theorem w_tables : (allAtoms (Jvm.Cond.code x code maxLocals ret :: tables_1)).before args0 about1 = true := by
  rw [allAtoms_all]
  show words1.all (fun c => c.before args0 about1) = true
  refine all_split ?_ w_codes
  rw [w_t1]
set_option maxRecDepth 65536 in
theorem w_case : (Jvm.Cond.and given_1 narrow_1).before args0 about1 = true := by decide +kernel
theorem w_applies : (headSpec (Jvm.Cond.code x code maxLocals ret :: tables_1) room_1).applies x e0.platform about1 = true :=
  (Spec.applies_iff w_frames).mpr ⟨w_running, w_runnable, w_alone, w_named, w_hears, w_ripe, w_room, w_tables⟩
theorem atStart : AtStart classFile x code maxLocals ret World_1 tables_1 room_1 Calls_1 rest_1 Pre_1 launch0 p0 e0 about1 theMethod args0 below0 :=
  ⟨lists_1, trivial, launch0.admits_env _ _ _, launch0.least_env, fairChoices_fair.cas, fairChoices_fair.clock, w_frames, w_args, w_heap, w_applies, trivial, trivial, w_case⟩
end start1
theorem witness_1 : WitnessClaimed_1 := ⟨start1.p0, start1.e0, start1.about1, start1.theMethod, start1.args0, start1.below0, start1.atStart⟩
end Jvm.Pilot.@@N@@
