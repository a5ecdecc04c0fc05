import JvmDerived
import JvmDerived.Pilot.@@N@@Statement
import JvmDerived.Pilot.@@N@@Code
set_option linter.unusedVariables false
set_option linter.unusedSimpArgs false

namespace Jvm.Pilot.@@N@@
open Jvm Jvm.ClassFile Sem Op Lib Jvm.Free Jvm.Stand Jvm.LawKit Jvm.RoadKit Bundle Jvm.Pilot.@@N@@.Jvm.D

section OwnKit
variable {p : Program} {l : Launch} {e : Env} {R : Room} {s : State} {m : MethodId} {args : Array Value} {below : List Frame} {meth : Method} {c : Code} {T T' : State} {locs : List Loc} {cells slots : Nat} {Z : State} {h h' : Heap}
/-- from the state T with the frame g on top the run ends well -/
def own_G (p : Program) (e : Env) (below : List Frame) (s : State) (kc ks : Nat) (Q : Option Value → Heap → List Loc → Prop) (T : State) (g : JFrame) : Prop :=
  ∃ (U : State) (o : Outcome), Steps p.tables e below (T.setTop g) U ∧ U.status = .running ∧ Ended U below o ∧ ∃ v L, o = .returned v ∧ Q v U.heap L ∧ FrameEnd s o U L kc ks
variable {kc ks : Nat} {Q : Option Value → Heap → List Loc → Prop}
theorem own_step {g g' : JFrame} (k : ∀ t, Steps p.tables e below (T'.setTop g') t → Steps p.tables e below (T.setTop g) t) (hh : own_G p e below s kc ks Q T' g') : own_G p e below s kc ks Q T g := by
  obtain ⟨U, o, h1, h2⟩ := hh
  exact ⟨U, o, k _ h1, h2⟩
theorem own_retN (X : Stand p l e R s m args below meth c T locs cells slots) (hx : p.tables.exec = Jvm.exec) (hlk : meth.locks = false) {pc : Nat} {Ls : Array Slot} {z w : Int32} {t : FieldType} {rest : List Value} (hret : meth.sig.returnType = some t) (ht : t = .boolean ∨ t = .byte ∨ t = .char ∨ t = .short) (hd : decode c.code pc = .ok (.ireturn, 1)) (hw : nar t z = w) (hc : cells ≤ kc) (hs : slots ≤ ks) (hQ : Q (some (.int w)) T.heap locs) :
    own_G p e below s kc ks Q T (mkF m pc Ls (.int z :: rest)) := by
  subst hw
  obtain ⟨fs, hr, hrun, hended, hW, hsame⟩ := X.leave (v := some (.int (nar t z))) (fun q => by rw [hret] at q; cases q) hlk
  exact ⟨_, _, retN X hx hret ht hd hr, hrun, hended, _, _, rfl, hQ, ⟨_, rfl⟩, hW, hsame.mono hc hs⟩
theorem own_retI (X : Stand p l e R s m args below meth c T locs cells slots) (hx : p.tables.exec = Jvm.exec) (hlk : meth.locks = false) {pc : Nat} {Ls : Array Slot} {z : Int32} {rest : List Value} (hret : meth.sig.returnType = some .int) (hd : decode c.code pc = .ok (.ireturn, 1)) (hc : cells ≤ kc) (hs : slots ≤ ks) (hQ : Q (some (.int z)) T.heap locs) :
    own_G p e below s kc ks Q T (mkF m pc Ls (.int z :: rest)) := by
  obtain ⟨fs, hr, hrun, hended, hW, hsame⟩ := X.leave (v := some (.int z)) (fun q => by rw [hret] at q; cases q) hlk
  exact ⟨_, _, retOut X hx hret rfl (Or.inl ⟨rfl, Or.inl rfl, z, rfl⟩) hd hr, hrun, hended, _, _, rfl, hQ, ⟨_, rfl⟩, hW, hsame.mono hc hs⟩
theorem own_retJ (X : Stand p l e R s m args below meth c T locs cells slots) (hx : p.tables.exec = Jvm.exec) (hlk : meth.locks = false) {pc : Nat} {Ls : Array Slot} {z : Int64} {rest : List Value} (hret : meth.sig.returnType = some .long) (hd : decode c.code pc = .ok (.lreturn, 1)) (hc : cells ≤ kc) (hs : slots ≤ ks) (hQ : Q (some (.long z)) T.heap locs) :
    own_G p e below s kc ks Q T (mkF m pc Ls (.long z :: rest)) := by
  obtain ⟨fs, hr, hrun, hended, hW, hsame⟩ := X.leave (v := some (.long z)) (fun q => by rw [hret] at q; cases q) hlk
  exact ⟨_, _, retOut X hx hret rfl (Or.inr (Or.inl ⟨rfl, rfl, z, rfl⟩)) hd hr, hrun, hended, _, _, rfl, hQ, ⟨_, rfl⟩, hW, hsame.mono hc hs⟩
theorem own_retR (X : Stand p l e R s m args below meth c T locs cells slots) (hx : p.tables.exec = Jvm.exec) (hlk : meth.locks = false) {pc : Nat} {Ls : Array Slot} {w : Value} {t : FieldType} {rest : List Value} (hret : meth.sig.returnType = some t) (ht : t.isReference = true) (hw : w.isRef = true) (hd : decode c.code pc = .ok (.areturn, 1)) (hc : cells ≤ kc) (hs : slots ≤ ks) (hQ : Q (some w) T.heap locs) :
    own_G p e below s kc ks Q T (mkF m pc Ls (w :: rest)) := by
  obtain ⟨fs, hr, hrun, hended, hW, hsame⟩ := X.leave (v := some w) (fun q => by rw [hret] at q; cases q) hlk
  have hn : narrow t w = w := by cases w <;> cases t <;> first | rfl | (cases hw; done) | (cases ht; done)
  exact ⟨_, _, retOut X hx hret hn (Or.inr (Or.inr (Or.inr (Or.inr ⟨rfl, ht, hw⟩)))) hd hr, hrun, hended, _, _, rfl, hQ, ⟨_, rfl⟩, hW, hsame.mono hc hs⟩
theorem own_retV (X : Stand p l e R s m args below meth c T locs cells slots) (hx : p.tables.exec = Jvm.exec) (hlk : meth.locks = false) {pc : Nat} {Ls : Array Slot} (hret : meth.sig.returnType = none) (hd : decode c.code pc = .ok (.return_, 1)) (hc : cells ≤ kc) (hs : slots ≤ ks) (hQ : Q none T.heap locs) :
    own_G p e below s kc ks Q T (mkF m pc Ls []) := by
  obtain ⟨fs, hr, hrun, hended, hW, hsame⟩ := X.leave (v := none) (fun _ => rfl) hlk
  exact ⟨_, _, X.returnOut hx hret hd hr, hrun, hended, _, _, rfl, hQ, ⟨_, rfl⟩, hW, hsame.mono hc hs⟩
theorem own_lksw (X : Stand p l e R s m args below meth c T locs cells slots) (hx : p.tables.exec = Jvm.exec) {g : JFrame} (hg : g.method = m) {d : Int} {prs : Array (Int × Int)} {len : Nat} (hd : decode c.code g.pc = .ok (.lookupswitch d prs, len)) {x : Int32} {rest : List Value} (hs : g.stack = .int x :: rest) (hp : (prs.toList.zip (prs.toList.drop 1)).all (fun (a, next) => a.1 < next.1) = true)
    {o : Int} (ho : lookupswitch.offset prs.toList d x.toInt = o) {pc0 pc' : Nat} (hpc : g.pc = pc0) (h0 : 0 ≤ (pc0 : Int) + o) (hq : ((pc0 : Int) + o).toNat = pc') {target : State}
    (k : Steps p.tables e below (T.setTop { g with pc := pc', stack := rest }) target) : Steps p.tables e below (T.setTop g) target := by
  subst hg hpc hq ho
  jvm_step X.here [X.here.top, hx, hd, hs, lookupswitch.wp_chain, hp, h0]
  exact ⟨by simpa using hp, k⟩
theorem own_sta_keep {C n d : String} {v : Value} {ws : List Addr} (F : Sta Z h C n d v) (K : Keep h h' ws) (q : ∀ a ∈ ws, ∀ cell : Cell, h[a]? = some cell → cell.vm.isStatics = false) : Sta Z h' C n d v := by
  obtain ⟨cf, i, k, f, st, cell, h1, h2, h3, h4, h5, h6, h7⟩ := F
  exact ⟨cf, i, k, f, st, cell, h1, h2, h3, h4, K.2.1 st cell h5 (fun hm => by rw [q st hm cell h5] at h6; cases h6), h6, h7⟩
end OwnKit
theorem pd_0 : parseMethodDescriptor "(B)Z" = some ⟨[.byte], some .boolean⟩ := by decide +kernel
theorem pn_0 : plainName "com/example/tapeloom/tapeloom/ProgramIsCommandPinLaw" = true := by first | (simp [plainName, overriddenIn]; done) | decide +kernel
theorem d1_0 : decode prog_16_method_3_code 0 = .ok (.iload_n 0, 1) := by decide +kernel
theorem d1_1 : decode prog_16_method_3_code 1 = .ok (.lookupswitch 77 #[(43, 75), (44, 75), (45, 75), (46, 75), (60, 75), (62, 75), (91, 75), (93, 75)], 75) := by decide +kernel
theorem d1_76 : decode prog_16_method_3_code 76 = .ok (.iconst 1, 1) := by decide +kernel
theorem d1_77 : decode prog_16_method_3_code 77 = .ok (.ireturn, 1) := by decide +kernel
theorem d1_78 : decode prog_16_method_3_code 78 = .ok (.iconst 0, 1) := by decide +kernel
theorem d1_79 : decode prog_16_method_3_code 79 = .ok (.ireturn, 1) := by decide +kernel
theorem pn_1 : plainName "com/example/tapeloom/tapeloom/Program" = true := by first | (simp [plainName, overriddenIn]; done) | decide +kernel
def fn1 (p0 : Int32) : Int32 := if p0 = (43 : Int32) then (1 : Int32) else if p0 = (44 : Int32) then (1 : Int32) else if p0 = (45 : Int32) then (1 : Int32) else if p0 = (46 : Int32) then (1 : Int32) else if p0 = (60 : Int32) then (1 : Int32) else if p0 = (62 : Int32) then (1 : Int32) else if p0 = (91 : Int32) then (1 : Int32) else if p0 = (93 : Int32) then (1 : Int32) else (0 : Int32)
theorem ef_rm1 (m : MethodId) (x0 : Int32) : entryFrame m #[(.int x0)] 1 = mkF m 0 #[.val (.int x0)] [] := by first | (simp [entryFrame, mkF, argsToLocals, Value.category]; done) | rfl
def Qrm1 (Z : State) (p0 : Int32) (h0 : Heap) (n0 : Nat) (v : Option Value) (h : Heap) (L : List Loc) : Prop := v = some (.int (fn1 p0)) ∧ Fr n0 L ∧ h = h0
set_option maxRecDepth 65536 in
set_option maxHeartbeats 40000000 in
theorem rm1 (l : Launch) (Z : State) (a0 : Array Value) (hw : ∀ d ∈ tables_1, d.before a0 Z = true) (ws : List Jvm.Cond) (p0 : Int32) (h0 : Heap) (n0 : Nat) (Z0 : n0 ≤ h0.size) :
    MetFree l (⟨"com/example/tapeloom/tapeloom/Program", "isCommand", "(B)Z"⟩ : MethodName) (head1 (Jvm.Cond.code (⟨"com/example/tapeloom/tapeloom/Program", "isCommand", "(B)Z"⟩ : MethodName) prog_16_method_3_code 1 (some .boolean) :: ws) ({ frames := 0, cells := 0, slots := 0, locals := 0 } : Room)) (fun a U => a = #[(.int p0)] ∧ Z.Warmed39 U.vm ∧ U.heap = h0) (fun _ _ _ _ _ => True) (fun _ U o U' => ∃ v L, o = .returned v ∧ Qrm1 Z p0 h0 n0 v U'.heap L ∧ FrameEnd U o U' L ({ frames := 0, cells := 0, slots := 0, locals := 0 } : Room).cells ({ frames := 0, cells := 0, slots := 0, locals := 0 } : Room).slots) := by
  refine MetFree.of_bodySF (plainFor_of_name pn_1) hisR ?_
  intro p e s m args below meth c s₁ Bd hml0 hP hK
  obtain ⟨rfl, hZ, hh⟩ := hP
  have hx := Bd.exec
  have hby := Bd.bytes
  have hlk : meth.locks = false := BodyLoose.notSynchronized Bd
  have hml : c.maxLocals = 1 := hml0
  have hown : s.vm.findClass "com/example/tapeloom/tapeloom/Program" = some m.cls := findClass_of_methodNamed Bd.named
  have hnm := (name_of_methodNamed Bd.named Bd.method).1
  have X0 : Stand p l e ({ frames := 0, cells := 0, slots := 0, locals := 0 } : Room) s m #[(.int p0)] below meth c s₁ [] 0 0 := Stand.of_body Bd
  have e0 : s₁.heap = h0 := by rw [← hh, Bd.state]; rfl
  have N0 := Fr.nil n0
  have K0 : Keep h0 h0 [] := Keep.refl h0 []
  show own_G p e below s 0 0 (Qrm1 Z p0 h0 n0) s₁ (entryFrame m #[(.int p0)] 1)
  rw [ef_rm1 m p0]
  refine own_step (T' := s₁) (g' := (mkF m 1 #[.val (.int p0)] [(.int p0)])) (fun t k => XS.iloadN X0.here hx rfl (hb hby d1_0) rfl k) ?_
  by_cases hs1 : p0 = (43 : Int32)
  · refine own_step (T' := s₁) (g' := (mkF m 76 #[.val (.int p0)] [])) (fun t k => own_lksw X0 hx (g := (mkF m 1 #[.val (.int p0)] [(.int p0)])) rfl (hb hby d1_1) rfl (by decide) (o := 75) (by show lookupswitch.offset [(43, 75), (44, 75), (45, 75), (46, 75), (60, 75), (62, 75), (91, 75), (93, 75)] 77 (p0).toInt = 75; rw [hs1]; decide) (pc0 := 1) (pc' := 76) rfl (by decide) (by decide) k) ?_
    refine own_step (T' := s₁) (g' := (mkF m 77 #[.val (.int p0)] [(.int (1 : Int32))])) (fun t k => XS.iconst X0.here hx rfl (hb hby d1_76) k) ?_
    refine own_retN X0 hx hlk (t := .boolean) (w := (1 : Int32)) Bd.returns (by simp) (hb hby d1_77) rfl (by decide) (by decide) ?_
    exact ⟨congrArg some (congrArg Value.int (show (1 : Int32) = (fn1 p0) from by unfold fn1; rw [if_pos hs1])), N0, e0⟩
  by_cases hs3 : p0 = (44 : Int32)
  · refine own_step (T' := s₁) (g' := (mkF m 76 #[.val (.int p0)] [])) (fun t k => own_lksw X0 hx (g := (mkF m 1 #[.val (.int p0)] [(.int p0)])) rfl (hb hby d1_1) rfl (by decide) (o := 75) (by show lookupswitch.offset [(43, 75), (44, 75), (45, 75), (46, 75), (60, 75), (62, 75), (91, 75), (93, 75)] 77 (p0).toInt = 75; rw [hs3]; decide) (pc0 := 1) (pc' := 76) rfl (by decide) (by decide) k) ?_
    refine own_step (T' := s₁) (g' := (mkF m 77 #[.val (.int p0)] [(.int (1 : Int32))])) (fun t k => XS.iconst X0.here hx rfl (hb hby d1_76) k) ?_
    refine own_retN X0 hx hlk (t := .boolean) (w := (1 : Int32)) Bd.returns (by simp) (hb hby d1_77) rfl (by decide) (by decide) ?_
    exact ⟨congrArg some (congrArg Value.int (show (1 : Int32) = (fn1 p0) from by unfold fn1; rw [if_neg hs1, if_pos hs3])), N0, e0⟩
  by_cases hs5 : p0 = (45 : Int32)
  · refine own_step (T' := s₁) (g' := (mkF m 76 #[.val (.int p0)] [])) (fun t k => own_lksw X0 hx (g := (mkF m 1 #[.val (.int p0)] [(.int p0)])) rfl (hb hby d1_1) rfl (by decide) (o := 75) (by show lookupswitch.offset [(43, 75), (44, 75), (45, 75), (46, 75), (60, 75), (62, 75), (91, 75), (93, 75)] 77 (p0).toInt = 75; rw [hs5]; decide) (pc0 := 1) (pc' := 76) rfl (by decide) (by decide) k) ?_
    refine own_step (T' := s₁) (g' := (mkF m 77 #[.val (.int p0)] [(.int (1 : Int32))])) (fun t k => XS.iconst X0.here hx rfl (hb hby d1_76) k) ?_
    refine own_retN X0 hx hlk (t := .boolean) (w := (1 : Int32)) Bd.returns (by simp) (hb hby d1_77) rfl (by decide) (by decide) ?_
    exact ⟨congrArg some (congrArg Value.int (show (1 : Int32) = (fn1 p0) from by unfold fn1; rw [if_neg hs1, if_neg hs3, if_pos hs5])), N0, e0⟩
  by_cases hs7 : p0 = (46 : Int32)
  · refine own_step (T' := s₁) (g' := (mkF m 76 #[.val (.int p0)] [])) (fun t k => own_lksw X0 hx (g := (mkF m 1 #[.val (.int p0)] [(.int p0)])) rfl (hb hby d1_1) rfl (by decide) (o := 75) (by show lookupswitch.offset [(43, 75), (44, 75), (45, 75), (46, 75), (60, 75), (62, 75), (91, 75), (93, 75)] 77 (p0).toInt = 75; rw [hs7]; decide) (pc0 := 1) (pc' := 76) rfl (by decide) (by decide) k) ?_
    refine own_step (T' := s₁) (g' := (mkF m 77 #[.val (.int p0)] [(.int (1 : Int32))])) (fun t k => XS.iconst X0.here hx rfl (hb hby d1_76) k) ?_
    refine own_retN X0 hx hlk (t := .boolean) (w := (1 : Int32)) Bd.returns (by simp) (hb hby d1_77) rfl (by decide) (by decide) ?_
    exact ⟨congrArg some (congrArg Value.int (show (1 : Int32) = (fn1 p0) from by unfold fn1; rw [if_neg hs1, if_neg hs3, if_neg hs5, if_pos hs7])), N0, e0⟩
  by_cases hs9 : p0 = (60 : Int32)
  · refine own_step (T' := s₁) (g' := (mkF m 76 #[.val (.int p0)] [])) (fun t k => own_lksw X0 hx (g := (mkF m 1 #[.val (.int p0)] [(.int p0)])) rfl (hb hby d1_1) rfl (by decide) (o := 75) (by show lookupswitch.offset [(43, 75), (44, 75), (45, 75), (46, 75), (60, 75), (62, 75), (91, 75), (93, 75)] 77 (p0).toInt = 75; rw [hs9]; decide) (pc0 := 1) (pc' := 76) rfl (by decide) (by decide) k) ?_
    refine own_step (T' := s₁) (g' := (mkF m 77 #[.val (.int p0)] [(.int (1 : Int32))])) (fun t k => XS.iconst X0.here hx rfl (hb hby d1_76) k) ?_
    refine own_retN X0 hx hlk (t := .boolean) (w := (1 : Int32)) Bd.returns (by simp) (hb hby d1_77) rfl (by decide) (by decide) ?_
    exact ⟨congrArg some (congrArg Value.int (show (1 : Int32) = (fn1 p0) from by unfold fn1; rw [if_neg hs1, if_neg hs3, if_neg hs5, if_neg hs7, if_pos hs9])), N0, e0⟩
  by_cases hs11 : p0 = (62 : Int32)
  · refine own_step (T' := s₁) (g' := (mkF m 76 #[.val (.int p0)] [])) (fun t k => own_lksw X0 hx (g := (mkF m 1 #[.val (.int p0)] [(.int p0)])) rfl (hb hby d1_1) rfl (by decide) (o := 75) (by show lookupswitch.offset [(43, 75), (44, 75), (45, 75), (46, 75), (60, 75), (62, 75), (91, 75), (93, 75)] 77 (p0).toInt = 75; rw [hs11]; decide) (pc0 := 1) (pc' := 76) rfl (by decide) (by decide) k) ?_
    refine own_step (T' := s₁) (g' := (mkF m 77 #[.val (.int p0)] [(.int (1 : Int32))])) (fun t k => XS.iconst X0.here hx rfl (hb hby d1_76) k) ?_
    refine own_retN X0 hx hlk (t := .boolean) (w := (1 : Int32)) Bd.returns (by simp) (hb hby d1_77) rfl (by decide) (by decide) ?_
    exact ⟨congrArg some (congrArg Value.int (show (1 : Int32) = (fn1 p0) from by unfold fn1; rw [if_neg hs1, if_neg hs3, if_neg hs5, if_neg hs7, if_neg hs9, if_pos hs11])), N0, e0⟩
  by_cases hs13 : p0 = (91 : Int32)
  · refine own_step (T' := s₁) (g' := (mkF m 76 #[.val (.int p0)] [])) (fun t k => own_lksw X0 hx (g := (mkF m 1 #[.val (.int p0)] [(.int p0)])) rfl (hb hby d1_1) rfl (by decide) (o := 75) (by show lookupswitch.offset [(43, 75), (44, 75), (45, 75), (46, 75), (60, 75), (62, 75), (91, 75), (93, 75)] 77 (p0).toInt = 75; rw [hs13]; decide) (pc0 := 1) (pc' := 76) rfl (by decide) (by decide) k) ?_
    refine own_step (T' := s₁) (g' := (mkF m 77 #[.val (.int p0)] [(.int (1 : Int32))])) (fun t k => XS.iconst X0.here hx rfl (hb hby d1_76) k) ?_
    refine own_retN X0 hx hlk (t := .boolean) (w := (1 : Int32)) Bd.returns (by simp) (hb hby d1_77) rfl (by decide) (by decide) ?_
    exact ⟨congrArg some (congrArg Value.int (show (1 : Int32) = (fn1 p0) from by unfold fn1; rw [if_neg hs1, if_neg hs3, if_neg hs5, if_neg hs7, if_neg hs9, if_neg hs11, if_pos hs13])), N0, e0⟩
  by_cases hs15 : p0 = (93 : Int32)
  · refine own_step (T' := s₁) (g' := (mkF m 76 #[.val (.int p0)] [])) (fun t k => own_lksw X0 hx (g := (mkF m 1 #[.val (.int p0)] [(.int p0)])) rfl (hb hby d1_1) rfl (by decide) (o := 75) (by show lookupswitch.offset [(43, 75), (44, 75), (45, 75), (46, 75), (60, 75), (62, 75), (91, 75), (93, 75)] 77 (p0).toInt = 75; rw [hs15]; decide) (pc0 := 1) (pc' := 76) rfl (by decide) (by decide) k) ?_
    refine own_step (T' := s₁) (g' := (mkF m 77 #[.val (.int p0)] [(.int (1 : Int32))])) (fun t k => XS.iconst X0.here hx rfl (hb hby d1_76) k) ?_
    refine own_retN X0 hx hlk (t := .boolean) (w := (1 : Int32)) Bd.returns (by simp) (hb hby d1_77) rfl (by decide) (by decide) ?_
    exact ⟨congrArg some (congrArg Value.int (show (1 : Int32) = (fn1 p0) from by unfold fn1; rw [if_neg hs1, if_neg hs3, if_neg hs5, if_neg hs7, if_neg hs9, if_neg hs11, if_neg hs13, if_pos hs15])), N0, e0⟩
  have qhs1 : ¬ (43 : Int) = (p0).toInt := fun q => hs1 (Int32.toInt_inj.mp (q.symm.trans (by decide)))
  have qhs3 : ¬ (44 : Int) = (p0).toInt := fun q => hs3 (Int32.toInt_inj.mp (q.symm.trans (by decide)))
  have qhs5 : ¬ (45 : Int) = (p0).toInt := fun q => hs5 (Int32.toInt_inj.mp (q.symm.trans (by decide)))
  have qhs7 : ¬ (46 : Int) = (p0).toInt := fun q => hs7 (Int32.toInt_inj.mp (q.symm.trans (by decide)))
  have qhs9 : ¬ (60 : Int) = (p0).toInt := fun q => hs9 (Int32.toInt_inj.mp (q.symm.trans (by decide)))
  have qhs11 : ¬ (62 : Int) = (p0).toInt := fun q => hs11 (Int32.toInt_inj.mp (q.symm.trans (by decide)))
  have qhs13 : ¬ (91 : Int) = (p0).toInt := fun q => hs13 (Int32.toInt_inj.mp (q.symm.trans (by decide)))
  have qhs15 : ¬ (93 : Int) = (p0).toInt := fun q => hs15 (Int32.toInt_inj.mp (q.symm.trans (by decide)))
  refine own_step (T' := s₁) (g' := (mkF m 78 #[.val (.int p0)] [])) (fun t k => own_lksw X0 hx (g := (mkF m 1 #[.val (.int p0)] [(.int p0)])) rfl (hb hby d1_1) rfl (by decide) (o := 77) (by show lookupswitch.offset [(43, 75), (44, 75), (45, 75), (46, 75), (60, 75), (62, 75), (91, 75), (93, 75)] 77 (p0).toInt = 77; rw [lookupswitch.offset_cons, if_neg qhs1, lookupswitch.offset_cons, if_neg qhs3, lookupswitch.offset_cons, if_neg qhs5, lookupswitch.offset_cons, if_neg qhs7, lookupswitch.offset_cons, if_neg qhs9, lookupswitch.offset_cons, if_neg qhs11, lookupswitch.offset_cons, if_neg qhs13, lookupswitch.offset_cons, if_neg qhs15, lookupswitch.offset_nil]) (pc0 := 1) (pc' := 78) rfl (by decide) (by decide) k) ?_
  refine own_step (T' := s₁) (g' := (mkF m 79 #[.val (.int p0)] [(.int (0 : Int32))])) (fun t k => XS.iconst X0.here hx rfl (hb hby d1_78) k) ?_
  refine own_retN X0 hx hlk (t := .boolean) (w := (0 : Int32)) Bd.returns (by simp) (hb hby d1_79) rfl (by decide) (by decide) ?_
  exact ⟨congrArg some (congrArg Value.int (show (0 : Int32) = (fn1 p0) from by unfold fn1; rw [if_neg hs1, if_neg hs3, if_neg hs5, if_neg hs7, if_neg hs9, if_neg hs11, if_neg hs13, if_neg hs15])), N0, e0⟩
theorem own_f1a (v : Int32) (h : v.toInt = 43 ∨ v.toInt = 44 ∨ v.toInt = 45 ∨ v.toInt = 46 ∨ v.toInt = 60 ∨ v.toInt = 62 ∨ v.toInt = 91 ∨ v.toInt = 93) : fn1 v = 1 := by
  unfold fn1
  simp only [← Int32.toInt_inj, Int32.reduceToInt]
  rcases h with h | h | h | h | h | h | h | h <;> simp [h]
theorem own_f1b (v : Int32) (h : ¬ (v.toInt = 43 ∨ v.toInt = 44 ∨ v.toInt = 45 ∨ v.toInt = 46 ∨ v.toInt = 60 ∨ v.toInt = 62 ∨ v.toInt = 91 ∨ v.toInt = 93)) : fn1 v = 0 := by
  unfold fn1
  simp only [← Int32.toInt_inj, Int32.reduceToInt]
  simp only [not_or] at h
  obtain ⟨g0, g1, g2, g3, g4, g5, g6, g7⟩ := h
  rw [if_neg g0, if_neg g1, if_neg g2, if_neg g3, if_neg g4, if_neg g5, if_neg g6, if_neg g7]; rfl
theorem ef_rm0 (m : MethodId) (x0 : Int32) : entryFrame m #[(.int x0)] maxLocals = mkF m 0 #[.val (.int x0), .unset, .unset, .unset] [] := by first | (simp [entryFrame, mkF, argsToLocals, Value.category, maxLocals]; done) | rfl
def Qrm0 (Z : State) (p0 : Int32) (h0 : Heap) (n0 : Nat) (v : Option Value) (h : Heap) (L : List Loc) : Prop := v = some (.int (1 : Int32)) ∧ Fr n0 L
set_option maxRecDepth 65536 in
set_option maxHeartbeats 40000000 in
theorem rm0 (l : Launch) (Z : State) (a0 : Array Value) (hw : ∀ d ∈ tables_1, d.before a0 Z = true) (ws : List Jvm.Cond) (p0 : Int32) (h0 : Heap) (n0 : Nat) (Z0 : n0 ≤ h0.size) :
    MetFree l x (head1 (Jvm.Cond.code x code maxLocals ret :: ws) room_1) (fun a U => a = #[(.int p0)] ∧ Z.Warmed39 U.vm ∧ U.heap = h0) (fun _ _ _ _ _ => True) (fun _ U o U' => ∃ v L, o = .returned v ∧ Qrm0 Z p0 h0 n0 v U'.heap L ∧ FrameEnd U o U' L 0 0) := by
  refine MetFree.of_bodySF (plainFor_of_name pn_0) hisR ?_
  intro p e s m args below meth c s₁ Bd hml0 hP hK
  obtain ⟨rfl, hZ, hh⟩ := hP
  have hx := Bd.exec
  have hby := Bd.bytes
  have hlk : meth.locks = false := BodyLoose.notSynchronized Bd
  have hml : c.maxLocals = 4 := hml0
  have hown : s.vm.findClass "com/example/tapeloom/tapeloom/ProgramIsCommandPinLaw" = some m.cls := findClass_of_methodNamed Bd.named
  have hnm := (name_of_methodNamed Bd.named Bd.method).1
  have X0 : Stand p l e room_1 s m #[(.int p0)] below meth c s₁ [] 0 0 := Stand.of_body Bd
  have e0 : s₁.heap = h0 := by rw [← hh, Bd.state]; rfl
  have N0 := Fr.nil n0
  have K0 : Keep h0 h0 [] := Keep.refl h0 []
  show own_G p e below s 0 0 (Qrm0 Z p0 h0 n0) s₁ (entryFrame m #[(.int p0)] maxLocals)
  rw [ef_rm0 m p0]
  refine own_step (T' := s₁) (g' := (mkF m 1 #[.val (.int p0), .unset, .unset, .unset] [(.int p0)])) (fun t k => XS.iloadN X0.here hx rfl (hb hby at_0) rfl k) ?_
  refine own_step (T' := s₁) (g' := (mkF m 2 #[.val (.int p0), .unset, .unset, .unset] [(.int p0.toInt8.toInt32)])) (fun t k => XS.i2b X0.here hx rfl (hb hby at_1) rfl k) ?_
  generalize hv1 : p0.toInt8.toInt32 = v1
  refine own_step (T' := s₁) (g' := (mkF m 3 #[.val (.int p0), .val (.int v1), .unset, .unset] [])) (fun t k => XS.istoreN X0.here hx rfl (hb hby at_2) rfl (l' := #[.val (.int p0), .val (.int v1), .unset, .unset]) rfl k) ?_
  refine own_step (T' := s₁) (g' := (mkF m 4 #[.val (.int p0), .val (.int v1), .unset, .unset] [(.int v1)])) (fun t k => XS.iloadN X0.here hx rfl (hb hby at_3) rfl k) ?_
  refine own_step (T' := s₁) (g' := (mkF m 5 #[.val (.int p0), .val (.int v1), .val (.int v1), .unset] [])) (fun t k => XS.istoreN X0.here hx rfl (hb hby at_4) rfl (l' := #[.val (.int p0), .val (.int v1), .val (.int v1), .unset]) rfl k) ?_
  refine own_step (T' := s₁) (g' := (mkF m 6 #[.val (.int p0), .val (.int v1), .val (.int v1), .unset] [(.int v1)])) (fun t k => XS.iloadN X0.here hx rfl (hb hby at_5) rfl k) ?_
  refine own_step (T' := s₁) (g' := (mkF m 8 #[.val (.int p0), .val (.int v1), .val (.int v1), .unset] [(.int (43 : Int32)), (.int v1)])) (fun t k => XS.bipush X0.here hx rfl (hb hby at_6) k) ?_
  by_cases hc8_2 : v1 < (43 : Int32)
  · refine own_step (T' := s₁) (g' := (mkF m 17 #[.val (.int p0), .val (.int v1), .val (.int v1), .unset] [])) (fun t k => XS.icmpYes X0.here hx rfl (pc0 := 8) (pc' := 17) rfl (hb hby at_8) rfl (tlt hc8_2).1 (by decide) (by decide) k) ?_
    refine own_step (T' := s₁) (g' := (mkF m 18 #[.val (.int p0), .val (.int v1), .val (.int v1), .unset] [(.int v1)])) (fun t k => XS.iloadN X0.here hx rfl (hb hby at_17) rfl k) ?_
    refine own_step (T' := s₁) (g' := (mkF m 20 #[.val (.int p0), .val (.int v1), .val (.int v1), .unset] [(.int (60 : Int32)), (.int v1)])) (fun t k => XS.bipush X0.here hx rfl (hb hby at_18) k) ?_
    by_cases hc20_3 : v1 = (60 : Int32)
    · refine own_step (T' := s₁) (g' := (mkF m 41 #[.val (.int p0), .val (.int v1), .val (.int v1), .unset] [])) (fun t k => XS.icmpYes X0.here hx rfl (pc0 := 20) (pc' := 41) rfl (hb hby at_20) rfl (teq hc20_3).1 (by decide) (by decide) k) ?_
      refine own_step (T' := s₁) (g' := (mkF m 42 #[.val (.int p0), .val (.int v1), .val (.int v1), .unset] [(.int (1 : Int32))])) (fun t k => XS.iconst X0.here hx rfl (hb hby at_41) k) ?_
      refine own_step (T' := s₁) (g' := (mkF m 46 #[.val (.int p0), .val (.int v1), .val (.int v1), .unset] [(.int (1 : Int32))])) (fun t k => XS.goto X0.here hx rfl (pc0 := 42) (pc' := 46) rfl (hb hby at_42) (by decide) (by decide) k) ?_
      refine own_step (T' := s₁) (g' := (mkF m 47 #[.val (.int p0), .val (.int v1), .val (.int v1), .val (.int (1 : Int32))] [])) (fun t k => XS.istoreN X0.here hx rfl (hb hby at_46) rfl (l' := #[.val (.int p0), .val (.int v1), .val (.int v1), .val (.int (1 : Int32))]) rfl k) ?_
      refine own_step (T' := s₁) (g' := (mkF m 48 #[.val (.int p0), .val (.int v1), .val (.int v1), .val (.int (1 : Int32))] [(.int v1)])) (fun t k => XS.iloadN X0.here hx rfl (hb hby at_47) rfl k) ?_
      obtain ⟨_, _, ⟨T4, L4, kk4, nn4⟩, -, X4, ⟨Lc4, hQ4, l4, y4, z4⟩, st4⟩ := Jvm.LawKit.callS X0 hx (y := (⟨"com/example/tapeloom/tapeloom/Program", "isCommand", "(B)Z"⟩ : MethodName)) hown (mvT hZ (hw _ (List.mem_of_getElem? (i := 0) rfl))) (mvT hZ (hw _ (List.mem_of_getElem? (i := 1) rfl))) (mvT hZ (hw _ (List.mem_of_getElem? (i := 2) rfl))) (mvT hZ (hw _ (List.mem_of_getElem? (i := 3) rfl))) (by decide) (backOf (W := 0) (rm1 l Z a0 hw [] v1 h0 n0 (Nat.le_trans Z0 K0.1) ) hZ (hw _ (List.mem_of_getElem? (i := 3) rfl)) (hw _ (List.mem_of_getElem? (i := 2) rfl)) (by decide) (by decide)) (g := (mkF m 48 #[.val (.int p0), .val (.int v1), .val (.int v1), .val (.int (1 : Int32))] [(.int v1)])) rfl (by rw [hml]; rfl) (argsL := [(.int v1)]) (rest := []) (lenOf pd_0 rfl) rfl (by show 2 * 0 + _ ≤ _; exact Nat.le_of_eq rfl) (hb hby at_48) (fun _ _ => ⟨rfl, e0, (by decide : 0 + 0 ≤ _), (by decide : 0 + 0 ≤ _)⟩)
      dsimp only [Pt.U, Pt.locs, Pt.cells, Pt.slots] at X4 l4 y4 z4 st4 hQ4
      subst l4 y4 z4
      obtain ⟨rfl, N4q, eq4⟩ := hQ4
      have N4 := Fr.app N0 N4q
      refine own_step (T' := T4) (g' := (mkF m 51 #[.val (.int p0), .val (.int v1), .val (.int v1), .val (.int (1 : Int32))] [(.int (fn1 v1))])) st4 ?_
      refine own_step (T' := T4) (g' := (mkF m 52 #[.val (.int p0), .val (.int v1), .val (.int v1), .val (.int (1 : Int32))] [(.int (1 : Int32)), (.int (fn1 v1))])) (fun t k => XS.iloadN X4.here hx rfl (hb hby at_51) rfl k) ?_
      refine own_step (T' := T4) (g' := (mkF m 55 #[.val (.int p0), .val (.int v1), .val (.int v1), .val (.int (1 : Int32))] [])) (fun t k => XS.icmpNo X4.here hx rfl (hb hby at_52) rfl (teq (own_f1a _ (by simp only [Int32.lt_iff_toInt_lt, ← Int32.toInt_inj, Int32.reduceToInt] at hc8_2 hc20_3; omega))).2 k) ?_
      refine own_step (T' := T4) (g' := (mkF m 56 #[.val (.int p0), .val (.int v1), .val (.int v1), .val (.int (1 : Int32))] [(.int (1 : Int32))])) (fun t k => XS.iconst X4.here hx rfl (hb hby at_55) k) ?_
      refine own_step (T' := T4) (g' := (mkF m 60 #[.val (.int p0), .val (.int v1), .val (.int v1), .val (.int (1 : Int32))] [(.int (1 : Int32))])) (fun t k => XS.goto X4.here hx rfl (pc0 := 56) (pc' := 60) rfl (hb hby at_56) (by decide) (by decide) k) ?_
      refine own_retN X4 hx hlk (t := .boolean) (w := (1 : Int32)) Bd.returns (by simp) (hb hby at_60) rfl (by decide) (by decide) ?_
      exact ⟨rfl, N4⟩
    · refine own_step (T' := s₁) (g' := (mkF m 23 #[.val (.int p0), .val (.int v1), .val (.int v1), .unset] [])) (fun t k => XS.icmpNo X0.here hx rfl (hb hby at_20) rfl (feq hc20_3).1 k) ?_
      refine own_step (T' := s₁) (g' := (mkF m 24 #[.val (.int p0), .val (.int v1), .val (.int v1), .unset] [(.int v1)])) (fun t k => XS.iloadN X0.here hx rfl (hb hby at_23) rfl k) ?_
      refine own_step (T' := s₁) (g' := (mkF m 26 #[.val (.int p0), .val (.int v1), .val (.int v1), .unset] [(.int (62 : Int32)), (.int v1)])) (fun t k => XS.bipush X0.here hx rfl (hb hby at_24) k) ?_
      by_cases hc26_6 : v1 = (62 : Int32)
      · refine own_step (T' := s₁) (g' := (mkF m 41 #[.val (.int p0), .val (.int v1), .val (.int v1), .unset] [])) (fun t k => XS.icmpYes X0.here hx rfl (pc0 := 26) (pc' := 41) rfl (hb hby at_26) rfl (teq hc26_6).1 (by decide) (by decide) k) ?_
        refine own_step (T' := s₁) (g' := (mkF m 42 #[.val (.int p0), .val (.int v1), .val (.int v1), .unset] [(.int (1 : Int32))])) (fun t k => XS.iconst X0.here hx rfl (hb hby at_41) k) ?_
        refine own_step (T' := s₁) (g' := (mkF m 46 #[.val (.int p0), .val (.int v1), .val (.int v1), .unset] [(.int (1 : Int32))])) (fun t k => XS.goto X0.here hx rfl (pc0 := 42) (pc' := 46) rfl (hb hby at_42) (by decide) (by decide) k) ?_
        refine own_step (T' := s₁) (g' := (mkF m 47 #[.val (.int p0), .val (.int v1), .val (.int v1), .val (.int (1 : Int32))] [])) (fun t k => XS.istoreN X0.here hx rfl (hb hby at_46) rfl (l' := #[.val (.int p0), .val (.int v1), .val (.int v1), .val (.int (1 : Int32))]) rfl k) ?_
        refine own_step (T' := s₁) (g' := (mkF m 48 #[.val (.int p0), .val (.int v1), .val (.int v1), .val (.int (1 : Int32))] [(.int v1)])) (fun t k => XS.iloadN X0.here hx rfl (hb hby at_47) rfl k) ?_
        obtain ⟨_, _, ⟨T7, L7, kk7, nn7⟩, -, X7, ⟨Lc7, hQ7, l7, y7, z7⟩, st7⟩ := Jvm.LawKit.callS X0 hx (y := (⟨"com/example/tapeloom/tapeloom/Program", "isCommand", "(B)Z"⟩ : MethodName)) hown (mvT hZ (hw _ (List.mem_of_getElem? (i := 0) rfl))) (mvT hZ (hw _ (List.mem_of_getElem? (i := 1) rfl))) (mvT hZ (hw _ (List.mem_of_getElem? (i := 2) rfl))) (mvT hZ (hw _ (List.mem_of_getElem? (i := 3) rfl))) (by decide) (backOf (W := 0) (rm1 l Z a0 hw [] v1 h0 n0 (Nat.le_trans Z0 K0.1) ) hZ (hw _ (List.mem_of_getElem? (i := 3) rfl)) (hw _ (List.mem_of_getElem? (i := 2) rfl)) (by decide) (by decide)) (g := (mkF m 48 #[.val (.int p0), .val (.int v1), .val (.int v1), .val (.int (1 : Int32))] [(.int v1)])) rfl (by rw [hml]; rfl) (argsL := [(.int v1)]) (rest := []) (lenOf pd_0 rfl) rfl (by show 2 * 0 + _ ≤ _; exact Nat.le_of_eq rfl) (hb hby at_48) (fun _ _ => ⟨rfl, e0, (by decide : 0 + 0 ≤ _), (by decide : 0 + 0 ≤ _)⟩)
        dsimp only [Pt.U, Pt.locs, Pt.cells, Pt.slots] at X7 l7 y7 z7 st7 hQ7
        subst l7 y7 z7
        obtain ⟨rfl, N7q, eq7⟩ := hQ7
        have N7 := Fr.app N0 N7q
        refine own_step (T' := T7) (g' := (mkF m 51 #[.val (.int p0), .val (.int v1), .val (.int v1), .val (.int (1 : Int32))] [(.int (fn1 v1))])) st7 ?_
        refine own_step (T' := T7) (g' := (mkF m 52 #[.val (.int p0), .val (.int v1), .val (.int v1), .val (.int (1 : Int32))] [(.int (1 : Int32)), (.int (fn1 v1))])) (fun t k => XS.iloadN X7.here hx rfl (hb hby at_51) rfl k) ?_
        refine own_step (T' := T7) (g' := (mkF m 55 #[.val (.int p0), .val (.int v1), .val (.int v1), .val (.int (1 : Int32))] [])) (fun t k => XS.icmpNo X7.here hx rfl (hb hby at_52) rfl (teq (own_f1a _ (by simp only [Int32.lt_iff_toInt_lt, ← Int32.toInt_inj, Int32.reduceToInt] at hc8_2 hc20_3 hc26_6; omega))).2 k) ?_
        refine own_step (T' := T7) (g' := (mkF m 56 #[.val (.int p0), .val (.int v1), .val (.int v1), .val (.int (1 : Int32))] [(.int (1 : Int32))])) (fun t k => XS.iconst X7.here hx rfl (hb hby at_55) k) ?_
        refine own_step (T' := T7) (g' := (mkF m 60 #[.val (.int p0), .val (.int v1), .val (.int v1), .val (.int (1 : Int32))] [(.int (1 : Int32))])) (fun t k => XS.goto X7.here hx rfl (pc0 := 56) (pc' := 60) rfl (hb hby at_56) (by decide) (by decide) k) ?_
        refine own_retN X7 hx hlk (t := .boolean) (w := (1 : Int32)) Bd.returns (by simp) (hb hby at_60) rfl (by decide) (by decide) ?_
        exact ⟨rfl, N7⟩
      · refine own_step (T' := s₁) (g' := (mkF m 29 #[.val (.int p0), .val (.int v1), .val (.int v1), .unset] [])) (fun t k => XS.icmpNo X0.here hx rfl (hb hby at_26) rfl (feq hc26_6).1 k) ?_
        refine own_step (T' := s₁) (g' := (mkF m 30 #[.val (.int p0), .val (.int v1), .val (.int v1), .unset] [(.int v1)])) (fun t k => XS.iloadN X0.here hx rfl (hb hby at_29) rfl k) ?_
        refine own_step (T' := s₁) (g' := (mkF m 32 #[.val (.int p0), .val (.int v1), .val (.int v1), .unset] [(.int (91 : Int32)), (.int v1)])) (fun t k => XS.bipush X0.here hx rfl (hb hby at_30) k) ?_
        by_cases hc32_9 : v1 = (91 : Int32)
        · refine own_step (T' := s₁) (g' := (mkF m 41 #[.val (.int p0), .val (.int v1), .val (.int v1), .unset] [])) (fun t k => XS.icmpYes X0.here hx rfl (pc0 := 32) (pc' := 41) rfl (hb hby at_32) rfl (teq hc32_9).1 (by decide) (by decide) k) ?_
          refine own_step (T' := s₁) (g' := (mkF m 42 #[.val (.int p0), .val (.int v1), .val (.int v1), .unset] [(.int (1 : Int32))])) (fun t k => XS.iconst X0.here hx rfl (hb hby at_41) k) ?_
          refine own_step (T' := s₁) (g' := (mkF m 46 #[.val (.int p0), .val (.int v1), .val (.int v1), .unset] [(.int (1 : Int32))])) (fun t k => XS.goto X0.here hx rfl (pc0 := 42) (pc' := 46) rfl (hb hby at_42) (by decide) (by decide) k) ?_
          refine own_step (T' := s₁) (g' := (mkF m 47 #[.val (.int p0), .val (.int v1), .val (.int v1), .val (.int (1 : Int32))] [])) (fun t k => XS.istoreN X0.here hx rfl (hb hby at_46) rfl (l' := #[.val (.int p0), .val (.int v1), .val (.int v1), .val (.int (1 : Int32))]) rfl k) ?_
          refine own_step (T' := s₁) (g' := (mkF m 48 #[.val (.int p0), .val (.int v1), .val (.int v1), .val (.int (1 : Int32))] [(.int v1)])) (fun t k => XS.iloadN X0.here hx rfl (hb hby at_47) rfl k) ?_
          obtain ⟨_, _, ⟨T10, L10, kk10, nn10⟩, -, X10, ⟨Lc10, hQ10, l10, y10, z10⟩, st10⟩ := Jvm.LawKit.callS X0 hx (y := (⟨"com/example/tapeloom/tapeloom/Program", "isCommand", "(B)Z"⟩ : MethodName)) hown (mvT hZ (hw _ (List.mem_of_getElem? (i := 0) rfl))) (mvT hZ (hw _ (List.mem_of_getElem? (i := 1) rfl))) (mvT hZ (hw _ (List.mem_of_getElem? (i := 2) rfl))) (mvT hZ (hw _ (List.mem_of_getElem? (i := 3) rfl))) (by decide) (backOf (W := 0) (rm1 l Z a0 hw [] v1 h0 n0 (Nat.le_trans Z0 K0.1) ) hZ (hw _ (List.mem_of_getElem? (i := 3) rfl)) (hw _ (List.mem_of_getElem? (i := 2) rfl)) (by decide) (by decide)) (g := (mkF m 48 #[.val (.int p0), .val (.int v1), .val (.int v1), .val (.int (1 : Int32))] [(.int v1)])) rfl (by rw [hml]; rfl) (argsL := [(.int v1)]) (rest := []) (lenOf pd_0 rfl) rfl (by show 2 * 0 + _ ≤ _; exact Nat.le_of_eq rfl) (hb hby at_48) (fun _ _ => ⟨rfl, e0, (by decide : 0 + 0 ≤ _), (by decide : 0 + 0 ≤ _)⟩)
          dsimp only [Pt.U, Pt.locs, Pt.cells, Pt.slots] at X10 l10 y10 z10 st10 hQ10
          subst l10 y10 z10
          obtain ⟨rfl, N10q, eq10⟩ := hQ10
          have N10 := Fr.app N0 N10q
          refine own_step (T' := T10) (g' := (mkF m 51 #[.val (.int p0), .val (.int v1), .val (.int v1), .val (.int (1 : Int32))] [(.int (fn1 v1))])) st10 ?_
          refine own_step (T' := T10) (g' := (mkF m 52 #[.val (.int p0), .val (.int v1), .val (.int v1), .val (.int (1 : Int32))] [(.int (1 : Int32)), (.int (fn1 v1))])) (fun t k => XS.iloadN X10.here hx rfl (hb hby at_51) rfl k) ?_
          refine own_step (T' := T10) (g' := (mkF m 55 #[.val (.int p0), .val (.int v1), .val (.int v1), .val (.int (1 : Int32))] [])) (fun t k => XS.icmpNo X10.here hx rfl (hb hby at_52) rfl (teq (own_f1a _ (by simp only [Int32.lt_iff_toInt_lt, ← Int32.toInt_inj, Int32.reduceToInt] at hc8_2 hc20_3 hc26_6 hc32_9; omega))).2 k) ?_
          refine own_step (T' := T10) (g' := (mkF m 56 #[.val (.int p0), .val (.int v1), .val (.int v1), .val (.int (1 : Int32))] [(.int (1 : Int32))])) (fun t k => XS.iconst X10.here hx rfl (hb hby at_55) k) ?_
          refine own_step (T' := T10) (g' := (mkF m 60 #[.val (.int p0), .val (.int v1), .val (.int v1), .val (.int (1 : Int32))] [(.int (1 : Int32))])) (fun t k => XS.goto X10.here hx rfl (pc0 := 56) (pc' := 60) rfl (hb hby at_56) (by decide) (by decide) k) ?_
          refine own_retN X10 hx hlk (t := .boolean) (w := (1 : Int32)) Bd.returns (by simp) (hb hby at_60) rfl (by decide) (by decide) ?_
          exact ⟨rfl, N10⟩
        · refine own_step (T' := s₁) (g' := (mkF m 35 #[.val (.int p0), .val (.int v1), .val (.int v1), .unset] [])) (fun t k => XS.icmpNo X0.here hx rfl (hb hby at_32) rfl (feq hc32_9).1 k) ?_
          refine own_step (T' := s₁) (g' := (mkF m 36 #[.val (.int p0), .val (.int v1), .val (.int v1), .unset] [(.int v1)])) (fun t k => XS.iloadN X0.here hx rfl (hb hby at_35) rfl k) ?_
          refine own_step (T' := s₁) (g' := (mkF m 38 #[.val (.int p0), .val (.int v1), .val (.int v1), .unset] [(.int (93 : Int32)), (.int v1)])) (fun t k => XS.bipush X0.here hx rfl (hb hby at_36) k) ?_
          by_cases hc38_12 : v1 = (93 : Int32)
          · refine own_step (T' := s₁) (g' := (mkF m 41 #[.val (.int p0), .val (.int v1), .val (.int v1), .unset] [])) (fun t k => XS.icmpNo X0.here hx rfl (hb hby at_38) rfl (teq hc38_12).2 k) ?_
            refine own_step (T' := s₁) (g' := (mkF m 42 #[.val (.int p0), .val (.int v1), .val (.int v1), .unset] [(.int (1 : Int32))])) (fun t k => XS.iconst X0.here hx rfl (hb hby at_41) k) ?_
            refine own_step (T' := s₁) (g' := (mkF m 46 #[.val (.int p0), .val (.int v1), .val (.int v1), .unset] [(.int (1 : Int32))])) (fun t k => XS.goto X0.here hx rfl (pc0 := 42) (pc' := 46) rfl (hb hby at_42) (by decide) (by decide) k) ?_
            refine own_step (T' := s₁) (g' := (mkF m 47 #[.val (.int p0), .val (.int v1), .val (.int v1), .val (.int (1 : Int32))] [])) (fun t k => XS.istoreN X0.here hx rfl (hb hby at_46) rfl (l' := #[.val (.int p0), .val (.int v1), .val (.int v1), .val (.int (1 : Int32))]) rfl k) ?_
            refine own_step (T' := s₁) (g' := (mkF m 48 #[.val (.int p0), .val (.int v1), .val (.int v1), .val (.int (1 : Int32))] [(.int v1)])) (fun t k => XS.iloadN X0.here hx rfl (hb hby at_47) rfl k) ?_
            obtain ⟨_, _, ⟨T13, L13, kk13, nn13⟩, -, X13, ⟨Lc13, hQ13, l13, y13, z13⟩, st13⟩ := Jvm.LawKit.callS X0 hx (y := (⟨"com/example/tapeloom/tapeloom/Program", "isCommand", "(B)Z"⟩ : MethodName)) hown (mvT hZ (hw _ (List.mem_of_getElem? (i := 0) rfl))) (mvT hZ (hw _ (List.mem_of_getElem? (i := 1) rfl))) (mvT hZ (hw _ (List.mem_of_getElem? (i := 2) rfl))) (mvT hZ (hw _ (List.mem_of_getElem? (i := 3) rfl))) (by decide) (backOf (W := 0) (rm1 l Z a0 hw [] v1 h0 n0 (Nat.le_trans Z0 K0.1) ) hZ (hw _ (List.mem_of_getElem? (i := 3) rfl)) (hw _ (List.mem_of_getElem? (i := 2) rfl)) (by decide) (by decide)) (g := (mkF m 48 #[.val (.int p0), .val (.int v1), .val (.int v1), .val (.int (1 : Int32))] [(.int v1)])) rfl (by rw [hml]; rfl) (argsL := [(.int v1)]) (rest := []) (lenOf pd_0 rfl) rfl (by show 2 * 0 + _ ≤ _; exact Nat.le_of_eq rfl) (hb hby at_48) (fun _ _ => ⟨rfl, e0, (by decide : 0 + 0 ≤ _), (by decide : 0 + 0 ≤ _)⟩)
            dsimp only [Pt.U, Pt.locs, Pt.cells, Pt.slots] at X13 l13 y13 z13 st13 hQ13
            subst l13 y13 z13
            obtain ⟨rfl, N13q, eq13⟩ := hQ13
            have N13 := Fr.app N0 N13q
            refine own_step (T' := T13) (g' := (mkF m 51 #[.val (.int p0), .val (.int v1), .val (.int v1), .val (.int (1 : Int32))] [(.int (fn1 v1))])) st13 ?_
            refine own_step (T' := T13) (g' := (mkF m 52 #[.val (.int p0), .val (.int v1), .val (.int v1), .val (.int (1 : Int32))] [(.int (1 : Int32)), (.int (fn1 v1))])) (fun t k => XS.iloadN X13.here hx rfl (hb hby at_51) rfl k) ?_
            refine own_step (T' := T13) (g' := (mkF m 55 #[.val (.int p0), .val (.int v1), .val (.int v1), .val (.int (1 : Int32))] [])) (fun t k => XS.icmpNo X13.here hx rfl (hb hby at_52) rfl (teq (own_f1a _ (by simp only [Int32.lt_iff_toInt_lt, ← Int32.toInt_inj, Int32.reduceToInt] at hc8_2 hc20_3 hc26_6 hc32_9 hc38_12; omega))).2 k) ?_
            refine own_step (T' := T13) (g' := (mkF m 56 #[.val (.int p0), .val (.int v1), .val (.int v1), .val (.int (1 : Int32))] [(.int (1 : Int32))])) (fun t k => XS.iconst X13.here hx rfl (hb hby at_55) k) ?_
            refine own_step (T' := T13) (g' := (mkF m 60 #[.val (.int p0), .val (.int v1), .val (.int v1), .val (.int (1 : Int32))] [(.int (1 : Int32))])) (fun t k => XS.goto X13.here hx rfl (pc0 := 56) (pc' := 60) rfl (hb hby at_56) (by decide) (by decide) k) ?_
            refine own_retN X13 hx hlk (t := .boolean) (w := (1 : Int32)) Bd.returns (by simp) (hb hby at_60) rfl (by decide) (by decide) ?_
            exact ⟨rfl, N13⟩
          · refine own_step (T' := s₁) (g' := (mkF m 45 #[.val (.int p0), .val (.int v1), .val (.int v1), .unset] [])) (fun t k => XS.icmpYes X0.here hx rfl (pc0 := 38) (pc' := 45) rfl (hb hby at_38) rfl (feq hc38_12).2 (by decide) (by decide) k) ?_
            refine own_step (T' := s₁) (g' := (mkF m 46 #[.val (.int p0), .val (.int v1), .val (.int v1), .unset] [(.int (0 : Int32))])) (fun t k => XS.iconst X0.here hx rfl (hb hby at_45) k) ?_
            refine own_step (T' := s₁) (g' := (mkF m 47 #[.val (.int p0), .val (.int v1), .val (.int v1), .val (.int (0 : Int32))] [])) (fun t k => XS.istoreN X0.here hx rfl (hb hby at_46) rfl (l' := #[.val (.int p0), .val (.int v1), .val (.int v1), .val (.int (0 : Int32))]) rfl k) ?_
            refine own_step (T' := s₁) (g' := (mkF m 48 #[.val (.int p0), .val (.int v1), .val (.int v1), .val (.int (0 : Int32))] [(.int v1)])) (fun t k => XS.iloadN X0.here hx rfl (hb hby at_47) rfl k) ?_
            obtain ⟨_, _, ⟨T15, L15, kk15, nn15⟩, -, X15, ⟨Lc15, hQ15, l15, y15, z15⟩, st15⟩ := Jvm.LawKit.callS X0 hx (y := (⟨"com/example/tapeloom/tapeloom/Program", "isCommand", "(B)Z"⟩ : MethodName)) hown (mvT hZ (hw _ (List.mem_of_getElem? (i := 0) rfl))) (mvT hZ (hw _ (List.mem_of_getElem? (i := 1) rfl))) (mvT hZ (hw _ (List.mem_of_getElem? (i := 2) rfl))) (mvT hZ (hw _ (List.mem_of_getElem? (i := 3) rfl))) (by decide) (backOf (W := 0) (rm1 l Z a0 hw [] v1 h0 n0 (Nat.le_trans Z0 K0.1) ) hZ (hw _ (List.mem_of_getElem? (i := 3) rfl)) (hw _ (List.mem_of_getElem? (i := 2) rfl)) (by decide) (by decide)) (g := (mkF m 48 #[.val (.int p0), .val (.int v1), .val (.int v1), .val (.int (0 : Int32))] [(.int v1)])) rfl (by rw [hml]; rfl) (argsL := [(.int v1)]) (rest := []) (lenOf pd_0 rfl) rfl (by show 2 * 0 + _ ≤ _; exact Nat.le_of_eq rfl) (hb hby at_48) (fun _ _ => ⟨rfl, e0, (by decide : 0 + 0 ≤ _), (by decide : 0 + 0 ≤ _)⟩)
            dsimp only [Pt.U, Pt.locs, Pt.cells, Pt.slots] at X15 l15 y15 z15 st15 hQ15
            subst l15 y15 z15
            obtain ⟨rfl, N15q, eq15⟩ := hQ15
            have N15 := Fr.app N0 N15q
            refine own_step (T' := T15) (g' := (mkF m 51 #[.val (.int p0), .val (.int v1), .val (.int v1), .val (.int (0 : Int32))] [(.int (fn1 v1))])) st15 ?_
            refine own_step (T' := T15) (g' := (mkF m 52 #[.val (.int p0), .val (.int v1), .val (.int v1), .val (.int (0 : Int32))] [(.int (0 : Int32)), (.int (fn1 v1))])) (fun t k => XS.iloadN X15.here hx rfl (hb hby at_51) rfl k) ?_
            refine own_step (T' := T15) (g' := (mkF m 55 #[.val (.int p0), .val (.int v1), .val (.int v1), .val (.int (0 : Int32))] [])) (fun t k => XS.icmpNo X15.here hx rfl (hb hby at_52) rfl (teq (own_f1b _ (by simp only [Int32.lt_iff_toInt_lt, ← Int32.toInt_inj, Int32.reduceToInt] at hc8_2 hc20_3 hc26_6 hc32_9 hc38_12; omega))).2 k) ?_
            refine own_step (T' := T15) (g' := (mkF m 56 #[.val (.int p0), .val (.int v1), .val (.int v1), .val (.int (0 : Int32))] [(.int (1 : Int32))])) (fun t k => XS.iconst X15.here hx rfl (hb hby at_55) k) ?_
            refine own_step (T' := T15) (g' := (mkF m 60 #[.val (.int p0), .val (.int v1), .val (.int v1), .val (.int (0 : Int32))] [(.int (1 : Int32))])) (fun t k => XS.goto X15.here hx rfl (pc0 := 56) (pc' := 60) rfl (hb hby at_56) (by decide) (by decide) k) ?_
            refine own_retN X15 hx hlk (t := .boolean) (w := (1 : Int32)) Bd.returns (by simp) (hb hby at_60) rfl (by decide) (by decide) ?_
            exact ⟨rfl, N15⟩
  · refine own_step (T' := s₁) (g' := (mkF m 11 #[.val (.int p0), .val (.int v1), .val (.int v1), .unset] [])) (fun t k => XS.icmpNo X0.here hx rfl (hb hby at_8) rfl (flt hc8_2).1 k) ?_
    refine own_step (T' := s₁) (g' := (mkF m 12 #[.val (.int p0), .val (.int v1), .val (.int v1), .unset] [(.int v1)])) (fun t k => XS.iloadN X0.here hx rfl (hb hby at_11) rfl k) ?_
    refine own_step (T' := s₁) (g' := (mkF m 14 #[.val (.int p0), .val (.int v1), .val (.int v1), .unset] [(.int (46 : Int32)), (.int v1)])) (fun t k => XS.bipush X0.here hx rfl (hb hby at_12) k) ?_
    by_cases hc14_17 : (46 : Int32) < v1
    · refine own_step (T' := s₁) (g' := (mkF m 17 #[.val (.int p0), .val (.int v1), .val (.int v1), .unset] [])) (fun t k => XS.icmpNo X0.here hx rfl (hb hby at_14) rfl (tlt hc14_17).2.2.2 k) ?_
      refine own_step (T' := s₁) (g' := (mkF m 18 #[.val (.int p0), .val (.int v1), .val (.int v1), .unset] [(.int v1)])) (fun t k => XS.iloadN X0.here hx rfl (hb hby at_17) rfl k) ?_
      refine own_step (T' := s₁) (g' := (mkF m 20 #[.val (.int p0), .val (.int v1), .val (.int v1), .unset] [(.int (60 : Int32)), (.int v1)])) (fun t k => XS.bipush X0.here hx rfl (hb hby at_18) k) ?_
      by_cases hc20_18 : v1 = (60 : Int32)
      · refine own_step (T' := s₁) (g' := (mkF m 41 #[.val (.int p0), .val (.int v1), .val (.int v1), .unset] [])) (fun t k => XS.icmpYes X0.here hx rfl (pc0 := 20) (pc' := 41) rfl (hb hby at_20) rfl (teq hc20_18).1 (by decide) (by decide) k) ?_
        refine own_step (T' := s₁) (g' := (mkF m 42 #[.val (.int p0), .val (.int v1), .val (.int v1), .unset] [(.int (1 : Int32))])) (fun t k => XS.iconst X0.here hx rfl (hb hby at_41) k) ?_
        refine own_step (T' := s₁) (g' := (mkF m 46 #[.val (.int p0), .val (.int v1), .val (.int v1), .unset] [(.int (1 : Int32))])) (fun t k => XS.goto X0.here hx rfl (pc0 := 42) (pc' := 46) rfl (hb hby at_42) (by decide) (by decide) k) ?_
        refine own_step (T' := s₁) (g' := (mkF m 47 #[.val (.int p0), .val (.int v1), .val (.int v1), .val (.int (1 : Int32))] [])) (fun t k => XS.istoreN X0.here hx rfl (hb hby at_46) rfl (l' := #[.val (.int p0), .val (.int v1), .val (.int v1), .val (.int (1 : Int32))]) rfl k) ?_
        refine own_step (T' := s₁) (g' := (mkF m 48 #[.val (.int p0), .val (.int v1), .val (.int v1), .val (.int (1 : Int32))] [(.int v1)])) (fun t k => XS.iloadN X0.here hx rfl (hb hby at_47) rfl k) ?_
        obtain ⟨_, _, ⟨T19, L19, kk19, nn19⟩, -, X19, ⟨Lc19, hQ19, l19, y19, z19⟩, st19⟩ := Jvm.LawKit.callS X0 hx (y := (⟨"com/example/tapeloom/tapeloom/Program", "isCommand", "(B)Z"⟩ : MethodName)) hown (mvT hZ (hw _ (List.mem_of_getElem? (i := 0) rfl))) (mvT hZ (hw _ (List.mem_of_getElem? (i := 1) rfl))) (mvT hZ (hw _ (List.mem_of_getElem? (i := 2) rfl))) (mvT hZ (hw _ (List.mem_of_getElem? (i := 3) rfl))) (by decide) (backOf (W := 0) (rm1 l Z a0 hw [] v1 h0 n0 (Nat.le_trans Z0 K0.1) ) hZ (hw _ (List.mem_of_getElem? (i := 3) rfl)) (hw _ (List.mem_of_getElem? (i := 2) rfl)) (by decide) (by decide)) (g := (mkF m 48 #[.val (.int p0), .val (.int v1), .val (.int v1), .val (.int (1 : Int32))] [(.int v1)])) rfl (by rw [hml]; rfl) (argsL := [(.int v1)]) (rest := []) (lenOf pd_0 rfl) rfl (by show 2 * 0 + _ ≤ _; exact Nat.le_of_eq rfl) (hb hby at_48) (fun _ _ => ⟨rfl, e0, (by decide : 0 + 0 ≤ _), (by decide : 0 + 0 ≤ _)⟩)
        dsimp only [Pt.U, Pt.locs, Pt.cells, Pt.slots] at X19 l19 y19 z19 st19 hQ19
        subst l19 y19 z19
        obtain ⟨rfl, N19q, eq19⟩ := hQ19
        have N19 := Fr.app N0 N19q
        refine own_step (T' := T19) (g' := (mkF m 51 #[.val (.int p0), .val (.int v1), .val (.int v1), .val (.int (1 : Int32))] [(.int (fn1 v1))])) st19 ?_
        refine own_step (T' := T19) (g' := (mkF m 52 #[.val (.int p0), .val (.int v1), .val (.int v1), .val (.int (1 : Int32))] [(.int (1 : Int32)), (.int (fn1 v1))])) (fun t k => XS.iloadN X19.here hx rfl (hb hby at_51) rfl k) ?_
        refine own_step (T' := T19) (g' := (mkF m 55 #[.val (.int p0), .val (.int v1), .val (.int v1), .val (.int (1 : Int32))] [])) (fun t k => XS.icmpNo X19.here hx rfl (hb hby at_52) rfl (teq (own_f1a _ (by simp only [Int32.lt_iff_toInt_lt, ← Int32.toInt_inj, Int32.reduceToInt] at hc8_2 hc14_17 hc20_18; omega))).2 k) ?_
        refine own_step (T' := T19) (g' := (mkF m 56 #[.val (.int p0), .val (.int v1), .val (.int v1), .val (.int (1 : Int32))] [(.int (1 : Int32))])) (fun t k => XS.iconst X19.here hx rfl (hb hby at_55) k) ?_
        refine own_step (T' := T19) (g' := (mkF m 60 #[.val (.int p0), .val (.int v1), .val (.int v1), .val (.int (1 : Int32))] [(.int (1 : Int32))])) (fun t k => XS.goto X19.here hx rfl (pc0 := 56) (pc' := 60) rfl (hb hby at_56) (by decide) (by decide) k) ?_
        refine own_retN X19 hx hlk (t := .boolean) (w := (1 : Int32)) Bd.returns (by simp) (hb hby at_60) rfl (by decide) (by decide) ?_
        exact ⟨rfl, N19⟩
      · refine own_step (T' := s₁) (g' := (mkF m 23 #[.val (.int p0), .val (.int v1), .val (.int v1), .unset] [])) (fun t k => XS.icmpNo X0.here hx rfl (hb hby at_20) rfl (feq hc20_18).1 k) ?_
        refine own_step (T' := s₁) (g' := (mkF m 24 #[.val (.int p0), .val (.int v1), .val (.int v1), .unset] [(.int v1)])) (fun t k => XS.iloadN X0.here hx rfl (hb hby at_23) rfl k) ?_
        refine own_step (T' := s₁) (g' := (mkF m 26 #[.val (.int p0), .val (.int v1), .val (.int v1), .unset] [(.int (62 : Int32)), (.int v1)])) (fun t k => XS.bipush X0.here hx rfl (hb hby at_24) k) ?_
        by_cases hc26_21 : v1 = (62 : Int32)
        · refine own_step (T' := s₁) (g' := (mkF m 41 #[.val (.int p0), .val (.int v1), .val (.int v1), .unset] [])) (fun t k => XS.icmpYes X0.here hx rfl (pc0 := 26) (pc' := 41) rfl (hb hby at_26) rfl (teq hc26_21).1 (by decide) (by decide) k) ?_
          refine own_step (T' := s₁) (g' := (mkF m 42 #[.val (.int p0), .val (.int v1), .val (.int v1), .unset] [(.int (1 : Int32))])) (fun t k => XS.iconst X0.here hx rfl (hb hby at_41) k) ?_
          refine own_step (T' := s₁) (g' := (mkF m 46 #[.val (.int p0), .val (.int v1), .val (.int v1), .unset] [(.int (1 : Int32))])) (fun t k => XS.goto X0.here hx rfl (pc0 := 42) (pc' := 46) rfl (hb hby at_42) (by decide) (by decide) k) ?_
          refine own_step (T' := s₁) (g' := (mkF m 47 #[.val (.int p0), .val (.int v1), .val (.int v1), .val (.int (1 : Int32))] [])) (fun t k => XS.istoreN X0.here hx rfl (hb hby at_46) rfl (l' := #[.val (.int p0), .val (.int v1), .val (.int v1), .val (.int (1 : Int32))]) rfl k) ?_
          refine own_step (T' := s₁) (g' := (mkF m 48 #[.val (.int p0), .val (.int v1), .val (.int v1), .val (.int (1 : Int32))] [(.int v1)])) (fun t k => XS.iloadN X0.here hx rfl (hb hby at_47) rfl k) ?_
          obtain ⟨_, _, ⟨T22, L22, kk22, nn22⟩, -, X22, ⟨Lc22, hQ22, l22, y22, z22⟩, st22⟩ := Jvm.LawKit.callS X0 hx (y := (⟨"com/example/tapeloom/tapeloom/Program", "isCommand", "(B)Z"⟩ : MethodName)) hown (mvT hZ (hw _ (List.mem_of_getElem? (i := 0) rfl))) (mvT hZ (hw _ (List.mem_of_getElem? (i := 1) rfl))) (mvT hZ (hw _ (List.mem_of_getElem? (i := 2) rfl))) (mvT hZ (hw _ (List.mem_of_getElem? (i := 3) rfl))) (by decide) (backOf (W := 0) (rm1 l Z a0 hw [] v1 h0 n0 (Nat.le_trans Z0 K0.1) ) hZ (hw _ (List.mem_of_getElem? (i := 3) rfl)) (hw _ (List.mem_of_getElem? (i := 2) rfl)) (by decide) (by decide)) (g := (mkF m 48 #[.val (.int p0), .val (.int v1), .val (.int v1), .val (.int (1 : Int32))] [(.int v1)])) rfl (by rw [hml]; rfl) (argsL := [(.int v1)]) (rest := []) (lenOf pd_0 rfl) rfl (by show 2 * 0 + _ ≤ _; exact Nat.le_of_eq rfl) (hb hby at_48) (fun _ _ => ⟨rfl, e0, (by decide : 0 + 0 ≤ _), (by decide : 0 + 0 ≤ _)⟩)
          dsimp only [Pt.U, Pt.locs, Pt.cells, Pt.slots] at X22 l22 y22 z22 st22 hQ22
          subst l22 y22 z22
          obtain ⟨rfl, N22q, eq22⟩ := hQ22
          have N22 := Fr.app N0 N22q
          refine own_step (T' := T22) (g' := (mkF m 51 #[.val (.int p0), .val (.int v1), .val (.int v1), .val (.int (1 : Int32))] [(.int (fn1 v1))])) st22 ?_
          refine own_step (T' := T22) (g' := (mkF m 52 #[.val (.int p0), .val (.int v1), .val (.int v1), .val (.int (1 : Int32))] [(.int (1 : Int32)), (.int (fn1 v1))])) (fun t k => XS.iloadN X22.here hx rfl (hb hby at_51) rfl k) ?_
          refine own_step (T' := T22) (g' := (mkF m 55 #[.val (.int p0), .val (.int v1), .val (.int v1), .val (.int (1 : Int32))] [])) (fun t k => XS.icmpNo X22.here hx rfl (hb hby at_52) rfl (teq (own_f1a _ (by simp only [Int32.lt_iff_toInt_lt, ← Int32.toInt_inj, Int32.reduceToInt] at hc8_2 hc14_17 hc20_18 hc26_21; omega))).2 k) ?_
          refine own_step (T' := T22) (g' := (mkF m 56 #[.val (.int p0), .val (.int v1), .val (.int v1), .val (.int (1 : Int32))] [(.int (1 : Int32))])) (fun t k => XS.iconst X22.here hx rfl (hb hby at_55) k) ?_
          refine own_step (T' := T22) (g' := (mkF m 60 #[.val (.int p0), .val (.int v1), .val (.int v1), .val (.int (1 : Int32))] [(.int (1 : Int32))])) (fun t k => XS.goto X22.here hx rfl (pc0 := 56) (pc' := 60) rfl (hb hby at_56) (by decide) (by decide) k) ?_
          refine own_retN X22 hx hlk (t := .boolean) (w := (1 : Int32)) Bd.returns (by simp) (hb hby at_60) rfl (by decide) (by decide) ?_
          exact ⟨rfl, N22⟩
        · refine own_step (T' := s₁) (g' := (mkF m 29 #[.val (.int p0), .val (.int v1), .val (.int v1), .unset] [])) (fun t k => XS.icmpNo X0.here hx rfl (hb hby at_26) rfl (feq hc26_21).1 k) ?_
          refine own_step (T' := s₁) (g' := (mkF m 30 #[.val (.int p0), .val (.int v1), .val (.int v1), .unset] [(.int v1)])) (fun t k => XS.iloadN X0.here hx rfl (hb hby at_29) rfl k) ?_
          refine own_step (T' := s₁) (g' := (mkF m 32 #[.val (.int p0), .val (.int v1), .val (.int v1), .unset] [(.int (91 : Int32)), (.int v1)])) (fun t k => XS.bipush X0.here hx rfl (hb hby at_30) k) ?_
          by_cases hc32_24 : v1 = (91 : Int32)
          · refine own_step (T' := s₁) (g' := (mkF m 41 #[.val (.int p0), .val (.int v1), .val (.int v1), .unset] [])) (fun t k => XS.icmpYes X0.here hx rfl (pc0 := 32) (pc' := 41) rfl (hb hby at_32) rfl (teq hc32_24).1 (by decide) (by decide) k) ?_
            refine own_step (T' := s₁) (g' := (mkF m 42 #[.val (.int p0), .val (.int v1), .val (.int v1), .unset] [(.int (1 : Int32))])) (fun t k => XS.iconst X0.here hx rfl (hb hby at_41) k) ?_
            refine own_step (T' := s₁) (g' := (mkF m 46 #[.val (.int p0), .val (.int v1), .val (.int v1), .unset] [(.int (1 : Int32))])) (fun t k => XS.goto X0.here hx rfl (pc0 := 42) (pc' := 46) rfl (hb hby at_42) (by decide) (by decide) k) ?_
            refine own_step (T' := s₁) (g' := (mkF m 47 #[.val (.int p0), .val (.int v1), .val (.int v1), .val (.int (1 : Int32))] [])) (fun t k => XS.istoreN X0.here hx rfl (hb hby at_46) rfl (l' := #[.val (.int p0), .val (.int v1), .val (.int v1), .val (.int (1 : Int32))]) rfl k) ?_
            refine own_step (T' := s₁) (g' := (mkF m 48 #[.val (.int p0), .val (.int v1), .val (.int v1), .val (.int (1 : Int32))] [(.int v1)])) (fun t k => XS.iloadN X0.here hx rfl (hb hby at_47) rfl k) ?_
            obtain ⟨_, _, ⟨T25, L25, kk25, nn25⟩, -, X25, ⟨Lc25, hQ25, l25, y25, z25⟩, st25⟩ := Jvm.LawKit.callS X0 hx (y := (⟨"com/example/tapeloom/tapeloom/Program", "isCommand", "(B)Z"⟩ : MethodName)) hown (mvT hZ (hw _ (List.mem_of_getElem? (i := 0) rfl))) (mvT hZ (hw _ (List.mem_of_getElem? (i := 1) rfl))) (mvT hZ (hw _ (List.mem_of_getElem? (i := 2) rfl))) (mvT hZ (hw _ (List.mem_of_getElem? (i := 3) rfl))) (by decide) (backOf (W := 0) (rm1 l Z a0 hw [] v1 h0 n0 (Nat.le_trans Z0 K0.1) ) hZ (hw _ (List.mem_of_getElem? (i := 3) rfl)) (hw _ (List.mem_of_getElem? (i := 2) rfl)) (by decide) (by decide)) (g := (mkF m 48 #[.val (.int p0), .val (.int v1), .val (.int v1), .val (.int (1 : Int32))] [(.int v1)])) rfl (by rw [hml]; rfl) (argsL := [(.int v1)]) (rest := []) (lenOf pd_0 rfl) rfl (by show 2 * 0 + _ ≤ _; exact Nat.le_of_eq rfl) (hb hby at_48) (fun _ _ => ⟨rfl, e0, (by decide : 0 + 0 ≤ _), (by decide : 0 + 0 ≤ _)⟩)
            dsimp only [Pt.U, Pt.locs, Pt.cells, Pt.slots] at X25 l25 y25 z25 st25 hQ25
            subst l25 y25 z25
            obtain ⟨rfl, N25q, eq25⟩ := hQ25
            have N25 := Fr.app N0 N25q
            refine own_step (T' := T25) (g' := (mkF m 51 #[.val (.int p0), .val (.int v1), .val (.int v1), .val (.int (1 : Int32))] [(.int (fn1 v1))])) st25 ?_
            refine own_step (T' := T25) (g' := (mkF m 52 #[.val (.int p0), .val (.int v1), .val (.int v1), .val (.int (1 : Int32))] [(.int (1 : Int32)), (.int (fn1 v1))])) (fun t k => XS.iloadN X25.here hx rfl (hb hby at_51) rfl k) ?_
            refine own_step (T' := T25) (g' := (mkF m 55 #[.val (.int p0), .val (.int v1), .val (.int v1), .val (.int (1 : Int32))] [])) (fun t k => XS.icmpNo X25.here hx rfl (hb hby at_52) rfl (teq (own_f1a _ (by simp only [Int32.lt_iff_toInt_lt, ← Int32.toInt_inj, Int32.reduceToInt] at hc8_2 hc14_17 hc20_18 hc26_21 hc32_24; omega))).2 k) ?_
            refine own_step (T' := T25) (g' := (mkF m 56 #[.val (.int p0), .val (.int v1), .val (.int v1), .val (.int (1 : Int32))] [(.int (1 : Int32))])) (fun t k => XS.iconst X25.here hx rfl (hb hby at_55) k) ?_
            refine own_step (T' := T25) (g' := (mkF m 60 #[.val (.int p0), .val (.int v1), .val (.int v1), .val (.int (1 : Int32))] [(.int (1 : Int32))])) (fun t k => XS.goto X25.here hx rfl (pc0 := 56) (pc' := 60) rfl (hb hby at_56) (by decide) (by decide) k) ?_
            refine own_retN X25 hx hlk (t := .boolean) (w := (1 : Int32)) Bd.returns (by simp) (hb hby at_60) rfl (by decide) (by decide) ?_
            exact ⟨rfl, N25⟩
          · refine own_step (T' := s₁) (g' := (mkF m 35 #[.val (.int p0), .val (.int v1), .val (.int v1), .unset] [])) (fun t k => XS.icmpNo X0.here hx rfl (hb hby at_32) rfl (feq hc32_24).1 k) ?_
            refine own_step (T' := s₁) (g' := (mkF m 36 #[.val (.int p0), .val (.int v1), .val (.int v1), .unset] [(.int v1)])) (fun t k => XS.iloadN X0.here hx rfl (hb hby at_35) rfl k) ?_
            refine own_step (T' := s₁) (g' := (mkF m 38 #[.val (.int p0), .val (.int v1), .val (.int v1), .unset] [(.int (93 : Int32)), (.int v1)])) (fun t k => XS.bipush X0.here hx rfl (hb hby at_36) k) ?_
            by_cases hc38_27 : v1 = (93 : Int32)
            · refine own_step (T' := s₁) (g' := (mkF m 41 #[.val (.int p0), .val (.int v1), .val (.int v1), .unset] [])) (fun t k => XS.icmpNo X0.here hx rfl (hb hby at_38) rfl (teq hc38_27).2 k) ?_
              refine own_step (T' := s₁) (g' := (mkF m 42 #[.val (.int p0), .val (.int v1), .val (.int v1), .unset] [(.int (1 : Int32))])) (fun t k => XS.iconst X0.here hx rfl (hb hby at_41) k) ?_
              refine own_step (T' := s₁) (g' := (mkF m 46 #[.val (.int p0), .val (.int v1), .val (.int v1), .unset] [(.int (1 : Int32))])) (fun t k => XS.goto X0.here hx rfl (pc0 := 42) (pc' := 46) rfl (hb hby at_42) (by decide) (by decide) k) ?_
              refine own_step (T' := s₁) (g' := (mkF m 47 #[.val (.int p0), .val (.int v1), .val (.int v1), .val (.int (1 : Int32))] [])) (fun t k => XS.istoreN X0.here hx rfl (hb hby at_46) rfl (l' := #[.val (.int p0), .val (.int v1), .val (.int v1), .val (.int (1 : Int32))]) rfl k) ?_
              refine own_step (T' := s₁) (g' := (mkF m 48 #[.val (.int p0), .val (.int v1), .val (.int v1), .val (.int (1 : Int32))] [(.int v1)])) (fun t k => XS.iloadN X0.here hx rfl (hb hby at_47) rfl k) ?_
              obtain ⟨_, _, ⟨T28, L28, kk28, nn28⟩, -, X28, ⟨Lc28, hQ28, l28, y28, z28⟩, st28⟩ := Jvm.LawKit.callS X0 hx (y := (⟨"com/example/tapeloom/tapeloom/Program", "isCommand", "(B)Z"⟩ : MethodName)) hown (mvT hZ (hw _ (List.mem_of_getElem? (i := 0) rfl))) (mvT hZ (hw _ (List.mem_of_getElem? (i := 1) rfl))) (mvT hZ (hw _ (List.mem_of_getElem? (i := 2) rfl))) (mvT hZ (hw _ (List.mem_of_getElem? (i := 3) rfl))) (by decide) (backOf (W := 0) (rm1 l Z a0 hw [] v1 h0 n0 (Nat.le_trans Z0 K0.1) ) hZ (hw _ (List.mem_of_getElem? (i := 3) rfl)) (hw _ (List.mem_of_getElem? (i := 2) rfl)) (by decide) (by decide)) (g := (mkF m 48 #[.val (.int p0), .val (.int v1), .val (.int v1), .val (.int (1 : Int32))] [(.int v1)])) rfl (by rw [hml]; rfl) (argsL := [(.int v1)]) (rest := []) (lenOf pd_0 rfl) rfl (by show 2 * 0 + _ ≤ _; exact Nat.le_of_eq rfl) (hb hby at_48) (fun _ _ => ⟨rfl, e0, (by decide : 0 + 0 ≤ _), (by decide : 0 + 0 ≤ _)⟩)
              dsimp only [Pt.U, Pt.locs, Pt.cells, Pt.slots] at X28 l28 y28 z28 st28 hQ28
              subst l28 y28 z28
              obtain ⟨rfl, N28q, eq28⟩ := hQ28
              have N28 := Fr.app N0 N28q
              refine own_step (T' := T28) (g' := (mkF m 51 #[.val (.int p0), .val (.int v1), .val (.int v1), .val (.int (1 : Int32))] [(.int (fn1 v1))])) st28 ?_
              refine own_step (T' := T28) (g' := (mkF m 52 #[.val (.int p0), .val (.int v1), .val (.int v1), .val (.int (1 : Int32))] [(.int (1 : Int32)), (.int (fn1 v1))])) (fun t k => XS.iloadN X28.here hx rfl (hb hby at_51) rfl k) ?_
              refine own_step (T' := T28) (g' := (mkF m 55 #[.val (.int p0), .val (.int v1), .val (.int v1), .val (.int (1 : Int32))] [])) (fun t k => XS.icmpNo X28.here hx rfl (hb hby at_52) rfl (teq (own_f1a _ (by simp only [Int32.lt_iff_toInt_lt, ← Int32.toInt_inj, Int32.reduceToInt] at hc8_2 hc14_17 hc20_18 hc26_21 hc32_24 hc38_27; omega))).2 k) ?_
              refine own_step (T' := T28) (g' := (mkF m 56 #[.val (.int p0), .val (.int v1), .val (.int v1), .val (.int (1 : Int32))] [(.int (1 : Int32))])) (fun t k => XS.iconst X28.here hx rfl (hb hby at_55) k) ?_
              refine own_step (T' := T28) (g' := (mkF m 60 #[.val (.int p0), .val (.int v1), .val (.int v1), .val (.int (1 : Int32))] [(.int (1 : Int32))])) (fun t k => XS.goto X28.here hx rfl (pc0 := 56) (pc' := 60) rfl (hb hby at_56) (by decide) (by decide) k) ?_
              refine own_retN X28 hx hlk (t := .boolean) (w := (1 : Int32)) Bd.returns (by simp) (hb hby at_60) rfl (by decide) (by decide) ?_
              exact ⟨rfl, N28⟩
            · refine own_step (T' := s₁) (g' := (mkF m 45 #[.val (.int p0), .val (.int v1), .val (.int v1), .unset] [])) (fun t k => XS.icmpYes X0.here hx rfl (pc0 := 38) (pc' := 45) rfl (hb hby at_38) rfl (feq hc38_27).2 (by decide) (by decide) k) ?_
              refine own_step (T' := s₁) (g' := (mkF m 46 #[.val (.int p0), .val (.int v1), .val (.int v1), .unset] [(.int (0 : Int32))])) (fun t k => XS.iconst X0.here hx rfl (hb hby at_45) k) ?_
              refine own_step (T' := s₁) (g' := (mkF m 47 #[.val (.int p0), .val (.int v1), .val (.int v1), .val (.int (0 : Int32))] [])) (fun t k => XS.istoreN X0.here hx rfl (hb hby at_46) rfl (l' := #[.val (.int p0), .val (.int v1), .val (.int v1), .val (.int (0 : Int32))]) rfl k) ?_
              refine own_step (T' := s₁) (g' := (mkF m 48 #[.val (.int p0), .val (.int v1), .val (.int v1), .val (.int (0 : Int32))] [(.int v1)])) (fun t k => XS.iloadN X0.here hx rfl (hb hby at_47) rfl k) ?_
              obtain ⟨_, _, ⟨T30, L30, kk30, nn30⟩, -, X30, ⟨Lc30, hQ30, l30, y30, z30⟩, st30⟩ := Jvm.LawKit.callS X0 hx (y := (⟨"com/example/tapeloom/tapeloom/Program", "isCommand", "(B)Z"⟩ : MethodName)) hown (mvT hZ (hw _ (List.mem_of_getElem? (i := 0) rfl))) (mvT hZ (hw _ (List.mem_of_getElem? (i := 1) rfl))) (mvT hZ (hw _ (List.mem_of_getElem? (i := 2) rfl))) (mvT hZ (hw _ (List.mem_of_getElem? (i := 3) rfl))) (by decide) (backOf (W := 0) (rm1 l Z a0 hw [] v1 h0 n0 (Nat.le_trans Z0 K0.1) ) hZ (hw _ (List.mem_of_getElem? (i := 3) rfl)) (hw _ (List.mem_of_getElem? (i := 2) rfl)) (by decide) (by decide)) (g := (mkF m 48 #[.val (.int p0), .val (.int v1), .val (.int v1), .val (.int (0 : Int32))] [(.int v1)])) rfl (by rw [hml]; rfl) (argsL := [(.int v1)]) (rest := []) (lenOf pd_0 rfl) rfl (by show 2 * 0 + _ ≤ _; exact Nat.le_of_eq rfl) (hb hby at_48) (fun _ _ => ⟨rfl, e0, (by decide : 0 + 0 ≤ _), (by decide : 0 + 0 ≤ _)⟩)
              dsimp only [Pt.U, Pt.locs, Pt.cells, Pt.slots] at X30 l30 y30 z30 st30 hQ30
              subst l30 y30 z30
              obtain ⟨rfl, N30q, eq30⟩ := hQ30
              have N30 := Fr.app N0 N30q
              refine own_step (T' := T30) (g' := (mkF m 51 #[.val (.int p0), .val (.int v1), .val (.int v1), .val (.int (0 : Int32))] [(.int (fn1 v1))])) st30 ?_
              refine own_step (T' := T30) (g' := (mkF m 52 #[.val (.int p0), .val (.int v1), .val (.int v1), .val (.int (0 : Int32))] [(.int (0 : Int32)), (.int (fn1 v1))])) (fun t k => XS.iloadN X30.here hx rfl (hb hby at_51) rfl k) ?_
              refine own_step (T' := T30) (g' := (mkF m 55 #[.val (.int p0), .val (.int v1), .val (.int v1), .val (.int (0 : Int32))] [])) (fun t k => XS.icmpNo X30.here hx rfl (hb hby at_52) rfl (teq (own_f1b _ (by simp only [Int32.lt_iff_toInt_lt, ← Int32.toInt_inj, Int32.reduceToInt] at hc8_2 hc14_17 hc20_18 hc26_21 hc32_24 hc38_27; omega))).2 k) ?_
              refine own_step (T' := T30) (g' := (mkF m 56 #[.val (.int p0), .val (.int v1), .val (.int v1), .val (.int (0 : Int32))] [(.int (1 : Int32))])) (fun t k => XS.iconst X30.here hx rfl (hb hby at_55) k) ?_
              refine own_step (T' := T30) (g' := (mkF m 60 #[.val (.int p0), .val (.int v1), .val (.int v1), .val (.int (0 : Int32))] [(.int (1 : Int32))])) (fun t k => XS.goto X30.here hx rfl (pc0 := 56) (pc' := 60) rfl (hb hby at_56) (by decide) (by decide) k) ?_
              refine own_retN X30 hx hlk (t := .boolean) (w := (1 : Int32)) Bd.returns (by simp) (hb hby at_60) rfl (by decide) (by decide) ?_
              exact ⟨rfl, N30⟩
    · refine own_step (T' := s₁) (g' := (mkF m 41 #[.val (.int p0), .val (.int v1), .val (.int v1), .unset] [])) (fun t k => XS.icmpYes X0.here hx rfl (pc0 := 14) (pc' := 41) rfl (hb hby at_14) rfl (flt hc14_17).2.2.2 (by decide) (by decide) k) ?_
      refine own_step (T' := s₁) (g' := (mkF m 42 #[.val (.int p0), .val (.int v1), .val (.int v1), .unset] [(.int (1 : Int32))])) (fun t k => XS.iconst X0.here hx rfl (hb hby at_41) k) ?_
      refine own_step (T' := s₁) (g' := (mkF m 46 #[.val (.int p0), .val (.int v1), .val (.int v1), .unset] [(.int (1 : Int32))])) (fun t k => XS.goto X0.here hx rfl (pc0 := 42) (pc' := 46) rfl (hb hby at_42) (by decide) (by decide) k) ?_
      refine own_step (T' := s₁) (g' := (mkF m 47 #[.val (.int p0), .val (.int v1), .val (.int v1), .val (.int (1 : Int32))] [])) (fun t k => XS.istoreN X0.here hx rfl (hb hby at_46) rfl (l' := #[.val (.int p0), .val (.int v1), .val (.int v1), .val (.int (1 : Int32))]) rfl k) ?_
      refine own_step (T' := s₁) (g' := (mkF m 48 #[.val (.int p0), .val (.int v1), .val (.int v1), .val (.int (1 : Int32))] [(.int v1)])) (fun t k => XS.iloadN X0.here hx rfl (hb hby at_47) rfl k) ?_
      obtain ⟨_, _, ⟨T32, L32, kk32, nn32⟩, -, X32, ⟨Lc32, hQ32, l32, y32, z32⟩, st32⟩ := Jvm.LawKit.callS X0 hx (y := (⟨"com/example/tapeloom/tapeloom/Program", "isCommand", "(B)Z"⟩ : MethodName)) hown (mvT hZ (hw _ (List.mem_of_getElem? (i := 0) rfl))) (mvT hZ (hw _ (List.mem_of_getElem? (i := 1) rfl))) (mvT hZ (hw _ (List.mem_of_getElem? (i := 2) rfl))) (mvT hZ (hw _ (List.mem_of_getElem? (i := 3) rfl))) (by decide) (backOf (W := 0) (rm1 l Z a0 hw [] v1 h0 n0 (Nat.le_trans Z0 K0.1) ) hZ (hw _ (List.mem_of_getElem? (i := 3) rfl)) (hw _ (List.mem_of_getElem? (i := 2) rfl)) (by decide) (by decide)) (g := (mkF m 48 #[.val (.int p0), .val (.int v1), .val (.int v1), .val (.int (1 : Int32))] [(.int v1)])) rfl (by rw [hml]; rfl) (argsL := [(.int v1)]) (rest := []) (lenOf pd_0 rfl) rfl (by show 2 * 0 + _ ≤ _; exact Nat.le_of_eq rfl) (hb hby at_48) (fun _ _ => ⟨rfl, e0, (by decide : 0 + 0 ≤ _), (by decide : 0 + 0 ≤ _)⟩)
      dsimp only [Pt.U, Pt.locs, Pt.cells, Pt.slots] at X32 l32 y32 z32 st32 hQ32
      subst l32 y32 z32
      obtain ⟨rfl, N32q, eq32⟩ := hQ32
      have N32 := Fr.app N0 N32q
      refine own_step (T' := T32) (g' := (mkF m 51 #[.val (.int p0), .val (.int v1), .val (.int v1), .val (.int (1 : Int32))] [(.int (fn1 v1))])) st32 ?_
      refine own_step (T' := T32) (g' := (mkF m 52 #[.val (.int p0), .val (.int v1), .val (.int v1), .val (.int (1 : Int32))] [(.int (1 : Int32)), (.int (fn1 v1))])) (fun t k => XS.iloadN X32.here hx rfl (hb hby at_51) rfl k) ?_
      refine own_step (T' := T32) (g' := (mkF m 55 #[.val (.int p0), .val (.int v1), .val (.int v1), .val (.int (1 : Int32))] [])) (fun t k => XS.icmpNo X32.here hx rfl (hb hby at_52) rfl (teq (own_f1a _ (by simp only [Int32.lt_iff_toInt_lt, ← Int32.toInt_inj, Int32.reduceToInt] at hc8_2 hc14_17; omega))).2 k) ?_
      refine own_step (T' := T32) (g' := (mkF m 56 #[.val (.int p0), .val (.int v1), .val (.int v1), .val (.int (1 : Int32))] [(.int (1 : Int32))])) (fun t k => XS.iconst X32.here hx rfl (hb hby at_55) k) ?_
      refine own_step (T' := T32) (g' := (mkF m 60 #[.val (.int p0), .val (.int v1), .val (.int v1), .val (.int (1 : Int32))] [(.int (1 : Int32))])) (fun t k => XS.goto X32.here hx rfl (pc0 := 56) (pc' := 60) rfl (hb hby at_56) (by decide) (by decide) k) ?_
      refine own_retN X32 hx hlk (t := .boolean) (w := (1 : Int32)) Bd.returns (by simp) (hb hby at_60) rfl (by decide) (by decide) ?_
      exact ⟨rfl, N32⟩
set_option maxRecDepth 65536 in
set_option maxHeartbeats 40000000 in
theorem comes_1 {Post : Tables → Env → Array Value → State → Outcome → State → Prop} (hpost : ∀ tb e args s v u, (limb_1_1.after args s (.returned v) u = true ∧ limb_1_2.after args s (.returned v) u = true ∧ True) → FrameEnd s (.returned v) u (Jvm.fieldLocs frame_1_writes args s ++ Jvm.arrayLocs frame_1_arrays args s ++ Jvm.staticLocs frame_1_statics s) 0 0 → Post tb e args s (.returned v) u) :
    ArmFor flags0 classFile x code maxLocals ret World_1 tables_1 room_1 Calls_1 rest_1 Pre_1 Post := by
  intro l hfl _ _ p e ha hc hk s m args below hf hA hF happ hP
  obtain ⟨hcalls, hrest, hpre⟩ := hP
  obtain ⟨-, -, -, hnamed, -, -, -, hat⟩ := (Spec.applies_iff hf).mp happ
  obtain ⟨hg, hn⟩ := and_e (Cond.before_iff.mp (show (Jvm.Cond.and given_1 narrow_1).before args s = true from hpre))
  obtain ⟨g0, r0⟩ := and_e hg
  obtain ⟨w0, rfl⟩ : ∃ w0 : Value, args = #[w0] := by
    have hs : args.size = 1 := by simpa [Cond.value, given_1] using g0
    obtain ⟨L⟩ := args
    match L, hs with
    | [w0], _ => exact ⟨w0, rfl⟩
  have hw := fun d (hd : d ∈ tables_1) => atoms_spec (ws := Jvm.Cond.code x code maxLocals ret :: tables_1) hat d (List.mem_cons_of_mem _ hd)
  have hfit : Fit s := fun {y c} hc i hi => by
    obtain ⟨ha, rfl⟩ := Array.getElem?_eq_some_iff.mp hc
    have q := List.all_eq_true.mp ((Array.all_eq_true_iff_forall_mem.mp hF) _ (Array.getElem_mem ha)) i (List.mem_range.mpr hi)
    simpa [Array.getElem?_eq_getElem hi] using q
  obtain ⟨i0, ei0⟩ := is_v r0
  obtain rfl : w0 = (.int i0) := Option.some.inj ei0
  obtain ⟨n, o, h1, h2, h3, _, L, rfl, ⟨rfl, N⟩, hq⟩ := rm0 l s _ hw tables_1 i0  s.heap s.heap.size (Nat.le_refl _)  p e ha hc hk s m _ below hf ((Spec.applies_iff_loose hf).mp happ).1 ⟨rfl, State.Warmed39.refl s, rfl⟩ trivial
  refine ⟨n, _, h1, h2, h3, hpost _ _ _ _ _ _ ⟨Cond.after_iff.mpr rfl, Cond.after_iff.mpr (eq_i res_at (Term.int_eval (1)) rfl), trivial⟩ ⟨hq.1, hq.2.1, (hq.2.2.sift fun y hy => Or.inr (N y hy)).mono (by decide) (by decide)⟩⟩
theorem main_1_1 : Claimed_1_1 := comes_1 fun _ _ _ _ _ _ h hF => ⟨h.1, hF⟩
theorem main_1_2 : Claimed_1_2 := comes_1 fun _ _ _ _ _ _ h hF => ⟨h.2.1, hF⟩
end Jvm.Pilot.@@N@@
namespace Jvm.Pilot.@@N@@
open Jvm Jvm.ClassFile Sem Op Lib Jvm.Free Jvm.Stand Jvm.Pilot.@@N@@.Jvm.D
/-! MADE BY PROGRAM (witnessworld.py) out of the Statement's table words and the real class files: 9 classes; the members and pool entries that the words name. The judged class is class 1, her method 1. -/
namespace start1
open Jvm.ClassFile
def u (s : String) : CpInfo := .utf8 (stringToUtf16 s)
/-- a pool by its gaps: so many unusable entries, then the entry; so many at the end -/
def gap : Nat → List CpInfo → List CpInfo
  | 0, r => r
  | n + 1, r => .unusable :: gap n r
def poolList (es : List (Nat × CpInfo)) (last : Nat) : List CpInfo := es.foldr (fun e r => gap e.1 (e.2 :: r)) (gap last [])
def pool (es : List (Nat × CpInfo)) (last : Nat) : Array CpInfo := ⟨poolList es last⟩
def fileOf (pool : Array CpInfo) (this : Nat) (attrs : Array Attribute := #[]) (ms : Array MethodInfo := #[]) (fl : Nat := 33) (sup : Nat := 0) (ifs : Array Nat := #[]) (fds : Array FieldInfo := #[]) : ClassFile where
  minorVersion := 0
  majorVersion := 65
  constantPool := pool
  accessFlags := fl
  thisClass := this
  superClass := sup
  interfaces := ifs
  fields := fds
  methods := ms
  attributes := attrs
def plain (name : String) (sup : Option ClassId) : Class where
  name := name
  kind := .ordinary
  loader := none
  accessFlags := 33
  super := sup
  interfaces := #[]
  cf := none
  fields := #[]
  methods := #[]
  instanceTypes := #[]
  staticTypes := #[]
  resolved := #[]
  callSites := []
  init := .initialized
  statics := none
  mirror := none

def pool0 : Array CpInfo := pool [(5, u "<init>"), (0, u "()V"), (1, .class_ 10), (1, u "java/lang/Object")] 113

def k0m0 : Method := { name := "<init>", desc := "()V", sig := { parameters := [], returnType := none }, accessFlags := 1, code := none }
/-- java/lang/Object -/
def k0 : Class := { plain "java/lang/Object" none with
  accessFlags := 33
  interfaces := #[]
  cf := some (fileOf pool0 8 #[] #[{ accessFlags := 1, nameIndex := 5, descriptorIndex := 6, attributes := #[] }] 33 0 #[] #[])
  fields := #[]
  methods := #[k0m0]
  instanceTypes := #[]
  staticTypes := #[]
  resolved := Array.replicate 124 none
  statics := none }

def pool1 : Array CpInfo := pool [(2, .class_ 4), (1, u "java/lang/Object"), (0, u "<init>"), (0, u "()V"), (0, .methodref 8 9), (0, .class_ 10), (0, .nameAndType 11 12), (0, u "com/example/tapeloom/tapeloom/Program"), (0, u "isCommand"), (0, u "(B)Z"), (0, .class_ 14), (0, u "com/example/tapeloom/tapeloom/ProgramIsCommandPinLaw"), (2, u "law"), (0, u "(I)Z")] 3

def k1m0 : Method := { name := "<init>", desc := "()V", sig := { parameters := [], returnType := none }, accessFlags := 2, code := none }
def k1c1 : Code := { maxStack := 2, maxLocals := 4, code := code, exceptionTable := #[], attributes := #[] }
def k1m1 : Method := { name := "law", desc := "(I)Z", sig := { parameters := [.int], returnType := some .boolean }, accessFlags := 9, code := some k1c1 }
/-- com/example/tapeloom/tapeloom/ProgramIsCommandPinLaw -/
def k1 : Class := { plain "com/example/tapeloom/tapeloom/ProgramIsCommandPinLaw" (some 0) with
  accessFlags := 49
  interfaces := #[]
  cf := some (fileOf pool1 13 #[] #[{ accessFlags := 2, nameIndex := 5, descriptorIndex := 6, attributes := #[] }, { accessFlags := 9, nameIndex := 17, descriptorIndex := 18, attributes := #[] }] 49 2 #[] #[])
  fields := #[]
  methods := #[k1m0, k1m1]
  instanceTypes := #[]
  staticTypes := #[]
  resolved := Array.replicate 22 none
  statics := none }

def pool2 : Array CpInfo := pool [(2, .class_ 4), (1, u "java/lang/Object"), (3, .class_ 10), (1, u "com/example/tapeloom/tapeloom/Program"), (0, u "name"), (0, u "Ljava/lang/String;"), (2, u "text"), (0, u "[B"), (2, u "commands"), (2, u "partners"), (0, u "[I"), (2, u "isCommand"), (0, u "(B)Z"), (11, .class_ 40), (0, u "com/example/tapeloom/tapeloom/Program$Places")] 44

def k2c0 : Code := { maxStack := 1, maxLocals := 1, code := prog_16_method_3_code, exceptionTable := #[], attributes := #[] }
def k2m0 : Method := { name := "isCommand", desc := "(B)Z", sig := { parameters := [.byte], returnType := some .boolean }, accessFlags := 8, code := some k2c0 }
/-- com/example/tapeloom/tapeloom/Program -/
def k2 : Class := { plain "com/example/tapeloom/tapeloom/Program" (some 0) with
  accessFlags := 49
  interfaces := #[]
  cf := some (fileOf pool2 8 #[.nestMembers #[39]] #[{ accessFlags := 8, nameIndex := 26, descriptorIndex := 27, attributes := #[] }] 49 2 #[] #[{ accessFlags := 18, nameIndex := 11, descriptorIndex := 12, attributes := #[] }, { accessFlags := 18, nameIndex := 15, descriptorIndex := 16, attributes := #[] }, { accessFlags := 16, nameIndex := 19, descriptorIndex := 16, attributes := #[] }, { accessFlags := 16, nameIndex := 22, descriptorIndex := 23, attributes := #[] }])
  fields := #[{ name := "name", type := (.object "java/lang/String"), accessFlags := 18, slot := 0, constantValue := 0 }, { name := "text", type := (.array .byte), accessFlags := 18, slot := 1, constantValue := 0 }, { name := "commands", type := (.array .byte), accessFlags := 16, slot := 2, constantValue := 0 }, { name := "partners", type := (.array .int), accessFlags := 16, slot := 3, constantValue := 0 }]
  methods := #[k2m0]
  instanceTypes := #[(.object "java/lang/String"), (.array .byte), (.array .byte), (.array .int)]
  staticTypes := #[]
  resolved := Array.replicate 85 none
  statics := none }

def pool3 : Array CpInfo := pool [(1, u "java/lang/Cloneable"), (0, .class_ 1), (0, u "java/lang/Object"), (0, .class_ 3)] 3

/-- java/lang/Cloneable -/
def k3 : Class := { plain "java/lang/Cloneable" (some 0) with
  accessFlags := 1537
  interfaces := #[]
  cf := some (fileOf pool3 2 #[] #[] 1537 4 #[] #[])
  fields := #[]
  methods := #[]
  instanceTypes := #[]
  staticTypes := #[]
  resolved := Array.replicate 8 none
  statics := none }

def pool4 : Array CpInfo := pool [(1, u "java/io/Serializable"), (0, .class_ 1), (0, u "java/lang/Object"), (0, .class_ 3)] 3

/-- java/io/Serializable -/
def k4 : Class := { plain "java/io/Serializable" (some 0) with
  accessFlags := 1537
  interfaces := #[]
  cf := some (fileOf pool4 2 #[] #[] 1537 4 #[] #[])
  fields := #[]
  methods := #[]
  instanceTypes := #[]
  staticTypes := #[]
  resolved := Array.replicate 8 none
  statics := none }

/-- the primitive byte -/
def k5 : Class := { plain "byte" none with kind := .primitive 'B', accessFlags := 0x411 }
/-- [B -/
def k6 : Class := { plain "[B" (some 0) with kind := .array 5 .byte, interfaces := #[3, 4], accessFlags := 1041 }

/-- the primitive int -/
def k7 : Class := { plain "int" none with kind := .primitive 'I', accessFlags := 0x411 }
/-- [I -/
def k8 : Class := { plain "[I" (some 0) with kind := .array 7 .int, interfaces := #[3, 4], accessFlags := 1041 }

def heap : Heap := #[]
def classes : Array Class := #[k0, k1, k2, k3, k4, k5, k6, k7, k8]
def interned : List (Array UInt16 × Addr) := []
def slotsUsed : Nat := 0
def theMethod : MethodId := ⟨1, 1⟩
def args0 : Array Value := #[.int 5]
def aboutOver (below : List Frame) : State where
  vm := { classes := classes, interned := interned.toArray }
  heap := heap
  slotsUsed := slotsUsed
  threads := #[{ frames := .invoking theMethod args0 :: below }]
def below0 : List Frame := [.native { method := ⟨0, 0⟩, args := #[] }]
def about1 : State := aboutOver below0
def p0 : Program := .bare "" "" ""
def e0 : Env := launch0.env 0 0 0
theorem w_frames : about1.frames = Frame.invoking theMethod args0 :: below0 := rfl
set_option maxRecDepth 65536 in
theorem w_args : argsFit about1.vm theMethod args0 = true := by decide +kernel
set_option maxRecDepth 65536 in
theorem w_heap : heapFits about1 = true := by decide +kernel
set_option maxRecDepth 65536 in
theorem w_runnable : about1.curStatus? = some .runnable := by decide +kernel
set_option maxRecDepth 65536 in
theorem w_alone : about1.alone = true := by decide +kernel
set_option maxRecDepth 65536 in
theorem w_named : about1.methodNamed? x = some theMethod := by decide +kernel
set_option maxRecDepth 65536 in
theorem w_hears : about1.hears theMethod below0 = true := by decide +kernel
set_option maxRecDepth 65536 in
theorem w_ripe : about1.ripe theMethod args0 below0 = true := by decide +kernel
theorem w_running : about1.status = .running := rfl
set_option maxRecDepth 65536 in
theorem w_room : about1.hasRoom e0.platform room_1 = true :=
  launch0.hasRoom_least _ room_1 (by decide +kernel) (by decide +kernel) (by decide +kernel) (by decide +kernel) (by decide +kernel) (by decide +kernel)
theorem allAtoms_all (ts : List Jvm.Cond) (a : Array Jvm.Value) (st : Jvm.State) : (allAtoms ts).before a st = ts.all (fun c => c.before a st) := by
  induction ts with
  | nil => rfl
  | cons c t ih =>
    show (Jvm.Cond.and c (allAtoms t)).before a st = _
    rw [Jvm.Cond.before_and, ih, List.all_cons]
def words1 : List Jvm.Cond := Jvm.Cond.code x code maxLocals ret :: tables_1
/-- a 'code' word, met by the world's own term for the bytes: nothing is compared byte by byte -/
theorem code_word {y : MethodName} {bytes : ByteArray} {mx : Nat} {rt : Option FieldType} {a : Array Value} {s : State} {m : MethodId} {meth : Method} {c : Code} (h1 : s.methodNamed? y = some m) (h2 : s.vm.method? m = some meth) (h3 : meth.code = some c) (h4 : c.code = bytes)
    (h5 : (c.maxLocals == mx && c.exceptionTable.isEmpty && decide (c.maxStack ≤ mostOperands) && decide (meth.sig.returnType = rt) && !meth.locks && decide (parseMethodDescriptor y.desc = some meth.sig)) = true) : (Jvm.Cond.code y bytes mx rt).before a s = true := by
  simp only [Bool.and_eq_true, beq_iff_eq, Bool.not_eq_true', decide_eq_true_eq] at h5
  obtain ⟨⟨⟨⟨⟨g1, g2⟩, g3⟩, g4⟩, g5⟩, g6⟩ := h5
  simp [Cond.before, Cond.holds, Cond.value, h1, h2, h3, h4, g1, g2, g3, g4, g5, g6]
def isCode : Jvm.Cond → Bool
  | .code _ _ _ _ => true
  | _ => false
theorem all_split {L : List Jvm.Cond} {P : Jvm.Cond → Bool} (h1 : L.all (fun c => isCode c || P c) = true) (h2 : ∀ c ∈ L.filter isCode, P c = true) : L.all P = true := by
  refine List.all_eq_true.mpr fun c hc => ?_
  have h := List.all_eq_true.mp h1 c hc
  rcases Bool.eq_false_or_eq_true (isCode c) with hi | hi
  · exact h2 c (List.mem_filter.mpr ⟨hc, hi⟩)
  · simpa [hi] using h
set_option maxRecDepth 65536 in
theorem w_c0 : (Jvm.Cond.code x code maxLocals ret).before args0 about1 = true := code_word (m := ⟨1, 1⟩) (meth := k1m1) (c := k1c1) (by decide +kernel) rfl rfl rfl (by decide +kernel)
set_option maxRecDepth 65536 in
theorem w_c1 : (Jvm.Cond.code ({ cls := "com/example/tapeloom/tapeloom/Program", name := "isCommand", desc := "(B)Z" } : Jvm.MethodName) prog_16_method_3_code (1 : Nat) (Option.some Jvm.ClassFile.FieldType.boolean)).before args0 about1 = true := code_word (m := ⟨2, 0⟩) (meth := k2m0) (c := k2c0) (by decide +kernel) rfl rfl rfl (by decide +kernel)
def codes1 : List Jvm.Cond := [Jvm.Cond.code x code maxLocals ret, Jvm.Cond.code ({ cls := "com/example/tapeloom/tapeloom/Program", name := "isCommand", desc := "(B)Z" } : Jvm.MethodName) prog_16_method_3_code (1 : Nat) (Option.some Jvm.ClassFile.FieldType.boolean)]
set_option maxRecDepth 65536 in
theorem codes_eq : words1.filter isCode = codes1 := rfl
theorem w_codes : ∀ c ∈ words1.filter isCode, c.before args0 about1 = true := by
  rw [codes_eq]
  intro c hc
  simp only [codes1, List.mem_cons, List.not_mem_nil, or_false] at hc
  rcases hc with rfl | rfl
  · exact w_c0
  · exact w_c1
set_option maxRecDepth 65536 in
theorem w_t1 : words1.all (fun c => isCode c || c.before args0 about1) = true := by decide +kernel
theorem w_tables : (allAtoms (Jvm.Cond.code x code maxLocals ret :: tables_1)).before args0 about1 = true := by
  rw [allAtoms_all]
  show words1.all (fun c => c.before args0 about1) = true
  refine all_split ?_ w_codes
  rw [w_t1]
set_option maxRecDepth 65536 in
theorem w_case : (Jvm.Cond.and given_1 narrow_1).before args0 about1 = true := by decide +kernel
theorem w_applies : (headSpec (Jvm.Cond.code x code maxLocals ret :: tables_1) room_1).applies x e0.platform about1 = true :=
  (Spec.applies_iff w_frames).mpr ⟨w_running, w_runnable, w_alone, w_named, w_hears, w_ripe, w_room, w_tables⟩
theorem atStart : AtStart classFile x code maxLocals ret World_1 tables_1 room_1 Calls_1 rest_1 Pre_1 launch0 p0 e0 about1 theMethod args0 below0 :=
  ⟨lists_1, trivial, launch0.admits_env _ _ _, launch0.least_env, fairChoices_fair.cas, fairChoices_fair.clock, w_frames, w_args, w_heap, w_applies, trivial, trivial, w_case⟩
end start1
theorem witness_1 : WitnessClaimed_1 := ⟨start1.p0, start1.e0, start1.about1, start1.theMethod, start1.args0, start1.below0, start1.atStart⟩
end Jvm.Pilot.@@N@@
