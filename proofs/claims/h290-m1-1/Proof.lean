import JvmDerived
import JvmDerived.Pilot.@@N@@Statement
import JvmDerived.Pilot.@@N@@Code
set_option linter.unusedVariables false
set_option linter.unusedSimpArgs false
@@BLOCK:NumsL.lean.txt@@
namespace Jvm.Pilot.@@N@@
open Jvm Jvm.ClassFile Sem Op Lib Jvm.Free Jvm.Stand Jvm.LawKit Jvm.RoadKit Bundle Jvm.Pilot.@@N@@.Jvm.D

section OwnKit
variable {p : Program} {l : Launch} {e : Env} {R : Room} {s : State} {m : MethodId} {args : Array Value} {below : List Frame} {meth : Method} {c : Code} {T T' : State} {locs : List Loc} {cells slots : Nat} {Z : State} {h h' : Heap}
/-- from the state T with the frame g on top the run ends well -/
def own_G (p : Program) (e : Env) (below : List Frame) (s : State) (kc ks : Nat) (Q : Option Value → Heap → List Loc → Prop) (T : State) (g : JFrame) : Prop :=
  ∃ (U : State) (o : Outcome), Steps p.tables e below (T.setTop g) U ∧ U.status = .running ∧ Ended U below o ∧ ∃ v L, o = .returned v ∧ Q v U.heap L ∧ FrameEnd s o U L kc ks
variable {kc ks : Nat} {Q : Option Value → Heap → List Loc → Prop}
theorem own_step {g g' : JFrame} (k : ∀ t, Steps p.tables e below (T'.setTop g') t → Steps p.tables e below (T.setTop g) t) (hh : own_G p e below s kc ks Q T' g') : own_G p e below s kc ks Q T g := by
  obtain ⟨U, o, h1, h2⟩ := hh
  exact ⟨U, o, k _ h1, h2⟩
theorem own_retN (X : Stand p l e R s m args below meth c T locs cells slots) (hx : p.tables.exec = Jvm.exec) (hlk : meth.locks = false) {pc : Nat} {Ls : Array Slot} {z w : Int32} {t : FieldType} {rest : List Value} (hret : meth.sig.returnType = some t) (ht : t = .boolean ∨ t = .byte ∨ t = .char ∨ t = .short) (hd : decode c.code pc = .ok (.ireturn, 1)) (hw : nar t z = w) (hc : cells ≤ kc) (hs : slots ≤ ks) (hQ : Q (some (.int w)) T.heap locs) :
    own_G p e below s kc ks Q T (mkF m pc Ls (.int z :: rest)) := by
  subst hw
  obtain ⟨fs, hr, hrun, hended, hW, hsame⟩ := X.leave (v := some (.int (nar t z))) (fun q => by rw [hret] at q; cases q) hlk
  exact ⟨_, _, retN X hx hret ht hd hr, hrun, hended, _, _, rfl, hQ, ⟨_, rfl⟩, hW, hsame.mono hc hs⟩
theorem own_retI (X : Stand p l e R s m args below meth c T locs cells slots) (hx : p.tables.exec = Jvm.exec) (hlk : meth.locks = false) {pc : Nat} {Ls : Array Slot} {z : Int32} {rest : List Value} (hret : meth.sig.returnType = some .int) (hd : decode c.code pc = .ok (.ireturn, 1)) (hc : cells ≤ kc) (hs : slots ≤ ks) (hQ : Q (some (.int z)) T.heap locs) :
    own_G p e below s kc ks Q T (mkF m pc Ls (.int z :: rest)) := by
  obtain ⟨fs, hr, hrun, hended, hW, hsame⟩ := X.leave (v := some (.int z)) (fun q => by rw [hret] at q; cases q) hlk
  exact ⟨_, _, retOut X hx hret rfl (Or.inl ⟨rfl, Or.inl rfl, z, rfl⟩) hd hr, hrun, hended, _, _, rfl, hQ, ⟨_, rfl⟩, hW, hsame.mono hc hs⟩
theorem own_retJ (X : Stand p l e R s m args below meth c T locs cells slots) (hx : p.tables.exec = Jvm.exec) (hlk : meth.locks = false) {pc : Nat} {Ls : Array Slot} {z : Int64} {rest : List Value} (hret : meth.sig.returnType = some .long) (hd : decode c.code pc = .ok (.lreturn, 1)) (hc : cells ≤ kc) (hs : slots ≤ ks) (hQ : Q (some (.long z)) T.heap locs) :
    own_G p e below s kc ks Q T (mkF m pc Ls (.long z :: rest)) := by
  obtain ⟨fs, hr, hrun, hended, hW, hsame⟩ := X.leave (v := some (.long z)) (fun q => by rw [hret] at q; cases q) hlk
  exact ⟨_, _, retOut X hx hret rfl (Or.inr (Or.inl ⟨rfl, rfl, z, rfl⟩)) hd hr, hrun, hended, _, _, rfl, hQ, ⟨_, rfl⟩, hW, hsame.mono hc hs⟩
theorem own_retR (X : Stand p l e R s m args below meth c T locs cells slots) (hx : p.tables.exec = Jvm.exec) (hlk : meth.locks = false) {pc : Nat} {Ls : Array Slot} {w : Value} {t : FieldType} {rest : List Value} (hret : meth.sig.returnType = some t) (ht : t.isReference = true) (hw : w.isRef = true) (hd : decode c.code pc = .ok (.areturn, 1)) (hc : cells ≤ kc) (hs : slots ≤ ks) (hQ : Q (some w) T.heap locs) :
    own_G p e below s kc ks Q T (mkF m pc Ls (w :: rest)) := by
  obtain ⟨fs, hr, hrun, hended, hW, hsame⟩ := X.leave (v := some w) (fun q => by rw [hret] at q; cases q) hlk
  have hn : narrow t w = w := by cases w <;> cases t <;> first | rfl | (cases hw; done) | (cases ht; done)
  exact ⟨_, _, retOut X hx hret hn (Or.inr (Or.inr (Or.inr (Or.inr ⟨rfl, ht, hw⟩)))) hd hr, hrun, hended, _, _, rfl, hQ, ⟨_, rfl⟩, hW, hsame.mono hc hs⟩
theorem own_retV (X : Stand p l e R s m args below meth c T locs cells slots) (hx : p.tables.exec = Jvm.exec) (hlk : meth.locks = false) {pc : Nat} {Ls : Array Slot} (hret : meth.sig.returnType = none) (hd : decode c.code pc = .ok (.return_, 1)) (hc : cells ≤ kc) (hs : slots ≤ ks) (hQ : Q none T.heap locs) :
    own_G p e below s kc ks Q T (mkF m pc Ls []) := by
  obtain ⟨fs, hr, hrun, hended, hW, hsame⟩ := X.leave (v := none) (fun _ => rfl) hlk
  exact ⟨_, _, X.returnOut hx hret hd hr, hrun, hended, _, _, rfl, hQ, ⟨_, rfl⟩, hW, hsame.mono hc hs⟩
theorem own_lksw (X : Stand p l e R s m args below meth c T locs cells slots) (hx : p.tables.exec = Jvm.exec) {g : JFrame} (hg : g.method = m) {d : Int} {prs : Array (Int × Int)} {len : Nat} (hd : decode c.code g.pc = .ok (.lookupswitch d prs, len)) {x : Int32} {rest : List Value} (hs : g.stack = .int x :: rest) (hp : (prs.toList.zip (prs.toList.drop 1)).all (fun (a, next) => a.1 < next.1) = true)
    {o : Int} (ho : lookupswitch.offset prs.toList d x.toInt = o) {pc0 pc' : Nat} (hpc : g.pc = pc0) (h0 : 0 ≤ (pc0 : Int) + o) (hq : ((pc0 : Int) + o).toNat = pc') {target : State}
    (k : Steps p.tables e below (T.setTop { g with pc := pc', stack := rest }) target) : Steps p.tables e below (T.setTop g) target := by
  subst hg hpc hq ho
  jvm_step X.here [X.here.top, hx, hd, hs, lookupswitch.wp_chain, hp, h0]
  exact ⟨by simpa using hp, k⟩
theorem own_sta_keep {C n d : String} {v : Value} {ws : List Addr} (F : Sta Z h C n d v) (K : Keep h h' ws) (q : ∀ a ∈ ws, ∀ cell : Cell, h[a]? = some cell → cell.vm.isStatics = false) : Sta Z h' C n d v := by
  obtain ⟨cf, i, k, f, st, cell, h1, h2, h3, h4, h5, h6, h7⟩ := F
  exact ⟨cf, i, k, f, st, cell, h1, h2, h3, h4, K.2.1 st cell h5 (fun hm => by rw [q st hm cell h5] at h6; cases h6), h6, h7⟩
end OwnKit
theorem pd_0 : parseMethodDescriptor "(JJ)J" = some ⟨[.long, .long], some .long⟩ := by decide +kernel
theorem pd_1 : parseMethodDescriptor "(JJ)V" = some ⟨[.long, .long], none⟩ := by decide +kernel
theorem pd_2 : parseMethodDescriptor "()V" = some ⟨[], none⟩ := by decide +kernel
theorem pd_3 : parseMethodDescriptor "()J" = some ⟨[], some .long⟩ := by decide +kernel
theorem pd_4 : parseMethodDescriptor "(JJI)J" = some ⟨[.long, .long, .int], some .long⟩ := by decide +kernel
theorem pn_0 : plainName "com/example/read_model_projector/readmodelprojector/engine/BackoffNextPinLaw" = true := by first | (simp [plainName, overriddenIn]; done) | decide +kernel
theorem d1_0 : decode jdk_29_method_70_code 0 = .ok (.lload_n 0, 1) := by decide +kernel
theorem d1_1 : decode jdk_29_method_70_code 1 = .ok (.lload_n 2, 1) := by decide +kernel
theorem d1_2 : decode jdk_29_method_70_code 2 = .ok (.lcmp, 1) := by decide +kernel
theorem d1_3 : decode jdk_29_method_70_code 3 = .ok (.ifCond .gt 7, 3) := by decide +kernel
theorem d1_6 : decode jdk_29_method_70_code 6 = .ok (.lload_n 0, 1) := by decide +kernel
theorem d1_7 : decode jdk_29_method_70_code 7 = .ok (.goto 4, 3) := by decide +kernel
theorem d1_10 : decode jdk_29_method_70_code 10 = .ok (.lload_n 2, 1) := by decide +kernel
theorem d1_11 : decode jdk_29_method_70_code 11 = .ok (.lreturn, 1) := by decide +kernel
theorem d2_0 : decode jdk_29_method_66_code 0 = .ok (.lload_n 0, 1) := by decide +kernel
theorem d2_1 : decode jdk_29_method_66_code 1 = .ok (.lload_n 2, 1) := by decide +kernel
theorem d2_2 : decode jdk_29_method_66_code 2 = .ok (.lcmp, 1) := by decide +kernel
theorem d2_3 : decode jdk_29_method_66_code 3 = .ok (.ifCond .lt 7, 3) := by decide +kernel
theorem d2_6 : decode jdk_29_method_66_code 6 = .ok (.lload_n 0, 1) := by decide +kernel
theorem d2_7 : decode jdk_29_method_66_code 7 = .ok (.goto 4, 3) := by decide +kernel
theorem d2_10 : decode jdk_29_method_66_code 10 = .ok (.lload_n 2, 1) := by decide +kernel
theorem d2_11 : decode jdk_29_method_66_code 11 = .ok (.lreturn, 1) := by decide +kernel
theorem d3_0 : decode prog_1_method_1_code 0 = .ok (.aload_n 0, 1) := by decide +kernel
theorem d3_1 : decode prog_1_method_1_code 1 = .ok (.invokespecial 1, 3) := by decide +kernel
theorem d3_4 : decode prog_1_method_1_code 4 = .ok (.aload_n 0, 1) := by decide +kernel
theorem d3_5 : decode prog_1_method_1_code 5 = .ok (.lload_n 1, 1) := by decide +kernel
theorem d3_6 : decode prog_1_method_1_code 6 = .ok (.putfield 7, 3) := by decide +kernel
theorem d3_9 : decode prog_1_method_1_code 9 = .ok (.aload_n 0, 1) := by decide +kernel
theorem d3_10 : decode prog_1_method_1_code 10 = .ok (.lload_n 3, 1) := by decide +kernel
theorem d3_11 : decode prog_1_method_1_code 11 = .ok (.putfield 13, 3) := by decide +kernel
theorem d3_14 : decode prog_1_method_1_code 14 = .ok (.return_, 1) := by decide +kernel
theorem pn_3 : plainName "com/example/read_model_projector/readmodelprojector/engine/Backoff" = true := by first | (simp [plainName, overriddenIn]; done) | decide +kernel
theorem d5_0 : decode prog_1_method_3_code 0 = .ok (.aload_n 0, 1) := by decide +kernel
theorem d5_1 : decode prog_1_method_3_code 1 = .ok (.getfield 7, 3) := by decide +kernel
theorem d5_4 : decode prog_1_method_3_code 4 = .ok (.lstore_n 1, 1) := by decide +kernel
theorem d5_5 : decode prog_1_method_3_code 5 = .ok (.aload_n 0, 1) := by decide +kernel
theorem d5_6 : decode prog_1_method_3_code 6 = .ok (.ldc2_w 32, 3) := by decide +kernel
theorem d5_9 : decode prog_1_method_3_code 9 = .ok (.aload_n 0, 1) := by decide +kernel
theorem d5_10 : decode prog_1_method_3_code 10 = .ok (.getfield 7, 3) := by decide +kernel
theorem d5_13 : decode prog_1_method_3_code 13 = .ok (.lmul, 1) := by decide +kernel
theorem d5_14 : decode prog_1_method_3_code 14 = .ok (.aload_n 0, 1) := by decide +kernel
theorem d5_15 : decode prog_1_method_3_code 15 = .ok (.getfield 13, 3) := by decide +kernel
theorem d5_18 : decode prog_1_method_3_code 18 = .ok (.invokestatic 34, 3) := by decide +kernel
theorem d5_21 : decode prog_1_method_3_code 21 = .ok (.putfield 7, 3) := by decide +kernel
theorem d5_24 : decode prog_1_method_3_code 24 = .ok (.lload_n 1, 1) := by decide +kernel
theorem d5_25 : decode prog_1_method_3_code 25 = .ok (.lreturn, 1) := by decide +kernel
theorem pn_5 : plainName "com/example/read_model_projector/readmodelprojector/engine/Backoff" = true := by first | (simp [plainName, overriddenIn]; done) | decide +kernel
theorem d6_0 : decode method_2_code 0 = .ok (.lload_n 0, 1) := by decide +kernel
theorem d6_1 : decode method_2_code 1 = .ok (.lload_n 2, 1) := by decide +kernel
theorem d6_2 : decode method_2_code 2 = .ok (.iload 4, 2) := by decide +kernel
theorem d6_4 : decode method_2_code 4 = .ok (.lshr, 1) := by decide +kernel
theorem d6_5 : decode method_2_code 5 = .ok (.lcmp, 1) := by decide +kernel
theorem d6_6 : decode method_2_code 6 = .ok (.ifCond .gt 8, 3) := by decide +kernel
theorem d6_9 : decode method_2_code 9 = .ok (.lload_n 0, 1) := by decide +kernel
theorem d6_10 : decode method_2_code 10 = .ok (.iload 4, 2) := by decide +kernel
theorem d6_12 : decode method_2_code 12 = .ok (.lshl, 1) := by decide +kernel
theorem d6_13 : decode method_2_code 13 = .ok (.lreturn, 1) := by decide +kernel
theorem d6_14 : decode method_2_code 14 = .ok (.lload_n 2, 1) := by decide +kernel
theorem d6_15 : decode method_2_code 15 = .ok (.lreturn, 1) := by decide +kernel
theorem pn_6 : plainName "com/example/read_model_projector/readmodelprojector/engine/BackoffNextPinLaw" = true := by first | (simp [plainName, overriddenIn]; done) | decide +kernel
def fn1 (p0 : Int64) (p1 : Int64) : Int64 := if p1 < p0 then p1 else p0
theorem ef_rm1 (m : MethodId) (x0 : Int64) (x1 : Int64) : entryFrame m #[(.long x0), (.long x1)] 4 = mkF m 0 #[.val (.long x0), .second, .val (.long x1), .second] [] := by first | (simp [entryFrame, mkF, argsToLocals, Value.category]; done) | rfl
def Qrm1 (Z : State) (p0 : Int64) (p1 : Int64) (h0 : Heap) (n0 : Nat) (v : Option Value) (h : Heap) (L : List Loc) : Prop := v = some (.long (fn1 p0 p1)) ∧ Fr n0 L ∧ h = h0
set_option maxRecDepth 65536 in
set_option maxHeartbeats 40000000 in
theorem rm1 (l : Launch) (Z : State) (a0 : Array Value) (hw : ∀ d ∈ tables_1, d.before a0 Z = true) (ws : List Jvm.Cond) (p0 : Int64) (p1 : Int64) (h0 : Heap) (n0 : Nat) (Z0 : n0 ≤ h0.size) :
    MetFree l (⟨"java/lang/Math", "min", "(JJ)J"⟩ : MethodName) (head1 (Jvm.Cond.code (⟨"java/lang/Math", "min", "(JJ)J"⟩ : MethodName) jdk_29_method_70_code 4 (some .long) :: ws) ({ frames := 0, cells := 0, slots := 0, locals := 0 } : Room)) (fun a U => a = #[(.long p0), (.long p1)] ∧ Z.Warmed39 U.vm ∧ U.heap = h0) (fun _ _ _ _ _ => True) (fun _ U o U' => ∃ v L, o = .returned v ∧ Qrm1 Z p0 p1 h0 n0 v U'.heap L ∧ FrameEnd U o U' L ({ frames := 0, cells := 0, slots := 0, locals := 0 } : Room).cells ({ frames := 0, cells := 0, slots := 0, locals := 0 } : Room).slots) := by
  refine MetFree.of_bodySF (Jvm.Free.JP.mathPlain rfl (by decide +kernel)) hisR ?_
  intro p e s m args below meth c s₁ Bd hml0 hP hK
  obtain ⟨rfl, hZ, hh⟩ := hP
  have hx := Bd.exec
  have hby := Bd.bytes
  have hlk : meth.locks = false := BodyLoose.notSynchronized Bd
  have hml : c.maxLocals = 4 := hml0
  have hown : s.vm.findClass "java/lang/Math" = some m.cls := findClass_of_methodNamed Bd.named
  have hnm := (name_of_methodNamed Bd.named Bd.method).1
  have X0 : Stand p l e ({ frames := 0, cells := 0, slots := 0, locals := 0 } : Room) s m #[(.long p0), (.long p1)] below meth c s₁ [] 0 0 := Stand.of_body Bd
  have e0 : s₁.heap = h0 := by rw [← hh, Bd.state]; rfl
  have N0 := Fr.nil n0
  have K0 : Keep h0 h0 [] := Keep.refl h0 []
  show own_G p e below s 0 0 (Qrm1 Z p0 p1 h0 n0) s₁ (entryFrame m #[(.long p0), (.long p1)] 4)
  rw [ef_rm1 m p0 p1]
  refine own_step (T' := s₁) (g' := (mkF m 1 #[.val (.long p0), .second, .val (.long p1), .second] [(.long p0)])) (fun t k => XS.lloadN X0.here hx rfl (hb hby d1_0) rfl k) ?_
  refine own_step (T' := s₁) (g' := (mkF m 2 #[.val (.long p0), .second, .val (.long p1), .second] [(.long p1), (.long p0)])) (fun t k => XS.lloadN X0.here hx rfl (hb hby d1_1) rfl k) ?_
  refine own_step (T' := s₁) (g' := (mkF m 3 #[.val (.long p0), .second, .val (.long p1), .second] [(.int (Jvm.Free.XT.cmpL p0 p1))])) (fun t k => Jvm.Free.XT.lcmp X0.here hx rfl (hb hby d1_2) rfl k) ?_
  by_cases hc3_1 : p1 < p0
  · refine own_step (T' := s₁) (g' := (mkF m 10 #[.val (.long p0), .second, .val (.long p1), .second] [])) (fun t k => XS.ifYes X0.here hx rfl (pc0 := 3) (pc' := 10) rfl (hb hby d1_3) rfl (Jvm.Free.XT.ll_gt_t hc3_1) (by decide) (by decide) k) ?_
    refine own_step (T' := s₁) (g' := (mkF m 11 #[.val (.long p0), .second, .val (.long p1), .second] [(.long p1)])) (fun t k => XS.lloadN X0.here hx rfl (hb hby d1_10) rfl k) ?_
    refine own_retJ X0 hx hlk Bd.returns (hb hby d1_11) (by decide) (by decide) ?_
    exact ⟨congrArg some (congrArg Value.long (show p1 = (fn1 p0 p1) from by unfold fn1; rw [if_pos hc3_1])), N0, e0⟩
  · refine own_step (T' := s₁) (g' := (mkF m 6 #[.val (.long p0), .second, .val (.long p1), .second] [])) (fun t k => XS.ifNo X0.here hx rfl (hb hby d1_3) rfl (Jvm.Free.XT.ll_gt_f hc3_1) k) ?_
    refine own_step (T' := s₁) (g' := (mkF m 7 #[.val (.long p0), .second, .val (.long p1), .second] [(.long p0)])) (fun t k => XS.lloadN X0.here hx rfl (hb hby d1_6) rfl k) ?_
    refine own_step (T' := s₁) (g' := (mkF m 11 #[.val (.long p0), .second, .val (.long p1), .second] [(.long p0)])) (fun t k => XS.goto X0.here hx rfl (pc0 := 7) (pc' := 11) rfl (hb hby d1_7) (by decide) (by decide) k) ?_
    refine own_retJ X0 hx hlk Bd.returns (hb hby d1_11) (by decide) (by decide) ?_
    exact ⟨congrArg some (congrArg Value.long (show p0 = (fn1 p0 p1) from by unfold fn1; rw [if_neg hc3_1])), N0, e0⟩
def fn2 (p0 : Int64) (p1 : Int64) : Int64 := if p0 < p1 then p1 else p0
theorem ef_rm2 (m : MethodId) (x0 : Int64) (x1 : Int64) : entryFrame m #[(.long x0), (.long x1)] 4 = mkF m 0 #[.val (.long x0), .second, .val (.long x1), .second] [] := by first | (simp [entryFrame, mkF, argsToLocals, Value.category]; done) | rfl
def Qrm2 (Z : State) (p0 : Int64) (p1 : Int64) (h0 : Heap) (n0 : Nat) (v : Option Value) (h : Heap) (L : List Loc) : Prop := v = some (.long (fn2 p0 p1)) ∧ Fr n0 L ∧ h = h0
set_option maxRecDepth 65536 in
set_option maxHeartbeats 40000000 in
theorem rm2 (l : Launch) (Z : State) (a0 : Array Value) (hw : ∀ d ∈ tables_1, d.before a0 Z = true) (ws : List Jvm.Cond) (p0 : Int64) (p1 : Int64) (h0 : Heap) (n0 : Nat) (Z0 : n0 ≤ h0.size) :
    MetFree l (⟨"java/lang/Math", "max", "(JJ)J"⟩ : MethodName) (head1 (Jvm.Cond.code (⟨"java/lang/Math", "max", "(JJ)J"⟩ : MethodName) jdk_29_method_66_code 4 (some .long) :: ws) ({ frames := 0, cells := 0, slots := 0, locals := 0 } : Room)) (fun a U => a = #[(.long p0), (.long p1)] ∧ Z.Warmed39 U.vm ∧ U.heap = h0) (fun _ _ _ _ _ => True) (fun _ U o U' => ∃ v L, o = .returned v ∧ Qrm2 Z p0 p1 h0 n0 v U'.heap L ∧ FrameEnd U o U' L ({ frames := 0, cells := 0, slots := 0, locals := 0 } : Room).cells ({ frames := 0, cells := 0, slots := 0, locals := 0 } : Room).slots) := by
  refine MetFree.of_bodySF (Jvm.Free.JP.mathPlain rfl (by decide +kernel)) hisR ?_
  intro p e s m args below meth c s₁ Bd hml0 hP hK
  obtain ⟨rfl, hZ, hh⟩ := hP
  have hx := Bd.exec
  have hby := Bd.bytes
  have hlk : meth.locks = false := BodyLoose.notSynchronized Bd
  have hml : c.maxLocals = 4 := hml0
  have hown : s.vm.findClass "java/lang/Math" = some m.cls := findClass_of_methodNamed Bd.named
  have hnm := (name_of_methodNamed Bd.named Bd.method).1
  have X0 : Stand p l e ({ frames := 0, cells := 0, slots := 0, locals := 0 } : Room) s m #[(.long p0), (.long p1)] below meth c s₁ [] 0 0 := Stand.of_body Bd
  have e0 : s₁.heap = h0 := by rw [← hh, Bd.state]; rfl
  have N0 := Fr.nil n0
  have K0 : Keep h0 h0 [] := Keep.refl h0 []
  show own_G p e below s 0 0 (Qrm2 Z p0 p1 h0 n0) s₁ (entryFrame m #[(.long p0), (.long p1)] 4)
  rw [ef_rm2 m p0 p1]
  refine own_step (T' := s₁) (g' := (mkF m 1 #[.val (.long p0), .second, .val (.long p1), .second] [(.long p0)])) (fun t k => XS.lloadN X0.here hx rfl (hb hby d2_0) rfl k) ?_
  refine own_step (T' := s₁) (g' := (mkF m 2 #[.val (.long p0), .second, .val (.long p1), .second] [(.long p1), (.long p0)])) (fun t k => XS.lloadN X0.here hx rfl (hb hby d2_1) rfl k) ?_
  refine own_step (T' := s₁) (g' := (mkF m 3 #[.val (.long p0), .second, .val (.long p1), .second] [(.int (Jvm.Free.XT.cmpL p0 p1))])) (fun t k => Jvm.Free.XT.lcmp X0.here hx rfl (hb hby d2_2) rfl k) ?_
  by_cases hc3_1 : p0 < p1
  · refine own_step (T' := s₁) (g' := (mkF m 10 #[.val (.long p0), .second, .val (.long p1), .second] [])) (fun t k => XS.ifYes X0.here hx rfl (pc0 := 3) (pc' := 10) rfl (hb hby d2_3) rfl (Jvm.Free.XT.ll_lt_t hc3_1) (by decide) (by decide) k) ?_
    refine own_step (T' := s₁) (g' := (mkF m 11 #[.val (.long p0), .second, .val (.long p1), .second] [(.long p1)])) (fun t k => XS.lloadN X0.here hx rfl (hb hby d2_10) rfl k) ?_
    refine own_retJ X0 hx hlk Bd.returns (hb hby d2_11) (by decide) (by decide) ?_
    exact ⟨congrArg some (congrArg Value.long (show p1 = (fn2 p0 p1) from by unfold fn2; rw [if_pos hc3_1])), N0, e0⟩
  · refine own_step (T' := s₁) (g' := (mkF m 6 #[.val (.long p0), .second, .val (.long p1), .second] [])) (fun t k => XS.ifNo X0.here hx rfl (hb hby d2_3) rfl (Jvm.Free.XT.ll_lt_f hc3_1) k) ?_
    refine own_step (T' := s₁) (g' := (mkF m 7 #[.val (.long p0), .second, .val (.long p1), .second] [(.long p0)])) (fun t k => XS.lloadN X0.here hx rfl (hb hby d2_6) rfl k) ?_
    refine own_step (T' := s₁) (g' := (mkF m 11 #[.val (.long p0), .second, .val (.long p1), .second] [(.long p0)])) (fun t k => XS.goto X0.here hx rfl (pc0 := 7) (pc' := 11) rfl (hb hby d2_7) (by decide) (by decide) k) ?_
    refine own_retJ X0 hx hlk Bd.returns (hb hby d2_11) (by decide) (by decide) ?_
    exact ⟨congrArg some (congrArg Value.long (show p0 = (fn2 p0 p1) from by unfold fn2; rw [if_neg hc3_1])), N0, e0⟩
def fn6 (p0 : Int64) (p1 : Int64) (p2 : Int32) : Int64 := if (p1 >>> (p2 &&& 0x3f).toInt64) < p0 then p1 else (p0 <<< (p2 &&& 0x3f).toInt64)
theorem ef_rm6 (m : MethodId) (x0 : Int64) (x1 : Int64) (x2 : Int32) : entryFrame m #[(.long x0), (.long x1), (.int x2)] 5 = mkF m 0 #[.val (.long x0), .second, .val (.long x1), .second, .val (.int x2)] [] := by first | (simp [entryFrame, mkF, argsToLocals, Value.category]; done) | rfl
def Qrm6 (Z : State) (p0 : Int64) (p1 : Int64) (p2 : Int32) (h0 : Heap) (n0 : Nat) (v : Option Value) (h : Heap) (L : List Loc) : Prop := v = some (.long (fn6 p0 p1 p2)) ∧ Fr n0 L ∧ h = h0
set_option maxRecDepth 65536 in
set_option maxHeartbeats 40000000 in
theorem rm6 (l : Launch) (Z : State) (a0 : Array Value) (hw : ∀ d ∈ tables_1, d.before a0 Z = true) (ws : List Jvm.Cond) (p0 : Int64) (p1 : Int64) (p2 : Int32) (h0 : Heap) (n0 : Nat) (Z0 : n0 ≤ h0.size) :
    MetFree l (⟨"com/example/read_model_projector/readmodelprojector/engine/BackoffNextPinLaw", "expected", "(JJI)J"⟩ : MethodName) (head1 (Jvm.Cond.code (⟨"com/example/read_model_projector/readmodelprojector/engine/BackoffNextPinLaw", "expected", "(JJI)J"⟩ : MethodName) method_2_code 5 (some .long) :: ws) ({ frames := 0, cells := 0, slots := 0, locals := 0 } : Room)) (fun a U => a = #[(.long p0), (.long p1), (.int p2)] ∧ Z.Warmed39 U.vm ∧ U.heap = h0) (fun _ _ _ _ _ => True) (fun _ U o U' => ∃ v L, o = .returned v ∧ Qrm6 Z p0 p1 p2 h0 n0 v U'.heap L ∧ FrameEnd U o U' L ({ frames := 0, cells := 0, slots := 0, locals := 0 } : Room).cells ({ frames := 0, cells := 0, slots := 0, locals := 0 } : Room).slots) := by
  refine MetFree.of_bodySF (plainFor_of_name pn_6) hisR ?_
  intro p e s m args below meth c s₁ Bd hml0 hP hK
  obtain ⟨rfl, hZ, hh⟩ := hP
  have hx := Bd.exec
  have hby := Bd.bytes
  have hlk : meth.locks = false := BodyLoose.notSynchronized Bd
  have hml : c.maxLocals = 5 := hml0
  have hown : s.vm.findClass "com/example/read_model_projector/readmodelprojector/engine/BackoffNextPinLaw" = some m.cls := findClass_of_methodNamed Bd.named
  have hnm := (name_of_methodNamed Bd.named Bd.method).1
  have X0 : Stand p l e ({ frames := 0, cells := 0, slots := 0, locals := 0 } : Room) s m #[(.long p0), (.long p1), (.int p2)] below meth c s₁ [] 0 0 := Stand.of_body Bd
  have e0 : s₁.heap = h0 := by rw [← hh, Bd.state]; rfl
  have N0 := Fr.nil n0
  have K0 : Keep h0 h0 [] := Keep.refl h0 []
  show own_G p e below s 0 0 (Qrm6 Z p0 p1 p2 h0 n0) s₁ (entryFrame m #[(.long p0), (.long p1), (.int p2)] 5)
  rw [ef_rm6 m p0 p1 p2]
  refine own_step (T' := s₁) (g' := (mkF m 1 #[.val (.long p0), .second, .val (.long p1), .second, .val (.int p2)] [(.long p0)])) (fun t k => XS.lloadN X0.here hx rfl (hb hby d6_0) rfl k) ?_
  refine own_step (T' := s₁) (g' := (mkF m 2 #[.val (.long p0), .second, .val (.long p1), .second, .val (.int p2)] [(.long p1), (.long p0)])) (fun t k => XS.lloadN X0.here hx rfl (hb hby d6_1) rfl k) ?_
  refine own_step (T' := s₁) (g' := (mkF m 4 #[.val (.long p0), .second, .val (.long p1), .second, .val (.int p2)] [(.int p2), (.long p1), (.long p0)])) (fun t k => XS.iload X0.here hx rfl (hb hby d6_2) rfl k) ?_
  refine own_step (T' := s₁) (g' := (mkF m 5 #[.val (.long p0), .second, .val (.long p1), .second, .val (.int p2)] [(.long (p1 >>> (p2 &&& 0x3f).toInt64)), (.long p0)])) (fun t k => XS.lshr X0.here hx rfl (hb hby d6_4) rfl k) ?_
  refine own_step (T' := s₁) (g' := (mkF m 6 #[.val (.long p0), .second, .val (.long p1), .second, .val (.int p2)] [(.int (Jvm.Free.XT.cmpL p0 (p1 >>> (p2 &&& 0x3f).toInt64)))])) (fun t k => Jvm.Free.XT.lcmp X0.here hx rfl (hb hby d6_5) rfl k) ?_
  by_cases hc6_1 : (p1 >>> (p2 &&& 0x3f).toInt64) < p0
  · refine own_step (T' := s₁) (g' := (mkF m 14 #[.val (.long p0), .second, .val (.long p1), .second, .val (.int p2)] [])) (fun t k => XS.ifYes X0.here hx rfl (pc0 := 6) (pc' := 14) rfl (hb hby d6_6) rfl (Jvm.Free.XT.ll_gt_t hc6_1) (by decide) (by decide) k) ?_
    refine own_step (T' := s₁) (g' := (mkF m 15 #[.val (.long p0), .second, .val (.long p1), .second, .val (.int p2)] [(.long p1)])) (fun t k => XS.lloadN X0.here hx rfl (hb hby d6_14) rfl k) ?_
    refine own_retJ X0 hx hlk Bd.returns (hb hby d6_15) (by decide) (by decide) ?_
    exact ⟨congrArg some (congrArg Value.long (show p1 = (fn6 p0 p1 p2) from by unfold fn6; rw [if_pos hc6_1])), N0, e0⟩
  · refine own_step (T' := s₁) (g' := (mkF m 9 #[.val (.long p0), .second, .val (.long p1), .second, .val (.int p2)] [])) (fun t k => XS.ifNo X0.here hx rfl (hb hby d6_6) rfl (Jvm.Free.XT.ll_gt_f hc6_1) k) ?_
    refine own_step (T' := s₁) (g' := (mkF m 10 #[.val (.long p0), .second, .val (.long p1), .second, .val (.int p2)] [(.long p0)])) (fun t k => XS.lloadN X0.here hx rfl (hb hby d6_9) rfl k) ?_
    refine own_step (T' := s₁) (g' := (mkF m 12 #[.val (.long p0), .second, .val (.long p1), .second, .val (.int p2)] [(.int p2), (.long p0)])) (fun t k => XS.iload X0.here hx rfl (hb hby d6_10) rfl k) ?_
    refine own_step (T' := s₁) (g' := (mkF m 13 #[.val (.long p0), .second, .val (.long p1), .second, .val (.int p2)] [(.long (p0 <<< (p2 &&& 0x3f).toInt64))])) (fun t k => XS.lshl X0.here hx rfl (hb hby d6_12) rfl k) ?_
    refine own_retJ X0 hx hlk Bd.returns (hb hby d6_13) (by decide) (by decide) ?_
    exact ⟨congrArg some (congrArg Value.long (show (p0 <<< (p2 &&& 0x3f).toInt64) = (fn6 p0 p1 p2) from by unfold fn6; rw [if_neg hc6_1])), N0, e0⟩
theorem ef_rm3 (m : MethodId) (x0 : Addr) (x1 : Int64) (x2 : Int64) : entryFrame m #[(.ref x0), (.long x1), (.long x2)] 5 = mkF m 0 #[.val (.ref x0), .val (.long x1), .second, .val (.long x2), .second] [] := by first | (simp [entryFrame, mkF, argsToLocals, Value.category]; done) | rfl
def Qrm3 (Z : State) (p0 : Addr) (p1 : Int64) (p2 : Int64) (h0 : Heap) (n0 : Nat) (v : Option Value) (h : Heap) (L : List Loc) : Prop := v = none ∧ Fr n0 L ∧ Keep h0 h [p0] ∧ Fld Z h p0 "com/example/read_model_projector/readmodelprojector/engine/Backoff" "nextMillis" "J" (.long p1) ∧ Fld Z h p0 "com/example/read_model_projector/readmodelprojector/engine/Backoff" "longestMillis" "J" (.long p2)
set_option maxRecDepth 65536 in
set_option maxHeartbeats 40000000 in
theorem rm3 (l : Launch) (Z : State) (a0 : Array Value) (hw : ∀ d ∈ tables_1, d.before a0 Z = true) (ws : List Jvm.Cond) (p0 : Addr) (p1 : Int64) (p2 : Int64) (h0 : Heap) (n0 : Nat) (Z0 : n0 ≤ h0.size) (E_p0 : Exa Z h0 p0 "com/example/read_model_projector/readmodelprojector/engine/Backoff") (F_nextMillis_p0 : Fld Z h0 p0 "com/example/read_model_projector/readmodelprojector/engine/Backoff" "nextMillis" "J" (.long (0 : Int64))) (F_longestMillis_p0 : Fld Z h0 p0 "com/example/read_model_projector/readmodelprojector/engine/Backoff" "longestMillis" "J" (.long (0 : Int64))) (g_p0 : n0 ≤ p0) :
    MetFree l (⟨"com/example/read_model_projector/readmodelprojector/engine/Backoff", "<init>", "(JJ)V"⟩ : MethodName) (head1 (Jvm.Cond.code (⟨"com/example/read_model_projector/readmodelprojector/engine/Backoff", "<init>", "(JJ)V"⟩ : MethodName) prog_1_method_1_code 5 none :: ws) ({ frames := 1, cells := 0, slots := 0, locals := 12 } : Room)) (fun a U => a = #[(.ref p0), (.long p1), (.long p2)] ∧ Z.Warmed39 U.vm ∧ U.heap = h0) (fun _ _ _ _ _ => True) (fun _ U o U' => ∃ v L, o = .returned v ∧ Qrm3 Z p0 p1 p2 h0 n0 v U'.heap L ∧ FrameEnd U o U' L ({ frames := 1, cells := 0, slots := 0, locals := 12 } : Room).cells ({ frames := 1, cells := 0, slots := 0, locals := 12 } : Room).slots) := by
  refine MetFree.of_bodySF (plainFor_of_name pn_3) hisR ?_
  intro p e s m args below meth c s₁ Bd hml0 hP hK
  obtain ⟨rfl, hZ, hh⟩ := hP
  have hx := Bd.exec
  have hby := Bd.bytes
  have hlk : meth.locks = false := BodyLoose.notSynchronized Bd
  have hml : c.maxLocals = 5 := hml0
  have hown : s.vm.findClass "com/example/read_model_projector/readmodelprojector/engine/Backoff" = some m.cls := findClass_of_methodNamed Bd.named
  have hnm := (name_of_methodNamed Bd.named Bd.method).1
  have X0 : Stand p l e ({ frames := 1, cells := 0, slots := 0, locals := 12 } : Room) s m #[(.ref p0), (.long p1), (.long p2)] below meth c s₁ [] 0 0 := Stand.of_body Bd
  have e0 : s₁.heap = h0 := by rw [← hh, Bd.state]; rfl
  have N0 := Fr.nil n0
  have K0 : Keep h0 h0 [p0] := Keep.refl h0 [p0]
  show own_G p e below s 0 0 (Qrm3 Z p0 p1 p2 h0 n0) s₁ (entryFrame m #[(.ref p0), (.long p1), (.long p2)] 5)
  rw [ef_rm3 m p0 p1 p2]
  refine own_step (T' := s₁) (g' := (mkF m 1 #[.val (.ref p0), .val (.long p1), .second, .val (.long p2), .second] [(.ref p0)])) (fun t k => XS.aloadN X0.here hx rfl (hb hby d3_0) rfl rfl k) ?_
  obtain ⟨T1, X1, e1, st1⟩ := initO X0 hx hZ hown (hw _ (List.mem_of_getElem? (i := 14) rfl)) (hw _ (List.mem_of_getElem? (i := 15) rfl)) (hw _ (List.mem_of_getElem? (i := 16) rfl)) e0 (g := (mkF m 1 #[.val (.ref p0), .val (.long p1), .second, .val (.long p2), .second] [(.ref p0)])) rfl (by rw [hml]; rfl) rfl (hb hby d3_1) (by decide) (W := 0) (by show 2 * 0 + _ ≤ _; exact Nat.le_of_eq rfl) (by decide)
  refine own_step (T' := T1) (g' := (mkF m 4 #[.val (.ref p0), .val (.long p1), .second, .val (.long p2), .second] [])) st1 ?_
  refine own_step (T' := T1) (g' := (mkF m 5 #[.val (.ref p0), .val (.long p1), .second, .val (.long p2), .second] [(.ref p0)])) (fun t k => XS.aloadN X1.here hx rfl (hb hby d3_4) rfl rfl k) ?_
  refine own_step (T' := T1) (g' := (mkF m 6 #[.val (.ref p0), .val (.long p1), .second, .val (.long p2), .second] [(.long p1), (.ref p0)])) (fun t k => XS.lloadN X1.here hx rfl (hb hby d3_5) rfl k) ?_
  obtain ⟨T2, h2, X2, e2, W2, st2⟩ := putF X1 hx hZ hown (host := "") (Or.inl (hw _ (List.mem_of_getElem? (i := 17) rfl))) Via.refl e1 F_nextMillis_p0 E_p0 (Or.inl (hw _ (List.mem_of_getElem? (i := 18) rfl))) (hw _ (List.mem_of_getElem? (i := 9) rfl)) (ty := .long) (by decide) rfl rfl (g := (mkF m 6 #[.val (.ref p0), .val (.long p1), .second, .val (.long p2), .second] [(.long p1), (.ref p0)])) rfl rfl (hb hby d3_6)
  have E_p0_2 : Exa Z h2 p0 "com/example/read_model_projector/readmodelprojector/engine/Backoff" := E_p0.wr W2
  have F_longestMillis_p0_2 : Fld Z h2 p0 "com/example/read_model_projector/readmodelprojector/engine/Backoff" "longestMillis" "J" (.long (0 : Int64)) := F_longestMillis_p0.other W2 (Or.inr (slot_ne (Or.inr (hw _ (List.mem_of_getElem? (i := 20) rfl))) (Or.inl (hw _ (List.mem_of_getElem? (i := 18) rfl))) (by decide) (t := .long) (t' := .long) (by decide) (by decide)))
  have K_2 : Keep h0 h2 [p0] := K0.wr W2 (Or.inl (List.mem_of_getElem? (i := 0) rfl))
  have N2 := Fr.snoc X2 N0 g_p0
  have F_nextMillis_p0_2 : Fld Z h2 p0 "com/example/read_model_projector/readmodelprojector/engine/Backoff" "nextMillis" "J" (.long p1) := F_nextMillis_p0.same W2
  refine own_step (T' := T2) (g' := (mkF m 9 #[.val (.ref p0), .val (.long p1), .second, .val (.long p2), .second] [])) st2 ?_
  refine own_step (T' := T2) (g' := (mkF m 10 #[.val (.ref p0), .val (.long p1), .second, .val (.long p2), .second] [(.ref p0)])) (fun t k => XS.aloadN X2.here hx rfl (hb hby d3_9) rfl rfl k) ?_
  refine own_step (T' := T2) (g' := (mkF m 11 #[.val (.ref p0), .val (.long p1), .second, .val (.long p2), .second] [(.long p2), (.ref p0)])) (fun t k => XS.lloadN X2.here hx rfl (hb hby d3_10) rfl k) ?_
  obtain ⟨T3, h3, X3, e3, W3, st3⟩ := putF X2 hx hZ hown (host := "") (Or.inl (hw _ (List.mem_of_getElem? (i := 19) rfl))) Via.refl e2 F_longestMillis_p0_2 E_p0_2 (Or.inr ⟨(hw _ (List.mem_of_getElem? (i := 20) rfl)), rfl, hnm⟩) (hw _ (List.mem_of_getElem? (i := 9) rfl)) (ty := .long) (by decide) rfl rfl (g := (mkF m 11 #[.val (.ref p0), .val (.long p1), .second, .val (.long p2), .second] [(.long p2), (.ref p0)])) rfl rfl (hb hby d3_11)
  have E_p0_3 : Exa Z h3 p0 "com/example/read_model_projector/readmodelprojector/engine/Backoff" := E_p0_2.wr W3
  have F_nextMillis_p0_3 : Fld Z h3 p0 "com/example/read_model_projector/readmodelprojector/engine/Backoff" "nextMillis" "J" (.long p1) := F_nextMillis_p0_2.other W3 (Or.inr (slot_ne (Or.inl (hw _ (List.mem_of_getElem? (i := 18) rfl))) (Or.inr (hw _ (List.mem_of_getElem? (i := 20) rfl))) (by decide) (t := .long) (t' := .long) (by decide) (by decide)))
  have K_3 : Keep h0 h3 [p0] := K_2.wr W3 (Or.inl (List.mem_of_getElem? (i := 0) rfl))
  have N3 := Fr.snoc X3 N2 g_p0
  have F_longestMillis_p0_3 : Fld Z h3 p0 "com/example/read_model_projector/readmodelprojector/engine/Backoff" "longestMillis" "J" (.long p2) := F_longestMillis_p0_2.same W3
  refine own_step (T' := T3) (g' := (mkF m 14 #[.val (.ref p0), .val (.long p1), .second, .val (.long p2), .second] [])) st3 ?_
  refine own_retV X3 hx hlk Bd.returns (hb hby d3_14) (by decide) (by decide) ?_
  rw [e3]
  exact ⟨rfl, N3, K_3, F_nextMillis_p0_3, F_longestMillis_p0_3⟩
theorem ef_rm5 (m : MethodId) (x0 : Addr) : entryFrame m #[(.ref x0)] 3 = mkF m 0 #[.val (.ref x0), .unset, .unset] [] := by first | (simp [entryFrame, mkF, argsToLocals, Value.category]; done) | rfl
def Qrm5 (Z : State) (p0 : Addr) (w1 : Int64) (w2 : Int64) (h0 : Heap) (n0 : Nat) (v : Option Value) (h : Heap) (L : List Loc) : Prop := v = some (.long w1) ∧ Fr n0 L ∧ Keep h0 h [p0] ∧ Fld Z h p0 "com/example/read_model_projector/readmodelprojector/engine/Backoff" "nextMillis" "J" (.long (fn1 ((2 : Int64) * w1) w2)) ∧ Fld Z h p0 "com/example/read_model_projector/readmodelprojector/engine/Backoff" "longestMillis" "J" (.long w2)
set_option maxRecDepth 65536 in
set_option maxHeartbeats 40000000 in
theorem rm5 (l : Launch) (Z : State) (a0 : Array Value) (hw : ∀ d ∈ tables_1, d.before a0 Z = true) (ws : List Jvm.Cond) (p0 : Addr) (w1 : Int64) (w2 : Int64) (h0 : Heap) (n0 : Nat) (Z0 : n0 ≤ h0.size) (E_p0 : Exa Z h0 p0 "com/example/read_model_projector/readmodelprojector/engine/Backoff") (F_nextMillis_p0 : Fld Z h0 p0 "com/example/read_model_projector/readmodelprojector/engine/Backoff" "nextMillis" "J" (.long w1)) (F_longestMillis_p0 : Fld Z h0 p0 "com/example/read_model_projector/readmodelprojector/engine/Backoff" "longestMillis" "J" (.long w2)) (g_p0 : n0 ≤ p0) :
    MetFree l (⟨"com/example/read_model_projector/readmodelprojector/engine/Backoff", "next", "()J"⟩ : MethodName) (head1 (Jvm.Cond.code (⟨"com/example/read_model_projector/readmodelprojector/engine/Backoff", "next", "()J"⟩ : MethodName) prog_1_method_3_code 3 (some .long) :: ws) ({ frames := 1, cells := 0, slots := 0, locals := 16 } : Room)) (fun a U => a = #[(.ref p0)] ∧ Z.Warmed39 U.vm ∧ U.heap = h0) (fun _ _ _ _ _ => True) (fun _ U o U' => ∃ v L, o = .returned v ∧ Qrm5 Z p0 w1 w2 h0 n0 v U'.heap L ∧ FrameEnd U o U' L ({ frames := 1, cells := 0, slots := 0, locals := 16 } : Room).cells ({ frames := 1, cells := 0, slots := 0, locals := 16 } : Room).slots) := by
  refine MetFree.of_bodySF (plainFor_of_name pn_5) hisR ?_
  intro p e s m args below meth c s₁ Bd hml0 hP hK
  obtain ⟨rfl, hZ, hh⟩ := hP
  have hx := Bd.exec
  have hby := Bd.bytes
  have hlk : meth.locks = false := BodyLoose.notSynchronized Bd
  have hml : c.maxLocals = 3 := hml0
  have hown : s.vm.findClass "com/example/read_model_projector/readmodelprojector/engine/Backoff" = some m.cls := findClass_of_methodNamed Bd.named
  have hnm := (name_of_methodNamed Bd.named Bd.method).1
  have X0 : Stand p l e ({ frames := 1, cells := 0, slots := 0, locals := 16 } : Room) s m #[(.ref p0)] below meth c s₁ [] 0 0 := Stand.of_body Bd
  have e0 : s₁.heap = h0 := by rw [← hh, Bd.state]; rfl
  have N0 := Fr.nil n0
  have K0 : Keep h0 h0 [p0] := Keep.refl h0 [p0]
  show own_G p e below s 0 0 (Qrm5 Z p0 w1 w2 h0 n0) s₁ (entryFrame m #[(.ref p0)] 3)
  rw [ef_rm5 m p0]
  refine own_step (T' := s₁) (g' := (mkF m 1 #[.val (.ref p0), .unset, .unset] [(.ref p0)])) (fun t k => XS.aloadN X0.here hx rfl (hb hby d5_0) rfl rfl k) ?_
  obtain ⟨T1, X1, e1, st1⟩ := getF X0 hx hZ hown (host := "") (Or.inl (hw _ (List.mem_of_getElem? (i := 17) rfl))) Via.refl e0 F_nextMillis_p0 (g := (mkF m 1 #[.val (.ref p0), .unset, .unset] [(.ref p0)])) rfl rfl (hb hby d5_1)
  refine own_step (T' := T1) (g' := (mkF m 4 #[.val (.ref p0), .unset, .unset] [(.long w1)])) st1 ?_
  refine own_step (T' := T1) (g' := (mkF m 5 #[.val (.ref p0), .val (.long w1), .second] [])) (fun t k => XS.lstoreN X1.here hx rfl (hb hby d5_4) rfl (l' := #[.val (.ref p0), .val (.long w1), .second]) rfl k) ?_
  refine own_step (T' := T1) (g' := (mkF m 6 #[.val (.ref p0), .val (.long w1), .second] [(.ref p0)])) (fun t k => XS.aloadN X1.here hx rfl (hb hby d5_5) rfl rfl k) ?_
  refine own_step (T' := T1) (g' := (mkF m 9 #[.val (.ref p0), .val (.long w1), .second] [(.long (2 : Int64)), (.ref p0)])) (fun t k => X1.ldc2Long hx hown (mvT hZ (hw _ (List.mem_of_getElem? (i := 26) rfl))) (g := (mkF m 6 #[.val (.ref p0), .val (.long w1), .second] [(.ref p0)])) rfl (hb hby d5_6) t k) ?_
  refine own_step (T' := T1) (g' := (mkF m 10 #[.val (.ref p0), .val (.long w1), .second] [(.ref p0), (.long (2 : Int64)), (.ref p0)])) (fun t k => XS.aloadN X1.here hx rfl (hb hby d5_9) rfl rfl k) ?_
  obtain ⟨T2, X2, e2, st2⟩ := getF X1 hx hZ hown (host := "") (Or.inl (hw _ (List.mem_of_getElem? (i := 17) rfl))) Via.refl e1 F_nextMillis_p0 (g := (mkF m 10 #[.val (.ref p0), .val (.long w1), .second] [(.ref p0), (.long (2 : Int64)), (.ref p0)])) rfl rfl (hb hby d5_10)
  refine own_step (T' := T2) (g' := (mkF m 13 #[.val (.ref p0), .val (.long w1), .second] [(.long w1), (.long (2 : Int64)), (.ref p0)])) st2 ?_
  refine own_step (T' := T2) (g' := (mkF m 14 #[.val (.ref p0), .val (.long w1), .second] [(.long ((2 : Int64) * w1)), (.ref p0)])) (fun t k => XS.lmul X2.here hx rfl (hb hby d5_13) rfl k) ?_
  refine own_step (T' := T2) (g' := (mkF m 15 #[.val (.ref p0), .val (.long w1), .second] [(.ref p0), (.long ((2 : Int64) * w1)), (.ref p0)])) (fun t k => XS.aloadN X2.here hx rfl (hb hby d5_14) rfl rfl k) ?_
  obtain ⟨T3, X3, e3, st3⟩ := getF X2 hx hZ hown (host := "") (Or.inl (hw _ (List.mem_of_getElem? (i := 19) rfl))) Via.refl e2 F_longestMillis_p0 (g := (mkF m 15 #[.val (.ref p0), .val (.long w1), .second] [(.ref p0), (.long ((2 : Int64) * w1)), (.ref p0)])) rfl rfl (hb hby d5_15)
  refine own_step (T' := T3) (g' := (mkF m 18 #[.val (.ref p0), .val (.long w1), .second] [(.long w2), (.long ((2 : Int64) * w1)), (.ref p0)])) st3 ?_
  obtain ⟨_, _, ⟨T4, L4, kk4, nn4⟩, -, X4, ⟨Lc4, hQ4, l4, y4, z4⟩, st4⟩ := Jvm.LawKit.callS X3 hx (y := (⟨"java/lang/Math", "min", "(JJ)J"⟩ : MethodName)) hown (mvT hZ (hw _ (List.mem_of_getElem? (i := 27) rfl))) (mvT hZ (hw _ (List.mem_of_getElem? (i := 2) rfl))) (mvT hZ (hw _ (List.mem_of_getElem? (i := 3) rfl))) (mvT hZ (hw _ (List.mem_of_getElem? (i := 4) rfl))) (by decide) (backOf (W := 1) (rm1 l Z a0 hw [] ((2 : Int64) * w1) w2 h0 n0 (Nat.le_trans Z0 K0.1) ) hZ (hw _ (List.mem_of_getElem? (i := 4) rfl)) (hw _ (List.mem_of_getElem? (i := 3) rfl)) (by decide) (by decide)) (g := (mkF m 18 #[.val (.ref p0), .val (.long w1), .second] [(.long w2), (.long ((2 : Int64) * w1)), (.ref p0)])) rfl (by rw [hml]; rfl) (argsL := [(.long ((2 : Int64) * w1)), (.long w2)]) (rest := [(.ref p0)]) (lenOf pd_0 rfl) rfl (by show 2 * 0 + _ ≤ _; exact Nat.le_of_eq rfl) (hb hby d5_18) (fun _ _ => ⟨rfl, e3, (by decide : 0 + 0 ≤ _), (by decide : 0 + 0 ≤ _)⟩)
  dsimp only [Pt.U, Pt.locs, Pt.cells, Pt.slots] at X4 l4 y4 z4 st4 hQ4
  subst l4 y4 z4
  obtain ⟨rfl, N4q, eq4⟩ := hQ4
  have N4 := Fr.app N0 N4q
  refine own_step (T' := T4) (g' := (mkF m 21 #[.val (.ref p0), .val (.long w1), .second] [(.long (fn1 ((2 : Int64) * w1) w2)), (.ref p0)])) st4 ?_
  obtain ⟨T5, h5, X5, e5, W5, st5⟩ := putF X4 hx hZ hown (host := "") (Or.inl (hw _ (List.mem_of_getElem? (i := 17) rfl))) Via.refl eq4 F_nextMillis_p0 E_p0 (Or.inl (hw _ (List.mem_of_getElem? (i := 18) rfl))) (hw _ (List.mem_of_getElem? (i := 9) rfl)) (ty := .long) (by decide) rfl rfl (g := (mkF m 21 #[.val (.ref p0), .val (.long w1), .second] [(.long (fn1 ((2 : Int64) * w1) w2)), (.ref p0)])) rfl rfl (hb hby d5_21)
  have E_p0_5 : Exa Z h5 p0 "com/example/read_model_projector/readmodelprojector/engine/Backoff" := E_p0.wr W5
  have F_longestMillis_p0_5 : Fld Z h5 p0 "com/example/read_model_projector/readmodelprojector/engine/Backoff" "longestMillis" "J" (.long w2) := F_longestMillis_p0.other W5 (Or.inr (slot_ne (Or.inr (hw _ (List.mem_of_getElem? (i := 20) rfl))) (Or.inl (hw _ (List.mem_of_getElem? (i := 18) rfl))) (by decide) (t := .long) (t' := .long) (by decide) (by decide)))
  have K_5 : Keep h0 h5 [p0] := K0.wr W5 (Or.inl (List.mem_of_getElem? (i := 0) rfl))
  have N5 := Fr.snoc X5 N4 g_p0
  have F_nextMillis_p0_5 : Fld Z h5 p0 "com/example/read_model_projector/readmodelprojector/engine/Backoff" "nextMillis" "J" (.long (fn1 ((2 : Int64) * w1) w2)) := F_nextMillis_p0.same W5
  refine own_step (T' := T5) (g' := (mkF m 24 #[.val (.ref p0), .val (.long w1), .second] [])) st5 ?_
  refine own_step (T' := T5) (g' := (mkF m 25 #[.val (.ref p0), .val (.long w1), .second] [(.long w1)])) (fun t k => XS.lloadN X5.here hx rfl (hb hby d5_24) rfl k) ?_
  refine own_retJ X5 hx hlk Bd.returns (hb hby d5_25) (by decide) (by decide) ?_
  rw [e5]
  exact ⟨rfl, N5, K_5, F_nextMillis_p0_5, F_longestMillis_p0_5⟩

theorem own_bm64 {n : Int} (h1 : -2 ^ 63 ≤ n) (h2 : n < 2 ^ 63) : n.bmod (2 ^ 64) = n := Int.bmod_eq_of_le (by omega) (by omega)
theorem own_min (x y : Int64) : (fn1 x y).toInt = min x.toInt y.toInt := by
  unfold fn1
  split
  · rename_i q; rw [Int64.lt_iff_toInt_lt] at q; omega
  · rename_i q; rw [Int64.lt_iff_toInt_lt] at q; omega
theorem own_max (x y : Int64) : (fn2 x y).toInt = max x.toInt y.toInt := by
  unfold fn2
  split
  · rename_i q; rw [Int64.lt_iff_toInt_lt] at q; omega
  · rename_i q; rw [Int64.lt_iff_toInt_lt] at q; omega
theorem own_dbl (w : Int64) (h1 : 0 ≤ w.toInt) (h2 : w.toInt < 2 ^ 62) : ((2 : Int64) * w).toInt = 2 * w.toInt := by
  have e2 : (2 : Int64).toInt = 2 := by decide
  rw [Int64.toInt_mul, e2]; exact own_bm64 (by omega) (by omega)
theorem own_land (a : Int64) : 0 ≤ (a &&& 4611686018427387903).toInt ∧ (a &&& 4611686018427387903).toInt < 2 ^ 62 := by
  have h : (a &&& 4611686018427387903).toBitVec.toNat ≤ 4611686018427387903 := by
    rw [Int64.toBitVec_and, BitVec.toNat_and]; exact Nat.and_le_right
  have e : (a &&& 4611686018427387903).toInt = ((a &&& 4611686018427387903).toBitVec.toNat : Int) := by
    show (a &&& 4611686018427387903).toBitVec.toInt = _
    rw [BitVec.toInt_eq_toNat_cond, if_pos (by omega)]
  omega
theorem own_ushr (x k : Int64) (h1 : 0 ≤ x.toInt) (h2 : x.toInt < 2 ^ 62) : 0 ≤ (x.toUInt64 >>> k.toUInt64).toInt64.toInt ∧ (x.toUInt64 >>> k.toUInt64).toInt64.toInt < 2 ^ 62 := by
  have hx : x.toBitVec.toNat < 2 ^ 62 := by
    have e : x.toInt = x.toBitVec.toInt := rfl
    rw [e, BitVec.toInt_eq_toNat_cond] at h1 h2
    split at h1 <;> omega
  have h : (x.toUInt64 >>> k.toUInt64).toInt64.toBitVec.toNat ≤ x.toBitVec.toNat := by
    show (x.toUInt64 >>> k.toUInt64).toNat ≤ x.toUInt64.toNat
    rw [UInt64.toNat_shiftRight, Nat.shiftRight_eq_div_pow]
    exact Nat.div_le_self _ _
  have e : (x.toUInt64 >>> k.toUInt64).toInt64.toInt = ((x.toUInt64 >>> k.toUInt64).toInt64.toBitVec.toNat : Int) := by
    show (x.toUInt64 >>> k.toUInt64).toInt64.toBitVec.toInt = _
    rw [BitVec.toInt_eq_toNat_cond, if_pos (by omega)]
  omega
theorem own_nx {f l w : Int64} {k : Nat} (h0 : 0 ≤ f.toInt) (hfl : f.toInt ≤ l.toInt) (hl : l.toInt < 2 ^ 62) (hw : w.toInt = min (f.toInt * 2 ^ k) l.toInt) : (fn1 ((2 : Int64) * w) l).toInt = min (f.toInt * 2 ^ (k + 1)) l.toInt := by
  have hA : 0 ≤ f.toInt * 2 ^ k := Int.mul_nonneg h0 (Int.pow_nonneg (by decide))
  have e2 : f.toInt * 2 ^ (k + 1) = 2 * (f.toInt * 2 ^ k) := by rw [Int.pow_succ]; rw [← Int.mul_assoc, Int.mul_comm]
  rw [own_min, own_dbl w (by omega) (by omega), e2, hw]
  generalize f.toInt * 2 ^ k = A at *
  omega
theorem own_fin {f l w n : Int64} {k : Nat} (hn : (n.toBitVec.smod 64).toNat = k) (h0 : 0 ≤ f.toInt) (hfl : f.toInt ≤ l.toInt) (hl : l.toInt < 2 ^ 62) (hw : w.toInt = min (f.toInt * 2 ^ k) l.toInt) : w = if (l >>> n) < f then l else (f <<< n) := by
  have hA : 0 ≤ f.toInt * 2 ^ k := Int.mul_nonneg h0 (Int.pow_nonneg (by decide))
  have hp : (0 : Int) < 2 ^ k := Int.pow_pos (by decide)
  apply Int64.toInt_inj.mp
  split
  · rename_i q
    rw [Int64.lt_iff_toInt_lt, Jvm.Kit.i64_shr l n hn, Int.ediv_lt_iff_lt_mul hp] at q
    omega
  · rename_i q
    rw [Int64.lt_iff_toInt_lt, Jvm.Kit.i64_shr l n hn, Int.ediv_lt_iff_lt_mul hp] at q
    rw [Jvm.Kit.i64_shl f n hn (by omega) (by omega)]
    omega
theorem own_start (a b : Int64) (k v1 v2 v4 v6 : Int64) (h1 : ((a &&& 4611686018427387903).toUInt64 >>> k.toUInt64).toInt64 = v1) (h2 : (b &&& 4611686018427387903) = v2) (h4 : fn1 v1 v2 = v4) (h6 : fn2 v1 v2 = v6) : 0 ≤ v4.toInt ∧ v4.toInt ≤ v6.toInt ∧ v6.toInt < 2 ^ 62 := by
  have q1 := own_ushr (a &&& 4611686018427387903) k (own_land a).1 (own_land a).2
  have q2 := own_land b
  rw [h1] at q1
  rw [h2] at q2
  have e4 := own_min v1 v2
  have e6 := own_max v1 v2
  rw [h4] at e4
  rw [h6] at e6
  omega
theorem ef_rm0 (m : MethodId) (x0 : Int64) (x1 : Int64) (x2 : Int32) : entryFrame m #[(.long x0), (.long x1), (.int x2)] maxLocals = mkF m 0 #[.val (.long x0), .second, .val (.long x1), .second, .val (.int x2), .unset, .unset, .unset, .unset, .unset, .unset, .unset, .unset, .unset, .unset, .unset, .unset, .unset, .unset, .unset, .unset, .unset, .unset, .unset] [] := by first | (simp [entryFrame, mkF, argsToLocals, Value.category, maxLocals]; done) | rfl
def Qrm0 (Z : State) (p0 : Int64) (p1 : Int64) (p2 : Int32) (h0 : Heap) (n0 : Nat) (v : Option Value) (h : Heap) (L : List Loc) : Prop := v = some (.int (1 : Int32)) ∧ Fr n0 L
set_option maxRecDepth 65536 in
set_option maxHeartbeats 40000000 in
theorem rm0 (l : Launch) (Z : State) (a0 : Array Value) (hw : ∀ d ∈ tables_1, d.before a0 Z = true) (ws : List Jvm.Cond) (p0 : Int64) (p1 : Int64) (p2 : Int32) (h0 : Heap) (n0 : Nat) (Z0 : n0 ≤ h0.size) :
    MetFree l x (head1 (Jvm.Cond.code x code maxLocals ret :: ws) room_1) (fun a U => a = #[(.long p0), (.long p1), (.int p2)] ∧ Z.Warmed39 U.vm ∧ U.heap = h0) (fun _ _ _ _ _ => True) (fun _ U o U' => ∃ v L, o = .returned v ∧ Qrm0 Z p0 p1 p2 h0 n0 v U'.heap L ∧ FrameEnd U o U' L 1 2) := by
  refine MetFree.of_bodySF (plainFor_of_name pn_0) hisR ?_
  intro p e s m args below meth c s₁ Bd hml0 hP hK
  obtain ⟨rfl, hZ, hh⟩ := hP
  have hx := Bd.exec
  have hby := Bd.bytes
  have hlk : meth.locks = false := BodyLoose.notSynchronized Bd
  have hml : c.maxLocals = 24 := hml0
  have hown : s.vm.findClass "com/example/read_model_projector/readmodelprojector/engine/BackoffNextPinLaw" = some m.cls := findClass_of_methodNamed Bd.named
  have hnm := (name_of_methodNamed Bd.named Bd.method).1
  have X0 : Stand p l e room_1 s m #[(.long p0), (.long p1), (.int p2)] below meth c s₁ [] 0 0 := Stand.of_body Bd
  have e0 : s₁.heap = h0 := by rw [← hh, Bd.state]; rfl
  have N0 := Fr.nil n0
  have K0 : Keep h0 h0 [] := Keep.refl h0 []
  show own_G p e below s 1 2 (Qrm0 Z p0 p1 p2 h0 n0) s₁ (entryFrame m #[(.long p0), (.long p1), (.int p2)] maxLocals)
  rw [ef_rm0 m p0 p1 p2]
  refine own_step (T' := s₁) (g' := (mkF m 1 #[.val (.long p0), .second, .val (.long p1), .second, .val (.int p2), .unset, .unset, .unset, .unset, .unset, .unset, .unset, .unset, .unset, .unset, .unset, .unset, .unset, .unset, .unset, .unset, .unset, .unset, .unset] [(.long p0)])) (fun t k => XS.lloadN X0.here hx rfl (hb hby at_0) rfl k) ?_
  refine own_step (T' := s₁) (g' := (mkF m 4 #[.val (.long p0), .second, .val (.long p1), .second, .val (.int p2), .unset, .unset, .unset, .unset, .unset, .unset, .unset, .unset, .unset, .unset, .unset, .unset, .unset, .unset, .unset, .unset, .unset, .unset, .unset] [(.long (4611686018427387903 : Int64)), (.long p0)])) (fun t k => X0.ldc2Long hx hown (mvT hZ (hw _ (List.mem_of_getElem? (i := 0) rfl))) (g := (mkF m 1 #[.val (.long p0), .second, .val (.long p1), .second, .val (.int p2), .unset, .unset, .unset, .unset, .unset, .unset, .unset, .unset, .unset, .unset, .unset, .unset, .unset, .unset, .unset, .unset, .unset, .unset, .unset] [(.long p0)])) rfl (hb hby at_1) t k) ?_
  refine own_step (T' := s₁) (g' := (mkF m 5 #[.val (.long p0), .second, .val (.long p1), .second, .val (.int p2), .unset, .unset, .unset, .unset, .unset, .unset, .unset, .unset, .unset, .unset, .unset, .unset, .unset, .unset, .unset, .unset, .unset, .unset, .unset] [(.long (p0 &&& (4611686018427387903 : Int64)))])) (fun t k => XS.land X0.here hx rfl (hb hby at_4) rfl k) ?_
  refine own_step (T' := s₁) (g' := (mkF m 7 #[.val (.long p0), .second, .val (.long p1), .second, .val (.int p2), .unset, .unset, .unset, .unset, .unset, .unset, .unset, .unset, .unset, .unset, .unset, .unset, .unset, .unset, .unset, .unset, .unset, .unset, .unset] [(.int p2), (.long (p0 &&& (4611686018427387903 : Int64)))])) (fun t k => XS.iload X0.here hx rfl (hb hby at_5) rfl k) ?_
  refine own_step (T' := s₁) (g' := (mkF m 9 #[.val (.long p0), .second, .val (.long p1), .second, .val (.int p2), .unset, .unset, .unset, .unset, .unset, .unset, .unset, .unset, .unset, .unset, .unset, .unset, .unset, .unset, .unset, .unset, .unset, .unset, .unset] [(.int (63 : Int32)), (.int p2), (.long (p0 &&& (4611686018427387903 : Int64)))])) (fun t k => XS.bipush X0.here hx rfl (hb hby at_7) k) ?_
  refine own_step (T' := s₁) (g' := (mkF m 10 #[.val (.long p0), .second, .val (.long p1), .second, .val (.int p2), .unset, .unset, .unset, .unset, .unset, .unset, .unset, .unset, .unset, .unset, .unset, .unset, .unset, .unset, .unset, .unset, .unset, .unset, .unset] [(.int (p2 &&& (63 : Int32))), (.long (p0 &&& (4611686018427387903 : Int64)))])) (fun t k => XS.iand X0.here hx rfl (hb hby at_9) rfl k) ?_
  refine own_step (T' := s₁) (g' := (mkF m 11 #[.val (.long p0), .second, .val (.long p1), .second, .val (.int p2), .unset, .unset, .unset, .unset, .unset, .unset, .unset, .unset, .unset, .unset, .unset, .unset, .unset, .unset, .unset, .unset, .unset, .unset, .unset] [(.long ((p0 &&& (4611686018427387903 : Int64)).toUInt64 >>> ((p2 &&& (63 : Int32)) &&& 0x3f).toInt64.toUInt64).toInt64)])) (fun t k => XS.lushr X0.here hx rfl (hb hby at_10) rfl k) ?_
  generalize hv1 : ((p0 &&& (4611686018427387903 : Int64)).toUInt64 >>> ((p2 &&& (63 : Int32)) &&& 0x3f).toInt64.toUInt64).toInt64 = v1
  refine own_step (T' := s₁) (g' := (mkF m 13 #[.val (.long p0), .second, .val (.long p1), .second, .val (.int p2), .val (.long v1), .second, .unset, .unset, .unset, .unset, .unset, .unset, .unset, .unset, .unset, .unset, .unset, .unset, .unset, .unset, .unset, .unset, .unset] [])) (fun t k => XS.lstore X0.here hx rfl (hb hby at_11) rfl (l' := #[.val (.long p0), .second, .val (.long p1), .second, .val (.int p2), .val (.long v1), .second, .unset, .unset, .unset, .unset, .unset, .unset, .unset, .unset, .unset, .unset, .unset, .unset, .unset, .unset, .unset, .unset, .unset]) rfl k) ?_
  refine own_step (T' := s₁) (g' := (mkF m 14 #[.val (.long p0), .second, .val (.long p1), .second, .val (.int p2), .val (.long v1), .second, .unset, .unset, .unset, .unset, .unset, .unset, .unset, .unset, .unset, .unset, .unset, .unset, .unset, .unset, .unset, .unset, .unset] [(.long p1)])) (fun t k => XS.lloadN X0.here hx rfl (hb hby at_13) rfl k) ?_
  refine own_step (T' := s₁) (g' := (mkF m 17 #[.val (.long p0), .second, .val (.long p1), .second, .val (.int p2), .val (.long v1), .second, .unset, .unset, .unset, .unset, .unset, .unset, .unset, .unset, .unset, .unset, .unset, .unset, .unset, .unset, .unset, .unset, .unset] [(.long (4611686018427387903 : Int64)), (.long p1)])) (fun t k => X0.ldc2Long hx hown (mvT hZ (hw _ (List.mem_of_getElem? (i := 0) rfl))) (g := (mkF m 14 #[.val (.long p0), .second, .val (.long p1), .second, .val (.int p2), .val (.long v1), .second, .unset, .unset, .unset, .unset, .unset, .unset, .unset, .unset, .unset, .unset, .unset, .unset, .unset, .unset, .unset, .unset, .unset] [(.long p1)])) rfl (hb hby at_14) t k) ?_
  refine own_step (T' := s₁) (g' := (mkF m 18 #[.val (.long p0), .second, .val (.long p1), .second, .val (.int p2), .val (.long v1), .second, .unset, .unset, .unset, .unset, .unset, .unset, .unset, .unset, .unset, .unset, .unset, .unset, .unset, .unset, .unset, .unset, .unset] [(.long (p1 &&& (4611686018427387903 : Int64)))])) (fun t k => XS.land X0.here hx rfl (hb hby at_17) rfl k) ?_
  generalize hv2 : (p1 &&& (4611686018427387903 : Int64)) = v2
  refine own_step (T' := s₁) (g' := (mkF m 20 #[.val (.long p0), .second, .val (.long p1), .second, .val (.int p2), .val (.long v1), .second, .val (.long v2), .second, .unset, .unset, .unset, .unset, .unset, .unset, .unset, .unset, .unset, .unset, .unset, .unset, .unset, .unset, .unset] [])) (fun t k => XS.lstore X0.here hx rfl (hb hby at_18) rfl (l' := #[.val (.long p0), .second, .val (.long p1), .second, .val (.int p2), .val (.long v1), .second, .val (.long v2), .second, .unset, .unset, .unset, .unset, .unset, .unset, .unset, .unset, .unset, .unset, .unset, .unset, .unset, .unset, .unset]) rfl k) ?_
  refine own_step (T' := s₁) (g' := (mkF m 22 #[.val (.long p0), .second, .val (.long p1), .second, .val (.int p2), .val (.long v1), .second, .val (.long v2), .second, .unset, .unset, .unset, .unset, .unset, .unset, .unset, .unset, .unset, .unset, .unset, .unset, .unset, .unset, .unset] [(.long v1)])) (fun t k => XS.lload X0.here hx rfl (hb hby at_20) rfl k) ?_
  refine own_step (T' := s₁) (g' := (mkF m 24 #[.val (.long p0), .second, .val (.long p1), .second, .val (.int p2), .val (.long v1), .second, .val (.long v2), .second, .unset, .unset, .unset, .unset, .unset, .unset, .unset, .unset, .unset, .unset, .unset, .unset, .unset, .unset, .unset] [(.long v2), (.long v1)])) (fun t k => XS.lload X0.here hx rfl (hb hby at_22) rfl k) ?_
  obtain ⟨_, _, ⟨T3, L3, kk3, nn3⟩, -, X3, ⟨Lc3, hQ3, l3, y3, z3⟩, st3⟩ := Jvm.LawKit.callS X0 hx (y := (⟨"java/lang/Math", "min", "(JJ)J"⟩ : MethodName)) hown (mvT hZ (hw _ (List.mem_of_getElem? (i := 1) rfl))) (mvT hZ (hw _ (List.mem_of_getElem? (i := 2) rfl))) (mvT hZ (hw _ (List.mem_of_getElem? (i := 3) rfl))) (mvT hZ (hw _ (List.mem_of_getElem? (i := 4) rfl))) (by decide) (backOf (W := 0) (rm1 l Z a0 hw [] v1 v2 h0 n0 (Nat.le_trans Z0 K0.1) ) hZ (hw _ (List.mem_of_getElem? (i := 4) rfl)) (hw _ (List.mem_of_getElem? (i := 3) rfl)) (by decide) (by decide)) (g := (mkF m 24 #[.val (.long p0), .second, .val (.long p1), .second, .val (.int p2), .val (.long v1), .second, .val (.long v2), .second, .unset, .unset, .unset, .unset, .unset, .unset, .unset, .unset, .unset, .unset, .unset, .unset, .unset, .unset, .unset] [(.long v2), (.long v1)])) rfl (by rw [hml]; rfl) (argsL := [(.long v1), (.long v2)]) (rest := []) (lenOf pd_0 rfl) rfl (by show 2 * 0 + _ ≤ _; exact Nat.le_of_eq rfl) (hb hby at_24) (fun _ _ => ⟨rfl, e0, (by decide : 0 + 0 ≤ _), (by decide : 0 + 0 ≤ _)⟩)
  dsimp only [Pt.U, Pt.locs, Pt.cells, Pt.slots] at X3 l3 y3 z3 st3 hQ3
  subst l3 y3 z3
  obtain ⟨rfl, N3q, eq3⟩ := hQ3
  have N3 := Fr.app N0 N3q
  refine own_step (T' := T3) (g' := (mkF m 27 #[.val (.long p0), .second, .val (.long p1), .second, .val (.int p2), .val (.long v1), .second, .val (.long v2), .second, .unset, .unset, .unset, .unset, .unset, .unset, .unset, .unset, .unset, .unset, .unset, .unset, .unset, .unset, .unset] [(.long (fn1 v1 v2))])) st3 ?_
  generalize hv4 : (fn1 v1 v2) = v4
  refine own_step (T' := T3) (g' := (mkF m 29 #[.val (.long p0), .second, .val (.long p1), .second, .val (.int p2), .val (.long v1), .second, .val (.long v2), .second, .val (.long v4), .second, .unset, .unset, .unset, .unset, .unset, .unset, .unset, .unset, .unset, .unset, .unset, .unset, .unset] [])) (fun t k => XS.lstore X3.here hx rfl (hb hby at_27) rfl (l' := #[.val (.long p0), .second, .val (.long p1), .second, .val (.int p2), .val (.long v1), .second, .val (.long v2), .second, .val (.long v4), .second, .unset, .unset, .unset, .unset, .unset, .unset, .unset, .unset, .unset, .unset, .unset, .unset, .unset]) rfl k) ?_
  refine own_step (T' := T3) (g' := (mkF m 31 #[.val (.long p0), .second, .val (.long p1), .second, .val (.int p2), .val (.long v1), .second, .val (.long v2), .second, .val (.long v4), .second, .unset, .unset, .unset, .unset, .unset, .unset, .unset, .unset, .unset, .unset, .unset, .unset, .unset] [(.long v1)])) (fun t k => XS.lload X3.here hx rfl (hb hby at_29) rfl k) ?_
  refine own_step (T' := T3) (g' := (mkF m 33 #[.val (.long p0), .second, .val (.long p1), .second, .val (.int p2), .val (.long v1), .second, .val (.long v2), .second, .val (.long v4), .second, .unset, .unset, .unset, .unset, .unset, .unset, .unset, .unset, .unset, .unset, .unset, .unset, .unset] [(.long v2), (.long v1)])) (fun t k => XS.lload X3.here hx rfl (hb hby at_31) rfl k) ?_
  obtain ⟨_, _, ⟨T5, L5, kk5, nn5⟩, -, X5, ⟨Lc5, hQ5, l5, y5, z5⟩, st5⟩ := Jvm.LawKit.callS X3 hx (y := (⟨"java/lang/Math", "max", "(JJ)J"⟩ : MethodName)) hown (mvT hZ (hw _ (List.mem_of_getElem? (i := 5) rfl))) (mvT hZ (hw _ (List.mem_of_getElem? (i := 6) rfl))) (mvT hZ (hw _ (List.mem_of_getElem? (i := 3) rfl))) (mvT hZ (hw _ (List.mem_of_getElem? (i := 7) rfl))) (by decide) (backOf (W := 0) (rm2 l Z a0 hw [] v1 v2 h0 n0 (Nat.le_trans Z0 K0.1) ) hZ (hw _ (List.mem_of_getElem? (i := 7) rfl)) (hw _ (List.mem_of_getElem? (i := 3) rfl)) (by decide) (by decide)) (g := (mkF m 33 #[.val (.long p0), .second, .val (.long p1), .second, .val (.int p2), .val (.long v1), .second, .val (.long v2), .second, .val (.long v4), .second, .unset, .unset, .unset, .unset, .unset, .unset, .unset, .unset, .unset, .unset, .unset, .unset, .unset] [(.long v2), (.long v1)])) rfl (by rw [hml]; rfl) (argsL := [(.long v1), (.long v2)]) (rest := []) (lenOf pd_0 rfl) rfl (by show 2 * 0 + _ ≤ _; exact Nat.le_of_eq rfl) (hb hby at_33) (fun _ _ => ⟨rfl, eq3, (by decide : 0 + 0 ≤ _), (by decide : 0 + 0 ≤ _)⟩)
  dsimp only [Pt.U, Pt.locs, Pt.cells, Pt.slots] at X5 l5 y5 z5 st5 hQ5
  subst l5 y5 z5
  obtain ⟨rfl, N5q, eq5⟩ := hQ5
  have N5 := Fr.app N3 N5q
  refine own_step (T' := T5) (g' := (mkF m 36 #[.val (.long p0), .second, .val (.long p1), .second, .val (.int p2), .val (.long v1), .second, .val (.long v2), .second, .val (.long v4), .second, .unset, .unset, .unset, .unset, .unset, .unset, .unset, .unset, .unset, .unset, .unset, .unset, .unset] [(.long (fn2 v1 v2))])) st5 ?_
  generalize hv6 : (fn2 v1 v2) = v6
  refine own_step (T' := T5) (g' := (mkF m 38 #[.val (.long p0), .second, .val (.long p1), .second, .val (.int p2), .val (.long v1), .second, .val (.long v2), .second, .val (.long v4), .second, .val (.long v6), .second, .unset, .unset, .unset, .unset, .unset, .unset, .unset, .unset, .unset, .unset, .unset] [])) (fun t k => XS.lstore X5.here hx rfl (hb hby at_36) rfl (l' := #[.val (.long p0), .second, .val (.long p1), .second, .val (.int p2), .val (.long v1), .second, .val (.long v2), .second, .val (.long v4), .second, .val (.long v6), .second, .unset, .unset, .unset, .unset, .unset, .unset, .unset, .unset, .unset, .unset, .unset]) rfl k) ?_
  have hbb := own_start p0 p1 _ _ _ _ _ hv1 hv2 hv4 hv6
  obtain ⟨T7, h7, X7, e7, E7, A7, D7, -, st7⟩ := newO X5 hx hZ hown (hw _ (List.mem_of_getElem? (i := 8) rfl)) (hw _ (List.mem_of_getElem? (i := 9) rfl)) (hw _ (List.mem_of_getElem? (i := 10) rfl)) eq5 (g := (mkF m 38 #[.val (.long p0), .second, .val (.long p1), .second, .val (.int p2), .val (.long v1), .second, .val (.long v2), .second, .val (.long v4), .second, .val (.long v6), .second, .unset, .unset, .unset, .unset, .unset, .unset, .unset, .unset, .unset, .unset, .unset] [])) rfl (hb hby at_38) (by decide) (by decide)
  obtain ⟨b7, g7⟩ : ∃ z, z = h0.size := ⟨_, rfl⟩
  rw [← g7] at A7 D7 st7
  have K_7 : Keep h0 h7 [] := K0.ext E7
  have sz_b7 : h0.size ≤ b7 := Nat.le_trans K0.1 (Nat.le_of_eq g7.symm)
  have g_b7 : n0 ≤ b7 := Nat.le_trans Z0 sz_b7
  have E_b7 : Exa Z h7 b7 "com/example/read_model_projector/readmodelprojector/engine/Backoff" := A7
  have F_nextMillis_b7 : Fld Z h7 b7 "com/example/read_model_projector/readmodelprojector/engine/Backoff" "nextMillis" "J" (.long (0 : Int64)) := D7 (Or.inl (hw _ (List.mem_of_getElem? (i := 18) rfl))) (ty := .long) (by decide)
  have F_longestMillis_b7 : Fld Z h7 b7 "com/example/read_model_projector/readmodelprojector/engine/Backoff" "longestMillis" "J" (.long (0 : Int64)) := D7 (Or.inr (hw _ (List.mem_of_getElem? (i := 20) rfl))) (ty := .long) (by decide)
  refine own_step (T' := T7) (g' := (mkF m 41 #[.val (.long p0), .second, .val (.long p1), .second, .val (.int p2), .val (.long v1), .second, .val (.long v2), .second, .val (.long v4), .second, .val (.long v6), .second, .unset, .unset, .unset, .unset, .unset, .unset, .unset, .unset, .unset, .unset, .unset] [(.ref b7)])) st7 ?_
  refine own_step (T' := T7) (g' := (mkF m 42 #[.val (.long p0), .second, .val (.long p1), .second, .val (.int p2), .val (.long v1), .second, .val (.long v2), .second, .val (.long v4), .second, .val (.long v6), .second, .unset, .unset, .unset, .unset, .unset, .unset, .unset, .unset, .unset, .unset, .unset] [(.ref b7), (.ref b7)])) (fun t k => XS.dup X7.here hx rfl (hb hby at_41) rfl rfl k) ?_
  refine own_step (T' := T7) (g' := (mkF m 44 #[.val (.long p0), .second, .val (.long p1), .second, .val (.int p2), .val (.long v1), .second, .val (.long v2), .second, .val (.long v4), .second, .val (.long v6), .second, .unset, .unset, .unset, .unset, .unset, .unset, .unset, .unset, .unset, .unset, .unset] [(.long v4), (.ref b7), (.ref b7)])) (fun t k => XS.lload X7.here hx rfl (hb hby at_42) rfl k) ?_
  refine own_step (T' := T7) (g' := (mkF m 46 #[.val (.long p0), .second, .val (.long p1), .second, .val (.int p2), .val (.long v1), .second, .val (.long v2), .second, .val (.long v4), .second, .val (.long v6), .second, .unset, .unset, .unset, .unset, .unset, .unset, .unset, .unset, .unset, .unset, .unset] [(.long v6), (.long v4), (.ref b7), (.ref b7)])) (fun t k => XS.lload X7.here hx rfl (hb hby at_44) rfl k) ?_
  obtain ⟨_, _, ⟨T8, L8, kk8, nn8⟩, -, X8, ⟨Lc8, hQ8, l8, y8, z8⟩, st8⟩ := X7.specialBack hx (y := (⟨"com/example/read_model_projector/readmodelprojector/engine/Backoff", "<init>", "(JJ)V"⟩ : MethodName)) rfl hown (mvT hZ (hw _ (List.mem_of_getElem? (i := 11) rfl))) (mvT hZ (hw _ (List.mem_of_getElem? (i := 12) rfl))) (mvT hZ (hw _ (List.mem_of_getElem? (i := 13) rfl))) (by decide) (backOf (W := 1) (rm3 l Z a0 hw [] b7 v4 v6 h7 n0 (Nat.le_trans Z0 K_7.1) E_b7 F_nextMillis_b7 F_longestMillis_b7 g_b7) hZ (hw _ (List.mem_of_getElem? (i := 13) rfl)) (hw _ (List.mem_of_getElem? (i := 10) rfl)) (by decide) (by decide)) (g := (mkF m 46 #[.val (.long p0), .second, .val (.long p1), .second, .val (.int p2), .val (.long v1), .second, .val (.long v2), .second, .val (.long v4), .second, .val (.long v6), .second, .unset, .unset, .unset, .unset, .unset, .unset, .unset, .unset, .unset, .unset, .unset] [(.long v6), (.long v4), (.ref b7), (.ref b7)])) rfl (by rw [hml]; rfl) (Steps.refl _) (a := b7) (argsL := [(.long v4), (.long v6)]) (rest := [(.ref b7)]) (lenOf pd_1 rfl) rfl (by show 2 * 0 + _ ≤ _; exact Nat.le_of_eq rfl) (hb hby at_46) (fun _ _ => ⟨rfl, e7, (by decide : 1 + 0 ≤ _), (by decide : 2 + 0 ≤ _)⟩)
  dsimp only [Pt.U, Pt.locs, Pt.cells, Pt.slots] at X8 l8 y8 z8 st8 hQ8
  subst l8 y8 z8
  obtain ⟨rfl, N8q, Kq8, pq8_0, pq8_1⟩ := hQ8
  have N8 := Fr.app N5 N8q
  have E_b7_8 : Exa Z T8.heap b7 "com/example/read_model_projector/readmodelprojector/engine/Backoff" := E_b7.keep Kq8
  have K_8 : Keep h0 T8.heap [] := K_7.trans Kq8 (allS (Or.inr sz_b7) all0)
  refine own_step (T' := T8) (g' := (mkF m 49 #[.val (.long p0), .second, .val (.long p1), .second, .val (.int p2), .val (.long v1), .second, .val (.long v2), .second, .val (.long v4), .second, .val (.long v6), .second, .unset, .unset, .unset, .unset, .unset, .unset, .unset, .unset, .unset, .unset, .unset] [(.ref b7)])) (fun t k => st8.trans k) ?_
  refine own_step (T' := T8) (g' := (mkF m 51 #[.val (.long p0), .second, .val (.long p1), .second, .val (.int p2), .val (.long v1), .second, .val (.long v2), .second, .val (.long v4), .second, .val (.long v6), .second, .val (.ref b7), .unset, .unset, .unset, .unset, .unset, .unset, .unset, .unset, .unset, .unset] [])) (fun t k => XS.astore X8.here hx rfl (hb hby at_49) rfl rfl (l' := #[.val (.long p0), .second, .val (.long p1), .second, .val (.int p2), .val (.long v1), .second, .val (.long v2), .second, .val (.long v4), .second, .val (.long v6), .second, .val (.ref b7), .unset, .unset, .unset, .unset, .unset, .unset, .unset, .unset, .unset, .unset]) rfl k) ?_
  refine own_step (T' := T8) (g' := (mkF m 53 #[.val (.long p0), .second, .val (.long p1), .second, .val (.int p2), .val (.long v1), .second, .val (.long v2), .second, .val (.long v4), .second, .val (.long v6), .second, .val (.ref b7), .unset, .unset, .unset, .unset, .unset, .unset, .unset, .unset, .unset, .unset] [(.ref b7)])) (fun t k => XS.aload X8.here hx rfl (hb hby at_51) rfl rfl k) ?_
  obtain ⟨cq9, kq9, qq9a, qq9b, qq9c⟩ := isOf hZ rfl E_b7_8
  obtain ⟨_, _, ⟨T9, L9, kk9, nn9⟩, -, X9, ⟨Lc9, hQ9, l9, y9, z9⟩, st9⟩ := X8.virtualBack hx (y := (⟨"com/example/read_model_projector/readmodelprojector/engine/Backoff", "next", "()J"⟩ : MethodName)) (z := (⟨"com/example/read_model_projector/readmodelprojector/engine/Backoff", "next", "()J"⟩ : MethodName)) hown (mvT hZ (hw _ (List.mem_of_getElem? (i := 21) rfl))) (mvT hZ (hw _ (List.mem_of_getElem? (i := 22) rfl))) (notFace_of_selects (args := #[]) (mvT hZ (hw _ (List.mem_of_getElem? (i := 24) rfl)))) (mvT hZ (hw _ (List.mem_of_getElem? (i := 24) rfl))) (mvT hZ (hw _ (List.mem_of_getElem? (i := 23) rfl))) (by decide) (backOf (W := 0) (rm5 l Z a0 hw [] b7 v4 v6 T8.heap n0 (Nat.le_trans Z0 K_8.1) E_b7_8 pq8_0 pq8_1 g_b7) hZ (hw _ (List.mem_of_getElem? (i := 25) rfl)) (hw _ (List.mem_of_getElem? (i := 10) rfl)) (by decide) (by decide)) qq9a qq9c (g := (mkF m 53 #[.val (.long p0), .second, .val (.long p1), .second, .val (.int p2), .val (.long v1), .second, .val (.long v2), .second, .val (.long v4), .second, .val (.long v6), .second, .val (.ref b7), .unset, .unset, .unset, .unset, .unset, .unset, .unset, .unset, .unset, .unset] [(.ref b7)])) rfl (by rw [hml]; rfl) (Steps.refl _) (argsL := []) (rest := []) (lenOf pd_3 rfl) rfl (by show 2 * 0 + _ ≤ _; exact Nat.le_of_eq rfl) (hb hby at_53) (fun _ _ => ⟨rfl, rfl, (by decide : 1 + 0 ≤ _), (by decide : 2 + 0 ≤ _)⟩)
  dsimp only [Pt.U, Pt.locs, Pt.cells, Pt.slots] at X9 l9 y9 z9 st9 hQ9
  subst l9 y9 z9
  obtain ⟨rfl, N9q, Kq9, pq9_0, pq9_1⟩ := hQ9
  have N9 := Fr.app N8 N9q
  have E_b7_9 : Exa Z T9.heap b7 "com/example/read_model_projector/readmodelprojector/engine/Backoff" := E_b7_8.keep Kq9
  have K_9 : Keep h0 T9.heap [] := K_8.trans Kq9 (allS (Or.inr sz_b7) all0)
  refine own_step (T' := T9) (g' := (mkF m 56 #[.val (.long p0), .second, .val (.long p1), .second, .val (.int p2), .val (.long v1), .second, .val (.long v2), .second, .val (.long v4), .second, .val (.long v6), .second, .val (.ref b7), .unset, .unset, .unset, .unset, .unset, .unset, .unset, .unset, .unset, .unset] [(.long v4)])) (fun t k => st9.trans k) ?_
  refine own_step (T' := T9) (g' := (mkF m 58 #[.val (.long p0), .second, .val (.long p1), .second, .val (.int p2), .val (.long v1), .second, .val (.long v2), .second, .val (.long v4), .second, .val (.long v6), .second, .val (.ref b7), .val (.long v4), .second, .unset, .unset, .unset, .unset, .unset, .unset, .unset, .unset] [])) (fun t k => XS.lstore X9.here hx rfl (hb hby at_56) rfl (l' := #[.val (.long p0), .second, .val (.long p1), .second, .val (.int p2), .val (.long v1), .second, .val (.long v2), .second, .val (.long v4), .second, .val (.long v6), .second, .val (.ref b7), .val (.long v4), .second, .unset, .unset, .unset, .unset, .unset, .unset, .unset, .unset]) rfl k) ?_
  refine own_step (T' := T9) (g' := (mkF m 60 #[.val (.long p0), .second, .val (.long p1), .second, .val (.int p2), .val (.long v1), .second, .val (.long v2), .second, .val (.long v4), .second, .val (.long v6), .second, .val (.ref b7), .val (.long v4), .second, .unset, .unset, .unset, .unset, .unset, .unset, .unset, .unset] [(.ref b7)])) (fun t k => XS.aload X9.here hx rfl (hb hby at_58) rfl rfl k) ?_
  obtain ⟨cq10, kq10, qq10a, qq10b, qq10c⟩ := isOf hZ rfl E_b7_9
  obtain ⟨_, _, ⟨T10, L10, kk10, nn10⟩, -, X10, ⟨Lc10, hQ10, l10, y10, z10⟩, st10⟩ := X9.virtualBack hx (y := (⟨"com/example/read_model_projector/readmodelprojector/engine/Backoff", "next", "()J"⟩ : MethodName)) (z := (⟨"com/example/read_model_projector/readmodelprojector/engine/Backoff", "next", "()J"⟩ : MethodName)) hown (mvT hZ (hw _ (List.mem_of_getElem? (i := 21) rfl))) (mvT hZ (hw _ (List.mem_of_getElem? (i := 22) rfl))) (notFace_of_selects (args := #[]) (mvT hZ (hw _ (List.mem_of_getElem? (i := 24) rfl)))) (mvT hZ (hw _ (List.mem_of_getElem? (i := 24) rfl))) (mvT hZ (hw _ (List.mem_of_getElem? (i := 23) rfl))) (by decide) (backOf (W := 0) (rm5 l Z a0 hw [] b7 (fn1 ((2 : Int64) * v4) v6) v6 T9.heap n0 (Nat.le_trans Z0 K_9.1) E_b7_9 pq9_0 pq9_1 g_b7) hZ (hw _ (List.mem_of_getElem? (i := 25) rfl)) (hw _ (List.mem_of_getElem? (i := 10) rfl)) (by decide) (by decide)) qq10a qq10c (g := (mkF m 60 #[.val (.long p0), .second, .val (.long p1), .second, .val (.int p2), .val (.long v1), .second, .val (.long v2), .second, .val (.long v4), .second, .val (.long v6), .second, .val (.ref b7), .val (.long v4), .second, .unset, .unset, .unset, .unset, .unset, .unset, .unset, .unset] [(.ref b7)])) rfl (by rw [hml]; rfl) (Steps.refl _) (argsL := []) (rest := []) (lenOf pd_3 rfl) rfl (by show 2 * 0 + _ ≤ _; exact Nat.le_of_eq rfl) (hb hby at_60) (fun _ _ => ⟨rfl, rfl, (by decide : 1 + 0 ≤ _), (by decide : 2 + 0 ≤ _)⟩)
  dsimp only [Pt.U, Pt.locs, Pt.cells, Pt.slots] at X10 l10 y10 z10 st10 hQ10
  subst l10 y10 z10
  obtain ⟨rfl, N10q, Kq10, pq10_0, pq10_1⟩ := hQ10
  have N10 := Fr.app N9 N10q
  have E_b7_10 : Exa Z T10.heap b7 "com/example/read_model_projector/readmodelprojector/engine/Backoff" := E_b7_9.keep Kq10
  have K_10 : Keep h0 T10.heap [] := K_9.trans Kq10 (allS (Or.inr sz_b7) all0)
  refine own_step (T' := T10) (g' := (mkF m 63 #[.val (.long p0), .second, .val (.long p1), .second, .val (.int p2), .val (.long v1), .second, .val (.long v2), .second, .val (.long v4), .second, .val (.long v6), .second, .val (.ref b7), .val (.long v4), .second, .unset, .unset, .unset, .unset, .unset, .unset, .unset, .unset] [(.long (fn1 ((2 : Int64) * v4) v6))])) (fun t k => st10.trans k) ?_
  generalize hv11 : (fn1 ((2 : Int64) * v4) v6) = v11
  refine own_step (T' := T10) (g' := (mkF m 65 #[.val (.long p0), .second, .val (.long p1), .second, .val (.int p2), .val (.long v1), .second, .val (.long v2), .second, .val (.long v4), .second, .val (.long v6), .second, .val (.ref b7), .val (.long v4), .second, .val (.long v11), .second, .unset, .unset, .unset, .unset, .unset, .unset] [])) (fun t k => XS.lstore X10.here hx rfl (hb hby at_63) rfl (l' := #[.val (.long p0), .second, .val (.long p1), .second, .val (.int p2), .val (.long v1), .second, .val (.long v2), .second, .val (.long v4), .second, .val (.long v6), .second, .val (.ref b7), .val (.long v4), .second, .val (.long v11), .second, .unset, .unset, .unset, .unset, .unset, .unset]) rfl k) ?_
  refine own_step (T' := T10) (g' := (mkF m 67 #[.val (.long p0), .second, .val (.long p1), .second, .val (.int p2), .val (.long v1), .second, .val (.long v2), .second, .val (.long v4), .second, .val (.long v6), .second, .val (.ref b7), .val (.long v4), .second, .val (.long v11), .second, .unset, .unset, .unset, .unset, .unset, .unset] [(.ref b7)])) (fun t k => XS.aload X10.here hx rfl (hb hby at_65) rfl rfl k) ?_
  obtain ⟨cq12, kq12, qq12a, qq12b, qq12c⟩ := isOf hZ rfl E_b7_10
  obtain ⟨_, _, ⟨T12, L12, kk12, nn12⟩, -, X12, ⟨Lc12, hQ12, l12, y12, z12⟩, st12⟩ := X10.virtualBack hx (y := (⟨"com/example/read_model_projector/readmodelprojector/engine/Backoff", "next", "()J"⟩ : MethodName)) (z := (⟨"com/example/read_model_projector/readmodelprojector/engine/Backoff", "next", "()J"⟩ : MethodName)) hown (mvT hZ (hw _ (List.mem_of_getElem? (i := 21) rfl))) (mvT hZ (hw _ (List.mem_of_getElem? (i := 22) rfl))) (notFace_of_selects (args := #[]) (mvT hZ (hw _ (List.mem_of_getElem? (i := 24) rfl)))) (mvT hZ (hw _ (List.mem_of_getElem? (i := 24) rfl))) (mvT hZ (hw _ (List.mem_of_getElem? (i := 23) rfl))) (by decide) (backOf (W := 0) (rm5 l Z a0 hw [] b7 (fn1 ((2 : Int64) * (fn1 ((2 : Int64) * v4) v6)) v6) v6 T10.heap n0 (Nat.le_trans Z0 K_10.1) E_b7_10 pq10_0 pq10_1 g_b7) hZ (hw _ (List.mem_of_getElem? (i := 25) rfl)) (hw _ (List.mem_of_getElem? (i := 10) rfl)) (by decide) (by decide)) qq12a qq12c (g := (mkF m 67 #[.val (.long p0), .second, .val (.long p1), .second, .val (.int p2), .val (.long v1), .second, .val (.long v2), .second, .val (.long v4), .second, .val (.long v6), .second, .val (.ref b7), .val (.long v4), .second, .val (.long v11), .second, .unset, .unset, .unset, .unset, .unset, .unset] [(.ref b7)])) rfl (by rw [hml]; rfl) (Steps.refl _) (argsL := []) (rest := []) (lenOf pd_3 rfl) rfl (by show 2 * 0 + _ ≤ _; exact Nat.le_of_eq rfl) (hb hby at_67) (fun _ _ => ⟨rfl, rfl, (by decide : 1 + 0 ≤ _), (by decide : 2 + 0 ≤ _)⟩)
  dsimp only [Pt.U, Pt.locs, Pt.cells, Pt.slots] at X12 l12 y12 z12 st12 hQ12
  subst l12 y12 z12
  obtain ⟨rfl, N12q, Kq12, pq12_0, pq12_1⟩ := hQ12
  have N12 := Fr.app N10 N12q
  have E_b7_12 : Exa Z T12.heap b7 "com/example/read_model_projector/readmodelprojector/engine/Backoff" := E_b7_10.keep Kq12
  have K_12 : Keep h0 T12.heap [] := K_10.trans Kq12 (allS (Or.inr sz_b7) all0)
  refine own_step (T' := T12) (g' := (mkF m 70 #[.val (.long p0), .second, .val (.long p1), .second, .val (.int p2), .val (.long v1), .second, .val (.long v2), .second, .val (.long v4), .second, .val (.long v6), .second, .val (.ref b7), .val (.long v4), .second, .val (.long v11), .second, .unset, .unset, .unset, .unset, .unset, .unset] [(.long (fn1 ((2 : Int64) * (fn1 ((2 : Int64) * v4) v6)) v6))])) (fun t k => st12.trans k) ?_
  generalize hv13 : (fn1 ((2 : Int64) * (fn1 ((2 : Int64) * v4) v6)) v6) = v13
  refine own_step (T' := T12) (g' := (mkF m 72 #[.val (.long p0), .second, .val (.long p1), .second, .val (.int p2), .val (.long v1), .second, .val (.long v2), .second, .val (.long v4), .second, .val (.long v6), .second, .val (.ref b7), .val (.long v4), .second, .val (.long v11), .second, .val (.long v13), .second, .unset, .unset, .unset, .unset] [])) (fun t k => XS.lstore X12.here hx rfl (hb hby at_70) rfl (l' := #[.val (.long p0), .second, .val (.long p1), .second, .val (.int p2), .val (.long v1), .second, .val (.long v2), .second, .val (.long v4), .second, .val (.long v6), .second, .val (.ref b7), .val (.long v4), .second, .val (.long v11), .second, .val (.long v13), .second, .unset, .unset, .unset, .unset]) rfl k) ?_
  refine own_step (T' := T12) (g' := (mkF m 74 #[.val (.long p0), .second, .val (.long p1), .second, .val (.int p2), .val (.long v1), .second, .val (.long v2), .second, .val (.long v4), .second, .val (.long v6), .second, .val (.ref b7), .val (.long v4), .second, .val (.long v11), .second, .val (.long v13), .second, .unset, .unset, .unset, .unset] [(.ref b7)])) (fun t k => XS.aload X12.here hx rfl (hb hby at_72) rfl rfl k) ?_
  obtain ⟨cq14, kq14, qq14a, qq14b, qq14c⟩ := isOf hZ rfl E_b7_12
  obtain ⟨_, _, ⟨T14, L14, kk14, nn14⟩, -, X14, ⟨Lc14, hQ14, l14, y14, z14⟩, st14⟩ := X12.virtualBack hx (y := (⟨"com/example/read_model_projector/readmodelprojector/engine/Backoff", "next", "()J"⟩ : MethodName)) (z := (⟨"com/example/read_model_projector/readmodelprojector/engine/Backoff", "next", "()J"⟩ : MethodName)) hown (mvT hZ (hw _ (List.mem_of_getElem? (i := 21) rfl))) (mvT hZ (hw _ (List.mem_of_getElem? (i := 22) rfl))) (notFace_of_selects (args := #[]) (mvT hZ (hw _ (List.mem_of_getElem? (i := 24) rfl)))) (mvT hZ (hw _ (List.mem_of_getElem? (i := 24) rfl))) (mvT hZ (hw _ (List.mem_of_getElem? (i := 23) rfl))) (by decide) (backOf (W := 0) (rm5 l Z a0 hw [] b7 (fn1 ((2 : Int64) * (fn1 ((2 : Int64) * (fn1 ((2 : Int64) * v4) v6)) v6)) v6) v6 T12.heap n0 (Nat.le_trans Z0 K_12.1) E_b7_12 pq12_0 pq12_1 g_b7) hZ (hw _ (List.mem_of_getElem? (i := 25) rfl)) (hw _ (List.mem_of_getElem? (i := 10) rfl)) (by decide) (by decide)) qq14a qq14c (g := (mkF m 74 #[.val (.long p0), .second, .val (.long p1), .second, .val (.int p2), .val (.long v1), .second, .val (.long v2), .second, .val (.long v4), .second, .val (.long v6), .second, .val (.ref b7), .val (.long v4), .second, .val (.long v11), .second, .val (.long v13), .second, .unset, .unset, .unset, .unset] [(.ref b7)])) rfl (by rw [hml]; rfl) (Steps.refl _) (argsL := []) (rest := []) (lenOf pd_3 rfl) rfl (by show 2 * 0 + _ ≤ _; exact Nat.le_of_eq rfl) (hb hby at_74) (fun _ _ => ⟨rfl, rfl, (by decide : 1 + 0 ≤ _), (by decide : 2 + 0 ≤ _)⟩)
  dsimp only [Pt.U, Pt.locs, Pt.cells, Pt.slots] at X14 l14 y14 z14 st14 hQ14
  subst l14 y14 z14
  obtain ⟨rfl, N14q, Kq14, pq14_0, pq14_1⟩ := hQ14
  have N14 := Fr.app N12 N14q
  have E_b7_14 : Exa Z T14.heap b7 "com/example/read_model_projector/readmodelprojector/engine/Backoff" := E_b7_12.keep Kq14
  have K_14 : Keep h0 T14.heap [] := K_12.trans Kq14 (allS (Or.inr sz_b7) all0)
  refine own_step (T' := T14) (g' := (mkF m 77 #[.val (.long p0), .second, .val (.long p1), .second, .val (.int p2), .val (.long v1), .second, .val (.long v2), .second, .val (.long v4), .second, .val (.long v6), .second, .val (.ref b7), .val (.long v4), .second, .val (.long v11), .second, .val (.long v13), .second, .unset, .unset, .unset, .unset] [(.long (fn1 ((2 : Int64) * (fn1 ((2 : Int64) * (fn1 ((2 : Int64) * v4) v6)) v6)) v6))])) (fun t k => st14.trans k) ?_
  generalize hv15 : (fn1 ((2 : Int64) * (fn1 ((2 : Int64) * (fn1 ((2 : Int64) * v4) v6)) v6)) v6) = v15
  refine own_step (T' := T14) (g' := (mkF m 79 #[.val (.long p0), .second, .val (.long p1), .second, .val (.int p2), .val (.long v1), .second, .val (.long v2), .second, .val (.long v4), .second, .val (.long v6), .second, .val (.ref b7), .val (.long v4), .second, .val (.long v11), .second, .val (.long v13), .second, .val (.long v15), .second, .unset, .unset] [])) (fun t k => XS.lstore X14.here hx rfl (hb hby at_77) rfl (l' := #[.val (.long p0), .second, .val (.long p1), .second, .val (.int p2), .val (.long v1), .second, .val (.long v2), .second, .val (.long v4), .second, .val (.long v6), .second, .val (.ref b7), .val (.long v4), .second, .val (.long v11), .second, .val (.long v13), .second, .val (.long v15), .second, .unset, .unset]) rfl k) ?_
  refine own_step (T' := T14) (g' := (mkF m 81 #[.val (.long p0), .second, .val (.long p1), .second, .val (.int p2), .val (.long v1), .second, .val (.long v2), .second, .val (.long v4), .second, .val (.long v6), .second, .val (.ref b7), .val (.long v4), .second, .val (.long v11), .second, .val (.long v13), .second, .val (.long v15), .second, .unset, .unset] [(.ref b7)])) (fun t k => XS.aload X14.here hx rfl (hb hby at_79) rfl rfl k) ?_
  obtain ⟨cq16, kq16, qq16a, qq16b, qq16c⟩ := isOf hZ rfl E_b7_14
  obtain ⟨_, _, ⟨T16, L16, kk16, nn16⟩, -, X16, ⟨Lc16, hQ16, l16, y16, z16⟩, st16⟩ := X14.virtualBack hx (y := (⟨"com/example/read_model_projector/readmodelprojector/engine/Backoff", "next", "()J"⟩ : MethodName)) (z := (⟨"com/example/read_model_projector/readmodelprojector/engine/Backoff", "next", "()J"⟩ : MethodName)) hown (mvT hZ (hw _ (List.mem_of_getElem? (i := 21) rfl))) (mvT hZ (hw _ (List.mem_of_getElem? (i := 22) rfl))) (notFace_of_selects (args := #[]) (mvT hZ (hw _ (List.mem_of_getElem? (i := 24) rfl)))) (mvT hZ (hw _ (List.mem_of_getElem? (i := 24) rfl))) (mvT hZ (hw _ (List.mem_of_getElem? (i := 23) rfl))) (by decide) (backOf (W := 0) (rm5 l Z a0 hw [] b7 (fn1 ((2 : Int64) * (fn1 ((2 : Int64) * (fn1 ((2 : Int64) * (fn1 ((2 : Int64) * v4) v6)) v6)) v6)) v6) v6 T14.heap n0 (Nat.le_trans Z0 K_14.1) E_b7_14 pq14_0 pq14_1 g_b7) hZ (hw _ (List.mem_of_getElem? (i := 25) rfl)) (hw _ (List.mem_of_getElem? (i := 10) rfl)) (by decide) (by decide)) qq16a qq16c (g := (mkF m 81 #[.val (.long p0), .second, .val (.long p1), .second, .val (.int p2), .val (.long v1), .second, .val (.long v2), .second, .val (.long v4), .second, .val (.long v6), .second, .val (.ref b7), .val (.long v4), .second, .val (.long v11), .second, .val (.long v13), .second, .val (.long v15), .second, .unset, .unset] [(.ref b7)])) rfl (by rw [hml]; rfl) (Steps.refl _) (argsL := []) (rest := []) (lenOf pd_3 rfl) rfl (by show 2 * 0 + _ ≤ _; exact Nat.le_of_eq rfl) (hb hby at_81) (fun _ _ => ⟨rfl, rfl, (by decide : 1 + 0 ≤ _), (by decide : 2 + 0 ≤ _)⟩)
  dsimp only [Pt.U, Pt.locs, Pt.cells, Pt.slots] at X16 l16 y16 z16 st16 hQ16
  subst l16 y16 z16
  obtain ⟨rfl, N16q, Kq16, pq16_0, pq16_1⟩ := hQ16
  have N16 := Fr.app N14 N16q
  have E_b7_16 : Exa Z T16.heap b7 "com/example/read_model_projector/readmodelprojector/engine/Backoff" := E_b7_14.keep Kq16
  have K_16 : Keep h0 T16.heap [] := K_14.trans Kq16 (allS (Or.inr sz_b7) all0)
  refine own_step (T' := T16) (g' := (mkF m 84 #[.val (.long p0), .second, .val (.long p1), .second, .val (.int p2), .val (.long v1), .second, .val (.long v2), .second, .val (.long v4), .second, .val (.long v6), .second, .val (.ref b7), .val (.long v4), .second, .val (.long v11), .second, .val (.long v13), .second, .val (.long v15), .second, .unset, .unset] [(.long (fn1 ((2 : Int64) * (fn1 ((2 : Int64) * (fn1 ((2 : Int64) * (fn1 ((2 : Int64) * v4) v6)) v6)) v6)) v6))])) (fun t k => st16.trans k) ?_
  generalize hv17 : (fn1 ((2 : Int64) * (fn1 ((2 : Int64) * (fn1 ((2 : Int64) * (fn1 ((2 : Int64) * v4) v6)) v6)) v6)) v6) = v17
  refine own_step (T' := T16) (g' := (mkF m 86 #[.val (.long p0), .second, .val (.long p1), .second, .val (.int p2), .val (.long v1), .second, .val (.long v2), .second, .val (.long v4), .second, .val (.long v6), .second, .val (.ref b7), .val (.long v4), .second, .val (.long v11), .second, .val (.long v13), .second, .val (.long v15), .second, .val (.long v17), .second] [])) (fun t k => XS.lstore X16.here hx rfl (hb hby at_84) rfl (l' := #[.val (.long p0), .second, .val (.long p1), .second, .val (.int p2), .val (.long v1), .second, .val (.long v2), .second, .val (.long v4), .second, .val (.long v6), .second, .val (.ref b7), .val (.long v4), .second, .val (.long v11), .second, .val (.long v13), .second, .val (.long v15), .second, .val (.long v17), .second]) rfl k) ?_
  have hw0 : (v4).toInt = min ((v4).toInt * 2 ^ 0) (v6).toInt := by rw [Int.pow_zero, Int.mul_one]; omega
  have hw1 := own_nx hbb.1 hbb.2.1 hbb.2.2 hw0
  have hw2 := own_nx hbb.1 hbb.2.1 hbb.2.2 hw1
  have hw3 := own_nx hbb.1 hbb.2.1 hbb.2.2 hw2
  have hw4 := own_nx hbb.1 hbb.2.1 hbb.2.2 hw3
  rw [hv11] at hw1
  rw [hv13] at hw2
  rw [hv15] at hw3
  rw [hv17] at hw4
  refine own_step (T' := T16) (g' := (mkF m 88 #[.val (.long p0), .second, .val (.long p1), .second, .val (.int p2), .val (.long v1), .second, .val (.long v2), .second, .val (.long v4), .second, .val (.long v6), .second, .val (.ref b7), .val (.long v4), .second, .val (.long v11), .second, .val (.long v13), .second, .val (.long v15), .second, .val (.long v17), .second] [(.long v4)])) (fun t k => XS.lload X16.here hx rfl (hb hby at_86) rfl k) ?_
  refine own_step (T' := T16) (g' := (mkF m 90 #[.val (.long p0), .second, .val (.long p1), .second, .val (.int p2), .val (.long v1), .second, .val (.long v2), .second, .val (.long v4), .second, .val (.long v6), .second, .val (.ref b7), .val (.long v4), .second, .val (.long v11), .second, .val (.long v13), .second, .val (.long v15), .second, .val (.long v17), .second] [(.long v4), (.long v4)])) (fun t k => XS.lload X16.here hx rfl (hb hby at_88) rfl k) ?_
  refine own_step (T' := T16) (g' := (mkF m 92 #[.val (.long p0), .second, .val (.long p1), .second, .val (.int p2), .val (.long v1), .second, .val (.long v2), .second, .val (.long v4), .second, .val (.long v6), .second, .val (.ref b7), .val (.long v4), .second, .val (.long v11), .second, .val (.long v13), .second, .val (.long v15), .second, .val (.long v17), .second] [(.long v6), (.long v4), (.long v4)])) (fun t k => XS.lload X16.here hx rfl (hb hby at_90) rfl k) ?_
  refine own_step (T' := T16) (g' := (mkF m 93 #[.val (.long p0), .second, .val (.long p1), .second, .val (.int p2), .val (.long v1), .second, .val (.long v2), .second, .val (.long v4), .second, .val (.long v6), .second, .val (.ref b7), .val (.long v4), .second, .val (.long v11), .second, .val (.long v13), .second, .val (.long v15), .second, .val (.long v17), .second] [(.int (0 : Int32)), (.long v6), (.long v4), (.long v4)])) (fun t k => XS.iconst X16.here hx rfl (hb hby at_92) k) ?_
  obtain ⟨_, _, ⟨T18, L18, kk18, nn18⟩, -, X18, ⟨Lc18, hQ18, l18, y18, z18⟩, st18⟩ := Jvm.LawKit.callS X16 hx (y := (⟨"com/example/read_model_projector/readmodelprojector/engine/BackoffNextPinLaw", "expected", "(JJI)J"⟩ : MethodName)) hown (mvT hZ (hw _ (List.mem_of_getElem? (i := 28) rfl))) (mvT hZ (hw _ (List.mem_of_getElem? (i := 29) rfl))) (mvT hZ (hw _ (List.mem_of_getElem? (i := 30) rfl))) (mvT hZ (hw _ (List.mem_of_getElem? (i := 31) rfl))) (by decide) (backOf (W := 2) (rm6 l Z a0 hw [] v4 v6 (0 : Int32) T16.heap n0 (Nat.le_trans Z0 K_16.1) ) hZ (hw _ (List.mem_of_getElem? (i := 31) rfl)) (hw _ (List.mem_of_getElem? (i := 30) rfl)) (by decide) (by decide)) (g := (mkF m 93 #[.val (.long p0), .second, .val (.long p1), .second, .val (.int p2), .val (.long v1), .second, .val (.long v2), .second, .val (.long v4), .second, .val (.long v6), .second, .val (.ref b7), .val (.long v4), .second, .val (.long v11), .second, .val (.long v13), .second, .val (.long v15), .second, .val (.long v17), .second] [(.int (0 : Int32)), (.long v6), (.long v4), (.long v4)])) rfl (by rw [hml]; rfl) (argsL := [(.long v4), (.long v6), (.int (0 : Int32))]) (rest := [(.long v4)]) (lenOf pd_4 rfl) rfl (by show 2 * 0 + _ ≤ _; exact Nat.le_of_eq rfl) (hb hby at_93) (fun _ _ => ⟨rfl, rfl, (by decide : 1 + 0 ≤ _), (by decide : 2 + 0 ≤ _)⟩)
  dsimp only [Pt.U, Pt.locs, Pt.cells, Pt.slots] at X18 l18 y18 z18 st18 hQ18
  subst l18 y18 z18
  obtain ⟨rfl, N18q, eq18⟩ := hQ18
  have N18 := Fr.app N16 N18q
  refine own_step (T' := T18) (g' := (mkF m 96 #[.val (.long p0), .second, .val (.long p1), .second, .val (.int p2), .val (.long v1), .second, .val (.long v2), .second, .val (.long v4), .second, .val (.long v6), .second, .val (.ref b7), .val (.long v4), .second, .val (.long v11), .second, .val (.long v13), .second, .val (.long v15), .second, .val (.long v17), .second] [(.long (fn6 v4 v6 (0 : Int32))), (.long v4)])) st18 ?_
  refine own_step (T' := T18) (g' := (mkF m 97 #[.val (.long p0), .second, .val (.long p1), .second, .val (.int p2), .val (.long v1), .second, .val (.long v2), .second, .val (.long v4), .second, .val (.long v6), .second, .val (.ref b7), .val (.long v4), .second, .val (.long v11), .second, .val (.long v13), .second, .val (.long v15), .second, .val (.long v17), .second] [(.int (Jvm.Free.XT.cmpL v4 (fn6 v4 v6 (0 : Int32))))])) (fun t k => Jvm.Free.XT.lcmp X18.here hx rfl (hb hby at_96) rfl k) ?_
  refine own_step (T' := T18) (g' := (mkF m 100 #[.val (.long p0), .second, .val (.long p1), .second, .val (.int p2), .val (.long v1), .second, .val (.long v2), .second, .val (.long v4), .second, .val (.long v6), .second, .val (.ref b7), .val (.long v4), .second, .val (.long v11), .second, .val (.long v13), .second, .val (.long v15), .second, .val (.long v17), .second] [])) (fun t k => XS.ifNo X18.here hx rfl (hb hby at_97) rfl (Jvm.Free.XT.ll_ne_f (own_fin (by decide) hbb.1 hbb.2.1 hbb.2.2 hw0)) k) ?_
  refine own_step (T' := T18) (g' := (mkF m 102 #[.val (.long p0), .second, .val (.long p1), .second, .val (.int p2), .val (.long v1), .second, .val (.long v2), .second, .val (.long v4), .second, .val (.long v6), .second, .val (.ref b7), .val (.long v4), .second, .val (.long v11), .second, .val (.long v13), .second, .val (.long v15), .second, .val (.long v17), .second] [(.long v11)])) (fun t k => XS.lload X18.here hx rfl (hb hby at_100) rfl k) ?_
  refine own_step (T' := T18) (g' := (mkF m 104 #[.val (.long p0), .second, .val (.long p1), .second, .val (.int p2), .val (.long v1), .second, .val (.long v2), .second, .val (.long v4), .second, .val (.long v6), .second, .val (.ref b7), .val (.long v4), .second, .val (.long v11), .second, .val (.long v13), .second, .val (.long v15), .second, .val (.long v17), .second] [(.long v4), (.long v11)])) (fun t k => XS.lload X18.here hx rfl (hb hby at_102) rfl k) ?_
  refine own_step (T' := T18) (g' := (mkF m 106 #[.val (.long p0), .second, .val (.long p1), .second, .val (.int p2), .val (.long v1), .second, .val (.long v2), .second, .val (.long v4), .second, .val (.long v6), .second, .val (.ref b7), .val (.long v4), .second, .val (.long v11), .second, .val (.long v13), .second, .val (.long v15), .second, .val (.long v17), .second] [(.long v6), (.long v4), (.long v11)])) (fun t k => XS.lload X18.here hx rfl (hb hby at_104) rfl k) ?_
  refine own_step (T' := T18) (g' := (mkF m 107 #[.val (.long p0), .second, .val (.long p1), .second, .val (.int p2), .val (.long v1), .second, .val (.long v2), .second, .val (.long v4), .second, .val (.long v6), .second, .val (.ref b7), .val (.long v4), .second, .val (.long v11), .second, .val (.long v13), .second, .val (.long v15), .second, .val (.long v17), .second] [(.int (1 : Int32)), (.long v6), (.long v4), (.long v11)])) (fun t k => XS.iconst X18.here hx rfl (hb hby at_106) k) ?_
  obtain ⟨_, _, ⟨T19, L19, kk19, nn19⟩, -, X19, ⟨Lc19, hQ19, l19, y19, z19⟩, st19⟩ := Jvm.LawKit.callS X18 hx (y := (⟨"com/example/read_model_projector/readmodelprojector/engine/BackoffNextPinLaw", "expected", "(JJI)J"⟩ : MethodName)) hown (mvT hZ (hw _ (List.mem_of_getElem? (i := 28) rfl))) (mvT hZ (hw _ (List.mem_of_getElem? (i := 29) rfl))) (mvT hZ (hw _ (List.mem_of_getElem? (i := 30) rfl))) (mvT hZ (hw _ (List.mem_of_getElem? (i := 31) rfl))) (by decide) (backOf (W := 2) (rm6 l Z a0 hw [] v4 v6 (1 : Int32) T16.heap n0 (Nat.le_trans Z0 K_16.1) ) hZ (hw _ (List.mem_of_getElem? (i := 31) rfl)) (hw _ (List.mem_of_getElem? (i := 30) rfl)) (by decide) (by decide)) (g := (mkF m 107 #[.val (.long p0), .second, .val (.long p1), .second, .val (.int p2), .val (.long v1), .second, .val (.long v2), .second, .val (.long v4), .second, .val (.long v6), .second, .val (.ref b7), .val (.long v4), .second, .val (.long v11), .second, .val (.long v13), .second, .val (.long v15), .second, .val (.long v17), .second] [(.int (1 : Int32)), (.long v6), (.long v4), (.long v11)])) rfl (by rw [hml]; rfl) (argsL := [(.long v4), (.long v6), (.int (1 : Int32))]) (rest := [(.long v11)]) (lenOf pd_4 rfl) rfl (by show 2 * 0 + _ ≤ _; exact Nat.le_of_eq rfl) (hb hby at_107) (fun _ _ => ⟨rfl, eq18, (by decide : 1 + 0 ≤ _), (by decide : 2 + 0 ≤ _)⟩)
  dsimp only [Pt.U, Pt.locs, Pt.cells, Pt.slots] at X19 l19 y19 z19 st19 hQ19
  subst l19 y19 z19
  obtain ⟨rfl, N19q, eq19⟩ := hQ19
  have N19 := Fr.app N18 N19q
  refine own_step (T' := T19) (g' := (mkF m 110 #[.val (.long p0), .second, .val (.long p1), .second, .val (.int p2), .val (.long v1), .second, .val (.long v2), .second, .val (.long v4), .second, .val (.long v6), .second, .val (.ref b7), .val (.long v4), .second, .val (.long v11), .second, .val (.long v13), .second, .val (.long v15), .second, .val (.long v17), .second] [(.long (fn6 v4 v6 (1 : Int32))), (.long v11)])) st19 ?_
  refine own_step (T' := T19) (g' := (mkF m 111 #[.val (.long p0), .second, .val (.long p1), .second, .val (.int p2), .val (.long v1), .second, .val (.long v2), .second, .val (.long v4), .second, .val (.long v6), .second, .val (.ref b7), .val (.long v4), .second, .val (.long v11), .second, .val (.long v13), .second, .val (.long v15), .second, .val (.long v17), .second] [(.int (Jvm.Free.XT.cmpL v11 (fn6 v4 v6 (1 : Int32))))])) (fun t k => Jvm.Free.XT.lcmp X19.here hx rfl (hb hby at_110) rfl k) ?_
  refine own_step (T' := T19) (g' := (mkF m 114 #[.val (.long p0), .second, .val (.long p1), .second, .val (.int p2), .val (.long v1), .second, .val (.long v2), .second, .val (.long v4), .second, .val (.long v6), .second, .val (.ref b7), .val (.long v4), .second, .val (.long v11), .second, .val (.long v13), .second, .val (.long v15), .second, .val (.long v17), .second] [])) (fun t k => XS.ifNo X19.here hx rfl (hb hby at_111) rfl (Jvm.Free.XT.ll_ne_f (own_fin (by decide) hbb.1 hbb.2.1 hbb.2.2 hw1)) k) ?_
  refine own_step (T' := T19) (g' := (mkF m 116 #[.val (.long p0), .second, .val (.long p1), .second, .val (.int p2), .val (.long v1), .second, .val (.long v2), .second, .val (.long v4), .second, .val (.long v6), .second, .val (.ref b7), .val (.long v4), .second, .val (.long v11), .second, .val (.long v13), .second, .val (.long v15), .second, .val (.long v17), .second] [(.long v13)])) (fun t k => XS.lload X19.here hx rfl (hb hby at_114) rfl k) ?_
  refine own_step (T' := T19) (g' := (mkF m 118 #[.val (.long p0), .second, .val (.long p1), .second, .val (.int p2), .val (.long v1), .second, .val (.long v2), .second, .val (.long v4), .second, .val (.long v6), .second, .val (.ref b7), .val (.long v4), .second, .val (.long v11), .second, .val (.long v13), .second, .val (.long v15), .second, .val (.long v17), .second] [(.long v4), (.long v13)])) (fun t k => XS.lload X19.here hx rfl (hb hby at_116) rfl k) ?_
  refine own_step (T' := T19) (g' := (mkF m 120 #[.val (.long p0), .second, .val (.long p1), .second, .val (.int p2), .val (.long v1), .second, .val (.long v2), .second, .val (.long v4), .second, .val (.long v6), .second, .val (.ref b7), .val (.long v4), .second, .val (.long v11), .second, .val (.long v13), .second, .val (.long v15), .second, .val (.long v17), .second] [(.long v6), (.long v4), (.long v13)])) (fun t k => XS.lload X19.here hx rfl (hb hby at_118) rfl k) ?_
  refine own_step (T' := T19) (g' := (mkF m 121 #[.val (.long p0), .second, .val (.long p1), .second, .val (.int p2), .val (.long v1), .second, .val (.long v2), .second, .val (.long v4), .second, .val (.long v6), .second, .val (.ref b7), .val (.long v4), .second, .val (.long v11), .second, .val (.long v13), .second, .val (.long v15), .second, .val (.long v17), .second] [(.int (2 : Int32)), (.long v6), (.long v4), (.long v13)])) (fun t k => XS.iconst X19.here hx rfl (hb hby at_120) k) ?_
  obtain ⟨_, _, ⟨T20, L20, kk20, nn20⟩, -, X20, ⟨Lc20, hQ20, l20, y20, z20⟩, st20⟩ := Jvm.LawKit.callS X19 hx (y := (⟨"com/example/read_model_projector/readmodelprojector/engine/BackoffNextPinLaw", "expected", "(JJI)J"⟩ : MethodName)) hown (mvT hZ (hw _ (List.mem_of_getElem? (i := 28) rfl))) (mvT hZ (hw _ (List.mem_of_getElem? (i := 29) rfl))) (mvT hZ (hw _ (List.mem_of_getElem? (i := 30) rfl))) (mvT hZ (hw _ (List.mem_of_getElem? (i := 31) rfl))) (by decide) (backOf (W := 2) (rm6 l Z a0 hw [] v4 v6 (2 : Int32) T16.heap n0 (Nat.le_trans Z0 K_16.1) ) hZ (hw _ (List.mem_of_getElem? (i := 31) rfl)) (hw _ (List.mem_of_getElem? (i := 30) rfl)) (by decide) (by decide)) (g := (mkF m 121 #[.val (.long p0), .second, .val (.long p1), .second, .val (.int p2), .val (.long v1), .second, .val (.long v2), .second, .val (.long v4), .second, .val (.long v6), .second, .val (.ref b7), .val (.long v4), .second, .val (.long v11), .second, .val (.long v13), .second, .val (.long v15), .second, .val (.long v17), .second] [(.int (2 : Int32)), (.long v6), (.long v4), (.long v13)])) rfl (by rw [hml]; rfl) (argsL := [(.long v4), (.long v6), (.int (2 : Int32))]) (rest := [(.long v13)]) (lenOf pd_4 rfl) rfl (by show 2 * 0 + _ ≤ _; exact Nat.le_of_eq rfl) (hb hby at_121) (fun _ _ => ⟨rfl, eq19, (by decide : 1 + 0 ≤ _), (by decide : 2 + 0 ≤ _)⟩)
  dsimp only [Pt.U, Pt.locs, Pt.cells, Pt.slots] at X20 l20 y20 z20 st20 hQ20
  subst l20 y20 z20
  obtain ⟨rfl, N20q, eq20⟩ := hQ20
  have N20 := Fr.app N19 N20q
  refine own_step (T' := T20) (g' := (mkF m 124 #[.val (.long p0), .second, .val (.long p1), .second, .val (.int p2), .val (.long v1), .second, .val (.long v2), .second, .val (.long v4), .second, .val (.long v6), .second, .val (.ref b7), .val (.long v4), .second, .val (.long v11), .second, .val (.long v13), .second, .val (.long v15), .second, .val (.long v17), .second] [(.long (fn6 v4 v6 (2 : Int32))), (.long v13)])) st20 ?_
  refine own_step (T' := T20) (g' := (mkF m 125 #[.val (.long p0), .second, .val (.long p1), .second, .val (.int p2), .val (.long v1), .second, .val (.long v2), .second, .val (.long v4), .second, .val (.long v6), .second, .val (.ref b7), .val (.long v4), .second, .val (.long v11), .second, .val (.long v13), .second, .val (.long v15), .second, .val (.long v17), .second] [(.int (Jvm.Free.XT.cmpL v13 (fn6 v4 v6 (2 : Int32))))])) (fun t k => Jvm.Free.XT.lcmp X20.here hx rfl (hb hby at_124) rfl k) ?_
  refine own_step (T' := T20) (g' := (mkF m 128 #[.val (.long p0), .second, .val (.long p1), .second, .val (.int p2), .val (.long v1), .second, .val (.long v2), .second, .val (.long v4), .second, .val (.long v6), .second, .val (.ref b7), .val (.long v4), .second, .val (.long v11), .second, .val (.long v13), .second, .val (.long v15), .second, .val (.long v17), .second] [])) (fun t k => XS.ifNo X20.here hx rfl (hb hby at_125) rfl (Jvm.Free.XT.ll_ne_f (own_fin (by decide) hbb.1 hbb.2.1 hbb.2.2 hw2)) k) ?_
  refine own_step (T' := T20) (g' := (mkF m 130 #[.val (.long p0), .second, .val (.long p1), .second, .val (.int p2), .val (.long v1), .second, .val (.long v2), .second, .val (.long v4), .second, .val (.long v6), .second, .val (.ref b7), .val (.long v4), .second, .val (.long v11), .second, .val (.long v13), .second, .val (.long v15), .second, .val (.long v17), .second] [(.long v15)])) (fun t k => XS.lload X20.here hx rfl (hb hby at_128) rfl k) ?_
  refine own_step (T' := T20) (g' := (mkF m 132 #[.val (.long p0), .second, .val (.long p1), .second, .val (.int p2), .val (.long v1), .second, .val (.long v2), .second, .val (.long v4), .second, .val (.long v6), .second, .val (.ref b7), .val (.long v4), .second, .val (.long v11), .second, .val (.long v13), .second, .val (.long v15), .second, .val (.long v17), .second] [(.long v4), (.long v15)])) (fun t k => XS.lload X20.here hx rfl (hb hby at_130) rfl k) ?_
  refine own_step (T' := T20) (g' := (mkF m 134 #[.val (.long p0), .second, .val (.long p1), .second, .val (.int p2), .val (.long v1), .second, .val (.long v2), .second, .val (.long v4), .second, .val (.long v6), .second, .val (.ref b7), .val (.long v4), .second, .val (.long v11), .second, .val (.long v13), .second, .val (.long v15), .second, .val (.long v17), .second] [(.long v6), (.long v4), (.long v15)])) (fun t k => XS.lload X20.here hx rfl (hb hby at_132) rfl k) ?_
  refine own_step (T' := T20) (g' := (mkF m 135 #[.val (.long p0), .second, .val (.long p1), .second, .val (.int p2), .val (.long v1), .second, .val (.long v2), .second, .val (.long v4), .second, .val (.long v6), .second, .val (.ref b7), .val (.long v4), .second, .val (.long v11), .second, .val (.long v13), .second, .val (.long v15), .second, .val (.long v17), .second] [(.int (3 : Int32)), (.long v6), (.long v4), (.long v15)])) (fun t k => XS.iconst X20.here hx rfl (hb hby at_134) k) ?_
  obtain ⟨_, _, ⟨T21, L21, kk21, nn21⟩, -, X21, ⟨Lc21, hQ21, l21, y21, z21⟩, st21⟩ := Jvm.LawKit.callS X20 hx (y := (⟨"com/example/read_model_projector/readmodelprojector/engine/BackoffNextPinLaw", "expected", "(JJI)J"⟩ : MethodName)) hown (mvT hZ (hw _ (List.mem_of_getElem? (i := 28) rfl))) (mvT hZ (hw _ (List.mem_of_getElem? (i := 29) rfl))) (mvT hZ (hw _ (List.mem_of_getElem? (i := 30) rfl))) (mvT hZ (hw _ (List.mem_of_getElem? (i := 31) rfl))) (by decide) (backOf (W := 2) (rm6 l Z a0 hw [] v4 v6 (3 : Int32) T16.heap n0 (Nat.le_trans Z0 K_16.1) ) hZ (hw _ (List.mem_of_getElem? (i := 31) rfl)) (hw _ (List.mem_of_getElem? (i := 30) rfl)) (by decide) (by decide)) (g := (mkF m 135 #[.val (.long p0), .second, .val (.long p1), .second, .val (.int p2), .val (.long v1), .second, .val (.long v2), .second, .val (.long v4), .second, .val (.long v6), .second, .val (.ref b7), .val (.long v4), .second, .val (.long v11), .second, .val (.long v13), .second, .val (.long v15), .second, .val (.long v17), .second] [(.int (3 : Int32)), (.long v6), (.long v4), (.long v15)])) rfl (by rw [hml]; rfl) (argsL := [(.long v4), (.long v6), (.int (3 : Int32))]) (rest := [(.long v15)]) (lenOf pd_4 rfl) rfl (by show 2 * 0 + _ ≤ _; exact Nat.le_of_eq rfl) (hb hby at_135) (fun _ _ => ⟨rfl, eq20, (by decide : 1 + 0 ≤ _), (by decide : 2 + 0 ≤ _)⟩)
  dsimp only [Pt.U, Pt.locs, Pt.cells, Pt.slots] at X21 l21 y21 z21 st21 hQ21
  subst l21 y21 z21
  obtain ⟨rfl, N21q, eq21⟩ := hQ21
  have N21 := Fr.app N20 N21q
  refine own_step (T' := T21) (g' := (mkF m 138 #[.val (.long p0), .second, .val (.long p1), .second, .val (.int p2), .val (.long v1), .second, .val (.long v2), .second, .val (.long v4), .second, .val (.long v6), .second, .val (.ref b7), .val (.long v4), .second, .val (.long v11), .second, .val (.long v13), .second, .val (.long v15), .second, .val (.long v17), .second] [(.long (fn6 v4 v6 (3 : Int32))), (.long v15)])) st21 ?_
  refine own_step (T' := T21) (g' := (mkF m 139 #[.val (.long p0), .second, .val (.long p1), .second, .val (.int p2), .val (.long v1), .second, .val (.long v2), .second, .val (.long v4), .second, .val (.long v6), .second, .val (.ref b7), .val (.long v4), .second, .val (.long v11), .second, .val (.long v13), .second, .val (.long v15), .second, .val (.long v17), .second] [(.int (Jvm.Free.XT.cmpL v15 (fn6 v4 v6 (3 : Int32))))])) (fun t k => Jvm.Free.XT.lcmp X21.here hx rfl (hb hby at_138) rfl k) ?_
  refine own_step (T' := T21) (g' := (mkF m 142 #[.val (.long p0), .second, .val (.long p1), .second, .val (.int p2), .val (.long v1), .second, .val (.long v2), .second, .val (.long v4), .second, .val (.long v6), .second, .val (.ref b7), .val (.long v4), .second, .val (.long v11), .second, .val (.long v13), .second, .val (.long v15), .second, .val (.long v17), .second] [])) (fun t k => XS.ifNo X21.here hx rfl (hb hby at_139) rfl (Jvm.Free.XT.ll_ne_f (own_fin (by decide) hbb.1 hbb.2.1 hbb.2.2 hw3)) k) ?_
  refine own_step (T' := T21) (g' := (mkF m 144 #[.val (.long p0), .second, .val (.long p1), .second, .val (.int p2), .val (.long v1), .second, .val (.long v2), .second, .val (.long v4), .second, .val (.long v6), .second, .val (.ref b7), .val (.long v4), .second, .val (.long v11), .second, .val (.long v13), .second, .val (.long v15), .second, .val (.long v17), .second] [(.long v17)])) (fun t k => XS.lload X21.here hx rfl (hb hby at_142) rfl k) ?_
  refine own_step (T' := T21) (g' := (mkF m 146 #[.val (.long p0), .second, .val (.long p1), .second, .val (.int p2), .val (.long v1), .second, .val (.long v2), .second, .val (.long v4), .second, .val (.long v6), .second, .val (.ref b7), .val (.long v4), .second, .val (.long v11), .second, .val (.long v13), .second, .val (.long v15), .second, .val (.long v17), .second] [(.long v4), (.long v17)])) (fun t k => XS.lload X21.here hx rfl (hb hby at_144) rfl k) ?_
  refine own_step (T' := T21) (g' := (mkF m 148 #[.val (.long p0), .second, .val (.long p1), .second, .val (.int p2), .val (.long v1), .second, .val (.long v2), .second, .val (.long v4), .second, .val (.long v6), .second, .val (.ref b7), .val (.long v4), .second, .val (.long v11), .second, .val (.long v13), .second, .val (.long v15), .second, .val (.long v17), .second] [(.long v6), (.long v4), (.long v17)])) (fun t k => XS.lload X21.here hx rfl (hb hby at_146) rfl k) ?_
  refine own_step (T' := T21) (g' := (mkF m 149 #[.val (.long p0), .second, .val (.long p1), .second, .val (.int p2), .val (.long v1), .second, .val (.long v2), .second, .val (.long v4), .second, .val (.long v6), .second, .val (.ref b7), .val (.long v4), .second, .val (.long v11), .second, .val (.long v13), .second, .val (.long v15), .second, .val (.long v17), .second] [(.int (4 : Int32)), (.long v6), (.long v4), (.long v17)])) (fun t k => XS.iconst X21.here hx rfl (hb hby at_148) k) ?_
  obtain ⟨_, _, ⟨T22, L22, kk22, nn22⟩, -, X22, ⟨Lc22, hQ22, l22, y22, z22⟩, st22⟩ := Jvm.LawKit.callS X21 hx (y := (⟨"com/example/read_model_projector/readmodelprojector/engine/BackoffNextPinLaw", "expected", "(JJI)J"⟩ : MethodName)) hown (mvT hZ (hw _ (List.mem_of_getElem? (i := 28) rfl))) (mvT hZ (hw _ (List.mem_of_getElem? (i := 29) rfl))) (mvT hZ (hw _ (List.mem_of_getElem? (i := 30) rfl))) (mvT hZ (hw _ (List.mem_of_getElem? (i := 31) rfl))) (by decide) (backOf (W := 2) (rm6 l Z a0 hw [] v4 v6 (4 : Int32) T16.heap n0 (Nat.le_trans Z0 K_16.1) ) hZ (hw _ (List.mem_of_getElem? (i := 31) rfl)) (hw _ (List.mem_of_getElem? (i := 30) rfl)) (by decide) (by decide)) (g := (mkF m 149 #[.val (.long p0), .second, .val (.long p1), .second, .val (.int p2), .val (.long v1), .second, .val (.long v2), .second, .val (.long v4), .second, .val (.long v6), .second, .val (.ref b7), .val (.long v4), .second, .val (.long v11), .second, .val (.long v13), .second, .val (.long v15), .second, .val (.long v17), .second] [(.int (4 : Int32)), (.long v6), (.long v4), (.long v17)])) rfl (by rw [hml]; rfl) (argsL := [(.long v4), (.long v6), (.int (4 : Int32))]) (rest := [(.long v17)]) (lenOf pd_4 rfl) rfl (by show 2 * 0 + _ ≤ _; exact Nat.le_of_eq rfl) (hb hby at_149) (fun _ _ => ⟨rfl, eq21, (by decide : 1 + 0 ≤ _), (by decide : 2 + 0 ≤ _)⟩)
  dsimp only [Pt.U, Pt.locs, Pt.cells, Pt.slots] at X22 l22 y22 z22 st22 hQ22
  subst l22 y22 z22
  obtain ⟨rfl, N22q, eq22⟩ := hQ22
  have N22 := Fr.app N21 N22q
  refine own_step (T' := T22) (g' := (mkF m 152 #[.val (.long p0), .second, .val (.long p1), .second, .val (.int p2), .val (.long v1), .second, .val (.long v2), .second, .val (.long v4), .second, .val (.long v6), .second, .val (.ref b7), .val (.long v4), .second, .val (.long v11), .second, .val (.long v13), .second, .val (.long v15), .second, .val (.long v17), .second] [(.long (fn6 v4 v6 (4 : Int32))), (.long v17)])) st22 ?_
  refine own_step (T' := T22) (g' := (mkF m 153 #[.val (.long p0), .second, .val (.long p1), .second, .val (.int p2), .val (.long v1), .second, .val (.long v2), .second, .val (.long v4), .second, .val (.long v6), .second, .val (.ref b7), .val (.long v4), .second, .val (.long v11), .second, .val (.long v13), .second, .val (.long v15), .second, .val (.long v17), .second] [(.int (Jvm.Free.XT.cmpL v17 (fn6 v4 v6 (4 : Int32))))])) (fun t k => Jvm.Free.XT.lcmp X22.here hx rfl (hb hby at_152) rfl k) ?_
  refine own_step (T' := T22) (g' := (mkF m 156 #[.val (.long p0), .second, .val (.long p1), .second, .val (.int p2), .val (.long v1), .second, .val (.long v2), .second, .val (.long v4), .second, .val (.long v6), .second, .val (.ref b7), .val (.long v4), .second, .val (.long v11), .second, .val (.long v13), .second, .val (.long v15), .second, .val (.long v17), .second] [])) (fun t k => XS.ifNo X22.here hx rfl (hb hby at_153) rfl (Jvm.Free.XT.ll_ne_f (own_fin (by decide) hbb.1 hbb.2.1 hbb.2.2 hw4)) k) ?_
  refine own_step (T' := T22) (g' := (mkF m 157 #[.val (.long p0), .second, .val (.long p1), .second, .val (.int p2), .val (.long v1), .second, .val (.long v2), .second, .val (.long v4), .second, .val (.long v6), .second, .val (.ref b7), .val (.long v4), .second, .val (.long v11), .second, .val (.long v13), .second, .val (.long v15), .second, .val (.long v17), .second] [(.int (1 : Int32))])) (fun t k => XS.iconst X22.here hx rfl (hb hby at_156) k) ?_
  refine own_step (T' := T22) (g' := (mkF m 161 #[.val (.long p0), .second, .val (.long p1), .second, .val (.int p2), .val (.long v1), .second, .val (.long v2), .second, .val (.long v4), .second, .val (.long v6), .second, .val (.ref b7), .val (.long v4), .second, .val (.long v11), .second, .val (.long v13), .second, .val (.long v15), .second, .val (.long v17), .second] [(.int (1 : Int32))])) (fun t k => XS.goto X22.here hx rfl (pc0 := 157) (pc' := 161) rfl (hb hby at_157) (by decide) (by decide) k) ?_
  refine own_retN X22 hx hlk (t := .boolean) (w := (1 : Int32)) Bd.returns (by simp) (hb hby at_161) rfl (by decide) (by decide) ?_
  exact ⟨rfl, N22⟩
set_option maxRecDepth 65536 in
set_option maxHeartbeats 40000000 in
theorem comes_1 {Post : Tables → Env → Array Value → State → Outcome → State → Prop} (hpost : ∀ tb e args s v u, (limb_1_1.after args s (.returned v) u = true ∧ limb_1_2.after args s (.returned v) u = true ∧ True) → FrameEnd s (.returned v) u (Jvm.fieldLocs frame_1_writes args s ++ Jvm.arrayLocs frame_1_arrays args s ++ Jvm.staticLocs frame_1_statics s) 16 128 → Post tb e args s (.returned v) u) :
    ArmFor flags0 classFile x code maxLocals ret World_1 tables_1 room_1 Calls_1 rest_1 Pre_1 Post := by
  intro l hfl _ _ p e ha hc hk s m args below hf hA hF happ hP
  obtain ⟨hcalls, hrest, hpre⟩ := hP
  obtain ⟨-, -, -, hnamed, -, -, -, hat⟩ := (Spec.applies_iff hf).mp happ
  obtain ⟨hg, hn⟩ := and_e (Cond.before_iff.mp (show (Jvm.Cond.and given_1 narrow_1).before args s = true from hpre))
  obtain ⟨g0, r0⟩ := and_e hg
  obtain ⟨g1, r1⟩ := and_e r0
  obtain ⟨g2, r2⟩ := and_e r1
  obtain ⟨w0, w1, w2, rfl⟩ : ∃ w0 w1 w2 : Value, args = #[w0, w1, w2] := by
    have hs : args.size = 3 := by simpa [Cond.value, given_1] using g0
    obtain ⟨L⟩ := args
    match L, hs with
    | [w0, w1, w2], _ => exact ⟨w0, w1, w2, rfl⟩
  have hw := fun d (hd : d ∈ tables_1) => atoms_spec (ws := Jvm.Cond.code x code maxLocals ret :: tables_1) hat d (List.mem_cons_of_mem _ hd)
  have hfit : Fit s := fun {y c} hc i hi => by
    obtain ⟨ha, rfl⟩ := Array.getElem?_eq_some_iff.mp hc
    have q := List.all_eq_true.mp ((Array.all_eq_true_iff_forall_mem.mp hF) _ (Array.getElem_mem ha)) i (List.mem_range.mpr hi)
    simpa [Array.getElem?_eq_getElem hi] using q
  obtain ⟨i0, ei0⟩ := isL_v g1
  obtain rfl : w0 = (.long i0) := Option.some.inj ei0
  obtain ⟨i1, ei1⟩ := isL_v g2
  obtain rfl : w1 = (.long i1) := Option.some.inj ei1
  obtain ⟨i2, ei2⟩ := is_v r2
  obtain rfl : w2 = (.int i2) := Option.some.inj ei2
  obtain ⟨n, o, h1, h2, h3, _, L, rfl, ⟨rfl, N⟩, hq⟩ := rm0 l s _ hw tables_1 i0 i1 i2  s.heap s.heap.size (Nat.le_refl _)  p e ha hc hk s m _ below hf ((Spec.applies_iff_loose hf).mp happ).1 ⟨rfl, State.Warmed39.refl s, rfl⟩ trivial
  refine ⟨n, _, h1, h2, h3, hpost _ _ _ _ _ _ ⟨Cond.after_iff.mpr rfl, Cond.after_iff.mpr (eq_i res_at (Term.int_eval (1)) rfl), trivial⟩ ⟨hq.1, hq.2.1, (hq.2.2.sift fun y hy => Or.inr (N y hy)).mono (by decide) (by decide)⟩⟩
theorem main_1_1 : Claimed_1_1 := comes_1 fun _ _ _ _ _ _ h hF => ⟨h.1, hF⟩
theorem main_1_2 : Claimed_1_2 := comes_1 fun _ _ _ _ _ _ h hF => ⟨h.2.1, hF⟩
end Jvm.Pilot.@@N@@
namespace Jvm.Pilot.@@N@@
open Jvm Jvm.ClassFile Sem Op Lib Jvm.Free Jvm.Stand Jvm.Pilot.@@N@@.Jvm.D
/-! MADE BY PROGRAM (witnessworld.py) out of the Statement's table words and the real class files: 10 classes; the members and pool entries that the words name. The judged class is class 1, her method 2. -/
namespace start1
open Jvm.ClassFile
def u (s : String) : CpInfo := .utf8 (stringToUtf16 s)
/-- a pool by its gaps: so many unusable entries, then the entry; so many at the end -/
def gap : Nat → List CpInfo → List CpInfo
  | 0, r => r
  | n + 1, r => .unusable :: gap n r
def poolList (es : List (Nat × CpInfo)) (last : Nat) : List CpInfo := es.foldr (fun e r => gap e.1 (e.2 :: r)) (gap last [])
def pool (es : List (Nat × CpInfo)) (last : Nat) : Array CpInfo := ⟨poolList es last⟩
def fileOf (pool : Array CpInfo) (this : Nat) (attrs : Array Attribute := #[]) (ms : Array MethodInfo := #[]) (fl : Nat := 33) (sup : Nat := 0) (ifs : Array Nat := #[]) (fds : Array FieldInfo := #[]) : ClassFile where
  minorVersion := 0
  majorVersion := 65
  constantPool := pool
  accessFlags := fl
  thisClass := this
  superClass := sup
  interfaces := ifs
  fields := fds
  methods := ms
  attributes := attrs
def plain (name : String) (sup : Option ClassId) : Class where
  name := name
  kind := .ordinary
  loader := none
  accessFlags := 33
  super := sup
  interfaces := #[]
  cf := none
  fields := #[]
  methods := #[]
  instanceTypes := #[]
  staticTypes := #[]
  resolved := #[]
  callSites := []
  init := .initialized
  statics := none
  mirror := none

def pool0 : Array CpInfo := pool [(5, u "<init>"), (0, u "()V"), (1, .class_ 10), (1, u "java/lang/Object")] 113

def k0c0 : Code := { maxStack := 0, maxLocals := 1, code := object_method_1_code, exceptionTable := #[], attributes := #[] }
def k0m0 : Method := { name := "<init>", desc := "()V", sig := { parameters := [], returnType := none }, accessFlags := 1, code := some k0c0 }
/-- java/lang/Object -/
def k0 : Class := { plain "java/lang/Object" none with
  accessFlags := 33
  interfaces := #[]
  cf := some (fileOf pool0 8 #[] #[{ accessFlags := 1, nameIndex := 5, descriptorIndex := 6, attributes := #[] }] 33 0 #[] #[])
  fields := #[]
  methods := #[k0m0]
  instanceTypes := #[]
  staticTypes := #[]
  resolved := Array.replicate 124 none
  statics := none }

def pool1 : Array CpInfo := pool [(2, .class_ 4), (1, u "java/lang/Object"), (0, u "<init>"), (0, u "()V"), (0, .class_ 8), (0, u "com/example/read_model_projector/readmodelprojector/engine/BackoffNextPinLaw"), (0, .long 4611686018427387903), (1, .methodref 12 13), (0, .class_ 14), (0, .nameAndType 15 16), (0, u "java/lang/Math"), (0, u "min"), (0, u "(JJ)J"), (0, .methodref 12 18), (0, .nameAndType 19 16), (0, u "max"), (0, .class_ 21), (0, u "com/example/read_model_projector/readmodelprojector/engine/Backoff"), (0, .methodref 20 23), (0, .nameAndType 5 24), (0, u "(JJ)V"), (0, .methodref 20 26), (0, .nameAndType 27 28), (0, u "next"), (0, u "()J"), (0, .methodref 7 30), (0, .nameAndType 31 32), (0, u "expected"), (0, u "(JJI)J"), (0, u "M"), (0, u "J"), (4, u "law"), (0, u "(JJI)Z")] 2

def k1m0 : Method := { name := "<init>", desc := "()V", sig := { parameters := [], returnType := none }, accessFlags := 1, code := none }
def k1c1 : Code := { maxStack := 5, maxLocals := 5, code := method_2_code, exceptionTable := #[], attributes := #[] }
def k1m1 : Method := { name := "expected", desc := "(JJI)J", sig := { parameters := [.long, .long, .int], returnType := some .long }, accessFlags := 10, code := some k1c1 }
def k1c2 : Code := { maxStack := 7, maxLocals := 24, code := code, exceptionTable := #[], attributes := #[] }
def k1m2 : Method := { name := "law", desc := "(JJI)Z", sig := { parameters := [.long, .long, .int], returnType := some .boolean }, accessFlags := 9, code := some k1c2 }
/-- com/example/read_model_projector/readmodelprojector/engine/BackoffNextPinLaw -/
def k1 : Class := { plain "com/example/read_model_projector/readmodelprojector/engine/BackoffNextPinLaw" (some 0) with
  accessFlags := 49
  interfaces := #[]
  cf := some (fileOf pool1 7 #[] #[{ accessFlags := 1, nameIndex := 5, descriptorIndex := 6, attributes := #[] }, { accessFlags := 10, nameIndex := 31, descriptorIndex := 32, attributes := #[] }, { accessFlags := 9, nameIndex := 39, descriptorIndex := 40, attributes := #[] }] 49 2 #[] #[{ accessFlags := 26, nameIndex := 33, descriptorIndex := 34, attributes := #[] }])
  fields := #[{ name := "M", type := .long, accessFlags := 26, slot := 0, constantValue := 0 }]
  methods := #[k1m0, k1m1, k1m2]
  instanceTypes := #[]
  staticTypes := #[.long]
  resolved := Array.replicate 43 none
  statics := none }

def pool2 : Array CpInfo := pool [(1, .class_ 2), (0, u "java/lang/Math"), (1, .class_ 6), (1, u "java/lang/Object"), (0, u "<init>"), (0, u "()V"), (89, .class_ 100), (1, u "java/lang/Math$RandomNumberGeneratorHolder"), (20, u "(JJ)J"), (50, u "negativeZeroFloatBits"), (0, u "J"), (2, u "negativeZeroDoubleBits"), (21, u "max"), (2, u "min"), (43, u "$assertionsDisabled"), (0, u "Z"), (91, u "twoToTheDoubleScaleDown"), (0, u "D"), (4, u "twoToTheDoubleScaleUp"), (9, u "E"), (3, u "PI"), (2, u "TAU"), (2, u "DEGREES_TO_RADIANS"), (0, u "RADIANS_TO_DEGREES")] 94

def k2m0 : Method := { name := "<init>", desc := "()V", sig := { parameters := [], returnType := none }, accessFlags := 2, code := none }
def k2c1 : Code := { maxStack := 4, maxLocals := 4, code := jdk_29_method_66_code, exceptionTable := #[], attributes := #[] }
def k2m1 : Method := { name := "max", desc := "(JJ)J", sig := { parameters := [.long, .long], returnType := some .long }, accessFlags := 9, code := some k2c1 }
def k2c2 : Code := { maxStack := 4, maxLocals := 4, code := jdk_29_method_70_code, exceptionTable := #[], attributes := #[] }
def k2m2 : Method := { name := "min", desc := "(JJ)J", sig := { parameters := [.long, .long], returnType := some .long }, accessFlags := 9, code := some k2c2 }
/-- java/lang/Math -/
def k2 : Class := { plain "java/lang/Math" (some 0) with
  accessFlags := 49
  interfaces := #[]
  cf := some (fileOf pool2 1 #[.nestMembers #[98]] #[{ accessFlags := 2, nameIndex := 7, descriptorIndex := 8, attributes := #[] }, { accessFlags := 9, nameIndex := 198, descriptorIndex := 121, attributes := #[] }, { accessFlags := 9, nameIndex := 201, descriptorIndex := 121, attributes := #[] }] 49 4 #[] #[{ accessFlags := 25, nameIndex := 354, descriptorIndex := 339, attributes := #[] }, { accessFlags := 25, nameIndex := 358, descriptorIndex := 339, attributes := #[] }, { accessFlags := 25, nameIndex := 361, descriptorIndex := 339, attributes := #[] }, { accessFlags := 26, nameIndex := 364, descriptorIndex := 339, attributes := #[] }, { accessFlags := 26, nameIndex := 365, descriptorIndex := 339, attributes := #[] }, { accessFlags := 26, nameIndex := 172, descriptorIndex := 173, attributes := #[] }, { accessFlags := 26, nameIndex := 176, descriptorIndex := 173, attributes := #[] }, { accessFlags := 8, nameIndex := 344, descriptorIndex := 339, attributes := #[] }, { accessFlags := 8, nameIndex := 338, descriptorIndex := 339, attributes := #[] }, { accessFlags := 4120, nameIndex := 245, descriptorIndex := 246, attributes := #[] }])
  fields := #[{ name := "E", type := .double, accessFlags := 25, slot := 0, constantValue := 0 }, { name := "PI", type := .double, accessFlags := 25, slot := 1, constantValue := 0 }, { name := "TAU", type := .double, accessFlags := 25, slot := 2, constantValue := 0 }, { name := "DEGREES_TO_RADIANS", type := .double, accessFlags := 26, slot := 3, constantValue := 0 }, { name := "RADIANS_TO_DEGREES", type := .double, accessFlags := 26, slot := 4, constantValue := 0 }, { name := "negativeZeroFloatBits", type := .long, accessFlags := 26, slot := 5, constantValue := 0 }, { name := "negativeZeroDoubleBits", type := .long, accessFlags := 26, slot := 6, constantValue := 0 }, { name := "twoToTheDoubleScaleUp", type := .double, accessFlags := 8, slot := 7, constantValue := 0 }, { name := "twoToTheDoubleScaleDown", type := .double, accessFlags := 8, slot := 8, constantValue := 0 }, { name := "$assertionsDisabled", type := .boolean, accessFlags := 4120, slot := 9, constantValue := 0 }]
  methods := #[k2m0, k2m1, k2m2]
  instanceTypes := #[]
  staticTypes := #[.double, .double, .double, .double, .double, .long, .long, .double, .double, .boolean]
  resolved := Array.replicate 460 none
  statics := none }

def pool3 : Array CpInfo := pool [(1, .methodref 2 3), (0, .class_ 4), (0, .nameAndType 5 6), (0, u "java/lang/Object"), (0, u "<init>"), (0, u "()V"), (0, .fieldref 8 9), (0, .class_ 10), (0, .nameAndType 11 12), (0, u "com/example/read_model_projector/readmodelprojector/engine/Backoff"), (0, u "nextMillis"), (0, u "J"), (0, .fieldref 8 14), (0, .nameAndType 15 12), (0, u "longestMillis"), (2, u "next"), (0, u "()J"), (12, .long 2), (1, .methodref 35 36), (0, .class_ 37), (0, .nameAndType 38 39), (0, u "java/lang/Math"), (0, u "min"), (0, u "(JJ)J"), (0, u "(JJ)V")] 8

def k3c0 : Code := { maxStack := 3, maxLocals := 5, code := prog_1_method_1_code, exceptionTable := #[], attributes := #[] }
def k3m0 : Method := { name := "<init>", desc := "(JJ)V", sig := { parameters := [.long, .long], returnType := none }, accessFlags := 0, code := some k3c0 }
def k3c1 : Code := { maxStack := 5, maxLocals := 3, code := prog_1_method_3_code, exceptionTable := #[], attributes := #[] }
def k3m1 : Method := { name := "next", desc := "()J", sig := { parameters := [], returnType := some .long }, accessFlags := 0, code := some k3c1 }
/-- com/example/read_model_projector/readmodelprojector/engine/Backoff -/
def k3 : Class := { plain "com/example/read_model_projector/readmodelprojector/engine/Backoff" (some 0) with
  accessFlags := 48
  interfaces := #[]
  cf := some (fileOf pool3 8 #[] #[{ accessFlags := 0, nameIndex := 5, descriptorIndex := 40, attributes := #[] }, { accessFlags := 0, nameIndex := 18, descriptorIndex := 19, attributes := #[] }] 48 2 #[] #[{ accessFlags := 18, nameIndex := 15, descriptorIndex := 12, attributes := #[] }, { accessFlags := 2, nameIndex := 11, descriptorIndex := 12, attributes := #[] }])
  fields := #[{ name := "longestMillis", type := .long, accessFlags := 18, slot := 0, constantValue := 0 }, { name := "nextMillis", type := .long, accessFlags := 2, slot := 1, constantValue := 0 }]
  methods := #[k3m0, k3m1]
  instanceTypes := #[.long, .long]
  staticTypes := #[]
  resolved := Array.replicate 49 none
  statics := none }

def pool4 : Array CpInfo := pool [(1, u "java/lang/Cloneable"), (0, .class_ 1), (0, u "java/lang/Object"), (0, .class_ 3)] 3

/-- java/lang/Cloneable -/
def k4 : Class := { plain "java/lang/Cloneable" (some 0) with
  accessFlags := 1537
  interfaces := #[]
  cf := some (fileOf pool4 2 #[] #[] 1537 4 #[] #[])
  fields := #[]
  methods := #[]
  instanceTypes := #[]
  staticTypes := #[]
  resolved := Array.replicate 8 none
  statics := none }

def pool5 : Array CpInfo := pool [(1, u "java/io/Serializable"), (0, .class_ 1), (0, u "java/lang/Object"), (0, .class_ 3)] 3

/-- java/io/Serializable -/
def k5 : Class := { plain "java/io/Serializable" (some 0) with
  accessFlags := 1537
  interfaces := #[]
  cf := some (fileOf pool5 2 #[] #[] 1537 4 #[] #[])
  fields := #[]
  methods := #[]
  instanceTypes := #[]
  staticTypes := #[]
  resolved := Array.replicate 8 none
  statics := none }

/-- the primitive byte -/
def k6 : Class := { plain "byte" none with kind := .primitive 'B', accessFlags := 0x411 }
/-- [B -/
def k7 : Class := { plain "[B" (some 0) with kind := .array 6 .byte, interfaces := #[4, 5], accessFlags := 1041 }

/-- the primitive int -/
def k8 : Class := { plain "int" none with kind := .primitive 'I', accessFlags := 0x411 }
/-- [I -/
def k9 : Class := { plain "[I" (some 0) with kind := .array 8 .int, interfaces := #[4, 5], accessFlags := 1041 }

def heap : Heap := #[]
def classes : Array Class := #[k0, k1, k2, k3, k4, k5, k6, k7, k8, k9]
def interned : List (Array UInt16 × Addr) := []
def slotsUsed : Nat := 0
def theMethod : MethodId := ⟨1, 2⟩
def args0 : Array Value := #[.long 5, .long 7, .int 3]
def aboutOver (below : List Frame) : State where
  vm := { classes := classes, interned := interned.toArray }
  heap := heap
  slotsUsed := slotsUsed
  threads := #[{ frames := .invoking theMethod args0 :: below }]
def below0 : List Frame := [.native { method := ⟨0, 0⟩, args := #[] }]
def about1 : State := aboutOver below0
def p0 : Program := .bare "" "" ""
def e0 : Env := launch0.env 0 0 0
theorem w_frames : about1.frames = Frame.invoking theMethod args0 :: below0 := rfl
set_option maxRecDepth 65536 in
theorem w_args : argsFit about1.vm theMethod args0 = true := by decide +kernel
set_option maxRecDepth 65536 in
theorem w_heap : heapFits about1 = true := by decide +kernel
set_option maxRecDepth 65536 in
theorem w_runnable : about1.curStatus? = some .runnable := by decide +kernel
set_option maxRecDepth 65536 in
theorem w_alone : about1.alone = true := by decide +kernel
set_option maxRecDepth 65536 in
theorem w_named : about1.methodNamed? x = some theMethod := by decide +kernel
set_option maxRecDepth 65536 in
theorem w_hears : about1.hears theMethod below0 = true := by decide +kernel
set_option maxRecDepth 65536 in
theorem w_ripe : about1.ripe theMethod args0 below0 = true := by decide +kernel
theorem w_running : about1.status = .running := rfl
set_option maxRecDepth 65536 in
theorem w_room : about1.hasRoom e0.platform room_1 = true :=
  launch0.hasRoom_least _ room_1 (by decide +kernel) (by decide +kernel) (by decide +kernel) (by decide +kernel) (by decide +kernel) (by decide +kernel)
theorem allAtoms_all (ts : List Jvm.Cond) (a : Array Jvm.Value) (st : Jvm.State) : (allAtoms ts).before a st = ts.all (fun c => c.before a st) := by
  induction ts with
  | nil => rfl
  | cons c t ih =>
    show (Jvm.Cond.and c (allAtoms t)).before a st = _
    rw [Jvm.Cond.before_and, ih, List.all_cons]
def words1 : List Jvm.Cond := Jvm.Cond.code x code maxLocals ret :: tables_1
/-- a 'code' word, met by the world's own term for the bytes: nothing is compared byte by byte -/
theorem code_word {y : MethodName} {bytes : ByteArray} {mx : Nat} {rt : Option FieldType} {a : Array Value} {s : State} {m : MethodId} {meth : Method} {c : Code} (h1 : s.methodNamed? y = some m) (h2 : s.vm.method? m = some meth) (h3 : meth.code = some c) (h4 : c.code = bytes)
    (h5 : (c.maxLocals == mx && c.exceptionTable.isEmpty && decide (c.maxStack ≤ mostOperands) && decide (meth.sig.returnType = rt) && !meth.locks && decide (parseMethodDescriptor y.desc = some meth.sig)) = true) : (Jvm.Cond.code y bytes mx rt).before a s = true := by
  simp only [Bool.and_eq_true, beq_iff_eq, Bool.not_eq_true', decide_eq_true_eq] at h5
  obtain ⟨⟨⟨⟨⟨g1, g2⟩, g3⟩, g4⟩, g5⟩, g6⟩ := h5
  simp [Cond.before, Cond.holds, Cond.value, h1, h2, h3, h4, g1, g2, g3, g4, g5, g6]
def isCode : Jvm.Cond → Bool
  | .code _ _ _ _ => true
  | _ => false
theorem all_split {L : List Jvm.Cond} {P : Jvm.Cond → Bool} (h1 : L.all (fun c => isCode c || P c) = true) (h2 : ∀ c ∈ L.filter isCode, P c = true) : L.all P = true := by
  refine List.all_eq_true.mpr fun c hc => ?_
  have h := List.all_eq_true.mp h1 c hc
  rcases Bool.eq_false_or_eq_true (isCode c) with hi | hi
  · exact h2 c (List.mem_filter.mpr ⟨hc, hi⟩)
  · simpa [hi] using h
set_option maxRecDepth 65536 in
theorem w_c0 : (Jvm.Cond.code x code maxLocals ret).before args0 about1 = true := code_word (m := ⟨1, 2⟩) (meth := k1m2) (c := k1c2) (by decide +kernel) rfl rfl rfl (by decide +kernel)
set_option maxRecDepth 65536 in
theorem w_c1 : (Jvm.Cond.code ({ cls := "java/lang/Math", name := "min", desc := "(JJ)J" } : Jvm.MethodName) jdk_29_method_70_code (4 : Nat) (Option.some Jvm.ClassFile.FieldType.long)).before args0 about1 = true := code_word (m := ⟨2, 2⟩) (meth := k2m2) (c := k2c2) (by decide +kernel) rfl rfl rfl (by decide +kernel)
set_option maxRecDepth 65536 in
theorem w_c2 : (Jvm.Cond.code ({ cls := "java/lang/Math", name := "max", desc := "(JJ)J" } : Jvm.MethodName) jdk_29_method_66_code (4 : Nat) (Option.some Jvm.ClassFile.FieldType.long)).before args0 about1 = true := code_word (m := ⟨2, 1⟩) (meth := k2m1) (c := k2c1) (by decide +kernel) rfl rfl rfl (by decide +kernel)
set_option maxRecDepth 65536 in
theorem w_c3 : (Jvm.Cond.code ({ cls := "com/example/read_model_projector/readmodelprojector/engine/Backoff", name := "<init>", desc := "(JJ)V" } : Jvm.MethodName) prog_1_method_1_code (5 : Nat) (Option.none : Option Jvm.ClassFile.FieldType)).before args0 about1 = true := code_word (m := ⟨3, 0⟩) (meth := k3m0) (c := k3c0) (by decide +kernel) rfl rfl rfl (by decide +kernel)
set_option maxRecDepth 65536 in
theorem w_c4 : (Jvm.Cond.code ({ cls := "java/lang/Object", name := "<init>", desc := "()V" } : Jvm.MethodName) object_method_1_code (1 : Nat) (Option.none : Option Jvm.ClassFile.FieldType)).before args0 about1 = true := code_word (m := ⟨0, 0⟩) (meth := k0m0) (c := k0c0) (by decide +kernel) rfl rfl rfl (by decide +kernel)
set_option maxRecDepth 65536 in
theorem w_c5 : (Jvm.Cond.code ({ cls := "com/example/read_model_projector/readmodelprojector/engine/Backoff", name := "next", desc := "()J" } : Jvm.MethodName) prog_1_method_3_code (3 : Nat) (Option.some Jvm.ClassFile.FieldType.long)).before args0 about1 = true := code_word (m := ⟨3, 1⟩) (meth := k3m1) (c := k3c1) (by decide +kernel) rfl rfl rfl (by decide +kernel)
set_option maxRecDepth 65536 in
theorem w_c6 : (Jvm.Cond.code ({ cls := "com/example/read_model_projector/readmodelprojector/engine/BackoffNextPinLaw", name := "expected", desc := "(JJI)J" } : Jvm.MethodName) method_2_code (5 : Nat) (Option.some Jvm.ClassFile.FieldType.long)).before args0 about1 = true := code_word (m := ⟨1, 1⟩) (meth := k1m1) (c := k1c1) (by decide +kernel) rfl rfl rfl (by decide +kernel)
def codes1 : List Jvm.Cond := [Jvm.Cond.code x code maxLocals ret, Jvm.Cond.code ({ cls := "java/lang/Math", name := "min", desc := "(JJ)J" } : Jvm.MethodName) jdk_29_method_70_code (4 : Nat) (Option.some Jvm.ClassFile.FieldType.long), Jvm.Cond.code ({ cls := "java/lang/Math", name := "max", desc := "(JJ)J" } : Jvm.MethodName) jdk_29_method_66_code (4 : Nat) (Option.some Jvm.ClassFile.FieldType.long), Jvm.Cond.code ({ cls := "com/example/read_model_projector/readmodelprojector/engine/Backoff", name := "<init>", desc := "(JJ)V" } : Jvm.MethodName) prog_1_method_1_code (5 : Nat) (Option.none : Option Jvm.ClassFile.FieldType), Jvm.Cond.code ({ cls := "java/lang/Object", name := "<init>", desc := "()V" } : Jvm.MethodName) object_method_1_code (1 : Nat) (Option.none : Option Jvm.ClassFile.FieldType), Jvm.Cond.code ({ cls := "com/example/read_model_projector/readmodelprojector/engine/Backoff", name := "next", desc := "()J" } : Jvm.MethodName) prog_1_method_3_code (3 : Nat) (Option.some Jvm.ClassFile.FieldType.long), Jvm.Cond.code ({ cls := "com/example/read_model_projector/readmodelprojector/engine/BackoffNextPinLaw", name := "expected", desc := "(JJI)J" } : Jvm.MethodName) method_2_code (5 : Nat) (Option.some Jvm.ClassFile.FieldType.long)]
set_option maxRecDepth 65536 in
theorem codes_eq : words1.filter isCode = codes1 := rfl
theorem w_codes : ∀ c ∈ words1.filter isCode, c.before args0 about1 = true := by
  rw [codes_eq]
  intro c hc
  simp only [codes1, List.mem_cons, List.not_mem_nil, or_false] at hc
  rcases hc with rfl | rfl | rfl | rfl | rfl | rfl | rfl
  · exact w_c0
  · exact w_c1
  · exact w_c2
  · exact w_c3
  · exact w_c4
  · exact w_c5
  · exact w_c6
set_option maxRecDepth 65536 in
theorem w_t1 : (words1.take 24).all (fun c => isCode c || c.before args0 about1) = true := by decide +kernel
set_option maxRecDepth 65536 in
theorem w_t2 : (words1.drop 24).all (fun c => isCode c || c.before args0 about1) = true := by decide +kernel
theorem w_tables : (allAtoms (Jvm.Cond.code x code maxLocals ret :: tables_1)).before args0 about1 = true := by
  rw [allAtoms_all]
  show words1.all (fun c => c.before args0 about1) = true
  refine all_split ?_ w_codes
  rw [← List.take_append_drop 24 words1, List.all_append, w_t1, w_t2]
  rfl
set_option maxRecDepth 65536 in
theorem w_case : (Jvm.Cond.and given_1 narrow_1).before args0 about1 = true := by decide +kernel
theorem w_applies : (headSpec (Jvm.Cond.code x code maxLocals ret :: tables_1) room_1).applies x e0.platform about1 = true :=
  (Spec.applies_iff w_frames).mpr ⟨w_running, w_runnable, w_alone, w_named, w_hears, w_ripe, w_room, w_tables⟩
theorem atStart : AtStart classFile x code maxLocals ret World_1 tables_1 room_1 Calls_1 rest_1 Pre_1 launch0 p0 e0 about1 theMethod args0 below0 :=
  ⟨lists_1, trivial, launch0.admits_env _ _ _, launch0.least_env, fairChoices_fair.cas, fairChoices_fair.clock, w_frames, w_args, w_heap, w_applies, trivial, trivial, w_case⟩
end start1
theorem witness_1 : WitnessClaimed_1 := ⟨start1.p0, start1.e0, start1.about1, start1.theMethod, start1.args0, start1.below0, start1.atStart⟩
end Jvm.Pilot.@@N@@
