import JvmDerived
import JvmDerived.Pilot.@@N@@Statement
import JvmDerived.Pilot.@@N@@Code
set_option linter.unusedVariables false
set_option linter.unusedSimpArgs false
@@BLOCK:NumsL.lean.txt@@
namespace Jvm.Pilot.@@N@@
open Jvm Jvm.ClassFile Sem Op Lib Jvm.Free Jvm.Stand Jvm.LawKit Jvm.RoadKit Bundle Jvm.Pilot.@@N@@.Jvm.D

section OwnKit
variable {p : Program} {l : Launch} {e : Env} {R : Room} {s : State} {m : MethodId} {args : Array Value} {below : List Frame} {meth : Method} {c : Code} {T T' : State} {locs : List Loc} {cells slots : Nat} {Z : State} {h h' : Heap}
/-- from the state T with the frame g on top the run ends well -/
def own_G (p : Program) (e : Env) (below : List Frame) (s : State) (kc ks : Nat) (Q : Option Value → Heap → List Loc → Prop) (T : State) (g : JFrame) : Prop :=
  ∃ (U : State) (o : Outcome), Steps p.tables e below (T.setTop g) U ∧ U.status = .running ∧ Ended U below o ∧ ∃ v L, o = .returned v ∧ Q v U.heap L ∧ FrameEnd s o U L kc ks
variable {kc ks : Nat} {Q : Option Value → Heap → List Loc → Prop}
theorem own_step {g g' : JFrame} (k : ∀ t, Steps p.tables e below (T'.setTop g') t → Steps p.tables e below (T.setTop g) t) (hh : own_G p e below s kc ks Q T' g') : own_G p e below s kc ks Q T g := by
  obtain ⟨U, o, h1, h2⟩ := hh
  exact ⟨U, o, k _ h1, h2⟩
theorem own_retN (X : Stand p l e R s m args below meth c T locs cells slots) (hx : p.tables.exec = Jvm.exec) (hlk : meth.locks = false) {pc : Nat} {Ls : Array Slot} {z w : Int32} {t : FieldType} {rest : List Value} (hret : meth.sig.returnType = some t) (ht : t = .boolean ∨ t = .byte ∨ t = .char ∨ t = .short) (hd : decode c.code pc = .ok (.ireturn, 1)) (hw : nar t z = w) (hc : cells ≤ kc) (hs : slots ≤ ks) (hQ : Q (some (.int w)) T.heap locs) :
    own_G p e below s kc ks Q T (mkF m pc Ls (.int z :: rest)) := by
  subst hw
  obtain ⟨fs, hr, hrun, hended, hW, hsame⟩ := X.leave (v := some (.int (nar t z))) (fun q => by rw [hret] at q; cases q) hlk
  exact ⟨_, _, retN X hx hret ht hd hr, hrun, hended, _, _, rfl, hQ, ⟨_, rfl⟩, hW, hsame.mono hc hs⟩
theorem own_retI (X : Stand p l e R s m args below meth c T locs cells slots) (hx : p.tables.exec = Jvm.exec) (hlk : meth.locks = false) {pc : Nat} {Ls : Array Slot} {z : Int32} {rest : List Value} (hret : meth.sig.returnType = some .int) (hd : decode c.code pc = .ok (.ireturn, 1)) (hc : cells ≤ kc) (hs : slots ≤ ks) (hQ : Q (some (.int z)) T.heap locs) :
    own_G p e below s kc ks Q T (mkF m pc Ls (.int z :: rest)) := by
  obtain ⟨fs, hr, hrun, hended, hW, hsame⟩ := X.leave (v := some (.int z)) (fun q => by rw [hret] at q; cases q) hlk
  exact ⟨_, _, retOut X hx hret rfl (Or.inl ⟨rfl, Or.inl rfl, z, rfl⟩) hd hr, hrun, hended, _, _, rfl, hQ, ⟨_, rfl⟩, hW, hsame.mono hc hs⟩
theorem own_retJ (X : Stand p l e R s m args below meth c T locs cells slots) (hx : p.tables.exec = Jvm.exec) (hlk : meth.locks = false) {pc : Nat} {Ls : Array Slot} {z : Int64} {rest : List Value} (hret : meth.sig.returnType = some .long) (hd : decode c.code pc = .ok (.lreturn, 1)) (hc : cells ≤ kc) (hs : slots ≤ ks) (hQ : Q (some (.long z)) T.heap locs) :
    own_G p e below s kc ks Q T (mkF m pc Ls (.long z :: rest)) := by
  obtain ⟨fs, hr, hrun, hended, hW, hsame⟩ := X.leave (v := some (.long z)) (fun q => by rw [hret] at q; cases q) hlk
  exact ⟨_, _, retOut X hx hret rfl (Or.inr (Or.inl ⟨rfl, rfl, z, rfl⟩)) hd hr, hrun, hended, _, _, rfl, hQ, ⟨_, rfl⟩, hW, hsame.mono hc hs⟩
theorem own_retR (X : Stand p l e R s m args below meth c T locs cells slots) (hx : p.tables.exec = Jvm.exec) (hlk : meth.locks = false) {pc : Nat} {Ls : Array Slot} {w : Value} {t : FieldType} {rest : List Value} (hret : meth.sig.returnType = some t) (ht : t.isReference = true) (hw : w.isRef = true) (hd : decode c.code pc = .ok (.areturn, 1)) (hc : cells ≤ kc) (hs : slots ≤ ks) (hQ : Q (some w) T.heap locs) :
    own_G p e below s kc ks Q T (mkF m pc Ls (w :: rest)) := by
  obtain ⟨fs, hr, hrun, hended, hW, hsame⟩ := X.leave (v := some w) (fun q => by rw [hret] at q; cases q) hlk
  have hn : narrow t w = w := by cases w <;> cases t <;> first | rfl | (cases hw; done) | (cases ht; done)
  exact ⟨_, _, retOut X hx hret hn (Or.inr (Or.inr (Or.inr (Or.inr ⟨rfl, ht, hw⟩)))) hd hr, hrun, hended, _, _, rfl, hQ, ⟨_, rfl⟩, hW, hsame.mono hc hs⟩
theorem own_retV (X : Stand p l e R s m args below meth c T locs cells slots) (hx : p.tables.exec = Jvm.exec) (hlk : meth.locks = false) {pc : Nat} {Ls : Array Slot} (hret : meth.sig.returnType = none) (hd : decode c.code pc = .ok (.return_, 1)) (hc : cells ≤ kc) (hs : slots ≤ ks) (hQ : Q none T.heap locs) :
    own_G p e below s kc ks Q T (mkF m pc Ls []) := by
  obtain ⟨fs, hr, hrun, hended, hW, hsame⟩ := X.leave (v := none) (fun _ => rfl) hlk
  exact ⟨_, _, X.returnOut hx hret hd hr, hrun, hended, _, _, rfl, hQ, ⟨_, rfl⟩, hW, hsame.mono hc hs⟩
theorem own_lksw (X : Stand p l e R s m args below meth c T locs cells slots) (hx : p.tables.exec = Jvm.exec) {g : JFrame} (hg : g.method = m) {d : Int} {prs : Array (Int × Int)} {len : Nat} (hd : decode c.code g.pc = .ok (.lookupswitch d prs, len)) {x : Int32} {rest : List Value} (hs : g.stack = .int x :: rest) (hp : (prs.toList.zip (prs.toList.drop 1)).all (fun (a, next) => a.1 < next.1) = true)
    {o : Int} (ho : lookupswitch.offset prs.toList d x.toInt = o) {pc0 pc' : Nat} (hpc : g.pc = pc0) (h0 : 0 ≤ (pc0 : Int) + o) (hq : ((pc0 : Int) + o).toNat = pc') {target : State}
    (k : Steps p.tables e below (T.setTop { g with pc := pc', stack := rest }) target) : Steps p.tables e below (T.setTop g) target := by
  subst hg hpc hq ho
  jvm_step X.here [X.here.top, hx, hd, hs, lookupswitch.wp_chain, hp, h0]
  exact ⟨by simpa using hp, k⟩
theorem own_sta_keep {C n d : String} {v : Value} {ws : List Addr} (F : Sta Z h C n d v) (K : Keep h h' ws) (q : ∀ a ∈ ws, ∀ cell : Cell, h[a]? = some cell → cell.vm.isStatics = false) : Sta Z h' C n d v := by
  obtain ⟨cf, i, k, f, st, cell, h1, h2, h3, h4, h5, h6, h7⟩ := F
  exact ⟨cf, i, k, f, st, cell, h1, h2, h3, h4, K.2.1 st cell h5 (fun hm => by rw [q st hm cell h5] at h6; cases h6), h6, h7⟩
end OwnKit
theorem pd_0 : parseMethodDescriptor "(I)Lcom/example/risk_rule_engine/riskruleengine/rules/Arithmetic;" = some ⟨[.int], some (.object "com/example/risk_rule_engine/riskruleengine/rules/Arithmetic")⟩ := by decide +kernel
theorem pd_1 : parseMethodDescriptor "()Z" = some ⟨[], some .boolean⟩ := by decide +kernel
theorem pd_2 : parseMethodDescriptor "()C" = some ⟨[], some .char⟩ := by decide +kernel
theorem pn_0 : plainName "com/example/risk_rule_engine/riskruleengine/rules/ArithmeticMultipliesPinLaw" = true := by first | (simp [plainName, overriddenIn]; done) | decide +kernel
theorem d1_0 : decode method_2_code 0 = .ok (.iload_n 0, 1) := by decide +kernel
theorem d1_1 : decode method_2_code 1 = .ok (.ifCond .ne 7, 3) := by decide +kernel
theorem d1_4 : decode method_2_code 4 = .ok (.getstatic 7, 3) := by decide +kernel
theorem d1_7 : decode method_2_code 7 = .ok (.areturn, 1) := by decide +kernel
theorem d1_8 : decode method_2_code 8 = .ok (.iload_n 0, 1) := by decide +kernel
theorem d1_9 : decode method_2_code 9 = .ok (.iconst 1, 1) := by decide +kernel
theorem d1_10 : decode method_2_code 10 = .ok (.if_icmp .ne 7, 3) := by decide +kernel
theorem d1_13 : decode method_2_code 13 = .ok (.getstatic 13, 3) := by decide +kernel
theorem d1_16 : decode method_2_code 16 = .ok (.areturn, 1) := by decide +kernel
theorem d1_17 : decode method_2_code 17 = .ok (.iload_n 0, 1) := by decide +kernel
theorem d1_18 : decode method_2_code 18 = .ok (.iconst 2, 1) := by decide +kernel
theorem d1_19 : decode method_2_code 19 = .ok (.if_icmp .ne 7, 3) := by decide +kernel
theorem d1_22 : decode method_2_code 22 = .ok (.getstatic 16, 3) := by decide +kernel
theorem d1_25 : decode method_2_code 25 = .ok (.areturn, 1) := by decide +kernel
theorem d1_26 : decode method_2_code 26 = .ok (.getstatic 19, 3) := by decide +kernel
theorem d1_29 : decode method_2_code 29 = .ok (.areturn, 1) := by decide +kernel
theorem pn_1 : plainName "com/example/risk_rule_engine/riskruleengine/rules/ArithmeticMultipliesPinLaw" = true := by first | (simp [plainName, overriddenIn]; done) | decide +kernel
theorem d2_0 : decode prog_11_method_5_code 0 = .ok (.aload_n 0, 1) := by decide +kernel
theorem d2_1 : decode prog_11_method_5_code 1 = .ok (.getstatic 10, 3) := by decide +kernel
theorem d2_4 : decode prog_11_method_5_code 4 = .ok (.if_acmp .eq 10, 3) := by decide +kernel
theorem d2_7 : decode prog_11_method_5_code 7 = .ok (.aload_n 0, 1) := by decide +kernel
theorem d2_8 : decode prog_11_method_5_code 8 = .ok (.getstatic 13, 3) := by decide +kernel
theorem d2_11 : decode prog_11_method_5_code 11 = .ok (.if_acmp .ne 7, 3) := by decide +kernel
theorem d2_14 : decode prog_11_method_5_code 14 = .ok (.iconst 1, 1) := by decide +kernel
theorem d2_15 : decode prog_11_method_5_code 15 = .ok (.goto 4, 3) := by decide +kernel
theorem d2_18 : decode prog_11_method_5_code 18 = .ok (.iconst 0, 1) := by decide +kernel
theorem d2_19 : decode prog_11_method_5_code 19 = .ok (.ireturn, 1) := by decide +kernel
theorem pn_2 : plainName "com/example/risk_rule_engine/riskruleengine/rules/Arithmetic" = true := by first | (simp [plainName, overriddenIn]; done) | decide +kernel
theorem d3_0 : decode prog_11_method_4_code 0 = .ok (.aload_n 0, 1) := by decide +kernel
theorem d3_1 : decode prog_11_method_4_code 1 = .ok (.getfield 35, 3) := by decide +kernel
theorem d3_4 : decode prog_11_method_4_code 4 = .ok (.ireturn, 1) := by decide +kernel
theorem pn_3 : plainName "com/example/risk_rule_engine/riskruleengine/rules/Arithmetic" = true := by first | (simp [plainName, overriddenIn]; done) | decide +kernel

theorem own_eqI {args : Array Value} {first s : State} {o : Option Outcome} {idx : List Nat} {t : Term} {n : Int32} (h : (Cond.eq t (.int n)).value args first o s idx = some true) : t.eval args first o idx s = some (.int n) := by
  simp only [Cond.value, Term.eval] at h
  cases ht : t.eval args first o idx s with
  | none => simp [ht] at h
  | some x => cases x <;> simp [ht] at h ⊢; exact h
theorem own_eqR {args : Array Value} {first s : State} {o : Option Outcome} {idx : List Nat} {t u : Term} {a : Addr} (hu : u.eval args first o idx s = some (.ref a)) (h : (Cond.eq t u).value args first o s idx = some true) : t.eval args first o idx s = some (.ref a) := by
  simp only [Cond.value, hu] at h
  cases ht : t.eval args first o idx s with
  | none => simp [ht] at h
  | some x => cases x <;> simp [ht] at h ⊢; exact h
theorem own_el {args : Array Value} {s : State} {t : Term} {a : Addr} {c : Cell} {ty : FieldType} {i : Int32} {v : Value} (A : Arr s s.heap a c ty) (ev : t.eval args s none [] s = some (.ref a)) (he : (Term.elem t (.int i)).eval args s none [] s = some v) (k : Nat) (hk : i.toNatClampNeg = k) : c.slots[k]? = some v := by
  subst hk
  exact (elem_in he ev rfl A.1).2
theorem own_arv {args : Array Value} {s : State} {t : Term} {a : Addr} {c : Cell} {ty : FieldType} {z : Int32} {vs : List Value} {dv : Value} (hf : Fit s) (A : Arr s s.heap a c ty) (ev : t.eval args s none [] s = some (.ref a)) (hl : (Term.length t).eval args s none [] s = some (.int z)) (hz : ¬ z < 0) (hle : z.toNatClampNeg = vs.length) (H : HasL c 0 vs) : Arv s s.heap a c.cls ty z vs dv := by
  have hA := A.fin (Vm.Alike.refl _)
  by_cases q : c.slots.size < 2 ^ 31
  · have e := (len_f ev hA q).symm.trans hl
    injection e with e
    injection e with e
    exact Arv.start hf A q e hz hle H
  · simp [Term.eval, ev, hA, q] at hl
def fn1 (p0 : Int32) (a_ADD : Addr) (a_SUBTRACT : Addr) (a_MULTIPLY : Addr) (a_DIVIDE : Addr) : Addr := if p0 = (0 : Int32) then a_ADD else if p0 = (1 : Int32) then a_SUBTRACT else if p0 = (2 : Int32) then a_MULTIPLY else a_DIVIDE
theorem ef_rm1 (m : MethodId) (x0 : Int32) : entryFrame m #[(.int x0)] 1 = mkF m 0 #[.val (.int x0)] [] := by first | (simp [entryFrame, mkF, argsToLocals, Value.category]; done) | rfl
def Qrm1 (Z : State) (p0 : Int32) (a_ADD : Addr) (a_SUBTRACT : Addr) (a_MULTIPLY : Addr) (a_DIVIDE : Addr) (h0 : Heap) (n0 : Nat) (v : Option Value) (h : Heap) (L : List Loc) : Prop := v = some (.ref (fn1 p0 a_ADD a_SUBTRACT a_MULTIPLY a_DIVIDE)) ∧ Fr n0 L ∧ h = h0
set_option maxRecDepth 65536 in
set_option maxHeartbeats 40000000 in
theorem rm1 (l : Launch) (Z : State) (a0 : Array Value) (hw : ∀ d ∈ tables_1, d.before a0 Z = true) (ws : List Jvm.Cond) (p0 : Int32) (a_ADD : Addr) (a_SUBTRACT : Addr) (a_MULTIPLY : Addr) (a_DIVIDE : Addr) (h0 : Heap) (n0 : Nat) (Z0 : n0 ≤ h0.size) (S_ADD : Sta Z h0 "com/example/risk_rule_engine/riskruleengine/rules/Arithmetic" "ADD" "Lcom/example/risk_rule_engine/riskruleengine/rules/Arithmetic;" (.ref a_ADD)) (S_SUBTRACT : Sta Z h0 "com/example/risk_rule_engine/riskruleengine/rules/Arithmetic" "SUBTRACT" "Lcom/example/risk_rule_engine/riskruleengine/rules/Arithmetic;" (.ref a_SUBTRACT)) (S_MULTIPLY : Sta Z h0 "com/example/risk_rule_engine/riskruleengine/rules/Arithmetic" "MULTIPLY" "Lcom/example/risk_rule_engine/riskruleengine/rules/Arithmetic;" (.ref a_MULTIPLY)) (S_DIVIDE : Sta Z h0 "com/example/risk_rule_engine/riskruleengine/rules/Arithmetic" "DIVIDE" "Lcom/example/risk_rule_engine/riskruleengine/rules/Arithmetic;" (.ref a_DIVIDE)) :
    MetFree l (⟨"com/example/risk_rule_engine/riskruleengine/rules/ArithmeticMultipliesPinLaw", "pick", "(I)Lcom/example/risk_rule_engine/riskruleengine/rules/Arithmetic;"⟩ : MethodName) (head1 (Jvm.Cond.code (⟨"com/example/risk_rule_engine/riskruleengine/rules/ArithmeticMultipliesPinLaw", "pick", "(I)Lcom/example/risk_rule_engine/riskruleengine/rules/Arithmetic;"⟩ : MethodName) method_2_code 1 (some (.object "com/example/risk_rule_engine/riskruleengine/rules/Arithmetic")) :: ws) ({ frames := 0, cells := 0, slots := 0, locals := 0 } : Room)) (fun a U => a = #[(.int p0)] ∧ Z.Warmed39 U.vm ∧ U.heap = h0) (fun _ _ _ _ _ => True) (fun _ U o U' => ∃ v L, o = .returned v ∧ Qrm1 Z p0 a_ADD a_SUBTRACT a_MULTIPLY a_DIVIDE h0 n0 v U'.heap L ∧ FrameEnd U o U' L ({ frames := 0, cells := 0, slots := 0, locals := 0 } : Room).cells ({ frames := 0, cells := 0, slots := 0, locals := 0 } : Room).slots) := by
  refine MetFree.of_bodySF (plainFor_of_name pn_1) hisR ?_
  intro p e s m args below meth c s₁ Bd hml0 hP hK
  obtain ⟨rfl, hZ, hh⟩ := hP
  have hx := Bd.exec
  have hby := Bd.bytes
  have hlk : meth.locks = false := BodyLoose.notSynchronized Bd
  have hml : c.maxLocals = 1 := hml0
  have hown : s.vm.findClass "com/example/risk_rule_engine/riskruleengine/rules/ArithmeticMultipliesPinLaw" = some m.cls := findClass_of_methodNamed Bd.named
  have hnm := (name_of_methodNamed Bd.named Bd.method).1
  have X0 : Stand p l e ({ frames := 0, cells := 0, slots := 0, locals := 0 } : Room) s m #[(.int p0)] below meth c s₁ [] 0 0 := Stand.of_body Bd
  have e0 : s₁.heap = h0 := by rw [← hh, Bd.state]; rfl
  have N0 := Fr.nil n0
  have K0 : Keep h0 h0 [] := Keep.refl h0 []
  show own_G p e below s 0 0 (Qrm1 Z p0 a_ADD a_SUBTRACT a_MULTIPLY a_DIVIDE h0 n0) s₁ (entryFrame m #[(.int p0)] 1)
  rw [ef_rm1 m p0]
  refine own_step (T' := s₁) (g' := (mkF m 1 #[.val (.int p0)] [(.int p0)])) (fun t k => XS.iloadN X0.here hx rfl (hb hby d1_0) rfl k) ?_
  by_cases hc1_1 : p0 = (0 : Int32)
  · refine own_step (T' := s₁) (g' := (mkF m 4 #[.val (.int p0)] [])) (fun t k => XS.ifNo X0.here hx rfl (hb hby d1_1) rfl ((if0 _ _).trans (teq hc1_1).2) k) ?_
    obtain ⟨T2, X2, e2, st2⟩ := getS2 X0 hx hZ hown (host := "") (Or.inl (hw _ (List.mem_of_getElem? (i := 4) rfl))) Via.refl e0 S_ADD (g := (mkF m 4 #[.val (.int p0)] [])) rfl (hb hby d1_4)
    refine own_step (T' := T2) (g' := (mkF m 7 #[.val (.int p0)] [(.ref a_ADD)])) st2 ?_
    refine own_retR X2 hx hlk Bd.returns rfl rfl (hb hby d1_7) (by decide) (by decide) ?_
    exact ⟨congrArg some (congrArg Value.ref (show a_ADD = (fn1 p0 a_ADD a_SUBTRACT a_MULTIPLY a_DIVIDE) from by unfold fn1; rw [if_pos hc1_1])), N0, e2⟩
  · refine own_step (T' := s₁) (g' := (mkF m 8 #[.val (.int p0)] [])) (fun t k => XS.ifYes X0.here hx rfl (pc0 := 1) (pc' := 8) rfl (hb hby d1_1) rfl ((if0 _ _).trans (feq hc1_1).2) (by decide) (by decide) k) ?_
    refine own_step (T' := s₁) (g' := (mkF m 9 #[.val (.int p0)] [(.int p0)])) (fun t k => XS.iloadN X0.here hx rfl (hb hby d1_8) rfl k) ?_
    refine own_step (T' := s₁) (g' := (mkF m 10 #[.val (.int p0)] [(.int (1 : Int32)), (.int p0)])) (fun t k => XS.iconst X0.here hx rfl (hb hby d1_9) k) ?_
    by_cases hc10_4 : p0 = (1 : Int32)
    · refine own_step (T' := s₁) (g' := (mkF m 13 #[.val (.int p0)] [])) (fun t k => XS.icmpNo X0.here hx rfl (hb hby d1_10) rfl (teq hc10_4).2 k) ?_
      obtain ⟨T5, X5, e5, st5⟩ := getS2 X0 hx hZ hown (host := "") (Or.inl (hw _ (List.mem_of_getElem? (i := 25) rfl))) Via.refl e0 S_SUBTRACT (g := (mkF m 13 #[.val (.int p0)] [])) rfl (hb hby d1_13)
      refine own_step (T' := T5) (g' := (mkF m 16 #[.val (.int p0)] [(.ref a_SUBTRACT)])) st5 ?_
      refine own_retR X5 hx hlk Bd.returns rfl rfl (hb hby d1_16) (by decide) (by decide) ?_
      exact ⟨congrArg some (congrArg Value.ref (show a_SUBTRACT = (fn1 p0 a_ADD a_SUBTRACT a_MULTIPLY a_DIVIDE) from by unfold fn1; rw [if_neg hc1_1, if_pos hc10_4])), N0, e5⟩
    · refine own_step (T' := s₁) (g' := (mkF m 17 #[.val (.int p0)] [])) (fun t k => XS.icmpYes X0.here hx rfl (pc0 := 10) (pc' := 17) rfl (hb hby d1_10) rfl (feq hc10_4).2 (by decide) (by decide) k) ?_
      refine own_step (T' := s₁) (g' := (mkF m 18 #[.val (.int p0)] [(.int p0)])) (fun t k => XS.iloadN X0.here hx rfl (hb hby d1_17) rfl k) ?_
      refine own_step (T' := s₁) (g' := (mkF m 19 #[.val (.int p0)] [(.int (2 : Int32)), (.int p0)])) (fun t k => XS.iconst X0.here hx rfl (hb hby d1_18) k) ?_
      by_cases hc19_7 : p0 = (2 : Int32)
      · refine own_step (T' := s₁) (g' := (mkF m 22 #[.val (.int p0)] [])) (fun t k => XS.icmpNo X0.here hx rfl (hb hby d1_19) rfl (teq hc19_7).2 k) ?_
        obtain ⟨T8, X8, e8, st8⟩ := getS2 X0 hx hZ hown (host := "") (Or.inl (hw _ (List.mem_of_getElem? (i := 24) rfl))) Via.refl e0 S_MULTIPLY (g := (mkF m 22 #[.val (.int p0)] [])) rfl (hb hby d1_22)
        refine own_step (T' := T8) (g' := (mkF m 25 #[.val (.int p0)] [(.ref a_MULTIPLY)])) st8 ?_
        refine own_retR X8 hx hlk Bd.returns rfl rfl (hb hby d1_25) (by decide) (by decide) ?_
        exact ⟨congrArg some (congrArg Value.ref (show a_MULTIPLY = (fn1 p0 a_ADD a_SUBTRACT a_MULTIPLY a_DIVIDE) from by unfold fn1; rw [if_neg hc1_1, if_neg hc10_4, if_pos hc19_7])), N0, e8⟩
      · refine own_step (T' := s₁) (g' := (mkF m 26 #[.val (.int p0)] [])) (fun t k => XS.icmpYes X0.here hx rfl (pc0 := 19) (pc' := 26) rfl (hb hby d1_19) rfl (feq hc19_7).2 (by decide) (by decide) k) ?_
        obtain ⟨T10, X10, e10, st10⟩ := getS2 X0 hx hZ hown (host := "") (Or.inl (hw _ (List.mem_of_getElem? (i := 23) rfl))) Via.refl e0 S_DIVIDE (g := (mkF m 26 #[.val (.int p0)] [])) rfl (hb hby d1_26)
        refine own_step (T' := T10) (g' := (mkF m 29 #[.val (.int p0)] [(.ref a_DIVIDE)])) st10 ?_
        refine own_retR X10 hx hlk Bd.returns rfl rfl (hb hby d1_29) (by decide) (by decide) ?_
        exact ⟨congrArg some (congrArg Value.ref (show a_DIVIDE = (fn1 p0 a_ADD a_SUBTRACT a_MULTIPLY a_DIVIDE) from by unfold fn1; rw [if_neg hc1_1, if_neg hc10_4, if_neg hc19_7])), N0, e10⟩
def fn2 (p0 : Addr) (a_MULTIPLY : Addr) (a_DIVIDE : Addr) : Int32 := if p0 = a_MULTIPLY then (1 : Int32) else if p0 = a_DIVIDE then (1 : Int32) else (0 : Int32)
theorem ef_rm2 (m : MethodId) (x0 : Addr) : entryFrame m #[(.ref x0)] 1 = mkF m 0 #[.val (.ref x0)] [] := by first | (simp [entryFrame, mkF, argsToLocals, Value.category]; done) | rfl
def Qrm2 (Z : State) (p0 : Addr) (a_MULTIPLY : Addr) (a_DIVIDE : Addr) (h0 : Heap) (n0 : Nat) (v : Option Value) (h : Heap) (L : List Loc) : Prop := v = some (.int (fn2 p0 a_MULTIPLY a_DIVIDE)) ∧ Fr n0 L ∧ h = h0
set_option maxRecDepth 65536 in
set_option maxHeartbeats 40000000 in
theorem rm2 (l : Launch) (Z : State) (a0 : Array Value) (hw : ∀ d ∈ tables_1, d.before a0 Z = true) (ws : List Jvm.Cond) (p0 : Addr) (a_MULTIPLY : Addr) (a_DIVIDE : Addr) (h0 : Heap) (n0 : Nat) (Z0 : n0 ≤ h0.size) (S_MULTIPLY : Sta Z h0 "com/example/risk_rule_engine/riskruleengine/rules/Arithmetic" "MULTIPLY" "Lcom/example/risk_rule_engine/riskruleengine/rules/Arithmetic;" (.ref a_MULTIPLY)) (S_DIVIDE : Sta Z h0 "com/example/risk_rule_engine/riskruleengine/rules/Arithmetic" "DIVIDE" "Lcom/example/risk_rule_engine/riskruleengine/rules/Arithmetic;" (.ref a_DIVIDE)) :
    MetFree l (⟨"com/example/risk_rule_engine/riskruleengine/rules/Arithmetic", "multiplies", "()Z"⟩ : MethodName) (head1 (Jvm.Cond.code (⟨"com/example/risk_rule_engine/riskruleengine/rules/Arithmetic", "multiplies", "()Z"⟩ : MethodName) prog_11_method_5_code 1 (some .boolean) :: ws) ({ frames := 0, cells := 0, slots := 0, locals := 0 } : Room)) (fun a U => a = #[(.ref p0)] ∧ Z.Warmed39 U.vm ∧ U.heap = h0) (fun _ _ _ _ _ => True) (fun _ U o U' => ∃ v L, o = .returned v ∧ Qrm2 Z p0 a_MULTIPLY a_DIVIDE h0 n0 v U'.heap L ∧ FrameEnd U o U' L ({ frames := 0, cells := 0, slots := 0, locals := 0 } : Room).cells ({ frames := 0, cells := 0, slots := 0, locals := 0 } : Room).slots) := by
  refine MetFree.of_bodySF (plainFor_of_name pn_2) hisR ?_
  intro p e s m args below meth c s₁ Bd hml0 hP hK
  obtain ⟨rfl, hZ, hh⟩ := hP
  have hx := Bd.exec
  have hby := Bd.bytes
  have hlk : meth.locks = false := BodyLoose.notSynchronized Bd
  have hml : c.maxLocals = 1 := hml0
  have hown : s.vm.findClass "com/example/risk_rule_engine/riskruleengine/rules/Arithmetic" = some m.cls := findClass_of_methodNamed Bd.named
  have hnm := (name_of_methodNamed Bd.named Bd.method).1
  have X0 : Stand p l e ({ frames := 0, cells := 0, slots := 0, locals := 0 } : Room) s m #[(.ref p0)] below meth c s₁ [] 0 0 := Stand.of_body Bd
  have e0 : s₁.heap = h0 := by rw [← hh, Bd.state]; rfl
  have N0 := Fr.nil n0
  have K0 : Keep h0 h0 [] := Keep.refl h0 []
  show own_G p e below s 0 0 (Qrm2 Z p0 a_MULTIPLY a_DIVIDE h0 n0) s₁ (entryFrame m #[(.ref p0)] 1)
  rw [ef_rm2 m p0]
  refine own_step (T' := s₁) (g' := (mkF m 1 #[.val (.ref p0)] [(.ref p0)])) (fun t k => XS.aloadN X0.here hx rfl (hb hby d2_0) rfl rfl k) ?_
  obtain ⟨T1, X1, e1, st1⟩ := getS2 X0 hx hZ hown (host := "") (Or.inl (hw _ (List.mem_of_getElem? (i := 12) rfl))) Via.refl e0 S_MULTIPLY (g := (mkF m 1 #[.val (.ref p0)] [(.ref p0)])) rfl (hb hby d2_1)
  refine own_step (T' := T1) (g' := (mkF m 4 #[.val (.ref p0)] [(.ref a_MULTIPLY), (.ref p0)])) st1 ?_
  by_cases ha4_2 : p0 = a_MULTIPLY
  · refine own_step (T' := T1) (g' := (mkF m 14 #[.val (.ref p0)] [])) (fun t k => Jvm.RoadKit.acmp (g := (mkF m 4 #[.val (.ref p0)] [(.ref a_MULTIPLY), (.ref p0)])) X1 hx rfl rfl rfl (pc0 := 4) (pc' := 14) (same := true) rfl (hb hby d2_4) rfl (decide_eq_true (congrArg Value.ref ha4_2)) (by decide) (by decide) k) ?_
    refine own_step (T' := T1) (g' := (mkF m 15 #[.val (.ref p0)] [(.int (1 : Int32))])) (fun t k => XS.iconst X1.here hx rfl (hb hby d2_14) k) ?_
    refine own_step (T' := T1) (g' := (mkF m 19 #[.val (.ref p0)] [(.int (1 : Int32))])) (fun t k => XS.goto X1.here hx rfl (pc0 := 15) (pc' := 19) rfl (hb hby d2_15) (by decide) (by decide) k) ?_
    refine own_retN X1 hx hlk (t := .boolean) (w := (1 : Int32)) Bd.returns (by simp) (hb hby d2_19) rfl (by decide) (by decide) ?_
    exact ⟨congrArg some (congrArg Value.int (show (1 : Int32) = (fn2 p0 a_MULTIPLY a_DIVIDE) from by unfold fn2; rw [if_pos ha4_2])), N0, e1⟩
  · refine own_step (T' := T1) (g' := (mkF m 7 #[.val (.ref p0)] [])) (fun t k => Jvm.RoadKit.acmp (g := (mkF m 4 #[.val (.ref p0)] [(.ref a_MULTIPLY), (.ref p0)])) X1 hx rfl rfl rfl (pc0 := 4) (pc' := 7) (same := false) rfl (hb hby d2_4) rfl (decide_eq_false fun q => ha4_2 (Value.ref.inj q)) (by decide) (by decide) k) ?_
    refine own_step (T' := T1) (g' := (mkF m 8 #[.val (.ref p0)] [(.ref p0)])) (fun t k => XS.aloadN X1.here hx rfl (hb hby d2_7) rfl rfl k) ?_
    obtain ⟨T4, X4, e4, st4⟩ := getS2 X1 hx hZ hown (host := "") (Or.inl (hw _ (List.mem_of_getElem? (i := 14) rfl))) Via.refl e1 S_DIVIDE (g := (mkF m 8 #[.val (.ref p0)] [(.ref p0)])) rfl (hb hby d2_8)
    refine own_step (T' := T4) (g' := (mkF m 11 #[.val (.ref p0)] [(.ref a_DIVIDE), (.ref p0)])) st4 ?_
    by_cases ha11_5 : p0 = a_DIVIDE
    · refine own_step (T' := T4) (g' := (mkF m 14 #[.val (.ref p0)] [])) (fun t k => Jvm.RoadKit.acmp (g := (mkF m 11 #[.val (.ref p0)] [(.ref a_DIVIDE), (.ref p0)])) X4 hx rfl rfl rfl (pc0 := 11) (pc' := 14) (same := true) rfl (hb hby d2_11) rfl (decide_eq_true (congrArg Value.ref ha11_5)) (by decide) (by decide) k) ?_
      refine own_step (T' := T4) (g' := (mkF m 15 #[.val (.ref p0)] [(.int (1 : Int32))])) (fun t k => XS.iconst X4.here hx rfl (hb hby d2_14) k) ?_
      refine own_step (T' := T4) (g' := (mkF m 19 #[.val (.ref p0)] [(.int (1 : Int32))])) (fun t k => XS.goto X4.here hx rfl (pc0 := 15) (pc' := 19) rfl (hb hby d2_15) (by decide) (by decide) k) ?_
      refine own_retN X4 hx hlk (t := .boolean) (w := (1 : Int32)) Bd.returns (by simp) (hb hby d2_19) rfl (by decide) (by decide) ?_
      exact ⟨congrArg some (congrArg Value.int (show (1 : Int32) = (fn2 p0 a_MULTIPLY a_DIVIDE) from by unfold fn2; rw [if_neg ha4_2, if_pos ha11_5])), N0, e4⟩
    · refine own_step (T' := T4) (g' := (mkF m 18 #[.val (.ref p0)] [])) (fun t k => Jvm.RoadKit.acmp (g := (mkF m 11 #[.val (.ref p0)] [(.ref a_DIVIDE), (.ref p0)])) X4 hx rfl rfl rfl (pc0 := 11) (pc' := 18) (same := false) rfl (hb hby d2_11) rfl (decide_eq_false fun q => ha11_5 (Value.ref.inj q)) (by decide) (by decide) k) ?_
      refine own_step (T' := T4) (g' := (mkF m 19 #[.val (.ref p0)] [(.int (0 : Int32))])) (fun t k => XS.iconst X4.here hx rfl (hb hby d2_18) k) ?_
      refine own_retN X4 hx hlk (t := .boolean) (w := (0 : Int32)) Bd.returns (by simp) (hb hby d2_19) rfl (by decide) (by decide) ?_
      exact ⟨congrArg some (congrArg Value.int (show (0 : Int32) = (fn2 p0 a_MULTIPLY a_DIVIDE) from by unfold fn2; rw [if_neg ha4_2, if_neg ha11_5])), N0, e4⟩
def fn3 (w0 : Int32) : Int32 := (nar .char w0)
theorem ef_rm3 (m : MethodId) (x0 : Addr) : entryFrame m #[(.ref x0)] 1 = mkF m 0 #[.val (.ref x0)] [] := by first | (simp [entryFrame, mkF, argsToLocals, Value.category]; done) | rfl
def Qrm3 (Z : State) (p0 : Addr) (w0 : Int32) (h0 : Heap) (n0 : Nat) (v : Option Value) (h : Heap) (L : List Loc) : Prop := v = some (.int (fn3 w0)) ∧ Fr n0 L ∧ h = h0
set_option maxRecDepth 65536 in
set_option maxHeartbeats 40000000 in
theorem rm3 (l : Launch) (Z : State) (a0 : Array Value) (hw : ∀ d ∈ tables_1, d.before a0 Z = true) (ws : List Jvm.Cond) (p0 : Addr) (w0 : Int32) (h0 : Heap) (n0 : Nat) (Z0 : n0 ≤ h0.size) (F_symbol_p0 : Fld Z h0 p0 "com/example/risk_rule_engine/riskruleengine/rules/Arithmetic" "symbol" "C" (.int w0)) :
    MetFree l (⟨"com/example/risk_rule_engine/riskruleengine/rules/Arithmetic", "symbol", "()C"⟩ : MethodName) (head1 (Jvm.Cond.code (⟨"com/example/risk_rule_engine/riskruleengine/rules/Arithmetic", "symbol", "()C"⟩ : MethodName) prog_11_method_4_code 1 (some .char) :: ws) ({ frames := 0, cells := 0, slots := 0, locals := 0 } : Room)) (fun a U => a = #[(.ref p0)] ∧ Z.Warmed39 U.vm ∧ U.heap = h0) (fun _ _ _ _ _ => True) (fun _ U o U' => ∃ v L, o = .returned v ∧ Qrm3 Z p0 w0 h0 n0 v U'.heap L ∧ FrameEnd U o U' L ({ frames := 0, cells := 0, slots := 0, locals := 0 } : Room).cells ({ frames := 0, cells := 0, slots := 0, locals := 0 } : Room).slots) := by
  refine MetFree.of_bodySF (plainFor_of_name pn_3) hisR ?_
  intro p e s m args below meth c s₁ Bd hml0 hP hK
  obtain ⟨rfl, hZ, hh⟩ := hP
  have hx := Bd.exec
  have hby := Bd.bytes
  have hlk : meth.locks = false := BodyLoose.notSynchronized Bd
  have hml : c.maxLocals = 1 := hml0
  have hown : s.vm.findClass "com/example/risk_rule_engine/riskruleengine/rules/Arithmetic" = some m.cls := findClass_of_methodNamed Bd.named
  have hnm := (name_of_methodNamed Bd.named Bd.method).1
  have X0 : Stand p l e ({ frames := 0, cells := 0, slots := 0, locals := 0 } : Room) s m #[(.ref p0)] below meth c s₁ [] 0 0 := Stand.of_body Bd
  have e0 : s₁.heap = h0 := by rw [← hh, Bd.state]; rfl
  have N0 := Fr.nil n0
  have K0 : Keep h0 h0 [] := Keep.refl h0 []
  show own_G p e below s 0 0 (Qrm3 Z p0 w0 h0 n0) s₁ (entryFrame m #[(.ref p0)] 1)
  rw [ef_rm3 m p0]
  refine own_step (T' := s₁) (g' := (mkF m 1 #[.val (.ref p0)] [(.ref p0)])) (fun t k => XS.aloadN X0.here hx rfl (hb hby d3_0) rfl rfl k) ?_
  obtain ⟨T1, X1, e1, st1⟩ := getF X0 hx hZ hown (host := "") (Or.inl (hw _ (List.mem_of_getElem? (i := 21) rfl))) Via.refl e0 F_symbol_p0 (g := (mkF m 1 #[.val (.ref p0)] [(.ref p0)])) rfl rfl (hb hby d3_1)
  refine own_step (T' := T1) (g' := (mkF m 4 #[.val (.ref p0)] [(.int w0)])) st1 ?_
  refine own_retN X1 hx hlk (t := .char) (w := (nar .char w0)) Bd.returns (by simp) (hb hby d3_4) rfl (by decide) (by decide) ?_
  exact ⟨congrArg some (congrArg Value.int (show (nar .char w0) = (fn3 w0) from by rfl)), N0, e1⟩

theorem own_and3 (x v : Int32) (hv : x &&& 3 = v) : v = 0 ∨ v = 1 ∨ v = 2 ∨ v = 3 := by
  have e : (x &&& 3).toInt = x.toInt % 2 ^ 2 := Jvm.Kit.i32_mask x 3 (k := 2) (by decide) (by decide)
  rw [hv] at e
  simp only [← Int32.toInt_inj, Int32.reduceToInt]
  omega
theorem ef_rm0 (m : MethodId) (x0 : Int32) : entryFrame m #[(.int x0)] maxLocals = mkF m 0 #[.val (.int x0), .unset, .unset, .unset, .unset, .unset, .unset] [] := by first | (simp [entryFrame, mkF, argsToLocals, Value.category, maxLocals]; done) | rfl
def Qrm0 (Z : State) (p0 : Int32) (a_ADD : Addr) (a_SUBTRACT : Addr) (a_MULTIPLY : Addr) (a_DIVIDE : Addr) (h0 : Heap) (n0 : Nat) (v : Option Value) (h : Heap) (L : List Loc) : Prop := v = some (.int (1 : Int32)) ∧ Fr n0 L
set_option maxRecDepth 65536 in
set_option maxHeartbeats 40000000 in
theorem rm0 (l : Launch) (Z : State) (a0 : Array Value) (hw : ∀ d ∈ tables_1, d.before a0 Z = true) (ws : List Jvm.Cond) (p0 : Int32) (a_ADD : Addr) (a_SUBTRACT : Addr) (a_MULTIPLY : Addr) (a_DIVIDE : Addr) (h0 : Heap) (n0 : Nat) (Z0 : n0 ≤ h0.size) (S_ADD : Sta Z h0 "com/example/risk_rule_engine/riskruleengine/rules/Arithmetic" "ADD" "Lcom/example/risk_rule_engine/riskruleengine/rules/Arithmetic;" (.ref a_ADD)) (S_SUBTRACT : Sta Z h0 "com/example/risk_rule_engine/riskruleengine/rules/Arithmetic" "SUBTRACT" "Lcom/example/risk_rule_engine/riskruleengine/rules/Arithmetic;" (.ref a_SUBTRACT)) (S_MULTIPLY : Sta Z h0 "com/example/risk_rule_engine/riskruleengine/rules/Arithmetic" "MULTIPLY" "Lcom/example/risk_rule_engine/riskruleengine/rules/Arithmetic;" (.ref a_MULTIPLY)) (S_DIVIDE : Sta Z h0 "com/example/risk_rule_engine/riskruleengine/rules/Arithmetic" "DIVIDE" "Lcom/example/risk_rule_engine/riskruleengine/rules/Arithmetic;" (.ref a_DIVIDE)) (E_a_ADD : Exa Z h0 a_ADD "com/example/risk_rule_engine/riskruleengine/rules/Arithmetic") (E_a_SUBTRACT : Exa Z h0 a_SUBTRACT "com/example/risk_rule_engine/riskruleengine/rules/Arithmetic") (E_a_MULTIPLY : Exa Z h0 a_MULTIPLY "com/example/risk_rule_engine/riskruleengine/rules/Arithmetic") (E_a_DIVIDE : Exa Z h0 a_DIVIDE "com/example/risk_rule_engine/riskruleengine/rules/Arithmetic") (F_symbol_a_ADD : Fld Z h0 a_ADD "com/example/risk_rule_engine/riskruleengine/rules/Arithmetic" "symbol" "C" (.int (43 : Int32))) (F_symbol_a_SUBTRACT : Fld Z h0 a_SUBTRACT "com/example/risk_rule_engine/riskruleengine/rules/Arithmetic" "symbol" "C" (.int (45 : Int32))) (F_symbol_a_MULTIPLY : Fld Z h0 a_MULTIPLY "com/example/risk_rule_engine/riskruleengine/rules/Arithmetic" "symbol" "C" (.int (42 : Int32))) (F_symbol_a_DIVIDE : Fld Z h0 a_DIVIDE "com/example/risk_rule_engine/riskruleengine/rules/Arithmetic" "symbol" "C" (.int (47 : Int32))) (ne_ADD_SUBTRACT : a_ADD ≠ a_SUBTRACT) (ne_ADD_MULTIPLY : a_ADD ≠ a_MULTIPLY) (ne_ADD_DIVIDE : a_ADD ≠ a_DIVIDE) (ne_SUBTRACT_MULTIPLY : a_SUBTRACT ≠ a_MULTIPLY) (ne_SUBTRACT_DIVIDE : a_SUBTRACT ≠ a_DIVIDE) (ne_MULTIPLY_DIVIDE : a_MULTIPLY ≠ a_DIVIDE) :
    MetFree l x (head1 (Jvm.Cond.code x code maxLocals ret :: ws) room_1) (fun a U => a = #[(.int p0)] ∧ Z.Warmed39 U.vm ∧ U.heap = h0) (fun _ _ _ _ _ => True) (fun _ U o U' => ∃ v L, o = .returned v ∧ Qrm0 Z p0 a_ADD a_SUBTRACT a_MULTIPLY a_DIVIDE h0 n0 v U'.heap L ∧ FrameEnd U o U' L 0 0) := by
  refine MetFree.of_bodySF (plainFor_of_name pn_0) hisR ?_
  intro p e s m args below meth c s₁ Bd hml0 hP hK
  obtain ⟨rfl, hZ, hh⟩ := hP
  have hx := Bd.exec
  have hby := Bd.bytes
  have hlk : meth.locks = false := BodyLoose.notSynchronized Bd
  have hml : c.maxLocals = 7 := hml0
  have hown : s.vm.findClass "com/example/risk_rule_engine/riskruleengine/rules/ArithmeticMultipliesPinLaw" = some m.cls := findClass_of_methodNamed Bd.named
  have hnm := (name_of_methodNamed Bd.named Bd.method).1
  have X0 : Stand p l e room_1 s m #[(.int p0)] below meth c s₁ [] 0 0 := Stand.of_body Bd
  have e0 : s₁.heap = h0 := by rw [← hh, Bd.state]; rfl
  have N0 := Fr.nil n0
  have K0 : Keep h0 h0 [] := Keep.refl h0 []
  show own_G p e below s 0 0 (Qrm0 Z p0 a_ADD a_SUBTRACT a_MULTIPLY a_DIVIDE h0 n0) s₁ (entryFrame m #[(.int p0)] maxLocals)
  rw [ef_rm0 m p0]
  refine own_step (T' := s₁) (g' := (mkF m 1 #[.val (.int p0), .unset, .unset, .unset, .unset, .unset, .unset] [(.int p0)])) (fun t k => XS.iloadN X0.here hx rfl (hb hby at_0) rfl k) ?_
  refine own_step (T' := s₁) (g' := (mkF m 2 #[.val (.int p0), .unset, .unset, .unset, .unset, .unset, .unset] [(.int (3 : Int32)), (.int p0)])) (fun t k => XS.iconst X0.here hx rfl (hb hby at_1) k) ?_
  refine own_step (T' := s₁) (g' := (mkF m 3 #[.val (.int p0), .unset, .unset, .unset, .unset, .unset, .unset] [(.int (p0 &&& (3 : Int32)))])) (fun t k => XS.iand X0.here hx rfl (hb hby at_2) rfl k) ?_
  generalize hv1 : (p0 &&& (3 : Int32)) = v1
  refine own_step (T' := s₁) (g' := (mkF m 4 #[.val (.int p0), .val (.int v1), .unset, .unset, .unset, .unset, .unset] [])) (fun t k => XS.istoreN X0.here hx rfl (hb hby at_3) rfl (l' := #[.val (.int p0), .val (.int v1), .unset, .unset, .unset, .unset, .unset]) rfl k) ?_
  rcases own_and3 p0 v1 hv1 with rfl | rfl | rfl | rfl
  · skip
    refine own_step (T' := s₁) (g' := (mkF m 5 #[.val (.int p0), .val (.int (0 : Int32)), .unset, .unset, .unset, .unset, .unset] [(.int (0 : Int32))])) (fun t k => XS.iloadN X0.here hx rfl (hb hby at_4) rfl k) ?_
    obtain ⟨_, _, ⟨T2, L2, kk2, nn2⟩, -, X2, ⟨Lc2, hQ2, l2, y2, z2⟩, st2⟩ := Jvm.LawKit.callS X0 hx (y := (⟨"com/example/risk_rule_engine/riskruleengine/rules/ArithmeticMultipliesPinLaw", "pick", "(I)Lcom/example/risk_rule_engine/riskruleengine/rules/Arithmetic;"⟩ : MethodName)) hown (mvT hZ (hw _ (List.mem_of_getElem? (i := 0) rfl))) (mvT hZ (hw _ (List.mem_of_getElem? (i := 1) rfl))) (mvT hZ (hw _ (List.mem_of_getElem? (i := 2) rfl))) (mvT hZ (hw _ (List.mem_of_getElem? (i := 3) rfl))) (by decide) (backOf (W := 0) (rm1 l Z a0 hw [] (0 : Int32) a_ADD a_SUBTRACT a_MULTIPLY a_DIVIDE h0 n0 (Nat.le_trans Z0 K0.1) S_ADD S_SUBTRACT S_MULTIPLY S_DIVIDE) hZ (hw _ (List.mem_of_getElem? (i := 3) rfl)) (hw _ (List.mem_of_getElem? (i := 2) rfl)) (by decide) (by decide)) (g := (mkF m 5 #[.val (.int p0), .val (.int (0 : Int32)), .unset, .unset, .unset, .unset, .unset] [(.int (0 : Int32))])) rfl (by rw [hml]; rfl) (argsL := [(.int (0 : Int32))]) (rest := []) (lenOf pd_0 rfl) rfl (by show 2 * 0 + _ ≤ _; exact Nat.le_of_eq rfl) (hb hby at_5) (fun _ _ => ⟨rfl, e0, (by decide : 0 + 0 ≤ _), (by decide : 0 + 0 ≤ _)⟩)
    dsimp only [Pt.U, Pt.locs, Pt.cells, Pt.slots] at X2 l2 y2 z2 st2 hQ2
    subst l2 y2 z2
    obtain ⟨rfl, N2q, eq2⟩ := hQ2
    have N2 := Fr.app N0 N2q
    refine own_step (T' := T2) (g' := (mkF m 8 #[.val (.int p0), .val (.int (0 : Int32)), .unset, .unset, .unset, .unset, .unset] [(.ref a_ADD)])) st2 ?_
    refine own_step (T' := T2) (g' := (mkF m 9 #[.val (.int p0), .val (.int (0 : Int32)), .val (.ref a_ADD), .unset, .unset, .unset, .unset] [])) (fun t k => XS.astoreN X2.here hx rfl (hb hby at_8) rfl rfl (l' := #[.val (.int p0), .val (.int (0 : Int32)), .val (.ref a_ADD), .unset, .unset, .unset, .unset]) rfl k) ?_
    refine own_step (T' := T2) (g' := (mkF m 10 #[.val (.int p0), .val (.int (0 : Int32)), .val (.ref a_ADD), .unset, .unset, .unset, .unset] [(.ref a_ADD)])) (fun t k => XS.aloadN X2.here hx rfl (hb hby at_9) rfl rfl k) ?_
    obtain ⟨cq3, kq3, qq3a, qq3b, qq3c⟩ := isOf hZ eq2 E_a_ADD
    obtain ⟨_, _, ⟨T3, L3, kk3, nn3⟩, -, X3, ⟨Lc3, hQ3, l3, y3, z3⟩, st3⟩ := X2.virtualBack hx (y := (⟨"com/example/risk_rule_engine/riskruleengine/rules/Arithmetic", "multiplies", "()Z"⟩ : MethodName)) (z := (⟨"com/example/risk_rule_engine/riskruleengine/rules/Arithmetic", "multiplies", "()Z"⟩ : MethodName)) hown (mvT hZ (hw _ (List.mem_of_getElem? (i := 7) rfl))) (mvT hZ (hw _ (List.mem_of_getElem? (i := 8) rfl))) (notFace_of_selects (args := #[]) (mvT hZ (hw _ (List.mem_of_getElem? (i := 10) rfl)))) (mvT hZ (hw _ (List.mem_of_getElem? (i := 10) rfl))) (mvT hZ (hw _ (List.mem_of_getElem? (i := 9) rfl))) (by decide) (backOf (W := 0) (rm2 l Z a0 hw [] a_ADD a_MULTIPLY a_DIVIDE h0 n0 (Nat.le_trans Z0 K0.1) S_MULTIPLY S_DIVIDE) hZ (hw _ (List.mem_of_getElem? (i := 11) rfl)) (hw _ (List.mem_of_getElem? (i := 5) rfl)) (by decide) (by decide)) qq3a qq3c (g := (mkF m 10 #[.val (.int p0), .val (.int (0 : Int32)), .val (.ref a_ADD), .unset, .unset, .unset, .unset] [(.ref a_ADD)])) rfl (by rw [hml]; rfl) (Steps.refl _) (argsL := []) (rest := []) (lenOf pd_1 rfl) rfl (by show 2 * 0 + _ ≤ _; exact Nat.le_of_eq rfl) (hb hby at_10) (fun _ _ => ⟨rfl, eq2, (by decide : 0 + 0 ≤ _), (by decide : 0 + 0 ≤ _)⟩)
    dsimp only [Pt.U, Pt.locs, Pt.cells, Pt.slots] at X3 l3 y3 z3 st3 hQ3
    subst l3 y3 z3
    obtain ⟨rfl, N3q, eq3⟩ := hQ3
    have N3 := Fr.app N2 N3q
    refine own_step (T' := T3) (g' := (mkF m 13 #[.val (.int p0), .val (.int (0 : Int32)), .val (.ref a_ADD), .unset, .unset, .unset, .unset] [(.int (fn2 a_ADD a_MULTIPLY a_DIVIDE))])) (fun t k => st3.trans k) ?_
    generalize hv4 : (fn2 a_ADD a_MULTIPLY a_DIVIDE) = v4
    refine own_step (T' := T3) (g' := (mkF m 14 #[.val (.int p0), .val (.int (0 : Int32)), .val (.ref a_ADD), .val (.int v4), .unset, .unset, .unset] [])) (fun t k => XS.istoreN X3.here hx rfl (hb hby at_13) rfl (l' := #[.val (.int p0), .val (.int (0 : Int32)), .val (.ref a_ADD), .val (.int v4), .unset, .unset, .unset]) rfl k) ?_
    refine own_step (T' := T3) (g' := (mkF m 15 #[.val (.int p0), .val (.int (0 : Int32)), .val (.ref a_ADD), .val (.int v4), .unset, .unset, .unset] [(.ref a_ADD)])) (fun t k => XS.aloadN X3.here hx rfl (hb hby at_14) rfl rfl k) ?_
    obtain ⟨cq5, kq5, qq5a, qq5b, qq5c⟩ := isOf hZ eq3 E_a_ADD
    obtain ⟨_, _, ⟨T5, L5, kk5, nn5⟩, -, X5, ⟨Lc5, hQ5, l5, y5, z5⟩, st5⟩ := X3.virtualBack hx (y := (⟨"com/example/risk_rule_engine/riskruleengine/rules/Arithmetic", "symbol", "()C"⟩ : MethodName)) (z := (⟨"com/example/risk_rule_engine/riskruleengine/rules/Arithmetic", "symbol", "()C"⟩ : MethodName)) hown (mvT hZ (hw _ (List.mem_of_getElem? (i := 16) rfl))) (mvT hZ (hw _ (List.mem_of_getElem? (i := 17) rfl))) (notFace_of_selects (args := #[]) (mvT hZ (hw _ (List.mem_of_getElem? (i := 19) rfl)))) (mvT hZ (hw _ (List.mem_of_getElem? (i := 19) rfl))) (mvT hZ (hw _ (List.mem_of_getElem? (i := 18) rfl))) (by decide) (backOf (W := 0) (rm3 l Z a0 hw [] a_ADD (43 : Int32) h0 n0 (Nat.le_trans Z0 K0.1) F_symbol_a_ADD) hZ (hw _ (List.mem_of_getElem? (i := 20) rfl)) (hw _ (List.mem_of_getElem? (i := 5) rfl)) (by decide) (by decide)) qq5a qq5c (g := (mkF m 15 #[.val (.int p0), .val (.int (0 : Int32)), .val (.ref a_ADD), .val (.int v4), .unset, .unset, .unset] [(.ref a_ADD)])) rfl (by rw [hml]; rfl) (Steps.refl _) (argsL := []) (rest := []) (lenOf pd_2 rfl) rfl (by show 2 * 0 + _ ≤ _; exact Nat.le_of_eq rfl) (hb hby at_15) (fun _ _ => ⟨rfl, eq3, (by decide : 0 + 0 ≤ _), (by decide : 0 + 0 ≤ _)⟩)
    dsimp only [Pt.U, Pt.locs, Pt.cells, Pt.slots] at X5 l5 y5 z5 st5 hQ5
    subst l5 y5 z5
    obtain ⟨rfl, N5q, eq5⟩ := hQ5
    have N5 := Fr.app N3 N5q
    refine own_step (T' := T5) (g' := (mkF m 18 #[.val (.int p0), .val (.int (0 : Int32)), .val (.ref a_ADD), .val (.int v4), .unset, .unset, .unset] [(.int (43 : Int32))])) (fun t k => st5.trans k) ?_
    refine own_step (T' := T5) (g' := (mkF m 20 #[.val (.int p0), .val (.int (0 : Int32)), .val (.ref a_ADD), .val (.int v4), .val (.int (43 : Int32)), .unset, .unset] [])) (fun t k => XS.istore X5.here hx rfl (hb hby at_18) rfl (l' := #[.val (.int p0), .val (.int (0 : Int32)), .val (.ref a_ADD), .val (.int v4), .val (.int (43 : Int32)), .unset, .unset]) rfl k) ?_
    refine own_step (T' := T5) (g' := (mkF m 22 #[.val (.int p0), .val (.int (0 : Int32)), .val (.ref a_ADD), .val (.int v4), .val (.int (43 : Int32)), .unset, .unset] [(.int (43 : Int32))])) (fun t k => XS.iload X5.here hx rfl (hb hby at_20) rfl k) ?_
    refine own_step (T' := T5) (g' := (mkF m 24 #[.val (.int p0), .val (.int (0 : Int32)), .val (.ref a_ADD), .val (.int v4), .val (.int (43 : Int32)), .unset, .unset] [(.int (42 : Int32)), (.int (43 : Int32))])) (fun t k => XS.bipush X5.here hx rfl (hb hby at_22) k) ?_
    refine own_step (T' := T5) (g' := (mkF m 27 #[.val (.int p0), .val (.int (0 : Int32)), .val (.ref a_ADD), .val (.int v4), .val (.int (43 : Int32)), .unset, .unset] [])) (fun t k => XS.icmpNo X5.here hx rfl (hb hby at_24) rfl (feq (by decide : ¬ ((43 : Int32) = (42 : Int32)))).1 k) ?_
    refine own_step (T' := T5) (g' := (mkF m 29 #[.val (.int p0), .val (.int (0 : Int32)), .val (.ref a_ADD), .val (.int v4), .val (.int (43 : Int32)), .unset, .unset] [(.int (43 : Int32))])) (fun t k => XS.iload X5.here hx rfl (hb hby at_27) rfl k) ?_
    refine own_step (T' := T5) (g' := (mkF m 31 #[.val (.int p0), .val (.int (0 : Int32)), .val (.ref a_ADD), .val (.int v4), .val (.int (43 : Int32)), .unset, .unset] [(.int (47 : Int32)), (.int (43 : Int32))])) (fun t k => XS.bipush X5.here hx rfl (hb hby at_29) k) ?_
    refine own_step (T' := T5) (g' := (mkF m 38 #[.val (.int p0), .val (.int (0 : Int32)), .val (.ref a_ADD), .val (.int v4), .val (.int (43 : Int32)), .unset, .unset] [])) (fun t k => XS.icmpYes X5.here hx rfl (pc0 := 31) (pc' := 38) rfl (hb hby at_31) rfl (feq (by decide : ¬ ((43 : Int32) = (47 : Int32)))).2 (by decide) (by decide) k) ?_
    refine own_step (T' := T5) (g' := (mkF m 39 #[.val (.int p0), .val (.int (0 : Int32)), .val (.ref a_ADD), .val (.int v4), .val (.int (43 : Int32)), .unset, .unset] [(.int (0 : Int32))])) (fun t k => XS.iconst X5.here hx rfl (hb hby at_38) k) ?_
    refine own_step (T' := T5) (g' := (mkF m 41 #[.val (.int p0), .val (.int (0 : Int32)), .val (.ref a_ADD), .val (.int v4), .val (.int (43 : Int32)), .val (.int (0 : Int32)), .unset] [])) (fun t k => XS.istore X5.here hx rfl (hb hby at_39) rfl (l' := #[.val (.int p0), .val (.int (0 : Int32)), .val (.ref a_ADD), .val (.int v4), .val (.int (43 : Int32)), .val (.int (0 : Int32)), .unset]) rfl k) ?_
    refine own_step (T' := T5) (g' := (mkF m 42 #[.val (.int p0), .val (.int (0 : Int32)), .val (.ref a_ADD), .val (.int v4), .val (.int (43 : Int32)), .val (.int (0 : Int32)), .unset] [(.int (0 : Int32))])) (fun t k => XS.iloadN X5.here hx rfl (hb hby at_41) rfl k) ?_
    refine own_step (T' := T5) (g' := (mkF m 43 #[.val (.int p0), .val (.int (0 : Int32)), .val (.ref a_ADD), .val (.int v4), .val (.int (43 : Int32)), .val (.int (0 : Int32)), .unset] [(.int (2 : Int32)), (.int (0 : Int32))])) (fun t k => XS.iconst X5.here hx rfl (hb hby at_42) k) ?_
    refine own_step (T' := T5) (g' := (mkF m 50 #[.val (.int p0), .val (.int (0 : Int32)), .val (.ref a_ADD), .val (.int v4), .val (.int (43 : Int32)), .val (.int (0 : Int32)), .unset] [])) (fun t k => XS.icmpYes X5.here hx rfl (pc0 := 43) (pc' := 50) rfl (hb hby at_43) rfl (tlt (by decide : (0 : Int32) < (2 : Int32))).1 (by decide) (by decide) k) ?_
    refine own_step (T' := T5) (g' := (mkF m 51 #[.val (.int p0), .val (.int (0 : Int32)), .val (.ref a_ADD), .val (.int v4), .val (.int (43 : Int32)), .val (.int (0 : Int32)), .unset] [(.int (0 : Int32))])) (fun t k => XS.iconst X5.here hx rfl (hb hby at_50) k) ?_
    refine own_step (T' := T5) (g' := (mkF m 53 #[.val (.int p0), .val (.int (0 : Int32)), .val (.ref a_ADD), .val (.int v4), .val (.int (43 : Int32)), .val (.int (0 : Int32)), .val (.int (0 : Int32))] [])) (fun t k => XS.istore X5.here hx rfl (hb hby at_51) rfl (l' := #[.val (.int p0), .val (.int (0 : Int32)), .val (.ref a_ADD), .val (.int v4), .val (.int (43 : Int32)), .val (.int (0 : Int32)), .val (.int (0 : Int32))]) rfl k) ?_
    refine own_step (T' := T5) (g' := (mkF m 54 #[.val (.int p0), .val (.int (0 : Int32)), .val (.ref a_ADD), .val (.int v4), .val (.int (43 : Int32)), .val (.int (0 : Int32)), .val (.int (0 : Int32))] [(.int v4)])) (fun t k => XS.iloadN X5.here hx rfl (hb hby at_53) rfl k) ?_
    refine own_step (T' := T5) (g' := (mkF m 56 #[.val (.int p0), .val (.int (0 : Int32)), .val (.ref a_ADD), .val (.int v4), .val (.int (43 : Int32)), .val (.int (0 : Int32)), .val (.int (0 : Int32))] [(.int (0 : Int32)), (.int v4)])) (fun t k => XS.iload X5.here hx rfl (hb hby at_54) rfl k) ?_
    refine own_step (T' := T5) (g' := (mkF m 59 #[.val (.int p0), .val (.int (0 : Int32)), .val (.ref a_ADD), .val (.int v4), .val (.int (43 : Int32)), .val (.int (0 : Int32)), .val (.int (0 : Int32))] [])) (fun t k => XS.icmpNo X5.here hx rfl (hb hby at_56) rfl (teq (by rw [← hv4]; unfold fn2; rw [if_neg ne_ADD_MULTIPLY, if_neg ne_ADD_DIVIDE])).2 k) ?_
    refine own_step (T' := T5) (g' := (mkF m 60 #[.val (.int p0), .val (.int (0 : Int32)), .val (.ref a_ADD), .val (.int v4), .val (.int (43 : Int32)), .val (.int (0 : Int32)), .val (.int (0 : Int32))] [(.int v4)])) (fun t k => XS.iloadN X5.here hx rfl (hb hby at_59) rfl k) ?_
    refine own_step (T' := T5) (g' := (mkF m 62 #[.val (.int p0), .val (.int (0 : Int32)), .val (.ref a_ADD), .val (.int v4), .val (.int (43 : Int32)), .val (.int (0 : Int32)), .val (.int (0 : Int32))] [(.int (0 : Int32)), (.int v4)])) (fun t k => XS.iload X5.here hx rfl (hb hby at_60) rfl k) ?_
    refine own_step (T' := T5) (g' := (mkF m 65 #[.val (.int p0), .val (.int (0 : Int32)), .val (.ref a_ADD), .val (.int v4), .val (.int (43 : Int32)), .val (.int (0 : Int32)), .val (.int (0 : Int32))] [])) (fun t k => XS.icmpNo X5.here hx rfl (hb hby at_62) rfl (teq (by rw [← hv4]; unfold fn2; rw [if_neg ne_ADD_MULTIPLY, if_neg ne_ADD_DIVIDE])).2 k) ?_
    refine own_step (T' := T5) (g' := (mkF m 66 #[.val (.int p0), .val (.int (0 : Int32)), .val (.ref a_ADD), .val (.int v4), .val (.int (43 : Int32)), .val (.int (0 : Int32)), .val (.int (0 : Int32))] [(.int (1 : Int32))])) (fun t k => XS.iconst X5.here hx rfl (hb hby at_65) k) ?_
    refine own_step (T' := T5) (g' := (mkF m 70 #[.val (.int p0), .val (.int (0 : Int32)), .val (.ref a_ADD), .val (.int v4), .val (.int (43 : Int32)), .val (.int (0 : Int32)), .val (.int (0 : Int32))] [(.int (1 : Int32))])) (fun t k => XS.goto X5.here hx rfl (pc0 := 66) (pc' := 70) rfl (hb hby at_66) (by decide) (by decide) k) ?_
    refine own_retN X5 hx hlk (t := .boolean) (w := (1 : Int32)) Bd.returns (by simp) (hb hby at_70) rfl (by decide) (by decide) ?_
    exact ⟨rfl, N5⟩
  · skip
    refine own_step (T' := s₁) (g' := (mkF m 5 #[.val (.int p0), .val (.int (1 : Int32)), .unset, .unset, .unset, .unset, .unset] [(.int (1 : Int32))])) (fun t k => XS.iloadN X0.here hx rfl (hb hby at_4) rfl k) ?_
    obtain ⟨_, _, ⟨T7, L7, kk7, nn7⟩, -, X7, ⟨Lc7, hQ7, l7, y7, z7⟩, st7⟩ := Jvm.LawKit.callS X0 hx (y := (⟨"com/example/risk_rule_engine/riskruleengine/rules/ArithmeticMultipliesPinLaw", "pick", "(I)Lcom/example/risk_rule_engine/riskruleengine/rules/Arithmetic;"⟩ : MethodName)) hown (mvT hZ (hw _ (List.mem_of_getElem? (i := 0) rfl))) (mvT hZ (hw _ (List.mem_of_getElem? (i := 1) rfl))) (mvT hZ (hw _ (List.mem_of_getElem? (i := 2) rfl))) (mvT hZ (hw _ (List.mem_of_getElem? (i := 3) rfl))) (by decide) (backOf (W := 0) (rm1 l Z a0 hw [] (1 : Int32) a_ADD a_SUBTRACT a_MULTIPLY a_DIVIDE h0 n0 (Nat.le_trans Z0 K0.1) S_ADD S_SUBTRACT S_MULTIPLY S_DIVIDE) hZ (hw _ (List.mem_of_getElem? (i := 3) rfl)) (hw _ (List.mem_of_getElem? (i := 2) rfl)) (by decide) (by decide)) (g := (mkF m 5 #[.val (.int p0), .val (.int (1 : Int32)), .unset, .unset, .unset, .unset, .unset] [(.int (1 : Int32))])) rfl (by rw [hml]; rfl) (argsL := [(.int (1 : Int32))]) (rest := []) (lenOf pd_0 rfl) rfl (by show 2 * 0 + _ ≤ _; exact Nat.le_of_eq rfl) (hb hby at_5) (fun _ _ => ⟨rfl, e0, (by decide : 0 + 0 ≤ _), (by decide : 0 + 0 ≤ _)⟩)
    dsimp only [Pt.U, Pt.locs, Pt.cells, Pt.slots] at X7 l7 y7 z7 st7 hQ7
    subst l7 y7 z7
    obtain ⟨rfl, N7q, eq7⟩ := hQ7
    have N7 := Fr.app N0 N7q
    refine own_step (T' := T7) (g' := (mkF m 8 #[.val (.int p0), .val (.int (1 : Int32)), .unset, .unset, .unset, .unset, .unset] [(.ref a_SUBTRACT)])) st7 ?_
    refine own_step (T' := T7) (g' := (mkF m 9 #[.val (.int p0), .val (.int (1 : Int32)), .val (.ref a_SUBTRACT), .unset, .unset, .unset, .unset] [])) (fun t k => XS.astoreN X7.here hx rfl (hb hby at_8) rfl rfl (l' := #[.val (.int p0), .val (.int (1 : Int32)), .val (.ref a_SUBTRACT), .unset, .unset, .unset, .unset]) rfl k) ?_
    refine own_step (T' := T7) (g' := (mkF m 10 #[.val (.int p0), .val (.int (1 : Int32)), .val (.ref a_SUBTRACT), .unset, .unset, .unset, .unset] [(.ref a_SUBTRACT)])) (fun t k => XS.aloadN X7.here hx rfl (hb hby at_9) rfl rfl k) ?_
    obtain ⟨cq8, kq8, qq8a, qq8b, qq8c⟩ := isOf hZ eq7 E_a_SUBTRACT
    obtain ⟨_, _, ⟨T8, L8, kk8, nn8⟩, -, X8, ⟨Lc8, hQ8, l8, y8, z8⟩, st8⟩ := X7.virtualBack hx (y := (⟨"com/example/risk_rule_engine/riskruleengine/rules/Arithmetic", "multiplies", "()Z"⟩ : MethodName)) (z := (⟨"com/example/risk_rule_engine/riskruleengine/rules/Arithmetic", "multiplies", "()Z"⟩ : MethodName)) hown (mvT hZ (hw _ (List.mem_of_getElem? (i := 7) rfl))) (mvT hZ (hw _ (List.mem_of_getElem? (i := 8) rfl))) (notFace_of_selects (args := #[]) (mvT hZ (hw _ (List.mem_of_getElem? (i := 10) rfl)))) (mvT hZ (hw _ (List.mem_of_getElem? (i := 10) rfl))) (mvT hZ (hw _ (List.mem_of_getElem? (i := 9) rfl))) (by decide) (backOf (W := 0) (rm2 l Z a0 hw [] a_SUBTRACT a_MULTIPLY a_DIVIDE h0 n0 (Nat.le_trans Z0 K0.1) S_MULTIPLY S_DIVIDE) hZ (hw _ (List.mem_of_getElem? (i := 11) rfl)) (hw _ (List.mem_of_getElem? (i := 5) rfl)) (by decide) (by decide)) qq8a qq8c (g := (mkF m 10 #[.val (.int p0), .val (.int (1 : Int32)), .val (.ref a_SUBTRACT), .unset, .unset, .unset, .unset] [(.ref a_SUBTRACT)])) rfl (by rw [hml]; rfl) (Steps.refl _) (argsL := []) (rest := []) (lenOf pd_1 rfl) rfl (by show 2 * 0 + _ ≤ _; exact Nat.le_of_eq rfl) (hb hby at_10) (fun _ _ => ⟨rfl, eq7, (by decide : 0 + 0 ≤ _), (by decide : 0 + 0 ≤ _)⟩)
    dsimp only [Pt.U, Pt.locs, Pt.cells, Pt.slots] at X8 l8 y8 z8 st8 hQ8
    subst l8 y8 z8
    obtain ⟨rfl, N8q, eq8⟩ := hQ8
    have N8 := Fr.app N7 N8q
    refine own_step (T' := T8) (g' := (mkF m 13 #[.val (.int p0), .val (.int (1 : Int32)), .val (.ref a_SUBTRACT), .unset, .unset, .unset, .unset] [(.int (fn2 a_SUBTRACT a_MULTIPLY a_DIVIDE))])) (fun t k => st8.trans k) ?_
    generalize hv9 : (fn2 a_SUBTRACT a_MULTIPLY a_DIVIDE) = v9
    refine own_step (T' := T8) (g' := (mkF m 14 #[.val (.int p0), .val (.int (1 : Int32)), .val (.ref a_SUBTRACT), .val (.int v9), .unset, .unset, .unset] [])) (fun t k => XS.istoreN X8.here hx rfl (hb hby at_13) rfl (l' := #[.val (.int p0), .val (.int (1 : Int32)), .val (.ref a_SUBTRACT), .val (.int v9), .unset, .unset, .unset]) rfl k) ?_
    refine own_step (T' := T8) (g' := (mkF m 15 #[.val (.int p0), .val (.int (1 : Int32)), .val (.ref a_SUBTRACT), .val (.int v9), .unset, .unset, .unset] [(.ref a_SUBTRACT)])) (fun t k => XS.aloadN X8.here hx rfl (hb hby at_14) rfl rfl k) ?_
    obtain ⟨cq10, kq10, qq10a, qq10b, qq10c⟩ := isOf hZ eq8 E_a_SUBTRACT
    obtain ⟨_, _, ⟨T10, L10, kk10, nn10⟩, -, X10, ⟨Lc10, hQ10, l10, y10, z10⟩, st10⟩ := X8.virtualBack hx (y := (⟨"com/example/risk_rule_engine/riskruleengine/rules/Arithmetic", "symbol", "()C"⟩ : MethodName)) (z := (⟨"com/example/risk_rule_engine/riskruleengine/rules/Arithmetic", "symbol", "()C"⟩ : MethodName)) hown (mvT hZ (hw _ (List.mem_of_getElem? (i := 16) rfl))) (mvT hZ (hw _ (List.mem_of_getElem? (i := 17) rfl))) (notFace_of_selects (args := #[]) (mvT hZ (hw _ (List.mem_of_getElem? (i := 19) rfl)))) (mvT hZ (hw _ (List.mem_of_getElem? (i := 19) rfl))) (mvT hZ (hw _ (List.mem_of_getElem? (i := 18) rfl))) (by decide) (backOf (W := 0) (rm3 l Z a0 hw [] a_SUBTRACT (45 : Int32) h0 n0 (Nat.le_trans Z0 K0.1) F_symbol_a_SUBTRACT) hZ (hw _ (List.mem_of_getElem? (i := 20) rfl)) (hw _ (List.mem_of_getElem? (i := 5) rfl)) (by decide) (by decide)) qq10a qq10c (g := (mkF m 15 #[.val (.int p0), .val (.int (1 : Int32)), .val (.ref a_SUBTRACT), .val (.int v9), .unset, .unset, .unset] [(.ref a_SUBTRACT)])) rfl (by rw [hml]; rfl) (Steps.refl _) (argsL := []) (rest := []) (lenOf pd_2 rfl) rfl (by show 2 * 0 + _ ≤ _; exact Nat.le_of_eq rfl) (hb hby at_15) (fun _ _ => ⟨rfl, eq8, (by decide : 0 + 0 ≤ _), (by decide : 0 + 0 ≤ _)⟩)
    dsimp only [Pt.U, Pt.locs, Pt.cells, Pt.slots] at X10 l10 y10 z10 st10 hQ10
    subst l10 y10 z10
    obtain ⟨rfl, N10q, eq10⟩ := hQ10
    have N10 := Fr.app N8 N10q
    refine own_step (T' := T10) (g' := (mkF m 18 #[.val (.int p0), .val (.int (1 : Int32)), .val (.ref a_SUBTRACT), .val (.int v9), .unset, .unset, .unset] [(.int (45 : Int32))])) (fun t k => st10.trans k) ?_
    refine own_step (T' := T10) (g' := (mkF m 20 #[.val (.int p0), .val (.int (1 : Int32)), .val (.ref a_SUBTRACT), .val (.int v9), .val (.int (45 : Int32)), .unset, .unset] [])) (fun t k => XS.istore X10.here hx rfl (hb hby at_18) rfl (l' := #[.val (.int p0), .val (.int (1 : Int32)), .val (.ref a_SUBTRACT), .val (.int v9), .val (.int (45 : Int32)), .unset, .unset]) rfl k) ?_
    refine own_step (T' := T10) (g' := (mkF m 22 #[.val (.int p0), .val (.int (1 : Int32)), .val (.ref a_SUBTRACT), .val (.int v9), .val (.int (45 : Int32)), .unset, .unset] [(.int (45 : Int32))])) (fun t k => XS.iload X10.here hx rfl (hb hby at_20) rfl k) ?_
    refine own_step (T' := T10) (g' := (mkF m 24 #[.val (.int p0), .val (.int (1 : Int32)), .val (.ref a_SUBTRACT), .val (.int v9), .val (.int (45 : Int32)), .unset, .unset] [(.int (42 : Int32)), (.int (45 : Int32))])) (fun t k => XS.bipush X10.here hx rfl (hb hby at_22) k) ?_
    refine own_step (T' := T10) (g' := (mkF m 27 #[.val (.int p0), .val (.int (1 : Int32)), .val (.ref a_SUBTRACT), .val (.int v9), .val (.int (45 : Int32)), .unset, .unset] [])) (fun t k => XS.icmpNo X10.here hx rfl (hb hby at_24) rfl (feq (by decide : ¬ ((45 : Int32) = (42 : Int32)))).1 k) ?_
    refine own_step (T' := T10) (g' := (mkF m 29 #[.val (.int p0), .val (.int (1 : Int32)), .val (.ref a_SUBTRACT), .val (.int v9), .val (.int (45 : Int32)), .unset, .unset] [(.int (45 : Int32))])) (fun t k => XS.iload X10.here hx rfl (hb hby at_27) rfl k) ?_
    refine own_step (T' := T10) (g' := (mkF m 31 #[.val (.int p0), .val (.int (1 : Int32)), .val (.ref a_SUBTRACT), .val (.int v9), .val (.int (45 : Int32)), .unset, .unset] [(.int (47 : Int32)), (.int (45 : Int32))])) (fun t k => XS.bipush X10.here hx rfl (hb hby at_29) k) ?_
    refine own_step (T' := T10) (g' := (mkF m 38 #[.val (.int p0), .val (.int (1 : Int32)), .val (.ref a_SUBTRACT), .val (.int v9), .val (.int (45 : Int32)), .unset, .unset] [])) (fun t k => XS.icmpYes X10.here hx rfl (pc0 := 31) (pc' := 38) rfl (hb hby at_31) rfl (feq (by decide : ¬ ((45 : Int32) = (47 : Int32)))).2 (by decide) (by decide) k) ?_
    refine own_step (T' := T10) (g' := (mkF m 39 #[.val (.int p0), .val (.int (1 : Int32)), .val (.ref a_SUBTRACT), .val (.int v9), .val (.int (45 : Int32)), .unset, .unset] [(.int (0 : Int32))])) (fun t k => XS.iconst X10.here hx rfl (hb hby at_38) k) ?_
    refine own_step (T' := T10) (g' := (mkF m 41 #[.val (.int p0), .val (.int (1 : Int32)), .val (.ref a_SUBTRACT), .val (.int v9), .val (.int (45 : Int32)), .val (.int (0 : Int32)), .unset] [])) (fun t k => XS.istore X10.here hx rfl (hb hby at_39) rfl (l' := #[.val (.int p0), .val (.int (1 : Int32)), .val (.ref a_SUBTRACT), .val (.int v9), .val (.int (45 : Int32)), .val (.int (0 : Int32)), .unset]) rfl k) ?_
    refine own_step (T' := T10) (g' := (mkF m 42 #[.val (.int p0), .val (.int (1 : Int32)), .val (.ref a_SUBTRACT), .val (.int v9), .val (.int (45 : Int32)), .val (.int (0 : Int32)), .unset] [(.int (1 : Int32))])) (fun t k => XS.iloadN X10.here hx rfl (hb hby at_41) rfl k) ?_
    refine own_step (T' := T10) (g' := (mkF m 43 #[.val (.int p0), .val (.int (1 : Int32)), .val (.ref a_SUBTRACT), .val (.int v9), .val (.int (45 : Int32)), .val (.int (0 : Int32)), .unset] [(.int (2 : Int32)), (.int (1 : Int32))])) (fun t k => XS.iconst X10.here hx rfl (hb hby at_42) k) ?_
    refine own_step (T' := T10) (g' := (mkF m 50 #[.val (.int p0), .val (.int (1 : Int32)), .val (.ref a_SUBTRACT), .val (.int v9), .val (.int (45 : Int32)), .val (.int (0 : Int32)), .unset] [])) (fun t k => XS.icmpYes X10.here hx rfl (pc0 := 43) (pc' := 50) rfl (hb hby at_43) rfl (tlt (by decide : (1 : Int32) < (2 : Int32))).1 (by decide) (by decide) k) ?_
    refine own_step (T' := T10) (g' := (mkF m 51 #[.val (.int p0), .val (.int (1 : Int32)), .val (.ref a_SUBTRACT), .val (.int v9), .val (.int (45 : Int32)), .val (.int (0 : Int32)), .unset] [(.int (0 : Int32))])) (fun t k => XS.iconst X10.here hx rfl (hb hby at_50) k) ?_
    refine own_step (T' := T10) (g' := (mkF m 53 #[.val (.int p0), .val (.int (1 : Int32)), .val (.ref a_SUBTRACT), .val (.int v9), .val (.int (45 : Int32)), .val (.int (0 : Int32)), .val (.int (0 : Int32))] [])) (fun t k => XS.istore X10.here hx rfl (hb hby at_51) rfl (l' := #[.val (.int p0), .val (.int (1 : Int32)), .val (.ref a_SUBTRACT), .val (.int v9), .val (.int (45 : Int32)), .val (.int (0 : Int32)), .val (.int (0 : Int32))]) rfl k) ?_
    refine own_step (T' := T10) (g' := (mkF m 54 #[.val (.int p0), .val (.int (1 : Int32)), .val (.ref a_SUBTRACT), .val (.int v9), .val (.int (45 : Int32)), .val (.int (0 : Int32)), .val (.int (0 : Int32))] [(.int v9)])) (fun t k => XS.iloadN X10.here hx rfl (hb hby at_53) rfl k) ?_
    refine own_step (T' := T10) (g' := (mkF m 56 #[.val (.int p0), .val (.int (1 : Int32)), .val (.ref a_SUBTRACT), .val (.int v9), .val (.int (45 : Int32)), .val (.int (0 : Int32)), .val (.int (0 : Int32))] [(.int (0 : Int32)), (.int v9)])) (fun t k => XS.iload X10.here hx rfl (hb hby at_54) rfl k) ?_
    refine own_step (T' := T10) (g' := (mkF m 59 #[.val (.int p0), .val (.int (1 : Int32)), .val (.ref a_SUBTRACT), .val (.int v9), .val (.int (45 : Int32)), .val (.int (0 : Int32)), .val (.int (0 : Int32))] [])) (fun t k => XS.icmpNo X10.here hx rfl (hb hby at_56) rfl (teq (by rw [← hv9]; unfold fn2; rw [if_neg ne_SUBTRACT_MULTIPLY, if_neg ne_SUBTRACT_DIVIDE])).2 k) ?_
    refine own_step (T' := T10) (g' := (mkF m 60 #[.val (.int p0), .val (.int (1 : Int32)), .val (.ref a_SUBTRACT), .val (.int v9), .val (.int (45 : Int32)), .val (.int (0 : Int32)), .val (.int (0 : Int32))] [(.int v9)])) (fun t k => XS.iloadN X10.here hx rfl (hb hby at_59) rfl k) ?_
    refine own_step (T' := T10) (g' := (mkF m 62 #[.val (.int p0), .val (.int (1 : Int32)), .val (.ref a_SUBTRACT), .val (.int v9), .val (.int (45 : Int32)), .val (.int (0 : Int32)), .val (.int (0 : Int32))] [(.int (0 : Int32)), (.int v9)])) (fun t k => XS.iload X10.here hx rfl (hb hby at_60) rfl k) ?_
    refine own_step (T' := T10) (g' := (mkF m 65 #[.val (.int p0), .val (.int (1 : Int32)), .val (.ref a_SUBTRACT), .val (.int v9), .val (.int (45 : Int32)), .val (.int (0 : Int32)), .val (.int (0 : Int32))] [])) (fun t k => XS.icmpNo X10.here hx rfl (hb hby at_62) rfl (teq (by rw [← hv9]; unfold fn2; rw [if_neg ne_SUBTRACT_MULTIPLY, if_neg ne_SUBTRACT_DIVIDE])).2 k) ?_
    refine own_step (T' := T10) (g' := (mkF m 66 #[.val (.int p0), .val (.int (1 : Int32)), .val (.ref a_SUBTRACT), .val (.int v9), .val (.int (45 : Int32)), .val (.int (0 : Int32)), .val (.int (0 : Int32))] [(.int (1 : Int32))])) (fun t k => XS.iconst X10.here hx rfl (hb hby at_65) k) ?_
    refine own_step (T' := T10) (g' := (mkF m 70 #[.val (.int p0), .val (.int (1 : Int32)), .val (.ref a_SUBTRACT), .val (.int v9), .val (.int (45 : Int32)), .val (.int (0 : Int32)), .val (.int (0 : Int32))] [(.int (1 : Int32))])) (fun t k => XS.goto X10.here hx rfl (pc0 := 66) (pc' := 70) rfl (hb hby at_66) (by decide) (by decide) k) ?_
    refine own_retN X10 hx hlk (t := .boolean) (w := (1 : Int32)) Bd.returns (by simp) (hb hby at_70) rfl (by decide) (by decide) ?_
    exact ⟨rfl, N10⟩
  · skip
    refine own_step (T' := s₁) (g' := (mkF m 5 #[.val (.int p0), .val (.int (2 : Int32)), .unset, .unset, .unset, .unset, .unset] [(.int (2 : Int32))])) (fun t k => XS.iloadN X0.here hx rfl (hb hby at_4) rfl k) ?_
    obtain ⟨_, _, ⟨T12, L12, kk12, nn12⟩, -, X12, ⟨Lc12, hQ12, l12, y12, z12⟩, st12⟩ := Jvm.LawKit.callS X0 hx (y := (⟨"com/example/risk_rule_engine/riskruleengine/rules/ArithmeticMultipliesPinLaw", "pick", "(I)Lcom/example/risk_rule_engine/riskruleengine/rules/Arithmetic;"⟩ : MethodName)) hown (mvT hZ (hw _ (List.mem_of_getElem? (i := 0) rfl))) (mvT hZ (hw _ (List.mem_of_getElem? (i := 1) rfl))) (mvT hZ (hw _ (List.mem_of_getElem? (i := 2) rfl))) (mvT hZ (hw _ (List.mem_of_getElem? (i := 3) rfl))) (by decide) (backOf (W := 0) (rm1 l Z a0 hw [] (2 : Int32) a_ADD a_SUBTRACT a_MULTIPLY a_DIVIDE h0 n0 (Nat.le_trans Z0 K0.1) S_ADD S_SUBTRACT S_MULTIPLY S_DIVIDE) hZ (hw _ (List.mem_of_getElem? (i := 3) rfl)) (hw _ (List.mem_of_getElem? (i := 2) rfl)) (by decide) (by decide)) (g := (mkF m 5 #[.val (.int p0), .val (.int (2 : Int32)), .unset, .unset, .unset, .unset, .unset] [(.int (2 : Int32))])) rfl (by rw [hml]; rfl) (argsL := [(.int (2 : Int32))]) (rest := []) (lenOf pd_0 rfl) rfl (by show 2 * 0 + _ ≤ _; exact Nat.le_of_eq rfl) (hb hby at_5) (fun _ _ => ⟨rfl, e0, (by decide : 0 + 0 ≤ _), (by decide : 0 + 0 ≤ _)⟩)
    dsimp only [Pt.U, Pt.locs, Pt.cells, Pt.slots] at X12 l12 y12 z12 st12 hQ12
    subst l12 y12 z12
    obtain ⟨rfl, N12q, eq12⟩ := hQ12
    have N12 := Fr.app N0 N12q
    refine own_step (T' := T12) (g' := (mkF m 8 #[.val (.int p0), .val (.int (2 : Int32)), .unset, .unset, .unset, .unset, .unset] [(.ref a_MULTIPLY)])) st12 ?_
    refine own_step (T' := T12) (g' := (mkF m 9 #[.val (.int p0), .val (.int (2 : Int32)), .val (.ref a_MULTIPLY), .unset, .unset, .unset, .unset] [])) (fun t k => XS.astoreN X12.here hx rfl (hb hby at_8) rfl rfl (l' := #[.val (.int p0), .val (.int (2 : Int32)), .val (.ref a_MULTIPLY), .unset, .unset, .unset, .unset]) rfl k) ?_
    refine own_step (T' := T12) (g' := (mkF m 10 #[.val (.int p0), .val (.int (2 : Int32)), .val (.ref a_MULTIPLY), .unset, .unset, .unset, .unset] [(.ref a_MULTIPLY)])) (fun t k => XS.aloadN X12.here hx rfl (hb hby at_9) rfl rfl k) ?_
    obtain ⟨cq13, kq13, qq13a, qq13b, qq13c⟩ := isOf hZ eq12 E_a_MULTIPLY
    obtain ⟨_, _, ⟨T13, L13, kk13, nn13⟩, -, X13, ⟨Lc13, hQ13, l13, y13, z13⟩, st13⟩ := X12.virtualBack hx (y := (⟨"com/example/risk_rule_engine/riskruleengine/rules/Arithmetic", "multiplies", "()Z"⟩ : MethodName)) (z := (⟨"com/example/risk_rule_engine/riskruleengine/rules/Arithmetic", "multiplies", "()Z"⟩ : MethodName)) hown (mvT hZ (hw _ (List.mem_of_getElem? (i := 7) rfl))) (mvT hZ (hw _ (List.mem_of_getElem? (i := 8) rfl))) (notFace_of_selects (args := #[]) (mvT hZ (hw _ (List.mem_of_getElem? (i := 10) rfl)))) (mvT hZ (hw _ (List.mem_of_getElem? (i := 10) rfl))) (mvT hZ (hw _ (List.mem_of_getElem? (i := 9) rfl))) (by decide) (backOf (W := 0) (rm2 l Z a0 hw [] a_MULTIPLY a_MULTIPLY a_DIVIDE h0 n0 (Nat.le_trans Z0 K0.1) S_MULTIPLY S_DIVIDE) hZ (hw _ (List.mem_of_getElem? (i := 11) rfl)) (hw _ (List.mem_of_getElem? (i := 5) rfl)) (by decide) (by decide)) qq13a qq13c (g := (mkF m 10 #[.val (.int p0), .val (.int (2 : Int32)), .val (.ref a_MULTIPLY), .unset, .unset, .unset, .unset] [(.ref a_MULTIPLY)])) rfl (by rw [hml]; rfl) (Steps.refl _) (argsL := []) (rest := []) (lenOf pd_1 rfl) rfl (by show 2 * 0 + _ ≤ _; exact Nat.le_of_eq rfl) (hb hby at_10) (fun _ _ => ⟨rfl, eq12, (by decide : 0 + 0 ≤ _), (by decide : 0 + 0 ≤ _)⟩)
    dsimp only [Pt.U, Pt.locs, Pt.cells, Pt.slots] at X13 l13 y13 z13 st13 hQ13
    subst l13 y13 z13
    obtain ⟨rfl, N13q, eq13⟩ := hQ13
    have N13 := Fr.app N12 N13q
    refine own_step (T' := T13) (g' := (mkF m 13 #[.val (.int p0), .val (.int (2 : Int32)), .val (.ref a_MULTIPLY), .unset, .unset, .unset, .unset] [(.int (fn2 a_MULTIPLY a_MULTIPLY a_DIVIDE))])) (fun t k => st13.trans k) ?_
    generalize hv14 : (fn2 a_MULTIPLY a_MULTIPLY a_DIVIDE) = v14
    refine own_step (T' := T13) (g' := (mkF m 14 #[.val (.int p0), .val (.int (2 : Int32)), .val (.ref a_MULTIPLY), .val (.int v14), .unset, .unset, .unset] [])) (fun t k => XS.istoreN X13.here hx rfl (hb hby at_13) rfl (l' := #[.val (.int p0), .val (.int (2 : Int32)), .val (.ref a_MULTIPLY), .val (.int v14), .unset, .unset, .unset]) rfl k) ?_
    refine own_step (T' := T13) (g' := (mkF m 15 #[.val (.int p0), .val (.int (2 : Int32)), .val (.ref a_MULTIPLY), .val (.int v14), .unset, .unset, .unset] [(.ref a_MULTIPLY)])) (fun t k => XS.aloadN X13.here hx rfl (hb hby at_14) rfl rfl k) ?_
    obtain ⟨cq15, kq15, qq15a, qq15b, qq15c⟩ := isOf hZ eq13 E_a_MULTIPLY
    obtain ⟨_, _, ⟨T15, L15, kk15, nn15⟩, -, X15, ⟨Lc15, hQ15, l15, y15, z15⟩, st15⟩ := X13.virtualBack hx (y := (⟨"com/example/risk_rule_engine/riskruleengine/rules/Arithmetic", "symbol", "()C"⟩ : MethodName)) (z := (⟨"com/example/risk_rule_engine/riskruleengine/rules/Arithmetic", "symbol", "()C"⟩ : MethodName)) hown (mvT hZ (hw _ (List.mem_of_getElem? (i := 16) rfl))) (mvT hZ (hw _ (List.mem_of_getElem? (i := 17) rfl))) (notFace_of_selects (args := #[]) (mvT hZ (hw _ (List.mem_of_getElem? (i := 19) rfl)))) (mvT hZ (hw _ (List.mem_of_getElem? (i := 19) rfl))) (mvT hZ (hw _ (List.mem_of_getElem? (i := 18) rfl))) (by decide) (backOf (W := 0) (rm3 l Z a0 hw [] a_MULTIPLY (42 : Int32) h0 n0 (Nat.le_trans Z0 K0.1) F_symbol_a_MULTIPLY) hZ (hw _ (List.mem_of_getElem? (i := 20) rfl)) (hw _ (List.mem_of_getElem? (i := 5) rfl)) (by decide) (by decide)) qq15a qq15c (g := (mkF m 15 #[.val (.int p0), .val (.int (2 : Int32)), .val (.ref a_MULTIPLY), .val (.int v14), .unset, .unset, .unset] [(.ref a_MULTIPLY)])) rfl (by rw [hml]; rfl) (Steps.refl _) (argsL := []) (rest := []) (lenOf pd_2 rfl) rfl (by show 2 * 0 + _ ≤ _; exact Nat.le_of_eq rfl) (hb hby at_15) (fun _ _ => ⟨rfl, eq13, (by decide : 0 + 0 ≤ _), (by decide : 0 + 0 ≤ _)⟩)
    dsimp only [Pt.U, Pt.locs, Pt.cells, Pt.slots] at X15 l15 y15 z15 st15 hQ15
    subst l15 y15 z15
    obtain ⟨rfl, N15q, eq15⟩ := hQ15
    have N15 := Fr.app N13 N15q
    refine own_step (T' := T15) (g' := (mkF m 18 #[.val (.int p0), .val (.int (2 : Int32)), .val (.ref a_MULTIPLY), .val (.int v14), .unset, .unset, .unset] [(.int (42 : Int32))])) (fun t k => st15.trans k) ?_
    refine own_step (T' := T15) (g' := (mkF m 20 #[.val (.int p0), .val (.int (2 : Int32)), .val (.ref a_MULTIPLY), .val (.int v14), .val (.int (42 : Int32)), .unset, .unset] [])) (fun t k => XS.istore X15.here hx rfl (hb hby at_18) rfl (l' := #[.val (.int p0), .val (.int (2 : Int32)), .val (.ref a_MULTIPLY), .val (.int v14), .val (.int (42 : Int32)), .unset, .unset]) rfl k) ?_
    refine own_step (T' := T15) (g' := (mkF m 22 #[.val (.int p0), .val (.int (2 : Int32)), .val (.ref a_MULTIPLY), .val (.int v14), .val (.int (42 : Int32)), .unset, .unset] [(.int (42 : Int32))])) (fun t k => XS.iload X15.here hx rfl (hb hby at_20) rfl k) ?_
    refine own_step (T' := T15) (g' := (mkF m 24 #[.val (.int p0), .val (.int (2 : Int32)), .val (.ref a_MULTIPLY), .val (.int v14), .val (.int (42 : Int32)), .unset, .unset] [(.int (42 : Int32)), (.int (42 : Int32))])) (fun t k => XS.bipush X15.here hx rfl (hb hby at_22) k) ?_
    refine own_step (T' := T15) (g' := (mkF m 34 #[.val (.int p0), .val (.int (2 : Int32)), .val (.ref a_MULTIPLY), .val (.int v14), .val (.int (42 : Int32)), .unset, .unset] [])) (fun t k => XS.icmpYes X15.here hx rfl (pc0 := 24) (pc' := 34) rfl (hb hby at_24) rfl (teq (by decide : (42 : Int32) = (42 : Int32))).1 (by decide) (by decide) k) ?_
    refine own_step (T' := T15) (g' := (mkF m 35 #[.val (.int p0), .val (.int (2 : Int32)), .val (.ref a_MULTIPLY), .val (.int v14), .val (.int (42 : Int32)), .unset, .unset] [(.int (1 : Int32))])) (fun t k => XS.iconst X15.here hx rfl (hb hby at_34) k) ?_
    refine own_step (T' := T15) (g' := (mkF m 39 #[.val (.int p0), .val (.int (2 : Int32)), .val (.ref a_MULTIPLY), .val (.int v14), .val (.int (42 : Int32)), .unset, .unset] [(.int (1 : Int32))])) (fun t k => XS.goto X15.here hx rfl (pc0 := 35) (pc' := 39) rfl (hb hby at_35) (by decide) (by decide) k) ?_
    refine own_step (T' := T15) (g' := (mkF m 41 #[.val (.int p0), .val (.int (2 : Int32)), .val (.ref a_MULTIPLY), .val (.int v14), .val (.int (42 : Int32)), .val (.int (1 : Int32)), .unset] [])) (fun t k => XS.istore X15.here hx rfl (hb hby at_39) rfl (l' := #[.val (.int p0), .val (.int (2 : Int32)), .val (.ref a_MULTIPLY), .val (.int v14), .val (.int (42 : Int32)), .val (.int (1 : Int32)), .unset]) rfl k) ?_
    refine own_step (T' := T15) (g' := (mkF m 42 #[.val (.int p0), .val (.int (2 : Int32)), .val (.ref a_MULTIPLY), .val (.int v14), .val (.int (42 : Int32)), .val (.int (1 : Int32)), .unset] [(.int (2 : Int32))])) (fun t k => XS.iloadN X15.here hx rfl (hb hby at_41) rfl k) ?_
    refine own_step (T' := T15) (g' := (mkF m 43 #[.val (.int p0), .val (.int (2 : Int32)), .val (.ref a_MULTIPLY), .val (.int v14), .val (.int (42 : Int32)), .val (.int (1 : Int32)), .unset] [(.int (2 : Int32)), (.int (2 : Int32))])) (fun t k => XS.iconst X15.here hx rfl (hb hby at_42) k) ?_
    refine own_step (T' := T15) (g' := (mkF m 46 #[.val (.int p0), .val (.int (2 : Int32)), .val (.ref a_MULTIPLY), .val (.int v14), .val (.int (42 : Int32)), .val (.int (1 : Int32)), .unset] [])) (fun t k => XS.icmpNo X15.here hx rfl (hb hby at_43) rfl (flt (by decide : ¬ ((2 : Int32) < (2 : Int32)))).1 k) ?_
    refine own_step (T' := T15) (g' := (mkF m 47 #[.val (.int p0), .val (.int (2 : Int32)), .val (.ref a_MULTIPLY), .val (.int v14), .val (.int (42 : Int32)), .val (.int (1 : Int32)), .unset] [(.int (1 : Int32))])) (fun t k => XS.iconst X15.here hx rfl (hb hby at_46) k) ?_
    refine own_step (T' := T15) (g' := (mkF m 51 #[.val (.int p0), .val (.int (2 : Int32)), .val (.ref a_MULTIPLY), .val (.int v14), .val (.int (42 : Int32)), .val (.int (1 : Int32)), .unset] [(.int (1 : Int32))])) (fun t k => XS.goto X15.here hx rfl (pc0 := 47) (pc' := 51) rfl (hb hby at_47) (by decide) (by decide) k) ?_
    refine own_step (T' := T15) (g' := (mkF m 53 #[.val (.int p0), .val (.int (2 : Int32)), .val (.ref a_MULTIPLY), .val (.int v14), .val (.int (42 : Int32)), .val (.int (1 : Int32)), .val (.int (1 : Int32))] [])) (fun t k => XS.istore X15.here hx rfl (hb hby at_51) rfl (l' := #[.val (.int p0), .val (.int (2 : Int32)), .val (.ref a_MULTIPLY), .val (.int v14), .val (.int (42 : Int32)), .val (.int (1 : Int32)), .val (.int (1 : Int32))]) rfl k) ?_
    refine own_step (T' := T15) (g' := (mkF m 54 #[.val (.int p0), .val (.int (2 : Int32)), .val (.ref a_MULTIPLY), .val (.int v14), .val (.int (42 : Int32)), .val (.int (1 : Int32)), .val (.int (1 : Int32))] [(.int v14)])) (fun t k => XS.iloadN X15.here hx rfl (hb hby at_53) rfl k) ?_
    refine own_step (T' := T15) (g' := (mkF m 56 #[.val (.int p0), .val (.int (2 : Int32)), .val (.ref a_MULTIPLY), .val (.int v14), .val (.int (42 : Int32)), .val (.int (1 : Int32)), .val (.int (1 : Int32))] [(.int (1 : Int32)), (.int v14)])) (fun t k => XS.iload X15.here hx rfl (hb hby at_54) rfl k) ?_
    refine own_step (T' := T15) (g' := (mkF m 59 #[.val (.int p0), .val (.int (2 : Int32)), .val (.ref a_MULTIPLY), .val (.int v14), .val (.int (42 : Int32)), .val (.int (1 : Int32)), .val (.int (1 : Int32))] [])) (fun t k => XS.icmpNo X15.here hx rfl (hb hby at_56) rfl (teq (by rw [← hv14]; unfold fn2; rw [if_pos rfl])).2 k) ?_
    refine own_step (T' := T15) (g' := (mkF m 60 #[.val (.int p0), .val (.int (2 : Int32)), .val (.ref a_MULTIPLY), .val (.int v14), .val (.int (42 : Int32)), .val (.int (1 : Int32)), .val (.int (1 : Int32))] [(.int v14)])) (fun t k => XS.iloadN X15.here hx rfl (hb hby at_59) rfl k) ?_
    refine own_step (T' := T15) (g' := (mkF m 62 #[.val (.int p0), .val (.int (2 : Int32)), .val (.ref a_MULTIPLY), .val (.int v14), .val (.int (42 : Int32)), .val (.int (1 : Int32)), .val (.int (1 : Int32))] [(.int (1 : Int32)), (.int v14)])) (fun t k => XS.iload X15.here hx rfl (hb hby at_60) rfl k) ?_
    refine own_step (T' := T15) (g' := (mkF m 65 #[.val (.int p0), .val (.int (2 : Int32)), .val (.ref a_MULTIPLY), .val (.int v14), .val (.int (42 : Int32)), .val (.int (1 : Int32)), .val (.int (1 : Int32))] [])) (fun t k => XS.icmpNo X15.here hx rfl (hb hby at_62) rfl (teq (by rw [← hv14]; unfold fn2; rw [if_pos rfl])).2 k) ?_
    refine own_step (T' := T15) (g' := (mkF m 66 #[.val (.int p0), .val (.int (2 : Int32)), .val (.ref a_MULTIPLY), .val (.int v14), .val (.int (42 : Int32)), .val (.int (1 : Int32)), .val (.int (1 : Int32))] [(.int (1 : Int32))])) (fun t k => XS.iconst X15.here hx rfl (hb hby at_65) k) ?_
    refine own_step (T' := T15) (g' := (mkF m 70 #[.val (.int p0), .val (.int (2 : Int32)), .val (.ref a_MULTIPLY), .val (.int v14), .val (.int (42 : Int32)), .val (.int (1 : Int32)), .val (.int (1 : Int32))] [(.int (1 : Int32))])) (fun t k => XS.goto X15.here hx rfl (pc0 := 66) (pc' := 70) rfl (hb hby at_66) (by decide) (by decide) k) ?_
    refine own_retN X15 hx hlk (t := .boolean) (w := (1 : Int32)) Bd.returns (by simp) (hb hby at_70) rfl (by decide) (by decide) ?_
    exact ⟨rfl, N15⟩
  · skip
    refine own_step (T' := s₁) (g' := (mkF m 5 #[.val (.int p0), .val (.int (3 : Int32)), .unset, .unset, .unset, .unset, .unset] [(.int (3 : Int32))])) (fun t k => XS.iloadN X0.here hx rfl (hb hby at_4) rfl k) ?_
    obtain ⟨_, _, ⟨T17, L17, kk17, nn17⟩, -, X17, ⟨Lc17, hQ17, l17, y17, z17⟩, st17⟩ := Jvm.LawKit.callS X0 hx (y := (⟨"com/example/risk_rule_engine/riskruleengine/rules/ArithmeticMultipliesPinLaw", "pick", "(I)Lcom/example/risk_rule_engine/riskruleengine/rules/Arithmetic;"⟩ : MethodName)) hown (mvT hZ (hw _ (List.mem_of_getElem? (i := 0) rfl))) (mvT hZ (hw _ (List.mem_of_getElem? (i := 1) rfl))) (mvT hZ (hw _ (List.mem_of_getElem? (i := 2) rfl))) (mvT hZ (hw _ (List.mem_of_getElem? (i := 3) rfl))) (by decide) (backOf (W := 0) (rm1 l Z a0 hw [] (3 : Int32) a_ADD a_SUBTRACT a_MULTIPLY a_DIVIDE h0 n0 (Nat.le_trans Z0 K0.1) S_ADD S_SUBTRACT S_MULTIPLY S_DIVIDE) hZ (hw _ (List.mem_of_getElem? (i := 3) rfl)) (hw _ (List.mem_of_getElem? (i := 2) rfl)) (by decide) (by decide)) (g := (mkF m 5 #[.val (.int p0), .val (.int (3 : Int32)), .unset, .unset, .unset, .unset, .unset] [(.int (3 : Int32))])) rfl (by rw [hml]; rfl) (argsL := [(.int (3 : Int32))]) (rest := []) (lenOf pd_0 rfl) rfl (by show 2 * 0 + _ ≤ _; exact Nat.le_of_eq rfl) (hb hby at_5) (fun _ _ => ⟨rfl, e0, (by decide : 0 + 0 ≤ _), (by decide : 0 + 0 ≤ _)⟩)
    dsimp only [Pt.U, Pt.locs, Pt.cells, Pt.slots] at X17 l17 y17 z17 st17 hQ17
    subst l17 y17 z17
    obtain ⟨rfl, N17q, eq17⟩ := hQ17
    have N17 := Fr.app N0 N17q
    refine own_step (T' := T17) (g' := (mkF m 8 #[.val (.int p0), .val (.int (3 : Int32)), .unset, .unset, .unset, .unset, .unset] [(.ref a_DIVIDE)])) st17 ?_
    refine own_step (T' := T17) (g' := (mkF m 9 #[.val (.int p0), .val (.int (3 : Int32)), .val (.ref a_DIVIDE), .unset, .unset, .unset, .unset] [])) (fun t k => XS.astoreN X17.here hx rfl (hb hby at_8) rfl rfl (l' := #[.val (.int p0), .val (.int (3 : Int32)), .val (.ref a_DIVIDE), .unset, .unset, .unset, .unset]) rfl k) ?_
    refine own_step (T' := T17) (g' := (mkF m 10 #[.val (.int p0), .val (.int (3 : Int32)), .val (.ref a_DIVIDE), .unset, .unset, .unset, .unset] [(.ref a_DIVIDE)])) (fun t k => XS.aloadN X17.here hx rfl (hb hby at_9) rfl rfl k) ?_
    obtain ⟨cq18, kq18, qq18a, qq18b, qq18c⟩ := isOf hZ eq17 E_a_DIVIDE
    obtain ⟨_, _, ⟨T18, L18, kk18, nn18⟩, -, X18, ⟨Lc18, hQ18, l18, y18, z18⟩, st18⟩ := X17.virtualBack hx (y := (⟨"com/example/risk_rule_engine/riskruleengine/rules/Arithmetic", "multiplies", "()Z"⟩ : MethodName)) (z := (⟨"com/example/risk_rule_engine/riskruleengine/rules/Arithmetic", "multiplies", "()Z"⟩ : MethodName)) hown (mvT hZ (hw _ (List.mem_of_getElem? (i := 7) rfl))) (mvT hZ (hw _ (List.mem_of_getElem? (i := 8) rfl))) (notFace_of_selects (args := #[]) (mvT hZ (hw _ (List.mem_of_getElem? (i := 10) rfl)))) (mvT hZ (hw _ (List.mem_of_getElem? (i := 10) rfl))) (mvT hZ (hw _ (List.mem_of_getElem? (i := 9) rfl))) (by decide) (backOf (W := 0) (rm2 l Z a0 hw [] a_DIVIDE a_MULTIPLY a_DIVIDE h0 n0 (Nat.le_trans Z0 K0.1) S_MULTIPLY S_DIVIDE) hZ (hw _ (List.mem_of_getElem? (i := 11) rfl)) (hw _ (List.mem_of_getElem? (i := 5) rfl)) (by decide) (by decide)) qq18a qq18c (g := (mkF m 10 #[.val (.int p0), .val (.int (3 : Int32)), .val (.ref a_DIVIDE), .unset, .unset, .unset, .unset] [(.ref a_DIVIDE)])) rfl (by rw [hml]; rfl) (Steps.refl _) (argsL := []) (rest := []) (lenOf pd_1 rfl) rfl (by show 2 * 0 + _ ≤ _; exact Nat.le_of_eq rfl) (hb hby at_10) (fun _ _ => ⟨rfl, eq17, (by decide : 0 + 0 ≤ _), (by decide : 0 + 0 ≤ _)⟩)
    dsimp only [Pt.U, Pt.locs, Pt.cells, Pt.slots] at X18 l18 y18 z18 st18 hQ18
    subst l18 y18 z18
    obtain ⟨rfl, N18q, eq18⟩ := hQ18
    have N18 := Fr.app N17 N18q
    refine own_step (T' := T18) (g' := (mkF m 13 #[.val (.int p0), .val (.int (3 : Int32)), .val (.ref a_DIVIDE), .unset, .unset, .unset, .unset] [(.int (fn2 a_DIVIDE a_MULTIPLY a_DIVIDE))])) (fun t k => st18.trans k) ?_
    generalize hv19 : (fn2 a_DIVIDE a_MULTIPLY a_DIVIDE) = v19
    refine own_step (T' := T18) (g' := (mkF m 14 #[.val (.int p0), .val (.int (3 : Int32)), .val (.ref a_DIVIDE), .val (.int v19), .unset, .unset, .unset] [])) (fun t k => XS.istoreN X18.here hx rfl (hb hby at_13) rfl (l' := #[.val (.int p0), .val (.int (3 : Int32)), .val (.ref a_DIVIDE), .val (.int v19), .unset, .unset, .unset]) rfl k) ?_
    refine own_step (T' := T18) (g' := (mkF m 15 #[.val (.int p0), .val (.int (3 : Int32)), .val (.ref a_DIVIDE), .val (.int v19), .unset, .unset, .unset] [(.ref a_DIVIDE)])) (fun t k => XS.aloadN X18.here hx rfl (hb hby at_14) rfl rfl k) ?_
    obtain ⟨cq20, kq20, qq20a, qq20b, qq20c⟩ := isOf hZ eq18 E_a_DIVIDE
    obtain ⟨_, _, ⟨T20, L20, kk20, nn20⟩, -, X20, ⟨Lc20, hQ20, l20, y20, z20⟩, st20⟩ := X18.virtualBack hx (y := (⟨"com/example/risk_rule_engine/riskruleengine/rules/Arithmetic", "symbol", "()C"⟩ : MethodName)) (z := (⟨"com/example/risk_rule_engine/riskruleengine/rules/Arithmetic", "symbol", "()C"⟩ : MethodName)) hown (mvT hZ (hw _ (List.mem_of_getElem? (i := 16) rfl))) (mvT hZ (hw _ (List.mem_of_getElem? (i := 17) rfl))) (notFace_of_selects (args := #[]) (mvT hZ (hw _ (List.mem_of_getElem? (i := 19) rfl)))) (mvT hZ (hw _ (List.mem_of_getElem? (i := 19) rfl))) (mvT hZ (hw _ (List.mem_of_getElem? (i := 18) rfl))) (by decide) (backOf (W := 0) (rm3 l Z a0 hw [] a_DIVIDE (47 : Int32) h0 n0 (Nat.le_trans Z0 K0.1) F_symbol_a_DIVIDE) hZ (hw _ (List.mem_of_getElem? (i := 20) rfl)) (hw _ (List.mem_of_getElem? (i := 5) rfl)) (by decide) (by decide)) qq20a qq20c (g := (mkF m 15 #[.val (.int p0), .val (.int (3 : Int32)), .val (.ref a_DIVIDE), .val (.int v19), .unset, .unset, .unset] [(.ref a_DIVIDE)])) rfl (by rw [hml]; rfl) (Steps.refl _) (argsL := []) (rest := []) (lenOf pd_2 rfl) rfl (by show 2 * 0 + _ ≤ _; exact Nat.le_of_eq rfl) (hb hby at_15) (fun _ _ => ⟨rfl, eq18, (by decide : 0 + 0 ≤ _), (by decide : 0 + 0 ≤ _)⟩)
    dsimp only [Pt.U, Pt.locs, Pt.cells, Pt.slots] at X20 l20 y20 z20 st20 hQ20
    subst l20 y20 z20
    obtain ⟨rfl, N20q, eq20⟩ := hQ20
    have N20 := Fr.app N18 N20q
    refine own_step (T' := T20) (g' := (mkF m 18 #[.val (.int p0), .val (.int (3 : Int32)), .val (.ref a_DIVIDE), .val (.int v19), .unset, .unset, .unset] [(.int (47 : Int32))])) (fun t k => st20.trans k) ?_
    refine own_step (T' := T20) (g' := (mkF m 20 #[.val (.int p0), .val (.int (3 : Int32)), .val (.ref a_DIVIDE), .val (.int v19), .val (.int (47 : Int32)), .unset, .unset] [])) (fun t k => XS.istore X20.here hx rfl (hb hby at_18) rfl (l' := #[.val (.int p0), .val (.int (3 : Int32)), .val (.ref a_DIVIDE), .val (.int v19), .val (.int (47 : Int32)), .unset, .unset]) rfl k) ?_
    refine own_step (T' := T20) (g' := (mkF m 22 #[.val (.int p0), .val (.int (3 : Int32)), .val (.ref a_DIVIDE), .val (.int v19), .val (.int (47 : Int32)), .unset, .unset] [(.int (47 : Int32))])) (fun t k => XS.iload X20.here hx rfl (hb hby at_20) rfl k) ?_
    refine own_step (T' := T20) (g' := (mkF m 24 #[.val (.int p0), .val (.int (3 : Int32)), .val (.ref a_DIVIDE), .val (.int v19), .val (.int (47 : Int32)), .unset, .unset] [(.int (42 : Int32)), (.int (47 : Int32))])) (fun t k => XS.bipush X20.here hx rfl (hb hby at_22) k) ?_
    refine own_step (T' := T20) (g' := (mkF m 27 #[.val (.int p0), .val (.int (3 : Int32)), .val (.ref a_DIVIDE), .val (.int v19), .val (.int (47 : Int32)), .unset, .unset] [])) (fun t k => XS.icmpNo X20.here hx rfl (hb hby at_24) rfl (feq (by decide : ¬ ((47 : Int32) = (42 : Int32)))).1 k) ?_
    refine own_step (T' := T20) (g' := (mkF m 29 #[.val (.int p0), .val (.int (3 : Int32)), .val (.ref a_DIVIDE), .val (.int v19), .val (.int (47 : Int32)), .unset, .unset] [(.int (47 : Int32))])) (fun t k => XS.iload X20.here hx rfl (hb hby at_27) rfl k) ?_
    refine own_step (T' := T20) (g' := (mkF m 31 #[.val (.int p0), .val (.int (3 : Int32)), .val (.ref a_DIVIDE), .val (.int v19), .val (.int (47 : Int32)), .unset, .unset] [(.int (47 : Int32)), (.int (47 : Int32))])) (fun t k => XS.bipush X20.here hx rfl (hb hby at_29) k) ?_
    refine own_step (T' := T20) (g' := (mkF m 34 #[.val (.int p0), .val (.int (3 : Int32)), .val (.ref a_DIVIDE), .val (.int v19), .val (.int (47 : Int32)), .unset, .unset] [])) (fun t k => XS.icmpNo X20.here hx rfl (hb hby at_31) rfl (teq (by decide : (47 : Int32) = (47 : Int32))).2 k) ?_
    refine own_step (T' := T20) (g' := (mkF m 35 #[.val (.int p0), .val (.int (3 : Int32)), .val (.ref a_DIVIDE), .val (.int v19), .val (.int (47 : Int32)), .unset, .unset] [(.int (1 : Int32))])) (fun t k => XS.iconst X20.here hx rfl (hb hby at_34) k) ?_
    refine own_step (T' := T20) (g' := (mkF m 39 #[.val (.int p0), .val (.int (3 : Int32)), .val (.ref a_DIVIDE), .val (.int v19), .val (.int (47 : Int32)), .unset, .unset] [(.int (1 : Int32))])) (fun t k => XS.goto X20.here hx rfl (pc0 := 35) (pc' := 39) rfl (hb hby at_35) (by decide) (by decide) k) ?_
    refine own_step (T' := T20) (g' := (mkF m 41 #[.val (.int p0), .val (.int (3 : Int32)), .val (.ref a_DIVIDE), .val (.int v19), .val (.int (47 : Int32)), .val (.int (1 : Int32)), .unset] [])) (fun t k => XS.istore X20.here hx rfl (hb hby at_39) rfl (l' := #[.val (.int p0), .val (.int (3 : Int32)), .val (.ref a_DIVIDE), .val (.int v19), .val (.int (47 : Int32)), .val (.int (1 : Int32)), .unset]) rfl k) ?_
    refine own_step (T' := T20) (g' := (mkF m 42 #[.val (.int p0), .val (.int (3 : Int32)), .val (.ref a_DIVIDE), .val (.int v19), .val (.int (47 : Int32)), .val (.int (1 : Int32)), .unset] [(.int (3 : Int32))])) (fun t k => XS.iloadN X20.here hx rfl (hb hby at_41) rfl k) ?_
    refine own_step (T' := T20) (g' := (mkF m 43 #[.val (.int p0), .val (.int (3 : Int32)), .val (.ref a_DIVIDE), .val (.int v19), .val (.int (47 : Int32)), .val (.int (1 : Int32)), .unset] [(.int (2 : Int32)), (.int (3 : Int32))])) (fun t k => XS.iconst X20.here hx rfl (hb hby at_42) k) ?_
    refine own_step (T' := T20) (g' := (mkF m 46 #[.val (.int p0), .val (.int (3 : Int32)), .val (.ref a_DIVIDE), .val (.int v19), .val (.int (47 : Int32)), .val (.int (1 : Int32)), .unset] [])) (fun t k => XS.icmpNo X20.here hx rfl (hb hby at_43) rfl (flt (by decide : ¬ ((3 : Int32) < (2 : Int32)))).1 k) ?_
    refine own_step (T' := T20) (g' := (mkF m 47 #[.val (.int p0), .val (.int (3 : Int32)), .val (.ref a_DIVIDE), .val (.int v19), .val (.int (47 : Int32)), .val (.int (1 : Int32)), .unset] [(.int (1 : Int32))])) (fun t k => XS.iconst X20.here hx rfl (hb hby at_46) k) ?_
    refine own_step (T' := T20) (g' := (mkF m 51 #[.val (.int p0), .val (.int (3 : Int32)), .val (.ref a_DIVIDE), .val (.int v19), .val (.int (47 : Int32)), .val (.int (1 : Int32)), .unset] [(.int (1 : Int32))])) (fun t k => XS.goto X20.here hx rfl (pc0 := 47) (pc' := 51) rfl (hb hby at_47) (by decide) (by decide) k) ?_
    refine own_step (T' := T20) (g' := (mkF m 53 #[.val (.int p0), .val (.int (3 : Int32)), .val (.ref a_DIVIDE), .val (.int v19), .val (.int (47 : Int32)), .val (.int (1 : Int32)), .val (.int (1 : Int32))] [])) (fun t k => XS.istore X20.here hx rfl (hb hby at_51) rfl (l' := #[.val (.int p0), .val (.int (3 : Int32)), .val (.ref a_DIVIDE), .val (.int v19), .val (.int (47 : Int32)), .val (.int (1 : Int32)), .val (.int (1 : Int32))]) rfl k) ?_
    refine own_step (T' := T20) (g' := (mkF m 54 #[.val (.int p0), .val (.int (3 : Int32)), .val (.ref a_DIVIDE), .val (.int v19), .val (.int (47 : Int32)), .val (.int (1 : Int32)), .val (.int (1 : Int32))] [(.int v19)])) (fun t k => XS.iloadN X20.here hx rfl (hb hby at_53) rfl k) ?_
    refine own_step (T' := T20) (g' := (mkF m 56 #[.val (.int p0), .val (.int (3 : Int32)), .val (.ref a_DIVIDE), .val (.int v19), .val (.int (47 : Int32)), .val (.int (1 : Int32)), .val (.int (1 : Int32))] [(.int (1 : Int32)), (.int v19)])) (fun t k => XS.iload X20.here hx rfl (hb hby at_54) rfl k) ?_
    refine own_step (T' := T20) (g' := (mkF m 59 #[.val (.int p0), .val (.int (3 : Int32)), .val (.ref a_DIVIDE), .val (.int v19), .val (.int (47 : Int32)), .val (.int (1 : Int32)), .val (.int (1 : Int32))] [])) (fun t k => XS.icmpNo X20.here hx rfl (hb hby at_56) rfl (teq (by rw [← hv19]; unfold fn2; rw [if_neg (Ne.symm ne_MULTIPLY_DIVIDE), if_pos rfl])).2 k) ?_
    refine own_step (T' := T20) (g' := (mkF m 60 #[.val (.int p0), .val (.int (3 : Int32)), .val (.ref a_DIVIDE), .val (.int v19), .val (.int (47 : Int32)), .val (.int (1 : Int32)), .val (.int (1 : Int32))] [(.int v19)])) (fun t k => XS.iloadN X20.here hx rfl (hb hby at_59) rfl k) ?_
    refine own_step (T' := T20) (g' := (mkF m 62 #[.val (.int p0), .val (.int (3 : Int32)), .val (.ref a_DIVIDE), .val (.int v19), .val (.int (47 : Int32)), .val (.int (1 : Int32)), .val (.int (1 : Int32))] [(.int (1 : Int32)), (.int v19)])) (fun t k => XS.iload X20.here hx rfl (hb hby at_60) rfl k) ?_
    refine own_step (T' := T20) (g' := (mkF m 65 #[.val (.int p0), .val (.int (3 : Int32)), .val (.ref a_DIVIDE), .val (.int v19), .val (.int (47 : Int32)), .val (.int (1 : Int32)), .val (.int (1 : Int32))] [])) (fun t k => XS.icmpNo X20.here hx rfl (hb hby at_62) rfl (teq (by rw [← hv19]; unfold fn2; rw [if_neg (Ne.symm ne_MULTIPLY_DIVIDE), if_pos rfl])).2 k) ?_
    refine own_step (T' := T20) (g' := (mkF m 66 #[.val (.int p0), .val (.int (3 : Int32)), .val (.ref a_DIVIDE), .val (.int v19), .val (.int (47 : Int32)), .val (.int (1 : Int32)), .val (.int (1 : Int32))] [(.int (1 : Int32))])) (fun t k => XS.iconst X20.here hx rfl (hb hby at_65) k) ?_
    refine own_step (T' := T20) (g' := (mkF m 70 #[.val (.int p0), .val (.int (3 : Int32)), .val (.ref a_DIVIDE), .val (.int v19), .val (.int (47 : Int32)), .val (.int (1 : Int32)), .val (.int (1 : Int32))] [(.int (1 : Int32))])) (fun t k => XS.goto X20.here hx rfl (pc0 := 66) (pc' := 70) rfl (hb hby at_66) (by decide) (by decide) k) ?_
    refine own_retN X20 hx hlk (t := .boolean) (w := (1 : Int32)) Bd.returns (by simp) (hb hby at_70) rfl (by decide) (by decide) ?_
    exact ⟨rfl, N20⟩
set_option maxRecDepth 65536 in
set_option maxHeartbeats 40000000 in
theorem comes_1 {Post : Tables → Env → Array Value → State → Outcome → State → Prop} (hpost : ∀ tb e args s v u, (limb_1_1.after args s (.returned v) u = true ∧ limb_1_2.after args s (.returned v) u = true ∧ True) → FrameEnd s (.returned v) u (Jvm.fieldLocs frame_1_writes args s ++ Jvm.arrayLocs frame_1_arrays args s ++ Jvm.staticLocs frame_1_statics s) 0 0 → Post tb e args s (.returned v) u) :
    ArmFor flags0 classFile x code maxLocals ret World_1 tables_1 room_1 Calls_1 rest_1 Pre_1 Post := by
  intro l hfl _ _ p e ha hc hk s m args below hf hA hF happ hP
  obtain ⟨hcalls, hrest, hpre⟩ := hP
  obtain ⟨-, -, -, hnamed, -, -, -, hat⟩ := (Spec.applies_iff hf).mp happ
  obtain ⟨hg, hn⟩ := and_e (Cond.before_iff.mp (show (Jvm.Cond.and given_1 narrow_1).before args s = true from hpre))
  obtain ⟨g0, r0⟩ := and_e hg
  obtain ⟨w0, rfl⟩ : ∃ w0 : Value, args = #[w0] := by
    have hs : args.size = 1 := by simpa [Cond.value, given_1] using g0
    obtain ⟨L⟩ := args
    match L, hs with
    | [w0], _ => exact ⟨w0, rfl⟩
  have hw := fun d (hd : d ∈ tables_1) => atoms_spec (ws := Jvm.Cond.code x code maxLocals ret :: tables_1) hat d (List.mem_cons_of_mem _ hd)
  have hfit : Fit s := fun {y c} hc i hi => by
    obtain ⟨ha, rfl⟩ := Array.getElem?_eq_some_iff.mp hc
    have q := List.all_eq_true.mp ((Array.all_eq_true_iff_forall_mem.mp hF) _ (Array.getElem_mem ha)) i (List.mem_range.mpr hi)
    simpa [Array.getElem?_eq_getElem hi] using q
  obtain ⟨i0, ei0⟩ := is_v r0
  obtain rfl : w0 = (.int i0) := Option.some.inj ei0
  obtain ⟨q0, m0⟩ := and_e hn
  obtain ⟨q1, m1⟩ := and_e m0
  obtain ⟨q2, m2⟩ := and_e m1
  obtain ⟨q3, m3⟩ := and_e m2
  obtain ⟨q4, m4⟩ := and_e m3
  obtain ⟨q5, m5⟩ := and_e m4
  obtain ⟨q6, m6⟩ := and_e m5
  obtain ⟨q7, m7⟩ := and_e m6
  obtain ⟨q8, m8⟩ := and_e m7
  obtain ⟨q9, m9⟩ := and_e m8
  obtain ⟨q10, m10⟩ := and_e m9
  obtain ⟨a_ADD, ev_a_ADD⟩ := exa_v q0
  have S_a_ADD : Sta s s.heap "com/example/risk_rule_engine/riskruleengine/rules/Arithmetic" "ADD" "Lcom/example/risk_rule_engine/riskruleengine/rules/Arithmetic;" (.ref a_ADD) := Sta.start ev_a_ADD (Or.inr ⟨(hw _ (List.mem_of_getElem? (i := 5) rfl)), (hw _ (List.mem_of_getElem? (i := 6) rfl))⟩)
  have E_a_ADD : Exa s s.heap a_ADD "com/example/risk_rule_engine/riskruleengine/rules/Arithmetic" := Exa.start ev_a_ADD q0
  obtain ⟨a_MULTIPLY, ev_a_MULTIPLY⟩ := exa_v q1
  have S_a_MULTIPLY : Sta s s.heap "com/example/risk_rule_engine/riskruleengine/rules/Arithmetic" "MULTIPLY" "Lcom/example/risk_rule_engine/riskruleengine/rules/Arithmetic;" (.ref a_MULTIPLY) := Sta.start ev_a_MULTIPLY (Or.inr ⟨(hw _ (List.mem_of_getElem? (i := 5) rfl)), (hw _ (List.mem_of_getElem? (i := 13) rfl))⟩)
  have E_a_MULTIPLY : Exa s s.heap a_MULTIPLY "com/example/risk_rule_engine/riskruleengine/rules/Arithmetic" := Exa.start ev_a_MULTIPLY q1
  obtain ⟨a_DIVIDE, ev_a_DIVIDE⟩ := exa_v q4
  have S_a_DIVIDE : Sta s s.heap "com/example/risk_rule_engine/riskruleengine/rules/Arithmetic" "DIVIDE" "Lcom/example/risk_rule_engine/riskruleengine/rules/Arithmetic;" (.ref a_DIVIDE) := Sta.start ev_a_DIVIDE (Or.inr ⟨(hw _ (List.mem_of_getElem? (i := 5) rfl)), (hw _ (List.mem_of_getElem? (i := 15) rfl))⟩)
  have E_a_DIVIDE : Exa s s.heap a_DIVIDE "com/example/risk_rule_engine/riskruleengine/rules/Arithmetic" := Exa.start ev_a_DIVIDE q4
  obtain ⟨a_SUBTRACT, ev_a_SUBTRACT⟩ := exa_v q9
  have S_a_SUBTRACT : Sta s s.heap "com/example/risk_rule_engine/riskruleengine/rules/Arithmetic" "SUBTRACT" "Lcom/example/risk_rule_engine/riskruleengine/rules/Arithmetic;" (.ref a_SUBTRACT) := Sta.start ev_a_SUBTRACT (Or.inr ⟨(hw _ (List.mem_of_getElem? (i := 5) rfl)), (hw _ (List.mem_of_getElem? (i := 26) rfl))⟩)
  have E_a_SUBTRACT : Exa s s.heap a_SUBTRACT "com/example/risk_rule_engine/riskruleengine/rules/Arithmetic" := Exa.start ev_a_SUBTRACT q9
  have F_a_ADD_ordinal : Fld s s.heap a_ADD "java/lang/Enum" "ordinal" "I" (.int (0 : Int32)) := Fld.start ((fld_at ev_a_ADD).symm.trans (own_eqI q2))
  have F_a_MULTIPLY_ordinal : Fld s s.heap a_MULTIPLY "java/lang/Enum" "ordinal" "I" (.int (2 : Int32)) := Fld.start ((fld_at ev_a_MULTIPLY).symm.trans (own_eqI q3))
  have F_a_DIVIDE_ordinal : Fld s s.heap a_DIVIDE "java/lang/Enum" "ordinal" "I" (.int (3 : Int32)) := Fld.start ((fld_at ev_a_DIVIDE).symm.trans (own_eqI q5))
  have F_a_ADD_symbol : Fld s s.heap a_ADD "com/example/risk_rule_engine/riskruleengine/rules/Arithmetic" "symbol" "C" (.int (43 : Int32)) := Fld.start ((fld_at ev_a_ADD).symm.trans (own_eqI q6))
  have F_a_DIVIDE_symbol : Fld s s.heap a_DIVIDE "com/example/risk_rule_engine/riskruleengine/rules/Arithmetic" "symbol" "C" (.int (47 : Int32)) := Fld.start ((fld_at ev_a_DIVIDE).symm.trans (own_eqI q7))
  have F_a_MULTIPLY_symbol : Fld s s.heap a_MULTIPLY "com/example/risk_rule_engine/riskruleengine/rules/Arithmetic" "symbol" "C" (.int (42 : Int32)) := Fld.start ((fld_at ev_a_MULTIPLY).symm.trans (own_eqI q8))
  have F_a_SUBTRACT_ordinal : Fld s s.heap a_SUBTRACT "java/lang/Enum" "ordinal" "I" (.int (1 : Int32)) := Fld.start ((fld_at ev_a_SUBTRACT).symm.trans (own_eqI q10))
  have F_a_SUBTRACT_symbol : Fld s s.heap a_SUBTRACT "com/example/risk_rule_engine/riskruleengine/rules/Arithmetic" "symbol" "C" (.int (45 : Int32)) := Fld.start ((fld_at ev_a_SUBTRACT).symm.trans (own_eqI m10))
  have ne_ADD_SUBTRACT : a_ADD ≠ a_SUBTRACT := Fld.ne F_a_ADD_ordinal F_a_SUBTRACT_ordinal (by decide)
  have ne_ADD_MULTIPLY : a_ADD ≠ a_MULTIPLY := Fld.ne F_a_ADD_ordinal F_a_MULTIPLY_ordinal (by decide)
  have ne_ADD_DIVIDE : a_ADD ≠ a_DIVIDE := Fld.ne F_a_ADD_ordinal F_a_DIVIDE_ordinal (by decide)
  have ne_SUBTRACT_MULTIPLY : a_SUBTRACT ≠ a_MULTIPLY := Fld.ne F_a_SUBTRACT_ordinal F_a_MULTIPLY_ordinal (by decide)
  have ne_SUBTRACT_DIVIDE : a_SUBTRACT ≠ a_DIVIDE := Fld.ne F_a_SUBTRACT_ordinal F_a_DIVIDE_ordinal (by decide)
  have ne_MULTIPLY_DIVIDE : a_MULTIPLY ≠ a_DIVIDE := Fld.ne F_a_MULTIPLY_ordinal F_a_DIVIDE_ordinal (by decide)
  obtain ⟨n, o, h1, h2, h3, _, L, rfl, ⟨rfl, N⟩, hq⟩ := rm0 l s _ hw tables_1 i0 a_ADD a_SUBTRACT a_MULTIPLY a_DIVIDE s.heap s.heap.size (Nat.le_refl _) S_a_ADD S_a_SUBTRACT S_a_MULTIPLY S_a_DIVIDE E_a_ADD E_a_SUBTRACT E_a_MULTIPLY E_a_DIVIDE F_a_ADD_symbol F_a_SUBTRACT_symbol F_a_MULTIPLY_symbol F_a_DIVIDE_symbol ne_ADD_SUBTRACT ne_ADD_MULTIPLY ne_ADD_DIVIDE ne_SUBTRACT_MULTIPLY ne_SUBTRACT_DIVIDE ne_MULTIPLY_DIVIDE p e ha hc hk s m _ below hf ((Spec.applies_iff_loose hf).mp happ).1 ⟨rfl, State.Warmed39.refl s, rfl⟩ trivial
  refine ⟨n, _, h1, h2, h3, hpost _ _ _ _ _ _ ⟨Cond.after_iff.mpr rfl, Cond.after_iff.mpr (eq_i res_at (Term.int_eval (1)) rfl), trivial⟩ ⟨hq.1, hq.2.1, (hq.2.2.sift fun y hy => Or.inr (N y hy)).mono (by decide) (by decide)⟩⟩
theorem main_1_1 : Claimed_1_1 := comes_1 fun _ _ _ _ _ _ h hF => ⟨h.1, hF⟩
theorem main_1_2 : Claimed_1_2 := comes_1 fun _ _ _ _ _ _ h hF => ⟨h.2.1, hF⟩
end Jvm.Pilot.@@N@@
namespace Jvm.Pilot.@@N@@
open Jvm Jvm.ClassFile Sem Op Lib Jvm.Free Jvm.Stand Jvm.Pilot.@@N@@.Jvm.D
/-! MADE BY PROGRAM (witnessworld.py) out of the Statement's table words and the real class files: 12 classes; the members and pool entries that the words name. The judged class is class 1, her method 2. -/
namespace start1
open Jvm.ClassFile
def u (s : String) : CpInfo := .utf8 (stringToUtf16 s)
/-- a pool by its gaps: so many unusable entries, then the entry; so many at the end -/
def gap : Nat → List CpInfo → List CpInfo
  | 0, r => r
  | n + 1, r => .unusable :: gap n r
def poolList (es : List (Nat × CpInfo)) (last : Nat) : List CpInfo := es.foldr (fun e r => gap e.1 (e.2 :: r)) (gap last [])
def pool (es : List (Nat × CpInfo)) (last : Nat) : Array CpInfo := ⟨poolList es last⟩
def fileOf (pool : Array CpInfo) (this : Nat) (attrs : Array Attribute := #[]) (ms : Array MethodInfo := #[]) (fl : Nat := 33) (sup : Nat := 0) (ifs : Array Nat := #[]) (fds : Array FieldInfo := #[]) : ClassFile where
  minorVersion := 0
  majorVersion := 65
  constantPool := pool
  accessFlags := fl
  thisClass := this
  superClass := sup
  interfaces := ifs
  fields := fds
  methods := ms
  attributes := attrs
def plain (name : String) (sup : Option ClassId) : Class where
  name := name
  kind := .ordinary
  loader := none
  accessFlags := 33
  super := sup
  interfaces := #[]
  cf := none
  fields := #[]
  methods := #[]
  instanceTypes := #[]
  staticTypes := #[]
  resolved := #[]
  callSites := []
  init := .initialized
  statics := none
  mirror := none

def pool0 : Array CpInfo := pool [(5, u "<init>"), (0, u "()V"), (1, .class_ 10), (1, u "java/lang/Object")] 113

def k0m0 : Method := { name := "<init>", desc := "()V", sig := { parameters := [], returnType := none }, accessFlags := 1, code := none }
/-- java/lang/Object -/
def k0 : Class := { plain "java/lang/Object" none with
  accessFlags := 33
  interfaces := #[]
  cf := some (fileOf pool0 8 #[] #[{ accessFlags := 1, nameIndex := 5, descriptorIndex := 6, attributes := #[] }] 33 0 #[] #[])
  fields := #[]
  methods := #[k0m0]
  instanceTypes := #[]
  staticTypes := #[]
  resolved := Array.replicate 124 none
  statics := none }

def pool1 : Array CpInfo := pool [(2, .class_ 4), (1, u "java/lang/Object"), (0, u "<init>"), (0, u "()V"), (0, .fieldref 8 9), (0, .class_ 10), (0, .nameAndType 11 12), (0, u "com/example/risk_rule_engine/riskruleengine/rules/Arithmetic"), (0, u "ADD"), (0, u "Lcom/example/risk_rule_engine/riskruleengine/rules/Arithmetic;"), (0, .fieldref 8 14), (0, .nameAndType 15 12), (0, u "SUBTRACT"), (0, .fieldref 8 17), (0, .nameAndType 18 12), (0, u "MULTIPLY"), (0, .fieldref 8 20), (0, .nameAndType 21 12), (0, u "DIVIDE"), (0, .methodref 23 24), (0, .class_ 25), (0, .nameAndType 26 27), (0, u "com/example/risk_rule_engine/riskruleengine/rules/ArithmeticMultipliesPinLaw"), (0, u "pick"), (0, u "(I)Lcom/example/risk_rule_engine/riskruleengine/rules/Arithmetic;"), (0, .methodref 8 29), (0, .nameAndType 30 31), (0, u "multiplies"), (0, u "()Z"), (0, .methodref 8 33), (0, .nameAndType 34 35), (0, u "symbol"), (0, u "()C"), (3, u "law"), (0, u "(I)Z")] 2

def k1m0 : Method := { name := "<init>", desc := "()V", sig := { parameters := [], returnType := none }, accessFlags := 2, code := none }
def k1c1 : Code := { maxStack := 2, maxLocals := 1, code := method_2_code, exceptionTable := #[], attributes := #[] }
def k1m1 : Method := { name := "pick", desc := "(I)Lcom/example/risk_rule_engine/riskruleengine/rules/Arithmetic;", sig := { parameters := [.int], returnType := some (.object "com/example/risk_rule_engine/riskruleengine/rules/Arithmetic") }, accessFlags := 10, code := some k1c1 }
def k1c2 : Code := { maxStack := 2, maxLocals := 7, code := code, exceptionTable := #[], attributes := #[] }
def k1m2 : Method := { name := "law", desc := "(I)Z", sig := { parameters := [.int], returnType := some .boolean }, accessFlags := 9, code := some k1c2 }
/-- com/example/risk_rule_engine/riskruleengine/rules/ArithmeticMultipliesPinLaw -/
def k1 : Class := { plain "com/example/risk_rule_engine/riskruleengine/rules/ArithmeticMultipliesPinLaw" (some 0) with
  accessFlags := 49
  interfaces := #[]
  cf := some (fileOf pool1 23 #[] #[{ accessFlags := 2, nameIndex := 5, descriptorIndex := 6, attributes := #[] }, { accessFlags := 10, nameIndex := 26, descriptorIndex := 27, attributes := #[] }, { accessFlags := 9, nameIndex := 39, descriptorIndex := 40, attributes := #[] }] 49 2 #[] #[])
  fields := #[]
  methods := #[k1m0, k1m1, k1m2]
  instanceTypes := #[]
  staticTypes := #[]
  resolved := Array.replicate 43 none
  statics := none }

def pool2 : Array CpInfo := pool [(1, .class_ 2), (0, u "java/lang/constant/Constable"), (0, .class_ 4), (0, u "java/lang/Object")] 6

/-- java/lang/constant/Constable -/
def k2 : Class := { plain "java/lang/constant/Constable" (some 0) with
  accessFlags := 1537
  interfaces := #[]
  cf := some (fileOf pool2 1 #[] #[] 1537 3 #[] #[])
  fields := #[]
  methods := #[]
  instanceTypes := #[]
  staticTypes := #[]
  resolved := Array.replicate 11 none
  statics := none }

def pool3 : Array CpInfo := pool [(1, .class_ 2), (0, u "java/lang/Comparable"), (0, .class_ 4), (0, u "java/lang/Object")] 7

/-- java/lang/Comparable -/
def k3 : Class := { plain "java/lang/Comparable" (some 0) with
  accessFlags := 1537
  interfaces := #[]
  cf := some (fileOf pool3 1 #[] #[] 1537 3 #[] #[])
  fields := #[]
  methods := #[]
  instanceTypes := #[]
  staticTypes := #[]
  resolved := Array.replicate 12 none
  statics := none }

def pool4 : Array CpInfo := pool [(1, .class_ 2), (0, u "java/io/Serializable"), (0, .class_ 4), (0, u "java/lang/Object")] 2

/-- java/io/Serializable -/
def k4 : Class := { plain "java/io/Serializable" (some 0) with
  accessFlags := 1537
  interfaces := #[]
  cf := some (fileOf pool4 1 #[] #[] 1537 3 #[] #[])
  fields := #[]
  methods := #[]
  instanceTypes := #[]
  staticTypes := #[]
  resolved := Array.replicate 7 none
  statics := none }

def pool5 : Array CpInfo := pool [(2, .class_ 4), (1, u "java/lang/Enum"), (0, u "name"), (0, u "Ljava/lang/String;"), (2, u "ordinal"), (0, u "I"), (1, .class_ 14), (1, u "java/lang/Object"), (4, u "hash"), (86, .class_ 108), (1, u "java/lang/Enum$EnumDesc"), (2, .class_ 112), (0, u "java/lang/constant/Constable"), (0, .class_ 114), (0, u "java/lang/Comparable"), (0, .class_ 116), (0, u "java/io/Serializable")] 87

/-- java/lang/Enum -/
def k5 : Class := { plain "java/lang/Enum" (some 0) with
  accessFlags := 1057
  interfaces := #[2, 3, 4]
  cf := some (fileOf pool5 2 #[.nestMembers #[106]] #[] 1057 12 #[111, 113, 115] #[{ accessFlags := 18, nameIndex := 5, descriptorIndex := 6, attributes := #[] }, { accessFlags := 18, nameIndex := 9, descriptorIndex := 10, attributes := #[] }, { accessFlags := 2, nameIndex := 19, descriptorIndex := 10, attributes := #[] }])
  fields := #[{ name := "name", type := (.object "java/lang/String"), accessFlags := 18, slot := 0, constantValue := 0 }, { name := "ordinal", type := .int, accessFlags := 18, slot := 1, constantValue := 0 }, { name := "hash", type := .int, accessFlags := 2, slot := 2, constantValue := 0 }]
  methods := #[]
  instanceTypes := #[(.object "java/lang/String"), .int, .int]
  staticTypes := #[]
  resolved := Array.replicate 204 none
  statics := none }

def pool6 : Array CpInfo := pool [(1, .class_ 2), (0, u "com/example/risk_rule_engine/riskruleengine/rules/Arithmetic"), (2, u "ADD"), (0, u "Lcom/example/risk_rule_engine/riskruleengine/rules/Arithmetic;"), (2, u "SUBTRACT"), (0, .fieldref 1 11), (0, .nameAndType 12 6), (0, u "MULTIPLY"), (0, .fieldref 1 14), (0, .nameAndType 15 6), (0, u "DIVIDE"), (2, u "$VALUES"), (0, u "[Lcom/example/risk_rule_engine/riskruleengine/rules/Arithmetic;"), (6, .class_ 28), (1, u "java/lang/Enum"), (6, .fieldref 1 36), (0, .nameAndType 37 38), (0, u "symbol"), (0, u "C"), (33, u "QUOTIENT"), (0, u "Ljava/math/MathContext;"), (22, u "EXACT"), (75, u "EXACT_DIGITS"), (0, u "I"), (2, u "QUOTIENT_DIGITS"), (8, u "()C"), (0, u "multiplies"), (0, u "()Z")] 9

def k6c0 : Code := { maxStack := 1, maxLocals := 1, code := prog_11_method_4_code, exceptionTable := #[], attributes := #[] }
def k6m0 : Method := { name := "symbol", desc := "()C", sig := { parameters := [], returnType := some .char }, accessFlags := 0, code := some k6c0 }
def k6c1 : Code := { maxStack := 2, maxLocals := 1, code := prog_11_method_5_code, exceptionTable := #[], attributes := #[] }
def k6m1 : Method := { name := "multiplies", desc := "()Z", sig := { parameters := [], returnType := some .boolean }, accessFlags := 0, code := some k6c1 }
/-- com/example/risk_rule_engine/riskruleengine/rules/Arithmetic -/
def k6 : Class := { plain "com/example/risk_rule_engine/riskruleengine/rules/Arithmetic" (some 5) with
  accessFlags := 16433
  interfaces := #[]
  cf := some (fileOf pool6 1 #[] #[{ accessFlags := 0, nameIndex := 37, descriptorIndex := 185, attributes := #[] }, { accessFlags := 0, nameIndex := 186, descriptorIndex := 187, attributes := #[] }] 16433 26 #[] #[{ accessFlags := 16409, nameIndex := 5, descriptorIndex := 6, attributes := #[] }, { accessFlags := 16409, nameIndex := 9, descriptorIndex := 6, attributes := #[] }, { accessFlags := 16409, nameIndex := 12, descriptorIndex := 6, attributes := #[] }, { accessFlags := 16409, nameIndex := 15, descriptorIndex := 6, attributes := #[] }, { accessFlags := 25, nameIndex := 172, descriptorIndex := 173, attributes := #[] }, { accessFlags := 24, nameIndex := 176, descriptorIndex := 173, attributes := #[] }, { accessFlags := 26, nameIndex := 96, descriptorIndex := 73, attributes := #[] }, { accessFlags := 26, nameIndex := 72, descriptorIndex := 73, attributes := #[] }, { accessFlags := 18, nameIndex := 37, descriptorIndex := 38, attributes := #[] }, { accessFlags := 4122, nameIndex := 18, descriptorIndex := 19, attributes := #[] }])
  fields := #[{ name := "ADD", type := (.object "com/example/risk_rule_engine/riskruleengine/rules/Arithmetic"), accessFlags := 16409, slot := 0, constantValue := 0 }, { name := "SUBTRACT", type := (.object "com/example/risk_rule_engine/riskruleengine/rules/Arithmetic"), accessFlags := 16409, slot := 1, constantValue := 0 }, { name := "MULTIPLY", type := (.object "com/example/risk_rule_engine/riskruleengine/rules/Arithmetic"), accessFlags := 16409, slot := 2, constantValue := 0 }, { name := "DIVIDE", type := (.object "com/example/risk_rule_engine/riskruleengine/rules/Arithmetic"), accessFlags := 16409, slot := 3, constantValue := 0 }, { name := "EXACT_DIGITS", type := .int, accessFlags := 25, slot := 4, constantValue := 0 }, { name := "QUOTIENT_DIGITS", type := .int, accessFlags := 24, slot := 5, constantValue := 0 }, { name := "EXACT", type := (.object "java/math/MathContext"), accessFlags := 26, slot := 6, constantValue := 0 }, { name := "QUOTIENT", type := (.object "java/math/MathContext"), accessFlags := 26, slot := 7, constantValue := 0 }, { name := "symbol", type := .char, accessFlags := 18, slot := 3, constantValue := 0 }, { name := "$VALUES", type := (.array (.object "com/example/risk_rule_engine/riskruleengine/rules/Arithmetic")), accessFlags := 4122, slot := 8, constantValue := 0 }]
  methods := #[k6m0, k6m1]
  instanceTypes := #[(.object "java/lang/String"), .int, .int, .char]
  staticTypes := #[(.object "com/example/risk_rule_engine/riskruleengine/rules/Arithmetic"), (.object "com/example/risk_rule_engine/riskruleengine/rules/Arithmetic"), (.object "com/example/risk_rule_engine/riskruleengine/rules/Arithmetic"), (.object "com/example/risk_rule_engine/riskruleengine/rules/Arithmetic"), .int, .int, (.object "java/math/MathContext"), (.object "java/math/MathContext"), (.array (.object "com/example/risk_rule_engine/riskruleengine/rules/Arithmetic"))]
  resolved := Array.replicate 197 none
  statics := some 0 }

def pool7 : Array CpInfo := pool [(1, u "java/lang/Cloneable"), (0, .class_ 1), (0, u "java/lang/Object"), (0, .class_ 3)] 3

/-- java/lang/Cloneable -/
def k7 : Class := { plain "java/lang/Cloneable" (some 0) with
  accessFlags := 1537
  interfaces := #[]
  cf := some (fileOf pool7 2 #[] #[] 1537 4 #[] #[])
  fields := #[]
  methods := #[]
  instanceTypes := #[]
  staticTypes := #[]
  resolved := Array.replicate 8 none
  statics := none }

/-- the primitive byte -/
def k8 : Class := { plain "byte" none with kind := .primitive 'B', accessFlags := 0x411 }
/-- [B -/
def k9 : Class := { plain "[B" (some 0) with kind := .array 8 .byte, interfaces := #[7, 4], accessFlags := 1041 }

/-- the primitive int -/
def k10 : Class := { plain "int" none with kind := .primitive 'I', accessFlags := 0x411 }
/-- [I -/
def k11 : Class := { plain "[I" (some 0) with kind := .array 10 .int, interfaces := #[7, 4], accessFlags := 1041 }

def heap : Heap := #[{ cls := 6, slots := #[.ref 1, .ref 4, .ref 2, .ref 3, .int 0, .int 0, .null, .null, .null], vm := .statics 6 },
  { cls := 6, slots := #[.null, .int 0, .int 0, .int 43], vm := .none },
  { cls := 6, slots := #[.null, .int 2, .int 0, .int 42], vm := .none },
  { cls := 6, slots := #[.null, .int 3, .int 0, .int 47], vm := .none },
  { cls := 6, slots := #[.null, .int 1, .int 0, .int 45], vm := .none }]
def classes : Array Class := #[k0, k1, k2, k3, k4, k5, k6, k7, k8, k9, k10, k11]
def interned : List (Array UInt16 × Addr) := []
def slotsUsed : Nat := 25
def theMethod : MethodId := ⟨1, 2⟩
def args0 : Array Value := #[.int 5]
def aboutOver (below : List Frame) : State where
  vm := { classes := classes, interned := interned.toArray }
  heap := heap
  slotsUsed := slotsUsed
  threads := #[{ frames := .invoking theMethod args0 :: below }]
def below0 : List Frame := [.native { method := ⟨0, 0⟩, args := #[] }]
def about1 : State := aboutOver below0
def p0 : Program := .bare "" "" ""
def e0 : Env := launch0.env 0 0 0
theorem w_frames : about1.frames = Frame.invoking theMethod args0 :: below0 := rfl
set_option maxRecDepth 65536 in
theorem w_args : argsFit about1.vm theMethod args0 = true := by decide +kernel
set_option maxRecDepth 65536 in
theorem w_heap : heapFits about1 = true := by decide +kernel
set_option maxRecDepth 65536 in
theorem w_runnable : about1.curStatus? = some .runnable := by decide +kernel
set_option maxRecDepth 65536 in
theorem w_alone : about1.alone = true := by decide +kernel
set_option maxRecDepth 65536 in
theorem w_named : about1.methodNamed? x = some theMethod := by decide +kernel
set_option maxRecDepth 65536 in
theorem w_hears : about1.hears theMethod below0 = true := by decide +kernel
set_option maxRecDepth 65536 in
theorem w_ripe : about1.ripe theMethod args0 below0 = true := by decide +kernel
theorem w_running : about1.status = .running := rfl
set_option maxRecDepth 65536 in
theorem w_room : about1.hasRoom e0.platform room_1 = true :=
  launch0.hasRoom_least _ room_1 (by decide +kernel) (by decide +kernel) (by decide +kernel) (by decide +kernel) (by decide +kernel) (by decide +kernel)
theorem allAtoms_all (ts : List Jvm.Cond) (a : Array Jvm.Value) (st : Jvm.State) : (allAtoms ts).before a st = ts.all (fun c => c.before a st) := by
  induction ts with
  | nil => rfl
  | cons c t ih =>
    show (Jvm.Cond.and c (allAtoms t)).before a st = _
    rw [Jvm.Cond.before_and, ih, List.all_cons]
def words1 : List Jvm.Cond := Jvm.Cond.code x code maxLocals ret :: tables_1
/-- a 'code' word, met by the world's own term for the bytes: nothing is compared byte by byte -/
theorem code_word {y : MethodName} {bytes : ByteArray} {mx : Nat} {rt : Option FieldType} {a : Array Value} {s : State} {m : MethodId} {meth : Method} {c : Code} (h1 : s.methodNamed? y = some m) (h2 : s.vm.method? m = some meth) (h3 : meth.code = some c) (h4 : c.code = bytes)
    (h5 : (c.maxLocals == mx && c.exceptionTable.isEmpty && decide (c.maxStack ≤ mostOperands) && decide (meth.sig.returnType = rt) && !meth.locks && decide (parseMethodDescriptor y.desc = some meth.sig)) = true) : (Jvm.Cond.code y bytes mx rt).before a s = true := by
  simp only [Bool.and_eq_true, beq_iff_eq, Bool.not_eq_true', decide_eq_true_eq] at h5
  obtain ⟨⟨⟨⟨⟨g1, g2⟩, g3⟩, g4⟩, g5⟩, g6⟩ := h5
  simp [Cond.before, Cond.holds, Cond.value, h1, h2, h3, h4, g1, g2, g3, g4, g5, g6]
def isCode : Jvm.Cond → Bool
  | .code _ _ _ _ => true
  | _ => false
theorem all_split {L : List Jvm.Cond} {P : Jvm.Cond → Bool} (h1 : L.all (fun c => isCode c || P c) = true) (h2 : ∀ c ∈ L.filter isCode, P c = true) : L.all P = true := by
  refine List.all_eq_true.mpr fun c hc => ?_
  have h := List.all_eq_true.mp h1 c hc
  rcases Bool.eq_false_or_eq_true (isCode c) with hi | hi
  · exact h2 c (List.mem_filter.mpr ⟨hc, hi⟩)
  · simpa [hi] using h
set_option maxRecDepth 65536 in
theorem w_c0 : (Jvm.Cond.code x code maxLocals ret).before args0 about1 = true := code_word (m := ⟨1, 2⟩) (meth := k1m2) (c := k1c2) (by decide +kernel) rfl rfl rfl (by decide +kernel)
set_option maxRecDepth 65536 in
theorem w_c1 : (Jvm.Cond.code ({ cls := "com/example/risk_rule_engine/riskruleengine/rules/ArithmeticMultipliesPinLaw", name := "pick", desc := "(I)Lcom/example/risk_rule_engine/riskruleengine/rules/Arithmetic;" } : Jvm.MethodName) method_2_code (1 : Nat) (Option.some (Jvm.ClassFile.FieldType.object "com/example/risk_rule_engine/riskruleengine/rules/Arithmetic"))).before args0 about1 = true := code_word (m := ⟨1, 1⟩) (meth := k1m1) (c := k1c1) (by decide +kernel) rfl rfl rfl (by decide +kernel)
set_option maxRecDepth 65536 in
theorem w_c2 : (Jvm.Cond.code ({ cls := "com/example/risk_rule_engine/riskruleengine/rules/Arithmetic", name := "multiplies", desc := "()Z" } : Jvm.MethodName) prog_11_method_5_code (1 : Nat) (Option.some Jvm.ClassFile.FieldType.boolean)).before args0 about1 = true := code_word (m := ⟨6, 1⟩) (meth := k6m1) (c := k6c1) (by decide +kernel) rfl rfl rfl (by decide +kernel)
set_option maxRecDepth 65536 in
theorem w_c3 : (Jvm.Cond.code ({ cls := "com/example/risk_rule_engine/riskruleengine/rules/Arithmetic", name := "symbol", desc := "()C" } : Jvm.MethodName) prog_11_method_4_code (1 : Nat) (Option.some Jvm.ClassFile.FieldType.char)).before args0 about1 = true := code_word (m := ⟨6, 0⟩) (meth := k6m0) (c := k6c0) (by decide +kernel) rfl rfl rfl (by decide +kernel)
def codes1 : List Jvm.Cond := [Jvm.Cond.code x code maxLocals ret, Jvm.Cond.code ({ cls := "com/example/risk_rule_engine/riskruleengine/rules/ArithmeticMultipliesPinLaw", name := "pick", desc := "(I)Lcom/example/risk_rule_engine/riskruleengine/rules/Arithmetic;" } : Jvm.MethodName) method_2_code (1 : Nat) (Option.some (Jvm.ClassFile.FieldType.object "com/example/risk_rule_engine/riskruleengine/rules/Arithmetic")), Jvm.Cond.code ({ cls := "com/example/risk_rule_engine/riskruleengine/rules/Arithmetic", name := "multiplies", desc := "()Z" } : Jvm.MethodName) prog_11_method_5_code (1 : Nat) (Option.some Jvm.ClassFile.FieldType.boolean), Jvm.Cond.code ({ cls := "com/example/risk_rule_engine/riskruleengine/rules/Arithmetic", name := "symbol", desc := "()C" } : Jvm.MethodName) prog_11_method_4_code (1 : Nat) (Option.some Jvm.ClassFile.FieldType.char)]
set_option maxRecDepth 65536 in
theorem codes_eq : words1.filter isCode = codes1 := rfl
theorem w_codes : ∀ c ∈ words1.filter isCode, c.before args0 about1 = true := by
  rw [codes_eq]
  intro c hc
  simp only [codes1, List.mem_cons, List.not_mem_nil, or_false] at hc
  rcases hc with rfl | rfl | rfl | rfl
  · exact w_c0
  · exact w_c1
  · exact w_c2
  · exact w_c3
set_option maxRecDepth 65536 in
theorem w_t1 : (words1.take 24).all (fun c => isCode c || c.before args0 about1) = true := by decide +kernel
set_option maxRecDepth 65536 in
theorem w_t2 : (words1.drop 24).all (fun c => isCode c || c.before args0 about1) = true := by decide +kernel
theorem w_tables : (allAtoms (Jvm.Cond.code x code maxLocals ret :: tables_1)).before args0 about1 = true := by
  rw [allAtoms_all]
  show words1.all (fun c => c.before args0 about1) = true
  refine all_split ?_ w_codes
  rw [← List.take_append_drop 24 words1, List.all_append, w_t1, w_t2]
  rfl
set_option maxRecDepth 65536 in
theorem w_case : (Jvm.Cond.and given_1 narrow_1).before args0 about1 = true := by decide +kernel
theorem w_applies : (headSpec (Jvm.Cond.code x code maxLocals ret :: tables_1) room_1).applies x e0.platform about1 = true :=
  (Spec.applies_iff w_frames).mpr ⟨w_running, w_runnable, w_alone, w_named, w_hears, w_ripe, w_room, w_tables⟩
theorem atStart : AtStart classFile x code maxLocals ret World_1 tables_1 room_1 Calls_1 rest_1 Pre_1 launch0 p0 e0 about1 theMethod args0 below0 :=
  ⟨lists_1, trivial, launch0.admits_env _ _ _, launch0.least_env, fairChoices_fair.cas, fairChoices_fair.clock, w_frames, w_args, w_heap, w_applies, trivial, trivial, w_case⟩
end start1
theorem witness_1 : WitnessClaimed_1 := ⟨start1.p0, start1.e0, start1.about1, start1.theMethod, start1.args0, start1.below0, start1.atStart⟩
end Jvm.Pilot.@@N@@
