import JvmDerived
import JvmDerived.Pilot.@@N@@Statement
import JvmDerived.Pilot.@@N@@Code
set_option linter.unusedVariables false
set_option linter.unusedSimpArgs false
@@BLOCK:NumsL.lean.txt@@
namespace Jvm.Pilot.@@N@@
open Jvm Jvm.ClassFile Sem Op Lib Jvm.Free Jvm.Stand Jvm.LawKit Jvm.RoadKit Bundle Jvm.Pilot.@@N@@.Jvm.D

section OwnKit
variable {p : Program} {l : Launch} {e : Env} {R : Room} {s : State} {m : MethodId} {args : Array Value} {below : List Frame} {meth : Method} {c : Code} {T T' : State} {locs : List Loc} {cells slots : Nat} {Z : State} {h h' : Heap}
/-- from the state T with the frame g on top the run ends well -/
def own_G (p : Program) (e : Env) (below : List Frame) (s : State) (kc ks : Nat) (Q : Option Value → Heap → List Loc → Prop) (T : State) (g : JFrame) : Prop :=
  ∃ (U : State) (o : Outcome), Steps p.tables e below (T.setTop g) U ∧ U.status = .running ∧ Ended U below o ∧ ∃ v L, o = .returned v ∧ Q v U.heap L ∧ FrameEnd s o U L kc ks
variable {kc ks : Nat} {Q : Option Value → Heap → List Loc → Prop}
theorem own_step {g g' : JFrame} (k : ∀ t, Steps p.tables e below (T'.setTop g') t → Steps p.tables e below (T.setTop g) t) (hh : own_G p e below s kc ks Q T' g') : own_G p e below s kc ks Q T g := by
  obtain ⟨U, o, h1, h2⟩ := hh
  exact ⟨U, o, k _ h1, h2⟩
theorem own_retN (X : Stand p l e R s m args below meth c T locs cells slots) (hx : p.tables.exec = Jvm.exec) (hlk : meth.locks = false) {pc : Nat} {Ls : Array Slot} {z w : Int32} {t : FieldType} {rest : List Value} (hret : meth.sig.returnType = some t) (ht : t = .boolean ∨ t = .byte ∨ t = .char ∨ t = .short) (hd : decode c.code pc = .ok (.ireturn, 1)) (hw : nar t z = w) (hc : cells ≤ kc) (hs : slots ≤ ks) (hQ : Q (some (.int w)) T.heap locs) :
    own_G p e below s kc ks Q T (mkF m pc Ls (.int z :: rest)) := by
  subst hw
  obtain ⟨fs, hr, hrun, hended, hW, hsame⟩ := X.leave (v := some (.int (nar t z))) (fun q => by rw [hret] at q; cases q) hlk
  exact ⟨_, _, retN X hx hret ht hd hr, hrun, hended, _, _, rfl, hQ, ⟨_, rfl⟩, hW, hsame.mono hc hs⟩
theorem own_retI (X : Stand p l e R s m args below meth c T locs cells slots) (hx : p.tables.exec = Jvm.exec) (hlk : meth.locks = false) {pc : Nat} {Ls : Array Slot} {z : Int32} {rest : List Value} (hret : meth.sig.returnType = some .int) (hd : decode c.code pc = .ok (.ireturn, 1)) (hc : cells ≤ kc) (hs : slots ≤ ks) (hQ : Q (some (.int z)) T.heap locs) :
    own_G p e below s kc ks Q T (mkF m pc Ls (.int z :: rest)) := by
  obtain ⟨fs, hr, hrun, hended, hW, hsame⟩ := X.leave (v := some (.int z)) (fun q => by rw [hret] at q; cases q) hlk
  exact ⟨_, _, retOut X hx hret rfl (Or.inl ⟨rfl, Or.inl rfl, z, rfl⟩) hd hr, hrun, hended, _, _, rfl, hQ, ⟨_, rfl⟩, hW, hsame.mono hc hs⟩
theorem own_retJ (X : Stand p l e R s m args below meth c T locs cells slots) (hx : p.tables.exec = Jvm.exec) (hlk : meth.locks = false) {pc : Nat} {Ls : Array Slot} {z : Int64} {rest : List Value} (hret : meth.sig.returnType = some .long) (hd : decode c.code pc = .ok (.lreturn, 1)) (hc : cells ≤ kc) (hs : slots ≤ ks) (hQ : Q (some (.long z)) T.heap locs) :
    own_G p e below s kc ks Q T (mkF m pc Ls (.long z :: rest)) := by
  obtain ⟨fs, hr, hrun, hended, hW, hsame⟩ := X.leave (v := some (.long z)) (fun q => by rw [hret] at q; cases q) hlk
  exact ⟨_, _, retOut X hx hret rfl (Or.inr (Or.inl ⟨rfl, rfl, z, rfl⟩)) hd hr, hrun, hended, _, _, rfl, hQ, ⟨_, rfl⟩, hW, hsame.mono hc hs⟩
theorem own_retR (X : Stand p l e R s m args below meth c T locs cells slots) (hx : p.tables.exec = Jvm.exec) (hlk : meth.locks = false) {pc : Nat} {Ls : Array Slot} {w : Value} {t : FieldType} {rest : List Value} (hret : meth.sig.returnType = some t) (ht : t.isReference = true) (hw : w.isRef = true) (hd : decode c.code pc = .ok (.areturn, 1)) (hc : cells ≤ kc) (hs : slots ≤ ks) (hQ : Q (some w) T.heap locs) :
    own_G p e below s kc ks Q T (mkF m pc Ls (w :: rest)) := by
  obtain ⟨fs, hr, hrun, hended, hW, hsame⟩ := X.leave (v := some w) (fun q => by rw [hret] at q; cases q) hlk
  have hn : narrow t w = w := by cases w <;> cases t <;> first | rfl | (cases hw; done) | (cases ht; done)
  exact ⟨_, _, retOut X hx hret hn (Or.inr (Or.inr (Or.inr (Or.inr ⟨rfl, ht, hw⟩)))) hd hr, hrun, hended, _, _, rfl, hQ, ⟨_, rfl⟩, hW, hsame.mono hc hs⟩
theorem own_retV (X : Stand p l e R s m args below meth c T locs cells slots) (hx : p.tables.exec = Jvm.exec) (hlk : meth.locks = false) {pc : Nat} {Ls : Array Slot} (hret : meth.sig.returnType = none) (hd : decode c.code pc = .ok (.return_, 1)) (hc : cells ≤ kc) (hs : slots ≤ ks) (hQ : Q none T.heap locs) :
    own_G p e below s kc ks Q T (mkF m pc Ls []) := by
  obtain ⟨fs, hr, hrun, hended, hW, hsame⟩ := X.leave (v := none) (fun _ => rfl) hlk
  exact ⟨_, _, X.returnOut hx hret hd hr, hrun, hended, _, _, rfl, hQ, ⟨_, rfl⟩, hW, hsame.mono hc hs⟩
theorem own_lksw (X : Stand p l e R s m args below meth c T locs cells slots) (hx : p.tables.exec = Jvm.exec) {g : JFrame} (hg : g.method = m) {d : Int} {prs : Array (Int × Int)} {len : Nat} (hd : decode c.code g.pc = .ok (.lookupswitch d prs, len)) {x : Int32} {rest : List Value} (hs : g.stack = .int x :: rest) (hp : (prs.toList.zip (prs.toList.drop 1)).all (fun (a, next) => a.1 < next.1) = true)
    {o : Int} (ho : lookupswitch.offset prs.toList d x.toInt = o) {pc0 pc' : Nat} (hpc : g.pc = pc0) (h0 : 0 ≤ (pc0 : Int) + o) (hq : ((pc0 : Int) + o).toNat = pc') {target : State}
    (k : Steps p.tables e below (T.setTop { g with pc := pc', stack := rest }) target) : Steps p.tables e below (T.setTop g) target := by
  subst hg hpc hq ho
  jvm_step X.here [X.here.top, hx, hd, hs, lookupswitch.wp_chain, hp, h0]
  exact ⟨by simpa using hp, k⟩
theorem own_sta_keep {C n d : String} {v : Value} {ws : List Addr} (F : Sta Z h C n d v) (K : Keep h h' ws) (q : ∀ a ∈ ws, ∀ cell : Cell, h[a]? = some cell → cell.vm.isStatics = false) : Sta Z h' C n d v := by
  obtain ⟨cf, i, k, f, st, cell, h1, h2, h3, h4, h5, h6, h7⟩ := F
  exact ⟨cf, i, k, f, st, cell, h1, h2, h3, h4, K.2.1 st cell h5 (fun hm => by rw [q st hm cell h5] at h6; cases h6), h6, h7⟩
end OwnKit

section OwnKitW
variable {p : Program} {l : Launch} {e : Env} {R : Room} {s : State} {m : MethodId} {args : Array Value} {below : List Frame} {meth : Method} {c : Code} {T T' : State} {locs : List Loc} {cells slots : Nat} {Z : State} {h h0 : Heap} {a0 : Array Value} {EL : List (String × Nat)} {vm1 : Vm} {kn : Nat}
/-- from the state T with the frame g on top the run ends well (a walk that may load constants) -/
def own_GW (Z : State) (EL : List (String × Nat)) (h0 : Heap) (p : Program) (e : Env) (below : List Frame) (s : State) (kc ks : Nat) (Q : Option Value → Heap → List Loc → Prop) (T : State) (g : JFrame) : Prop :=
  ∃ (U : State) (o : Outcome), Steps p.tables e below (T.setTop g) U ∧ U.status = .running ∧ Ended U below o ∧ ∃ v L, o = .returned v ∧ Q v U.heap L ∧ CHr Z EL s.vm h0 U.vm U.heap ∧ ReturnedEndW s o U L kc ks
variable {kc ks : Nat} {Q : Option Value → Heap → List Loc → Prop}
theorem own_safe_null {vm : Vm} {x : Addr} (hal : Z.vm.Alike vm) (E : Exa Z h x "java/lang/String") (F : Fld Z h x "java/lang/String" "value" "[B" .null) : Safe Z EL vm h x := fun B => by
  obtain ⟨q0, -, u, a, -, q, -, S, rfl | rfl⟩ := B
  · obtain ⟨cS, ⟨⟨s1, -, -, ⟨c1, k1, i1, f1, -⟩, -, -, -, v1, -⟩, -⟩, -⟩ := S
    obtain ⟨cell, cf, k, i, f, h1, h2, h3, h4, h5, h6, h7⟩ := F
    cases (show h[q.sa]? = some q.sC from s1).symm.trans h1
    obtain ⟨k3, e3, -⟩ := State.fieldFound?_setVm (s := Z) hal h2
    have e4 := (show (Wst Z vm h).fieldFound? _ _ _ = _ from e3).symm.trans f1
    simp only [Option.some.injEq, Prod.mk.injEq] at e4
    rw [← e4.2.2.2, h7] at v1
    cases v1
  · obtain ⟨cell, k, e1, e2, e3, -, -⟩ := E
    cases (show h[q.sd]? = some q.SA from S.hd).symm.trans e1
    obtain ⟨cS, -, -, f, -⟩ := S
    have f' : vm.findClass "[B" = some q.SA.cls := f
    rw [hal.findClass] at f'
    obtain ⟨k1, q1, q2⟩ := Vm.findClass_spec f'
    obtain ⟨k2, q3, q4⟩ := Vm.findClass_spec e2
    cases q1.symm.trans q3
    exact absurd (q2.symm.trans q4) (by decide)
theorem own_foundW {Tm U : State} {own : String} {ci : ClassId} (hS : (s.setVm vm1).Since U.vm kn) (ho : vm1.findClass own = some ci) : U.vm.findClass own = some ci := by
  have q : U.vm.findClass own = vm1.findClass own := hS.1.alike.findClass own _
  rw [q]; exact ho
theorem own_stepW {g g' : JFrame} (k : ∀ t, Steps p.tables e below (T'.setTop g') t → Steps p.tables e below (T.setTop g) t) (hh : own_GW Z EL h0 p e below s kc ks Q T' g') : own_GW Z EL h0 p e below s kc ks Q T g := by
  obtain ⟨U, o, h1, h2⟩ := hh
  exact ⟨U, o, k _ h1, h2⟩
theorem own_endW (X : Stand p l e R (s.setVm vm1) m args below meth c T locs cells slots) (hZ : Z.Warmed39 vm1) (w : EW Z a0 EL) (eT : T.heap = h) (C : CHr Z EL s.vm h0 vm1 h) : CHr Z EL s.vm h0 T.vm T.heap := by
  rw [eT]; exact C.trans (CHv.at X hZ w C.1)
theorem own_retNW (X : Stand p l e R (s.setVm vm1) m args below meth c T locs cells slots) (hx : p.tables.exec = Jvm.exec) (hlk : meth.locks = false) (hS : s.Since vm1 kn) (hk : kn ≤ T.heap.size) (hC : CHr Z EL s.vm h0 T.vm T.heap) {pc : Nat} {Ls : Array Slot} {z w : Int32} {t : FieldType} {rest : List Value} (hret : meth.sig.returnType = some t) (ht : t = .boolean ∨ t = .byte ∨ t = .char ∨ t = .short) (hd : decode c.code pc = .ok (.ireturn, 1)) (hw : nar t z = w) (hc : cells ≤ kc) (hs : slots ≤ ks) (hQ : Q (some (.int w)) T.heap locs) :
    own_GW Z EL h0 p e below s kc ks Q T (mkF m pc Ls (.int z :: rest)) := by
  subst hw
  obtain ⟨fs, hr, hrun, hended, hE⟩ := X.leaveW hS hk (v := some (.int (nar t z))) (fun q => by rw [hret] at q; cases q) hlk
  exact ⟨_, _, retN X hx hret ht hd hr, hrun, hended, _, _, rfl, hQ, hC, hE.1, hE.2.1, hE.2.2.1, hE.2.2.2.mono hc hs⟩
theorem own_retIW (X : Stand p l e R (s.setVm vm1) m args below meth c T locs cells slots) (hx : p.tables.exec = Jvm.exec) (hlk : meth.locks = false) (hS : s.Since vm1 kn) (hk : kn ≤ T.heap.size) (hC : CHr Z EL s.vm h0 T.vm T.heap) {pc : Nat} {Ls : Array Slot} {z : Int32} {rest : List Value} (hret : meth.sig.returnType = some .int) (hd : decode c.code pc = .ok (.ireturn, 1)) (hc : cells ≤ kc) (hs : slots ≤ ks) (hQ : Q (some (.int z)) T.heap locs) :
    own_GW Z EL h0 p e below s kc ks Q T (mkF m pc Ls (.int z :: rest)) := by
  obtain ⟨fs, hr, hrun, hended, hE⟩ := X.leaveW hS hk (v := some (.int z)) (fun q => by rw [hret] at q; cases q) hlk
  exact ⟨_, _, retOut X hx hret rfl (Or.inl ⟨rfl, Or.inl rfl, z, rfl⟩) hd hr, hrun, hended, _, _, rfl, hQ, hC, hE.1, hE.2.1, hE.2.2.1, hE.2.2.2.mono hc hs⟩
theorem own_retRW (X : Stand p l e R (s.setVm vm1) m args below meth c T locs cells slots) (hx : p.tables.exec = Jvm.exec) (hlk : meth.locks = false) (hS : s.Since vm1 kn) (hk : kn ≤ T.heap.size) (hC : CHr Z EL s.vm h0 T.vm T.heap) {pc : Nat} {Ls : Array Slot} {w : Value} {t : FieldType} {rest : List Value} (hret : meth.sig.returnType = some t) (ht : t.isReference = true) (hw : w.isRef = true) (hd : decode c.code pc = .ok (.areturn, 1)) (hc : cells ≤ kc) (hs : slots ≤ ks) (hQ : Q (some w) T.heap locs) :
    own_GW Z EL h0 p e below s kc ks Q T (mkF m pc Ls (w :: rest)) := by
  obtain ⟨fs, hr, hrun, hended, hE⟩ := X.leaveW hS hk (v := some w) (fun q => by rw [hret] at q; cases q) hlk
  have hn : narrow t w = w := by cases w <;> cases t <;> first | rfl | (cases hw; done) | (cases ht; done)
  exact ⟨_, _, retOut X hx hret hn (Or.inr (Or.inr (Or.inr (Or.inr ⟨rfl, ht, hw⟩)))) hd hr, hrun, hended, _, _, rfl, hQ, hC, hE.1, hE.2.1, hE.2.2.1, hE.2.2.2.mono hc hs⟩
theorem own_retVW (X : Stand p l e R (s.setVm vm1) m args below meth c T locs cells slots) (hx : p.tables.exec = Jvm.exec) (hlk : meth.locks = false) (hS : s.Since vm1 kn) (hk : kn ≤ T.heap.size) (hC : CHr Z EL s.vm h0 T.vm T.heap) {pc : Nat} {Ls : Array Slot} (hret : meth.sig.returnType = none) (hd : decode c.code pc = .ok (.return_, 1)) (hc : cells ≤ kc) (hs : slots ≤ ks) (hQ : Q none T.heap locs) :
    own_GW Z EL h0 p e below s kc ks Q T (mkF m pc Ls []) := by
  obtain ⟨fs, hr, hrun, hended, hE⟩ := X.leaveW hS hk (v := none) (fun _ => rfl) hlk
  exact ⟨_, _, X.returnOut hx hret hd hr, hrun, hended, _, _, rfl, hQ, hC, hE.1, hE.2.1, hE.2.2.1, hE.2.2.2.mono hc hs⟩
end OwnKitW

theorem own_c255 (x : Int32) : ¬ nar .char ((x &&& (255 : Int32)).toUInt32.toUInt16.toUInt32.toInt32) < 0 ∧ ¬ (255 : Int32) < nar .char ((x &&& (255 : Int32)).toUInt32.toUInt16.toUInt32.toInt32) := by
  have e : nar .char ((x &&& (255 : Int32)).toUInt32.toUInt16.toUInt32.toInt32) = x &&& 255 := by
    show ((x &&& (255 : Int32)).toUInt32.toUInt16.toUInt32.toInt32).toUInt32.toUInt16.toUInt32.toInt32 = _
    rw [i2c_mask, i2c_mask]
  rw [e]
  have h : (x &&& 255).toBitVec.toNat < 256 := by
    simp only [Int32.toBitVec_and, BitVec.toNat_and]
    exact Nat.lt_succ_of_le Nat.and_le_right
  have e2 : (x &&& 255).toInt = ((x &&& 255).toBitVec.toNat : Int) := by
    show (x &&& 255).toBitVec.toInt = _
    rw [BitVec.toInt_eq_toNat_cond, if_pos (by omega)]
  simp only [Int32.lt_iff_toInt_lt, Int32.reduceToInt]
  omega
theorem own_up (cs : List Int32) (h : ∀ c ∈ cs, ¬ c < 0 ∧ ¬ (255 : Int32) < c) : ∀ c ∈ cs, ¬ c < 0 ∧ ¬ (65535 : Int32) < c := fun c hc => by
  have q := h c hc
  simp only [Int32.lt_iff_toInt_lt, Int32.reduceToInt] at q ⊢
  omega
theorem pd_0 : parseMethodDescriptor "()Ljava/lang/String;" = some ⟨[], some (.object "java/lang/String")⟩ := by decide +kernel
theorem pd_1 : parseMethodDescriptor "(Ljava/lang/Object;)Z" = some ⟨[(.object "java/lang/Object")], some .boolean⟩ := by decide +kernel
theorem pd_2 : parseMethodDescriptor "([B[B)Z" = some ⟨[(.array .byte), (.array .byte)], some .boolean⟩ := by decide +kernel
theorem pd_3 : parseMethodDescriptor "()Z" = some ⟨[], some .boolean⟩ := by decide +kernel
theorem pn_0 : plainName "com/example/risk_rule_engine/riskruleengine/rules/StatisticOfFieldPinLaw" = true := by first | (simp [plainName, overriddenIn]; done) | decide +kernel
theorem d1_0 : decode prog_15_method_6_code 0 = .ok (.aload_n 0, 1) := by decide +kernel
theorem d1_1 : decode prog_15_method_6_code 1 = .ok (.getfield 32, 3) := by decide +kernel
theorem d1_4 : decode prog_15_method_6_code 4 = .ok (.areturn, 1) := by decide +kernel
theorem pn_1 : plainName "com/example/risk_rule_engine/riskruleengine/rules/Statistic" = true := by first | (simp [plainName, overriddenIn]; done) | decide +kernel
theorem d2_0 : decode jdk_42_method_66_code 0 = .ok (.aload_n 0, 1) := by decide +kernel
theorem d2_1 : decode jdk_42_method_66_code 1 = .ok (.aload_n 1, 1) := by decide +kernel
theorem d2_2 : decode jdk_42_method_66_code 2 = .ok (.if_acmp .ne 5, 3) := by decide +kernel
theorem d2_5 : decode jdk_42_method_66_code 5 = .ok (.iconst 1, 1) := by decide +kernel
theorem d2_6 : decode jdk_42_method_66_code 6 = .ok (.ireturn, 1) := by decide +kernel
theorem d2_7 : decode jdk_42_method_66_code 7 = .ok (.aload_n 1, 1) := by decide +kernel
theorem d2_8 : decode jdk_42_method_66_code 8 = .ok (.instanceof 10, 3) := by decide +kernel
theorem d2_11 : decode jdk_42_method_66_code 11 = .ok (.ifCond .eq 43, 3) := by decide +kernel
theorem d2_14 : decode jdk_42_method_66_code 14 = .ok (.aload_n 1, 1) := by decide +kernel
theorem d2_15 : decode jdk_42_method_66_code 15 = .ok (.checkcast 10, 3) := by decide +kernel
theorem d2_18 : decode jdk_42_method_66_code 18 = .ok (.astore_n 2, 1) := by decide +kernel
theorem d2_19 : decode jdk_42_method_66_code 19 = .ok (.getstatic 38, 3) := by decide +kernel
theorem d2_22 : decode jdk_42_method_66_code 22 = .ok (.ifCond .eq 14, 3) := by decide +kernel
theorem d2_25 : decode jdk_42_method_66_code 25 = .ok (.aload_n 0, 1) := by decide +kernel
theorem d2_26 : decode jdk_42_method_66_code 26 = .ok (.getfield 15, 3) := by decide +kernel
theorem d2_29 : decode jdk_42_method_66_code 29 = .ok (.aload_n 2, 1) := by decide +kernel
theorem d2_30 : decode jdk_42_method_66_code 30 = .ok (.getfield 15, 3) := by decide +kernel
theorem d2_33 : decode jdk_42_method_66_code 33 = .ok (.if_icmp .ne 21, 3) := by decide +kernel
theorem d2_36 : decode jdk_42_method_66_code 36 = .ok (.aload_n 0, 1) := by decide +kernel
theorem d2_37 : decode jdk_42_method_66_code 37 = .ok (.getfield 9, 3) := by decide +kernel
theorem d2_40 : decode jdk_42_method_66_code 40 = .ok (.aload_n 2, 1) := by decide +kernel
theorem d2_41 : decode jdk_42_method_66_code 41 = .ok (.getfield 9, 3) := by decide +kernel
theorem d2_44 : decode jdk_42_method_66_code 44 = .ok (.invokestatic 541, 3) := by decide +kernel
theorem d2_47 : decode jdk_42_method_66_code 47 = .ok (.ifCond .eq 7, 3) := by decide +kernel
theorem d2_50 : decode jdk_42_method_66_code 50 = .ok (.iconst 1, 1) := by decide +kernel
theorem d2_51 : decode jdk_42_method_66_code 51 = .ok (.goto 4, 3) := by decide +kernel
theorem d2_54 : decode jdk_42_method_66_code 54 = .ok (.iconst 0, 1) := by decide +kernel
theorem d2_55 : decode jdk_42_method_66_code 55 = .ok (.ireturn, 1) := by decide +kernel
theorem pn_2 : plainName "java/lang/String" = true := by first | (simp [plainName, overriddenIn]; done) | decide +kernel
theorem d3_0 : decode jdk_43_method_13_code 0 = .ok (.aload_n 0, 1) := by decide +kernel
theorem d3_1 : decode jdk_43_method_13_code 1 = .ok (.arraylength, 1) := by decide +kernel
theorem d3_2 : decode jdk_43_method_13_code 2 = .ok (.aload_n 1, 1) := by decide +kernel
theorem d3_3 : decode jdk_43_method_13_code 3 = .ok (.arraylength, 1) := by decide +kernel
theorem d3_4 : decode jdk_43_method_13_code 4 = .ok (.if_icmp .ne 30, 3) := by decide +kernel
theorem d3_7 : decode jdk_43_method_13_code 7 = .ok (.iconst 0, 1) := by decide +kernel
theorem d3_8 : decode jdk_43_method_13_code 8 = .ok (.istore_n 2, 1) := by decide +kernel
theorem d3_9 : decode jdk_43_method_13_code 9 = .ok (.iload_n 2, 1) := by decide +kernel
theorem d3_10 : decode jdk_43_method_13_code 10 = .ok (.aload_n 0, 1) := by decide +kernel
theorem d3_11 : decode jdk_43_method_13_code 11 = .ok (.arraylength, 1) := by decide +kernel
theorem d3_12 : decode jdk_43_method_13_code 12 = .ok (.if_icmp .ge 20, 3) := by decide +kernel
theorem d3_15 : decode jdk_43_method_13_code 15 = .ok (.aload_n 0, 1) := by decide +kernel
theorem d3_16 : decode jdk_43_method_13_code 16 = .ok (.iload_n 2, 1) := by decide +kernel
theorem d3_17 : decode jdk_43_method_13_code 17 = .ok (.baload, 1) := by decide +kernel
theorem d3_18 : decode jdk_43_method_13_code 18 = .ok (.aload_n 1, 1) := by decide +kernel
theorem d3_19 : decode jdk_43_method_13_code 19 = .ok (.iload_n 2, 1) := by decide +kernel
theorem d3_20 : decode jdk_43_method_13_code 20 = .ok (.baload, 1) := by decide +kernel
theorem d3_21 : decode jdk_43_method_13_code 21 = .ok (.if_icmp .eq 5, 3) := by decide +kernel
theorem d3_24 : decode jdk_43_method_13_code 24 = .ok (.iconst 0, 1) := by decide +kernel
theorem d3_25 : decode jdk_43_method_13_code 25 = .ok (.ireturn, 1) := by decide +kernel
theorem d3_26 : decode jdk_43_method_13_code 26 = .ok (.iinc 2 1, 3) := by decide +kernel
theorem d3_29 : decode jdk_43_method_13_code 29 = .ok (.goto (-20), 3) := by decide +kernel
theorem d3_32 : decode jdk_43_method_13_code 32 = .ok (.iconst 1, 1) := by decide +kernel
theorem d3_33 : decode jdk_43_method_13_code 33 = .ok (.ireturn, 1) := by decide +kernel
theorem d3_34 : decode jdk_43_method_13_code 34 = .ok (.iconst 0, 1) := by decide +kernel
theorem d3_35 : decode jdk_43_method_13_code 35 = .ok (.ireturn, 1) := by decide +kernel
theorem pn_3 : plainName "java/lang/StringLatin1" = true := by first | (simp [plainName, overriddenIn]; done) | decide +kernel
theorem d4_0 : decode prog_15_method_5_code 0 = .ok (.aload_n 0, 1) := by decide +kernel
theorem d4_1 : decode prog_15_method_5_code 1 = .ok (.getstatic 3, 3) := by decide +kernel
theorem d4_4 : decode prog_15_method_5_code 4 = .ok (.if_acmp .eq 7, 3) := by decide +kernel
theorem d4_7 : decode prog_15_method_5_code 7 = .ok (.iconst 1, 1) := by decide +kernel
theorem d4_8 : decode prog_15_method_5_code 8 = .ok (.goto 4, 3) := by decide +kernel
theorem d4_11 : decode prog_15_method_5_code 11 = .ok (.iconst 0, 1) := by decide +kernel
theorem d4_12 : decode prog_15_method_5_code 12 = .ok (.ireturn, 1) := by decide +kernel
theorem pn_4 : plainName "com/example/risk_rule_engine/riskruleengine/rules/Statistic" = true := by first | (simp [plainName, overriddenIn]; done) | decide +kernel

theorem own_eqI {args : Array Value} {first s : State} {o : Option Outcome} {idx : List Nat} {t : Term} {n : Int32} (h : (Cond.eq t (.int n)).value args first o s idx = some true) : t.eval args first o idx s = some (.int n) := by
  simp only [Cond.value, Term.eval] at h
  cases ht : t.eval args first o idx s with
  | none => simp [ht] at h
  | some x => cases x <;> simp [ht] at h ⊢; exact h
theorem own_eqR {args : Array Value} {first s : State} {o : Option Outcome} {idx : List Nat} {t u : Term} {a : Addr} (hu : u.eval args first o idx s = some (.ref a)) (h : (Cond.eq t u).value args first o s idx = some true) : t.eval args first o idx s = some (.ref a) := by
  simp only [Cond.value, hu] at h
  cases ht : t.eval args first o idx s with
  | none => simp [ht] at h
  | some x => cases x <;> simp [ht] at h ⊢; exact h
theorem own_el {args : Array Value} {s : State} {t : Term} {a : Addr} {c : Cell} {ty : FieldType} {i : Int32} {v : Value} (A : Arr s s.heap a c ty) (ev : t.eval args s none [] s = some (.ref a)) (he : (Term.elem t (.int i)).eval args s none [] s = some v) (k : Nat) (hk : i.toNatClampNeg = k) : c.slots[k]? = some v := by
  subst hk
  exact (elem_in he ev rfl A.1).2
theorem own_arv {args : Array Value} {s : State} {t : Term} {a : Addr} {c : Cell} {ty : FieldType} {z : Int32} {vs : List Value} {dv : Value} (hf : Fit s) (A : Arr s s.heap a c ty) (ev : t.eval args s none [] s = some (.ref a)) (hl : (Term.length t).eval args s none [] s = some (.int z)) (hz : ¬ z < 0) (hle : z.toNatClampNeg = vs.length) (H : HasL c 0 vs) : Arv s s.heap a c.cls ty z vs dv := by
  have hA := A.fin (Vm.Alike.refl _)
  by_cases q : c.slots.size < 2 ^ 31
  · have e := (len_f ev hA q).symm.trans hl
    injection e with e
    injection e with e
    exact Arv.start hf A q e hz hle H
  · simp [Term.eval, ev, hA, q] at hl
theorem own_EW {Z : State} {a0 : Array Value} (hw : ∀ d ∈ tables_1, d.before a0 Z = true) : EW Z a0 consts_1 := (EW.cons (hw _ (List.mem_of_getElem? (i := 11) rfl)) (by decide) (EW.cons (hw _ (List.mem_of_getElem? (i := 33) rfl)) (by decide) EW.nil))
theorem ef_rm1 (m : MethodId) (x0 : Addr) : entryFrame m #[(.ref x0)] 1 = mkF m 0 #[.val (.ref x0)] [] := by first | (simp [entryFrame, mkF, argsToLocals, Value.category]; done) | rfl
def Qrm1 (Z : State) (p0 : Addr) (w : Addr) (h0 : Heap) (n0 : Nat) (v : Option Value) (h : Heap) (L : List Loc) : Prop := v = some (.ref w) ∧ Fr n0 L ∧ h = h0
set_option maxRecDepth 65536 in
set_option maxHeartbeats 40000000 in
theorem rm1 (l : Launch) (Z : State) (a0 : Array Value) (hw : ∀ d ∈ tables_1, d.before a0 Z = true) (ws : List Jvm.Cond) (p0 : Addr) (w : Addr) (h0 : Heap) (n0 : Nat) (Z0 : n0 ≤ h0.size) (F_name_p0 : Fld Z h0 p0 "com/example/risk_rule_engine/riskruleengine/rules/Statistic" "name" "Ljava/lang/String;" (.ref w)) :
    MetFree l (⟨"com/example/risk_rule_engine/riskruleengine/rules/Statistic", "toString", "()Ljava/lang/String;"⟩ : MethodName) (head1 (Jvm.Cond.code (⟨"com/example/risk_rule_engine/riskruleengine/rules/Statistic", "toString", "()Ljava/lang/String;"⟩ : MethodName) prog_15_method_6_code 1 (some (.object "java/lang/String")) :: ws) ({ frames := 0, cells := 0, slots := 0, locals := 0 } : Room)) (fun a U => a = #[(.ref p0)] ∧ Z.Warmed39 U.vm ∧ U.heap = h0) (fun _ _ _ _ _ => True) (fun _ U o U' => ∃ v L, o = .returned v ∧ Qrm1 Z p0 w h0 n0 v U'.heap L ∧ FrameEnd U o U' L ({ frames := 0, cells := 0, slots := 0, locals := 0 } : Room).cells ({ frames := 0, cells := 0, slots := 0, locals := 0 } : Room).slots) := by
  refine MetFree.of_bodySF (plainFor_of_name pn_1) hisR ?_
  intro p e s m args below meth c s₁ Bd hml0 hP hK
  obtain ⟨rfl, hZ, hh⟩ := hP
  have hx := Bd.exec
  have hby := Bd.bytes
  have hlk : meth.locks = false := BodyLoose.notSynchronized Bd
  have hml : c.maxLocals = 1 := hml0
  have hown : s.vm.findClass "com/example/risk_rule_engine/riskruleengine/rules/Statistic" = some m.cls := findClass_of_methodNamed Bd.named
  have hnm := (name_of_methodNamed Bd.named Bd.method).1
  have X0 : Stand p l e ({ frames := 0, cells := 0, slots := 0, locals := 0 } : Room) s m #[(.ref p0)] below meth c s₁ [] 0 0 := Stand.of_body Bd
  have e0 : s₁.heap = h0 := by rw [← hh, Bd.state]; rfl
  have N0 := Fr.nil n0
  have K0 : Keep h0 h0 [] := Keep.refl h0 []
  show own_G p e below s 0 0 (Qrm1 Z p0 w h0 n0) s₁ (entryFrame m #[(.ref p0)] 1)
  rw [ef_rm1 m p0]
  refine own_step (T' := s₁) (g' := (mkF m 1 #[.val (.ref p0)] [(.ref p0)])) (fun t k => XS.aloadN X0.here hx rfl (hb hby d1_0) rfl rfl k) ?_
  obtain ⟨T1, X1, e1, st1⟩ := getF X0 hx hZ hown (host := "") (Or.inl (hw _ (List.mem_of_getElem? (i := 9) rfl))) Via.refl e0 F_name_p0 (g := (mkF m 1 #[.val (.ref p0)] [(.ref p0)])) rfl rfl (hb hby d1_1)
  refine own_step (T' := T1) (g' := (mkF m 4 #[.val (.ref p0)] [(.ref w)])) st1 ?_
  refine own_retR X1 hx hlk Bd.returns rfl rfl (hb hby d1_4) (by decide) (by decide) ?_
  exact ⟨rfl, N0, e1⟩
def fn4 (p0 : Addr) (a_COUNT : Addr) : Int32 := if p0 = a_COUNT then (0 : Int32) else (1 : Int32)
theorem ef_rm4 (m : MethodId) (x0 : Addr) : entryFrame m #[(.ref x0)] 1 = mkF m 0 #[.val (.ref x0)] [] := by first | (simp [entryFrame, mkF, argsToLocals, Value.category]; done) | rfl
def Qrm4 (Z : State) (p0 : Addr) (a_COUNT : Addr) (h0 : Heap) (n0 : Nat) (v : Option Value) (h : Heap) (L : List Loc) : Prop := v = some (.int (fn4 p0 a_COUNT)) ∧ Fr n0 L ∧ h = h0
set_option maxRecDepth 65536 in
set_option maxHeartbeats 40000000 in
theorem rm4 (l : Launch) (Z : State) (a0 : Array Value) (hw : ∀ d ∈ tables_1, d.before a0 Z = true) (ws : List Jvm.Cond) (p0 : Addr) (a_COUNT : Addr) (h0 : Heap) (n0 : Nat) (Z0 : n0 ≤ h0.size) (S_COUNT : Sta Z h0 "com/example/risk_rule_engine/riskruleengine/rules/Statistic" "COUNT" "Lcom/example/risk_rule_engine/riskruleengine/rules/Statistic;" (.ref a_COUNT)) :
    MetFree l (⟨"com/example/risk_rule_engine/riskruleengine/rules/Statistic", "ofField", "()Z"⟩ : MethodName) (head1 (Jvm.Cond.code (⟨"com/example/risk_rule_engine/riskruleengine/rules/Statistic", "ofField", "()Z"⟩ : MethodName) prog_15_method_5_code 1 (some .boolean) :: ws) ({ frames := 0, cells := 0, slots := 0, locals := 0 } : Room)) (fun a U => a = #[(.ref p0)] ∧ Z.Warmed39 U.vm ∧ U.heap = h0) (fun _ _ _ _ _ => True) (fun _ U o U' => ∃ v L, o = .returned v ∧ Qrm4 Z p0 a_COUNT h0 n0 v U'.heap L ∧ FrameEnd U o U' L ({ frames := 0, cells := 0, slots := 0, locals := 0 } : Room).cells ({ frames := 0, cells := 0, slots := 0, locals := 0 } : Room).slots) := by
  refine MetFree.of_bodySF (plainFor_of_name pn_4) hisR ?_
  intro p e s m args below meth c s₁ Bd hml0 hP hK
  obtain ⟨rfl, hZ, hh⟩ := hP
  have hx := Bd.exec
  have hby := Bd.bytes
  have hlk : meth.locks = false := BodyLoose.notSynchronized Bd
  have hml : c.maxLocals = 1 := hml0
  have hown : s.vm.findClass "com/example/risk_rule_engine/riskruleengine/rules/Statistic" = some m.cls := findClass_of_methodNamed Bd.named
  have hnm := (name_of_methodNamed Bd.named Bd.method).1
  have X0 : Stand p l e ({ frames := 0, cells := 0, slots := 0, locals := 0 } : Room) s m #[(.ref p0)] below meth c s₁ [] 0 0 := Stand.of_body Bd
  have e0 : s₁.heap = h0 := by rw [← hh, Bd.state]; rfl
  have N0 := Fr.nil n0
  have K0 : Keep h0 h0 [] := Keep.refl h0 []
  show own_G p e below s 0 0 (Qrm4 Z p0 a_COUNT h0 n0) s₁ (entryFrame m #[(.ref p0)] 1)
  rw [ef_rm4 m p0]
  refine own_step (T' := s₁) (g' := (mkF m 1 #[.val (.ref p0)] [(.ref p0)])) (fun t k => XS.aloadN X0.here hx rfl (hb hby d4_0) rfl rfl k) ?_
  obtain ⟨T1, X1, e1, st1⟩ := getS2 X0 hx hZ hown (host := "") (Or.inl (hw _ (List.mem_of_getElem? (i := 39) rfl))) Via.refl e0 S_COUNT (g := (mkF m 1 #[.val (.ref p0)] [(.ref p0)])) rfl (hb hby d4_1)
  refine own_step (T' := T1) (g' := (mkF m 4 #[.val (.ref p0)] [(.ref a_COUNT), (.ref p0)])) st1 ?_
  by_cases ha4_2 : p0 = a_COUNT
  · refine own_step (T' := T1) (g' := (mkF m 11 #[.val (.ref p0)] [])) (fun t k => Jvm.RoadKit.acmp (g := (mkF m 4 #[.val (.ref p0)] [(.ref a_COUNT), (.ref p0)])) X1 hx rfl rfl rfl (pc0 := 4) (pc' := 11) (same := true) rfl (hb hby d4_4) rfl (decide_eq_true (congrArg Value.ref ha4_2)) (by decide) (by decide) k) ?_
    refine own_step (T' := T1) (g' := (mkF m 12 #[.val (.ref p0)] [(.int (0 : Int32))])) (fun t k => XS.iconst X1.here hx rfl (hb hby d4_11) k) ?_
    refine own_retN X1 hx hlk (t := .boolean) (w := (0 : Int32)) Bd.returns (by simp) (hb hby d4_12) rfl (by decide) (by decide) ?_
    exact ⟨congrArg some (congrArg Value.int (show (0 : Int32) = (fn4 p0 a_COUNT) from by unfold fn4; rw [if_pos ha4_2])), N0, e1⟩
  · refine own_step (T' := T1) (g' := (mkF m 7 #[.val (.ref p0)] [])) (fun t k => Jvm.RoadKit.acmp (g := (mkF m 4 #[.val (.ref p0)] [(.ref a_COUNT), (.ref p0)])) X1 hx rfl rfl rfl (pc0 := 4) (pc' := 7) (same := false) rfl (hb hby d4_4) rfl (decide_eq_false fun q => ha4_2 (Value.ref.inj q)) (by decide) (by decide) k) ?_
    refine own_step (T' := T1) (g' := (mkF m 8 #[.val (.ref p0)] [(.int (1 : Int32))])) (fun t k => XS.iconst X1.here hx rfl (hb hby d4_7) k) ?_
    refine own_step (T' := T1) (g' := (mkF m 12 #[.val (.ref p0)] [(.int (1 : Int32))])) (fun t k => XS.goto X1.here hx rfl (pc0 := 8) (pc' := 12) rfl (hb hby d4_8) (by decide) (by decide) k) ?_
    refine own_retN X1 hx hlk (t := .boolean) (w := (1 : Int32)) Bd.returns (by simp) (hb hby d4_12) rfl (by decide) (by decide) ?_
    exact ⟨congrArg some (congrArg Value.int (show (1 : Int32) = (fn4 p0 a_COUNT) from by unfold fn4; rw [if_neg ha4_2])), N0, e1⟩
theorem ef_rm3_count_sum (m : MethodId) (x0 : Addr) (x1 : Addr) : entryFrame m #[(.ref x0), (.ref x1)] 3 = mkF m 0 #[.val (.ref x0), .val (.ref x1), .unset] [] := by first | (simp [entryFrame, mkF, argsToLocals, Value.category]; done) | rfl
def Qrm3_count_sum (Z : State) (p0 : Addr) (p1 : Addr) (k0 : ClassId) (k1 : ClassId) (h0 : Heap) (n0 : Nat) (v : Option Value) (h : Heap) (L : List Loc) : Prop := v = some (.int (0 : Int32)) ∧ Fr n0 L ∧ h = h0
set_option maxRecDepth 65536 in
set_option maxHeartbeats 40000000 in
theorem rm3_count_sum (l : Launch) (Z : State) (a0 : Array Value) (hw : ∀ d ∈ tables_1, d.before a0 Z = true) (ws : List Jvm.Cond) (p0 : Addr) (p1 : Addr) (k0 : ClassId) (k1 : ClassId) (h0 : Heap) (n0 : Nat) (Z0 : n0 ≤ h0.size) (V_p0 : Arv Z h0 p0 k0 .byte (5 : Int32) [(.int (99 : Int32)), (.int (111 : Int32)), (.int (117 : Int32)), (.int (110 : Int32)), (.int (116 : Int32))] (.int (0 : Int32))) (V_p1 : Arv Z h0 p1 k1 .byte (3 : Int32) [(.int (115 : Int32)), (.int (117 : Int32)), (.int (109 : Int32))] (.int (0 : Int32))) :
    MetFree l (⟨"java/lang/StringLatin1", "equals", "([B[B)Z"⟩ : MethodName) (head1 (Jvm.Cond.code (⟨"java/lang/StringLatin1", "equals", "([B[B)Z"⟩ : MethodName) jdk_43_method_13_code 3 (some .boolean) :: ws) ({ frames := 0, cells := 0, slots := 0, locals := 0 } : Room)) (fun a U => a = #[(.ref p0), (.ref p1)] ∧ Z.Warmed39 U.vm ∧ U.heap = h0) (fun _ _ _ _ _ => True) (fun _ U o U' => ∃ v L, o = .returned v ∧ Qrm3_count_sum Z p0 p1 k0 k1 h0 n0 v U'.heap L ∧ FrameEnd U o U' L ({ frames := 0, cells := 0, slots := 0, locals := 0 } : Room).cells ({ frames := 0, cells := 0, slots := 0, locals := 0 } : Room).slots) := by
  refine MetFree.of_bodySF (plainFor_of_name pn_3) hisR ?_
  intro p e s m args below meth c s₁ Bd hml0 hP hK
  obtain ⟨rfl, hZ, hh⟩ := hP
  have hx := Bd.exec
  have hby := Bd.bytes
  have hlk : meth.locks = false := BodyLoose.notSynchronized Bd
  have hml : c.maxLocals = 3 := hml0
  have hown : s.vm.findClass "java/lang/StringLatin1" = some m.cls := findClass_of_methodNamed Bd.named
  have hnm := (name_of_methodNamed Bd.named Bd.method).1
  have X0 : Stand p l e ({ frames := 0, cells := 0, slots := 0, locals := 0 } : Room) s m #[(.ref p0), (.ref p1)] below meth c s₁ [] 0 0 := Stand.of_body Bd
  have e0 : s₁.heap = h0 := by rw [← hh, Bd.state]; rfl
  have N0 := Fr.nil n0
  have K0 : Keep h0 h0 [] := Keep.refl h0 []
  show own_G p e below s 0 0 (Qrm3_count_sum Z p0 p1 k0 k1 h0 n0) s₁ (entryFrame m #[(.ref p0), (.ref p1)] 3)
  rw [ef_rm3_count_sum m p0 p1]
  refine own_step (T' := s₁) (g' := (mkF m 1 #[.val (.ref p0), .val (.ref p1), .unset] [(.ref p0)])) (fun t k => XS.aloadN X0.here hx rfl (hb hby d3_0) rfl rfl k) ?_
  obtain ⟨cl1, Ar1, q1, Sz1, Nn1, Hh1, Gg1⟩ := id V_p0
  refine own_step (T' := s₁) (g' := (mkF m 2 #[.val (.ref p0), .val (.ref p1), .unset] [(.int (5 : Int32))])) (fun t k => X0.arraylength hx (by rw [e0]; exact Ar1.1) (State.isArrayOf_alike hZ.alike Ar1.2.1) (g := (mkF m 1 #[.val (.ref p0), .val (.ref p1), .unset] [(.ref p0)])) rfl rfl (hb hby d3_1) t (by rw [len_of Sz1 Nn1]; exact k)) ?_
  refine own_step (T' := s₁) (g' := (mkF m 3 #[.val (.ref p0), .val (.ref p1), .unset] [(.ref p1), (.int (5 : Int32))])) (fun t k => XS.aloadN X0.here hx rfl (hb hby d3_2) rfl rfl k) ?_
  obtain ⟨cl2, Ar2, q2, Sz2, Nn2, Hh2, Gg2⟩ := id V_p1
  refine own_step (T' := s₁) (g' := (mkF m 4 #[.val (.ref p0), .val (.ref p1), .unset] [(.int (3 : Int32)), (.int (5 : Int32))])) (fun t k => X0.arraylength hx (by rw [e0]; exact Ar2.1) (State.isArrayOf_alike hZ.alike Ar2.2.1) (g := (mkF m 3 #[.val (.ref p0), .val (.ref p1), .unset] [(.ref p1), (.int (5 : Int32))])) rfl rfl (hb hby d3_3) t (by rw [len_of Sz2 Nn2]; exact k)) ?_
  refine own_step (T' := s₁) (g' := (mkF m 34 #[.val (.ref p0), .val (.ref p1), .unset] [])) (fun t k => XS.icmpYes X0.here hx rfl (pc0 := 4) (pc' := 34) rfl (hb hby d3_4) rfl (feq (by decide : ¬ ((5 : Int32) = (3 : Int32)))).2 (by decide) (by decide) k) ?_
  refine own_step (T' := s₁) (g' := (mkF m 35 #[.val (.ref p0), .val (.ref p1), .unset] [(.int (0 : Int32))])) (fun t k => XS.iconst X0.here hx rfl (hb hby d3_34) k) ?_
  refine own_retN X0 hx hlk (t := .boolean) (w := (0 : Int32)) Bd.returns (by simp) (hb hby d3_35) rfl (by decide) (by decide) ?_
  exact ⟨rfl, N0, e0⟩
theorem ef_rm2_count_sum (m : MethodId) (x0 : Addr) (x1 : Addr) : entryFrame m #[(.ref x0), (.ref x1)] 3 = mkF m 0 #[.val (.ref x0), .val (.ref x1), .unset] [] := by first | (simp [entryFrame, mkF, argsToLocals, Value.category]; done) | rfl
def Qrm2_count_sum (Z : State) (p0 : Addr) (p1 : Addr) (w0 : Addr) (w1 : Addr) (k0 : ClassId) (k1 : ClassId) (G1 : Int32) (h0 : Heap) (n0 : Nat) (v : Option Value) (h : Heap) (L : List Loc) : Prop := v = some (.int (0 : Int32)) ∧ Fr n0 L ∧ h = h0
set_option maxRecDepth 65536 in
set_option maxHeartbeats 40000000 in
theorem rm2_count_sum (l : Launch) (Z : State) (a0 : Array Value) (hw : ∀ d ∈ tables_1, d.before a0 Z = true) (ws : List Jvm.Cond) (p0 : Addr) (p1 : Addr) (w0 : Addr) (w1 : Addr) (k0 : ClassId) (k1 : ClassId) (G1 : Int32) (h0 : Heap) (n0 : Nat) (Z0 : n0 ≤ h0.size) (E_p0 : Exa Z h0 p0 "java/lang/String") (E_p1 : Exa Z h0 p1 "java/lang/String") (F_coder_p0 : Fld Z h0 p0 "java/lang/String" "coder" "B" (.int (0 : Int32))) (F_coder_p1 : Fld Z h0 p1 "java/lang/String" "coder" "B" (.int (0 : Int32))) (F_value_p0 : Fld Z h0 p0 "java/lang/String" "value" "[B" (.ref w0)) (F_value_p1 : Fld Z h0 p1 "java/lang/String" "value" "[B" (.ref w1)) (V_w0 : Arv Z h0 w0 k0 .byte (5 : Int32) [(.int (99 : Int32)), (.int (111 : Int32)), (.int (117 : Int32)), (.int (110 : Int32)), (.int (116 : Int32))] (.int (0 : Int32))) (V_w1 : Arv Z h0 w1 k1 .byte (3 : Int32) [(.int (115 : Int32)), (.int (117 : Int32)), (.int (109 : Int32))] (.int (0 : Int32))) (S_COMPACT_STRINGS : Sta Z h0 "java/lang/String" "COMPACT_STRINGS" "Z" (.int G1)) (P5 : ¬ (G1 = (0 : Int32))) (ne01 : p0 ≠ p1) :
    MetFree l (⟨"java/lang/String", "equals", "(Ljava/lang/Object;)Z"⟩ : MethodName) (head1 (Jvm.Cond.code (⟨"java/lang/String", "equals", "(Ljava/lang/Object;)Z"⟩ : MethodName) jdk_42_method_66_code 3 (some .boolean) :: ws) ({ frames := 1, cells := 0, slots := 0, locals := 14 } : Room)) (fun a U => a = #[(.ref p0), (.ref p1)] ∧ Z.Warmed39 U.vm ∧ U.heap = h0) (fun _ _ _ _ _ => True) (fun _ U o U' => ∃ v L, o = .returned v ∧ Qrm2_count_sum Z p0 p1 w0 w1 k0 k1 G1 h0 n0 v U'.heap L ∧ FrameEnd U o U' L ({ frames := 1, cells := 0, slots := 0, locals := 14 } : Room).cells ({ frames := 1, cells := 0, slots := 0, locals := 14 } : Room).slots) := by
  refine MetFree.of_bodySF (plainFor_of_name pn_2) hisR ?_
  intro p e s m args below meth c s₁ Bd hml0 hP hK
  obtain ⟨rfl, hZ, hh⟩ := hP
  have hx := Bd.exec
  have hby := Bd.bytes
  have hlk : meth.locks = false := BodyLoose.notSynchronized Bd
  have hml : c.maxLocals = 3 := hml0
  have hown : s.vm.findClass "java/lang/String" = some m.cls := findClass_of_methodNamed Bd.named
  have hnm := (name_of_methodNamed Bd.named Bd.method).1
  have X0 : Stand p l e ({ frames := 1, cells := 0, slots := 0, locals := 14 } : Room) s m #[(.ref p0), (.ref p1)] below meth c s₁ [] 0 0 := Stand.of_body Bd
  have e0 : s₁.heap = h0 := by rw [← hh, Bd.state]; rfl
  have N0 := Fr.nil n0
  have K0 : Keep h0 h0 [] := Keep.refl h0 []
  show own_G p e below s 0 0 (Qrm2_count_sum Z p0 p1 w0 w1 k0 k1 G1 h0 n0) s₁ (entryFrame m #[(.ref p0), (.ref p1)] 3)
  rw [ef_rm2_count_sum m p0 p1]
  refine own_step (T' := s₁) (g' := (mkF m 1 #[.val (.ref p0), .val (.ref p1), .unset] [(.ref p0)])) (fun t k => XS.aloadN X0.here hx rfl (hb hby d2_0) rfl rfl k) ?_
  refine own_step (T' := s₁) (g' := (mkF m 2 #[.val (.ref p0), .val (.ref p1), .unset] [(.ref p1), (.ref p0)])) (fun t k => XS.aloadN X0.here hx rfl (hb hby d2_1) rfl rfl k) ?_
  refine own_step (T' := s₁) (g' := (mkF m 7 #[.val (.ref p0), .val (.ref p1), .unset] [])) (fun t k => Jvm.RoadKit.acmp (g := (mkF m 2 #[.val (.ref p0), .val (.ref p1), .unset] [(.ref p1), (.ref p0)])) X0 hx rfl rfl rfl (pc0 := 2) (pc' := 7) (same := false) rfl (hb hby d2_2) rfl (decide_eq_false fun q => ne01 (Value.ref.inj q)) (by decide) (by decide) k) ?_
  refine own_step (T' := s₁) (g' := (mkF m 8 #[.val (.ref p0), .val (.ref p1), .unset] [(.ref p1)])) (fun t k => XS.aloadN X0.here hx rfl (hb hby d2_7) rfl rfl k) ?_
  obtain ⟨T1, X1, e1, st1⟩ := instY X0 hx hZ hown (hw _ (List.mem_of_getElem? (i := 24) rfl)) e0 (Ins.self E_p1) (g := (mkF m 8 #[.val (.ref p0), .val (.ref p1), .unset] [(.ref p1)])) rfl rfl (hb hby d2_8)
  refine own_step (T' := T1) (g' := (mkF m 11 #[.val (.ref p0), .val (.ref p1), .unset] [(.int (1 : Int32))])) st1 ?_
  refine own_step (T' := T1) (g' := (mkF m 14 #[.val (.ref p0), .val (.ref p1), .unset] [])) (fun t k => XS.ifNo X1.here hx rfl (hb hby d2_11) rfl ((if0 _ _).trans (feq (by decide : ¬ ((1 : Int32) = (0 : Int32)))).1) k) ?_
  refine own_step (T' := T1) (g' := (mkF m 15 #[.val (.ref p0), .val (.ref p1), .unset] [(.ref p1)])) (fun t k => XS.aloadN X1.here hx rfl (hb hby d2_14) rfl rfl k) ?_
  obtain ⟨T2, X2, e2, st2⟩ := castY X1 hx hZ hown (hw _ (List.mem_of_getElem? (i := 24) rfl)) e1 (Ins.self E_p1) (g := (mkF m 15 #[.val (.ref p0), .val (.ref p1), .unset] [(.ref p1)])) rfl rfl (hb hby d2_15)
  refine own_step (T' := T2) (g' := (mkF m 18 #[.val (.ref p0), .val (.ref p1), .unset] [(.ref p1)])) st2 ?_
  refine own_step (T' := T2) (g' := (mkF m 19 #[.val (.ref p0), .val (.ref p1), .val (.ref p1)] [])) (fun t k => XS.astoreN X2.here hx rfl (hb hby d2_18) rfl rfl (l' := #[.val (.ref p0), .val (.ref p1), .val (.ref p1)]) rfl k) ?_
  obtain ⟨T3, X3, e3, st3⟩ := getS2 X2 hx hZ hown (host := "") (Or.inl (hw _ (List.mem_of_getElem? (i := 26) rfl))) Via.refl e2 S_COMPACT_STRINGS (g := (mkF m 19 #[.val (.ref p0), .val (.ref p1), .val (.ref p1)] [])) rfl (hb hby d2_19)
  refine own_step (T' := T3) (g' := (mkF m 22 #[.val (.ref p0), .val (.ref p1), .val (.ref p1)] [(.int G1)])) st3 ?_
  refine own_step (T' := T3) (g' := (mkF m 25 #[.val (.ref p0), .val (.ref p1), .val (.ref p1)] [])) (fun t k => XS.ifNo X3.here hx rfl (hb hby d2_22) rfl ((if0 _ _).trans (feq P5).1) k) ?_
  refine own_step (T' := T3) (g' := (mkF m 26 #[.val (.ref p0), .val (.ref p1), .val (.ref p1)] [(.ref p0)])) (fun t k => XS.aloadN X3.here hx rfl (hb hby d2_25) rfl rfl k) ?_
  obtain ⟨T4, X4, e4, st4⟩ := getF X3 hx hZ hown (host := "") (Or.inl (hw _ (List.mem_of_getElem? (i := 27) rfl))) Via.refl e3 F_coder_p0 (g := (mkF m 26 #[.val (.ref p0), .val (.ref p1), .val (.ref p1)] [(.ref p0)])) rfl rfl (hb hby d2_26)
  refine own_step (T' := T4) (g' := (mkF m 29 #[.val (.ref p0), .val (.ref p1), .val (.ref p1)] [(.int (0 : Int32))])) st4 ?_
  refine own_step (T' := T4) (g' := (mkF m 30 #[.val (.ref p0), .val (.ref p1), .val (.ref p1)] [(.ref p1), (.int (0 : Int32))])) (fun t k => XS.aloadN X4.here hx rfl (hb hby d2_29) rfl rfl k) ?_
  obtain ⟨T5, X5, e5, st5⟩ := getF X4 hx hZ hown (host := "") (Or.inl (hw _ (List.mem_of_getElem? (i := 27) rfl))) Via.refl e4 F_coder_p1 (g := (mkF m 30 #[.val (.ref p0), .val (.ref p1), .val (.ref p1)] [(.ref p1), (.int (0 : Int32))])) rfl rfl (hb hby d2_30)
  refine own_step (T' := T5) (g' := (mkF m 33 #[.val (.ref p0), .val (.ref p1), .val (.ref p1)] [(.int (0 : Int32)), (.int (0 : Int32))])) st5 ?_
  refine own_step (T' := T5) (g' := (mkF m 36 #[.val (.ref p0), .val (.ref p1), .val (.ref p1)] [])) (fun t k => XS.icmpNo X5.here hx rfl (hb hby d2_33) rfl (teq (by decide : (0 : Int32) = (0 : Int32))).2 k) ?_
  refine own_step (T' := T5) (g' := (mkF m 37 #[.val (.ref p0), .val (.ref p1), .val (.ref p1)] [(.ref p0)])) (fun t k => XS.aloadN X5.here hx rfl (hb hby d2_36) rfl rfl k) ?_
  obtain ⟨T6, X6, e6, st6⟩ := getF X5 hx hZ hown (host := "") (Or.inl (hw _ (List.mem_of_getElem? (i := 28) rfl))) Via.refl e5 F_value_p0 (g := (mkF m 37 #[.val (.ref p0), .val (.ref p1), .val (.ref p1)] [(.ref p0)])) rfl rfl (hb hby d2_37)
  refine own_step (T' := T6) (g' := (mkF m 40 #[.val (.ref p0), .val (.ref p1), .val (.ref p1)] [(.ref w0)])) st6 ?_
  refine own_step (T' := T6) (g' := (mkF m 41 #[.val (.ref p0), .val (.ref p1), .val (.ref p1)] [(.ref p1), (.ref w0)])) (fun t k => XS.aloadN X6.here hx rfl (hb hby d2_40) rfl rfl k) ?_
  obtain ⟨T7, X7, e7, st7⟩ := getF X6 hx hZ hown (host := "") (Or.inl (hw _ (List.mem_of_getElem? (i := 28) rfl))) Via.refl e6 F_value_p1 (g := (mkF m 41 #[.val (.ref p0), .val (.ref p1), .val (.ref p1)] [(.ref p1), (.ref w0)])) rfl rfl (hb hby d2_41)
  refine own_step (T' := T7) (g' := (mkF m 44 #[.val (.ref p0), .val (.ref p1), .val (.ref p1)] [(.ref w1), (.ref w0)])) st7 ?_
  obtain ⟨_, _, ⟨T8, L8, kk8, nn8⟩, -, X8, ⟨Lc8, hQ8, l8, y8, z8⟩, st8⟩ := Jvm.LawKit.callS X7 hx (y := (⟨"java/lang/StringLatin1", "equals", "([B[B)Z"⟩ : MethodName)) hown (mvT hZ (hw _ (List.mem_of_getElem? (i := 29) rfl))) (mvT hZ (hw _ (List.mem_of_getElem? (i := 30) rfl))) (mvT hZ (hw _ (List.mem_of_getElem? (i := 31) rfl))) (mvT hZ (hw _ (List.mem_of_getElem? (i := 32) rfl))) (by decide) (backOf (W := 0) (rm3_count_sum l Z a0 hw [] w0 w1 k0 k1 h0 n0 (Nat.le_trans Z0 K0.1) V_w0 V_w1) hZ (hw _ (List.mem_of_getElem? (i := 32) rfl)) (hw _ (List.mem_of_getElem? (i := 31) rfl)) (by decide) (by decide)) (g := (mkF m 44 #[.val (.ref p0), .val (.ref p1), .val (.ref p1)] [(.ref w1), (.ref w0)])) rfl (by rw [hml]; rfl) (argsL := [(.ref w0), (.ref w1)]) (rest := []) (lenOf pd_2 rfl) rfl (by show 2 * 0 + _ ≤ _; exact Nat.le_of_eq rfl) (hb hby d2_44) (fun _ _ => ⟨rfl, e7, (by decide : 0 + 0 ≤ _), (by decide : 0 + 0 ≤ _)⟩)
  dsimp only [Pt.U, Pt.locs, Pt.cells, Pt.slots] at X8 l8 y8 z8 st8 hQ8
  subst l8 y8 z8
  obtain ⟨rfl, N8q, eq8⟩ := hQ8
  have N8 := Fr.app N0 N8q
  refine own_step (T' := T8) (g' := (mkF m 47 #[.val (.ref p0), .val (.ref p1), .val (.ref p1)] [(.int (0 : Int32))])) st8 ?_
  refine own_step (T' := T8) (g' := (mkF m 54 #[.val (.ref p0), .val (.ref p1), .val (.ref p1)] [])) (fun t k => XS.ifYes X8.here hx rfl (pc0 := 47) (pc' := 54) rfl (hb hby d2_47) rfl ((if0 _ _).trans (teq (by decide : (0 : Int32) = (0 : Int32))).1) (by decide) (by decide) k) ?_
  refine own_step (T' := T8) (g' := (mkF m 55 #[.val (.ref p0), .val (.ref p1), .val (.ref p1)] [(.int (0 : Int32))])) (fun t k => XS.iconst X8.here hx rfl (hb hby d2_54) k) ?_
  refine own_retN X8 hx hlk (t := .boolean) (w := (0 : Int32)) Bd.returns (by simp) (hb hby d2_55) rfl (by decide) (by decide) ?_
  exact ⟨rfl, N8, eq8⟩
theorem ef_rm3_count_distinct (m : MethodId) (x0 : Addr) (x1 : Addr) : entryFrame m #[(.ref x0), (.ref x1)] 3 = mkF m 0 #[.val (.ref x0), .val (.ref x1), .unset] [] := by first | (simp [entryFrame, mkF, argsToLocals, Value.category]; done) | rfl
def Qrm3_count_distinct (Z : State) (p0 : Addr) (p1 : Addr) (k0 : ClassId) (k1 : ClassId) (h0 : Heap) (n0 : Nat) (v : Option Value) (h : Heap) (L : List Loc) : Prop := v = some (.int (0 : Int32)) ∧ Fr n0 L ∧ h = h0
set_option maxRecDepth 65536 in
set_option maxHeartbeats 40000000 in
theorem rm3_count_distinct (l : Launch) (Z : State) (a0 : Array Value) (hw : ∀ d ∈ tables_1, d.before a0 Z = true) (ws : List Jvm.Cond) (p0 : Addr) (p1 : Addr) (k0 : ClassId) (k1 : ClassId) (h0 : Heap) (n0 : Nat) (Z0 : n0 ≤ h0.size) (V_p0 : Arv Z h0 p0 k0 .byte (5 : Int32) [(.int (99 : Int32)), (.int (111 : Int32)), (.int (117 : Int32)), (.int (110 : Int32)), (.int (116 : Int32))] (.int (0 : Int32))) (V_p1 : Arv Z h0 p1 k1 .byte (8 : Int32) [(.int (100 : Int32)), (.int (105 : Int32)), (.int (115 : Int32)), (.int (116 : Int32)), (.int (105 : Int32)), (.int (110 : Int32)), (.int (99 : Int32)), (.int (116 : Int32))] (.int (0 : Int32))) :
    MetFree l (⟨"java/lang/StringLatin1", "equals", "([B[B)Z"⟩ : MethodName) (head1 (Jvm.Cond.code (⟨"java/lang/StringLatin1", "equals", "([B[B)Z"⟩ : MethodName) jdk_43_method_13_code 3 (some .boolean) :: ws) ({ frames := 0, cells := 0, slots := 0, locals := 0 } : Room)) (fun a U => a = #[(.ref p0), (.ref p1)] ∧ Z.Warmed39 U.vm ∧ U.heap = h0) (fun _ _ _ _ _ => True) (fun _ U o U' => ∃ v L, o = .returned v ∧ Qrm3_count_distinct Z p0 p1 k0 k1 h0 n0 v U'.heap L ∧ FrameEnd U o U' L ({ frames := 0, cells := 0, slots := 0, locals := 0 } : Room).cells ({ frames := 0, cells := 0, slots := 0, locals := 0 } : Room).slots) := by
  refine MetFree.of_bodySF (plainFor_of_name pn_3) hisR ?_
  intro p e s m args below meth c s₁ Bd hml0 hP hK
  obtain ⟨rfl, hZ, hh⟩ := hP
  have hx := Bd.exec
  have hby := Bd.bytes
  have hlk : meth.locks = false := BodyLoose.notSynchronized Bd
  have hml : c.maxLocals = 3 := hml0
  have hown : s.vm.findClass "java/lang/StringLatin1" = some m.cls := findClass_of_methodNamed Bd.named
  have hnm := (name_of_methodNamed Bd.named Bd.method).1
  have X0 : Stand p l e ({ frames := 0, cells := 0, slots := 0, locals := 0 } : Room) s m #[(.ref p0), (.ref p1)] below meth c s₁ [] 0 0 := Stand.of_body Bd
  have e0 : s₁.heap = h0 := by rw [← hh, Bd.state]; rfl
  have N0 := Fr.nil n0
  have K0 : Keep h0 h0 [] := Keep.refl h0 []
  show own_G p e below s 0 0 (Qrm3_count_distinct Z p0 p1 k0 k1 h0 n0) s₁ (entryFrame m #[(.ref p0), (.ref p1)] 3)
  rw [ef_rm3_count_distinct m p0 p1]
  refine own_step (T' := s₁) (g' := (mkF m 1 #[.val (.ref p0), .val (.ref p1), .unset] [(.ref p0)])) (fun t k => XS.aloadN X0.here hx rfl (hb hby d3_0) rfl rfl k) ?_
  obtain ⟨cl1, Ar1, q1, Sz1, Nn1, Hh1, Gg1⟩ := id V_p0
  refine own_step (T' := s₁) (g' := (mkF m 2 #[.val (.ref p0), .val (.ref p1), .unset] [(.int (5 : Int32))])) (fun t k => X0.arraylength hx (by rw [e0]; exact Ar1.1) (State.isArrayOf_alike hZ.alike Ar1.2.1) (g := (mkF m 1 #[.val (.ref p0), .val (.ref p1), .unset] [(.ref p0)])) rfl rfl (hb hby d3_1) t (by rw [len_of Sz1 Nn1]; exact k)) ?_
  refine own_step (T' := s₁) (g' := (mkF m 3 #[.val (.ref p0), .val (.ref p1), .unset] [(.ref p1), (.int (5 : Int32))])) (fun t k => XS.aloadN X0.here hx rfl (hb hby d3_2) rfl rfl k) ?_
  obtain ⟨cl2, Ar2, q2, Sz2, Nn2, Hh2, Gg2⟩ := id V_p1
  refine own_step (T' := s₁) (g' := (mkF m 4 #[.val (.ref p0), .val (.ref p1), .unset] [(.int (8 : Int32)), (.int (5 : Int32))])) (fun t k => X0.arraylength hx (by rw [e0]; exact Ar2.1) (State.isArrayOf_alike hZ.alike Ar2.2.1) (g := (mkF m 3 #[.val (.ref p0), .val (.ref p1), .unset] [(.ref p1), (.int (5 : Int32))])) rfl rfl (hb hby d3_3) t (by rw [len_of Sz2 Nn2]; exact k)) ?_
  refine own_step (T' := s₁) (g' := (mkF m 34 #[.val (.ref p0), .val (.ref p1), .unset] [])) (fun t k => XS.icmpYes X0.here hx rfl (pc0 := 4) (pc' := 34) rfl (hb hby d3_4) rfl (feq (by decide : ¬ ((5 : Int32) = (8 : Int32)))).2 (by decide) (by decide) k) ?_
  refine own_step (T' := s₁) (g' := (mkF m 35 #[.val (.ref p0), .val (.ref p1), .unset] [(.int (0 : Int32))])) (fun t k => XS.iconst X0.here hx rfl (hb hby d3_34) k) ?_
  refine own_retN X0 hx hlk (t := .boolean) (w := (0 : Int32)) Bd.returns (by simp) (hb hby d3_35) rfl (by decide) (by decide) ?_
  exact ⟨rfl, N0, e0⟩
theorem ef_rm2_count_distinct (m : MethodId) (x0 : Addr) (x1 : Addr) : entryFrame m #[(.ref x0), (.ref x1)] 3 = mkF m 0 #[.val (.ref x0), .val (.ref x1), .unset] [] := by first | (simp [entryFrame, mkF, argsToLocals, Value.category]; done) | rfl
def Qrm2_count_distinct (Z : State) (p0 : Addr) (p1 : Addr) (w0 : Addr) (w1 : Addr) (k0 : ClassId) (k1 : ClassId) (G1 : Int32) (h0 : Heap) (n0 : Nat) (v : Option Value) (h : Heap) (L : List Loc) : Prop := v = some (.int (0 : Int32)) ∧ Fr n0 L ∧ h = h0
set_option maxRecDepth 65536 in
set_option maxHeartbeats 40000000 in
theorem rm2_count_distinct (l : Launch) (Z : State) (a0 : Array Value) (hw : ∀ d ∈ tables_1, d.before a0 Z = true) (ws : List Jvm.Cond) (p0 : Addr) (p1 : Addr) (w0 : Addr) (w1 : Addr) (k0 : ClassId) (k1 : ClassId) (G1 : Int32) (h0 : Heap) (n0 : Nat) (Z0 : n0 ≤ h0.size) (E_p0 : Exa Z h0 p0 "java/lang/String") (E_p1 : Exa Z h0 p1 "java/lang/String") (F_coder_p0 : Fld Z h0 p0 "java/lang/String" "coder" "B" (.int (0 : Int32))) (F_coder_p1 : Fld Z h0 p1 "java/lang/String" "coder" "B" (.int (0 : Int32))) (F_value_p0 : Fld Z h0 p0 "java/lang/String" "value" "[B" (.ref w0)) (F_value_p1 : Fld Z h0 p1 "java/lang/String" "value" "[B" (.ref w1)) (V_w0 : Arv Z h0 w0 k0 .byte (5 : Int32) [(.int (99 : Int32)), (.int (111 : Int32)), (.int (117 : Int32)), (.int (110 : Int32)), (.int (116 : Int32))] (.int (0 : Int32))) (V_w1 : Arv Z h0 w1 k1 .byte (8 : Int32) [(.int (100 : Int32)), (.int (105 : Int32)), (.int (115 : Int32)), (.int (116 : Int32)), (.int (105 : Int32)), (.int (110 : Int32)), (.int (99 : Int32)), (.int (116 : Int32))] (.int (0 : Int32))) (S_COMPACT_STRINGS : Sta Z h0 "java/lang/String" "COMPACT_STRINGS" "Z" (.int G1)) (P5 : ¬ (G1 = (0 : Int32))) (ne01 : p0 ≠ p1) :
    MetFree l (⟨"java/lang/String", "equals", "(Ljava/lang/Object;)Z"⟩ : MethodName) (head1 (Jvm.Cond.code (⟨"java/lang/String", "equals", "(Ljava/lang/Object;)Z"⟩ : MethodName) jdk_42_method_66_code 3 (some .boolean) :: ws) ({ frames := 1, cells := 0, slots := 0, locals := 14 } : Room)) (fun a U => a = #[(.ref p0), (.ref p1)] ∧ Z.Warmed39 U.vm ∧ U.heap = h0) (fun _ _ _ _ _ => True) (fun _ U o U' => ∃ v L, o = .returned v ∧ Qrm2_count_distinct Z p0 p1 w0 w1 k0 k1 G1 h0 n0 v U'.heap L ∧ FrameEnd U o U' L ({ frames := 1, cells := 0, slots := 0, locals := 14 } : Room).cells ({ frames := 1, cells := 0, slots := 0, locals := 14 } : Room).slots) := by
  refine MetFree.of_bodySF (plainFor_of_name pn_2) hisR ?_
  intro p e s m args below meth c s₁ Bd hml0 hP hK
  obtain ⟨rfl, hZ, hh⟩ := hP
  have hx := Bd.exec
  have hby := Bd.bytes
  have hlk : meth.locks = false := BodyLoose.notSynchronized Bd
  have hml : c.maxLocals = 3 := hml0
  have hown : s.vm.findClass "java/lang/String" = some m.cls := findClass_of_methodNamed Bd.named
  have hnm := (name_of_methodNamed Bd.named Bd.method).1
  have X0 : Stand p l e ({ frames := 1, cells := 0, slots := 0, locals := 14 } : Room) s m #[(.ref p0), (.ref p1)] below meth c s₁ [] 0 0 := Stand.of_body Bd
  have e0 : s₁.heap = h0 := by rw [← hh, Bd.state]; rfl
  have N0 := Fr.nil n0
  have K0 : Keep h0 h0 [] := Keep.refl h0 []
  show own_G p e below s 0 0 (Qrm2_count_distinct Z p0 p1 w0 w1 k0 k1 G1 h0 n0) s₁ (entryFrame m #[(.ref p0), (.ref p1)] 3)
  rw [ef_rm2_count_distinct m p0 p1]
  refine own_step (T' := s₁) (g' := (mkF m 1 #[.val (.ref p0), .val (.ref p1), .unset] [(.ref p0)])) (fun t k => XS.aloadN X0.here hx rfl (hb hby d2_0) rfl rfl k) ?_
  refine own_step (T' := s₁) (g' := (mkF m 2 #[.val (.ref p0), .val (.ref p1), .unset] [(.ref p1), (.ref p0)])) (fun t k => XS.aloadN X0.here hx rfl (hb hby d2_1) rfl rfl k) ?_
  refine own_step (T' := s₁) (g' := (mkF m 7 #[.val (.ref p0), .val (.ref p1), .unset] [])) (fun t k => Jvm.RoadKit.acmp (g := (mkF m 2 #[.val (.ref p0), .val (.ref p1), .unset] [(.ref p1), (.ref p0)])) X0 hx rfl rfl rfl (pc0 := 2) (pc' := 7) (same := false) rfl (hb hby d2_2) rfl (decide_eq_false fun q => ne01 (Value.ref.inj q)) (by decide) (by decide) k) ?_
  refine own_step (T' := s₁) (g' := (mkF m 8 #[.val (.ref p0), .val (.ref p1), .unset] [(.ref p1)])) (fun t k => XS.aloadN X0.here hx rfl (hb hby d2_7) rfl rfl k) ?_
  obtain ⟨T1, X1, e1, st1⟩ := instY X0 hx hZ hown (hw _ (List.mem_of_getElem? (i := 24) rfl)) e0 (Ins.self E_p1) (g := (mkF m 8 #[.val (.ref p0), .val (.ref p1), .unset] [(.ref p1)])) rfl rfl (hb hby d2_8)
  refine own_step (T' := T1) (g' := (mkF m 11 #[.val (.ref p0), .val (.ref p1), .unset] [(.int (1 : Int32))])) st1 ?_
  refine own_step (T' := T1) (g' := (mkF m 14 #[.val (.ref p0), .val (.ref p1), .unset] [])) (fun t k => XS.ifNo X1.here hx rfl (hb hby d2_11) rfl ((if0 _ _).trans (feq (by decide : ¬ ((1 : Int32) = (0 : Int32)))).1) k) ?_
  refine own_step (T' := T1) (g' := (mkF m 15 #[.val (.ref p0), .val (.ref p1), .unset] [(.ref p1)])) (fun t k => XS.aloadN X1.here hx rfl (hb hby d2_14) rfl rfl k) ?_
  obtain ⟨T2, X2, e2, st2⟩ := castY X1 hx hZ hown (hw _ (List.mem_of_getElem? (i := 24) rfl)) e1 (Ins.self E_p1) (g := (mkF m 15 #[.val (.ref p0), .val (.ref p1), .unset] [(.ref p1)])) rfl rfl (hb hby d2_15)
  refine own_step (T' := T2) (g' := (mkF m 18 #[.val (.ref p0), .val (.ref p1), .unset] [(.ref p1)])) st2 ?_
  refine own_step (T' := T2) (g' := (mkF m 19 #[.val (.ref p0), .val (.ref p1), .val (.ref p1)] [])) (fun t k => XS.astoreN X2.here hx rfl (hb hby d2_18) rfl rfl (l' := #[.val (.ref p0), .val (.ref p1), .val (.ref p1)]) rfl k) ?_
  obtain ⟨T3, X3, e3, st3⟩ := getS2 X2 hx hZ hown (host := "") (Or.inl (hw _ (List.mem_of_getElem? (i := 26) rfl))) Via.refl e2 S_COMPACT_STRINGS (g := (mkF m 19 #[.val (.ref p0), .val (.ref p1), .val (.ref p1)] [])) rfl (hb hby d2_19)
  refine own_step (T' := T3) (g' := (mkF m 22 #[.val (.ref p0), .val (.ref p1), .val (.ref p1)] [(.int G1)])) st3 ?_
  refine own_step (T' := T3) (g' := (mkF m 25 #[.val (.ref p0), .val (.ref p1), .val (.ref p1)] [])) (fun t k => XS.ifNo X3.here hx rfl (hb hby d2_22) rfl ((if0 _ _).trans (feq P5).1) k) ?_
  refine own_step (T' := T3) (g' := (mkF m 26 #[.val (.ref p0), .val (.ref p1), .val (.ref p1)] [(.ref p0)])) (fun t k => XS.aloadN X3.here hx rfl (hb hby d2_25) rfl rfl k) ?_
  obtain ⟨T4, X4, e4, st4⟩ := getF X3 hx hZ hown (host := "") (Or.inl (hw _ (List.mem_of_getElem? (i := 27) rfl))) Via.refl e3 F_coder_p0 (g := (mkF m 26 #[.val (.ref p0), .val (.ref p1), .val (.ref p1)] [(.ref p0)])) rfl rfl (hb hby d2_26)
  refine own_step (T' := T4) (g' := (mkF m 29 #[.val (.ref p0), .val (.ref p1), .val (.ref p1)] [(.int (0 : Int32))])) st4 ?_
  refine own_step (T' := T4) (g' := (mkF m 30 #[.val (.ref p0), .val (.ref p1), .val (.ref p1)] [(.ref p1), (.int (0 : Int32))])) (fun t k => XS.aloadN X4.here hx rfl (hb hby d2_29) rfl rfl k) ?_
  obtain ⟨T5, X5, e5, st5⟩ := getF X4 hx hZ hown (host := "") (Or.inl (hw _ (List.mem_of_getElem? (i := 27) rfl))) Via.refl e4 F_coder_p1 (g := (mkF m 30 #[.val (.ref p0), .val (.ref p1), .val (.ref p1)] [(.ref p1), (.int (0 : Int32))])) rfl rfl (hb hby d2_30)
  refine own_step (T' := T5) (g' := (mkF m 33 #[.val (.ref p0), .val (.ref p1), .val (.ref p1)] [(.int (0 : Int32)), (.int (0 : Int32))])) st5 ?_
  refine own_step (T' := T5) (g' := (mkF m 36 #[.val (.ref p0), .val (.ref p1), .val (.ref p1)] [])) (fun t k => XS.icmpNo X5.here hx rfl (hb hby d2_33) rfl (teq (by decide : (0 : Int32) = (0 : Int32))).2 k) ?_
  refine own_step (T' := T5) (g' := (mkF m 37 #[.val (.ref p0), .val (.ref p1), .val (.ref p1)] [(.ref p0)])) (fun t k => XS.aloadN X5.here hx rfl (hb hby d2_36) rfl rfl k) ?_
  obtain ⟨T6, X6, e6, st6⟩ := getF X5 hx hZ hown (host := "") (Or.inl (hw _ (List.mem_of_getElem? (i := 28) rfl))) Via.refl e5 F_value_p0 (g := (mkF m 37 #[.val (.ref p0), .val (.ref p1), .val (.ref p1)] [(.ref p0)])) rfl rfl (hb hby d2_37)
  refine own_step (T' := T6) (g' := (mkF m 40 #[.val (.ref p0), .val (.ref p1), .val (.ref p1)] [(.ref w0)])) st6 ?_
  refine own_step (T' := T6) (g' := (mkF m 41 #[.val (.ref p0), .val (.ref p1), .val (.ref p1)] [(.ref p1), (.ref w0)])) (fun t k => XS.aloadN X6.here hx rfl (hb hby d2_40) rfl rfl k) ?_
  obtain ⟨T7, X7, e7, st7⟩ := getF X6 hx hZ hown (host := "") (Or.inl (hw _ (List.mem_of_getElem? (i := 28) rfl))) Via.refl e6 F_value_p1 (g := (mkF m 41 #[.val (.ref p0), .val (.ref p1), .val (.ref p1)] [(.ref p1), (.ref w0)])) rfl rfl (hb hby d2_41)
  refine own_step (T' := T7) (g' := (mkF m 44 #[.val (.ref p0), .val (.ref p1), .val (.ref p1)] [(.ref w1), (.ref w0)])) st7 ?_
  obtain ⟨_, _, ⟨T8, L8, kk8, nn8⟩, -, X8, ⟨Lc8, hQ8, l8, y8, z8⟩, st8⟩ := Jvm.LawKit.callS X7 hx (y := (⟨"java/lang/StringLatin1", "equals", "([B[B)Z"⟩ : MethodName)) hown (mvT hZ (hw _ (List.mem_of_getElem? (i := 29) rfl))) (mvT hZ (hw _ (List.mem_of_getElem? (i := 30) rfl))) (mvT hZ (hw _ (List.mem_of_getElem? (i := 31) rfl))) (mvT hZ (hw _ (List.mem_of_getElem? (i := 32) rfl))) (by decide) (backOf (W := 0) (rm3_count_distinct l Z a0 hw [] w0 w1 k0 k1 h0 n0 (Nat.le_trans Z0 K0.1) V_w0 V_w1) hZ (hw _ (List.mem_of_getElem? (i := 32) rfl)) (hw _ (List.mem_of_getElem? (i := 31) rfl)) (by decide) (by decide)) (g := (mkF m 44 #[.val (.ref p0), .val (.ref p1), .val (.ref p1)] [(.ref w1), (.ref w0)])) rfl (by rw [hml]; rfl) (argsL := [(.ref w0), (.ref w1)]) (rest := []) (lenOf pd_2 rfl) rfl (by show 2 * 0 + _ ≤ _; exact Nat.le_of_eq rfl) (hb hby d2_44) (fun _ _ => ⟨rfl, e7, (by decide : 0 + 0 ≤ _), (by decide : 0 + 0 ≤ _)⟩)
  dsimp only [Pt.U, Pt.locs, Pt.cells, Pt.slots] at X8 l8 y8 z8 st8 hQ8
  subst l8 y8 z8
  obtain ⟨rfl, N8q, eq8⟩ := hQ8
  have N8 := Fr.app N0 N8q
  refine own_step (T' := T8) (g' := (mkF m 47 #[.val (.ref p0), .val (.ref p1), .val (.ref p1)] [(.int (0 : Int32))])) st8 ?_
  refine own_step (T' := T8) (g' := (mkF m 54 #[.val (.ref p0), .val (.ref p1), .val (.ref p1)] [])) (fun t k => XS.ifYes X8.here hx rfl (pc0 := 47) (pc' := 54) rfl (hb hby d2_47) rfl ((if0 _ _).trans (teq (by decide : (0 : Int32) = (0 : Int32))).1) (by decide) (by decide) k) ?_
  refine own_step (T' := T8) (g' := (mkF m 55 #[.val (.ref p0), .val (.ref p1), .val (.ref p1)] [(.int (0 : Int32))])) (fun t k => XS.iconst X8.here hx rfl (hb hby d2_54) k) ?_
  refine own_retN X8 hx hlk (t := .boolean) (w := (0 : Int32)) Bd.returns (by simp) (hb hby d2_55) rfl (by decide) (by decide) ?_
  exact ⟨rfl, N8, eq8⟩
theorem ef_rm3_sum_sum (m : MethodId) (x0 : Addr) (x1 : Addr) : entryFrame m #[(.ref x0), (.ref x1)] 3 = mkF m 0 #[.val (.ref x0), .val (.ref x1), .unset] [] := by first | (simp [entryFrame, mkF, argsToLocals, Value.category]; done) | rfl
def Qrm3_sum_sum (Z : State) (p0 : Addr) (p1 : Addr) (k0 : ClassId) (k1 : ClassId) (h0 : Heap) (n0 : Nat) (v : Option Value) (h : Heap) (L : List Loc) : Prop := v = some (.int (1 : Int32)) ∧ Fr n0 L ∧ h = h0
set_option maxRecDepth 65536 in
set_option maxHeartbeats 40000000 in
theorem rm3_sum_sum (l : Launch) (Z : State) (a0 : Array Value) (hw : ∀ d ∈ tables_1, d.before a0 Z = true) (ws : List Jvm.Cond) (p0 : Addr) (p1 : Addr) (k0 : ClassId) (k1 : ClassId) (h0 : Heap) (n0 : Nat) (Z0 : n0 ≤ h0.size) (V_p0 : Arv Z h0 p0 k0 .byte (3 : Int32) [(.int (115 : Int32)), (.int (117 : Int32)), (.int (109 : Int32))] (.int (0 : Int32))) (V_p1 : Arv Z h0 p1 k1 .byte (3 : Int32) [(.int (115 : Int32)), (.int (117 : Int32)), (.int (109 : Int32))] (.int (0 : Int32))) :
    MetFree l (⟨"java/lang/StringLatin1", "equals", "([B[B)Z"⟩ : MethodName) (head1 (Jvm.Cond.code (⟨"java/lang/StringLatin1", "equals", "([B[B)Z"⟩ : MethodName) jdk_43_method_13_code 3 (some .boolean) :: ws) ({ frames := 0, cells := 0, slots := 0, locals := 0 } : Room)) (fun a U => a = #[(.ref p0), (.ref p1)] ∧ Z.Warmed39 U.vm ∧ U.heap = h0) (fun _ _ _ _ _ => True) (fun _ U o U' => ∃ v L, o = .returned v ∧ Qrm3_sum_sum Z p0 p1 k0 k1 h0 n0 v U'.heap L ∧ FrameEnd U o U' L ({ frames := 0, cells := 0, slots := 0, locals := 0 } : Room).cells ({ frames := 0, cells := 0, slots := 0, locals := 0 } : Room).slots) := by
  refine MetFree.of_bodySF (plainFor_of_name pn_3) hisR ?_
  intro p e s m args below meth c s₁ Bd hml0 hP hK
  obtain ⟨rfl, hZ, hh⟩ := hP
  have hx := Bd.exec
  have hby := Bd.bytes
  have hlk : meth.locks = false := BodyLoose.notSynchronized Bd
  have hml : c.maxLocals = 3 := hml0
  have hown : s.vm.findClass "java/lang/StringLatin1" = some m.cls := findClass_of_methodNamed Bd.named
  have hnm := (name_of_methodNamed Bd.named Bd.method).1
  have X0 : Stand p l e ({ frames := 0, cells := 0, slots := 0, locals := 0 } : Room) s m #[(.ref p0), (.ref p1)] below meth c s₁ [] 0 0 := Stand.of_body Bd
  have e0 : s₁.heap = h0 := by rw [← hh, Bd.state]; rfl
  have N0 := Fr.nil n0
  have K0 : Keep h0 h0 [] := Keep.refl h0 []
  show own_G p e below s 0 0 (Qrm3_sum_sum Z p0 p1 k0 k1 h0 n0) s₁ (entryFrame m #[(.ref p0), (.ref p1)] 3)
  rw [ef_rm3_sum_sum m p0 p1]
  refine own_step (T' := s₁) (g' := (mkF m 1 #[.val (.ref p0), .val (.ref p1), .unset] [(.ref p0)])) (fun t k => XS.aloadN X0.here hx rfl (hb hby d3_0) rfl rfl k) ?_
  obtain ⟨cl1, Ar1, q1, Sz1, Nn1, Hh1, Gg1⟩ := id V_p0
  refine own_step (T' := s₁) (g' := (mkF m 2 #[.val (.ref p0), .val (.ref p1), .unset] [(.int (3 : Int32))])) (fun t k => X0.arraylength hx (by rw [e0]; exact Ar1.1) (State.isArrayOf_alike hZ.alike Ar1.2.1) (g := (mkF m 1 #[.val (.ref p0), .val (.ref p1), .unset] [(.ref p0)])) rfl rfl (hb hby d3_1) t (by rw [len_of Sz1 Nn1]; exact k)) ?_
  refine own_step (T' := s₁) (g' := (mkF m 3 #[.val (.ref p0), .val (.ref p1), .unset] [(.ref p1), (.int (3 : Int32))])) (fun t k => XS.aloadN X0.here hx rfl (hb hby d3_2) rfl rfl k) ?_
  obtain ⟨cl2, Ar2, q2, Sz2, Nn2, Hh2, Gg2⟩ := id V_p1
  refine own_step (T' := s₁) (g' := (mkF m 4 #[.val (.ref p0), .val (.ref p1), .unset] [(.int (3 : Int32)), (.int (3 : Int32))])) (fun t k => X0.arraylength hx (by rw [e0]; exact Ar2.1) (State.isArrayOf_alike hZ.alike Ar2.2.1) (g := (mkF m 3 #[.val (.ref p0), .val (.ref p1), .unset] [(.ref p1), (.int (3 : Int32))])) rfl rfl (hb hby d3_3) t (by rw [len_of Sz2 Nn2]; exact k)) ?_
  refine own_step (T' := s₁) (g' := (mkF m 7 #[.val (.ref p0), .val (.ref p1), .unset] [])) (fun t k => XS.icmpNo X0.here hx rfl (hb hby d3_4) rfl (teq (by decide : (3 : Int32) = (3 : Int32))).2 k) ?_
  refine own_step (T' := s₁) (g' := (mkF m 8 #[.val (.ref p0), .val (.ref p1), .unset] [(.int (0 : Int32))])) (fun t k => XS.iconst X0.here hx rfl (hb hby d3_7) k) ?_
  refine own_step (T' := s₁) (g' := (mkF m 9 #[.val (.ref p0), .val (.ref p1), .val (.int (0 : Int32))] [])) (fun t k => XS.istoreN X0.here hx rfl (hb hby d3_8) rfl (l' := #[.val (.ref p0), .val (.ref p1), .val (.int (0 : Int32))]) rfl k) ?_
  refine own_step (T' := s₁) (g' := (mkF m 10 #[.val (.ref p0), .val (.ref p1), .val (.int (0 : Int32))] [(.int (0 : Int32))])) (fun t k => XS.iloadN X0.here hx rfl (hb hby d3_9) rfl k) ?_
  refine own_step (T' := s₁) (g' := (mkF m 11 #[.val (.ref p0), .val (.ref p1), .val (.int (0 : Int32))] [(.ref p0), (.int (0 : Int32))])) (fun t k => XS.aloadN X0.here hx rfl (hb hby d3_10) rfl rfl k) ?_
  obtain ⟨cl3, Ar3, q3, Sz3, Nn3, Hh3, Gg3⟩ := id V_p0
  refine own_step (T' := s₁) (g' := (mkF m 12 #[.val (.ref p0), .val (.ref p1), .val (.int (0 : Int32))] [(.int (3 : Int32)), (.int (0 : Int32))])) (fun t k => X0.arraylength hx (by rw [e0]; exact Ar3.1) (State.isArrayOf_alike hZ.alike Ar3.2.1) (g := (mkF m 11 #[.val (.ref p0), .val (.ref p1), .val (.int (0 : Int32))] [(.ref p0), (.int (0 : Int32))])) rfl rfl (hb hby d3_11) t (by rw [len_of Sz3 Nn3]; exact k)) ?_
  refine own_step (T' := s₁) (g' := (mkF m 15 #[.val (.ref p0), .val (.ref p1), .val (.int (0 : Int32))] [])) (fun t k => XS.icmpNo X0.here hx rfl (hb hby d3_12) rfl (tlt (by decide : (0 : Int32) < (3 : Int32))).2.1 k) ?_
  refine own_step (T' := s₁) (g' := (mkF m 16 #[.val (.ref p0), .val (.ref p1), .val (.int (0 : Int32))] [(.ref p0)])) (fun t k => XS.aloadN X0.here hx rfl (hb hby d3_15) rfl rfl k) ?_
  refine own_step (T' := s₁) (g' := (mkF m 17 #[.val (.ref p0), .val (.ref p1), .val (.int (0 : Int32))] [(.int (0 : Int32)), (.ref p0)])) (fun t k => XS.iloadN X0.here hx rfl (hb hby d3_16) rfl k) ?_
  obtain ⟨cl4, Ar4, q4, Sz4, Nn4, Hh4, Gg4⟩ := id V_p0
  have hin4 : ¬ ((0 : Int32) < 0 ∨ cl4.slots.size ≤ ((0 : Int32)).toNatClampNeg) := inb_of Sz4 ⟨by decide, by decide⟩
  refine own_step (T' := s₁) (g' := (mkF m 18 #[.val (.ref p0), .val (.ref p1), .val (.int (0 : Int32))] [(.int (115 : Int32))])) (fun t k => X0.baloadBytes hx (j := (0 : Int32)) (v := (.int (115 : Int32))) (by rw [e0]; exact Ar4.1) (State.isArrayOf_alike hZ.alike Ar4.2.1) Ar4.2.2 hin4 (Has.at Hh4 hin4 rfl) (g := (mkF m 17 #[.val (.ref p0), .val (.ref p1), .val (.int (0 : Int32))] [(.int (0 : Int32)), (.ref p0)])) rfl rfl (hb hby d3_17) t k) ?_
  refine own_step (T' := s₁) (g' := (mkF m 19 #[.val (.ref p0), .val (.ref p1), .val (.int (0 : Int32))] [(.ref p1), (.int (115 : Int32))])) (fun t k => XS.aloadN X0.here hx rfl (hb hby d3_18) rfl rfl k) ?_
  refine own_step (T' := s₁) (g' := (mkF m 20 #[.val (.ref p0), .val (.ref p1), .val (.int (0 : Int32))] [(.int (0 : Int32)), (.ref p1), (.int (115 : Int32))])) (fun t k => XS.iloadN X0.here hx rfl (hb hby d3_19) rfl k) ?_
  obtain ⟨cl5, Ar5, q5, Sz5, Nn5, Hh5, Gg5⟩ := id V_p1
  have hin5 : ¬ ((0 : Int32) < 0 ∨ cl5.slots.size ≤ ((0 : Int32)).toNatClampNeg) := inb_of Sz5 ⟨by decide, by decide⟩
  refine own_step (T' := s₁) (g' := (mkF m 21 #[.val (.ref p0), .val (.ref p1), .val (.int (0 : Int32))] [(.int (115 : Int32)), (.int (115 : Int32))])) (fun t k => X0.baloadBytes hx (j := (0 : Int32)) (v := (.int (115 : Int32))) (by rw [e0]; exact Ar5.1) (State.isArrayOf_alike hZ.alike Ar5.2.1) Ar5.2.2 hin5 (Has.at Hh5 hin5 rfl) (g := (mkF m 20 #[.val (.ref p0), .val (.ref p1), .val (.int (0 : Int32))] [(.int (0 : Int32)), (.ref p1), (.int (115 : Int32))])) rfl rfl (hb hby d3_20) t k) ?_
  refine own_step (T' := s₁) (g' := (mkF m 26 #[.val (.ref p0), .val (.ref p1), .val (.int (0 : Int32))] [])) (fun t k => XS.icmpYes X0.here hx rfl (pc0 := 21) (pc' := 26) rfl (hb hby d3_21) rfl (teq (by decide : (115 : Int32) = (115 : Int32))).1 (by decide) (by decide) k) ?_
  refine own_step (T' := s₁) (g' := (mkF m 29 #[.val (.ref p0), .val (.ref p1), .val (.int (1 : Int32))] [])) (fun t k => XS.iinc X0.here hx rfl (hb hby d3_26) rfl (l' := #[.val (.ref p0), .val (.ref p1), .val (.int (1 : Int32))]) rfl k) ?_
  refine own_step (T' := s₁) (g' := (mkF m 9 #[.val (.ref p0), .val (.ref p1), .val (.int (1 : Int32))] [])) (fun t k => XS.goto X0.here hx rfl (pc0 := 29) (pc' := 9) rfl (hb hby d3_29) (by decide) (by decide) k) ?_
  refine own_step (T' := s₁) (g' := (mkF m 10 #[.val (.ref p0), .val (.ref p1), .val (.int (1 : Int32))] [(.int (1 : Int32))])) (fun t k => XS.iloadN X0.here hx rfl (hb hby d3_9) rfl k) ?_
  refine own_step (T' := s₁) (g' := (mkF m 11 #[.val (.ref p0), .val (.ref p1), .val (.int (1 : Int32))] [(.ref p0), (.int (1 : Int32))])) (fun t k => XS.aloadN X0.here hx rfl (hb hby d3_10) rfl rfl k) ?_
  obtain ⟨cl6, Ar6, q6, Sz6, Nn6, Hh6, Gg6⟩ := id V_p0
  refine own_step (T' := s₁) (g' := (mkF m 12 #[.val (.ref p0), .val (.ref p1), .val (.int (1 : Int32))] [(.int (3 : Int32)), (.int (1 : Int32))])) (fun t k => X0.arraylength hx (by rw [e0]; exact Ar6.1) (State.isArrayOf_alike hZ.alike Ar6.2.1) (g := (mkF m 11 #[.val (.ref p0), .val (.ref p1), .val (.int (1 : Int32))] [(.ref p0), (.int (1 : Int32))])) rfl rfl (hb hby d3_11) t (by rw [len_of Sz6 Nn6]; exact k)) ?_
  refine own_step (T' := s₁) (g' := (mkF m 15 #[.val (.ref p0), .val (.ref p1), .val (.int (1 : Int32))] [])) (fun t k => XS.icmpNo X0.here hx rfl (hb hby d3_12) rfl (tlt (by decide : (1 : Int32) < (3 : Int32))).2.1 k) ?_
  refine own_step (T' := s₁) (g' := (mkF m 16 #[.val (.ref p0), .val (.ref p1), .val (.int (1 : Int32))] [(.ref p0)])) (fun t k => XS.aloadN X0.here hx rfl (hb hby d3_15) rfl rfl k) ?_
  refine own_step (T' := s₁) (g' := (mkF m 17 #[.val (.ref p0), .val (.ref p1), .val (.int (1 : Int32))] [(.int (1 : Int32)), (.ref p0)])) (fun t k => XS.iloadN X0.here hx rfl (hb hby d3_16) rfl k) ?_
  obtain ⟨cl7, Ar7, q7, Sz7, Nn7, Hh7, Gg7⟩ := id V_p0
  have hin7 : ¬ ((1 : Int32) < 0 ∨ cl7.slots.size ≤ ((1 : Int32)).toNatClampNeg) := inb_of Sz7 ⟨by decide, by decide⟩
  refine own_step (T' := s₁) (g' := (mkF m 18 #[.val (.ref p0), .val (.ref p1), .val (.int (1 : Int32))] [(.int (117 : Int32))])) (fun t k => X0.baloadBytes hx (j := (1 : Int32)) (v := (.int (117 : Int32))) (by rw [e0]; exact Ar7.1) (State.isArrayOf_alike hZ.alike Ar7.2.1) Ar7.2.2 hin7 (Has.at Hh7 hin7 rfl) (g := (mkF m 17 #[.val (.ref p0), .val (.ref p1), .val (.int (1 : Int32))] [(.int (1 : Int32)), (.ref p0)])) rfl rfl (hb hby d3_17) t k) ?_
  refine own_step (T' := s₁) (g' := (mkF m 19 #[.val (.ref p0), .val (.ref p1), .val (.int (1 : Int32))] [(.ref p1), (.int (117 : Int32))])) (fun t k => XS.aloadN X0.here hx rfl (hb hby d3_18) rfl rfl k) ?_
  refine own_step (T' := s₁) (g' := (mkF m 20 #[.val (.ref p0), .val (.ref p1), .val (.int (1 : Int32))] [(.int (1 : Int32)), (.ref p1), (.int (117 : Int32))])) (fun t k => XS.iloadN X0.here hx rfl (hb hby d3_19) rfl k) ?_
  obtain ⟨cl8, Ar8, q8, Sz8, Nn8, Hh8, Gg8⟩ := id V_p1
  have hin8 : ¬ ((1 : Int32) < 0 ∨ cl8.slots.size ≤ ((1 : Int32)).toNatClampNeg) := inb_of Sz8 ⟨by decide, by decide⟩
  refine own_step (T' := s₁) (g' := (mkF m 21 #[.val (.ref p0), .val (.ref p1), .val (.int (1 : Int32))] [(.int (117 : Int32)), (.int (117 : Int32))])) (fun t k => X0.baloadBytes hx (j := (1 : Int32)) (v := (.int (117 : Int32))) (by rw [e0]; exact Ar8.1) (State.isArrayOf_alike hZ.alike Ar8.2.1) Ar8.2.2 hin8 (Has.at Hh8 hin8 rfl) (g := (mkF m 20 #[.val (.ref p0), .val (.ref p1), .val (.int (1 : Int32))] [(.int (1 : Int32)), (.ref p1), (.int (117 : Int32))])) rfl rfl (hb hby d3_20) t k) ?_
  refine own_step (T' := s₁) (g' := (mkF m 26 #[.val (.ref p0), .val (.ref p1), .val (.int (1 : Int32))] [])) (fun t k => XS.icmpYes X0.here hx rfl (pc0 := 21) (pc' := 26) rfl (hb hby d3_21) rfl (teq (by decide : (117 : Int32) = (117 : Int32))).1 (by decide) (by decide) k) ?_
  refine own_step (T' := s₁) (g' := (mkF m 29 #[.val (.ref p0), .val (.ref p1), .val (.int (2 : Int32))] [])) (fun t k => XS.iinc X0.here hx rfl (hb hby d3_26) rfl (l' := #[.val (.ref p0), .val (.ref p1), .val (.int (2 : Int32))]) rfl k) ?_
  refine own_step (T' := s₁) (g' := (mkF m 9 #[.val (.ref p0), .val (.ref p1), .val (.int (2 : Int32))] [])) (fun t k => XS.goto X0.here hx rfl (pc0 := 29) (pc' := 9) rfl (hb hby d3_29) (by decide) (by decide) k) ?_
  refine own_step (T' := s₁) (g' := (mkF m 10 #[.val (.ref p0), .val (.ref p1), .val (.int (2 : Int32))] [(.int (2 : Int32))])) (fun t k => XS.iloadN X0.here hx rfl (hb hby d3_9) rfl k) ?_
  refine own_step (T' := s₁) (g' := (mkF m 11 #[.val (.ref p0), .val (.ref p1), .val (.int (2 : Int32))] [(.ref p0), (.int (2 : Int32))])) (fun t k => XS.aloadN X0.here hx rfl (hb hby d3_10) rfl rfl k) ?_
  obtain ⟨cl9, Ar9, q9, Sz9, Nn9, Hh9, Gg9⟩ := id V_p0
  refine own_step (T' := s₁) (g' := (mkF m 12 #[.val (.ref p0), .val (.ref p1), .val (.int (2 : Int32))] [(.int (3 : Int32)), (.int (2 : Int32))])) (fun t k => X0.arraylength hx (by rw [e0]; exact Ar9.1) (State.isArrayOf_alike hZ.alike Ar9.2.1) (g := (mkF m 11 #[.val (.ref p0), .val (.ref p1), .val (.int (2 : Int32))] [(.ref p0), (.int (2 : Int32))])) rfl rfl (hb hby d3_11) t (by rw [len_of Sz9 Nn9]; exact k)) ?_
  refine own_step (T' := s₁) (g' := (mkF m 15 #[.val (.ref p0), .val (.ref p1), .val (.int (2 : Int32))] [])) (fun t k => XS.icmpNo X0.here hx rfl (hb hby d3_12) rfl (tlt (by decide : (2 : Int32) < (3 : Int32))).2.1 k) ?_
  refine own_step (T' := s₁) (g' := (mkF m 16 #[.val (.ref p0), .val (.ref p1), .val (.int (2 : Int32))] [(.ref p0)])) (fun t k => XS.aloadN X0.here hx rfl (hb hby d3_15) rfl rfl k) ?_
  refine own_step (T' := s₁) (g' := (mkF m 17 #[.val (.ref p0), .val (.ref p1), .val (.int (2 : Int32))] [(.int (2 : Int32)), (.ref p0)])) (fun t k => XS.iloadN X0.here hx rfl (hb hby d3_16) rfl k) ?_
  obtain ⟨cl10, Ar10, q10, Sz10, Nn10, Hh10, Gg10⟩ := id V_p0
  have hin10 : ¬ ((2 : Int32) < 0 ∨ cl10.slots.size ≤ ((2 : Int32)).toNatClampNeg) := inb_of Sz10 ⟨by decide, by decide⟩
  refine own_step (T' := s₁) (g' := (mkF m 18 #[.val (.ref p0), .val (.ref p1), .val (.int (2 : Int32))] [(.int (109 : Int32))])) (fun t k => X0.baloadBytes hx (j := (2 : Int32)) (v := (.int (109 : Int32))) (by rw [e0]; exact Ar10.1) (State.isArrayOf_alike hZ.alike Ar10.2.1) Ar10.2.2 hin10 (Has.at Hh10 hin10 rfl) (g := (mkF m 17 #[.val (.ref p0), .val (.ref p1), .val (.int (2 : Int32))] [(.int (2 : Int32)), (.ref p0)])) rfl rfl (hb hby d3_17) t k) ?_
  refine own_step (T' := s₁) (g' := (mkF m 19 #[.val (.ref p0), .val (.ref p1), .val (.int (2 : Int32))] [(.ref p1), (.int (109 : Int32))])) (fun t k => XS.aloadN X0.here hx rfl (hb hby d3_18) rfl rfl k) ?_
  refine own_step (T' := s₁) (g' := (mkF m 20 #[.val (.ref p0), .val (.ref p1), .val (.int (2 : Int32))] [(.int (2 : Int32)), (.ref p1), (.int (109 : Int32))])) (fun t k => XS.iloadN X0.here hx rfl (hb hby d3_19) rfl k) ?_
  obtain ⟨cl11, Ar11, q11, Sz11, Nn11, Hh11, Gg11⟩ := id V_p1
  have hin11 : ¬ ((2 : Int32) < 0 ∨ cl11.slots.size ≤ ((2 : Int32)).toNatClampNeg) := inb_of Sz11 ⟨by decide, by decide⟩
  refine own_step (T' := s₁) (g' := (mkF m 21 #[.val (.ref p0), .val (.ref p1), .val (.int (2 : Int32))] [(.int (109 : Int32)), (.int (109 : Int32))])) (fun t k => X0.baloadBytes hx (j := (2 : Int32)) (v := (.int (109 : Int32))) (by rw [e0]; exact Ar11.1) (State.isArrayOf_alike hZ.alike Ar11.2.1) Ar11.2.2 hin11 (Has.at Hh11 hin11 rfl) (g := (mkF m 20 #[.val (.ref p0), .val (.ref p1), .val (.int (2 : Int32))] [(.int (2 : Int32)), (.ref p1), (.int (109 : Int32))])) rfl rfl (hb hby d3_20) t k) ?_
  refine own_step (T' := s₁) (g' := (mkF m 26 #[.val (.ref p0), .val (.ref p1), .val (.int (2 : Int32))] [])) (fun t k => XS.icmpYes X0.here hx rfl (pc0 := 21) (pc' := 26) rfl (hb hby d3_21) rfl (teq (by decide : (109 : Int32) = (109 : Int32))).1 (by decide) (by decide) k) ?_
  refine own_step (T' := s₁) (g' := (mkF m 29 #[.val (.ref p0), .val (.ref p1), .val (.int (3 : Int32))] [])) (fun t k => XS.iinc X0.here hx rfl (hb hby d3_26) rfl (l' := #[.val (.ref p0), .val (.ref p1), .val (.int (3 : Int32))]) rfl k) ?_
  refine own_step (T' := s₁) (g' := (mkF m 9 #[.val (.ref p0), .val (.ref p1), .val (.int (3 : Int32))] [])) (fun t k => XS.goto X0.here hx rfl (pc0 := 29) (pc' := 9) rfl (hb hby d3_29) (by decide) (by decide) k) ?_
  refine own_step (T' := s₁) (g' := (mkF m 10 #[.val (.ref p0), .val (.ref p1), .val (.int (3 : Int32))] [(.int (3 : Int32))])) (fun t k => XS.iloadN X0.here hx rfl (hb hby d3_9) rfl k) ?_
  refine own_step (T' := s₁) (g' := (mkF m 11 #[.val (.ref p0), .val (.ref p1), .val (.int (3 : Int32))] [(.ref p0), (.int (3 : Int32))])) (fun t k => XS.aloadN X0.here hx rfl (hb hby d3_10) rfl rfl k) ?_
  obtain ⟨cl12, Ar12, q12, Sz12, Nn12, Hh12, Gg12⟩ := id V_p0
  refine own_step (T' := s₁) (g' := (mkF m 12 #[.val (.ref p0), .val (.ref p1), .val (.int (3 : Int32))] [(.int (3 : Int32)), (.int (3 : Int32))])) (fun t k => X0.arraylength hx (by rw [e0]; exact Ar12.1) (State.isArrayOf_alike hZ.alike Ar12.2.1) (g := (mkF m 11 #[.val (.ref p0), .val (.ref p1), .val (.int (3 : Int32))] [(.ref p0), (.int (3 : Int32))])) rfl rfl (hb hby d3_11) t (by rw [len_of Sz12 Nn12]; exact k)) ?_
  refine own_step (T' := s₁) (g' := (mkF m 32 #[.val (.ref p0), .val (.ref p1), .val (.int (3 : Int32))] [])) (fun t k => XS.icmpYes X0.here hx rfl (pc0 := 12) (pc' := 32) rfl (hb hby d3_12) rfl (flt (by decide : ¬ ((3 : Int32) < (3 : Int32)))).2.1 (by decide) (by decide) k) ?_
  refine own_step (T' := s₁) (g' := (mkF m 33 #[.val (.ref p0), .val (.ref p1), .val (.int (3 : Int32))] [(.int (1 : Int32))])) (fun t k => XS.iconst X0.here hx rfl (hb hby d3_32) k) ?_
  refine own_retN X0 hx hlk (t := .boolean) (w := (1 : Int32)) Bd.returns (by simp) (hb hby d3_33) rfl (by decide) (by decide) ?_
  exact ⟨rfl, N0, e0⟩
theorem ef_rm2_sum_sum (m : MethodId) (x0 : Addr) (x1 : Addr) : entryFrame m #[(.ref x0), (.ref x1)] 3 = mkF m 0 #[.val (.ref x0), .val (.ref x1), .unset] [] := by first | (simp [entryFrame, mkF, argsToLocals, Value.category]; done) | rfl
def Qrm2_sum_sum (Z : State) (p0 : Addr) (p1 : Addr) (w0 : Addr) (w1 : Addr) (k0 : ClassId) (k1 : ClassId) (G1 : Int32) (h0 : Heap) (n0 : Nat) (v : Option Value) (h : Heap) (L : List Loc) : Prop := v = some (.int (1 : Int32)) ∧ Fr n0 L ∧ h = h0
set_option maxRecDepth 65536 in
set_option maxHeartbeats 40000000 in
theorem rm2_sum_sum (l : Launch) (Z : State) (a0 : Array Value) (hw : ∀ d ∈ tables_1, d.before a0 Z = true) (ws : List Jvm.Cond) (p0 : Addr) (p1 : Addr) (w0 : Addr) (w1 : Addr) (k0 : ClassId) (k1 : ClassId) (G1 : Int32) (h0 : Heap) (n0 : Nat) (Z0 : n0 ≤ h0.size) (E_p0 : Exa Z h0 p0 "java/lang/String") (E_p1 : Exa Z h0 p1 "java/lang/String") (F_coder_p0 : Fld Z h0 p0 "java/lang/String" "coder" "B" (.int (0 : Int32))) (F_coder_p1 : Fld Z h0 p1 "java/lang/String" "coder" "B" (.int (0 : Int32))) (F_value_p0 : Fld Z h0 p0 "java/lang/String" "value" "[B" (.ref w0)) (F_value_p1 : Fld Z h0 p1 "java/lang/String" "value" "[B" (.ref w1)) (V_w0 : Arv Z h0 w0 k0 .byte (3 : Int32) [(.int (115 : Int32)), (.int (117 : Int32)), (.int (109 : Int32))] (.int (0 : Int32))) (V_w1 : Arv Z h0 w1 k1 .byte (3 : Int32) [(.int (115 : Int32)), (.int (117 : Int32)), (.int (109 : Int32))] (.int (0 : Int32))) (S_COMPACT_STRINGS : Sta Z h0 "java/lang/String" "COMPACT_STRINGS" "Z" (.int G1)) (P5 : ¬ (G1 = (0 : Int32))) :
    MetFree l (⟨"java/lang/String", "equals", "(Ljava/lang/Object;)Z"⟩ : MethodName) (head1 (Jvm.Cond.code (⟨"java/lang/String", "equals", "(Ljava/lang/Object;)Z"⟩ : MethodName) jdk_42_method_66_code 3 (some .boolean) :: ws) ({ frames := 1, cells := 0, slots := 0, locals := 14 } : Room)) (fun a U => a = #[(.ref p0), (.ref p1)] ∧ Z.Warmed39 U.vm ∧ U.heap = h0) (fun _ _ _ _ _ => True) (fun _ U o U' => ∃ v L, o = .returned v ∧ Qrm2_sum_sum Z p0 p1 w0 w1 k0 k1 G1 h0 n0 v U'.heap L ∧ FrameEnd U o U' L ({ frames := 1, cells := 0, slots := 0, locals := 14 } : Room).cells ({ frames := 1, cells := 0, slots := 0, locals := 14 } : Room).slots) := by
  refine MetFree.of_bodySF (plainFor_of_name pn_2) hisR ?_
  intro p e s m args below meth c s₁ Bd hml0 hP hK
  obtain ⟨rfl, hZ, hh⟩ := hP
  have hx := Bd.exec
  have hby := Bd.bytes
  have hlk : meth.locks = false := BodyLoose.notSynchronized Bd
  have hml : c.maxLocals = 3 := hml0
  have hown : s.vm.findClass "java/lang/String" = some m.cls := findClass_of_methodNamed Bd.named
  have hnm := (name_of_methodNamed Bd.named Bd.method).1
  have X0 : Stand p l e ({ frames := 1, cells := 0, slots := 0, locals := 14 } : Room) s m #[(.ref p0), (.ref p1)] below meth c s₁ [] 0 0 := Stand.of_body Bd
  have e0 : s₁.heap = h0 := by rw [← hh, Bd.state]; rfl
  have N0 := Fr.nil n0
  have K0 : Keep h0 h0 [] := Keep.refl h0 []
  show own_G p e below s 0 0 (Qrm2_sum_sum Z p0 p1 w0 w1 k0 k1 G1 h0 n0) s₁ (entryFrame m #[(.ref p0), (.ref p1)] 3)
  rw [ef_rm2_sum_sum m p0 p1]
  refine own_step (T' := s₁) (g' := (mkF m 1 #[.val (.ref p0), .val (.ref p1), .unset] [(.ref p0)])) (fun t k => XS.aloadN X0.here hx rfl (hb hby d2_0) rfl rfl k) ?_
  refine own_step (T' := s₁) (g' := (mkF m 2 #[.val (.ref p0), .val (.ref p1), .unset] [(.ref p1), (.ref p0)])) (fun t k => XS.aloadN X0.here hx rfl (hb hby d2_1) rfl rfl k) ?_
  by_cases ha2_1 : p0 = p1
  · refine own_step (T' := s₁) (g' := (mkF m 5 #[.val (.ref p0), .val (.ref p1), .unset] [])) (fun t k => Jvm.RoadKit.acmp (g := (mkF m 2 #[.val (.ref p0), .val (.ref p1), .unset] [(.ref p1), (.ref p0)])) X0 hx rfl rfl rfl (pc0 := 2) (pc' := 5) (same := true) rfl (hb hby d2_2) rfl (decide_eq_true (congrArg Value.ref ha2_1)) (by decide) (by decide) k) ?_
    refine own_step (T' := s₁) (g' := (mkF m 6 #[.val (.ref p0), .val (.ref p1), .unset] [(.int (1 : Int32))])) (fun t k => XS.iconst X0.here hx rfl (hb hby d2_5) k) ?_
    refine own_retN X0 hx hlk (t := .boolean) (w := (1 : Int32)) Bd.returns (by simp) (hb hby d2_6) rfl (by decide) (by decide) ?_
    exact ⟨rfl, N0, e0⟩
  · refine own_step (T' := s₁) (g' := (mkF m 7 #[.val (.ref p0), .val (.ref p1), .unset] [])) (fun t k => Jvm.RoadKit.acmp (g := (mkF m 2 #[.val (.ref p0), .val (.ref p1), .unset] [(.ref p1), (.ref p0)])) X0 hx rfl rfl rfl (pc0 := 2) (pc' := 7) (same := false) rfl (hb hby d2_2) rfl (decide_eq_false fun q => ha2_1 (Value.ref.inj q)) (by decide) (by decide) k) ?_
    refine own_step (T' := s₁) (g' := (mkF m 8 #[.val (.ref p0), .val (.ref p1), .unset] [(.ref p1)])) (fun t k => XS.aloadN X0.here hx rfl (hb hby d2_7) rfl rfl k) ?_
    obtain ⟨T3, X3, e3, st3⟩ := instY X0 hx hZ hown (hw _ (List.mem_of_getElem? (i := 24) rfl)) e0 (Ins.self E_p1) (g := (mkF m 8 #[.val (.ref p0), .val (.ref p1), .unset] [(.ref p1)])) rfl rfl (hb hby d2_8)
    refine own_step (T' := T3) (g' := (mkF m 11 #[.val (.ref p0), .val (.ref p1), .unset] [(.int (1 : Int32))])) st3 ?_
    refine own_step (T' := T3) (g' := (mkF m 14 #[.val (.ref p0), .val (.ref p1), .unset] [])) (fun t k => XS.ifNo X3.here hx rfl (hb hby d2_11) rfl ((if0 _ _).trans (feq (by decide : ¬ ((1 : Int32) = (0 : Int32)))).1) k) ?_
    refine own_step (T' := T3) (g' := (mkF m 15 #[.val (.ref p0), .val (.ref p1), .unset] [(.ref p1)])) (fun t k => XS.aloadN X3.here hx rfl (hb hby d2_14) rfl rfl k) ?_
    obtain ⟨T4, X4, e4, st4⟩ := castY X3 hx hZ hown (hw _ (List.mem_of_getElem? (i := 24) rfl)) e3 (Ins.self E_p1) (g := (mkF m 15 #[.val (.ref p0), .val (.ref p1), .unset] [(.ref p1)])) rfl rfl (hb hby d2_15)
    refine own_step (T' := T4) (g' := (mkF m 18 #[.val (.ref p0), .val (.ref p1), .unset] [(.ref p1)])) st4 ?_
    refine own_step (T' := T4) (g' := (mkF m 19 #[.val (.ref p0), .val (.ref p1), .val (.ref p1)] [])) (fun t k => XS.astoreN X4.here hx rfl (hb hby d2_18) rfl rfl (l' := #[.val (.ref p0), .val (.ref p1), .val (.ref p1)]) rfl k) ?_
    obtain ⟨T5, X5, e5, st5⟩ := getS2 X4 hx hZ hown (host := "") (Or.inl (hw _ (List.mem_of_getElem? (i := 26) rfl))) Via.refl e4 S_COMPACT_STRINGS (g := (mkF m 19 #[.val (.ref p0), .val (.ref p1), .val (.ref p1)] [])) rfl (hb hby d2_19)
    refine own_step (T' := T5) (g' := (mkF m 22 #[.val (.ref p0), .val (.ref p1), .val (.ref p1)] [(.int G1)])) st5 ?_
    refine own_step (T' := T5) (g' := (mkF m 25 #[.val (.ref p0), .val (.ref p1), .val (.ref p1)] [])) (fun t k => XS.ifNo X5.here hx rfl (hb hby d2_22) rfl ((if0 _ _).trans (feq P5).1) k) ?_
    refine own_step (T' := T5) (g' := (mkF m 26 #[.val (.ref p0), .val (.ref p1), .val (.ref p1)] [(.ref p0)])) (fun t k => XS.aloadN X5.here hx rfl (hb hby d2_25) rfl rfl k) ?_
    obtain ⟨T6, X6, e6, st6⟩ := getF X5 hx hZ hown (host := "") (Or.inl (hw _ (List.mem_of_getElem? (i := 27) rfl))) Via.refl e5 F_coder_p0 (g := (mkF m 26 #[.val (.ref p0), .val (.ref p1), .val (.ref p1)] [(.ref p0)])) rfl rfl (hb hby d2_26)
    refine own_step (T' := T6) (g' := (mkF m 29 #[.val (.ref p0), .val (.ref p1), .val (.ref p1)] [(.int (0 : Int32))])) st6 ?_
    refine own_step (T' := T6) (g' := (mkF m 30 #[.val (.ref p0), .val (.ref p1), .val (.ref p1)] [(.ref p1), (.int (0 : Int32))])) (fun t k => XS.aloadN X6.here hx rfl (hb hby d2_29) rfl rfl k) ?_
    obtain ⟨T7, X7, e7, st7⟩ := getF X6 hx hZ hown (host := "") (Or.inl (hw _ (List.mem_of_getElem? (i := 27) rfl))) Via.refl e6 F_coder_p1 (g := (mkF m 30 #[.val (.ref p0), .val (.ref p1), .val (.ref p1)] [(.ref p1), (.int (0 : Int32))])) rfl rfl (hb hby d2_30)
    refine own_step (T' := T7) (g' := (mkF m 33 #[.val (.ref p0), .val (.ref p1), .val (.ref p1)] [(.int (0 : Int32)), (.int (0 : Int32))])) st7 ?_
    refine own_step (T' := T7) (g' := (mkF m 36 #[.val (.ref p0), .val (.ref p1), .val (.ref p1)] [])) (fun t k => XS.icmpNo X7.here hx rfl (hb hby d2_33) rfl (teq (by decide : (0 : Int32) = (0 : Int32))).2 k) ?_
    refine own_step (T' := T7) (g' := (mkF m 37 #[.val (.ref p0), .val (.ref p1), .val (.ref p1)] [(.ref p0)])) (fun t k => XS.aloadN X7.here hx rfl (hb hby d2_36) rfl rfl k) ?_
    obtain ⟨T8, X8, e8, st8⟩ := getF X7 hx hZ hown (host := "") (Or.inl (hw _ (List.mem_of_getElem? (i := 28) rfl))) Via.refl e7 F_value_p0 (g := (mkF m 37 #[.val (.ref p0), .val (.ref p1), .val (.ref p1)] [(.ref p0)])) rfl rfl (hb hby d2_37)
    refine own_step (T' := T8) (g' := (mkF m 40 #[.val (.ref p0), .val (.ref p1), .val (.ref p1)] [(.ref w0)])) st8 ?_
    refine own_step (T' := T8) (g' := (mkF m 41 #[.val (.ref p0), .val (.ref p1), .val (.ref p1)] [(.ref p1), (.ref w0)])) (fun t k => XS.aloadN X8.here hx rfl (hb hby d2_40) rfl rfl k) ?_
    obtain ⟨T9, X9, e9, st9⟩ := getF X8 hx hZ hown (host := "") (Or.inl (hw _ (List.mem_of_getElem? (i := 28) rfl))) Via.refl e8 F_value_p1 (g := (mkF m 41 #[.val (.ref p0), .val (.ref p1), .val (.ref p1)] [(.ref p1), (.ref w0)])) rfl rfl (hb hby d2_41)
    refine own_step (T' := T9) (g' := (mkF m 44 #[.val (.ref p0), .val (.ref p1), .val (.ref p1)] [(.ref w1), (.ref w0)])) st9 ?_
    obtain ⟨_, _, ⟨T10, L10, kk10, nn10⟩, -, X10, ⟨Lc10, hQ10, l10, y10, z10⟩, st10⟩ := Jvm.LawKit.callS X9 hx (y := (⟨"java/lang/StringLatin1", "equals", "([B[B)Z"⟩ : MethodName)) hown (mvT hZ (hw _ (List.mem_of_getElem? (i := 29) rfl))) (mvT hZ (hw _ (List.mem_of_getElem? (i := 30) rfl))) (mvT hZ (hw _ (List.mem_of_getElem? (i := 31) rfl))) (mvT hZ (hw _ (List.mem_of_getElem? (i := 32) rfl))) (by decide) (backOf (W := 0) (rm3_sum_sum l Z a0 hw [] w0 w1 k0 k1 h0 n0 (Nat.le_trans Z0 K0.1) V_w0 V_w1) hZ (hw _ (List.mem_of_getElem? (i := 32) rfl)) (hw _ (List.mem_of_getElem? (i := 31) rfl)) (by decide) (by decide)) (g := (mkF m 44 #[.val (.ref p0), .val (.ref p1), .val (.ref p1)] [(.ref w1), (.ref w0)])) rfl (by rw [hml]; rfl) (argsL := [(.ref w0), (.ref w1)]) (rest := []) (lenOf pd_2 rfl) rfl (by show 2 * 0 + _ ≤ _; exact Nat.le_of_eq rfl) (hb hby d2_44) (fun _ _ => ⟨rfl, e9, (by decide : 0 + 0 ≤ _), (by decide : 0 + 0 ≤ _)⟩)
    dsimp only [Pt.U, Pt.locs, Pt.cells, Pt.slots] at X10 l10 y10 z10 st10 hQ10
    subst l10 y10 z10
    obtain ⟨rfl, N10q, eq10⟩ := hQ10
    have N10 := Fr.app N0 N10q
    refine own_step (T' := T10) (g' := (mkF m 47 #[.val (.ref p0), .val (.ref p1), .val (.ref p1)] [(.int (1 : Int32))])) st10 ?_
    refine own_step (T' := T10) (g' := (mkF m 50 #[.val (.ref p0), .val (.ref p1), .val (.ref p1)] [])) (fun t k => XS.ifNo X10.here hx rfl (hb hby d2_47) rfl ((if0 _ _).trans (feq (by decide : ¬ ((1 : Int32) = (0 : Int32)))).1) k) ?_
    refine own_step (T' := T10) (g' := (mkF m 51 #[.val (.ref p0), .val (.ref p1), .val (.ref p1)] [(.int (1 : Int32))])) (fun t k => XS.iconst X10.here hx rfl (hb hby d2_50) k) ?_
    refine own_step (T' := T10) (g' := (mkF m 55 #[.val (.ref p0), .val (.ref p1), .val (.ref p1)] [(.int (1 : Int32))])) (fun t k => XS.goto X10.here hx rfl (pc0 := 51) (pc' := 55) rfl (hb hby d2_51) (by decide) (by decide) k) ?_
    refine own_retN X10 hx hlk (t := .boolean) (w := (1 : Int32)) Bd.returns (by simp) (hb hby d2_55) rfl (by decide) (by decide) ?_
    exact ⟨rfl, N10, eq10⟩
theorem ef_rm3_distinct_sum (m : MethodId) (x0 : Addr) (x1 : Addr) : entryFrame m #[(.ref x0), (.ref x1)] 3 = mkF m 0 #[.val (.ref x0), .val (.ref x1), .unset] [] := by first | (simp [entryFrame, mkF, argsToLocals, Value.category]; done) | rfl
def Qrm3_distinct_sum (Z : State) (p0 : Addr) (p1 : Addr) (k0 : ClassId) (k1 : ClassId) (h0 : Heap) (n0 : Nat) (v : Option Value) (h : Heap) (L : List Loc) : Prop := v = some (.int (0 : Int32)) ∧ Fr n0 L ∧ h = h0
set_option maxRecDepth 65536 in
set_option maxHeartbeats 40000000 in
theorem rm3_distinct_sum (l : Launch) (Z : State) (a0 : Array Value) (hw : ∀ d ∈ tables_1, d.before a0 Z = true) (ws : List Jvm.Cond) (p0 : Addr) (p1 : Addr) (k0 : ClassId) (k1 : ClassId) (h0 : Heap) (n0 : Nat) (Z0 : n0 ≤ h0.size) (V_p0 : Arv Z h0 p0 k0 .byte (8 : Int32) [(.int (100 : Int32)), (.int (105 : Int32)), (.int (115 : Int32)), (.int (116 : Int32)), (.int (105 : Int32)), (.int (110 : Int32)), (.int (99 : Int32)), (.int (116 : Int32))] (.int (0 : Int32))) (V_p1 : Arv Z h0 p1 k1 .byte (3 : Int32) [(.int (115 : Int32)), (.int (117 : Int32)), (.int (109 : Int32))] (.int (0 : Int32))) :
    MetFree l (⟨"java/lang/StringLatin1", "equals", "([B[B)Z"⟩ : MethodName) (head1 (Jvm.Cond.code (⟨"java/lang/StringLatin1", "equals", "([B[B)Z"⟩ : MethodName) jdk_43_method_13_code 3 (some .boolean) :: ws) ({ frames := 0, cells := 0, slots := 0, locals := 0 } : Room)) (fun a U => a = #[(.ref p0), (.ref p1)] ∧ Z.Warmed39 U.vm ∧ U.heap = h0) (fun _ _ _ _ _ => True) (fun _ U o U' => ∃ v L, o = .returned v ∧ Qrm3_distinct_sum Z p0 p1 k0 k1 h0 n0 v U'.heap L ∧ FrameEnd U o U' L ({ frames := 0, cells := 0, slots := 0, locals := 0 } : Room).cells ({ frames := 0, cells := 0, slots := 0, locals := 0 } : Room).slots) := by
  refine MetFree.of_bodySF (plainFor_of_name pn_3) hisR ?_
  intro p e s m args below meth c s₁ Bd hml0 hP hK
  obtain ⟨rfl, hZ, hh⟩ := hP
  have hx := Bd.exec
  have hby := Bd.bytes
  have hlk : meth.locks = false := BodyLoose.notSynchronized Bd
  have hml : c.maxLocals = 3 := hml0
  have hown : s.vm.findClass "java/lang/StringLatin1" = some m.cls := findClass_of_methodNamed Bd.named
  have hnm := (name_of_methodNamed Bd.named Bd.method).1
  have X0 : Stand p l e ({ frames := 0, cells := 0, slots := 0, locals := 0 } : Room) s m #[(.ref p0), (.ref p1)] below meth c s₁ [] 0 0 := Stand.of_body Bd
  have e0 : s₁.heap = h0 := by rw [← hh, Bd.state]; rfl
  have N0 := Fr.nil n0
  have K0 : Keep h0 h0 [] := Keep.refl h0 []
  show own_G p e below s 0 0 (Qrm3_distinct_sum Z p0 p1 k0 k1 h0 n0) s₁ (entryFrame m #[(.ref p0), (.ref p1)] 3)
  rw [ef_rm3_distinct_sum m p0 p1]
  refine own_step (T' := s₁) (g' := (mkF m 1 #[.val (.ref p0), .val (.ref p1), .unset] [(.ref p0)])) (fun t k => XS.aloadN X0.here hx rfl (hb hby d3_0) rfl rfl k) ?_
  obtain ⟨cl1, Ar1, q1, Sz1, Nn1, Hh1, Gg1⟩ := id V_p0
  refine own_step (T' := s₁) (g' := (mkF m 2 #[.val (.ref p0), .val (.ref p1), .unset] [(.int (8 : Int32))])) (fun t k => X0.arraylength hx (by rw [e0]; exact Ar1.1) (State.isArrayOf_alike hZ.alike Ar1.2.1) (g := (mkF m 1 #[.val (.ref p0), .val (.ref p1), .unset] [(.ref p0)])) rfl rfl (hb hby d3_1) t (by rw [len_of Sz1 Nn1]; exact k)) ?_
  refine own_step (T' := s₁) (g' := (mkF m 3 #[.val (.ref p0), .val (.ref p1), .unset] [(.ref p1), (.int (8 : Int32))])) (fun t k => XS.aloadN X0.here hx rfl (hb hby d3_2) rfl rfl k) ?_
  obtain ⟨cl2, Ar2, q2, Sz2, Nn2, Hh2, Gg2⟩ := id V_p1
  refine own_step (T' := s₁) (g' := (mkF m 4 #[.val (.ref p0), .val (.ref p1), .unset] [(.int (3 : Int32)), (.int (8 : Int32))])) (fun t k => X0.arraylength hx (by rw [e0]; exact Ar2.1) (State.isArrayOf_alike hZ.alike Ar2.2.1) (g := (mkF m 3 #[.val (.ref p0), .val (.ref p1), .unset] [(.ref p1), (.int (8 : Int32))])) rfl rfl (hb hby d3_3) t (by rw [len_of Sz2 Nn2]; exact k)) ?_
  refine own_step (T' := s₁) (g' := (mkF m 34 #[.val (.ref p0), .val (.ref p1), .unset] [])) (fun t k => XS.icmpYes X0.here hx rfl (pc0 := 4) (pc' := 34) rfl (hb hby d3_4) rfl (feq (by decide : ¬ ((8 : Int32) = (3 : Int32)))).2 (by decide) (by decide) k) ?_
  refine own_step (T' := s₁) (g' := (mkF m 35 #[.val (.ref p0), .val (.ref p1), .unset] [(.int (0 : Int32))])) (fun t k => XS.iconst X0.here hx rfl (hb hby d3_34) k) ?_
  refine own_retN X0 hx hlk (t := .boolean) (w := (0 : Int32)) Bd.returns (by simp) (hb hby d3_35) rfl (by decide) (by decide) ?_
  exact ⟨rfl, N0, e0⟩
theorem ef_rm2_distinct_sum (m : MethodId) (x0 : Addr) (x1 : Addr) : entryFrame m #[(.ref x0), (.ref x1)] 3 = mkF m 0 #[.val (.ref x0), .val (.ref x1), .unset] [] := by first | (simp [entryFrame, mkF, argsToLocals, Value.category]; done) | rfl
def Qrm2_distinct_sum (Z : State) (p0 : Addr) (p1 : Addr) (w0 : Addr) (w1 : Addr) (k0 : ClassId) (k1 : ClassId) (G1 : Int32) (h0 : Heap) (n0 : Nat) (v : Option Value) (h : Heap) (L : List Loc) : Prop := v = some (.int (0 : Int32)) ∧ Fr n0 L ∧ h = h0
set_option maxRecDepth 65536 in
set_option maxHeartbeats 40000000 in
theorem rm2_distinct_sum (l : Launch) (Z : State) (a0 : Array Value) (hw : ∀ d ∈ tables_1, d.before a0 Z = true) (ws : List Jvm.Cond) (p0 : Addr) (p1 : Addr) (w0 : Addr) (w1 : Addr) (k0 : ClassId) (k1 : ClassId) (G1 : Int32) (h0 : Heap) (n0 : Nat) (Z0 : n0 ≤ h0.size) (E_p0 : Exa Z h0 p0 "java/lang/String") (E_p1 : Exa Z h0 p1 "java/lang/String") (F_coder_p0 : Fld Z h0 p0 "java/lang/String" "coder" "B" (.int (0 : Int32))) (F_coder_p1 : Fld Z h0 p1 "java/lang/String" "coder" "B" (.int (0 : Int32))) (F_value_p0 : Fld Z h0 p0 "java/lang/String" "value" "[B" (.ref w0)) (F_value_p1 : Fld Z h0 p1 "java/lang/String" "value" "[B" (.ref w1)) (V_w0 : Arv Z h0 w0 k0 .byte (8 : Int32) [(.int (100 : Int32)), (.int (105 : Int32)), (.int (115 : Int32)), (.int (116 : Int32)), (.int (105 : Int32)), (.int (110 : Int32)), (.int (99 : Int32)), (.int (116 : Int32))] (.int (0 : Int32))) (V_w1 : Arv Z h0 w1 k1 .byte (3 : Int32) [(.int (115 : Int32)), (.int (117 : Int32)), (.int (109 : Int32))] (.int (0 : Int32))) (S_COMPACT_STRINGS : Sta Z h0 "java/lang/String" "COMPACT_STRINGS" "Z" (.int G1)) (P5 : ¬ (G1 = (0 : Int32))) (ne01 : p0 ≠ p1) :
    MetFree l (⟨"java/lang/String", "equals", "(Ljava/lang/Object;)Z"⟩ : MethodName) (head1 (Jvm.Cond.code (⟨"java/lang/String", "equals", "(Ljava/lang/Object;)Z"⟩ : MethodName) jdk_42_method_66_code 3 (some .boolean) :: ws) ({ frames := 1, cells := 0, slots := 0, locals := 14 } : Room)) (fun a U => a = #[(.ref p0), (.ref p1)] ∧ Z.Warmed39 U.vm ∧ U.heap = h0) (fun _ _ _ _ _ => True) (fun _ U o U' => ∃ v L, o = .returned v ∧ Qrm2_distinct_sum Z p0 p1 w0 w1 k0 k1 G1 h0 n0 v U'.heap L ∧ FrameEnd U o U' L ({ frames := 1, cells := 0, slots := 0, locals := 14 } : Room).cells ({ frames := 1, cells := 0, slots := 0, locals := 14 } : Room).slots) := by
  refine MetFree.of_bodySF (plainFor_of_name pn_2) hisR ?_
  intro p e s m args below meth c s₁ Bd hml0 hP hK
  obtain ⟨rfl, hZ, hh⟩ := hP
  have hx := Bd.exec
  have hby := Bd.bytes
  have hlk : meth.locks = false := BodyLoose.notSynchronized Bd
  have hml : c.maxLocals = 3 := hml0
  have hown : s.vm.findClass "java/lang/String" = some m.cls := findClass_of_methodNamed Bd.named
  have hnm := (name_of_methodNamed Bd.named Bd.method).1
  have X0 : Stand p l e ({ frames := 1, cells := 0, slots := 0, locals := 14 } : Room) s m #[(.ref p0), (.ref p1)] below meth c s₁ [] 0 0 := Stand.of_body Bd
  have e0 : s₁.heap = h0 := by rw [← hh, Bd.state]; rfl
  have N0 := Fr.nil n0
  have K0 : Keep h0 h0 [] := Keep.refl h0 []
  show own_G p e below s 0 0 (Qrm2_distinct_sum Z p0 p1 w0 w1 k0 k1 G1 h0 n0) s₁ (entryFrame m #[(.ref p0), (.ref p1)] 3)
  rw [ef_rm2_distinct_sum m p0 p1]
  refine own_step (T' := s₁) (g' := (mkF m 1 #[.val (.ref p0), .val (.ref p1), .unset] [(.ref p0)])) (fun t k => XS.aloadN X0.here hx rfl (hb hby d2_0) rfl rfl k) ?_
  refine own_step (T' := s₁) (g' := (mkF m 2 #[.val (.ref p0), .val (.ref p1), .unset] [(.ref p1), (.ref p0)])) (fun t k => XS.aloadN X0.here hx rfl (hb hby d2_1) rfl rfl k) ?_
  refine own_step (T' := s₁) (g' := (mkF m 7 #[.val (.ref p0), .val (.ref p1), .unset] [])) (fun t k => Jvm.RoadKit.acmp (g := (mkF m 2 #[.val (.ref p0), .val (.ref p1), .unset] [(.ref p1), (.ref p0)])) X0 hx rfl rfl rfl (pc0 := 2) (pc' := 7) (same := false) rfl (hb hby d2_2) rfl (decide_eq_false fun q => ne01 (Value.ref.inj q)) (by decide) (by decide) k) ?_
  refine own_step (T' := s₁) (g' := (mkF m 8 #[.val (.ref p0), .val (.ref p1), .unset] [(.ref p1)])) (fun t k => XS.aloadN X0.here hx rfl (hb hby d2_7) rfl rfl k) ?_
  obtain ⟨T1, X1, e1, st1⟩ := instY X0 hx hZ hown (hw _ (List.mem_of_getElem? (i := 24) rfl)) e0 (Ins.self E_p1) (g := (mkF m 8 #[.val (.ref p0), .val (.ref p1), .unset] [(.ref p1)])) rfl rfl (hb hby d2_8)
  refine own_step (T' := T1) (g' := (mkF m 11 #[.val (.ref p0), .val (.ref p1), .unset] [(.int (1 : Int32))])) st1 ?_
  refine own_step (T' := T1) (g' := (mkF m 14 #[.val (.ref p0), .val (.ref p1), .unset] [])) (fun t k => XS.ifNo X1.here hx rfl (hb hby d2_11) rfl ((if0 _ _).trans (feq (by decide : ¬ ((1 : Int32) = (0 : Int32)))).1) k) ?_
  refine own_step (T' := T1) (g' := (mkF m 15 #[.val (.ref p0), .val (.ref p1), .unset] [(.ref p1)])) (fun t k => XS.aloadN X1.here hx rfl (hb hby d2_14) rfl rfl k) ?_
  obtain ⟨T2, X2, e2, st2⟩ := castY X1 hx hZ hown (hw _ (List.mem_of_getElem? (i := 24) rfl)) e1 (Ins.self E_p1) (g := (mkF m 15 #[.val (.ref p0), .val (.ref p1), .unset] [(.ref p1)])) rfl rfl (hb hby d2_15)
  refine own_step (T' := T2) (g' := (mkF m 18 #[.val (.ref p0), .val (.ref p1), .unset] [(.ref p1)])) st2 ?_
  refine own_step (T' := T2) (g' := (mkF m 19 #[.val (.ref p0), .val (.ref p1), .val (.ref p1)] [])) (fun t k => XS.astoreN X2.here hx rfl (hb hby d2_18) rfl rfl (l' := #[.val (.ref p0), .val (.ref p1), .val (.ref p1)]) rfl k) ?_
  obtain ⟨T3, X3, e3, st3⟩ := getS2 X2 hx hZ hown (host := "") (Or.inl (hw _ (List.mem_of_getElem? (i := 26) rfl))) Via.refl e2 S_COMPACT_STRINGS (g := (mkF m 19 #[.val (.ref p0), .val (.ref p1), .val (.ref p1)] [])) rfl (hb hby d2_19)
  refine own_step (T' := T3) (g' := (mkF m 22 #[.val (.ref p0), .val (.ref p1), .val (.ref p1)] [(.int G1)])) st3 ?_
  refine own_step (T' := T3) (g' := (mkF m 25 #[.val (.ref p0), .val (.ref p1), .val (.ref p1)] [])) (fun t k => XS.ifNo X3.here hx rfl (hb hby d2_22) rfl ((if0 _ _).trans (feq P5).1) k) ?_
  refine own_step (T' := T3) (g' := (mkF m 26 #[.val (.ref p0), .val (.ref p1), .val (.ref p1)] [(.ref p0)])) (fun t k => XS.aloadN X3.here hx rfl (hb hby d2_25) rfl rfl k) ?_
  obtain ⟨T4, X4, e4, st4⟩ := getF X3 hx hZ hown (host := "") (Or.inl (hw _ (List.mem_of_getElem? (i := 27) rfl))) Via.refl e3 F_coder_p0 (g := (mkF m 26 #[.val (.ref p0), .val (.ref p1), .val (.ref p1)] [(.ref p0)])) rfl rfl (hb hby d2_26)
  refine own_step (T' := T4) (g' := (mkF m 29 #[.val (.ref p0), .val (.ref p1), .val (.ref p1)] [(.int (0 : Int32))])) st4 ?_
  refine own_step (T' := T4) (g' := (mkF m 30 #[.val (.ref p0), .val (.ref p1), .val (.ref p1)] [(.ref p1), (.int (0 : Int32))])) (fun t k => XS.aloadN X4.here hx rfl (hb hby d2_29) rfl rfl k) ?_
  obtain ⟨T5, X5, e5, st5⟩ := getF X4 hx hZ hown (host := "") (Or.inl (hw _ (List.mem_of_getElem? (i := 27) rfl))) Via.refl e4 F_coder_p1 (g := (mkF m 30 #[.val (.ref p0), .val (.ref p1), .val (.ref p1)] [(.ref p1), (.int (0 : Int32))])) rfl rfl (hb hby d2_30)
  refine own_step (T' := T5) (g' := (mkF m 33 #[.val (.ref p0), .val (.ref p1), .val (.ref p1)] [(.int (0 : Int32)), (.int (0 : Int32))])) st5 ?_
  refine own_step (T' := T5) (g' := (mkF m 36 #[.val (.ref p0), .val (.ref p1), .val (.ref p1)] [])) (fun t k => XS.icmpNo X5.here hx rfl (hb hby d2_33) rfl (teq (by decide : (0 : Int32) = (0 : Int32))).2 k) ?_
  refine own_step (T' := T5) (g' := (mkF m 37 #[.val (.ref p0), .val (.ref p1), .val (.ref p1)] [(.ref p0)])) (fun t k => XS.aloadN X5.here hx rfl (hb hby d2_36) rfl rfl k) ?_
  obtain ⟨T6, X6, e6, st6⟩ := getF X5 hx hZ hown (host := "") (Or.inl (hw _ (List.mem_of_getElem? (i := 28) rfl))) Via.refl e5 F_value_p0 (g := (mkF m 37 #[.val (.ref p0), .val (.ref p1), .val (.ref p1)] [(.ref p0)])) rfl rfl (hb hby d2_37)
  refine own_step (T' := T6) (g' := (mkF m 40 #[.val (.ref p0), .val (.ref p1), .val (.ref p1)] [(.ref w0)])) st6 ?_
  refine own_step (T' := T6) (g' := (mkF m 41 #[.val (.ref p0), .val (.ref p1), .val (.ref p1)] [(.ref p1), (.ref w0)])) (fun t k => XS.aloadN X6.here hx rfl (hb hby d2_40) rfl rfl k) ?_
  obtain ⟨T7, X7, e7, st7⟩ := getF X6 hx hZ hown (host := "") (Or.inl (hw _ (List.mem_of_getElem? (i := 28) rfl))) Via.refl e6 F_value_p1 (g := (mkF m 41 #[.val (.ref p0), .val (.ref p1), .val (.ref p1)] [(.ref p1), (.ref w0)])) rfl rfl (hb hby d2_41)
  refine own_step (T' := T7) (g' := (mkF m 44 #[.val (.ref p0), .val (.ref p1), .val (.ref p1)] [(.ref w1), (.ref w0)])) st7 ?_
  obtain ⟨_, _, ⟨T8, L8, kk8, nn8⟩, -, X8, ⟨Lc8, hQ8, l8, y8, z8⟩, st8⟩ := Jvm.LawKit.callS X7 hx (y := (⟨"java/lang/StringLatin1", "equals", "([B[B)Z"⟩ : MethodName)) hown (mvT hZ (hw _ (List.mem_of_getElem? (i := 29) rfl))) (mvT hZ (hw _ (List.mem_of_getElem? (i := 30) rfl))) (mvT hZ (hw _ (List.mem_of_getElem? (i := 31) rfl))) (mvT hZ (hw _ (List.mem_of_getElem? (i := 32) rfl))) (by decide) (backOf (W := 0) (rm3_distinct_sum l Z a0 hw [] w0 w1 k0 k1 h0 n0 (Nat.le_trans Z0 K0.1) V_w0 V_w1) hZ (hw _ (List.mem_of_getElem? (i := 32) rfl)) (hw _ (List.mem_of_getElem? (i := 31) rfl)) (by decide) (by decide)) (g := (mkF m 44 #[.val (.ref p0), .val (.ref p1), .val (.ref p1)] [(.ref w1), (.ref w0)])) rfl (by rw [hml]; rfl) (argsL := [(.ref w0), (.ref w1)]) (rest := []) (lenOf pd_2 rfl) rfl (by show 2 * 0 + _ ≤ _; exact Nat.le_of_eq rfl) (hb hby d2_44) (fun _ _ => ⟨rfl, e7, (by decide : 0 + 0 ≤ _), (by decide : 0 + 0 ≤ _)⟩)
  dsimp only [Pt.U, Pt.locs, Pt.cells, Pt.slots] at X8 l8 y8 z8 st8 hQ8
  subst l8 y8 z8
  obtain ⟨rfl, N8q, eq8⟩ := hQ8
  have N8 := Fr.app N0 N8q
  refine own_step (T' := T8) (g' := (mkF m 47 #[.val (.ref p0), .val (.ref p1), .val (.ref p1)] [(.int (0 : Int32))])) st8 ?_
  refine own_step (T' := T8) (g' := (mkF m 54 #[.val (.ref p0), .val (.ref p1), .val (.ref p1)] [])) (fun t k => XS.ifYes X8.here hx rfl (pc0 := 47) (pc' := 54) rfl (hb hby d2_47) rfl ((if0 _ _).trans (teq (by decide : (0 : Int32) = (0 : Int32))).1) (by decide) (by decide) k) ?_
  refine own_step (T' := T8) (g' := (mkF m 55 #[.val (.ref p0), .val (.ref p1), .val (.ref p1)] [(.int (0 : Int32))])) (fun t k => XS.iconst X8.here hx rfl (hb hby d2_54) k) ?_
  refine own_retN X8 hx hlk (t := .boolean) (w := (0 : Int32)) Bd.returns (by simp) (hb hby d2_55) rfl (by decide) (by decide) ?_
  exact ⟨rfl, N8, eq8⟩
theorem ef_rm3_distinct_distinct (m : MethodId) (x0 : Addr) (x1 : Addr) : entryFrame m #[(.ref x0), (.ref x1)] 3 = mkF m 0 #[.val (.ref x0), .val (.ref x1), .unset] [] := by first | (simp [entryFrame, mkF, argsToLocals, Value.category]; done) | rfl
def Qrm3_distinct_distinct (Z : State) (p0 : Addr) (p1 : Addr) (k0 : ClassId) (k1 : ClassId) (h0 : Heap) (n0 : Nat) (v : Option Value) (h : Heap) (L : List Loc) : Prop := v = some (.int (1 : Int32)) ∧ Fr n0 L ∧ h = h0
set_option maxRecDepth 65536 in
set_option maxHeartbeats 40000000 in
theorem rm3_distinct_distinct (l : Launch) (Z : State) (a0 : Array Value) (hw : ∀ d ∈ tables_1, d.before a0 Z = true) (ws : List Jvm.Cond) (p0 : Addr) (p1 : Addr) (k0 : ClassId) (k1 : ClassId) (h0 : Heap) (n0 : Nat) (Z0 : n0 ≤ h0.size) (V_p0 : Arv Z h0 p0 k0 .byte (8 : Int32) [(.int (100 : Int32)), (.int (105 : Int32)), (.int (115 : Int32)), (.int (116 : Int32)), (.int (105 : Int32)), (.int (110 : Int32)), (.int (99 : Int32)), (.int (116 : Int32))] (.int (0 : Int32))) (V_p1 : Arv Z h0 p1 k1 .byte (8 : Int32) [(.int (100 : Int32)), (.int (105 : Int32)), (.int (115 : Int32)), (.int (116 : Int32)), (.int (105 : Int32)), (.int (110 : Int32)), (.int (99 : Int32)), (.int (116 : Int32))] (.int (0 : Int32))) :
    MetFree l (⟨"java/lang/StringLatin1", "equals", "([B[B)Z"⟩ : MethodName) (head1 (Jvm.Cond.code (⟨"java/lang/StringLatin1", "equals", "([B[B)Z"⟩ : MethodName) jdk_43_method_13_code 3 (some .boolean) :: ws) ({ frames := 0, cells := 0, slots := 0, locals := 0 } : Room)) (fun a U => a = #[(.ref p0), (.ref p1)] ∧ Z.Warmed39 U.vm ∧ U.heap = h0) (fun _ _ _ _ _ => True) (fun _ U o U' => ∃ v L, o = .returned v ∧ Qrm3_distinct_distinct Z p0 p1 k0 k1 h0 n0 v U'.heap L ∧ FrameEnd U o U' L ({ frames := 0, cells := 0, slots := 0, locals := 0 } : Room).cells ({ frames := 0, cells := 0, slots := 0, locals := 0 } : Room).slots) := by
  refine MetFree.of_bodySF (plainFor_of_name pn_3) hisR ?_
  intro p e s m args below meth c s₁ Bd hml0 hP hK
  obtain ⟨rfl, hZ, hh⟩ := hP
  have hx := Bd.exec
  have hby := Bd.bytes
  have hlk : meth.locks = false := BodyLoose.notSynchronized Bd
  have hml : c.maxLocals = 3 := hml0
  have hown : s.vm.findClass "java/lang/StringLatin1" = some m.cls := findClass_of_methodNamed Bd.named
  have hnm := (name_of_methodNamed Bd.named Bd.method).1
  have X0 : Stand p l e ({ frames := 0, cells := 0, slots := 0, locals := 0 } : Room) s m #[(.ref p0), (.ref p1)] below meth c s₁ [] 0 0 := Stand.of_body Bd
  have e0 : s₁.heap = h0 := by rw [← hh, Bd.state]; rfl
  have N0 := Fr.nil n0
  have K0 : Keep h0 h0 [] := Keep.refl h0 []
  show own_G p e below s 0 0 (Qrm3_distinct_distinct Z p0 p1 k0 k1 h0 n0) s₁ (entryFrame m #[(.ref p0), (.ref p1)] 3)
  rw [ef_rm3_distinct_distinct m p0 p1]
  refine own_step (T' := s₁) (g' := (mkF m 1 #[.val (.ref p0), .val (.ref p1), .unset] [(.ref p0)])) (fun t k => XS.aloadN X0.here hx rfl (hb hby d3_0) rfl rfl k) ?_
  obtain ⟨cl1, Ar1, q1, Sz1, Nn1, Hh1, Gg1⟩ := id V_p0
  refine own_step (T' := s₁) (g' := (mkF m 2 #[.val (.ref p0), .val (.ref p1), .unset] [(.int (8 : Int32))])) (fun t k => X0.arraylength hx (by rw [e0]; exact Ar1.1) (State.isArrayOf_alike hZ.alike Ar1.2.1) (g := (mkF m 1 #[.val (.ref p0), .val (.ref p1), .unset] [(.ref p0)])) rfl rfl (hb hby d3_1) t (by rw [len_of Sz1 Nn1]; exact k)) ?_
  refine own_step (T' := s₁) (g' := (mkF m 3 #[.val (.ref p0), .val (.ref p1), .unset] [(.ref p1), (.int (8 : Int32))])) (fun t k => XS.aloadN X0.here hx rfl (hb hby d3_2) rfl rfl k) ?_
  obtain ⟨cl2, Ar2, q2, Sz2, Nn2, Hh2, Gg2⟩ := id V_p1
  refine own_step (T' := s₁) (g' := (mkF m 4 #[.val (.ref p0), .val (.ref p1), .unset] [(.int (8 : Int32)), (.int (8 : Int32))])) (fun t k => X0.arraylength hx (by rw [e0]; exact Ar2.1) (State.isArrayOf_alike hZ.alike Ar2.2.1) (g := (mkF m 3 #[.val (.ref p0), .val (.ref p1), .unset] [(.ref p1), (.int (8 : Int32))])) rfl rfl (hb hby d3_3) t (by rw [len_of Sz2 Nn2]; exact k)) ?_
  refine own_step (T' := s₁) (g' := (mkF m 7 #[.val (.ref p0), .val (.ref p1), .unset] [])) (fun t k => XS.icmpNo X0.here hx rfl (hb hby d3_4) rfl (teq (by decide : (8 : Int32) = (8 : Int32))).2 k) ?_
  refine own_step (T' := s₁) (g' := (mkF m 8 #[.val (.ref p0), .val (.ref p1), .unset] [(.int (0 : Int32))])) (fun t k => XS.iconst X0.here hx rfl (hb hby d3_7) k) ?_
  refine own_step (T' := s₁) (g' := (mkF m 9 #[.val (.ref p0), .val (.ref p1), .val (.int (0 : Int32))] [])) (fun t k => XS.istoreN X0.here hx rfl (hb hby d3_8) rfl (l' := #[.val (.ref p0), .val (.ref p1), .val (.int (0 : Int32))]) rfl k) ?_
  refine own_step (T' := s₁) (g' := (mkF m 10 #[.val (.ref p0), .val (.ref p1), .val (.int (0 : Int32))] [(.int (0 : Int32))])) (fun t k => XS.iloadN X0.here hx rfl (hb hby d3_9) rfl k) ?_
  refine own_step (T' := s₁) (g' := (mkF m 11 #[.val (.ref p0), .val (.ref p1), .val (.int (0 : Int32))] [(.ref p0), (.int (0 : Int32))])) (fun t k => XS.aloadN X0.here hx rfl (hb hby d3_10) rfl rfl k) ?_
  obtain ⟨cl3, Ar3, q3, Sz3, Nn3, Hh3, Gg3⟩ := id V_p0
  refine own_step (T' := s₁) (g' := (mkF m 12 #[.val (.ref p0), .val (.ref p1), .val (.int (0 : Int32))] [(.int (8 : Int32)), (.int (0 : Int32))])) (fun t k => X0.arraylength hx (by rw [e0]; exact Ar3.1) (State.isArrayOf_alike hZ.alike Ar3.2.1) (g := (mkF m 11 #[.val (.ref p0), .val (.ref p1), .val (.int (0 : Int32))] [(.ref p0), (.int (0 : Int32))])) rfl rfl (hb hby d3_11) t (by rw [len_of Sz3 Nn3]; exact k)) ?_
  refine own_step (T' := s₁) (g' := (mkF m 15 #[.val (.ref p0), .val (.ref p1), .val (.int (0 : Int32))] [])) (fun t k => XS.icmpNo X0.here hx rfl (hb hby d3_12) rfl (tlt (by decide : (0 : Int32) < (8 : Int32))).2.1 k) ?_
  refine own_step (T' := s₁) (g' := (mkF m 16 #[.val (.ref p0), .val (.ref p1), .val (.int (0 : Int32))] [(.ref p0)])) (fun t k => XS.aloadN X0.here hx rfl (hb hby d3_15) rfl rfl k) ?_
  refine own_step (T' := s₁) (g' := (mkF m 17 #[.val (.ref p0), .val (.ref p1), .val (.int (0 : Int32))] [(.int (0 : Int32)), (.ref p0)])) (fun t k => XS.iloadN X0.here hx rfl (hb hby d3_16) rfl k) ?_
  obtain ⟨cl4, Ar4, q4, Sz4, Nn4, Hh4, Gg4⟩ := id V_p0
  have hin4 : ¬ ((0 : Int32) < 0 ∨ cl4.slots.size ≤ ((0 : Int32)).toNatClampNeg) := inb_of Sz4 ⟨by decide, by decide⟩
  refine own_step (T' := s₁) (g' := (mkF m 18 #[.val (.ref p0), .val (.ref p1), .val (.int (0 : Int32))] [(.int (100 : Int32))])) (fun t k => X0.baloadBytes hx (j := (0 : Int32)) (v := (.int (100 : Int32))) (by rw [e0]; exact Ar4.1) (State.isArrayOf_alike hZ.alike Ar4.2.1) Ar4.2.2 hin4 (Has.at Hh4 hin4 rfl) (g := (mkF m 17 #[.val (.ref p0), .val (.ref p1), .val (.int (0 : Int32))] [(.int (0 : Int32)), (.ref p0)])) rfl rfl (hb hby d3_17) t k) ?_
  refine own_step (T' := s₁) (g' := (mkF m 19 #[.val (.ref p0), .val (.ref p1), .val (.int (0 : Int32))] [(.ref p1), (.int (100 : Int32))])) (fun t k => XS.aloadN X0.here hx rfl (hb hby d3_18) rfl rfl k) ?_
  refine own_step (T' := s₁) (g' := (mkF m 20 #[.val (.ref p0), .val (.ref p1), .val (.int (0 : Int32))] [(.int (0 : Int32)), (.ref p1), (.int (100 : Int32))])) (fun t k => XS.iloadN X0.here hx rfl (hb hby d3_19) rfl k) ?_
  obtain ⟨cl5, Ar5, q5, Sz5, Nn5, Hh5, Gg5⟩ := id V_p1
  have hin5 : ¬ ((0 : Int32) < 0 ∨ cl5.slots.size ≤ ((0 : Int32)).toNatClampNeg) := inb_of Sz5 ⟨by decide, by decide⟩
  refine own_step (T' := s₁) (g' := (mkF m 21 #[.val (.ref p0), .val (.ref p1), .val (.int (0 : Int32))] [(.int (100 : Int32)), (.int (100 : Int32))])) (fun t k => X0.baloadBytes hx (j := (0 : Int32)) (v := (.int (100 : Int32))) (by rw [e0]; exact Ar5.1) (State.isArrayOf_alike hZ.alike Ar5.2.1) Ar5.2.2 hin5 (Has.at Hh5 hin5 rfl) (g := (mkF m 20 #[.val (.ref p0), .val (.ref p1), .val (.int (0 : Int32))] [(.int (0 : Int32)), (.ref p1), (.int (100 : Int32))])) rfl rfl (hb hby d3_20) t k) ?_
  refine own_step (T' := s₁) (g' := (mkF m 26 #[.val (.ref p0), .val (.ref p1), .val (.int (0 : Int32))] [])) (fun t k => XS.icmpYes X0.here hx rfl (pc0 := 21) (pc' := 26) rfl (hb hby d3_21) rfl (teq (by decide : (100 : Int32) = (100 : Int32))).1 (by decide) (by decide) k) ?_
  refine own_step (T' := s₁) (g' := (mkF m 29 #[.val (.ref p0), .val (.ref p1), .val (.int (1 : Int32))] [])) (fun t k => XS.iinc X0.here hx rfl (hb hby d3_26) rfl (l' := #[.val (.ref p0), .val (.ref p1), .val (.int (1 : Int32))]) rfl k) ?_
  refine own_step (T' := s₁) (g' := (mkF m 9 #[.val (.ref p0), .val (.ref p1), .val (.int (1 : Int32))] [])) (fun t k => XS.goto X0.here hx rfl (pc0 := 29) (pc' := 9) rfl (hb hby d3_29) (by decide) (by decide) k) ?_
  refine own_step (T' := s₁) (g' := (mkF m 10 #[.val (.ref p0), .val (.ref p1), .val (.int (1 : Int32))] [(.int (1 : Int32))])) (fun t k => XS.iloadN X0.here hx rfl (hb hby d3_9) rfl k) ?_
  refine own_step (T' := s₁) (g' := (mkF m 11 #[.val (.ref p0), .val (.ref p1), .val (.int (1 : Int32))] [(.ref p0), (.int (1 : Int32))])) (fun t k => XS.aloadN X0.here hx rfl (hb hby d3_10) rfl rfl k) ?_
  obtain ⟨cl6, Ar6, q6, Sz6, Nn6, Hh6, Gg6⟩ := id V_p0
  refine own_step (T' := s₁) (g' := (mkF m 12 #[.val (.ref p0), .val (.ref p1), .val (.int (1 : Int32))] [(.int (8 : Int32)), (.int (1 : Int32))])) (fun t k => X0.arraylength hx (by rw [e0]; exact Ar6.1) (State.isArrayOf_alike hZ.alike Ar6.2.1) (g := (mkF m 11 #[.val (.ref p0), .val (.ref p1), .val (.int (1 : Int32))] [(.ref p0), (.int (1 : Int32))])) rfl rfl (hb hby d3_11) t (by rw [len_of Sz6 Nn6]; exact k)) ?_
  refine own_step (T' := s₁) (g' := (mkF m 15 #[.val (.ref p0), .val (.ref p1), .val (.int (1 : Int32))] [])) (fun t k => XS.icmpNo X0.here hx rfl (hb hby d3_12) rfl (tlt (by decide : (1 : Int32) < (8 : Int32))).2.1 k) ?_
  refine own_step (T' := s₁) (g' := (mkF m 16 #[.val (.ref p0), .val (.ref p1), .val (.int (1 : Int32))] [(.ref p0)])) (fun t k => XS.aloadN X0.here hx rfl (hb hby d3_15) rfl rfl k) ?_
  refine own_step (T' := s₁) (g' := (mkF m 17 #[.val (.ref p0), .val (.ref p1), .val (.int (1 : Int32))] [(.int (1 : Int32)), (.ref p0)])) (fun t k => XS.iloadN X0.here hx rfl (hb hby d3_16) rfl k) ?_
  obtain ⟨cl7, Ar7, q7, Sz7, Nn7, Hh7, Gg7⟩ := id V_p0
  have hin7 : ¬ ((1 : Int32) < 0 ∨ cl7.slots.size ≤ ((1 : Int32)).toNatClampNeg) := inb_of Sz7 ⟨by decide, by decide⟩
  refine own_step (T' := s₁) (g' := (mkF m 18 #[.val (.ref p0), .val (.ref p1), .val (.int (1 : Int32))] [(.int (105 : Int32))])) (fun t k => X0.baloadBytes hx (j := (1 : Int32)) (v := (.int (105 : Int32))) (by rw [e0]; exact Ar7.1) (State.isArrayOf_alike hZ.alike Ar7.2.1) Ar7.2.2 hin7 (Has.at Hh7 hin7 rfl) (g := (mkF m 17 #[.val (.ref p0), .val (.ref p1), .val (.int (1 : Int32))] [(.int (1 : Int32)), (.ref p0)])) rfl rfl (hb hby d3_17) t k) ?_
  refine own_step (T' := s₁) (g' := (mkF m 19 #[.val (.ref p0), .val (.ref p1), .val (.int (1 : Int32))] [(.ref p1), (.int (105 : Int32))])) (fun t k => XS.aloadN X0.here hx rfl (hb hby d3_18) rfl rfl k) ?_
  refine own_step (T' := s₁) (g' := (mkF m 20 #[.val (.ref p0), .val (.ref p1), .val (.int (1 : Int32))] [(.int (1 : Int32)), (.ref p1), (.int (105 : Int32))])) (fun t k => XS.iloadN X0.here hx rfl (hb hby d3_19) rfl k) ?_
  obtain ⟨cl8, Ar8, q8, Sz8, Nn8, Hh8, Gg8⟩ := id V_p1
  have hin8 : ¬ ((1 : Int32) < 0 ∨ cl8.slots.size ≤ ((1 : Int32)).toNatClampNeg) := inb_of Sz8 ⟨by decide, by decide⟩
  refine own_step (T' := s₁) (g' := (mkF m 21 #[.val (.ref p0), .val (.ref p1), .val (.int (1 : Int32))] [(.int (105 : Int32)), (.int (105 : Int32))])) (fun t k => X0.baloadBytes hx (j := (1 : Int32)) (v := (.int (105 : Int32))) (by rw [e0]; exact Ar8.1) (State.isArrayOf_alike hZ.alike Ar8.2.1) Ar8.2.2 hin8 (Has.at Hh8 hin8 rfl) (g := (mkF m 20 #[.val (.ref p0), .val (.ref p1), .val (.int (1 : Int32))] [(.int (1 : Int32)), (.ref p1), (.int (105 : Int32))])) rfl rfl (hb hby d3_20) t k) ?_
  refine own_step (T' := s₁) (g' := (mkF m 26 #[.val (.ref p0), .val (.ref p1), .val (.int (1 : Int32))] [])) (fun t k => XS.icmpYes X0.here hx rfl (pc0 := 21) (pc' := 26) rfl (hb hby d3_21) rfl (teq (by decide : (105 : Int32) = (105 : Int32))).1 (by decide) (by decide) k) ?_
  refine own_step (T' := s₁) (g' := (mkF m 29 #[.val (.ref p0), .val (.ref p1), .val (.int (2 : Int32))] [])) (fun t k => XS.iinc X0.here hx rfl (hb hby d3_26) rfl (l' := #[.val (.ref p0), .val (.ref p1), .val (.int (2 : Int32))]) rfl k) ?_
  refine own_step (T' := s₁) (g' := (mkF m 9 #[.val (.ref p0), .val (.ref p1), .val (.int (2 : Int32))] [])) (fun t k => XS.goto X0.here hx rfl (pc0 := 29) (pc' := 9) rfl (hb hby d3_29) (by decide) (by decide) k) ?_
  refine own_step (T' := s₁) (g' := (mkF m 10 #[.val (.ref p0), .val (.ref p1), .val (.int (2 : Int32))] [(.int (2 : Int32))])) (fun t k => XS.iloadN X0.here hx rfl (hb hby d3_9) rfl k) ?_
  refine own_step (T' := s₁) (g' := (mkF m 11 #[.val (.ref p0), .val (.ref p1), .val (.int (2 : Int32))] [(.ref p0), (.int (2 : Int32))])) (fun t k => XS.aloadN X0.here hx rfl (hb hby d3_10) rfl rfl k) ?_
  obtain ⟨cl9, Ar9, q9, Sz9, Nn9, Hh9, Gg9⟩ := id V_p0
  refine own_step (T' := s₁) (g' := (mkF m 12 #[.val (.ref p0), .val (.ref p1), .val (.int (2 : Int32))] [(.int (8 : Int32)), (.int (2 : Int32))])) (fun t k => X0.arraylength hx (by rw [e0]; exact Ar9.1) (State.isArrayOf_alike hZ.alike Ar9.2.1) (g := (mkF m 11 #[.val (.ref p0), .val (.ref p1), .val (.int (2 : Int32))] [(.ref p0), (.int (2 : Int32))])) rfl rfl (hb hby d3_11) t (by rw [len_of Sz9 Nn9]; exact k)) ?_
  refine own_step (T' := s₁) (g' := (mkF m 15 #[.val (.ref p0), .val (.ref p1), .val (.int (2 : Int32))] [])) (fun t k => XS.icmpNo X0.here hx rfl (hb hby d3_12) rfl (tlt (by decide : (2 : Int32) < (8 : Int32))).2.1 k) ?_
  refine own_step (T' := s₁) (g' := (mkF m 16 #[.val (.ref p0), .val (.ref p1), .val (.int (2 : Int32))] [(.ref p0)])) (fun t k => XS.aloadN X0.here hx rfl (hb hby d3_15) rfl rfl k) ?_
  refine own_step (T' := s₁) (g' := (mkF m 17 #[.val (.ref p0), .val (.ref p1), .val (.int (2 : Int32))] [(.int (2 : Int32)), (.ref p0)])) (fun t k => XS.iloadN X0.here hx rfl (hb hby d3_16) rfl k) ?_
  obtain ⟨cl10, Ar10, q10, Sz10, Nn10, Hh10, Gg10⟩ := id V_p0
  have hin10 : ¬ ((2 : Int32) < 0 ∨ cl10.slots.size ≤ ((2 : Int32)).toNatClampNeg) := inb_of Sz10 ⟨by decide, by decide⟩
  refine own_step (T' := s₁) (g' := (mkF m 18 #[.val (.ref p0), .val (.ref p1), .val (.int (2 : Int32))] [(.int (115 : Int32))])) (fun t k => X0.baloadBytes hx (j := (2 : Int32)) (v := (.int (115 : Int32))) (by rw [e0]; exact Ar10.1) (State.isArrayOf_alike hZ.alike Ar10.2.1) Ar10.2.2 hin10 (Has.at Hh10 hin10 rfl) (g := (mkF m 17 #[.val (.ref p0), .val (.ref p1), .val (.int (2 : Int32))] [(.int (2 : Int32)), (.ref p0)])) rfl rfl (hb hby d3_17) t k) ?_
  refine own_step (T' := s₁) (g' := (mkF m 19 #[.val (.ref p0), .val (.ref p1), .val (.int (2 : Int32))] [(.ref p1), (.int (115 : Int32))])) (fun t k => XS.aloadN X0.here hx rfl (hb hby d3_18) rfl rfl k) ?_
  refine own_step (T' := s₁) (g' := (mkF m 20 #[.val (.ref p0), .val (.ref p1), .val (.int (2 : Int32))] [(.int (2 : Int32)), (.ref p1), (.int (115 : Int32))])) (fun t k => XS.iloadN X0.here hx rfl (hb hby d3_19) rfl k) ?_
  obtain ⟨cl11, Ar11, q11, Sz11, Nn11, Hh11, Gg11⟩ := id V_p1
  have hin11 : ¬ ((2 : Int32) < 0 ∨ cl11.slots.size ≤ ((2 : Int32)).toNatClampNeg) := inb_of Sz11 ⟨by decide, by decide⟩
  refine own_step (T' := s₁) (g' := (mkF m 21 #[.val (.ref p0), .val (.ref p1), .val (.int (2 : Int32))] [(.int (115 : Int32)), (.int (115 : Int32))])) (fun t k => X0.baloadBytes hx (j := (2 : Int32)) (v := (.int (115 : Int32))) (by rw [e0]; exact Ar11.1) (State.isArrayOf_alike hZ.alike Ar11.2.1) Ar11.2.2 hin11 (Has.at Hh11 hin11 rfl) (g := (mkF m 20 #[.val (.ref p0), .val (.ref p1), .val (.int (2 : Int32))] [(.int (2 : Int32)), (.ref p1), (.int (115 : Int32))])) rfl rfl (hb hby d3_20) t k) ?_
  refine own_step (T' := s₁) (g' := (mkF m 26 #[.val (.ref p0), .val (.ref p1), .val (.int (2 : Int32))] [])) (fun t k => XS.icmpYes X0.here hx rfl (pc0 := 21) (pc' := 26) rfl (hb hby d3_21) rfl (teq (by decide : (115 : Int32) = (115 : Int32))).1 (by decide) (by decide) k) ?_
  refine own_step (T' := s₁) (g' := (mkF m 29 #[.val (.ref p0), .val (.ref p1), .val (.int (3 : Int32))] [])) (fun t k => XS.iinc X0.here hx rfl (hb hby d3_26) rfl (l' := #[.val (.ref p0), .val (.ref p1), .val (.int (3 : Int32))]) rfl k) ?_
  refine own_step (T' := s₁) (g' := (mkF m 9 #[.val (.ref p0), .val (.ref p1), .val (.int (3 : Int32))] [])) (fun t k => XS.goto X0.here hx rfl (pc0 := 29) (pc' := 9) rfl (hb hby d3_29) (by decide) (by decide) k) ?_
  refine own_step (T' := s₁) (g' := (mkF m 10 #[.val (.ref p0), .val (.ref p1), .val (.int (3 : Int32))] [(.int (3 : Int32))])) (fun t k => XS.iloadN X0.here hx rfl (hb hby d3_9) rfl k) ?_
  refine own_step (T' := s₁) (g' := (mkF m 11 #[.val (.ref p0), .val (.ref p1), .val (.int (3 : Int32))] [(.ref p0), (.int (3 : Int32))])) (fun t k => XS.aloadN X0.here hx rfl (hb hby d3_10) rfl rfl k) ?_
  obtain ⟨cl12, Ar12, q12, Sz12, Nn12, Hh12, Gg12⟩ := id V_p0
  refine own_step (T' := s₁) (g' := (mkF m 12 #[.val (.ref p0), .val (.ref p1), .val (.int (3 : Int32))] [(.int (8 : Int32)), (.int (3 : Int32))])) (fun t k => X0.arraylength hx (by rw [e0]; exact Ar12.1) (State.isArrayOf_alike hZ.alike Ar12.2.1) (g := (mkF m 11 #[.val (.ref p0), .val (.ref p1), .val (.int (3 : Int32))] [(.ref p0), (.int (3 : Int32))])) rfl rfl (hb hby d3_11) t (by rw [len_of Sz12 Nn12]; exact k)) ?_
  refine own_step (T' := s₁) (g' := (mkF m 15 #[.val (.ref p0), .val (.ref p1), .val (.int (3 : Int32))] [])) (fun t k => XS.icmpNo X0.here hx rfl (hb hby d3_12) rfl (tlt (by decide : (3 : Int32) < (8 : Int32))).2.1 k) ?_
  refine own_step (T' := s₁) (g' := (mkF m 16 #[.val (.ref p0), .val (.ref p1), .val (.int (3 : Int32))] [(.ref p0)])) (fun t k => XS.aloadN X0.here hx rfl (hb hby d3_15) rfl rfl k) ?_
  refine own_step (T' := s₁) (g' := (mkF m 17 #[.val (.ref p0), .val (.ref p1), .val (.int (3 : Int32))] [(.int (3 : Int32)), (.ref p0)])) (fun t k => XS.iloadN X0.here hx rfl (hb hby d3_16) rfl k) ?_
  obtain ⟨cl13, Ar13, q13, Sz13, Nn13, Hh13, Gg13⟩ := id V_p0
  have hin13 : ¬ ((3 : Int32) < 0 ∨ cl13.slots.size ≤ ((3 : Int32)).toNatClampNeg) := inb_of Sz13 ⟨by decide, by decide⟩
  refine own_step (T' := s₁) (g' := (mkF m 18 #[.val (.ref p0), .val (.ref p1), .val (.int (3 : Int32))] [(.int (116 : Int32))])) (fun t k => X0.baloadBytes hx (j := (3 : Int32)) (v := (.int (116 : Int32))) (by rw [e0]; exact Ar13.1) (State.isArrayOf_alike hZ.alike Ar13.2.1) Ar13.2.2 hin13 (Has.at Hh13 hin13 rfl) (g := (mkF m 17 #[.val (.ref p0), .val (.ref p1), .val (.int (3 : Int32))] [(.int (3 : Int32)), (.ref p0)])) rfl rfl (hb hby d3_17) t k) ?_
  refine own_step (T' := s₁) (g' := (mkF m 19 #[.val (.ref p0), .val (.ref p1), .val (.int (3 : Int32))] [(.ref p1), (.int (116 : Int32))])) (fun t k => XS.aloadN X0.here hx rfl (hb hby d3_18) rfl rfl k) ?_
  refine own_step (T' := s₁) (g' := (mkF m 20 #[.val (.ref p0), .val (.ref p1), .val (.int (3 : Int32))] [(.int (3 : Int32)), (.ref p1), (.int (116 : Int32))])) (fun t k => XS.iloadN X0.here hx rfl (hb hby d3_19) rfl k) ?_
  obtain ⟨cl14, Ar14, q14, Sz14, Nn14, Hh14, Gg14⟩ := id V_p1
  have hin14 : ¬ ((3 : Int32) < 0 ∨ cl14.slots.size ≤ ((3 : Int32)).toNatClampNeg) := inb_of Sz14 ⟨by decide, by decide⟩
  refine own_step (T' := s₁) (g' := (mkF m 21 #[.val (.ref p0), .val (.ref p1), .val (.int (3 : Int32))] [(.int (116 : Int32)), (.int (116 : Int32))])) (fun t k => X0.baloadBytes hx (j := (3 : Int32)) (v := (.int (116 : Int32))) (by rw [e0]; exact Ar14.1) (State.isArrayOf_alike hZ.alike Ar14.2.1) Ar14.2.2 hin14 (Has.at Hh14 hin14 rfl) (g := (mkF m 20 #[.val (.ref p0), .val (.ref p1), .val (.int (3 : Int32))] [(.int (3 : Int32)), (.ref p1), (.int (116 : Int32))])) rfl rfl (hb hby d3_20) t k) ?_
  refine own_step (T' := s₁) (g' := (mkF m 26 #[.val (.ref p0), .val (.ref p1), .val (.int (3 : Int32))] [])) (fun t k => XS.icmpYes X0.here hx rfl (pc0 := 21) (pc' := 26) rfl (hb hby d3_21) rfl (teq (by decide : (116 : Int32) = (116 : Int32))).1 (by decide) (by decide) k) ?_
  refine own_step (T' := s₁) (g' := (mkF m 29 #[.val (.ref p0), .val (.ref p1), .val (.int (4 : Int32))] [])) (fun t k => XS.iinc X0.here hx rfl (hb hby d3_26) rfl (l' := #[.val (.ref p0), .val (.ref p1), .val (.int (4 : Int32))]) rfl k) ?_
  refine own_step (T' := s₁) (g' := (mkF m 9 #[.val (.ref p0), .val (.ref p1), .val (.int (4 : Int32))] [])) (fun t k => XS.goto X0.here hx rfl (pc0 := 29) (pc' := 9) rfl (hb hby d3_29) (by decide) (by decide) k) ?_
  refine own_step (T' := s₁) (g' := (mkF m 10 #[.val (.ref p0), .val (.ref p1), .val (.int (4 : Int32))] [(.int (4 : Int32))])) (fun t k => XS.iloadN X0.here hx rfl (hb hby d3_9) rfl k) ?_
  refine own_step (T' := s₁) (g' := (mkF m 11 #[.val (.ref p0), .val (.ref p1), .val (.int (4 : Int32))] [(.ref p0), (.int (4 : Int32))])) (fun t k => XS.aloadN X0.here hx rfl (hb hby d3_10) rfl rfl k) ?_
  obtain ⟨cl15, Ar15, q15, Sz15, Nn15, Hh15, Gg15⟩ := id V_p0
  refine own_step (T' := s₁) (g' := (mkF m 12 #[.val (.ref p0), .val (.ref p1), .val (.int (4 : Int32))] [(.int (8 : Int32)), (.int (4 : Int32))])) (fun t k => X0.arraylength hx (by rw [e0]; exact Ar15.1) (State.isArrayOf_alike hZ.alike Ar15.2.1) (g := (mkF m 11 #[.val (.ref p0), .val (.ref p1), .val (.int (4 : Int32))] [(.ref p0), (.int (4 : Int32))])) rfl rfl (hb hby d3_11) t (by rw [len_of Sz15 Nn15]; exact k)) ?_
  refine own_step (T' := s₁) (g' := (mkF m 15 #[.val (.ref p0), .val (.ref p1), .val (.int (4 : Int32))] [])) (fun t k => XS.icmpNo X0.here hx rfl (hb hby d3_12) rfl (tlt (by decide : (4 : Int32) < (8 : Int32))).2.1 k) ?_
  refine own_step (T' := s₁) (g' := (mkF m 16 #[.val (.ref p0), .val (.ref p1), .val (.int (4 : Int32))] [(.ref p0)])) (fun t k => XS.aloadN X0.here hx rfl (hb hby d3_15) rfl rfl k) ?_
  refine own_step (T' := s₁) (g' := (mkF m 17 #[.val (.ref p0), .val (.ref p1), .val (.int (4 : Int32))] [(.int (4 : Int32)), (.ref p0)])) (fun t k => XS.iloadN X0.here hx rfl (hb hby d3_16) rfl k) ?_
  obtain ⟨cl16, Ar16, q16, Sz16, Nn16, Hh16, Gg16⟩ := id V_p0
  have hin16 : ¬ ((4 : Int32) < 0 ∨ cl16.slots.size ≤ ((4 : Int32)).toNatClampNeg) := inb_of Sz16 ⟨by decide, by decide⟩
  refine own_step (T' := s₁) (g' := (mkF m 18 #[.val (.ref p0), .val (.ref p1), .val (.int (4 : Int32))] [(.int (105 : Int32))])) (fun t k => X0.baloadBytes hx (j := (4 : Int32)) (v := (.int (105 : Int32))) (by rw [e0]; exact Ar16.1) (State.isArrayOf_alike hZ.alike Ar16.2.1) Ar16.2.2 hin16 (Has.at Hh16 hin16 rfl) (g := (mkF m 17 #[.val (.ref p0), .val (.ref p1), .val (.int (4 : Int32))] [(.int (4 : Int32)), (.ref p0)])) rfl rfl (hb hby d3_17) t k) ?_
  refine own_step (T' := s₁) (g' := (mkF m 19 #[.val (.ref p0), .val (.ref p1), .val (.int (4 : Int32))] [(.ref p1), (.int (105 : Int32))])) (fun t k => XS.aloadN X0.here hx rfl (hb hby d3_18) rfl rfl k) ?_
  refine own_step (T' := s₁) (g' := (mkF m 20 #[.val (.ref p0), .val (.ref p1), .val (.int (4 : Int32))] [(.int (4 : Int32)), (.ref p1), (.int (105 : Int32))])) (fun t k => XS.iloadN X0.here hx rfl (hb hby d3_19) rfl k) ?_
  obtain ⟨cl17, Ar17, q17, Sz17, Nn17, Hh17, Gg17⟩ := id V_p1
  have hin17 : ¬ ((4 : Int32) < 0 ∨ cl17.slots.size ≤ ((4 : Int32)).toNatClampNeg) := inb_of Sz17 ⟨by decide, by decide⟩
  refine own_step (T' := s₁) (g' := (mkF m 21 #[.val (.ref p0), .val (.ref p1), .val (.int (4 : Int32))] [(.int (105 : Int32)), (.int (105 : Int32))])) (fun t k => X0.baloadBytes hx (j := (4 : Int32)) (v := (.int (105 : Int32))) (by rw [e0]; exact Ar17.1) (State.isArrayOf_alike hZ.alike Ar17.2.1) Ar17.2.2 hin17 (Has.at Hh17 hin17 rfl) (g := (mkF m 20 #[.val (.ref p0), .val (.ref p1), .val (.int (4 : Int32))] [(.int (4 : Int32)), (.ref p1), (.int (105 : Int32))])) rfl rfl (hb hby d3_20) t k) ?_
  refine own_step (T' := s₁) (g' := (mkF m 26 #[.val (.ref p0), .val (.ref p1), .val (.int (4 : Int32))] [])) (fun t k => XS.icmpYes X0.here hx rfl (pc0 := 21) (pc' := 26) rfl (hb hby d3_21) rfl (teq (by decide : (105 : Int32) = (105 : Int32))).1 (by decide) (by decide) k) ?_
  refine own_step (T' := s₁) (g' := (mkF m 29 #[.val (.ref p0), .val (.ref p1), .val (.int (5 : Int32))] [])) (fun t k => XS.iinc X0.here hx rfl (hb hby d3_26) rfl (l' := #[.val (.ref p0), .val (.ref p1), .val (.int (5 : Int32))]) rfl k) ?_
  refine own_step (T' := s₁) (g' := (mkF m 9 #[.val (.ref p0), .val (.ref p1), .val (.int (5 : Int32))] [])) (fun t k => XS.goto X0.here hx rfl (pc0 := 29) (pc' := 9) rfl (hb hby d3_29) (by decide) (by decide) k) ?_
  refine own_step (T' := s₁) (g' := (mkF m 10 #[.val (.ref p0), .val (.ref p1), .val (.int (5 : Int32))] [(.int (5 : Int32))])) (fun t k => XS.iloadN X0.here hx rfl (hb hby d3_9) rfl k) ?_
  refine own_step (T' := s₁) (g' := (mkF m 11 #[.val (.ref p0), .val (.ref p1), .val (.int (5 : Int32))] [(.ref p0), (.int (5 : Int32))])) (fun t k => XS.aloadN X0.here hx rfl (hb hby d3_10) rfl rfl k) ?_
  obtain ⟨cl18, Ar18, q18, Sz18, Nn18, Hh18, Gg18⟩ := id V_p0
  refine own_step (T' := s₁) (g' := (mkF m 12 #[.val (.ref p0), .val (.ref p1), .val (.int (5 : Int32))] [(.int (8 : Int32)), (.int (5 : Int32))])) (fun t k => X0.arraylength hx (by rw [e0]; exact Ar18.1) (State.isArrayOf_alike hZ.alike Ar18.2.1) (g := (mkF m 11 #[.val (.ref p0), .val (.ref p1), .val (.int (5 : Int32))] [(.ref p0), (.int (5 : Int32))])) rfl rfl (hb hby d3_11) t (by rw [len_of Sz18 Nn18]; exact k)) ?_
  refine own_step (T' := s₁) (g' := (mkF m 15 #[.val (.ref p0), .val (.ref p1), .val (.int (5 : Int32))] [])) (fun t k => XS.icmpNo X0.here hx rfl (hb hby d3_12) rfl (tlt (by decide : (5 : Int32) < (8 : Int32))).2.1 k) ?_
  refine own_step (T' := s₁) (g' := (mkF m 16 #[.val (.ref p0), .val (.ref p1), .val (.int (5 : Int32))] [(.ref p0)])) (fun t k => XS.aloadN X0.here hx rfl (hb hby d3_15) rfl rfl k) ?_
  refine own_step (T' := s₁) (g' := (mkF m 17 #[.val (.ref p0), .val (.ref p1), .val (.int (5 : Int32))] [(.int (5 : Int32)), (.ref p0)])) (fun t k => XS.iloadN X0.here hx rfl (hb hby d3_16) rfl k) ?_
  obtain ⟨cl19, Ar19, q19, Sz19, Nn19, Hh19, Gg19⟩ := id V_p0
  have hin19 : ¬ ((5 : Int32) < 0 ∨ cl19.slots.size ≤ ((5 : Int32)).toNatClampNeg) := inb_of Sz19 ⟨by decide, by decide⟩
  refine own_step (T' := s₁) (g' := (mkF m 18 #[.val (.ref p0), .val (.ref p1), .val (.int (5 : Int32))] [(.int (110 : Int32))])) (fun t k => X0.baloadBytes hx (j := (5 : Int32)) (v := (.int (110 : Int32))) (by rw [e0]; exact Ar19.1) (State.isArrayOf_alike hZ.alike Ar19.2.1) Ar19.2.2 hin19 (Has.at Hh19 hin19 rfl) (g := (mkF m 17 #[.val (.ref p0), .val (.ref p1), .val (.int (5 : Int32))] [(.int (5 : Int32)), (.ref p0)])) rfl rfl (hb hby d3_17) t k) ?_
  refine own_step (T' := s₁) (g' := (mkF m 19 #[.val (.ref p0), .val (.ref p1), .val (.int (5 : Int32))] [(.ref p1), (.int (110 : Int32))])) (fun t k => XS.aloadN X0.here hx rfl (hb hby d3_18) rfl rfl k) ?_
  refine own_step (T' := s₁) (g' := (mkF m 20 #[.val (.ref p0), .val (.ref p1), .val (.int (5 : Int32))] [(.int (5 : Int32)), (.ref p1), (.int (110 : Int32))])) (fun t k => XS.iloadN X0.here hx rfl (hb hby d3_19) rfl k) ?_
  obtain ⟨cl20, Ar20, q20, Sz20, Nn20, Hh20, Gg20⟩ := id V_p1
  have hin20 : ¬ ((5 : Int32) < 0 ∨ cl20.slots.size ≤ ((5 : Int32)).toNatClampNeg) := inb_of Sz20 ⟨by decide, by decide⟩
  refine own_step (T' := s₁) (g' := (mkF m 21 #[.val (.ref p0), .val (.ref p1), .val (.int (5 : Int32))] [(.int (110 : Int32)), (.int (110 : Int32))])) (fun t k => X0.baloadBytes hx (j := (5 : Int32)) (v := (.int (110 : Int32))) (by rw [e0]; exact Ar20.1) (State.isArrayOf_alike hZ.alike Ar20.2.1) Ar20.2.2 hin20 (Has.at Hh20 hin20 rfl) (g := (mkF m 20 #[.val (.ref p0), .val (.ref p1), .val (.int (5 : Int32))] [(.int (5 : Int32)), (.ref p1), (.int (110 : Int32))])) rfl rfl (hb hby d3_20) t k) ?_
  refine own_step (T' := s₁) (g' := (mkF m 26 #[.val (.ref p0), .val (.ref p1), .val (.int (5 : Int32))] [])) (fun t k => XS.icmpYes X0.here hx rfl (pc0 := 21) (pc' := 26) rfl (hb hby d3_21) rfl (teq (by decide : (110 : Int32) = (110 : Int32))).1 (by decide) (by decide) k) ?_
  refine own_step (T' := s₁) (g' := (mkF m 29 #[.val (.ref p0), .val (.ref p1), .val (.int (6 : Int32))] [])) (fun t k => XS.iinc X0.here hx rfl (hb hby d3_26) rfl (l' := #[.val (.ref p0), .val (.ref p1), .val (.int (6 : Int32))]) rfl k) ?_
  refine own_step (T' := s₁) (g' := (mkF m 9 #[.val (.ref p0), .val (.ref p1), .val (.int (6 : Int32))] [])) (fun t k => XS.goto X0.here hx rfl (pc0 := 29) (pc' := 9) rfl (hb hby d3_29) (by decide) (by decide) k) ?_
  refine own_step (T' := s₁) (g' := (mkF m 10 #[.val (.ref p0), .val (.ref p1), .val (.int (6 : Int32))] [(.int (6 : Int32))])) (fun t k => XS.iloadN X0.here hx rfl (hb hby d3_9) rfl k) ?_
  refine own_step (T' := s₁) (g' := (mkF m 11 #[.val (.ref p0), .val (.ref p1), .val (.int (6 : Int32))] [(.ref p0), (.int (6 : Int32))])) (fun t k => XS.aloadN X0.here hx rfl (hb hby d3_10) rfl rfl k) ?_
  obtain ⟨cl21, Ar21, q21, Sz21, Nn21, Hh21, Gg21⟩ := id V_p0
  refine own_step (T' := s₁) (g' := (mkF m 12 #[.val (.ref p0), .val (.ref p1), .val (.int (6 : Int32))] [(.int (8 : Int32)), (.int (6 : Int32))])) (fun t k => X0.arraylength hx (by rw [e0]; exact Ar21.1) (State.isArrayOf_alike hZ.alike Ar21.2.1) (g := (mkF m 11 #[.val (.ref p0), .val (.ref p1), .val (.int (6 : Int32))] [(.ref p0), (.int (6 : Int32))])) rfl rfl (hb hby d3_11) t (by rw [len_of Sz21 Nn21]; exact k)) ?_
  refine own_step (T' := s₁) (g' := (mkF m 15 #[.val (.ref p0), .val (.ref p1), .val (.int (6 : Int32))] [])) (fun t k => XS.icmpNo X0.here hx rfl (hb hby d3_12) rfl (tlt (by decide : (6 : Int32) < (8 : Int32))).2.1 k) ?_
  refine own_step (T' := s₁) (g' := (mkF m 16 #[.val (.ref p0), .val (.ref p1), .val (.int (6 : Int32))] [(.ref p0)])) (fun t k => XS.aloadN X0.here hx rfl (hb hby d3_15) rfl rfl k) ?_
  refine own_step (T' := s₁) (g' := (mkF m 17 #[.val (.ref p0), .val (.ref p1), .val (.int (6 : Int32))] [(.int (6 : Int32)), (.ref p0)])) (fun t k => XS.iloadN X0.here hx rfl (hb hby d3_16) rfl k) ?_
  obtain ⟨cl22, Ar22, q22, Sz22, Nn22, Hh22, Gg22⟩ := id V_p0
  have hin22 : ¬ ((6 : Int32) < 0 ∨ cl22.slots.size ≤ ((6 : Int32)).toNatClampNeg) := inb_of Sz22 ⟨by decide, by decide⟩
  refine own_step (T' := s₁) (g' := (mkF m 18 #[.val (.ref p0), .val (.ref p1), .val (.int (6 : Int32))] [(.int (99 : Int32))])) (fun t k => X0.baloadBytes hx (j := (6 : Int32)) (v := (.int (99 : Int32))) (by rw [e0]; exact Ar22.1) (State.isArrayOf_alike hZ.alike Ar22.2.1) Ar22.2.2 hin22 (Has.at Hh22 hin22 rfl) (g := (mkF m 17 #[.val (.ref p0), .val (.ref p1), .val (.int (6 : Int32))] [(.int (6 : Int32)), (.ref p0)])) rfl rfl (hb hby d3_17) t k) ?_
  refine own_step (T' := s₁) (g' := (mkF m 19 #[.val (.ref p0), .val (.ref p1), .val (.int (6 : Int32))] [(.ref p1), (.int (99 : Int32))])) (fun t k => XS.aloadN X0.here hx rfl (hb hby d3_18) rfl rfl k) ?_
  refine own_step (T' := s₁) (g' := (mkF m 20 #[.val (.ref p0), .val (.ref p1), .val (.int (6 : Int32))] [(.int (6 : Int32)), (.ref p1), (.int (99 : Int32))])) (fun t k => XS.iloadN X0.here hx rfl (hb hby d3_19) rfl k) ?_
  obtain ⟨cl23, Ar23, q23, Sz23, Nn23, Hh23, Gg23⟩ := id V_p1
  have hin23 : ¬ ((6 : Int32) < 0 ∨ cl23.slots.size ≤ ((6 : Int32)).toNatClampNeg) := inb_of Sz23 ⟨by decide, by decide⟩
  refine own_step (T' := s₁) (g' := (mkF m 21 #[.val (.ref p0), .val (.ref p1), .val (.int (6 : Int32))] [(.int (99 : Int32)), (.int (99 : Int32))])) (fun t k => X0.baloadBytes hx (j := (6 : Int32)) (v := (.int (99 : Int32))) (by rw [e0]; exact Ar23.1) (State.isArrayOf_alike hZ.alike Ar23.2.1) Ar23.2.2 hin23 (Has.at Hh23 hin23 rfl) (g := (mkF m 20 #[.val (.ref p0), .val (.ref p1), .val (.int (6 : Int32))] [(.int (6 : Int32)), (.ref p1), (.int (99 : Int32))])) rfl rfl (hb hby d3_20) t k) ?_
  refine own_step (T' := s₁) (g' := (mkF m 26 #[.val (.ref p0), .val (.ref p1), .val (.int (6 : Int32))] [])) (fun t k => XS.icmpYes X0.here hx rfl (pc0 := 21) (pc' := 26) rfl (hb hby d3_21) rfl (teq (by decide : (99 : Int32) = (99 : Int32))).1 (by decide) (by decide) k) ?_
  refine own_step (T' := s₁) (g' := (mkF m 29 #[.val (.ref p0), .val (.ref p1), .val (.int (7 : Int32))] [])) (fun t k => XS.iinc X0.here hx rfl (hb hby d3_26) rfl (l' := #[.val (.ref p0), .val (.ref p1), .val (.int (7 : Int32))]) rfl k) ?_
  refine own_step (T' := s₁) (g' := (mkF m 9 #[.val (.ref p0), .val (.ref p1), .val (.int (7 : Int32))] [])) (fun t k => XS.goto X0.here hx rfl (pc0 := 29) (pc' := 9) rfl (hb hby d3_29) (by decide) (by decide) k) ?_
  refine own_step (T' := s₁) (g' := (mkF m 10 #[.val (.ref p0), .val (.ref p1), .val (.int (7 : Int32))] [(.int (7 : Int32))])) (fun t k => XS.iloadN X0.here hx rfl (hb hby d3_9) rfl k) ?_
  refine own_step (T' := s₁) (g' := (mkF m 11 #[.val (.ref p0), .val (.ref p1), .val (.int (7 : Int32))] [(.ref p0), (.int (7 : Int32))])) (fun t k => XS.aloadN X0.here hx rfl (hb hby d3_10) rfl rfl k) ?_
  obtain ⟨cl24, Ar24, q24, Sz24, Nn24, Hh24, Gg24⟩ := id V_p0
  refine own_step (T' := s₁) (g' := (mkF m 12 #[.val (.ref p0), .val (.ref p1), .val (.int (7 : Int32))] [(.int (8 : Int32)), (.int (7 : Int32))])) (fun t k => X0.arraylength hx (by rw [e0]; exact Ar24.1) (State.isArrayOf_alike hZ.alike Ar24.2.1) (g := (mkF m 11 #[.val (.ref p0), .val (.ref p1), .val (.int (7 : Int32))] [(.ref p0), (.int (7 : Int32))])) rfl rfl (hb hby d3_11) t (by rw [len_of Sz24 Nn24]; exact k)) ?_
  refine own_step (T' := s₁) (g' := (mkF m 15 #[.val (.ref p0), .val (.ref p1), .val (.int (7 : Int32))] [])) (fun t k => XS.icmpNo X0.here hx rfl (hb hby d3_12) rfl (tlt (by decide : (7 : Int32) < (8 : Int32))).2.1 k) ?_
  refine own_step (T' := s₁) (g' := (mkF m 16 #[.val (.ref p0), .val (.ref p1), .val (.int (7 : Int32))] [(.ref p0)])) (fun t k => XS.aloadN X0.here hx rfl (hb hby d3_15) rfl rfl k) ?_
  refine own_step (T' := s₁) (g' := (mkF m 17 #[.val (.ref p0), .val (.ref p1), .val (.int (7 : Int32))] [(.int (7 : Int32)), (.ref p0)])) (fun t k => XS.iloadN X0.here hx rfl (hb hby d3_16) rfl k) ?_
  obtain ⟨cl25, Ar25, q25, Sz25, Nn25, Hh25, Gg25⟩ := id V_p0
  have hin25 : ¬ ((7 : Int32) < 0 ∨ cl25.slots.size ≤ ((7 : Int32)).toNatClampNeg) := inb_of Sz25 ⟨by decide, by decide⟩
  refine own_step (T' := s₁) (g' := (mkF m 18 #[.val (.ref p0), .val (.ref p1), .val (.int (7 : Int32))] [(.int (116 : Int32))])) (fun t k => X0.baloadBytes hx (j := (7 : Int32)) (v := (.int (116 : Int32))) (by rw [e0]; exact Ar25.1) (State.isArrayOf_alike hZ.alike Ar25.2.1) Ar25.2.2 hin25 (Has.at Hh25 hin25 rfl) (g := (mkF m 17 #[.val (.ref p0), .val (.ref p1), .val (.int (7 : Int32))] [(.int (7 : Int32)), (.ref p0)])) rfl rfl (hb hby d3_17) t k) ?_
  refine own_step (T' := s₁) (g' := (mkF m 19 #[.val (.ref p0), .val (.ref p1), .val (.int (7 : Int32))] [(.ref p1), (.int (116 : Int32))])) (fun t k => XS.aloadN X0.here hx rfl (hb hby d3_18) rfl rfl k) ?_
  refine own_step (T' := s₁) (g' := (mkF m 20 #[.val (.ref p0), .val (.ref p1), .val (.int (7 : Int32))] [(.int (7 : Int32)), (.ref p1), (.int (116 : Int32))])) (fun t k => XS.iloadN X0.here hx rfl (hb hby d3_19) rfl k) ?_
  obtain ⟨cl26, Ar26, q26, Sz26, Nn26, Hh26, Gg26⟩ := id V_p1
  have hin26 : ¬ ((7 : Int32) < 0 ∨ cl26.slots.size ≤ ((7 : Int32)).toNatClampNeg) := inb_of Sz26 ⟨by decide, by decide⟩
  refine own_step (T' := s₁) (g' := (mkF m 21 #[.val (.ref p0), .val (.ref p1), .val (.int (7 : Int32))] [(.int (116 : Int32)), (.int (116 : Int32))])) (fun t k => X0.baloadBytes hx (j := (7 : Int32)) (v := (.int (116 : Int32))) (by rw [e0]; exact Ar26.1) (State.isArrayOf_alike hZ.alike Ar26.2.1) Ar26.2.2 hin26 (Has.at Hh26 hin26 rfl) (g := (mkF m 20 #[.val (.ref p0), .val (.ref p1), .val (.int (7 : Int32))] [(.int (7 : Int32)), (.ref p1), (.int (116 : Int32))])) rfl rfl (hb hby d3_20) t k) ?_
  refine own_step (T' := s₁) (g' := (mkF m 26 #[.val (.ref p0), .val (.ref p1), .val (.int (7 : Int32))] [])) (fun t k => XS.icmpYes X0.here hx rfl (pc0 := 21) (pc' := 26) rfl (hb hby d3_21) rfl (teq (by decide : (116 : Int32) = (116 : Int32))).1 (by decide) (by decide) k) ?_
  refine own_step (T' := s₁) (g' := (mkF m 29 #[.val (.ref p0), .val (.ref p1), .val (.int (8 : Int32))] [])) (fun t k => XS.iinc X0.here hx rfl (hb hby d3_26) rfl (l' := #[.val (.ref p0), .val (.ref p1), .val (.int (8 : Int32))]) rfl k) ?_
  refine own_step (T' := s₁) (g' := (mkF m 9 #[.val (.ref p0), .val (.ref p1), .val (.int (8 : Int32))] [])) (fun t k => XS.goto X0.here hx rfl (pc0 := 29) (pc' := 9) rfl (hb hby d3_29) (by decide) (by decide) k) ?_
  refine own_step (T' := s₁) (g' := (mkF m 10 #[.val (.ref p0), .val (.ref p1), .val (.int (8 : Int32))] [(.int (8 : Int32))])) (fun t k => XS.iloadN X0.here hx rfl (hb hby d3_9) rfl k) ?_
  refine own_step (T' := s₁) (g' := (mkF m 11 #[.val (.ref p0), .val (.ref p1), .val (.int (8 : Int32))] [(.ref p0), (.int (8 : Int32))])) (fun t k => XS.aloadN X0.here hx rfl (hb hby d3_10) rfl rfl k) ?_
  obtain ⟨cl27, Ar27, q27, Sz27, Nn27, Hh27, Gg27⟩ := id V_p0
  refine own_step (T' := s₁) (g' := (mkF m 12 #[.val (.ref p0), .val (.ref p1), .val (.int (8 : Int32))] [(.int (8 : Int32)), (.int (8 : Int32))])) (fun t k => X0.arraylength hx (by rw [e0]; exact Ar27.1) (State.isArrayOf_alike hZ.alike Ar27.2.1) (g := (mkF m 11 #[.val (.ref p0), .val (.ref p1), .val (.int (8 : Int32))] [(.ref p0), (.int (8 : Int32))])) rfl rfl (hb hby d3_11) t (by rw [len_of Sz27 Nn27]; exact k)) ?_
  refine own_step (T' := s₁) (g' := (mkF m 32 #[.val (.ref p0), .val (.ref p1), .val (.int (8 : Int32))] [])) (fun t k => XS.icmpYes X0.here hx rfl (pc0 := 12) (pc' := 32) rfl (hb hby d3_12) rfl (flt (by decide : ¬ ((8 : Int32) < (8 : Int32)))).2.1 (by decide) (by decide) k) ?_
  refine own_step (T' := s₁) (g' := (mkF m 33 #[.val (.ref p0), .val (.ref p1), .val (.int (8 : Int32))] [(.int (1 : Int32))])) (fun t k => XS.iconst X0.here hx rfl (hb hby d3_32) k) ?_
  refine own_retN X0 hx hlk (t := .boolean) (w := (1 : Int32)) Bd.returns (by simp) (hb hby d3_33) rfl (by decide) (by decide) ?_
  exact ⟨rfl, N0, e0⟩
theorem ef_rm2_distinct_distinct (m : MethodId) (x0 : Addr) (x1 : Addr) : entryFrame m #[(.ref x0), (.ref x1)] 3 = mkF m 0 #[.val (.ref x0), .val (.ref x1), .unset] [] := by first | (simp [entryFrame, mkF, argsToLocals, Value.category]; done) | rfl
def Qrm2_distinct_distinct (Z : State) (p0 : Addr) (p1 : Addr) (w0 : Addr) (w1 : Addr) (k0 : ClassId) (k1 : ClassId) (G1 : Int32) (h0 : Heap) (n0 : Nat) (v : Option Value) (h : Heap) (L : List Loc) : Prop := v = some (.int (1 : Int32)) ∧ Fr n0 L ∧ h = h0
set_option maxRecDepth 65536 in
set_option maxHeartbeats 40000000 in
theorem rm2_distinct_distinct (l : Launch) (Z : State) (a0 : Array Value) (hw : ∀ d ∈ tables_1, d.before a0 Z = true) (ws : List Jvm.Cond) (p0 : Addr) (p1 : Addr) (w0 : Addr) (w1 : Addr) (k0 : ClassId) (k1 : ClassId) (G1 : Int32) (h0 : Heap) (n0 : Nat) (Z0 : n0 ≤ h0.size) (E_p0 : Exa Z h0 p0 "java/lang/String") (E_p1 : Exa Z h0 p1 "java/lang/String") (F_coder_p0 : Fld Z h0 p0 "java/lang/String" "coder" "B" (.int (0 : Int32))) (F_coder_p1 : Fld Z h0 p1 "java/lang/String" "coder" "B" (.int (0 : Int32))) (F_value_p0 : Fld Z h0 p0 "java/lang/String" "value" "[B" (.ref w0)) (F_value_p1 : Fld Z h0 p1 "java/lang/String" "value" "[B" (.ref w1)) (V_w0 : Arv Z h0 w0 k0 .byte (8 : Int32) [(.int (100 : Int32)), (.int (105 : Int32)), (.int (115 : Int32)), (.int (116 : Int32)), (.int (105 : Int32)), (.int (110 : Int32)), (.int (99 : Int32)), (.int (116 : Int32))] (.int (0 : Int32))) (V_w1 : Arv Z h0 w1 k1 .byte (8 : Int32) [(.int (100 : Int32)), (.int (105 : Int32)), (.int (115 : Int32)), (.int (116 : Int32)), (.int (105 : Int32)), (.int (110 : Int32)), (.int (99 : Int32)), (.int (116 : Int32))] (.int (0 : Int32))) (S_COMPACT_STRINGS : Sta Z h0 "java/lang/String" "COMPACT_STRINGS" "Z" (.int G1)) (P5 : ¬ (G1 = (0 : Int32))) :
    MetFree l (⟨"java/lang/String", "equals", "(Ljava/lang/Object;)Z"⟩ : MethodName) (head1 (Jvm.Cond.code (⟨"java/lang/String", "equals", "(Ljava/lang/Object;)Z"⟩ : MethodName) jdk_42_method_66_code 3 (some .boolean) :: ws) ({ frames := 1, cells := 0, slots := 0, locals := 14 } : Room)) (fun a U => a = #[(.ref p0), (.ref p1)] ∧ Z.Warmed39 U.vm ∧ U.heap = h0) (fun _ _ _ _ _ => True) (fun _ U o U' => ∃ v L, o = .returned v ∧ Qrm2_distinct_distinct Z p0 p1 w0 w1 k0 k1 G1 h0 n0 v U'.heap L ∧ FrameEnd U o U' L ({ frames := 1, cells := 0, slots := 0, locals := 14 } : Room).cells ({ frames := 1, cells := 0, slots := 0, locals := 14 } : Room).slots) := by
  refine MetFree.of_bodySF (plainFor_of_name pn_2) hisR ?_
  intro p e s m args below meth c s₁ Bd hml0 hP hK
  obtain ⟨rfl, hZ, hh⟩ := hP
  have hx := Bd.exec
  have hby := Bd.bytes
  have hlk : meth.locks = false := BodyLoose.notSynchronized Bd
  have hml : c.maxLocals = 3 := hml0
  have hown : s.vm.findClass "java/lang/String" = some m.cls := findClass_of_methodNamed Bd.named
  have hnm := (name_of_methodNamed Bd.named Bd.method).1
  have X0 : Stand p l e ({ frames := 1, cells := 0, slots := 0, locals := 14 } : Room) s m #[(.ref p0), (.ref p1)] below meth c s₁ [] 0 0 := Stand.of_body Bd
  have e0 : s₁.heap = h0 := by rw [← hh, Bd.state]; rfl
  have N0 := Fr.nil n0
  have K0 : Keep h0 h0 [] := Keep.refl h0 []
  show own_G p e below s 0 0 (Qrm2_distinct_distinct Z p0 p1 w0 w1 k0 k1 G1 h0 n0) s₁ (entryFrame m #[(.ref p0), (.ref p1)] 3)
  rw [ef_rm2_distinct_distinct m p0 p1]
  refine own_step (T' := s₁) (g' := (mkF m 1 #[.val (.ref p0), .val (.ref p1), .unset] [(.ref p0)])) (fun t k => XS.aloadN X0.here hx rfl (hb hby d2_0) rfl rfl k) ?_
  refine own_step (T' := s₁) (g' := (mkF m 2 #[.val (.ref p0), .val (.ref p1), .unset] [(.ref p1), (.ref p0)])) (fun t k => XS.aloadN X0.here hx rfl (hb hby d2_1) rfl rfl k) ?_
  by_cases ha2_1 : p0 = p1
  · refine own_step (T' := s₁) (g' := (mkF m 5 #[.val (.ref p0), .val (.ref p1), .unset] [])) (fun t k => Jvm.RoadKit.acmp (g := (mkF m 2 #[.val (.ref p0), .val (.ref p1), .unset] [(.ref p1), (.ref p0)])) X0 hx rfl rfl rfl (pc0 := 2) (pc' := 5) (same := true) rfl (hb hby d2_2) rfl (decide_eq_true (congrArg Value.ref ha2_1)) (by decide) (by decide) k) ?_
    refine own_step (T' := s₁) (g' := (mkF m 6 #[.val (.ref p0), .val (.ref p1), .unset] [(.int (1 : Int32))])) (fun t k => XS.iconst X0.here hx rfl (hb hby d2_5) k) ?_
    refine own_retN X0 hx hlk (t := .boolean) (w := (1 : Int32)) Bd.returns (by simp) (hb hby d2_6) rfl (by decide) (by decide) ?_
    exact ⟨rfl, N0, e0⟩
  · refine own_step (T' := s₁) (g' := (mkF m 7 #[.val (.ref p0), .val (.ref p1), .unset] [])) (fun t k => Jvm.RoadKit.acmp (g := (mkF m 2 #[.val (.ref p0), .val (.ref p1), .unset] [(.ref p1), (.ref p0)])) X0 hx rfl rfl rfl (pc0 := 2) (pc' := 7) (same := false) rfl (hb hby d2_2) rfl (decide_eq_false fun q => ha2_1 (Value.ref.inj q)) (by decide) (by decide) k) ?_
    refine own_step (T' := s₁) (g' := (mkF m 8 #[.val (.ref p0), .val (.ref p1), .unset] [(.ref p1)])) (fun t k => XS.aloadN X0.here hx rfl (hb hby d2_7) rfl rfl k) ?_
    obtain ⟨T3, X3, e3, st3⟩ := instY X0 hx hZ hown (hw _ (List.mem_of_getElem? (i := 24) rfl)) e0 (Ins.self E_p1) (g := (mkF m 8 #[.val (.ref p0), .val (.ref p1), .unset] [(.ref p1)])) rfl rfl (hb hby d2_8)
    refine own_step (T' := T3) (g' := (mkF m 11 #[.val (.ref p0), .val (.ref p1), .unset] [(.int (1 : Int32))])) st3 ?_
    refine own_step (T' := T3) (g' := (mkF m 14 #[.val (.ref p0), .val (.ref p1), .unset] [])) (fun t k => XS.ifNo X3.here hx rfl (hb hby d2_11) rfl ((if0 _ _).trans (feq (by decide : ¬ ((1 : Int32) = (0 : Int32)))).1) k) ?_
    refine own_step (T' := T3) (g' := (mkF m 15 #[.val (.ref p0), .val (.ref p1), .unset] [(.ref p1)])) (fun t k => XS.aloadN X3.here hx rfl (hb hby d2_14) rfl rfl k) ?_
    obtain ⟨T4, X4, e4, st4⟩ := castY X3 hx hZ hown (hw _ (List.mem_of_getElem? (i := 24) rfl)) e3 (Ins.self E_p1) (g := (mkF m 15 #[.val (.ref p0), .val (.ref p1), .unset] [(.ref p1)])) rfl rfl (hb hby d2_15)
    refine own_step (T' := T4) (g' := (mkF m 18 #[.val (.ref p0), .val (.ref p1), .unset] [(.ref p1)])) st4 ?_
    refine own_step (T' := T4) (g' := (mkF m 19 #[.val (.ref p0), .val (.ref p1), .val (.ref p1)] [])) (fun t k => XS.astoreN X4.here hx rfl (hb hby d2_18) rfl rfl (l' := #[.val (.ref p0), .val (.ref p1), .val (.ref p1)]) rfl k) ?_
    obtain ⟨T5, X5, e5, st5⟩ := getS2 X4 hx hZ hown (host := "") (Or.inl (hw _ (List.mem_of_getElem? (i := 26) rfl))) Via.refl e4 S_COMPACT_STRINGS (g := (mkF m 19 #[.val (.ref p0), .val (.ref p1), .val (.ref p1)] [])) rfl (hb hby d2_19)
    refine own_step (T' := T5) (g' := (mkF m 22 #[.val (.ref p0), .val (.ref p1), .val (.ref p1)] [(.int G1)])) st5 ?_
    refine own_step (T' := T5) (g' := (mkF m 25 #[.val (.ref p0), .val (.ref p1), .val (.ref p1)] [])) (fun t k => XS.ifNo X5.here hx rfl (hb hby d2_22) rfl ((if0 _ _).trans (feq P5).1) k) ?_
    refine own_step (T' := T5) (g' := (mkF m 26 #[.val (.ref p0), .val (.ref p1), .val (.ref p1)] [(.ref p0)])) (fun t k => XS.aloadN X5.here hx rfl (hb hby d2_25) rfl rfl k) ?_
    obtain ⟨T6, X6, e6, st6⟩ := getF X5 hx hZ hown (host := "") (Or.inl (hw _ (List.mem_of_getElem? (i := 27) rfl))) Via.refl e5 F_coder_p0 (g := (mkF m 26 #[.val (.ref p0), .val (.ref p1), .val (.ref p1)] [(.ref p0)])) rfl rfl (hb hby d2_26)
    refine own_step (T' := T6) (g' := (mkF m 29 #[.val (.ref p0), .val (.ref p1), .val (.ref p1)] [(.int (0 : Int32))])) st6 ?_
    refine own_step (T' := T6) (g' := (mkF m 30 #[.val (.ref p0), .val (.ref p1), .val (.ref p1)] [(.ref p1), (.int (0 : Int32))])) (fun t k => XS.aloadN X6.here hx rfl (hb hby d2_29) rfl rfl k) ?_
    obtain ⟨T7, X7, e7, st7⟩ := getF X6 hx hZ hown (host := "") (Or.inl (hw _ (List.mem_of_getElem? (i := 27) rfl))) Via.refl e6 F_coder_p1 (g := (mkF m 30 #[.val (.ref p0), .val (.ref p1), .val (.ref p1)] [(.ref p1), (.int (0 : Int32))])) rfl rfl (hb hby d2_30)
    refine own_step (T' := T7) (g' := (mkF m 33 #[.val (.ref p0), .val (.ref p1), .val (.ref p1)] [(.int (0 : Int32)), (.int (0 : Int32))])) st7 ?_
    refine own_step (T' := T7) (g' := (mkF m 36 #[.val (.ref p0), .val (.ref p1), .val (.ref p1)] [])) (fun t k => XS.icmpNo X7.here hx rfl (hb hby d2_33) rfl (teq (by decide : (0 : Int32) = (0 : Int32))).2 k) ?_
    refine own_step (T' := T7) (g' := (mkF m 37 #[.val (.ref p0), .val (.ref p1), .val (.ref p1)] [(.ref p0)])) (fun t k => XS.aloadN X7.here hx rfl (hb hby d2_36) rfl rfl k) ?_
    obtain ⟨T8, X8, e8, st8⟩ := getF X7 hx hZ hown (host := "") (Or.inl (hw _ (List.mem_of_getElem? (i := 28) rfl))) Via.refl e7 F_value_p0 (g := (mkF m 37 #[.val (.ref p0), .val (.ref p1), .val (.ref p1)] [(.ref p0)])) rfl rfl (hb hby d2_37)
    refine own_step (T' := T8) (g' := (mkF m 40 #[.val (.ref p0), .val (.ref p1), .val (.ref p1)] [(.ref w0)])) st8 ?_
    refine own_step (T' := T8) (g' := (mkF m 41 #[.val (.ref p0), .val (.ref p1), .val (.ref p1)] [(.ref p1), (.ref w0)])) (fun t k => XS.aloadN X8.here hx rfl (hb hby d2_40) rfl rfl k) ?_
    obtain ⟨T9, X9, e9, st9⟩ := getF X8 hx hZ hown (host := "") (Or.inl (hw _ (List.mem_of_getElem? (i := 28) rfl))) Via.refl e8 F_value_p1 (g := (mkF m 41 #[.val (.ref p0), .val (.ref p1), .val (.ref p1)] [(.ref p1), (.ref w0)])) rfl rfl (hb hby d2_41)
    refine own_step (T' := T9) (g' := (mkF m 44 #[.val (.ref p0), .val (.ref p1), .val (.ref p1)] [(.ref w1), (.ref w0)])) st9 ?_
    obtain ⟨_, _, ⟨T10, L10, kk10, nn10⟩, -, X10, ⟨Lc10, hQ10, l10, y10, z10⟩, st10⟩ := Jvm.LawKit.callS X9 hx (y := (⟨"java/lang/StringLatin1", "equals", "([B[B)Z"⟩ : MethodName)) hown (mvT hZ (hw _ (List.mem_of_getElem? (i := 29) rfl))) (mvT hZ (hw _ (List.mem_of_getElem? (i := 30) rfl))) (mvT hZ (hw _ (List.mem_of_getElem? (i := 31) rfl))) (mvT hZ (hw _ (List.mem_of_getElem? (i := 32) rfl))) (by decide) (backOf (W := 0) (rm3_distinct_distinct l Z a0 hw [] w0 w1 k0 k1 h0 n0 (Nat.le_trans Z0 K0.1) V_w0 V_w1) hZ (hw _ (List.mem_of_getElem? (i := 32) rfl)) (hw _ (List.mem_of_getElem? (i := 31) rfl)) (by decide) (by decide)) (g := (mkF m 44 #[.val (.ref p0), .val (.ref p1), .val (.ref p1)] [(.ref w1), (.ref w0)])) rfl (by rw [hml]; rfl) (argsL := [(.ref w0), (.ref w1)]) (rest := []) (lenOf pd_2 rfl) rfl (by show 2 * 0 + _ ≤ _; exact Nat.le_of_eq rfl) (hb hby d2_44) (fun _ _ => ⟨rfl, e9, (by decide : 0 + 0 ≤ _), (by decide : 0 + 0 ≤ _)⟩)
    dsimp only [Pt.U, Pt.locs, Pt.cells, Pt.slots] at X10 l10 y10 z10 st10 hQ10
    subst l10 y10 z10
    obtain ⟨rfl, N10q, eq10⟩ := hQ10
    have N10 := Fr.app N0 N10q
    refine own_step (T' := T10) (g' := (mkF m 47 #[.val (.ref p0), .val (.ref p1), .val (.ref p1)] [(.int (1 : Int32))])) st10 ?_
    refine own_step (T' := T10) (g' := (mkF m 50 #[.val (.ref p0), .val (.ref p1), .val (.ref p1)] [])) (fun t k => XS.ifNo X10.here hx rfl (hb hby d2_47) rfl ((if0 _ _).trans (feq (by decide : ¬ ((1 : Int32) = (0 : Int32)))).1) k) ?_
    refine own_step (T' := T10) (g' := (mkF m 51 #[.val (.ref p0), .val (.ref p1), .val (.ref p1)] [(.int (1 : Int32))])) (fun t k => XS.iconst X10.here hx rfl (hb hby d2_50) k) ?_
    refine own_step (T' := T10) (g' := (mkF m 55 #[.val (.ref p0), .val (.ref p1), .val (.ref p1)] [(.int (1 : Int32))])) (fun t k => XS.goto X10.here hx rfl (pc0 := 51) (pc' := 55) rfl (hb hby d2_51) (by decide) (by decide) k) ?_
    refine own_retN X10 hx hlk (t := .boolean) (w := (1 : Int32)) Bd.returns (by simp) (hb hby d2_55) rfl (by decide) (by decide) ?_
    exact ⟨rfl, N10, eq10⟩

theorem own_mod3 (x v : Int32) (hv : (x &&& 2147483647) % 3 = v) : v = 0 ∨ v = 1 ∨ v = 2 := by
  have e1 : (x &&& 2147483647).toInt = x.toInt % 2 ^ 31 := Jvm.Kit.i32_mask x 2147483647 (k := 31) (by decide) (by decide)
  have e2 : v.toInt = (x.toInt % 2 ^ 31) % 3 := by
    rw [← hv, Int32.toInt_mod, e1, Int.tmod_eq_emod_of_nonneg (by omega)]; rfl
  simp only [← Int32.toInt_inj, Int32.reduceToInt]
  omega
theorem ef_rm0 (m : MethodId) (x0 : Int32) : entryFrame m #[(.int x0)] maxLocals = mkF m 0 #[.val (.int x0), .unset, .unset, .unset, .unset] [] := by first | (simp [entryFrame, mkF, argsToLocals, Value.category, maxLocals]; done) | rfl
def Qrm0 (Z : State) (p0 : Int32) (G1 : Int32) (a_COUNT : Addr) (a_SUM : Addr) (a_DISTINCT : Addr) (a_COUNT_name : Addr) (a_COUNT_name_value : Addr) (k_COUNT : ClassId) (a_SUM_name : Addr) (a_SUM_name_value : Addr) (k_SUM : ClassId) (a_DISTINCT_name : Addr) (a_DISTINCT_name_value : Addr) (k_DISTINCT : ClassId) (h0 : Heap) (n0 : Nat) (v : Option Value) (h : Heap) (L : List Loc) : Prop := v = some (.int (1 : Int32)) ∧ Fr n0 L
set_option maxRecDepth 65536 in
set_option maxHeartbeats 40000000 in
theorem rm0 (l : Launch) (Z : State) (a0 : Array Value) (hw : ∀ d ∈ tables_1, d.before a0 Z = true) (ws : List Jvm.Cond) (p0 : Int32) (G1 : Int32) (a_COUNT : Addr) (a_SUM : Addr) (a_DISTINCT : Addr) (a_COUNT_name : Addr) (a_COUNT_name_value : Addr) (k_COUNT : ClassId) (a_SUM_name : Addr) (a_SUM_name_value : Addr) (k_SUM : ClassId) (a_DISTINCT_name : Addr) (a_DISTINCT_name_value : Addr) (k_DISTINCT : ClassId) (h0 : Heap) (n0 : Nat) (Z0 : n0 ≤ h0.size) (S_COUNT : Sta Z h0 "com/example/risk_rule_engine/riskruleengine/rules/Statistic" "COUNT" "Lcom/example/risk_rule_engine/riskruleengine/rules/Statistic;" (.ref a_COUNT)) (S_SUM : Sta Z h0 "com/example/risk_rule_engine/riskruleengine/rules/Statistic" "SUM" "Lcom/example/risk_rule_engine/riskruleengine/rules/Statistic;" (.ref a_SUM)) (S_DISTINCT : Sta Z h0 "com/example/risk_rule_engine/riskruleengine/rules/Statistic" "DISTINCT" "Lcom/example/risk_rule_engine/riskruleengine/rules/Statistic;" (.ref a_DISTINCT)) (S_COMPACT_STRINGS : Sta Z h0 "java/lang/String" "COMPACT_STRINGS" "Z" (.int G1)) (P5 : ¬ (G1 = (0 : Int32))) (E_a_COUNT : Exa Z h0 a_COUNT "com/example/risk_rule_engine/riskruleengine/rules/Statistic") (F_name_a_COUNT : Fld Z h0 a_COUNT "com/example/risk_rule_engine/riskruleengine/rules/Statistic" "name" "Ljava/lang/String;" (.ref a_COUNT_name)) (E_a_COUNT_name : Exa Z h0 a_COUNT_name "java/lang/String") (F_coder_a_COUNT_name : Fld Z h0 a_COUNT_name "java/lang/String" "coder" "B" (.int (0 : Int32))) (F_value_a_COUNT_name : Fld Z h0 a_COUNT_name "java/lang/String" "value" "[B" (.ref a_COUNT_name_value)) (V_a_COUNT_name_value : Arv Z h0 a_COUNT_name_value k_COUNT .byte (5 : Int32) [(.int (99 : Int32)), (.int (111 : Int32)), (.int (117 : Int32)), (.int (110 : Int32)), (.int (116 : Int32))] (.int (0 : Int32))) (E_a_SUM : Exa Z h0 a_SUM "com/example/risk_rule_engine/riskruleengine/rules/Statistic") (F_name_a_SUM : Fld Z h0 a_SUM "com/example/risk_rule_engine/riskruleengine/rules/Statistic" "name" "Ljava/lang/String;" (.ref a_SUM_name)) (E_a_SUM_name : Exa Z h0 a_SUM_name "java/lang/String") (F_coder_a_SUM_name : Fld Z h0 a_SUM_name "java/lang/String" "coder" "B" (.int (0 : Int32))) (F_value_a_SUM_name : Fld Z h0 a_SUM_name "java/lang/String" "value" "[B" (.ref a_SUM_name_value)) (V_a_SUM_name_value : Arv Z h0 a_SUM_name_value k_SUM .byte (3 : Int32) [(.int (115 : Int32)), (.int (117 : Int32)), (.int (109 : Int32))] (.int (0 : Int32))) (E_a_DISTINCT : Exa Z h0 a_DISTINCT "com/example/risk_rule_engine/riskruleengine/rules/Statistic") (F_name_a_DISTINCT : Fld Z h0 a_DISTINCT "com/example/risk_rule_engine/riskruleengine/rules/Statistic" "name" "Ljava/lang/String;" (.ref a_DISTINCT_name)) (E_a_DISTINCT_name : Exa Z h0 a_DISTINCT_name "java/lang/String") (F_coder_a_DISTINCT_name : Fld Z h0 a_DISTINCT_name "java/lang/String" "coder" "B" (.int (0 : Int32))) (F_value_a_DISTINCT_name : Fld Z h0 a_DISTINCT_name "java/lang/String" "value" "[B" (.ref a_DISTINCT_name_value)) (V_a_DISTINCT_name_value : Arv Z h0 a_DISTINCT_name_value k_DISTINCT .byte (8 : Int32) [(.int (100 : Int32)), (.int (105 : Int32)), (.int (115 : Int32)), (.int (116 : Int32)), (.int (105 : Int32)), (.int (110 : Int32)), (.int (99 : Int32)), (.int (116 : Int32))] (.int (0 : Int32))) (ne_SUM : a_SUM ≠ a_COUNT) (ne_DISTINCT : a_DISTINCT ≠ a_COUNT) :
    MetFree l x (head1 (Jvm.Cond.code x code maxLocals ret :: ws) room_1) (fun a U => a = #[(.int p0)] ∧ Z.Warmed39 U.vm ∧ U.heap = h0 ∧ CHv Z consts_1 U.vm h0) (fun _ _ _ _ _ => True) (fun _ U o U' => ∃ v L, o = .returned v ∧ Qrm0 Z p0 G1 a_COUNT a_SUM a_DISTINCT a_COUNT_name a_COUNT_name_value k_COUNT a_SUM_name a_SUM_name_value k_SUM a_DISTINCT_name a_DISTINCT_name_value k_DISTINCT h0 n0 v U'.heap L ∧ CHr Z consts_1 U.vm U.heap U'.vm U'.heap ∧ ReturnedEndW U o U' L 4 52) := by
  refine MetFree.of_bodySF (plainFor_of_name pn_0) hisR ?_
  intro p e s m args below meth c s₁ Bd hml0 hP hK
  obtain ⟨rfl, hZ, hh, hCH⟩ := hP
  have hx := Bd.exec
  have hby := Bd.bytes
  have hlk : meth.locks = false := BodyLoose.notSynchronized Bd
  have hml : c.maxLocals = 5 := hml0
  have hown : s.vm.findClass "com/example/risk_rule_engine/riskruleengine/rules/StatisticOfFieldPinLaw" = some m.cls := findClass_of_methodNamed Bd.named
  have hnm := (name_of_methodNamed Bd.named Bd.method).1
  have X0 : Stand p l e room_1 (s.setVm s.vm) m #[(.int p0)] below meth c s₁ [] 0 0 := Stand.of_body Bd
  have e0 : s₁.heap = h0 := by rw [← hh, Bd.state]; rfl
  have N0 := Fr.nil n0
  have K0 : Keep h0 h0 [] := Keep.refl h0 []
  have H0 : CHr Z consts_1 s.vm h0 s.vm h0 := CHr.refl hCH
  have hS0 : s.Since s.vm h0.size := (State.WarmedH.refl s).since _
  have hk0 : h0.size ≤ h0.size := Nat.le_refl _
  have wS : ∀ d ∈ Bundle.stringAtoms, d.before a0 Z = true := fun d hd => hw d ((by decide +kernel : ∀ d ∈ Bundle.stringAtoms, d ∈ tables_1) d hd)
  have hEL : EW Z a0 consts_1 := own_EW hw
  rw [hh]
  show own_GW Z consts_1 h0 p e below s 4 52 (Qrm0 Z p0 G1 a_COUNT a_SUM a_DISTINCT a_COUNT_name a_COUNT_name_value k_COUNT a_SUM_name a_SUM_name_value k_SUM a_DISTINCT_name a_DISTINCT_name_value k_DISTINCT h0 n0) s₁ (entryFrame m #[(.int p0)] maxLocals)
  rw [ef_rm0 m p0]
  refine own_stepW (T' := s₁) (g' := (mkF m 1 #[.val (.int p0), .unset, .unset, .unset, .unset] [(.int p0)])) (fun t k => XS.iloadN X0.here hx rfl (hb hby at_0) rfl k) ?_
  refine own_stepW (T' := s₁) (g' := (mkF m 3 #[.val (.int p0), .unset, .unset, .unset, .unset] [(.int (2147483647 : Int32)), (.int p0)])) (fun t k => X0.ldcInt hx hown (mvT hZ (hw _ (List.mem_of_getElem? (i := 0) rfl))) (g := (mkF m 1 #[.val (.int p0), .unset, .unset, .unset, .unset] [(.int p0)])) rfl (hb hby at_1) t k) ?_
  refine own_stepW (T' := s₁) (g' := (mkF m 4 #[.val (.int p0), .unset, .unset, .unset, .unset] [(.int (p0 &&& (2147483647 : Int32)))])) (fun t k => XS.iand X0.here hx rfl (hb hby at_3) rfl k) ?_
  refine own_stepW (T' := s₁) (g' := (mkF m 5 #[.val (.int p0), .unset, .unset, .unset, .unset] [(.int (3 : Int32)), (.int (p0 &&& (2147483647 : Int32)))])) (fun t k => XS.iconst X0.here hx rfl (hb hby at_4) k) ?_
  refine own_stepW (T' := s₁) (g' := (mkF m 6 #[.val (.int p0), .unset, .unset, .unset, .unset] [(.int ((p0 &&& (2147483647 : Int32)) % (3 : Int32)))])) (fun t k => Jvm.RoadKit.iremM X0 hx rfl (hb hby at_5) rfl (by decide) k) ?_
  generalize hv1 : ((p0 &&& (2147483647 : Int32)) % (3 : Int32)) = v1
  refine own_stepW (T' := s₁) (g' := (mkF m 7 #[.val (.int p0), .val (.int v1), .unset, .unset, .unset] [])) (fun t k => XS.istoreN X0.here hx rfl (hb hby at_6) rfl (l' := #[.val (.int p0), .val (.int v1), .unset, .unset, .unset]) rfl k) ?_
  rcases own_mod3 p0 v1 hv1 with rfl | rfl | rfl
  · skip
    refine own_stepW (T' := s₁) (g' := (mkF m 8 #[.val (.int p0), .val (.int (0 : Int32)), .unset, .unset, .unset] [(.int (0 : Int32))])) (fun t k => XS.iloadN X0.here hx rfl (hb hby at_7) rfl k) ?_
    refine own_stepW (T' := s₁) (g' := (mkF m 11 #[.val (.int p0), .val (.int (0 : Int32)), .unset, .unset, .unset] [])) (fun t k => XS.ifNo X0.here hx rfl (hb hby at_8) rfl ((if0 _ _).trans (teq (by decide : (0 : Int32) = (0 : Int32))).2) k) ?_
    obtain ⟨T2, X2, e2, st2⟩ := getS2 X0 hx hZ hown (host := "") (Or.inl (hw _ (List.mem_of_getElem? (i := 1) rfl))) Via.refl e0 S_COUNT (g := (mkF m 11 #[.val (.int p0), .val (.int (0 : Int32)), .unset, .unset, .unset] [])) rfl (hb hby at_11)
    refine own_stepW (T' := T2) (g' := (mkF m 14 #[.val (.int p0), .val (.int (0 : Int32)), .unset, .unset, .unset] [(.ref a_COUNT)])) st2 ?_
    refine own_stepW (T' := T2) (g' := (mkF m 15 #[.val (.int p0), .val (.int (0 : Int32)), .val (.ref a_COUNT), .unset, .unset] [])) (fun t k => XS.astoreN X2.here hx rfl (hb hby at_14) rfl rfl (l' := #[.val (.int p0), .val (.int (0 : Int32)), .val (.ref a_COUNT), .unset, .unset]) rfl k) ?_
    refine own_stepW (T' := T2) (g' := (mkF m 34 #[.val (.int p0), .val (.int (0 : Int32)), .val (.ref a_COUNT), .unset, .unset] [])) (fun t k => XS.goto X2.here hx rfl (pc0 := 15) (pc' := 34) rfl (hb hby at_15) (by decide) (by decide) k) ?_
    refine own_stepW (T' := T2) (g' := (mkF m 35 #[.val (.int p0), .val (.int (0 : Int32)), .val (.ref a_COUNT), .unset, .unset] [(.ref a_COUNT)])) (fun t k => XS.aloadN X2.here hx rfl (hb hby at_34) rfl rfl k) ?_
    obtain ⟨cq3, kq3, qq3a, qq3b, qq3c⟩ := isOf hZ e2 E_a_COUNT
    obtain ⟨_, _, ⟨T3, L3, kk3, nn3⟩, -, X3, ⟨Lc3, hQ3, l3, y3, z3⟩, st3⟩ := X2.virtualBack hx (y := (⟨"com/example/risk_rule_engine/riskruleengine/rules/Statistic", "toString", "()Ljava/lang/String;"⟩ : MethodName)) (z := (⟨"com/example/risk_rule_engine/riskruleengine/rules/Statistic", "toString", "()Ljava/lang/String;"⟩ : MethodName)) hown (mvT hZ (hw _ (List.mem_of_getElem? (i := 4) rfl))) (mvT hZ (hw _ (List.mem_of_getElem? (i := 5) rfl))) (notFace_of_selects (args := #[]) (mvT hZ (hw _ (List.mem_of_getElem? (i := 7) rfl)))) (mvT hZ (hw _ (List.mem_of_getElem? (i := 7) rfl))) (mvT hZ (hw _ (List.mem_of_getElem? (i := 6) rfl))) (by decide) (backOf (W := 0) (rm1 l Z a0 hw [] a_COUNT a_COUNT_name h0 n0 (Nat.le_trans Z0 K0.1) F_name_a_COUNT) hZ (hw _ (List.mem_of_getElem? (i := 8) rfl)) (hw _ (List.mem_of_getElem? (i := 2) rfl)) (by decide) (by decide)) qq3a qq3c (g := (mkF m 35 #[.val (.int p0), .val (.int (0 : Int32)), .val (.ref a_COUNT), .unset, .unset] [(.ref a_COUNT)])) rfl (by rw [hml]; rfl) (Steps.refl _) (argsL := []) (rest := []) (lenOf pd_0 rfl) rfl (by show 2 * 0 + _ ≤ _; exact Nat.le_of_eq rfl) (hb hby at_35) (fun _ _ => ⟨rfl, e2, (by decide : 0 + 0 ≤ _), (by decide : 0 + 0 ≤ _)⟩)
    dsimp only [Pt.U, Pt.locs, Pt.cells, Pt.slots] at X3 l3 y3 z3 st3 hQ3
    subst l3 y3 z3
    obtain ⟨rfl, N3q, eq3⟩ := hQ3
    have N3 := Fr.app N0 N3q
    refine own_stepW (T' := T3) (g' := (mkF m 38 #[.val (.int p0), .val (.int (0 : Int32)), .val (.ref a_COUNT), .unset, .unset] [(.ref a_COUNT_name)])) (fun t k => st3.trans k) ?_
    refine own_stepW (T' := T3) (g' := (mkF m 39 #[.val (.int p0), .val (.int (0 : Int32)), .val (.ref a_COUNT), .val (.ref a_COUNT_name), .unset] [])) (fun t k => XS.astoreN X3.here hx rfl (hb hby at_38) rfl rfl (l' := #[.val (.int p0), .val (.int (0 : Int32)), .val (.ref a_COUNT), .val (.ref a_COUNT_name), .unset]) rfl k) ?_
    refine own_stepW (T' := T3) (g' := (mkF m 40 #[.val (.int p0), .val (.int (0 : Int32)), .val (.ref a_COUNT), .val (.ref a_COUNT_name), .unset] [(.ref a_COUNT_name)])) (fun t k => XS.aloadN X3.here hx rfl (hb hby at_39) rfl rfl k) ?_
    obtain ⟨a4, T4, h4, kS4, b4, kb4, X4, e4, E4, hS4, hk4, hZ4, hown4, Es4, Fc4, Fv4, Av4, la4, lb4, C4, Lit4, Sf4, st4⟩ := ldcCH X3 hx hZ hown (hw _ (List.mem_of_getElem? (i := 11) rfl)) wS eq3 hS0 hk0 hEL (List.mem_of_getElem? (i := 0) rfl) H0.1 (vs := [(.int (115 : Int32)), (.int (117 : Int32)), (.int (109 : Int32))]) (z := (3 : Int32)) ⟨by decide, by decide⟩ (by decide) (by decide) (g := (mkF m 40 #[.val (.int p0), .val (.int (0 : Int32)), .val (.ref a_COUNT), .val (.ref a_COUNT_name), .unset] [(.ref a_COUNT_name)])) rfl (hb hby at_40) (n := 12) (by decide) (by decide) (by decide) (by decide)
    have S_COUNT_4 : Sta Z h4 "com/example/risk_rule_engine/riskruleengine/rules/Statistic" "COUNT" "Lcom/example/risk_rule_engine/riskruleengine/rules/Statistic;" (.ref a_COUNT) := S_COUNT.ext E4
    have S_SUM_4 : Sta Z h4 "com/example/risk_rule_engine/riskruleengine/rules/Statistic" "SUM" "Lcom/example/risk_rule_engine/riskruleengine/rules/Statistic;" (.ref a_SUM) := S_SUM.ext E4
    have S_DISTINCT_4 : Sta Z h4 "com/example/risk_rule_engine/riskruleengine/rules/Statistic" "DISTINCT" "Lcom/example/risk_rule_engine/riskruleengine/rules/Statistic;" (.ref a_DISTINCT) := S_DISTINCT.ext E4
    have S_COMPACT_STRINGS_4 : Sta Z h4 "java/lang/String" "COMPACT_STRINGS" "Z" (.int G1) := S_COMPACT_STRINGS.ext E4
    have E_a_COUNT_4 : Exa Z h4 a_COUNT "com/example/risk_rule_engine/riskruleengine/rules/Statistic" := E_a_COUNT.ext E4
    have F_name_a_COUNT_4 : Fld Z h4 a_COUNT "com/example/risk_rule_engine/riskruleengine/rules/Statistic" "name" "Ljava/lang/String;" (.ref a_COUNT_name) := F_name_a_COUNT.ext E4
    have E_a_COUNT_name_4 : Exa Z h4 a_COUNT_name "java/lang/String" := E_a_COUNT_name.ext E4
    have F_coder_a_COUNT_name_4 : Fld Z h4 a_COUNT_name "java/lang/String" "coder" "B" (.int (0 : Int32)) := F_coder_a_COUNT_name.ext E4
    have F_value_a_COUNT_name_4 : Fld Z h4 a_COUNT_name "java/lang/String" "value" "[B" (.ref a_COUNT_name_value) := F_value_a_COUNT_name.ext E4
    have V_a_COUNT_name_value_4 : Arv Z h4 a_COUNT_name_value k_COUNT .byte (5 : Int32) [(.int (99 : Int32)), (.int (111 : Int32)), (.int (117 : Int32)), (.int (110 : Int32)), (.int (116 : Int32))] (.int (0 : Int32)) := V_a_COUNT_name_value.ext E4
    have E_a_SUM_4 : Exa Z h4 a_SUM "com/example/risk_rule_engine/riskruleengine/rules/Statistic" := E_a_SUM.ext E4
    have F_name_a_SUM_4 : Fld Z h4 a_SUM "com/example/risk_rule_engine/riskruleengine/rules/Statistic" "name" "Ljava/lang/String;" (.ref a_SUM_name) := F_name_a_SUM.ext E4
    have E_a_SUM_name_4 : Exa Z h4 a_SUM_name "java/lang/String" := E_a_SUM_name.ext E4
    have F_coder_a_SUM_name_4 : Fld Z h4 a_SUM_name "java/lang/String" "coder" "B" (.int (0 : Int32)) := F_coder_a_SUM_name.ext E4
    have F_value_a_SUM_name_4 : Fld Z h4 a_SUM_name "java/lang/String" "value" "[B" (.ref a_SUM_name_value) := F_value_a_SUM_name.ext E4
    have V_a_SUM_name_value_4 : Arv Z h4 a_SUM_name_value k_SUM .byte (3 : Int32) [(.int (115 : Int32)), (.int (117 : Int32)), (.int (109 : Int32))] (.int (0 : Int32)) := V_a_SUM_name_value.ext E4
    have E_a_DISTINCT_4 : Exa Z h4 a_DISTINCT "com/example/risk_rule_engine/riskruleengine/rules/Statistic" := E_a_DISTINCT.ext E4
    have F_name_a_DISTINCT_4 : Fld Z h4 a_DISTINCT "com/example/risk_rule_engine/riskruleengine/rules/Statistic" "name" "Ljava/lang/String;" (.ref a_DISTINCT_name) := F_name_a_DISTINCT.ext E4
    have E_a_DISTINCT_name_4 : Exa Z h4 a_DISTINCT_name "java/lang/String" := E_a_DISTINCT_name.ext E4
    have F_coder_a_DISTINCT_name_4 : Fld Z h4 a_DISTINCT_name "java/lang/String" "coder" "B" (.int (0 : Int32)) := F_coder_a_DISTINCT_name.ext E4
    have F_value_a_DISTINCT_name_4 : Fld Z h4 a_DISTINCT_name "java/lang/String" "value" "[B" (.ref a_DISTINCT_name_value) := F_value_a_DISTINCT_name.ext E4
    have V_a_DISTINCT_name_value_4 : Arv Z h4 a_DISTINCT_name_value k_DISTINCT .byte (8 : Int32) [(.int (100 : Int32)), (.int (105 : Int32)), (.int (115 : Int32)), (.int (116 : Int32)), (.int (105 : Int32)), (.int (110 : Int32)), (.int (99 : Int32)), (.int (116 : Int32))] (.int (0 : Int32)) := V_a_DISTINCT_name_value.ext E4
    have K_4 : Keep h0 h4 [] := K0.ext E4
    have H_4 : CHr Z consts_1 s.vm h0 T4.vm h4 := H0.trans C4
    have ne_a_COUNT_a4 := (Sf4 _ (Safe.exa hZ4.alike E_a_COUNT_4 (by decide) (by decide))).1
    have ne_a_COUNT_b4 := (Sf4 _ (Safe.exa hZ4.alike E_a_COUNT_4 (by decide) (by decide))).2
    have ne_a_SUM_a4 := (Sf4 _ (Safe.exa hZ4.alike E_a_SUM_4 (by decide) (by decide))).1
    have ne_a_SUM_b4 := (Sf4 _ (Safe.exa hZ4.alike E_a_SUM_4 (by decide) (by decide))).2
    have ne_a_DISTINCT_a4 := (Sf4 _ (Safe.exa hZ4.alike E_a_DISTINCT_4 (by decide) (by decide))).1
    have ne_a_DISTINCT_b4 := (Sf4 _ (Safe.exa hZ4.alike E_a_DISTINCT_4 (by decide) (by decide))).2
    refine own_stepW (T' := T4) (g' := (mkF m 42 #[.val (.int p0), .val (.int (0 : Int32)), .val (.ref a_COUNT), .val (.ref a_COUNT_name), .unset] [(.ref a4), (.ref a_COUNT_name)])) st4 ?_
    obtain ⟨cq5, kq5, qq5a, qq5b, qq5c⟩ := isOf hZ4 e4 E_a_COUNT_name_4
    obtain ⟨_, _, ⟨T5, L5, kk5, nn5⟩, -, X5, ⟨Lc5, hQ5, l5, y5, z5⟩, st5⟩ := X4.virtualBack hx (y := (⟨"java/lang/String", "equals", "(Ljava/lang/Object;)Z"⟩ : MethodName)) (z := (⟨"java/lang/String", "equals", "(Ljava/lang/Object;)Z"⟩ : MethodName)) hown4 (mvT hZ4 (hw _ (List.mem_of_getElem? (i := 19) rfl))) (mvT hZ4 (hw _ (List.mem_of_getElem? (i := 20) rfl))) (notFace_of_selects (args := #[]) (mvT hZ4 (hw _ (List.mem_of_getElem? (i := 22) rfl)))) (mvT hZ4 (hw _ (List.mem_of_getElem? (i := 22) rfl))) (mvT hZ4 (hw _ (List.mem_of_getElem? (i := 21) rfl))) (by decide) (backOf (W := 0) (rm2_count_sum l Z a0 hw [] a_COUNT_name a4 a_COUNT_name_value b4 k_COUNT kb4 G1 h4 n0 (Nat.le_trans Z0 K_4.1) E_a_COUNT_name_4 Es4 F_coder_a_COUNT_name_4 Fc4 F_value_a_COUNT_name_4 Fv4 V_a_COUNT_name_value_4 Av4 S_COMPACT_STRINGS_4 P5 (Fld.ne F_value_a_COUNT_name_4 Fv4 (fun q => arv_ne V_a_COUNT_name_value_4 Av4 (Or.inl (by decide)) (Value.ref.inj q)))) hZ4 (hw _ (List.mem_of_getElem? (i := 23) rfl)) (hw _ (List.mem_of_getElem? (i := 12) rfl)) (by decide) (by decide)) qq5a qq5c (g := (mkF m 42 #[.val (.int p0), .val (.int (0 : Int32)), .val (.ref a_COUNT), .val (.ref a_COUNT_name), .unset] [(.ref a4), (.ref a_COUNT_name)])) rfl (by rw [hml]; rfl) (Steps.refl _) (argsL := [(.ref a4)]) (rest := []) (lenOf pd_1 rfl) rfl (by show 2 * 0 + _ ≤ _; exact Nat.le_of_eq rfl) (hb hby at_42) (fun _ _ => ⟨rfl, e4, (by decide : 2 + 0 ≤ _), (by decide : 16 + 0 ≤ _)⟩)
    dsimp only [Pt.U, Pt.locs, Pt.cells, Pt.slots] at X5 l5 y5 z5 st5 hQ5
    subst l5 y5 z5
    obtain ⟨rfl, N5q, eq5⟩ := hQ5
    have N5 := Fr.app N3 N5q
    refine own_stepW (T' := T5) (g' := (mkF m 45 #[.val (.int p0), .val (.int (0 : Int32)), .val (.ref a_COUNT), .val (.ref a_COUNT_name), .unset] [(.int (0 : Int32))])) (fun t k => st5.trans k) ?_
    refine own_stepW (T' := T5) (g' := (mkF m 48 #[.val (.int p0), .val (.int (0 : Int32)), .val (.ref a_COUNT), .val (.ref a_COUNT_name), .unset] [])) (fun t k => XS.ifNo X5.here hx rfl (hb hby at_45) rfl ((if0 _ _).trans (teq (by decide : (0 : Int32) = (0 : Int32))).2) k) ?_
    refine own_stepW (T' := T5) (g' := (mkF m 49 #[.val (.int p0), .val (.int (0 : Int32)), .val (.ref a_COUNT), .val (.ref a_COUNT_name), .unset] [(.ref a_COUNT_name)])) (fun t k => XS.aloadN X5.here hx rfl (hb hby at_48) rfl rfl k) ?_
    obtain ⟨a6, T6, h6, kS6, b6, kb6, X6, e6, E6, hS6, hk6, hZ6, hown6, Es6, Fc6, Fv6, Av6, la6, lb6, C6, Lit6, Sf6, st6⟩ := ldcCH X5 hx hZ4 hown4 (hw _ (List.mem_of_getElem? (i := 33) rfl)) wS eq5 hS4 hk4 hEL (List.mem_of_getElem? (i := 1) rfl) H_4.1 (vs := [(.int (100 : Int32)), (.int (105 : Int32)), (.int (115 : Int32)), (.int (116 : Int32)), (.int (105 : Int32)), (.int (110 : Int32)), (.int (99 : Int32)), (.int (116 : Int32))]) (z := (8 : Int32)) ⟨by decide, by decide⟩ (by decide) (by decide) (g := (mkF m 49 #[.val (.int p0), .val (.int (0 : Int32)), .val (.ref a_COUNT), .val (.ref a_COUNT_name), .unset] [(.ref a_COUNT_name)])) rfl (hb hby at_49) (n := 32) (by decide) (by decide) (by decide) (by decide)
    have S_COUNT_6 : Sta Z h6 "com/example/risk_rule_engine/riskruleengine/rules/Statistic" "COUNT" "Lcom/example/risk_rule_engine/riskruleengine/rules/Statistic;" (.ref a_COUNT) := S_COUNT_4.ext E6
    have S_SUM_6 : Sta Z h6 "com/example/risk_rule_engine/riskruleengine/rules/Statistic" "SUM" "Lcom/example/risk_rule_engine/riskruleengine/rules/Statistic;" (.ref a_SUM) := S_SUM_4.ext E6
    have S_DISTINCT_6 : Sta Z h6 "com/example/risk_rule_engine/riskruleengine/rules/Statistic" "DISTINCT" "Lcom/example/risk_rule_engine/riskruleengine/rules/Statistic;" (.ref a_DISTINCT) := S_DISTINCT_4.ext E6
    have S_COMPACT_STRINGS_6 : Sta Z h6 "java/lang/String" "COMPACT_STRINGS" "Z" (.int G1) := S_COMPACT_STRINGS_4.ext E6
    have E_a_COUNT_6 : Exa Z h6 a_COUNT "com/example/risk_rule_engine/riskruleengine/rules/Statistic" := E_a_COUNT_4.ext E6
    have F_name_a_COUNT_6 : Fld Z h6 a_COUNT "com/example/risk_rule_engine/riskruleengine/rules/Statistic" "name" "Ljava/lang/String;" (.ref a_COUNT_name) := F_name_a_COUNT_4.ext E6
    have E_a_COUNT_name_6 : Exa Z h6 a_COUNT_name "java/lang/String" := E_a_COUNT_name_4.ext E6
    have F_coder_a_COUNT_name_6 : Fld Z h6 a_COUNT_name "java/lang/String" "coder" "B" (.int (0 : Int32)) := F_coder_a_COUNT_name_4.ext E6
    have F_value_a_COUNT_name_6 : Fld Z h6 a_COUNT_name "java/lang/String" "value" "[B" (.ref a_COUNT_name_value) := F_value_a_COUNT_name_4.ext E6
    have V_a_COUNT_name_value_6 : Arv Z h6 a_COUNT_name_value k_COUNT .byte (5 : Int32) [(.int (99 : Int32)), (.int (111 : Int32)), (.int (117 : Int32)), (.int (110 : Int32)), (.int (116 : Int32))] (.int (0 : Int32)) := V_a_COUNT_name_value_4.ext E6
    have E_a_SUM_6 : Exa Z h6 a_SUM "com/example/risk_rule_engine/riskruleengine/rules/Statistic" := E_a_SUM_4.ext E6
    have F_name_a_SUM_6 : Fld Z h6 a_SUM "com/example/risk_rule_engine/riskruleengine/rules/Statistic" "name" "Ljava/lang/String;" (.ref a_SUM_name) := F_name_a_SUM_4.ext E6
    have E_a_SUM_name_6 : Exa Z h6 a_SUM_name "java/lang/String" := E_a_SUM_name_4.ext E6
    have F_coder_a_SUM_name_6 : Fld Z h6 a_SUM_name "java/lang/String" "coder" "B" (.int (0 : Int32)) := F_coder_a_SUM_name_4.ext E6
    have F_value_a_SUM_name_6 : Fld Z h6 a_SUM_name "java/lang/String" "value" "[B" (.ref a_SUM_name_value) := F_value_a_SUM_name_4.ext E6
    have V_a_SUM_name_value_6 : Arv Z h6 a_SUM_name_value k_SUM .byte (3 : Int32) [(.int (115 : Int32)), (.int (117 : Int32)), (.int (109 : Int32))] (.int (0 : Int32)) := V_a_SUM_name_value_4.ext E6
    have E_a_DISTINCT_6 : Exa Z h6 a_DISTINCT "com/example/risk_rule_engine/riskruleengine/rules/Statistic" := E_a_DISTINCT_4.ext E6
    have F_name_a_DISTINCT_6 : Fld Z h6 a_DISTINCT "com/example/risk_rule_engine/riskruleengine/rules/Statistic" "name" "Ljava/lang/String;" (.ref a_DISTINCT_name) := F_name_a_DISTINCT_4.ext E6
    have E_a_DISTINCT_name_6 : Exa Z h6 a_DISTINCT_name "java/lang/String" := E_a_DISTINCT_name_4.ext E6
    have F_coder_a_DISTINCT_name_6 : Fld Z h6 a_DISTINCT_name "java/lang/String" "coder" "B" (.int (0 : Int32)) := F_coder_a_DISTINCT_name_4.ext E6
    have F_value_a_DISTINCT_name_6 : Fld Z h6 a_DISTINCT_name "java/lang/String" "value" "[B" (.ref a_DISTINCT_name_value) := F_value_a_DISTINCT_name_4.ext E6
    have V_a_DISTINCT_name_value_6 : Arv Z h6 a_DISTINCT_name_value k_DISTINCT .byte (8 : Int32) [(.int (100 : Int32)), (.int (105 : Int32)), (.int (115 : Int32)), (.int (116 : Int32)), (.int (105 : Int32)), (.int (110 : Int32)), (.int (99 : Int32)), (.int (116 : Int32))] (.int (0 : Int32)) := V_a_DISTINCT_name_value_4.ext E6
    have E_a4_6 : Exa Z h6 a4 "java/lang/String" := Es4.ext E6
    have F_coder_a4_6 : Fld Z h6 a4 "java/lang/String" "coder" "B" (.int 0) := Fc4.ext E6
    have F_value_a4_6 : Fld Z h6 a4 "java/lang/String" "value" "[B" (.ref b4) := Fv4.ext E6
    have V_b4_6 : Arv Z h6 b4 kb4 .byte (3 : Int32) [(.int (115 : Int32)), (.int (117 : Int32)), (.int (109 : Int32))] (.int 0) := Av4.ext E6
    have K_6 : Keep h0 h6 [] := K_4.ext E6
    have H_6 : CHr Z consts_1 s.vm h0 T6.vm h6 := H_4.trans C6
    have ne_a_COUNT_a6 := (Sf6 _ (Safe.exa hZ6.alike E_a_COUNT_6 (by decide) (by decide))).1
    have ne_a_COUNT_b6 := (Sf6 _ (Safe.exa hZ6.alike E_a_COUNT_6 (by decide) (by decide))).2
    have ne_a_SUM_a6 := (Sf6 _ (Safe.exa hZ6.alike E_a_SUM_6 (by decide) (by decide))).1
    have ne_a_SUM_b6 := (Sf6 _ (Safe.exa hZ6.alike E_a_SUM_6 (by decide) (by decide))).2
    have ne_a_DISTINCT_a6 := (Sf6 _ (Safe.exa hZ6.alike E_a_DISTINCT_6 (by decide) (by decide))).1
    have ne_a_DISTINCT_b6 := (Sf6 _ (Safe.exa hZ6.alike E_a_DISTINCT_6 (by decide) (by decide))).2
    refine own_stepW (T' := T6) (g' := (mkF m 51 #[.val (.int p0), .val (.int (0 : Int32)), .val (.ref a_COUNT), .val (.ref a_COUNT_name), .unset] [(.ref a6), (.ref a_COUNT_name)])) st6 ?_
    obtain ⟨cq7, kq7, qq7a, qq7b, qq7c⟩ := isOf hZ6 e6 E_a_COUNT_name_6
    obtain ⟨_, _, ⟨T7, L7, kk7, nn7⟩, -, X7, ⟨Lc7, hQ7, l7, y7, z7⟩, st7⟩ := X6.virtualBack hx (y := (⟨"java/lang/String", "equals", "(Ljava/lang/Object;)Z"⟩ : MethodName)) (z := (⟨"java/lang/String", "equals", "(Ljava/lang/Object;)Z"⟩ : MethodName)) hown6 (mvT hZ6 (hw _ (List.mem_of_getElem? (i := 19) rfl))) (mvT hZ6 (hw _ (List.mem_of_getElem? (i := 20) rfl))) (notFace_of_selects (args := #[]) (mvT hZ6 (hw _ (List.mem_of_getElem? (i := 22) rfl)))) (mvT hZ6 (hw _ (List.mem_of_getElem? (i := 22) rfl))) (mvT hZ6 (hw _ (List.mem_of_getElem? (i := 21) rfl))) (by decide) (backOf (W := 0) (rm2_count_distinct l Z a0 hw [] a_COUNT_name a6 a_COUNT_name_value b6 k_COUNT kb6 G1 h6 n0 (Nat.le_trans Z0 K_6.1) E_a_COUNT_name_6 Es6 F_coder_a_COUNT_name_6 Fc6 F_value_a_COUNT_name_6 Fv6 V_a_COUNT_name_value_6 Av6 S_COMPACT_STRINGS_6 P5 (Fld.ne F_value_a_COUNT_name_6 Fv6 (fun q => arv_ne V_a_COUNT_name_value_6 Av6 (Or.inl (by decide)) (Value.ref.inj q)))) hZ6 (hw _ (List.mem_of_getElem? (i := 23) rfl)) (hw _ (List.mem_of_getElem? (i := 12) rfl)) (by decide) (by decide)) qq7a qq7c (g := (mkF m 51 #[.val (.int p0), .val (.int (0 : Int32)), .val (.ref a_COUNT), .val (.ref a_COUNT_name), .unset] [(.ref a6), (.ref a_COUNT_name)])) rfl (by rw [hml]; rfl) (Steps.refl _) (argsL := [(.ref a6)]) (rest := []) (lenOf pd_1 rfl) rfl (by show 2 * 0 + _ ≤ _; exact Nat.le_of_eq rfl) (hb hby at_51) (fun _ _ => ⟨rfl, e6, (by decide : 4 + 0 ≤ _), (by decide : 52 + 0 ≤ _)⟩)
    dsimp only [Pt.U, Pt.locs, Pt.cells, Pt.slots] at X7 l7 y7 z7 st7 hQ7
    subst l7 y7 z7
    obtain ⟨rfl, N7q, eq7⟩ := hQ7
    have N7 := Fr.app N5 N7q
    refine own_stepW (T' := T7) (g' := (mkF m 54 #[.val (.int p0), .val (.int (0 : Int32)), .val (.ref a_COUNT), .val (.ref a_COUNT_name), .unset] [(.int (0 : Int32))])) (fun t k => st7.trans k) ?_
    refine own_stepW (T' := T7) (g' := (mkF m 61 #[.val (.int p0), .val (.int (0 : Int32)), .val (.ref a_COUNT), .val (.ref a_COUNT_name), .unset] [])) (fun t k => XS.ifYes X7.here hx rfl (pc0 := 54) (pc' := 61) rfl (hb hby at_54) rfl ((if0 _ _).trans (teq (by decide : (0 : Int32) = (0 : Int32))).1) (by decide) (by decide) k) ?_
    refine own_stepW (T' := T7) (g' := (mkF m 62 #[.val (.int p0), .val (.int (0 : Int32)), .val (.ref a_COUNT), .val (.ref a_COUNT_name), .unset] [(.int (0 : Int32))])) (fun t k => XS.iconst X7.here hx rfl (hb hby at_61) k) ?_
    refine own_stepW (T' := T7) (g' := (mkF m 64 #[.val (.int p0), .val (.int (0 : Int32)), .val (.ref a_COUNT), .val (.ref a_COUNT_name), .val (.int (0 : Int32))] [])) (fun t k => XS.istore X7.here hx rfl (hb hby at_62) rfl (l' := #[.val (.int p0), .val (.int (0 : Int32)), .val (.ref a_COUNT), .val (.ref a_COUNT_name), .val (.int (0 : Int32))]) rfl k) ?_
    refine own_stepW (T' := T7) (g' := (mkF m 65 #[.val (.int p0), .val (.int (0 : Int32)), .val (.ref a_COUNT), .val (.ref a_COUNT_name), .val (.int (0 : Int32))] [(.ref a_COUNT)])) (fun t k => XS.aloadN X7.here hx rfl (hb hby at_64) rfl rfl k) ?_
    obtain ⟨cq8, kq8, qq8a, qq8b, qq8c⟩ := isOf hZ6 eq7 E_a_COUNT_6
    obtain ⟨_, _, ⟨T8, L8, kk8, nn8⟩, -, X8, ⟨Lc8, hQ8, l8, y8, z8⟩, st8⟩ := X7.virtualBack hx (y := (⟨"com/example/risk_rule_engine/riskruleengine/rules/Statistic", "ofField", "()Z"⟩ : MethodName)) (z := (⟨"com/example/risk_rule_engine/riskruleengine/rules/Statistic", "ofField", "()Z"⟩ : MethodName)) hown6 (mvT hZ6 (hw _ (List.mem_of_getElem? (i := 34) rfl))) (mvT hZ6 (hw _ (List.mem_of_getElem? (i := 35) rfl))) (notFace_of_selects (args := #[]) (mvT hZ6 (hw _ (List.mem_of_getElem? (i := 37) rfl)))) (mvT hZ6 (hw _ (List.mem_of_getElem? (i := 37) rfl))) (mvT hZ6 (hw _ (List.mem_of_getElem? (i := 36) rfl))) (by decide) (backOf (W := 0) (rm4 l Z a0 hw [] a_COUNT a_COUNT h6 n0 (Nat.le_trans Z0 K_6.1) S_COUNT_6) hZ6 (hw _ (List.mem_of_getElem? (i := 38) rfl)) (hw _ (List.mem_of_getElem? (i := 2) rfl)) (by decide) (by decide)) qq8a qq8c (g := (mkF m 65 #[.val (.int p0), .val (.int (0 : Int32)), .val (.ref a_COUNT), .val (.ref a_COUNT_name), .val (.int (0 : Int32))] [(.ref a_COUNT)])) rfl (by rw [hml]; rfl) (Steps.refl _) (argsL := []) (rest := []) (lenOf pd_3 rfl) rfl (by show 2 * 0 + _ ≤ _; exact Nat.le_of_eq rfl) (hb hby at_65) (fun _ _ => ⟨rfl, eq7, (by decide : 4 + 0 ≤ _), (by decide : 52 + 0 ≤ _)⟩)
    dsimp only [Pt.U, Pt.locs, Pt.cells, Pt.slots] at X8 l8 y8 z8 st8 hQ8
    subst l8 y8 z8
    obtain ⟨rfl, N8q, eq8⟩ := hQ8
    have N8 := Fr.app N7 N8q
    refine own_stepW (T' := T8) (g' := (mkF m 68 #[.val (.int p0), .val (.int (0 : Int32)), .val (.ref a_COUNT), .val (.ref a_COUNT_name), .val (.int (0 : Int32))] [(.int (fn4 a_COUNT a_COUNT))])) (fun t k => st8.trans k) ?_
    refine own_stepW (T' := T8) (g' := (mkF m 70 #[.val (.int p0), .val (.int (0 : Int32)), .val (.ref a_COUNT), .val (.ref a_COUNT_name), .val (.int (0 : Int32))] [(.int (0 : Int32)), (.int (fn4 a_COUNT a_COUNT))])) (fun t k => XS.iload X8.here hx rfl (hb hby at_68) rfl k) ?_
    refine own_stepW (T' := T8) (g' := (mkF m 73 #[.val (.int p0), .val (.int (0 : Int32)), .val (.ref a_COUNT), .val (.ref a_COUNT_name), .val (.int (0 : Int32))] [])) (fun t k => XS.icmpNo X8.here hx rfl (hb hby at_70) rfl (teq (by unfold fn4; rw [if_pos rfl])).2 k) ?_
    refine own_stepW (T' := T8) (g' := (mkF m 74 #[.val (.int p0), .val (.int (0 : Int32)), .val (.ref a_COUNT), .val (.ref a_COUNT_name), .val (.int (0 : Int32))] [(.int (1 : Int32))])) (fun t k => XS.iconst X8.here hx rfl (hb hby at_73) k) ?_
    refine own_stepW (T' := T8) (g' := (mkF m 78 #[.val (.int p0), .val (.int (0 : Int32)), .val (.ref a_COUNT), .val (.ref a_COUNT_name), .val (.int (0 : Int32))] [(.int (1 : Int32))])) (fun t k => XS.goto X8.here hx rfl (pc0 := 74) (pc' := 78) rfl (hb hby at_74) (by decide) (by decide) k) ?_
    have hend10 := own_endW X8 hZ6 hEL eq8 H_6
    have hks10 : kS6 ≤ T8.heap.size := by rw [eq8]; exact hk6
    refine own_retNW X8 hx hlk hS6 hks10 hend10 (t := .boolean) (w := (1 : Int32)) Bd.returns (by simp) (hb hby at_78) rfl (by decide) (by decide) ?_
    exact ⟨rfl, N8⟩
  · skip
    refine own_stepW (T' := s₁) (g' := (mkF m 8 #[.val (.int p0), .val (.int (1 : Int32)), .unset, .unset, .unset] [(.int (1 : Int32))])) (fun t k => XS.iloadN X0.here hx rfl (hb hby at_7) rfl k) ?_
    refine own_stepW (T' := s₁) (g' := (mkF m 18 #[.val (.int p0), .val (.int (1 : Int32)), .unset, .unset, .unset] [])) (fun t k => XS.ifYes X0.here hx rfl (pc0 := 8) (pc' := 18) rfl (hb hby at_8) rfl ((if0 _ _).trans (feq (by decide : ¬ ((1 : Int32) = (0 : Int32)))).2) (by decide) (by decide) k) ?_
    refine own_stepW (T' := s₁) (g' := (mkF m 19 #[.val (.int p0), .val (.int (1 : Int32)), .unset, .unset, .unset] [(.int (1 : Int32))])) (fun t k => XS.iloadN X0.here hx rfl (hb hby at_18) rfl k) ?_
    refine own_stepW (T' := s₁) (g' := (mkF m 20 #[.val (.int p0), .val (.int (1 : Int32)), .unset, .unset, .unset] [(.int (1 : Int32)), (.int (1 : Int32))])) (fun t k => XS.iconst X0.here hx rfl (hb hby at_19) k) ?_
    refine own_stepW (T' := s₁) (g' := (mkF m 23 #[.val (.int p0), .val (.int (1 : Int32)), .unset, .unset, .unset] [])) (fun t k => XS.icmpNo X0.here hx rfl (hb hby at_20) rfl (teq (by decide : (1 : Int32) = (1 : Int32))).2 k) ?_
    obtain ⟨T11, X11, e11, st11⟩ := getS2 X0 hx hZ hown (host := "") (Or.inl (hw _ (List.mem_of_getElem? (i := 42) rfl))) Via.refl e0 S_SUM (g := (mkF m 23 #[.val (.int p0), .val (.int (1 : Int32)), .unset, .unset, .unset] [])) rfl (hb hby at_23)
    refine own_stepW (T' := T11) (g' := (mkF m 26 #[.val (.int p0), .val (.int (1 : Int32)), .unset, .unset, .unset] [(.ref a_SUM)])) st11 ?_
    refine own_stepW (T' := T11) (g' := (mkF m 27 #[.val (.int p0), .val (.int (1 : Int32)), .val (.ref a_SUM), .unset, .unset] [])) (fun t k => XS.astoreN X11.here hx rfl (hb hby at_26) rfl rfl (l' := #[.val (.int p0), .val (.int (1 : Int32)), .val (.ref a_SUM), .unset, .unset]) rfl k) ?_
    refine own_stepW (T' := T11) (g' := (mkF m 34 #[.val (.int p0), .val (.int (1 : Int32)), .val (.ref a_SUM), .unset, .unset] [])) (fun t k => XS.goto X11.here hx rfl (pc0 := 27) (pc' := 34) rfl (hb hby at_27) (by decide) (by decide) k) ?_
    refine own_stepW (T' := T11) (g' := (mkF m 35 #[.val (.int p0), .val (.int (1 : Int32)), .val (.ref a_SUM), .unset, .unset] [(.ref a_SUM)])) (fun t k => XS.aloadN X11.here hx rfl (hb hby at_34) rfl rfl k) ?_
    obtain ⟨cq12, kq12, qq12a, qq12b, qq12c⟩ := isOf hZ e11 E_a_SUM
    obtain ⟨_, _, ⟨T12, L12, kk12, nn12⟩, -, X12, ⟨Lc12, hQ12, l12, y12, z12⟩, st12⟩ := X11.virtualBack hx (y := (⟨"com/example/risk_rule_engine/riskruleengine/rules/Statistic", "toString", "()Ljava/lang/String;"⟩ : MethodName)) (z := (⟨"com/example/risk_rule_engine/riskruleengine/rules/Statistic", "toString", "()Ljava/lang/String;"⟩ : MethodName)) hown (mvT hZ (hw _ (List.mem_of_getElem? (i := 4) rfl))) (mvT hZ (hw _ (List.mem_of_getElem? (i := 5) rfl))) (notFace_of_selects (args := #[]) (mvT hZ (hw _ (List.mem_of_getElem? (i := 7) rfl)))) (mvT hZ (hw _ (List.mem_of_getElem? (i := 7) rfl))) (mvT hZ (hw _ (List.mem_of_getElem? (i := 6) rfl))) (by decide) (backOf (W := 0) (rm1 l Z a0 hw [] a_SUM a_SUM_name h0 n0 (Nat.le_trans Z0 K0.1) F_name_a_SUM) hZ (hw _ (List.mem_of_getElem? (i := 8) rfl)) (hw _ (List.mem_of_getElem? (i := 2) rfl)) (by decide) (by decide)) qq12a qq12c (g := (mkF m 35 #[.val (.int p0), .val (.int (1 : Int32)), .val (.ref a_SUM), .unset, .unset] [(.ref a_SUM)])) rfl (by rw [hml]; rfl) (Steps.refl _) (argsL := []) (rest := []) (lenOf pd_0 rfl) rfl (by show 2 * 0 + _ ≤ _; exact Nat.le_of_eq rfl) (hb hby at_35) (fun _ _ => ⟨rfl, e11, (by decide : 0 + 0 ≤ _), (by decide : 0 + 0 ≤ _)⟩)
    dsimp only [Pt.U, Pt.locs, Pt.cells, Pt.slots] at X12 l12 y12 z12 st12 hQ12
    subst l12 y12 z12
    obtain ⟨rfl, N12q, eq12⟩ := hQ12
    have N12 := Fr.app N0 N12q
    refine own_stepW (T' := T12) (g' := (mkF m 38 #[.val (.int p0), .val (.int (1 : Int32)), .val (.ref a_SUM), .unset, .unset] [(.ref a_SUM_name)])) (fun t k => st12.trans k) ?_
    refine own_stepW (T' := T12) (g' := (mkF m 39 #[.val (.int p0), .val (.int (1 : Int32)), .val (.ref a_SUM), .val (.ref a_SUM_name), .unset] [])) (fun t k => XS.astoreN X12.here hx rfl (hb hby at_38) rfl rfl (l' := #[.val (.int p0), .val (.int (1 : Int32)), .val (.ref a_SUM), .val (.ref a_SUM_name), .unset]) rfl k) ?_
    refine own_stepW (T' := T12) (g' := (mkF m 40 #[.val (.int p0), .val (.int (1 : Int32)), .val (.ref a_SUM), .val (.ref a_SUM_name), .unset] [(.ref a_SUM_name)])) (fun t k => XS.aloadN X12.here hx rfl (hb hby at_39) rfl rfl k) ?_
    obtain ⟨a13, T13, h13, kS13, b13, kb13, X13, e13, E13, hS13, hk13, hZ13, hown13, Es13, Fc13, Fv13, Av13, la13, lb13, C13, Lit13, Sf13, st13⟩ := ldcCH X12 hx hZ hown (hw _ (List.mem_of_getElem? (i := 11) rfl)) wS eq12 hS0 hk0 hEL (List.mem_of_getElem? (i := 0) rfl) H0.1 (vs := [(.int (115 : Int32)), (.int (117 : Int32)), (.int (109 : Int32))]) (z := (3 : Int32)) ⟨by decide, by decide⟩ (by decide) (by decide) (g := (mkF m 40 #[.val (.int p0), .val (.int (1 : Int32)), .val (.ref a_SUM), .val (.ref a_SUM_name), .unset] [(.ref a_SUM_name)])) rfl (hb hby at_40) (n := 12) (by decide) (by decide) (by decide) (by decide)
    have S_COUNT_13 : Sta Z h13 "com/example/risk_rule_engine/riskruleengine/rules/Statistic" "COUNT" "Lcom/example/risk_rule_engine/riskruleengine/rules/Statistic;" (.ref a_COUNT) := S_COUNT.ext E13
    have S_SUM_13 : Sta Z h13 "com/example/risk_rule_engine/riskruleengine/rules/Statistic" "SUM" "Lcom/example/risk_rule_engine/riskruleengine/rules/Statistic;" (.ref a_SUM) := S_SUM.ext E13
    have S_DISTINCT_13 : Sta Z h13 "com/example/risk_rule_engine/riskruleengine/rules/Statistic" "DISTINCT" "Lcom/example/risk_rule_engine/riskruleengine/rules/Statistic;" (.ref a_DISTINCT) := S_DISTINCT.ext E13
    have S_COMPACT_STRINGS_13 : Sta Z h13 "java/lang/String" "COMPACT_STRINGS" "Z" (.int G1) := S_COMPACT_STRINGS.ext E13
    have E_a_COUNT_13 : Exa Z h13 a_COUNT "com/example/risk_rule_engine/riskruleengine/rules/Statistic" := E_a_COUNT.ext E13
    have F_name_a_COUNT_13 : Fld Z h13 a_COUNT "com/example/risk_rule_engine/riskruleengine/rules/Statistic" "name" "Ljava/lang/String;" (.ref a_COUNT_name) := F_name_a_COUNT.ext E13
    have E_a_COUNT_name_13 : Exa Z h13 a_COUNT_name "java/lang/String" := E_a_COUNT_name.ext E13
    have F_coder_a_COUNT_name_13 : Fld Z h13 a_COUNT_name "java/lang/String" "coder" "B" (.int (0 : Int32)) := F_coder_a_COUNT_name.ext E13
    have F_value_a_COUNT_name_13 : Fld Z h13 a_COUNT_name "java/lang/String" "value" "[B" (.ref a_COUNT_name_value) := F_value_a_COUNT_name.ext E13
    have V_a_COUNT_name_value_13 : Arv Z h13 a_COUNT_name_value k_COUNT .byte (5 : Int32) [(.int (99 : Int32)), (.int (111 : Int32)), (.int (117 : Int32)), (.int (110 : Int32)), (.int (116 : Int32))] (.int (0 : Int32)) := V_a_COUNT_name_value.ext E13
    have E_a_SUM_13 : Exa Z h13 a_SUM "com/example/risk_rule_engine/riskruleengine/rules/Statistic" := E_a_SUM.ext E13
    have F_name_a_SUM_13 : Fld Z h13 a_SUM "com/example/risk_rule_engine/riskruleengine/rules/Statistic" "name" "Ljava/lang/String;" (.ref a_SUM_name) := F_name_a_SUM.ext E13
    have E_a_SUM_name_13 : Exa Z h13 a_SUM_name "java/lang/String" := E_a_SUM_name.ext E13
    have F_coder_a_SUM_name_13 : Fld Z h13 a_SUM_name "java/lang/String" "coder" "B" (.int (0 : Int32)) := F_coder_a_SUM_name.ext E13
    have F_value_a_SUM_name_13 : Fld Z h13 a_SUM_name "java/lang/String" "value" "[B" (.ref a_SUM_name_value) := F_value_a_SUM_name.ext E13
    have V_a_SUM_name_value_13 : Arv Z h13 a_SUM_name_value k_SUM .byte (3 : Int32) [(.int (115 : Int32)), (.int (117 : Int32)), (.int (109 : Int32))] (.int (0 : Int32)) := V_a_SUM_name_value.ext E13
    have E_a_DISTINCT_13 : Exa Z h13 a_DISTINCT "com/example/risk_rule_engine/riskruleengine/rules/Statistic" := E_a_DISTINCT.ext E13
    have F_name_a_DISTINCT_13 : Fld Z h13 a_DISTINCT "com/example/risk_rule_engine/riskruleengine/rules/Statistic" "name" "Ljava/lang/String;" (.ref a_DISTINCT_name) := F_name_a_DISTINCT.ext E13
    have E_a_DISTINCT_name_13 : Exa Z h13 a_DISTINCT_name "java/lang/String" := E_a_DISTINCT_name.ext E13
    have F_coder_a_DISTINCT_name_13 : Fld Z h13 a_DISTINCT_name "java/lang/String" "coder" "B" (.int (0 : Int32)) := F_coder_a_DISTINCT_name.ext E13
    have F_value_a_DISTINCT_name_13 : Fld Z h13 a_DISTINCT_name "java/lang/String" "value" "[B" (.ref a_DISTINCT_name_value) := F_value_a_DISTINCT_name.ext E13
    have V_a_DISTINCT_name_value_13 : Arv Z h13 a_DISTINCT_name_value k_DISTINCT .byte (8 : Int32) [(.int (100 : Int32)), (.int (105 : Int32)), (.int (115 : Int32)), (.int (116 : Int32)), (.int (105 : Int32)), (.int (110 : Int32)), (.int (99 : Int32)), (.int (116 : Int32))] (.int (0 : Int32)) := V_a_DISTINCT_name_value.ext E13
    have K_13 : Keep h0 h13 [] := K0.ext E13
    have H_13 : CHr Z consts_1 s.vm h0 T13.vm h13 := H0.trans C13
    have ne_a_COUNT_a13 := (Sf13 _ (Safe.exa hZ13.alike E_a_COUNT_13 (by decide) (by decide))).1
    have ne_a_COUNT_b13 := (Sf13 _ (Safe.exa hZ13.alike E_a_COUNT_13 (by decide) (by decide))).2
    have ne_a_SUM_a13 := (Sf13 _ (Safe.exa hZ13.alike E_a_SUM_13 (by decide) (by decide))).1
    have ne_a_SUM_b13 := (Sf13 _ (Safe.exa hZ13.alike E_a_SUM_13 (by decide) (by decide))).2
    have ne_a_DISTINCT_a13 := (Sf13 _ (Safe.exa hZ13.alike E_a_DISTINCT_13 (by decide) (by decide))).1
    have ne_a_DISTINCT_b13 := (Sf13 _ (Safe.exa hZ13.alike E_a_DISTINCT_13 (by decide) (by decide))).2
    refine own_stepW (T' := T13) (g' := (mkF m 42 #[.val (.int p0), .val (.int (1 : Int32)), .val (.ref a_SUM), .val (.ref a_SUM_name), .unset] [(.ref a13), (.ref a_SUM_name)])) st13 ?_
    obtain ⟨cq14, kq14, qq14a, qq14b, qq14c⟩ := isOf hZ13 e13 E_a_SUM_name_13
    obtain ⟨_, _, ⟨T14, L14, kk14, nn14⟩, -, X14, ⟨Lc14, hQ14, l14, y14, z14⟩, st14⟩ := X13.virtualBack hx (y := (⟨"java/lang/String", "equals", "(Ljava/lang/Object;)Z"⟩ : MethodName)) (z := (⟨"java/lang/String", "equals", "(Ljava/lang/Object;)Z"⟩ : MethodName)) hown13 (mvT hZ13 (hw _ (List.mem_of_getElem? (i := 19) rfl))) (mvT hZ13 (hw _ (List.mem_of_getElem? (i := 20) rfl))) (notFace_of_selects (args := #[]) (mvT hZ13 (hw _ (List.mem_of_getElem? (i := 22) rfl)))) (mvT hZ13 (hw _ (List.mem_of_getElem? (i := 22) rfl))) (mvT hZ13 (hw _ (List.mem_of_getElem? (i := 21) rfl))) (by decide) (backOf (W := 0) (rm2_sum_sum l Z a0 hw [] a_SUM_name a13 a_SUM_name_value b13 k_SUM kb13 G1 h13 n0 (Nat.le_trans Z0 K_13.1) E_a_SUM_name_13 Es13 F_coder_a_SUM_name_13 Fc13 F_value_a_SUM_name_13 Fv13 V_a_SUM_name_value_13 Av13 S_COMPACT_STRINGS_13 P5) hZ13 (hw _ (List.mem_of_getElem? (i := 23) rfl)) (hw _ (List.mem_of_getElem? (i := 12) rfl)) (by decide) (by decide)) qq14a qq14c (g := (mkF m 42 #[.val (.int p0), .val (.int (1 : Int32)), .val (.ref a_SUM), .val (.ref a_SUM_name), .unset] [(.ref a13), (.ref a_SUM_name)])) rfl (by rw [hml]; rfl) (Steps.refl _) (argsL := [(.ref a13)]) (rest := []) (lenOf pd_1 rfl) rfl (by show 2 * 0 + _ ≤ _; exact Nat.le_of_eq rfl) (hb hby at_42) (fun _ _ => ⟨rfl, e13, (by decide : 2 + 0 ≤ _), (by decide : 16 + 0 ≤ _)⟩)
    dsimp only [Pt.U, Pt.locs, Pt.cells, Pt.slots] at X14 l14 y14 z14 st14 hQ14
    subst l14 y14 z14
    obtain ⟨rfl, N14q, eq14⟩ := hQ14
    have N14 := Fr.app N12 N14q
    refine own_stepW (T' := T14) (g' := (mkF m 45 #[.val (.int p0), .val (.int (1 : Int32)), .val (.ref a_SUM), .val (.ref a_SUM_name), .unset] [(.int (1 : Int32))])) (fun t k => st14.trans k) ?_
    refine own_stepW (T' := T14) (g' := (mkF m 57 #[.val (.int p0), .val (.int (1 : Int32)), .val (.ref a_SUM), .val (.ref a_SUM_name), .unset] [])) (fun t k => XS.ifYes X14.here hx rfl (pc0 := 45) (pc' := 57) rfl (hb hby at_45) rfl ((if0 _ _).trans (feq (by decide : ¬ ((1 : Int32) = (0 : Int32)))).2) (by decide) (by decide) k) ?_
    refine own_stepW (T' := T14) (g' := (mkF m 58 #[.val (.int p0), .val (.int (1 : Int32)), .val (.ref a_SUM), .val (.ref a_SUM_name), .unset] [(.int (1 : Int32))])) (fun t k => XS.iconst X14.here hx rfl (hb hby at_57) k) ?_
    refine own_stepW (T' := T14) (g' := (mkF m 62 #[.val (.int p0), .val (.int (1 : Int32)), .val (.ref a_SUM), .val (.ref a_SUM_name), .unset] [(.int (1 : Int32))])) (fun t k => XS.goto X14.here hx rfl (pc0 := 58) (pc' := 62) rfl (hb hby at_58) (by decide) (by decide) k) ?_
    refine own_stepW (T' := T14) (g' := (mkF m 64 #[.val (.int p0), .val (.int (1 : Int32)), .val (.ref a_SUM), .val (.ref a_SUM_name), .val (.int (1 : Int32))] [])) (fun t k => XS.istore X14.here hx rfl (hb hby at_62) rfl (l' := #[.val (.int p0), .val (.int (1 : Int32)), .val (.ref a_SUM), .val (.ref a_SUM_name), .val (.int (1 : Int32))]) rfl k) ?_
    refine own_stepW (T' := T14) (g' := (mkF m 65 #[.val (.int p0), .val (.int (1 : Int32)), .val (.ref a_SUM), .val (.ref a_SUM_name), .val (.int (1 : Int32))] [(.ref a_SUM)])) (fun t k => XS.aloadN X14.here hx rfl (hb hby at_64) rfl rfl k) ?_
    obtain ⟨cq15, kq15, qq15a, qq15b, qq15c⟩ := isOf hZ13 eq14 E_a_SUM_13
    obtain ⟨_, _, ⟨T15, L15, kk15, nn15⟩, -, X15, ⟨Lc15, hQ15, l15, y15, z15⟩, st15⟩ := X14.virtualBack hx (y := (⟨"com/example/risk_rule_engine/riskruleengine/rules/Statistic", "ofField", "()Z"⟩ : MethodName)) (z := (⟨"com/example/risk_rule_engine/riskruleengine/rules/Statistic", "ofField", "()Z"⟩ : MethodName)) hown13 (mvT hZ13 (hw _ (List.mem_of_getElem? (i := 34) rfl))) (mvT hZ13 (hw _ (List.mem_of_getElem? (i := 35) rfl))) (notFace_of_selects (args := #[]) (mvT hZ13 (hw _ (List.mem_of_getElem? (i := 37) rfl)))) (mvT hZ13 (hw _ (List.mem_of_getElem? (i := 37) rfl))) (mvT hZ13 (hw _ (List.mem_of_getElem? (i := 36) rfl))) (by decide) (backOf (W := 0) (rm4 l Z a0 hw [] a_SUM a_COUNT h13 n0 (Nat.le_trans Z0 K_13.1) S_COUNT_13) hZ13 (hw _ (List.mem_of_getElem? (i := 38) rfl)) (hw _ (List.mem_of_getElem? (i := 2) rfl)) (by decide) (by decide)) qq15a qq15c (g := (mkF m 65 #[.val (.int p0), .val (.int (1 : Int32)), .val (.ref a_SUM), .val (.ref a_SUM_name), .val (.int (1 : Int32))] [(.ref a_SUM)])) rfl (by rw [hml]; rfl) (Steps.refl _) (argsL := []) (rest := []) (lenOf pd_3 rfl) rfl (by show 2 * 0 + _ ≤ _; exact Nat.le_of_eq rfl) (hb hby at_65) (fun _ _ => ⟨rfl, eq14, (by decide : 2 + 0 ≤ _), (by decide : 16 + 0 ≤ _)⟩)
    dsimp only [Pt.U, Pt.locs, Pt.cells, Pt.slots] at X15 l15 y15 z15 st15 hQ15
    subst l15 y15 z15
    obtain ⟨rfl, N15q, eq15⟩ := hQ15
    have N15 := Fr.app N14 N15q
    refine own_stepW (T' := T15) (g' := (mkF m 68 #[.val (.int p0), .val (.int (1 : Int32)), .val (.ref a_SUM), .val (.ref a_SUM_name), .val (.int (1 : Int32))] [(.int (fn4 a_SUM a_COUNT))])) (fun t k => st15.trans k) ?_
    refine own_stepW (T' := T15) (g' := (mkF m 70 #[.val (.int p0), .val (.int (1 : Int32)), .val (.ref a_SUM), .val (.ref a_SUM_name), .val (.int (1 : Int32))] [(.int (1 : Int32)), (.int (fn4 a_SUM a_COUNT))])) (fun t k => XS.iload X15.here hx rfl (hb hby at_68) rfl k) ?_
    refine own_stepW (T' := T15) (g' := (mkF m 73 #[.val (.int p0), .val (.int (1 : Int32)), .val (.ref a_SUM), .val (.ref a_SUM_name), .val (.int (1 : Int32))] [])) (fun t k => XS.icmpNo X15.here hx rfl (hb hby at_70) rfl (teq (by unfold fn4; rw [if_neg ne_SUM])).2 k) ?_
    refine own_stepW (T' := T15) (g' := (mkF m 74 #[.val (.int p0), .val (.int (1 : Int32)), .val (.ref a_SUM), .val (.ref a_SUM_name), .val (.int (1 : Int32))] [(.int (1 : Int32))])) (fun t k => XS.iconst X15.here hx rfl (hb hby at_73) k) ?_
    refine own_stepW (T' := T15) (g' := (mkF m 78 #[.val (.int p0), .val (.int (1 : Int32)), .val (.ref a_SUM), .val (.ref a_SUM_name), .val (.int (1 : Int32))] [(.int (1 : Int32))])) (fun t k => XS.goto X15.here hx rfl (pc0 := 74) (pc' := 78) rfl (hb hby at_74) (by decide) (by decide) k) ?_
    have hend17 := own_endW X15 hZ13 hEL eq15 H_13
    have hks17 : kS13 ≤ T15.heap.size := by rw [eq15]; exact hk13
    refine own_retNW X15 hx hlk hS13 hks17 hend17 (t := .boolean) (w := (1 : Int32)) Bd.returns (by simp) (hb hby at_78) rfl (by decide) (by decide) ?_
    exact ⟨rfl, N15⟩
  · skip
    refine own_stepW (T' := s₁) (g' := (mkF m 8 #[.val (.int p0), .val (.int (2 : Int32)), .unset, .unset, .unset] [(.int (2 : Int32))])) (fun t k => XS.iloadN X0.here hx rfl (hb hby at_7) rfl k) ?_
    refine own_stepW (T' := s₁) (g' := (mkF m 18 #[.val (.int p0), .val (.int (2 : Int32)), .unset, .unset, .unset] [])) (fun t k => XS.ifYes X0.here hx rfl (pc0 := 8) (pc' := 18) rfl (hb hby at_8) rfl ((if0 _ _).trans (feq (by decide : ¬ ((2 : Int32) = (0 : Int32)))).2) (by decide) (by decide) k) ?_
    refine own_stepW (T' := s₁) (g' := (mkF m 19 #[.val (.int p0), .val (.int (2 : Int32)), .unset, .unset, .unset] [(.int (2 : Int32))])) (fun t k => XS.iloadN X0.here hx rfl (hb hby at_18) rfl k) ?_
    refine own_stepW (T' := s₁) (g' := (mkF m 20 #[.val (.int p0), .val (.int (2 : Int32)), .unset, .unset, .unset] [(.int (1 : Int32)), (.int (2 : Int32))])) (fun t k => XS.iconst X0.here hx rfl (hb hby at_19) k) ?_
    refine own_stepW (T' := s₁) (g' := (mkF m 30 #[.val (.int p0), .val (.int (2 : Int32)), .unset, .unset, .unset] [])) (fun t k => XS.icmpYes X0.here hx rfl (pc0 := 20) (pc' := 30) rfl (hb hby at_20) rfl (feq (by decide : ¬ ((2 : Int32) = (1 : Int32)))).2 (by decide) (by decide) k) ?_
    obtain ⟨T18, X18, e18, st18⟩ := getS2 X0 hx hZ hown (host := "") (Or.inl (hw _ (List.mem_of_getElem? (i := 40) rfl))) Via.refl e0 S_DISTINCT (g := (mkF m 30 #[.val (.int p0), .val (.int (2 : Int32)), .unset, .unset, .unset] [])) rfl (hb hby at_30)
    refine own_stepW (T' := T18) (g' := (mkF m 33 #[.val (.int p0), .val (.int (2 : Int32)), .unset, .unset, .unset] [(.ref a_DISTINCT)])) st18 ?_
    refine own_stepW (T' := T18) (g' := (mkF m 34 #[.val (.int p0), .val (.int (2 : Int32)), .val (.ref a_DISTINCT), .unset, .unset] [])) (fun t k => XS.astoreN X18.here hx rfl (hb hby at_33) rfl rfl (l' := #[.val (.int p0), .val (.int (2 : Int32)), .val (.ref a_DISTINCT), .unset, .unset]) rfl k) ?_
    refine own_stepW (T' := T18) (g' := (mkF m 35 #[.val (.int p0), .val (.int (2 : Int32)), .val (.ref a_DISTINCT), .unset, .unset] [(.ref a_DISTINCT)])) (fun t k => XS.aloadN X18.here hx rfl (hb hby at_34) rfl rfl k) ?_
    obtain ⟨cq19, kq19, qq19a, qq19b, qq19c⟩ := isOf hZ e18 E_a_DISTINCT
    obtain ⟨_, _, ⟨T19, L19, kk19, nn19⟩, -, X19, ⟨Lc19, hQ19, l19, y19, z19⟩, st19⟩ := X18.virtualBack hx (y := (⟨"com/example/risk_rule_engine/riskruleengine/rules/Statistic", "toString", "()Ljava/lang/String;"⟩ : MethodName)) (z := (⟨"com/example/risk_rule_engine/riskruleengine/rules/Statistic", "toString", "()Ljava/lang/String;"⟩ : MethodName)) hown (mvT hZ (hw _ (List.mem_of_getElem? (i := 4) rfl))) (mvT hZ (hw _ (List.mem_of_getElem? (i := 5) rfl))) (notFace_of_selects (args := #[]) (mvT hZ (hw _ (List.mem_of_getElem? (i := 7) rfl)))) (mvT hZ (hw _ (List.mem_of_getElem? (i := 7) rfl))) (mvT hZ (hw _ (List.mem_of_getElem? (i := 6) rfl))) (by decide) (backOf (W := 0) (rm1 l Z a0 hw [] a_DISTINCT a_DISTINCT_name h0 n0 (Nat.le_trans Z0 K0.1) F_name_a_DISTINCT) hZ (hw _ (List.mem_of_getElem? (i := 8) rfl)) (hw _ (List.mem_of_getElem? (i := 2) rfl)) (by decide) (by decide)) qq19a qq19c (g := (mkF m 35 #[.val (.int p0), .val (.int (2 : Int32)), .val (.ref a_DISTINCT), .unset, .unset] [(.ref a_DISTINCT)])) rfl (by rw [hml]; rfl) (Steps.refl _) (argsL := []) (rest := []) (lenOf pd_0 rfl) rfl (by show 2 * 0 + _ ≤ _; exact Nat.le_of_eq rfl) (hb hby at_35) (fun _ _ => ⟨rfl, e18, (by decide : 0 + 0 ≤ _), (by decide : 0 + 0 ≤ _)⟩)
    dsimp only [Pt.U, Pt.locs, Pt.cells, Pt.slots] at X19 l19 y19 z19 st19 hQ19
    subst l19 y19 z19
    obtain ⟨rfl, N19q, eq19⟩ := hQ19
    have N19 := Fr.app N0 N19q
    refine own_stepW (T' := T19) (g' := (mkF m 38 #[.val (.int p0), .val (.int (2 : Int32)), .val (.ref a_DISTINCT), .unset, .unset] [(.ref a_DISTINCT_name)])) (fun t k => st19.trans k) ?_
    refine own_stepW (T' := T19) (g' := (mkF m 39 #[.val (.int p0), .val (.int (2 : Int32)), .val (.ref a_DISTINCT), .val (.ref a_DISTINCT_name), .unset] [])) (fun t k => XS.astoreN X19.here hx rfl (hb hby at_38) rfl rfl (l' := #[.val (.int p0), .val (.int (2 : Int32)), .val (.ref a_DISTINCT), .val (.ref a_DISTINCT_name), .unset]) rfl k) ?_
    refine own_stepW (T' := T19) (g' := (mkF m 40 #[.val (.int p0), .val (.int (2 : Int32)), .val (.ref a_DISTINCT), .val (.ref a_DISTINCT_name), .unset] [(.ref a_DISTINCT_name)])) (fun t k => XS.aloadN X19.here hx rfl (hb hby at_39) rfl rfl k) ?_
    obtain ⟨a20, T20, h20, kS20, b20, kb20, X20, e20, E20, hS20, hk20, hZ20, hown20, Es20, Fc20, Fv20, Av20, la20, lb20, C20, Lit20, Sf20, st20⟩ := ldcCH X19 hx hZ hown (hw _ (List.mem_of_getElem? (i := 11) rfl)) wS eq19 hS0 hk0 hEL (List.mem_of_getElem? (i := 0) rfl) H0.1 (vs := [(.int (115 : Int32)), (.int (117 : Int32)), (.int (109 : Int32))]) (z := (3 : Int32)) ⟨by decide, by decide⟩ (by decide) (by decide) (g := (mkF m 40 #[.val (.int p0), .val (.int (2 : Int32)), .val (.ref a_DISTINCT), .val (.ref a_DISTINCT_name), .unset] [(.ref a_DISTINCT_name)])) rfl (hb hby at_40) (n := 12) (by decide) (by decide) (by decide) (by decide)
    have S_COUNT_20 : Sta Z h20 "com/example/risk_rule_engine/riskruleengine/rules/Statistic" "COUNT" "Lcom/example/risk_rule_engine/riskruleengine/rules/Statistic;" (.ref a_COUNT) := S_COUNT.ext E20
    have S_SUM_20 : Sta Z h20 "com/example/risk_rule_engine/riskruleengine/rules/Statistic" "SUM" "Lcom/example/risk_rule_engine/riskruleengine/rules/Statistic;" (.ref a_SUM) := S_SUM.ext E20
    have S_DISTINCT_20 : Sta Z h20 "com/example/risk_rule_engine/riskruleengine/rules/Statistic" "DISTINCT" "Lcom/example/risk_rule_engine/riskruleengine/rules/Statistic;" (.ref a_DISTINCT) := S_DISTINCT.ext E20
    have S_COMPACT_STRINGS_20 : Sta Z h20 "java/lang/String" "COMPACT_STRINGS" "Z" (.int G1) := S_COMPACT_STRINGS.ext E20
    have E_a_COUNT_20 : Exa Z h20 a_COUNT "com/example/risk_rule_engine/riskruleengine/rules/Statistic" := E_a_COUNT.ext E20
    have F_name_a_COUNT_20 : Fld Z h20 a_COUNT "com/example/risk_rule_engine/riskruleengine/rules/Statistic" "name" "Ljava/lang/String;" (.ref a_COUNT_name) := F_name_a_COUNT.ext E20
    have E_a_COUNT_name_20 : Exa Z h20 a_COUNT_name "java/lang/String" := E_a_COUNT_name.ext E20
    have F_coder_a_COUNT_name_20 : Fld Z h20 a_COUNT_name "java/lang/String" "coder" "B" (.int (0 : Int32)) := F_coder_a_COUNT_name.ext E20
    have F_value_a_COUNT_name_20 : Fld Z h20 a_COUNT_name "java/lang/String" "value" "[B" (.ref a_COUNT_name_value) := F_value_a_COUNT_name.ext E20
    have V_a_COUNT_name_value_20 : Arv Z h20 a_COUNT_name_value k_COUNT .byte (5 : Int32) [(.int (99 : Int32)), (.int (111 : Int32)), (.int (117 : Int32)), (.int (110 : Int32)), (.int (116 : Int32))] (.int (0 : Int32)) := V_a_COUNT_name_value.ext E20
    have E_a_SUM_20 : Exa Z h20 a_SUM "com/example/risk_rule_engine/riskruleengine/rules/Statistic" := E_a_SUM.ext E20
    have F_name_a_SUM_20 : Fld Z h20 a_SUM "com/example/risk_rule_engine/riskruleengine/rules/Statistic" "name" "Ljava/lang/String;" (.ref a_SUM_name) := F_name_a_SUM.ext E20
    have E_a_SUM_name_20 : Exa Z h20 a_SUM_name "java/lang/String" := E_a_SUM_name.ext E20
    have F_coder_a_SUM_name_20 : Fld Z h20 a_SUM_name "java/lang/String" "coder" "B" (.int (0 : Int32)) := F_coder_a_SUM_name.ext E20
    have F_value_a_SUM_name_20 : Fld Z h20 a_SUM_name "java/lang/String" "value" "[B" (.ref a_SUM_name_value) := F_value_a_SUM_name.ext E20
    have V_a_SUM_name_value_20 : Arv Z h20 a_SUM_name_value k_SUM .byte (3 : Int32) [(.int (115 : Int32)), (.int (117 : Int32)), (.int (109 : Int32))] (.int (0 : Int32)) := V_a_SUM_name_value.ext E20
    have E_a_DISTINCT_20 : Exa Z h20 a_DISTINCT "com/example/risk_rule_engine/riskruleengine/rules/Statistic" := E_a_DISTINCT.ext E20
    have F_name_a_DISTINCT_20 : Fld Z h20 a_DISTINCT "com/example/risk_rule_engine/riskruleengine/rules/Statistic" "name" "Ljava/lang/String;" (.ref a_DISTINCT_name) := F_name_a_DISTINCT.ext E20
    have E_a_DISTINCT_name_20 : Exa Z h20 a_DISTINCT_name "java/lang/String" := E_a_DISTINCT_name.ext E20
    have F_coder_a_DISTINCT_name_20 : Fld Z h20 a_DISTINCT_name "java/lang/String" "coder" "B" (.int (0 : Int32)) := F_coder_a_DISTINCT_name.ext E20
    have F_value_a_DISTINCT_name_20 : Fld Z h20 a_DISTINCT_name "java/lang/String" "value" "[B" (.ref a_DISTINCT_name_value) := F_value_a_DISTINCT_name.ext E20
    have V_a_DISTINCT_name_value_20 : Arv Z h20 a_DISTINCT_name_value k_DISTINCT .byte (8 : Int32) [(.int (100 : Int32)), (.int (105 : Int32)), (.int (115 : Int32)), (.int (116 : Int32)), (.int (105 : Int32)), (.int (110 : Int32)), (.int (99 : Int32)), (.int (116 : Int32))] (.int (0 : Int32)) := V_a_DISTINCT_name_value.ext E20
    have K_20 : Keep h0 h20 [] := K0.ext E20
    have H_20 : CHr Z consts_1 s.vm h0 T20.vm h20 := H0.trans C20
    have ne_a_COUNT_a20 := (Sf20 _ (Safe.exa hZ20.alike E_a_COUNT_20 (by decide) (by decide))).1
    have ne_a_COUNT_b20 := (Sf20 _ (Safe.exa hZ20.alike E_a_COUNT_20 (by decide) (by decide))).2
    have ne_a_SUM_a20 := (Sf20 _ (Safe.exa hZ20.alike E_a_SUM_20 (by decide) (by decide))).1
    have ne_a_SUM_b20 := (Sf20 _ (Safe.exa hZ20.alike E_a_SUM_20 (by decide) (by decide))).2
    have ne_a_DISTINCT_a20 := (Sf20 _ (Safe.exa hZ20.alike E_a_DISTINCT_20 (by decide) (by decide))).1
    have ne_a_DISTINCT_b20 := (Sf20 _ (Safe.exa hZ20.alike E_a_DISTINCT_20 (by decide) (by decide))).2
    refine own_stepW (T' := T20) (g' := (mkF m 42 #[.val (.int p0), .val (.int (2 : Int32)), .val (.ref a_DISTINCT), .val (.ref a_DISTINCT_name), .unset] [(.ref a20), (.ref a_DISTINCT_name)])) st20 ?_
    obtain ⟨cq21, kq21, qq21a, qq21b, qq21c⟩ := isOf hZ20 e20 E_a_DISTINCT_name_20
    obtain ⟨_, _, ⟨T21, L21, kk21, nn21⟩, -, X21, ⟨Lc21, hQ21, l21, y21, z21⟩, st21⟩ := X20.virtualBack hx (y := (⟨"java/lang/String", "equals", "(Ljava/lang/Object;)Z"⟩ : MethodName)) (z := (⟨"java/lang/String", "equals", "(Ljava/lang/Object;)Z"⟩ : MethodName)) hown20 (mvT hZ20 (hw _ (List.mem_of_getElem? (i := 19) rfl))) (mvT hZ20 (hw _ (List.mem_of_getElem? (i := 20) rfl))) (notFace_of_selects (args := #[]) (mvT hZ20 (hw _ (List.mem_of_getElem? (i := 22) rfl)))) (mvT hZ20 (hw _ (List.mem_of_getElem? (i := 22) rfl))) (mvT hZ20 (hw _ (List.mem_of_getElem? (i := 21) rfl))) (by decide) (backOf (W := 0) (rm2_distinct_sum l Z a0 hw [] a_DISTINCT_name a20 a_DISTINCT_name_value b20 k_DISTINCT kb20 G1 h20 n0 (Nat.le_trans Z0 K_20.1) E_a_DISTINCT_name_20 Es20 F_coder_a_DISTINCT_name_20 Fc20 F_value_a_DISTINCT_name_20 Fv20 V_a_DISTINCT_name_value_20 Av20 S_COMPACT_STRINGS_20 P5 (Fld.ne F_value_a_DISTINCT_name_20 Fv20 (fun q => arv_ne V_a_DISTINCT_name_value_20 Av20 (Or.inl (by decide)) (Value.ref.inj q)))) hZ20 (hw _ (List.mem_of_getElem? (i := 23) rfl)) (hw _ (List.mem_of_getElem? (i := 12) rfl)) (by decide) (by decide)) qq21a qq21c (g := (mkF m 42 #[.val (.int p0), .val (.int (2 : Int32)), .val (.ref a_DISTINCT), .val (.ref a_DISTINCT_name), .unset] [(.ref a20), (.ref a_DISTINCT_name)])) rfl (by rw [hml]; rfl) (Steps.refl _) (argsL := [(.ref a20)]) (rest := []) (lenOf pd_1 rfl) rfl (by show 2 * 0 + _ ≤ _; exact Nat.le_of_eq rfl) (hb hby at_42) (fun _ _ => ⟨rfl, e20, (by decide : 2 + 0 ≤ _), (by decide : 16 + 0 ≤ _)⟩)
    dsimp only [Pt.U, Pt.locs, Pt.cells, Pt.slots] at X21 l21 y21 z21 st21 hQ21
    subst l21 y21 z21
    obtain ⟨rfl, N21q, eq21⟩ := hQ21
    have N21 := Fr.app N19 N21q
    refine own_stepW (T' := T21) (g' := (mkF m 45 #[.val (.int p0), .val (.int (2 : Int32)), .val (.ref a_DISTINCT), .val (.ref a_DISTINCT_name), .unset] [(.int (0 : Int32))])) (fun t k => st21.trans k) ?_
    refine own_stepW (T' := T21) (g' := (mkF m 48 #[.val (.int p0), .val (.int (2 : Int32)), .val (.ref a_DISTINCT), .val (.ref a_DISTINCT_name), .unset] [])) (fun t k => XS.ifNo X21.here hx rfl (hb hby at_45) rfl ((if0 _ _).trans (teq (by decide : (0 : Int32) = (0 : Int32))).2) k) ?_
    refine own_stepW (T' := T21) (g' := (mkF m 49 #[.val (.int p0), .val (.int (2 : Int32)), .val (.ref a_DISTINCT), .val (.ref a_DISTINCT_name), .unset] [(.ref a_DISTINCT_name)])) (fun t k => XS.aloadN X21.here hx rfl (hb hby at_48) rfl rfl k) ?_
    obtain ⟨a22, T22, h22, kS22, b22, kb22, X22, e22, E22, hS22, hk22, hZ22, hown22, Es22, Fc22, Fv22, Av22, la22, lb22, C22, Lit22, Sf22, st22⟩ := ldcCH X21 hx hZ20 hown20 (hw _ (List.mem_of_getElem? (i := 33) rfl)) wS eq21 hS20 hk20 hEL (List.mem_of_getElem? (i := 1) rfl) H_20.1 (vs := [(.int (100 : Int32)), (.int (105 : Int32)), (.int (115 : Int32)), (.int (116 : Int32)), (.int (105 : Int32)), (.int (110 : Int32)), (.int (99 : Int32)), (.int (116 : Int32))]) (z := (8 : Int32)) ⟨by decide, by decide⟩ (by decide) (by decide) (g := (mkF m 49 #[.val (.int p0), .val (.int (2 : Int32)), .val (.ref a_DISTINCT), .val (.ref a_DISTINCT_name), .unset] [(.ref a_DISTINCT_name)])) rfl (hb hby at_49) (n := 32) (by decide) (by decide) (by decide) (by decide)
    have S_COUNT_22 : Sta Z h22 "com/example/risk_rule_engine/riskruleengine/rules/Statistic" "COUNT" "Lcom/example/risk_rule_engine/riskruleengine/rules/Statistic;" (.ref a_COUNT) := S_COUNT_20.ext E22
    have S_SUM_22 : Sta Z h22 "com/example/risk_rule_engine/riskruleengine/rules/Statistic" "SUM" "Lcom/example/risk_rule_engine/riskruleengine/rules/Statistic;" (.ref a_SUM) := S_SUM_20.ext E22
    have S_DISTINCT_22 : Sta Z h22 "com/example/risk_rule_engine/riskruleengine/rules/Statistic" "DISTINCT" "Lcom/example/risk_rule_engine/riskruleengine/rules/Statistic;" (.ref a_DISTINCT) := S_DISTINCT_20.ext E22
    have S_COMPACT_STRINGS_22 : Sta Z h22 "java/lang/String" "COMPACT_STRINGS" "Z" (.int G1) := S_COMPACT_STRINGS_20.ext E22
    have E_a_COUNT_22 : Exa Z h22 a_COUNT "com/example/risk_rule_engine/riskruleengine/rules/Statistic" := E_a_COUNT_20.ext E22
    have F_name_a_COUNT_22 : Fld Z h22 a_COUNT "com/example/risk_rule_engine/riskruleengine/rules/Statistic" "name" "Ljava/lang/String;" (.ref a_COUNT_name) := F_name_a_COUNT_20.ext E22
    have E_a_COUNT_name_22 : Exa Z h22 a_COUNT_name "java/lang/String" := E_a_COUNT_name_20.ext E22
    have F_coder_a_COUNT_name_22 : Fld Z h22 a_COUNT_name "java/lang/String" "coder" "B" (.int (0 : Int32)) := F_coder_a_COUNT_name_20.ext E22
    have F_value_a_COUNT_name_22 : Fld Z h22 a_COUNT_name "java/lang/String" "value" "[B" (.ref a_COUNT_name_value) := F_value_a_COUNT_name_20.ext E22
    have V_a_COUNT_name_value_22 : Arv Z h22 a_COUNT_name_value k_COUNT .byte (5 : Int32) [(.int (99 : Int32)), (.int (111 : Int32)), (.int (117 : Int32)), (.int (110 : Int32)), (.int (116 : Int32))] (.int (0 : Int32)) := V_a_COUNT_name_value_20.ext E22
    have E_a_SUM_22 : Exa Z h22 a_SUM "com/example/risk_rule_engine/riskruleengine/rules/Statistic" := E_a_SUM_20.ext E22
    have F_name_a_SUM_22 : Fld Z h22 a_SUM "com/example/risk_rule_engine/riskruleengine/rules/Statistic" "name" "Ljava/lang/String;" (.ref a_SUM_name) := F_name_a_SUM_20.ext E22
    have E_a_SUM_name_22 : Exa Z h22 a_SUM_name "java/lang/String" := E_a_SUM_name_20.ext E22
    have F_coder_a_SUM_name_22 : Fld Z h22 a_SUM_name "java/lang/String" "coder" "B" (.int (0 : Int32)) := F_coder_a_SUM_name_20.ext E22
    have F_value_a_SUM_name_22 : Fld Z h22 a_SUM_name "java/lang/String" "value" "[B" (.ref a_SUM_name_value) := F_value_a_SUM_name_20.ext E22
    have V_a_SUM_name_value_22 : Arv Z h22 a_SUM_name_value k_SUM .byte (3 : Int32) [(.int (115 : Int32)), (.int (117 : Int32)), (.int (109 : Int32))] (.int (0 : Int32)) := V_a_SUM_name_value_20.ext E22
    have E_a_DISTINCT_22 : Exa Z h22 a_DISTINCT "com/example/risk_rule_engine/riskruleengine/rules/Statistic" := E_a_DISTINCT_20.ext E22
    have F_name_a_DISTINCT_22 : Fld Z h22 a_DISTINCT "com/example/risk_rule_engine/riskruleengine/rules/Statistic" "name" "Ljava/lang/String;" (.ref a_DISTINCT_name) := F_name_a_DISTINCT_20.ext E22
    have E_a_DISTINCT_name_22 : Exa Z h22 a_DISTINCT_name "java/lang/String" := E_a_DISTINCT_name_20.ext E22
    have F_coder_a_DISTINCT_name_22 : Fld Z h22 a_DISTINCT_name "java/lang/String" "coder" "B" (.int (0 : Int32)) := F_coder_a_DISTINCT_name_20.ext E22
    have F_value_a_DISTINCT_name_22 : Fld Z h22 a_DISTINCT_name "java/lang/String" "value" "[B" (.ref a_DISTINCT_name_value) := F_value_a_DISTINCT_name_20.ext E22
    have V_a_DISTINCT_name_value_22 : Arv Z h22 a_DISTINCT_name_value k_DISTINCT .byte (8 : Int32) [(.int (100 : Int32)), (.int (105 : Int32)), (.int (115 : Int32)), (.int (116 : Int32)), (.int (105 : Int32)), (.int (110 : Int32)), (.int (99 : Int32)), (.int (116 : Int32))] (.int (0 : Int32)) := V_a_DISTINCT_name_value_20.ext E22
    have E_a20_22 : Exa Z h22 a20 "java/lang/String" := Es20.ext E22
    have F_coder_a20_22 : Fld Z h22 a20 "java/lang/String" "coder" "B" (.int 0) := Fc20.ext E22
    have F_value_a20_22 : Fld Z h22 a20 "java/lang/String" "value" "[B" (.ref b20) := Fv20.ext E22
    have V_b20_22 : Arv Z h22 b20 kb20 .byte (3 : Int32) [(.int (115 : Int32)), (.int (117 : Int32)), (.int (109 : Int32))] (.int 0) := Av20.ext E22
    have K_22 : Keep h0 h22 [] := K_20.ext E22
    have H_22 : CHr Z consts_1 s.vm h0 T22.vm h22 := H_20.trans C22
    have ne_a_COUNT_a22 := (Sf22 _ (Safe.exa hZ22.alike E_a_COUNT_22 (by decide) (by decide))).1
    have ne_a_COUNT_b22 := (Sf22 _ (Safe.exa hZ22.alike E_a_COUNT_22 (by decide) (by decide))).2
    have ne_a_SUM_a22 := (Sf22 _ (Safe.exa hZ22.alike E_a_SUM_22 (by decide) (by decide))).1
    have ne_a_SUM_b22 := (Sf22 _ (Safe.exa hZ22.alike E_a_SUM_22 (by decide) (by decide))).2
    have ne_a_DISTINCT_a22 := (Sf22 _ (Safe.exa hZ22.alike E_a_DISTINCT_22 (by decide) (by decide))).1
    have ne_a_DISTINCT_b22 := (Sf22 _ (Safe.exa hZ22.alike E_a_DISTINCT_22 (by decide) (by decide))).2
    refine own_stepW (T' := T22) (g' := (mkF m 51 #[.val (.int p0), .val (.int (2 : Int32)), .val (.ref a_DISTINCT), .val (.ref a_DISTINCT_name), .unset] [(.ref a22), (.ref a_DISTINCT_name)])) st22 ?_
    obtain ⟨cq23, kq23, qq23a, qq23b, qq23c⟩ := isOf hZ22 e22 E_a_DISTINCT_name_22
    obtain ⟨_, _, ⟨T23, L23, kk23, nn23⟩, -, X23, ⟨Lc23, hQ23, l23, y23, z23⟩, st23⟩ := X22.virtualBack hx (y := (⟨"java/lang/String", "equals", "(Ljava/lang/Object;)Z"⟩ : MethodName)) (z := (⟨"java/lang/String", "equals", "(Ljava/lang/Object;)Z"⟩ : MethodName)) hown22 (mvT hZ22 (hw _ (List.mem_of_getElem? (i := 19) rfl))) (mvT hZ22 (hw _ (List.mem_of_getElem? (i := 20) rfl))) (notFace_of_selects (args := #[]) (mvT hZ22 (hw _ (List.mem_of_getElem? (i := 22) rfl)))) (mvT hZ22 (hw _ (List.mem_of_getElem? (i := 22) rfl))) (mvT hZ22 (hw _ (List.mem_of_getElem? (i := 21) rfl))) (by decide) (backOf (W := 0) (rm2_distinct_distinct l Z a0 hw [] a_DISTINCT_name a22 a_DISTINCT_name_value b22 k_DISTINCT kb22 G1 h22 n0 (Nat.le_trans Z0 K_22.1) E_a_DISTINCT_name_22 Es22 F_coder_a_DISTINCT_name_22 Fc22 F_value_a_DISTINCT_name_22 Fv22 V_a_DISTINCT_name_value_22 Av22 S_COMPACT_STRINGS_22 P5) hZ22 (hw _ (List.mem_of_getElem? (i := 23) rfl)) (hw _ (List.mem_of_getElem? (i := 12) rfl)) (by decide) (by decide)) qq23a qq23c (g := (mkF m 51 #[.val (.int p0), .val (.int (2 : Int32)), .val (.ref a_DISTINCT), .val (.ref a_DISTINCT_name), .unset] [(.ref a22), (.ref a_DISTINCT_name)])) rfl (by rw [hml]; rfl) (Steps.refl _) (argsL := [(.ref a22)]) (rest := []) (lenOf pd_1 rfl) rfl (by show 2 * 0 + _ ≤ _; exact Nat.le_of_eq rfl) (hb hby at_51) (fun _ _ => ⟨rfl, e22, (by decide : 4 + 0 ≤ _), (by decide : 52 + 0 ≤ _)⟩)
    dsimp only [Pt.U, Pt.locs, Pt.cells, Pt.slots] at X23 l23 y23 z23 st23 hQ23
    subst l23 y23 z23
    obtain ⟨rfl, N23q, eq23⟩ := hQ23
    have N23 := Fr.app N21 N23q
    refine own_stepW (T' := T23) (g' := (mkF m 54 #[.val (.int p0), .val (.int (2 : Int32)), .val (.ref a_DISTINCT), .val (.ref a_DISTINCT_name), .unset] [(.int (1 : Int32))])) (fun t k => st23.trans k) ?_
    refine own_stepW (T' := T23) (g' := (mkF m 57 #[.val (.int p0), .val (.int (2 : Int32)), .val (.ref a_DISTINCT), .val (.ref a_DISTINCT_name), .unset] [])) (fun t k => XS.ifNo X23.here hx rfl (hb hby at_54) rfl ((if0 _ _).trans (feq (by decide : ¬ ((1 : Int32) = (0 : Int32)))).1) k) ?_
    refine own_stepW (T' := T23) (g' := (mkF m 58 #[.val (.int p0), .val (.int (2 : Int32)), .val (.ref a_DISTINCT), .val (.ref a_DISTINCT_name), .unset] [(.int (1 : Int32))])) (fun t k => XS.iconst X23.here hx rfl (hb hby at_57) k) ?_
    refine own_stepW (T' := T23) (g' := (mkF m 62 #[.val (.int p0), .val (.int (2 : Int32)), .val (.ref a_DISTINCT), .val (.ref a_DISTINCT_name), .unset] [(.int (1 : Int32))])) (fun t k => XS.goto X23.here hx rfl (pc0 := 58) (pc' := 62) rfl (hb hby at_58) (by decide) (by decide) k) ?_
    refine own_stepW (T' := T23) (g' := (mkF m 64 #[.val (.int p0), .val (.int (2 : Int32)), .val (.ref a_DISTINCT), .val (.ref a_DISTINCT_name), .val (.int (1 : Int32))] [])) (fun t k => XS.istore X23.here hx rfl (hb hby at_62) rfl (l' := #[.val (.int p0), .val (.int (2 : Int32)), .val (.ref a_DISTINCT), .val (.ref a_DISTINCT_name), .val (.int (1 : Int32))]) rfl k) ?_
    refine own_stepW (T' := T23) (g' := (mkF m 65 #[.val (.int p0), .val (.int (2 : Int32)), .val (.ref a_DISTINCT), .val (.ref a_DISTINCT_name), .val (.int (1 : Int32))] [(.ref a_DISTINCT)])) (fun t k => XS.aloadN X23.here hx rfl (hb hby at_64) rfl rfl k) ?_
    obtain ⟨cq24, kq24, qq24a, qq24b, qq24c⟩ := isOf hZ22 eq23 E_a_DISTINCT_22
    obtain ⟨_, _, ⟨T24, L24, kk24, nn24⟩, -, X24, ⟨Lc24, hQ24, l24, y24, z24⟩, st24⟩ := X23.virtualBack hx (y := (⟨"com/example/risk_rule_engine/riskruleengine/rules/Statistic", "ofField", "()Z"⟩ : MethodName)) (z := (⟨"com/example/risk_rule_engine/riskruleengine/rules/Statistic", "ofField", "()Z"⟩ : MethodName)) hown22 (mvT hZ22 (hw _ (List.mem_of_getElem? (i := 34) rfl))) (mvT hZ22 (hw _ (List.mem_of_getElem? (i := 35) rfl))) (notFace_of_selects (args := #[]) (mvT hZ22 (hw _ (List.mem_of_getElem? (i := 37) rfl)))) (mvT hZ22 (hw _ (List.mem_of_getElem? (i := 37) rfl))) (mvT hZ22 (hw _ (List.mem_of_getElem? (i := 36) rfl))) (by decide) (backOf (W := 0) (rm4 l Z a0 hw [] a_DISTINCT a_COUNT h22 n0 (Nat.le_trans Z0 K_22.1) S_COUNT_22) hZ22 (hw _ (List.mem_of_getElem? (i := 38) rfl)) (hw _ (List.mem_of_getElem? (i := 2) rfl)) (by decide) (by decide)) qq24a qq24c (g := (mkF m 65 #[.val (.int p0), .val (.int (2 : Int32)), .val (.ref a_DISTINCT), .val (.ref a_DISTINCT_name), .val (.int (1 : Int32))] [(.ref a_DISTINCT)])) rfl (by rw [hml]; rfl) (Steps.refl _) (argsL := []) (rest := []) (lenOf pd_3 rfl) rfl (by show 2 * 0 + _ ≤ _; exact Nat.le_of_eq rfl) (hb hby at_65) (fun _ _ => ⟨rfl, eq23, (by decide : 4 + 0 ≤ _), (by decide : 52 + 0 ≤ _)⟩)
    dsimp only [Pt.U, Pt.locs, Pt.cells, Pt.slots] at X24 l24 y24 z24 st24 hQ24
    subst l24 y24 z24
    obtain ⟨rfl, N24q, eq24⟩ := hQ24
    have N24 := Fr.app N23 N24q
    refine own_stepW (T' := T24) (g' := (mkF m 68 #[.val (.int p0), .val (.int (2 : Int32)), .val (.ref a_DISTINCT), .val (.ref a_DISTINCT_name), .val (.int (1 : Int32))] [(.int (fn4 a_DISTINCT a_COUNT))])) (fun t k => st24.trans k) ?_
    refine own_stepW (T' := T24) (g' := (mkF m 70 #[.val (.int p0), .val (.int (2 : Int32)), .val (.ref a_DISTINCT), .val (.ref a_DISTINCT_name), .val (.int (1 : Int32))] [(.int (1 : Int32)), (.int (fn4 a_DISTINCT a_COUNT))])) (fun t k => XS.iload X24.here hx rfl (hb hby at_68) rfl k) ?_
    refine own_stepW (T' := T24) (g' := (mkF m 73 #[.val (.int p0), .val (.int (2 : Int32)), .val (.ref a_DISTINCT), .val (.ref a_DISTINCT_name), .val (.int (1 : Int32))] [])) (fun t k => XS.icmpNo X24.here hx rfl (hb hby at_70) rfl (teq (by unfold fn4; rw [if_neg ne_DISTINCT])).2 k) ?_
    refine own_stepW (T' := T24) (g' := (mkF m 74 #[.val (.int p0), .val (.int (2 : Int32)), .val (.ref a_DISTINCT), .val (.ref a_DISTINCT_name), .val (.int (1 : Int32))] [(.int (1 : Int32))])) (fun t k => XS.iconst X24.here hx rfl (hb hby at_73) k) ?_
    refine own_stepW (T' := T24) (g' := (mkF m 78 #[.val (.int p0), .val (.int (2 : Int32)), .val (.ref a_DISTINCT), .val (.ref a_DISTINCT_name), .val (.int (1 : Int32))] [(.int (1 : Int32))])) (fun t k => XS.goto X24.here hx rfl (pc0 := 74) (pc' := 78) rfl (hb hby at_74) (by decide) (by decide) k) ?_
    have hend26 := own_endW X24 hZ22 hEL eq24 H_22
    have hks26 : kS22 ≤ T24.heap.size := by rw [eq24]; exact hk22
    refine own_retNW X24 hx hlk hS22 hks26 hend26 (t := .boolean) (w := (1 : Int32)) Bd.returns (by simp) (hb hby at_78) rfl (by decide) (by decide) ?_
    exact ⟨rfl, N24⟩
set_option maxRecDepth 65536 in
set_option maxHeartbeats 40000000 in
theorem comes_1 {Post : Tables → Env → Array Value → State → Outcome → State → Prop} (hpost : ∀ tb e args s v u, (limb_1_1.after args s (.returned v) u = true ∧ limb_1_2.after args s (.returned v) u = true ∧ True) → ReturnedEndW s (.returned v) u (Jvm.fieldLocs frame_1_writes args s ++ Jvm.arrayLocs frame_1_arrays args s ++ Jvm.staticLocs frame_1_statics s) 8 2112 → Post tb e args s (.returned v) u) :
    ArmFor flags0 classFile x code maxLocals ret World_1 tables_1 room_1 Calls_1 rest_1 Pre_1 Post := by
  intro l hfl _ _ p e ha hc hk s m args below hf hA hF happ hP
  obtain ⟨hcalls, hrest, hpre⟩ := hP
  obtain ⟨-, -, -, hnamed, -, -, -, hat⟩ := (Spec.applies_iff hf).mp happ
  obtain ⟨hg, hn⟩ := and_e (Cond.before_iff.mp (show (Jvm.Cond.and given_1 narrow_1).before args s = true from hpre))
  obtain ⟨g0, r0⟩ := and_e hg
  obtain ⟨w0, rfl⟩ : ∃ w0 : Value, args = #[w0] := by
    have hs : args.size = 1 := by simpa [Cond.value, given_1] using g0
    obtain ⟨L⟩ := args
    match L, hs with
    | [w0], _ => exact ⟨w0, rfl⟩
  have hw := fun d (hd : d ∈ tables_1) => atoms_spec (ws := Jvm.Cond.code x code maxLocals ret :: tables_1) hat d (List.mem_cons_of_mem _ hd)
  have hfit : Fit s := fun {y c} hc i hi => by
    obtain ⟨ha, rfl⟩ := Array.getElem?_eq_some_iff.mp hc
    have q := List.all_eq_true.mp ((Array.all_eq_true_iff_forall_mem.mp hF) _ (Array.getElem_mem ha)) i (List.mem_range.mpr hi)
    simpa [Array.getElem?_eq_getElem hi] using q
  obtain ⟨hsets, hown0⟩ := atoms_of _ (rest_1_c_eq ▸ (show rest_1_c.before _ s = true from hrest))
  have hr0 := Cond.before_iff.mp hown0
  obtain ⟨i0, ei0⟩ := is_v r0
  obtain rfl : w0 = (.int i0) := Option.some.inj ei0
  obtain ⟨q0, m0⟩ := and_e hn
  obtain ⟨q1, m1⟩ := and_e m0
  obtain ⟨q2, m2⟩ := and_e m1
  obtain ⟨q3, m3⟩ := and_e m2
  obtain ⟨q4, m4⟩ := and_e m3
  obtain ⟨q5, m5⟩ := and_e m4
  obtain ⟨q6, m6⟩ := and_e m5
  obtain ⟨q7, m7⟩ := and_e m6
  obtain ⟨q8, m8⟩ := and_e m7
  obtain ⟨q9, m9⟩ := and_e m8
  obtain ⟨q10, m10⟩ := and_e m9
  obtain ⟨q11, m11⟩ := and_e m10
  obtain ⟨q12, m12⟩ := and_e m11
  obtain ⟨q13, m13⟩ := and_e m12
  obtain ⟨q14, m14⟩ := and_e m13
  obtain ⟨q15, m15⟩ := and_e m14
  obtain ⟨q16, m16⟩ := and_e m15
  obtain ⟨q17, m17⟩ := and_e m16
  obtain ⟨q18, m18⟩ := and_e m17
  obtain ⟨q19, m19⟩ := and_e m18
  obtain ⟨q20, m20⟩ := and_e m19
  obtain ⟨q21, m21⟩ := and_e m20
  obtain ⟨q22, m22⟩ := and_e m21
  obtain ⟨q23, m23⟩ := and_e m22
  obtain ⟨q24, m24⟩ := and_e m23
  obtain ⟨q25, m25⟩ := and_e m24
  obtain ⟨q26, m26⟩ := and_e m25
  obtain ⟨q27, m27⟩ := and_e m26
  obtain ⟨q28, m28⟩ := and_e m27
  obtain ⟨q29, m29⟩ := and_e m28
  obtain ⟨q30, m30⟩ := and_e m29
  obtain ⟨q31, m31⟩ := and_e m30
  obtain ⟨q32, m32⟩ := and_e m31
  obtain ⟨a_COUNT, ev_a_COUNT⟩ := exa_v q0
  have S_a_COUNT : Sta s s.heap "com/example/risk_rule_engine/riskruleengine/rules/Statistic" "COUNT" "Lcom/example/risk_rule_engine/riskruleengine/rules/Statistic;" (.ref a_COUNT) := Sta.start ev_a_COUNT (Or.inr ⟨(hw _ (List.mem_of_getElem? (i := 2) rfl)), (hw _ (List.mem_of_getElem? (i := 3) rfl))⟩)
  have E_a_COUNT : Exa s s.heap a_COUNT "com/example/risk_rule_engine/riskruleengine/rules/Statistic" := Exa.start ev_a_COUNT q0
  obtain ⟨a_COUNT_name, ev_a_COUNT_name⟩ := exa_v q1
  have F_a_COUNT_name : Fld s s.heap a_COUNT "com/example/risk_rule_engine/riskruleengine/rules/Statistic" "name" "Ljava/lang/String;" (.ref a_COUNT_name) := Fld.start ((fld_at ev_a_COUNT).symm.trans ev_a_COUNT_name)
  have E_a_COUNT_name : Exa s s.heap a_COUNT_name "java/lang/String" := Exa.start ev_a_COUNT_name q1
  obtain ⟨a_COUNT_name_value, ev_a_COUNT_name_value⟩ := arr_v q3
  have F_a_COUNT_name_value : Fld s s.heap a_COUNT_name "java/lang/String" "value" "[B" (.ref a_COUNT_name_value) := Fld.start ((fld_at ev_a_COUNT_name).symm.trans ev_a_COUNT_name_value)
  obtain ⟨c_a_COUNT_name_value, Ar_a_COUNT_name_value⟩ := Arr.start ev_a_COUNT_name_value q3
  obtain ⟨a_DISTINCT, ev_a_DISTINCT⟩ := exa_v q5
  have S_a_DISTINCT : Sta s s.heap "com/example/risk_rule_engine/riskruleengine/rules/Statistic" "DISTINCT" "Lcom/example/risk_rule_engine/riskruleengine/rules/Statistic;" (.ref a_DISTINCT) := Sta.start ev_a_DISTINCT (Or.inr ⟨(hw _ (List.mem_of_getElem? (i := 2) rfl)), (hw _ (List.mem_of_getElem? (i := 41) rfl))⟩)
  have E_a_DISTINCT : Exa s s.heap a_DISTINCT "com/example/risk_rule_engine/riskruleengine/rules/Statistic" := Exa.start ev_a_DISTINCT q5
  obtain ⟨a_DISTINCT_name, ev_a_DISTINCT_name⟩ := exa_v q6
  have F_a_DISTINCT_name : Fld s s.heap a_DISTINCT "com/example/risk_rule_engine/riskruleengine/rules/Statistic" "name" "Ljava/lang/String;" (.ref a_DISTINCT_name) := Fld.start ((fld_at ev_a_DISTINCT).symm.trans ev_a_DISTINCT_name)
  have E_a_DISTINCT_name : Exa s s.heap a_DISTINCT_name "java/lang/String" := Exa.start ev_a_DISTINCT_name q6
  obtain ⟨a_DISTINCT_name_value, ev_a_DISTINCT_name_value⟩ := arr_v q8
  have F_a_DISTINCT_name_value : Fld s s.heap a_DISTINCT_name "java/lang/String" "value" "[B" (.ref a_DISTINCT_name_value) := Fld.start ((fld_at ev_a_DISTINCT_name).symm.trans ev_a_DISTINCT_name_value)
  obtain ⟨c_a_DISTINCT_name_value, Ar_a_DISTINCT_name_value⟩ := Arr.start ev_a_DISTINCT_name_value q8
  obtain ⟨a_SUM, ev_a_SUM⟩ := exa_v q12
  have S_a_SUM : Sta s s.heap "com/example/risk_rule_engine/riskruleengine/rules/Statistic" "SUM" "Lcom/example/risk_rule_engine/riskruleengine/rules/Statistic;" (.ref a_SUM) := Sta.start ev_a_SUM (Or.inr ⟨(hw _ (List.mem_of_getElem? (i := 2) rfl)), (hw _ (List.mem_of_getElem? (i := 43) rfl))⟩)
  have E_a_SUM : Exa s s.heap a_SUM "com/example/risk_rule_engine/riskruleengine/rules/Statistic" := Exa.start ev_a_SUM q12
  obtain ⟨a_SUM_name, ev_a_SUM_name⟩ := exa_v q13
  have F_a_SUM_name : Fld s s.heap a_SUM "com/example/risk_rule_engine/riskruleengine/rules/Statistic" "name" "Ljava/lang/String;" (.ref a_SUM_name) := Fld.start ((fld_at ev_a_SUM).symm.trans ev_a_SUM_name)
  have E_a_SUM_name : Exa s s.heap a_SUM_name "java/lang/String" := Exa.start ev_a_SUM_name q13
  obtain ⟨a_SUM_name_value, ev_a_SUM_name_value⟩ := arr_v q15
  have F_a_SUM_name_value : Fld s s.heap a_SUM_name "java/lang/String" "value" "[B" (.ref a_SUM_name_value) := Fld.start ((fld_at ev_a_SUM_name).symm.trans ev_a_SUM_name_value)
  obtain ⟨c_a_SUM_name_value, Ar_a_SUM_name_value⟩ := Arr.start ev_a_SUM_name_value q15
  have F_a_COUNT_name_coder : Fld s s.heap a_COUNT_name "java/lang/String" "coder" "B" (.int (0 : Int32)) := Fld.start ((fld_at ev_a_COUNT_name).symm.trans (own_eqI q2))
  have F_a_DISTINCT_name_coder : Fld s s.heap a_DISTINCT_name "java/lang/String" "coder" "B" (.int (0 : Int32)) := Fld.start ((fld_at ev_a_DISTINCT_name).symm.trans (own_eqI q7))
  have F_a_DISTINCT_ordinal : Fld s s.heap a_DISTINCT "java/lang/Enum" "ordinal" "I" (.int (2 : Int32)) := Fld.start ((fld_at ev_a_DISTINCT).symm.trans (own_eqI q10))
  have F_a_COUNT_ordinal : Fld s s.heap a_COUNT "java/lang/Enum" "ordinal" "I" (.int (0 : Int32)) := Fld.start ((fld_at ev_a_COUNT).symm.trans (own_eqI q11))
  have F_a_SUM_name_coder : Fld s s.heap a_SUM_name "java/lang/String" "coder" "B" (.int (0 : Int32)) := Fld.start ((fld_at ev_a_SUM_name).symm.trans (own_eqI q14))
  have F_a_SUM_ordinal : Fld s s.heap a_SUM "java/lang/Enum" "ordinal" "I" (.int (1 : Int32)) := Fld.start ((fld_at ev_a_SUM).symm.trans (own_eqI q20))
  have V_a_COUNT_name_value := own_arv hfit Ar_a_COUNT_name_value ev_a_COUNT_name_value (own_eqI q4) (vs := [(.int (99 : Int32)), (.int (111 : Int32)), (.int (117 : Int32)), (.int (110 : Int32)), (.int (116 : Int32))]) (dv := (.int (0 : Int32))) (by decide) rfl ⟨own_el Ar_a_COUNT_name_value ev_a_COUNT_name_value (own_eqI q21) 0 (by decide), own_el Ar_a_COUNT_name_value ev_a_COUNT_name_value (own_eqI q22) 1 (by decide), own_el Ar_a_COUNT_name_value ev_a_COUNT_name_value (own_eqI q23) 2 (by decide), own_el Ar_a_COUNT_name_value ev_a_COUNT_name_value (own_eqI q24) 3 (by decide), own_el Ar_a_COUNT_name_value ev_a_COUNT_name_value (own_eqI q25) 4 (by decide), trivial⟩
  have V_a_DISTINCT_name_value := own_arv hfit Ar_a_DISTINCT_name_value ev_a_DISTINCT_name_value (own_eqI q9) (vs := [(.int (100 : Int32)), (.int (105 : Int32)), (.int (115 : Int32)), (.int (116 : Int32)), (.int (105 : Int32)), (.int (110 : Int32)), (.int (99 : Int32)), (.int (116 : Int32))]) (dv := (.int (0 : Int32))) (by decide) rfl ⟨own_el Ar_a_DISTINCT_name_value ev_a_DISTINCT_name_value (own_eqI q26) 0 (by decide), own_el Ar_a_DISTINCT_name_value ev_a_DISTINCT_name_value (own_eqI q27) 1 (by decide), own_el Ar_a_DISTINCT_name_value ev_a_DISTINCT_name_value (own_eqI q28) 2 (by decide), own_el Ar_a_DISTINCT_name_value ev_a_DISTINCT_name_value (own_eqI q29) 3 (by decide), own_el Ar_a_DISTINCT_name_value ev_a_DISTINCT_name_value (own_eqI q30) 4 (by decide), own_el Ar_a_DISTINCT_name_value ev_a_DISTINCT_name_value (own_eqI q31) 5 (by decide), own_el Ar_a_DISTINCT_name_value ev_a_DISTINCT_name_value (own_eqI q32) 6 (by decide), own_el Ar_a_DISTINCT_name_value ev_a_DISTINCT_name_value (own_eqI m32) 7 (by decide), trivial⟩
  have V_a_SUM_name_value := own_arv hfit Ar_a_SUM_name_value ev_a_SUM_name_value (own_eqI q16) (vs := [(.int (115 : Int32)), (.int (117 : Int32)), (.int (109 : Int32))]) (dv := (.int (0 : Int32))) (by decide) rfl ⟨own_el Ar_a_SUM_name_value ev_a_SUM_name_value (own_eqI q17) 0 (by decide), own_el Ar_a_SUM_name_value ev_a_SUM_name_value (own_eqI q18) 1 (by decide), own_el Ar_a_SUM_name_value ev_a_SUM_name_value (own_eqI q19) 2 (by decide), trivial⟩
  have ne_SUM : a_SUM ≠ a_COUNT := Fld.ne F_a_SUM_ordinal F_a_COUNT_ordinal (by decide)
  have ne_DISTINCT : a_DISTINCT ≠ a_COUNT := Fld.ne F_a_DISTINCT_ordinal F_a_COUNT_ordinal (by decide)
  have n3 := not_v (Cond.before_iff.mp (hsets _ (List.mem_of_getElem? (i := 2) rfl)))
  obtain ⟨G1, eG1⟩ := is_v (Cond.before_iff.mp (hsets _ (List.mem_of_getElem? (i := 1) rfl)))
  have SG1 : Sta s s.heap "java/lang/String" "COMPACT_STRINGS" "Z" (.int G1) := Sta.start eG1 (Or.inl (hsets _ (List.mem_of_getElem? (i := 0) rfl)))
  have PG1 : ¬ (G1 = (0 : Int32)) := gotF (Cond.eq_ints eG1 (Term.int_eval (0))) n3
  have hCH : CHv s consts_1 s.vm s.heap := CHv.start (own_EW hw) (fun q hq => hcalls.1 q hq) (hsets _ (List.mem_of_getElem? (i := 2) rfl)) (hw _ (List.mem_of_getElem? (i := 14) rfl)) (hw _ (List.mem_of_getElem? (i := 13) rfl))
  obtain ⟨n, o, h1, h2, h3, _, L, rfl, ⟨rfl, N⟩, -, hq⟩ := rm0 l s _ hw tables_1 i0 G1 a_COUNT a_SUM a_DISTINCT a_COUNT_name a_COUNT_name_value c_a_COUNT_name_value.cls a_SUM_name a_SUM_name_value c_a_SUM_name_value.cls a_DISTINCT_name a_DISTINCT_name_value c_a_DISTINCT_name_value.cls s.heap s.heap.size (Nat.le_refl _) S_a_COUNT S_a_SUM S_a_DISTINCT SG1 PG1 E_a_COUNT F_a_COUNT_name E_a_COUNT_name F_a_COUNT_name_coder F_a_COUNT_name_value V_a_COUNT_name_value E_a_SUM F_a_SUM_name E_a_SUM_name F_a_SUM_name_coder F_a_SUM_name_value V_a_SUM_name_value E_a_DISTINCT F_a_DISTINCT_name E_a_DISTINCT_name F_a_DISTINCT_name_coder F_a_DISTINCT_name_value V_a_DISTINCT_name_value ne_SUM ne_DISTINCT p e ha hc hk s m _ below hf ((Spec.applies_iff_loose hf).mp happ).1 ⟨rfl, State.Warmed39.refl s, rfl, hCH⟩ trivial
  refine ⟨n, _, h1, h2, h3, hpost _ _ _ _ _ _ ⟨Cond.after_iff.mpr rfl, Cond.after_iff.mpr (eq_i res_at (Term.int_eval (1)) rfl), trivial⟩ ⟨hq.1, hq.2.1, hq.2.2.1, (hq.2.2.2.sift fun y hy => Or.inr (N y hy)).mono (by decide) (by decide)⟩⟩
theorem main_1_1 : Claimed_1_1 := comes_1 fun _ _ _ _ _ _ h hF => ⟨h.1, hF⟩
theorem main_1_2 : Claimed_1_2 := comes_1 fun _ _ _ _ _ _ h hF => ⟨h.2.1, hF⟩
end Jvm.Pilot.@@N@@
namespace Jvm.Pilot.@@N@@
open Jvm Jvm.ClassFile Sem Op Lib Jvm.Free Jvm.Stand Jvm.Pilot.@@N@@.Jvm.D
/-! MADE BY PROGRAM (witnessworld.py) out of the Statement's table words and the real class files: 18 classes; the members and pool entries that the words name. The judged class is class 1, her method 1. -/
namespace start1
open Jvm.ClassFile
def u (s : String) : CpInfo := .utf8 (stringToUtf16 s)
/-- a pool by its gaps: so many unusable entries, then the entry; so many at the end -/
def gap : Nat → List CpInfo → List CpInfo
  | 0, r => r
  | n + 1, r => .unusable :: gap n r
def poolList (es : List (Nat × CpInfo)) (last : Nat) : List CpInfo := es.foldr (fun e r => gap e.1 (e.2 :: r)) (gap last [])
def pool (es : List (Nat × CpInfo)) (last : Nat) : Array CpInfo := ⟨poolList es last⟩
def fileOf (pool : Array CpInfo) (this : Nat) (attrs : Array Attribute := #[]) (ms : Array MethodInfo := #[]) (fl : Nat := 33) (sup : Nat := 0) (ifs : Array Nat := #[]) (fds : Array FieldInfo := #[]) : ClassFile where
  minorVersion := 0
  majorVersion := 65
  constantPool := pool
  accessFlags := fl
  thisClass := this
  superClass := sup
  interfaces := ifs
  fields := fds
  methods := ms
  attributes := attrs
def plain (name : String) (sup : Option ClassId) : Class where
  name := name
  kind := .ordinary
  loader := none
  accessFlags := 33
  super := sup
  interfaces := #[]
  cf := none
  fields := #[]
  methods := #[]
  instanceTypes := #[]
  staticTypes := #[]
  resolved := #[]
  callSites := []
  init := .initialized
  statics := none
  mirror := none

def pool0 : Array CpInfo := pool [(5, u "<init>"), (0, u "()V"), (1, .class_ 10), (1, u "java/lang/Object")] 113

def k0m0 : Method := { name := "<init>", desc := "()V", sig := { parameters := [], returnType := none }, accessFlags := 1, code := none }
/-- java/lang/Object -/
def k0 : Class := { plain "java/lang/Object" none with
  accessFlags := 33
  interfaces := #[]
  cf := some (fileOf pool0 8 #[] #[{ accessFlags := 1, nameIndex := 5, descriptorIndex := 6, attributes := #[] }] 33 0 #[] #[])
  fields := #[]
  methods := #[k0m0]
  instanceTypes := #[]
  staticTypes := #[]
  resolved := Array.replicate 124 none
  statics := none }

def pool1 : Array CpInfo := pool [(2, .class_ 4), (1, u "java/lang/Object"), (0, u "<init>"), (0, u "()V"), (0, .integer 2147483647), (0, .fieldref 9 10), (0, .class_ 11), (0, .nameAndType 12 13), (0, u "com/example/risk_rule_engine/riskruleengine/rules/Statistic"), (0, u "COUNT"), (0, u "Lcom/example/risk_rule_engine/riskruleengine/rules/Statistic;"), (0, .fieldref 9 15), (0, .nameAndType 16 13), (0, u "SUM"), (0, .fieldref 9 18), (0, .nameAndType 19 13), (0, u "DISTINCT"), (0, .methodref 9 21), (0, .nameAndType 22 23), (0, u "toString"), (0, u "()Ljava/lang/String;"), (0, .string 25), (0, u "sum"), (0, .methodref 27 28), (0, .class_ 29), (0, .nameAndType 30 31), (0, u "java/lang/String"), (0, u "equals"), (0, u "(Ljava/lang/Object;)Z"), (0, .string 33), (0, u "distinct"), (0, .methodref 9 35), (0, .nameAndType 36 37), (0, u "ofField"), (0, u "()Z"), (0, .class_ 39), (0, u "com/example/risk_rule_engine/riskruleengine/rules/StatisticOfFieldPinLaw"), (2, u "law"), (0, u "(I)Z")] 3

def k1m0 : Method := { name := "<init>", desc := "()V", sig := { parameters := [], returnType := none }, accessFlags := 2, code := none }
def k1c1 : Code := { maxStack := 2, maxLocals := 5, code := code, exceptionTable := #[], attributes := #[] }
def k1m1 : Method := { name := "law", desc := "(I)Z", sig := { parameters := [.int], returnType := some .boolean }, accessFlags := 9, code := some k1c1 }
/-- com/example/risk_rule_engine/riskruleengine/rules/StatisticOfFieldPinLaw -/
def k1 : Class := { plain "com/example/risk_rule_engine/riskruleengine/rules/StatisticOfFieldPinLaw" (some 0) with
  accessFlags := 49
  interfaces := #[]
  cf := some (fileOf pool1 38 #[] #[{ accessFlags := 2, nameIndex := 5, descriptorIndex := 6, attributes := #[] }, { accessFlags := 9, nameIndex := 42, descriptorIndex := 43, attributes := #[] }] 49 2 #[] #[])
  fields := #[]
  methods := #[k1m0, k1m1]
  instanceTypes := #[]
  staticTypes := #[]
  resolved := Array.replicate 47 none
  statics := none }

def pool2 : Array CpInfo := pool [(1, .class_ 2), (0, u "java/lang/constant/Constable"), (0, .class_ 4), (0, u "java/lang/Object")] 6

/-- java/lang/constant/Constable -/
def k2 : Class := { plain "java/lang/constant/Constable" (some 0) with
  accessFlags := 1537
  interfaces := #[]
  cf := some (fileOf pool2 1 #[] #[] 1537 3 #[] #[])
  fields := #[]
  methods := #[]
  instanceTypes := #[]
  staticTypes := #[]
  resolved := Array.replicate 11 none
  statics := none }

def pool3 : Array CpInfo := pool [(1, .class_ 2), (0, u "java/lang/Comparable"), (0, .class_ 4), (0, u "java/lang/Object")] 7

/-- java/lang/Comparable -/
def k3 : Class := { plain "java/lang/Comparable" (some 0) with
  accessFlags := 1537
  interfaces := #[]
  cf := some (fileOf pool3 1 #[] #[] 1537 3 #[] #[])
  fields := #[]
  methods := #[]
  instanceTypes := #[]
  staticTypes := #[]
  resolved := Array.replicate 12 none
  statics := none }

def pool4 : Array CpInfo := pool [(1, .class_ 2), (0, u "java/io/Serializable"), (0, .class_ 4), (0, u "java/lang/Object")] 2

/-- java/io/Serializable -/
def k4 : Class := { plain "java/io/Serializable" (some 0) with
  accessFlags := 1537
  interfaces := #[]
  cf := some (fileOf pool4 1 #[] #[] 1537 3 #[] #[])
  fields := #[]
  methods := #[]
  instanceTypes := #[]
  staticTypes := #[]
  resolved := Array.replicate 7 none
  statics := none }

def pool5 : Array CpInfo := pool [(2, .class_ 4), (1, u "java/lang/Enum"), (0, u "name"), (0, u "Ljava/lang/String;"), (2, u "ordinal"), (0, u "I"), (1, .class_ 14), (1, u "java/lang/Object"), (4, u "hash"), (86, .class_ 108), (1, u "java/lang/Enum$EnumDesc"), (2, .class_ 112), (0, u "java/lang/constant/Constable"), (0, .class_ 114), (0, u "java/lang/Comparable"), (0, .class_ 116), (0, u "java/io/Serializable")] 87

/-- java/lang/Enum -/
def k5 : Class := { plain "java/lang/Enum" (some 0) with
  accessFlags := 1057
  interfaces := #[2, 3, 4]
  cf := some (fileOf pool5 2 #[.nestMembers #[106]] #[] 1057 12 #[111, 113, 115] #[{ accessFlags := 18, nameIndex := 5, descriptorIndex := 6, attributes := #[] }, { accessFlags := 18, nameIndex := 9, descriptorIndex := 10, attributes := #[] }, { accessFlags := 2, nameIndex := 19, descriptorIndex := 10, attributes := #[] }])
  fields := #[{ name := "name", type := (.object "java/lang/String"), accessFlags := 18, slot := 0, constantValue := 0 }, { name := "ordinal", type := .int, accessFlags := 18, slot := 1, constantValue := 0 }, { name := "hash", type := .int, accessFlags := 2, slot := 2, constantValue := 0 }]
  methods := #[]
  instanceTypes := #[(.object "java/lang/String"), .int, .int]
  staticTypes := #[]
  resolved := Array.replicate 204 none
  statics := none }

def pool6 : Array CpInfo := pool [(1, .class_ 2), (0, u "com/example/risk_rule_engine/riskruleengine/rules/Statistic"), (0, .fieldref 1 4), (0, .nameAndType 5 6), (0, u "COUNT"), (0, u "Lcom/example/risk_rule_engine/riskruleengine/rules/Statistic;"), (2, u "SUM"), (2, u "DISTINCT"), (2, u "$VALUES"), (0, u "[Lcom/example/risk_rule_engine/riskruleengine/rules/Statistic;"), (6, .class_ 25), (1, u "java/lang/Enum"), (6, .fieldref 1 33), (0, .nameAndType 34 35), (0, u "name"), (0, u "Ljava/lang/String;"), (2, u "BY_NAME"), (0, u "Ljava/util/Map;"), (42, u "ofField"), (0, u "()Z"), (1, u "toString"), (0, u "()Ljava/lang/String;")] 4

def k6c0 : Code := { maxStack := 2, maxLocals := 1, code := prog_15_method_5_code, exceptionTable := #[], attributes := #[] }
def k6m0 : Method := { name := "ofField", desc := "()Z", sig := { parameters := [], returnType := some .boolean }, accessFlags := 0, code := some k6c0 }
def k6c1 : Code := { maxStack := 1, maxLocals := 1, code := prog_15_method_6_code, exceptionTable := #[], attributes := #[] }
def k6m1 : Method := { name := "toString", desc := "()Ljava/lang/String;", sig := { parameters := [], returnType := some (.object "java/lang/String") }, accessFlags := 1, code := some k6c1 }
/-- com/example/risk_rule_engine/riskruleengine/rules/Statistic -/
def k6 : Class := { plain "com/example/risk_rule_engine/riskruleengine/rules/Statistic" (some 5) with
  accessFlags := 16433
  interfaces := #[]
  cf := some (fileOf pool6 1 #[] #[{ accessFlags := 0, nameIndex := 82, descriptorIndex := 83, attributes := #[] }, { accessFlags := 1, nameIndex := 85, descriptorIndex := 86, attributes := #[] }] 16433 23 #[] #[{ accessFlags := 16409, nameIndex := 5, descriptorIndex := 6, attributes := #[] }, { accessFlags := 16409, nameIndex := 9, descriptorIndex := 6, attributes := #[] }, { accessFlags := 16409, nameIndex := 12, descriptorIndex := 6, attributes := #[] }, { accessFlags := 26, nameIndex := 38, descriptorIndex := 39, attributes := #[] }, { accessFlags := 18, nameIndex := 34, descriptorIndex := 35, attributes := #[] }, { accessFlags := 4122, nameIndex := 15, descriptorIndex := 16, attributes := #[] }])
  fields := #[{ name := "COUNT", type := (.object "com/example/risk_rule_engine/riskruleengine/rules/Statistic"), accessFlags := 16409, slot := 0, constantValue := 0 }, { name := "SUM", type := (.object "com/example/risk_rule_engine/riskruleengine/rules/Statistic"), accessFlags := 16409, slot := 1, constantValue := 0 }, { name := "DISTINCT", type := (.object "com/example/risk_rule_engine/riskruleengine/rules/Statistic"), accessFlags := 16409, slot := 2, constantValue := 0 }, { name := "BY_NAME", type := (.object "java/util/Map"), accessFlags := 26, slot := 3, constantValue := 0 }, { name := "name", type := (.object "java/lang/String"), accessFlags := 18, slot := 3, constantValue := 0 }, { name := "$VALUES", type := (.array (.object "com/example/risk_rule_engine/riskruleengine/rules/Statistic")), accessFlags := 4122, slot := 4, constantValue := 0 }]
  methods := #[k6m0, k6m1]
  instanceTypes := #[(.object "java/lang/String"), .int, .int, (.object "java/lang/String")]
  staticTypes := #[(.object "com/example/risk_rule_engine/riskruleengine/rules/Statistic"), (.object "com/example/risk_rule_engine/riskruleengine/rules/Statistic"), (.object "com/example/risk_rule_engine/riskruleengine/rules/Statistic"), (.object "java/util/Map"), (.array (.object "com/example/risk_rule_engine/riskruleengine/rules/Statistic"))]
  resolved := Array.replicate 91 none
  statics := some 0 }

def pool7 : Array CpInfo := pool [(2, .class_ 4), (1, u "java/lang/CharSequence"), (42, .class_ 48), (0, u "java/lang/CharSequence$1CodePointIterator"), (10, .class_ 60), (0, u "java/lang/CharSequence$1CharIterator"), (5, .class_ 67), (0, u "java/lang/Object")] 63

/-- java/lang/CharSequence -/
def k7 : Class := { plain "java/lang/CharSequence" (some 0) with
  accessFlags := 1537
  interfaces := #[]
  cf := some (fileOf pool7 2 #[.nestMembers #[47, 59]] #[] 1537 66 #[] #[])
  fields := #[]
  methods := #[]
  instanceTypes := #[]
  staticTypes := #[]
  resolved := Array.replicate 131 none
  statics := none }

def pool8 : Array CpInfo := pool [(1, .class_ 2), (0, u "java/lang/constant/ConstantDesc"), (0, .class_ 4), (0, u "java/lang/Object")] 32

/-- java/lang/constant/ConstantDesc -/
def k8 : Class := { plain "java/lang/constant/ConstantDesc" (some 0) with
  accessFlags := 1537
  interfaces := #[]
  cf := some (fileOf pool8 1 #[] #[] 1537 3 #[] #[])
  fields := #[]
  methods := #[]
  instanceTypes := #[]
  staticTypes := #[]
  resolved := Array.replicate 37 none
  statics := none }

def pool9 : Array CpInfo := pool [(2, .class_ 4), (1, u "java/lang/Object"), (0, u "<init>"), (0, u "()V"), (2, .fieldref 10 11), (0, .class_ 12), (0, .nameAndType 13 14), (0, u "java/lang/String"), (0, u "value"), (0, u "[B"), (0, .fieldref 10 16), (0, .nameAndType 17 18), (0, u "coder"), (0, u "B"), (2, u "hash"), (0, u "I"), (2, u "hashIsZero"), (0, u "Z"), (11, .fieldref 10 39), (0, .nameAndType 40 26), (0, u "COMPACT_STRINGS"), (66, .class_ 109), (1, u "java/lang/StringLatin1"), (431, .methodref 107 542), (0, .nameAndType 543 544), (0, u "equals"), (0, u "([B[B)Z"), (28, u "(Ljava/lang/Object;)Z"), (1, .class_ 576), (0, u "java/lang/CharSequence"), (22, u "CASE_INSENSITIVE_ORDER"), (0, u "Ljava/util/Comparator;"), (500, u "serialPersistentFields"), (0, u "[Ljava/io/ObjectStreamField;"), (0, .class_ 1104), (0, u "java/lang/String$CaseInsensitiveComparator"), (1, .class_ 1107), (0, u "java/io/Serializable"), (0, .class_ 1109), (0, u "java/lang/Comparable"), (0, .class_ 1111), (0, u "java/lang/constant/Constable"), (0, .class_ 1113), (0, u "java/lang/constant/ConstantDesc"), (2, u "serialVersionUID"), (0, u "J"), (3, u "REPL"), (0, u "C"), (2, u "LATIN1"), (1, u "UTF16")] 323

def k9m0 : Method := { name := "<init>", desc := "()V", sig := { parameters := [], returnType := none }, accessFlags := 1, code := none }
def k9c1 : Code := { maxStack := 2, maxLocals := 3, code := jdk_42_method_66_code, exceptionTable := #[], attributes := #[] }
def k9m1 : Method := { name := "equals", desc := "(Ljava/lang/Object;)Z", sig := { parameters := [(.object "java/lang/Object")], returnType := some .boolean }, accessFlags := 1, code := some k9c1 }
/-- java/lang/String -/
def k9 : Class := { plain "java/lang/String" (some 0) with
  accessFlags := 49
  interfaces := #[4, 3, 7, 2, 8]
  cf := some (fileOf pool9 10 #[.nestMembers #[1103]] #[{ accessFlags := 1, nameIndex := 5, descriptorIndex := 6, attributes := #[] }, { accessFlags := 1, nameIndex := 543, descriptorIndex := 573, attributes := #[] }] 49 2 #[1106, 1108, 575, 1110, 1112] #[{ accessFlags := 18, nameIndex := 13, descriptorIndex := 14, attributes := #[] }, { accessFlags := 18, nameIndex := 17, descriptorIndex := 18, attributes := #[] }, { accessFlags := 2, nameIndex := 21, descriptorIndex := 22, attributes := #[] }, { accessFlags := 2, nameIndex := 25, descriptorIndex := 26, attributes := #[] }, { accessFlags := 26, nameIndex := 1116, descriptorIndex := 1117, attributes := #[] }, { accessFlags := 24, nameIndex := 40, descriptorIndex := 26, attributes := #[] }, { accessFlags := 26, nameIndex := 1101, descriptorIndex := 1102, attributes := #[] }, { accessFlags := 26, nameIndex := 1121, descriptorIndex := 1122, attributes := #[] }, { accessFlags := 25, nameIndex := 599, descriptorIndex := 600, attributes := #[] }, { accessFlags := 24, nameIndex := 1125, descriptorIndex := 18, attributes := #[] }, { accessFlags := 24, nameIndex := 1127, descriptorIndex := 18, attributes := #[] }])
  fields := #[{ name := "value", type := (.array .byte), accessFlags := 18, slot := 0, constantValue := 0 }, { name := "coder", type := .byte, accessFlags := 18, slot := 1, constantValue := 0 }, { name := "hash", type := .int, accessFlags := 2, slot := 2, constantValue := 0 }, { name := "hashIsZero", type := .boolean, accessFlags := 2, slot := 3, constantValue := 0 }, { name := "serialVersionUID", type := .long, accessFlags := 26, slot := 0, constantValue := 0 }, { name := "COMPACT_STRINGS", type := .boolean, accessFlags := 24, slot := 1, constantValue := 0 }, { name := "serialPersistentFields", type := (.array (.object "java/io/ObjectStreamField")), accessFlags := 26, slot := 2, constantValue := 0 }, { name := "REPL", type := .char, accessFlags := 26, slot := 3, constantValue := 0 }, { name := "CASE_INSENSITIVE_ORDER", type := (.object "java/util/Comparator"), accessFlags := 25, slot := 4, constantValue := 0 }, { name := "LATIN1", type := .byte, accessFlags := 24, slot := 5, constantValue := 0 }, { name := "UTF16", type := .byte, accessFlags := 24, slot := 6, constantValue := 0 }]
  methods := #[k9m0, k9m1]
  instanceTypes := #[(.array .byte), .byte, .int, .boolean]
  staticTypes := #[.long, .boolean, (.array (.object "java/io/ObjectStreamField")), .char, (.object "java/util/Comparator"), .byte, .byte]
  resolved := Array.replicate 1451 none
  statics := some 1 }

def pool10 : Array CpInfo := pool [(4, .class_ 6), (1, u "java/lang/Object"), (0, u "<init>"), (0, u "()V"), (5, .class_ 16), (1, u "java/lang/StringLatin1"), (104, u "$assertionsDisabled"), (0, u "Z"), (98, .class_ 223), (1, u "java/lang/StringLatin1$LinesSpliterator"), (57, u "equals"), (0, u "([B[B)Z"), (107, .class_ 391), (0, u "java/lang/StringLatin1$CharsSpliterator")] 3

def k10m0 : Method := { name := "<init>", desc := "()V", sig := { parameters := [], returnType := none }, accessFlags := 0, code := none }
def k10c1 : Code := { maxStack := 3, maxLocals := 3, code := jdk_43_method_13_code, exceptionTable := #[], attributes := #[] }
def k10m1 : Method := { name := "equals", desc := "([B[B)Z", sig := { parameters := [(.array .byte), (.array .byte)], returnType := some .boolean }, accessFlags := 9, code := some k10c1 }
/-- java/lang/StringLatin1 -/
def k10 : Class := { plain "java/lang/StringLatin1" (some 0) with
  accessFlags := 48
  interfaces := #[]
  cf := some (fileOf pool10 14 #[.nestMembers #[390, 221]] #[{ accessFlags := 0, nameIndex := 7, descriptorIndex := 8, attributes := #[] }, { accessFlags := 9, nameIndex := 281, descriptorIndex := 282, attributes := #[] }] 48 4 #[] #[{ accessFlags := 4120, nameIndex := 121, descriptorIndex := 122, attributes := #[] }])
  fields := #[{ name := "$assertionsDisabled", type := .boolean, accessFlags := 4120, slot := 0, constantValue := 0 }]
  methods := #[k10m0, k10m1]
  instanceTypes := #[]
  staticTypes := #[.boolean]
  resolved := Array.replicate 395 none
  statics := none }

def pool11 : Array CpInfo := pool [(2, .class_ 4), (1, u "java/lang/Object"), (0, u "<init>"), (0, u "()V"), (17, .class_ 26), (1, u "jdk/internal/util/Preconditions"), (28, .class_ 56), (0, u "jdk/internal/util/Preconditions$4"), (57, .class_ 115), (0, u "jdk/internal/util/Preconditions$1"), (7, u "SIOOBE_FORMATTER"), (0, u "Ljava/util/function/BiFunction;"), (0, .class_ 126), (0, u "jdk/internal/util/Preconditions$2"), (3, u "AIOOBE_FORMATTER"), (0, .class_ 132), (0, u "jdk/internal/util/Preconditions$3"), (3, u "IOOBE_FORMATTER")] 57

def k11m0 : Method := { name := "<init>", desc := "()V", sig := { parameters := [], returnType := none }, accessFlags := 1, code := none }
/-- jdk/internal/util/Preconditions -/
def k11 : Class := { plain "jdk/internal/util/Preconditions" (some 0) with
  accessFlags := 33
  interfaces := #[]
  cf := some (fileOf pool11 24 #[.nestMembers #[55, 131, 125, 114]] #[{ accessFlags := 1, nameIndex := 5, descriptorIndex := 6, attributes := #[] }] 33 2 #[] #[{ accessFlags := 25, nameIndex := 123, descriptorIndex := 124, attributes := #[] }, { accessFlags := 25, nameIndex := 130, descriptorIndex := 124, attributes := #[] }, { accessFlags := 25, nameIndex := 136, descriptorIndex := 124, attributes := #[] }])
  fields := #[{ name := "SIOOBE_FORMATTER", type := (.object "java/util/function/BiFunction"), accessFlags := 25, slot := 0, constantValue := 0 }, { name := "AIOOBE_FORMATTER", type := (.object "java/util/function/BiFunction"), accessFlags := 25, slot := 1, constantValue := 0 }, { name := "IOOBE_FORMATTER", type := (.object "java/util/function/BiFunction"), accessFlags := 25, slot := 2, constantValue := 0 }]
  methods := #[k11m0]
  instanceTypes := #[]
  staticTypes := #[(.object "java/util/function/BiFunction"), (.object "java/util/function/BiFunction"), (.object "java/util/function/BiFunction")]
  resolved := Array.replicate 194 none
  statics := some 2 }

def pool12 : Array CpInfo := pool [(9, u "<init>"), (6, .class_ 18), (1, u "java/lang/Object"), (0, u "()V"), (1, .class_ 23), (1, u "jdk/internal/util/ArraysSupport"), (0, u "LOG2_ARRAY_LONG_INDEX_SCALE"), (0, u "I"), (2, u "U"), (0, u "Ljdk/internal/misc/Unsafe;"), (8, u "BIG_ENDIAN"), (0, u "Z"), (8, u "LOG2_BYTE_BIT_SIZE"), (4, u "LOG2_ARRAY_INT_INDEX_SCALE"), (54, u "JLA"), (0, u "Ljdk/internal/access/JavaLangAccess;"), (11, u "LOG2_ARRAY_BOOLEAN_INDEX_SCALE"), (9, u "LOG2_ARRAY_BYTE_INDEX_SCALE"), (5, u "LOG2_ARRAY_CHAR_INDEX_SCALE"), (5, u "LOG2_ARRAY_SHORT_INDEX_SCALE"), (18, u "LOG2_ARRAY_FLOAT_INDEX_SCALE"), (24, u "LOG2_ARRAY_DOUBLE_INDEX_SCALE"), (89, u "T_BOOLEAN"), (2, u "T_CHAR"), (1, u "T_FLOAT"), (1, u "T_DOUBLE"), (1, u "T_BYTE"), (1, u "T_SHORT"), (1, u "T_INT"), (1, u "T_LONG"), (1, u "SOFT_MAX_ARRAY_LENGTH")] 83

def k12m0 : Method := { name := "<init>", desc := "()V", sig := { parameters := [], returnType := none }, accessFlags := 2, code := none }
/-- jdk/internal/util/ArraysSupport -/
def k12 : Class := { plain "jdk/internal/util/ArraysSupport" (some 0) with
  accessFlags := 33
  interfaces := #[]
  cf := some (fileOf pool12 21 #[] #[{ accessFlags := 2, nameIndex := 9, descriptorIndex := 19, attributes := #[] }] 33 16 #[] #[{ accessFlags := 24, nameIndex := 28, descriptorIndex := 29, attributes := #[] }, { accessFlags := 26, nameIndex := 38, descriptorIndex := 39, attributes := #[] }, { accessFlags := 25, nameIndex := 121, descriptorIndex := 25, attributes := #[] }, { accessFlags := 25, nameIndex := 131, descriptorIndex := 25, attributes := #[] }, { accessFlags := 25, nameIndex := 137, descriptorIndex := 25, attributes := #[] }, { accessFlags := 25, nameIndex := 143, descriptorIndex := 25, attributes := #[] }, { accessFlags := 25, nameIndex := 53, descriptorIndex := 25, attributes := #[] }, { accessFlags := 25, nameIndex := 24, descriptorIndex := 25, attributes := #[] }, { accessFlags := 25, nameIndex := 162, descriptorIndex := 25, attributes := #[] }, { accessFlags := 25, nameIndex := 187, descriptorIndex := 25, attributes := #[] }, { accessFlags := 26, nameIndex := 48, descriptorIndex := 25, attributes := #[] }, { accessFlags := 25, nameIndex := 277, descriptorIndex := 25, attributes := #[] }, { accessFlags := 25, nameIndex := 280, descriptorIndex := 25, attributes := #[] }, { accessFlags := 25, nameIndex := 282, descriptorIndex := 25, attributes := #[] }, { accessFlags := 25, nameIndex := 284, descriptorIndex := 25, attributes := #[] }, { accessFlags := 25, nameIndex := 286, descriptorIndex := 25, attributes := #[] }, { accessFlags := 25, nameIndex := 288, descriptorIndex := 25, attributes := #[] }, { accessFlags := 25, nameIndex := 290, descriptorIndex := 25, attributes := #[] }, { accessFlags := 25, nameIndex := 292, descriptorIndex := 25, attributes := #[] }, { accessFlags := 26, nameIndex := 108, descriptorIndex := 109, attributes := #[] }, { accessFlags := 25, nameIndex := 294, descriptorIndex := 25, attributes := #[] }])
  fields := #[{ name := "U", type := (.object "jdk/internal/misc/Unsafe"), accessFlags := 24, slot := 0, constantValue := 0 }, { name := "BIG_ENDIAN", type := .boolean, accessFlags := 26, slot := 1, constantValue := 0 }, { name := "LOG2_ARRAY_BOOLEAN_INDEX_SCALE", type := .int, accessFlags := 25, slot := 2, constantValue := 0 }, { name := "LOG2_ARRAY_BYTE_INDEX_SCALE", type := .int, accessFlags := 25, slot := 3, constantValue := 0 }, { name := "LOG2_ARRAY_CHAR_INDEX_SCALE", type := .int, accessFlags := 25, slot := 4, constantValue := 0 }, { name := "LOG2_ARRAY_SHORT_INDEX_SCALE", type := .int, accessFlags := 25, slot := 5, constantValue := 0 }, { name := "LOG2_ARRAY_INT_INDEX_SCALE", type := .int, accessFlags := 25, slot := 6, constantValue := 0 }, { name := "LOG2_ARRAY_LONG_INDEX_SCALE", type := .int, accessFlags := 25, slot := 7, constantValue := 0 }, { name := "LOG2_ARRAY_FLOAT_INDEX_SCALE", type := .int, accessFlags := 25, slot := 8, constantValue := 0 }, { name := "LOG2_ARRAY_DOUBLE_INDEX_SCALE", type := .int, accessFlags := 25, slot := 9, constantValue := 0 }, { name := "LOG2_BYTE_BIT_SIZE", type := .int, accessFlags := 26, slot := 10, constantValue := 0 }, { name := "T_BOOLEAN", type := .int, accessFlags := 25, slot := 11, constantValue := 0 }, { name := "T_CHAR", type := .int, accessFlags := 25, slot := 12, constantValue := 0 }, { name := "T_FLOAT", type := .int, accessFlags := 25, slot := 13, constantValue := 0 }, { name := "T_DOUBLE", type := .int, accessFlags := 25, slot := 14, constantValue := 0 }, { name := "T_BYTE", type := .int, accessFlags := 25, slot := 15, constantValue := 0 }, { name := "T_SHORT", type := .int, accessFlags := 25, slot := 16, constantValue := 0 }, { name := "T_INT", type := .int, accessFlags := 25, slot := 17, constantValue := 0 }, { name := "T_LONG", type := .int, accessFlags := 25, slot := 18, constantValue := 0 }, { name := "JLA", type := (.object "jdk/internal/access/JavaLangAccess"), accessFlags := 26, slot := 19, constantValue := 0 }, { name := "SOFT_MAX_ARRAY_LENGTH", type := .int, accessFlags := 25, slot := 20, constantValue := 0 }]
  methods := #[k12m0]
  instanceTypes := #[]
  staticTypes := #[(.object "jdk/internal/misc/Unsafe"), .boolean, .int, .int, .int, .int, .int, .int, .int, .int, .int, .int, .int, .int, .int, .int, .int, .int, .int, (.object "jdk/internal/access/JavaLangAccess"), .int]
  resolved := Array.replicate 378 none
  statics := none }

def pool13 : Array CpInfo := pool [(1, u "java/lang/Cloneable"), (0, .class_ 1), (0, u "java/lang/Object"), (0, .class_ 3)] 3

/-- java/lang/Cloneable -/
def k13 : Class := { plain "java/lang/Cloneable" (some 0) with
  accessFlags := 1537
  interfaces := #[]
  cf := some (fileOf pool13 2 #[] #[] 1537 4 #[] #[])
  fields := #[]
  methods := #[]
  instanceTypes := #[]
  staticTypes := #[]
  resolved := Array.replicate 8 none
  statics := none }

/-- the primitive byte -/
def k14 : Class := { plain "byte" none with kind := .primitive 'B', accessFlags := 0x411 }
/-- [B -/
def k15 : Class := { plain "[B" (some 0) with kind := .array 14 .byte, interfaces := #[13, 4], accessFlags := 1041 }

/-- the primitive int -/
def k16 : Class := { plain "int" none with kind := .primitive 'I', accessFlags := 0x411 }
/-- [I -/
def k17 : Class := { plain "[I" (some 0) with kind := .array 16 .int, interfaces := #[13, 4], accessFlags := 1041 }

def heap : Heap := #[{ cls := 6, slots := #[.ref 6, .ref 10, .ref 8, .null, .null], vm := .statics 6 },
  { cls := 9, slots := #[.long 0, .int 1, .null, .int 0, .null, .int 0, .int 0], vm := .statics 9 },
  { cls := 11, slots := #[.null, .null, .null], vm := .statics 11 },
  { cls := 15, slots := #[.int 99, .int 111, .int 117, .int 110, .int 116], vm := .none },
  { cls := 15, slots := #[.int 100, .int 105, .int 115, .int 116, .int 105, .int 110, .int 99, .int 116], vm := .none },
  { cls := 15, slots := #[.int 115, .int 117, .int 109], vm := .none },
  { cls := 6, slots := #[.null, .int 0, .int 0, .ref 7], vm := .none },
  { cls := 9, slots := #[.ref 3, .int 0, .int 0, .int 0], vm := .none },
  { cls := 6, slots := #[.null, .int 2, .int 0, .ref 9], vm := .none },
  { cls := 9, slots := #[.ref 4, .int 0, .int 0, .int 0], vm := .none },
  { cls := 6, slots := #[.null, .int 1, .int 0, .ref 11], vm := .none },
  { cls := 9, slots := #[.ref 5, .int 0, .int 0, .int 0], vm := .none }]
def classes : Array Class := #[k0, k1, k2, k3, k4, k5, k6, k7, k8, k9, k10, k11, k12, k13, k14, k15, k16, k17]
def interned : List (Array UInt16 × Addr) := []
def slotsUsed : Nat := 55
def theMethod : MethodId := ⟨1, 1⟩
def args0 : Array Value := #[.int 5]
def aboutOver (below : List Frame) : State where
  vm := { classes := classes, interned := interned.toArray }
  heap := heap
  slotsUsed := slotsUsed
  threads := #[{ frames := .invoking theMethod args0 :: below }]
def below0 : List Frame := [.native { method := ⟨0, 0⟩, args := #[] }]
def about1 : State := aboutOver below0
def p0 : Program := .bare "" "" ""
def e0 : Env := launch0.env 0 0 0
theorem w_frames : about1.frames = Frame.invoking theMethod args0 :: below0 := rfl
set_option maxRecDepth 65536 in
theorem w_args : argsFit about1.vm theMethod args0 = true := by decide +kernel
set_option maxRecDepth 65536 in
theorem w_heap : heapFits about1 = true := by decide +kernel
set_option maxRecDepth 65536 in
theorem w_runnable : about1.curStatus? = some .runnable := by decide +kernel
set_option maxRecDepth 65536 in
theorem w_alone : about1.alone = true := by decide +kernel
set_option maxRecDepth 65536 in
theorem w_named : about1.methodNamed? x = some theMethod := by decide +kernel
set_option maxRecDepth 65536 in
theorem w_hears : about1.hears theMethod below0 = true := by decide +kernel
set_option maxRecDepth 65536 in
theorem w_ripe : about1.ripe theMethod args0 below0 = true := by decide +kernel
theorem w_running : about1.status = .running := rfl
set_option maxRecDepth 65536 in
theorem w_room : about1.hasRoom e0.platform room_1 = true :=
  launch0.hasRoom_least _ room_1 (by decide +kernel) (by decide +kernel) (by decide +kernel) (by decide +kernel) (by decide +kernel) (by decide +kernel)
theorem allAtoms_all (ts : List Jvm.Cond) (a : Array Jvm.Value) (st : Jvm.State) : (allAtoms ts).before a st = ts.all (fun c => c.before a st) := by
  induction ts with
  | nil => rfl
  | cons c t ih =>
    show (Jvm.Cond.and c (allAtoms t)).before a st = _
    rw [Jvm.Cond.before_and, ih, List.all_cons]
def words1 : List Jvm.Cond := Jvm.Cond.code x code maxLocals ret :: tables_1
/-- a 'code' word, met by the world's own term for the bytes: nothing is compared byte by byte -/
theorem code_word {y : MethodName} {bytes : ByteArray} {mx : Nat} {rt : Option FieldType} {a : Array Value} {s : State} {m : MethodId} {meth : Method} {c : Code} (h1 : s.methodNamed? y = some m) (h2 : s.vm.method? m = some meth) (h3 : meth.code = some c) (h4 : c.code = bytes)
    (h5 : (c.maxLocals == mx && c.exceptionTable.isEmpty && decide (c.maxStack ≤ mostOperands) && decide (meth.sig.returnType = rt) && !meth.locks && decide (parseMethodDescriptor y.desc = some meth.sig)) = true) : (Jvm.Cond.code y bytes mx rt).before a s = true := by
  simp only [Bool.and_eq_true, beq_iff_eq, Bool.not_eq_true', decide_eq_true_eq] at h5
  obtain ⟨⟨⟨⟨⟨g1, g2⟩, g3⟩, g4⟩, g5⟩, g6⟩ := h5
  simp [Cond.before, Cond.holds, Cond.value, h1, h2, h3, h4, g1, g2, g3, g4, g5, g6]
def isCode : Jvm.Cond → Bool
  | .code _ _ _ _ => true
  | _ => false
theorem all_split {L : List Jvm.Cond} {P : Jvm.Cond → Bool} (h1 : L.all (fun c => isCode c || P c) = true) (h2 : ∀ c ∈ L.filter isCode, P c = true) : L.all P = true := by
  refine List.all_eq_true.mpr fun c hc => ?_
  have h := List.all_eq_true.mp h1 c hc
  rcases Bool.eq_false_or_eq_true (isCode c) with hi | hi
  · exact h2 c (List.mem_filter.mpr ⟨hc, hi⟩)
  · simpa [hi] using h
set_option maxRecDepth 65536 in
theorem w_c0 : (Jvm.Cond.code x code maxLocals ret).before args0 about1 = true := code_word (m := ⟨1, 1⟩) (meth := k1m1) (c := k1c1) (by decide +kernel) rfl rfl rfl (by decide +kernel)
set_option maxRecDepth 65536 in
theorem w_c1 : (Jvm.Cond.code ({ cls := "com/example/risk_rule_engine/riskruleengine/rules/Statistic", name := "toString", desc := "()Ljava/lang/String;" } : Jvm.MethodName) prog_15_method_6_code (1 : Nat) (Option.some (Jvm.ClassFile.FieldType.object "java/lang/String"))).before args0 about1 = true := code_word (m := ⟨6, 1⟩) (meth := k6m1) (c := k6c1) (by decide +kernel) rfl rfl rfl (by decide +kernel)
set_option maxRecDepth 65536 in
theorem w_c2 : (Jvm.Cond.code ({ cls := "java/lang/String", name := "equals", desc := "(Ljava/lang/Object;)Z" } : Jvm.MethodName) jdk_42_method_66_code (3 : Nat) (Option.some Jvm.ClassFile.FieldType.boolean)).before args0 about1 = true := code_word (m := ⟨9, 1⟩) (meth := k9m1) (c := k9c1) (by decide +kernel) rfl rfl rfl (by decide +kernel)
set_option maxRecDepth 65536 in
theorem w_c3 : (Jvm.Cond.code ({ cls := "java/lang/StringLatin1", name := "equals", desc := "([B[B)Z" } : Jvm.MethodName) jdk_43_method_13_code (3 : Nat) (Option.some Jvm.ClassFile.FieldType.boolean)).before args0 about1 = true := code_word (m := ⟨10, 1⟩) (meth := k10m1) (c := k10c1) (by decide +kernel) rfl rfl rfl (by decide +kernel)
set_option maxRecDepth 65536 in
theorem w_c4 : (Jvm.Cond.code ({ cls := "com/example/risk_rule_engine/riskruleengine/rules/Statistic", name := "ofField", desc := "()Z" } : Jvm.MethodName) prog_15_method_5_code (1 : Nat) (Option.some Jvm.ClassFile.FieldType.boolean)).before args0 about1 = true := code_word (m := ⟨6, 0⟩) (meth := k6m0) (c := k6c0) (by decide +kernel) rfl rfl rfl (by decide +kernel)
def codes1 : List Jvm.Cond := [Jvm.Cond.code x code maxLocals ret, Jvm.Cond.code ({ cls := "com/example/risk_rule_engine/riskruleengine/rules/Statistic", name := "toString", desc := "()Ljava/lang/String;" } : Jvm.MethodName) prog_15_method_6_code (1 : Nat) (Option.some (Jvm.ClassFile.FieldType.object "java/lang/String")), Jvm.Cond.code ({ cls := "java/lang/String", name := "equals", desc := "(Ljava/lang/Object;)Z" } : Jvm.MethodName) jdk_42_method_66_code (3 : Nat) (Option.some Jvm.ClassFile.FieldType.boolean), Jvm.Cond.code ({ cls := "java/lang/StringLatin1", name := "equals", desc := "([B[B)Z" } : Jvm.MethodName) jdk_43_method_13_code (3 : Nat) (Option.some Jvm.ClassFile.FieldType.boolean), Jvm.Cond.code ({ cls := "com/example/risk_rule_engine/riskruleengine/rules/Statistic", name := "ofField", desc := "()Z" } : Jvm.MethodName) prog_15_method_5_code (1 : Nat) (Option.some Jvm.ClassFile.FieldType.boolean)]
set_option maxRecDepth 65536 in
theorem codes_eq : words1.filter isCode = codes1 := rfl
theorem w_codes : ∀ c ∈ words1.filter isCode, c.before args0 about1 = true := by
  rw [codes_eq]
  intro c hc
  simp only [codes1, List.mem_cons, List.not_mem_nil, or_false] at hc
  rcases hc with rfl | rfl | rfl | rfl | rfl
  · exact w_c0
  · exact w_c1
  · exact w_c2
  · exact w_c3
  · exact w_c4
set_option maxRecDepth 65536 in
theorem w_t1 : (words1.take 24).all (fun c => isCode c || c.before args0 about1) = true := by decide +kernel
set_option maxRecDepth 65536 in
theorem w_t2 : (words1.drop 24).all (fun c => isCode c || c.before args0 about1) = true := by decide +kernel
theorem w_tables : (allAtoms (Jvm.Cond.code x code maxLocals ret :: tables_1)).before args0 about1 = true := by
  rw [allAtoms_all]
  show words1.all (fun c => c.before args0 about1) = true
  refine all_split ?_ w_codes
  rw [← List.take_append_drop 24 words1, List.all_append, w_t1, w_t2]
  rfl
set_option maxRecDepth 65536 in
theorem w_rest : rest_1_c.before args0 about1 = true := by decide +kernel
set_option maxRecDepth 65536 in
theorem w_case : (Jvm.Cond.and given_1 narrow_1).before args0 about1 = true := by decide +kernel
set_option maxRecDepth 65536 in
theorem w_consts : constsHeld consts_1 about1 := Jvm.Lit.constsHeldB_iff.mp (by decide +kernel)
theorem w_applies : (headSpec (Jvm.Cond.code x code maxLocals ret :: tables_1) room_1).applies x e0.platform about1 = true :=
  (Spec.applies_iff w_frames).mpr ⟨w_running, w_runnable, w_alone, w_named, w_hears, w_ripe, w_room, w_tables⟩
theorem atStart : AtStart classFile x code maxLocals ret World_1 tables_1 room_1 Calls_1 rest_1 Pre_1 launch0 p0 e0 about1 theMethod args0 below0 :=
  ⟨lists_1, trivial, launch0.admits_env _ _ _, launch0.least_env, fairChoices_fair.cas, fairChoices_fair.clock, w_frames, w_args, w_heap, w_applies, ⟨w_consts, trivial⟩, w_rest, w_case⟩
end start1
theorem witness_1 : WitnessClaimed_1 := ⟨start1.p0, start1.e0, start1.about1, start1.theMethod, start1.args0, start1.below0, start1.atStart⟩
end Jvm.Pilot.@@N@@
