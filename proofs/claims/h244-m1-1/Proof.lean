import JvmDerived
import JvmDerived.Pilot.@@N@@Statement
import JvmDerived.Pilot.@@N@@Code
set_option linter.unusedVariables false
set_option linter.unusedSimpArgs false

namespace Jvm.Pilot.@@N@@
open Jvm Jvm.ClassFile Sem Op Lib Jvm.Free Jvm.Stand Jvm.LawKit Jvm.RoadKit Bundle Jvm.Pilot.@@N@@.Jvm.D

section OwnKit
variable {p : Program} {l : Launch} {e : Env} {R : Room} {s : State} {m : MethodId} {args : Array Value} {below : List Frame} {meth : Method} {c : Code} {T T' : State} {locs : List Loc} {cells slots : Nat} {Z : State} {h h' : Heap}
/-- from the state T with the frame g on top the run ends well -/
def own_G (p : Program) (e : Env) (below : List Frame) (s : State) (kc ks : Nat) (Q : Option Value → Heap → List Loc → Prop) (T : State) (g : JFrame) : Prop :=
  ∃ (U : State) (o : Outcome), Steps p.tables e below (T.setTop g) U ∧ U.status = .running ∧ Ended U below o ∧ ∃ v L, o = .returned v ∧ Q v U.heap L ∧ FrameEnd s o U L kc ks
variable {kc ks : Nat} {Q : Option Value → Heap → List Loc → Prop}
theorem own_step {g g' : JFrame} (k : ∀ t, Steps p.tables e below (T'.setTop g') t → Steps p.tables e below (T.setTop g) t) (hh : own_G p e below s kc ks Q T' g') : own_G p e below s kc ks Q T g := by
  obtain ⟨U, o, h1, h2⟩ := hh
  exact ⟨U, o, k _ h1, h2⟩
theorem own_retN (X : Stand p l e R s m args below meth c T locs cells slots) (hx : p.tables.exec = Jvm.exec) (hlk : meth.locks = false) {pc : Nat} {Ls : Array Slot} {z w : Int32} {t : FieldType} {rest : List Value} (hret : meth.sig.returnType = some t) (ht : t = .boolean ∨ t = .byte ∨ t = .char ∨ t = .short) (hd : decode c.code pc = .ok (.ireturn, 1)) (hw : nar t z = w) (hc : cells ≤ kc) (hs : slots ≤ ks) (hQ : Q (some (.int w)) T.heap locs) :
    own_G p e below s kc ks Q T (mkF m pc Ls (.int z :: rest)) := by
  subst hw
  obtain ⟨fs, hr, hrun, hended, hW, hsame⟩ := X.leave (v := some (.int (nar t z))) (fun q => by rw [hret] at q; cases q) hlk
  exact ⟨_, _, retN X hx hret ht hd hr, hrun, hended, _, _, rfl, hQ, ⟨_, rfl⟩, hW, hsame.mono hc hs⟩
theorem own_retI (X : Stand p l e R s m args below meth c T locs cells slots) (hx : p.tables.exec = Jvm.exec) (hlk : meth.locks = false) {pc : Nat} {Ls : Array Slot} {z : Int32} {rest : List Value} (hret : meth.sig.returnType = some .int) (hd : decode c.code pc = .ok (.ireturn, 1)) (hc : cells ≤ kc) (hs : slots ≤ ks) (hQ : Q (some (.int z)) T.heap locs) :
    own_G p e below s kc ks Q T (mkF m pc Ls (.int z :: rest)) := by
  obtain ⟨fs, hr, hrun, hended, hW, hsame⟩ := X.leave (v := some (.int z)) (fun q => by rw [hret] at q; cases q) hlk
  exact ⟨_, _, retOut X hx hret rfl (Or.inl ⟨rfl, Or.inl rfl, z, rfl⟩) hd hr, hrun, hended, _, _, rfl, hQ, ⟨_, rfl⟩, hW, hsame.mono hc hs⟩
theorem own_retJ (X : Stand p l e R s m args below meth c T locs cells slots) (hx : p.tables.exec = Jvm.exec) (hlk : meth.locks = false) {pc : Nat} {Ls : Array Slot} {z : Int64} {rest : List Value} (hret : meth.sig.returnType = some .long) (hd : decode c.code pc = .ok (.lreturn, 1)) (hc : cells ≤ kc) (hs : slots ≤ ks) (hQ : Q (some (.long z)) T.heap locs) :
    own_G p e below s kc ks Q T (mkF m pc Ls (.long z :: rest)) := by
  obtain ⟨fs, hr, hrun, hended, hW, hsame⟩ := X.leave (v := some (.long z)) (fun q => by rw [hret] at q; cases q) hlk
  exact ⟨_, _, retOut X hx hret rfl (Or.inr (Or.inl ⟨rfl, rfl, z, rfl⟩)) hd hr, hrun, hended, _, _, rfl, hQ, ⟨_, rfl⟩, hW, hsame.mono hc hs⟩
theorem own_retR (X : Stand p l e R s m args below meth c T locs cells slots) (hx : p.tables.exec = Jvm.exec) (hlk : meth.locks = false) {pc : Nat} {Ls : Array Slot} {w : Value} {t : FieldType} {rest : List Value} (hret : meth.sig.returnType = some t) (ht : t.isReference = true) (hw : w.isRef = true) (hd : decode c.code pc = .ok (.areturn, 1)) (hc : cells ≤ kc) (hs : slots ≤ ks) (hQ : Q (some w) T.heap locs) :
    own_G p e below s kc ks Q T (mkF m pc Ls (w :: rest)) := by
  obtain ⟨fs, hr, hrun, hended, hW, hsame⟩ := X.leave (v := some w) (fun q => by rw [hret] at q; cases q) hlk
  have hn : narrow t w = w := by cases w <;> cases t <;> first | rfl | (cases hw; done) | (cases ht; done)
  exact ⟨_, _, retOut X hx hret hn (Or.inr (Or.inr (Or.inr (Or.inr ⟨rfl, ht, hw⟩)))) hd hr, hrun, hended, _, _, rfl, hQ, ⟨_, rfl⟩, hW, hsame.mono hc hs⟩
theorem own_retV (X : Stand p l e R s m args below meth c T locs cells slots) (hx : p.tables.exec = Jvm.exec) (hlk : meth.locks = false) {pc : Nat} {Ls : Array Slot} (hret : meth.sig.returnType = none) (hd : decode c.code pc = .ok (.return_, 1)) (hc : cells ≤ kc) (hs : slots ≤ ks) (hQ : Q none T.heap locs) :
    own_G p e below s kc ks Q T (mkF m pc Ls []) := by
  obtain ⟨fs, hr, hrun, hended, hW, hsame⟩ := X.leave (v := none) (fun _ => rfl) hlk
  exact ⟨_, _, X.returnOut hx hret hd hr, hrun, hended, _, _, rfl, hQ, ⟨_, rfl⟩, hW, hsame.mono hc hs⟩
theorem own_lksw (X : Stand p l e R s m args below meth c T locs cells slots) (hx : p.tables.exec = Jvm.exec) {g : JFrame} (hg : g.method = m) {d : Int} {prs : Array (Int × Int)} {len : Nat} (hd : decode c.code g.pc = .ok (.lookupswitch d prs, len)) {x : Int32} {rest : List Value} (hs : g.stack = .int x :: rest) (hp : (prs.toList.zip (prs.toList.drop 1)).all (fun (a, next) => a.1 < next.1) = true)
    {o : Int} (ho : lookupswitch.offset prs.toList d x.toInt = o) {pc0 pc' : Nat} (hpc : g.pc = pc0) (h0 : 0 ≤ (pc0 : Int) + o) (hq : ((pc0 : Int) + o).toNat = pc') {target : State}
    (k : Steps p.tables e below (T.setTop { g with pc := pc', stack := rest }) target) : Steps p.tables e below (T.setTop g) target := by
  subst hg hpc hq ho
  jvm_step X.here [X.here.top, hx, hd, hs, lookupswitch.wp_chain, hp, h0]
  exact ⟨by simpa using hp, k⟩
theorem own_sta_keep {C n d : String} {v : Value} {ws : List Addr} (F : Sta Z h C n d v) (K : Keep h h' ws) (q : ∀ a ∈ ws, ∀ cell : Cell, h[a]? = some cell → cell.vm.isStatics = false) : Sta Z h' C n d v := by
  obtain ⟨cf, i, k, f, st, cell, h1, h2, h3, h4, h5, h6, h7⟩ := F
  exact ⟨cf, i, k, f, st, cell, h1, h2, h3, h4, K.2.1 st cell h5 (fun hm => by rw [q st hm cell h5] at h6; cases h6), h6, h7⟩
end OwnKit
theorem pd_0 : parseMethodDescriptor "(II)V" = some ⟨[.int, .int], none⟩ := by decide +kernel
theorem pd_1 : parseMethodDescriptor "()V" = some ⟨[], none⟩ := by decide +kernel
theorem pd_2 : parseMethodDescriptor "(II)Z" = some ⟨[.int, .int], some .boolean⟩ := by decide +kernel
theorem pd_3 : parseMethodDescriptor "(II)I" = some ⟨[.int, .int], some .int⟩ := by decide +kernel
theorem pd_4 : parseMethodDescriptor "()Z" = some ⟨[], some .boolean⟩ := by decide +kernel
theorem pn_0 : plainName "com/example/tilescript/tilescript/PoolCellIsOnBoardPinLaw" = true := by first | (simp [plainName, overriddenIn]; done) | decide +kernel
theorem d1_0 : decode prog_14_method_1_code 0 = .ok (.aload_n 0, 1) := by decide +kernel
theorem d1_1 : decode prog_14_method_1_code 1 = .ok (.invokespecial 3, 3) := by decide +kernel
theorem d1_4 : decode prog_14_method_1_code 4 = .ok (.aload_n 0, 1) := by decide +kernel
theorem d1_5 : decode prog_14_method_1_code 5 = .ok (.iload_n 1, 1) := by decide +kernel
theorem d1_6 : decode prog_14_method_1_code 6 = .ok (.putfield 9, 3) := by decide +kernel
theorem d1_9 : decode prog_14_method_1_code 9 = .ok (.aload_n 0, 1) := by decide +kernel
theorem d1_10 : decode prog_14_method_1_code 10 = .ok (.iload_n 2, 1) := by decide +kernel
theorem d1_11 : decode prog_14_method_1_code 11 = .ok (.putfield 13, 3) := by decide +kernel
theorem d1_14 : decode prog_14_method_1_code 14 = .ok (.return_, 1) := by decide +kernel
theorem pn_1 : plainName "com/example/tilescript/tilescript/PoolCell" = true := by first | (simp [plainName, overriddenIn]; done) | decide +kernel
theorem d2_0 : decode jdk_30_method_1_code 0 = .ok (.aload_n 0, 1) := by decide +kernel
theorem d2_1 : decode jdk_30_method_1_code 1 = .ok (.invokespecial 1, 3) := by decide +kernel
theorem d2_4 : decode jdk_30_method_1_code 4 = .ok (.return_, 1) := by decide +kernel
theorem pn_2 : plainName "java/lang/Record" = true := by first | (simp [plainName, overriddenIn]; done) | decide +kernel
theorem d4_0 : decode method_2_code 0 = .ok (.iload_n 0, 1) := by decide +kernel
theorem d4_1 : decode method_2_code 1 = .ok (.iload_n 0, 1) := by decide +kernel
theorem d4_2 : decode method_2_code 2 = .ok (.iconst 0, 1) := by decide +kernel
theorem d4_3 : decode method_2_code 3 = .ok (.invokestatic 7, 3) := by decide +kernel
theorem d4_6 : decode method_2_code 6 = .ok (.iload_n 1, 1) := by decide +kernel
theorem d4_7 : decode method_2_code 7 = .ok (.invokestatic 13, 3) := by decide +kernel
theorem d4_10 : decode method_2_code 10 = .ok (.if_icmp .ne 7, 3) := by decide +kernel
theorem d4_13 : decode method_2_code 13 = .ok (.iconst 1, 1) := by decide +kernel
theorem d4_14 : decode method_2_code 14 = .ok (.goto 4, 3) := by decide +kernel
theorem d4_17 : decode method_2_code 17 = .ok (.iconst 0, 1) := by decide +kernel
theorem d4_18 : decode method_2_code 18 = .ok (.ireturn, 1) := by decide +kernel
theorem pn_4 : plainName "com/example/tilescript/tilescript/PoolCellIsOnBoardPinLaw" = true := by first | (simp [plainName, overriddenIn]; done) | decide +kernel
theorem d5_0 : decode jdk_29_method_65_code 0 = .ok (.iload_n 0, 1) := by decide +kernel
theorem d5_1 : decode jdk_29_method_65_code 1 = .ok (.iload_n 1, 1) := by decide +kernel
theorem d5_2 : decode jdk_29_method_65_code 2 = .ok (.if_icmp .lt 7, 3) := by decide +kernel
theorem d5_5 : decode jdk_29_method_65_code 5 = .ok (.iload_n 0, 1) := by decide +kernel
theorem d5_6 : decode jdk_29_method_65_code 6 = .ok (.goto 4, 3) := by decide +kernel
theorem d5_9 : decode jdk_29_method_65_code 9 = .ok (.iload_n 1, 1) := by decide +kernel
theorem d5_10 : decode jdk_29_method_65_code 10 = .ok (.ireturn, 1) := by decide +kernel
theorem d6_0 : decode jdk_29_method_69_code 0 = .ok (.iload_n 0, 1) := by decide +kernel
theorem d6_1 : decode jdk_29_method_69_code 1 = .ok (.iload_n 1, 1) := by decide +kernel
theorem d6_2 : decode jdk_29_method_69_code 2 = .ok (.if_icmp .gt 7, 3) := by decide +kernel
theorem d6_5 : decode jdk_29_method_69_code 5 = .ok (.iload_n 0, 1) := by decide +kernel
theorem d6_6 : decode jdk_29_method_69_code 6 = .ok (.goto 4, 3) := by decide +kernel
theorem d6_9 : decode jdk_29_method_69_code 9 = .ok (.iload_n 1, 1) := by decide +kernel
theorem d6_10 : decode jdk_29_method_69_code 10 = .ok (.ireturn, 1) := by decide +kernel
theorem d7_0 : decode prog_14_method_4_code 0 = .ok (.aload_n 0, 1) := by decide +kernel
theorem d7_1 : decode prog_14_method_4_code 1 = .ok (.getfield 9, 3) := by decide +kernel
theorem d7_4 : decode prog_14_method_4_code 4 = .ok (.ifCond .lt 30, 3) := by decide +kernel
theorem d7_7 : decode prog_14_method_4_code 7 = .ok (.aload_n 0, 1) := by decide +kernel
theorem d7_8 : decode prog_14_method_4_code 8 = .ok (.getfield 9, 3) := by decide +kernel
theorem d7_11 : decode prog_14_method_4_code 11 = .ok (.iconst 5, 1) := by decide +kernel
theorem d7_12 : decode prog_14_method_4_code 12 = .ok (.if_icmp .ge 22, 3) := by decide +kernel
theorem d7_15 : decode prog_14_method_4_code 15 = .ok (.aload_n 0, 1) := by decide +kernel
theorem d7_16 : decode prog_14_method_4_code 16 = .ok (.getfield 13, 3) := by decide +kernel
theorem d7_19 : decode prog_14_method_4_code 19 = .ok (.ifCond .lt 15, 3) := by decide +kernel
theorem d7_22 : decode prog_14_method_4_code 22 = .ok (.aload_n 0, 1) := by decide +kernel
theorem d7_23 : decode prog_14_method_4_code 23 = .ok (.getfield 13, 3) := by decide +kernel
theorem d7_26 : decode prog_14_method_4_code 26 = .ok (.iconst 4, 1) := by decide +kernel
theorem d7_27 : decode prog_14_method_4_code 27 = .ok (.if_icmp .ge 7, 3) := by decide +kernel
theorem d7_30 : decode prog_14_method_4_code 30 = .ok (.iconst 1, 1) := by decide +kernel
theorem d7_31 : decode prog_14_method_4_code 31 = .ok (.goto 4, 3) := by decide +kernel
theorem d7_34 : decode prog_14_method_4_code 34 = .ok (.iconst 0, 1) := by decide +kernel
theorem d7_35 : decode prog_14_method_4_code 35 = .ok (.ireturn, 1) := by decide +kernel
theorem pn_7 : plainName "com/example/tilescript/tilescript/PoolCell" = true := by first | (simp [plainName, overriddenIn]; done) | decide +kernel
theorem ef_rm2 (m : MethodId) (x0 : Addr) : entryFrame m #[(.ref x0)] 1 = mkF m 0 #[.val (.ref x0)] [] := by first | (simp [entryFrame, mkF, argsToLocals, Value.category]; done) | rfl
def Qrm2 (Z : State) (p0 : Addr) (h0 : Heap) (n0 : Nat) (v : Option Value) (h : Heap) (L : List Loc) : Prop := v = none ∧ Fr n0 L ∧ h = h0
set_option maxRecDepth 65536 in
set_option maxHeartbeats 40000000 in
theorem rm2 (l : Launch) (Z : State) (a0 : Array Value) (hw : ∀ d ∈ tables_1, d.before a0 Z = true) (ws : List Jvm.Cond) (p0 : Addr) (h0 : Heap) (n0 : Nat) (Z0 : n0 ≤ h0.size) :
    MetFree l (⟨"java/lang/Record", "<init>", "()V"⟩ : MethodName) (head1 (Jvm.Cond.code (⟨"java/lang/Record", "<init>", "()V"⟩ : MethodName) jdk_30_method_1_code 1 none :: ws) ({ frames := 1, cells := 0, slots := 0, locals := 12 } : Room)) (fun a U => a = #[(.ref p0)] ∧ Z.Warmed39 U.vm ∧ U.heap = h0) (fun _ _ _ _ _ => True) (fun _ U o U' => ∃ v L, o = .returned v ∧ Qrm2 Z p0 h0 n0 v U'.heap L ∧ FrameEnd U o U' L ({ frames := 1, cells := 0, slots := 0, locals := 12 } : Room).cells ({ frames := 1, cells := 0, slots := 0, locals := 12 } : Room).slots) := by
  refine MetFree.of_bodySF (plainFor_of_name pn_2) hisR ?_
  intro p e s m args below meth c s₁ Bd hml0 hP hK
  obtain ⟨rfl, hZ, hh⟩ := hP
  have hx := Bd.exec
  have hby := Bd.bytes
  have hlk : meth.locks = false := BodyLoose.notSynchronized Bd
  have hml : c.maxLocals = 1 := hml0
  have hown : s.vm.findClass "java/lang/Record" = some m.cls := findClass_of_methodNamed Bd.named
  have hnm := (name_of_methodNamed Bd.named Bd.method).1
  have X0 : Stand p l e ({ frames := 1, cells := 0, slots := 0, locals := 12 } : Room) s m #[(.ref p0)] below meth c s₁ [] 0 0 := Stand.of_body Bd
  have e0 : s₁.heap = h0 := by rw [← hh, Bd.state]; rfl
  have N0 := Fr.nil n0
  have K0 : Keep h0 h0 [] := Keep.refl h0 []
  show own_G p e below s 0 0 (Qrm2 Z p0 h0 n0) s₁ (entryFrame m #[(.ref p0)] 1)
  rw [ef_rm2 m p0]
  refine own_step (T' := s₁) (g' := (mkF m 1 #[.val (.ref p0)] [(.ref p0)])) (fun t k => XS.aloadN X0.here hx rfl (hb hby d2_0) rfl rfl k) ?_
  obtain ⟨T1, X1, e1, st1⟩ := initO X0 hx hZ hown (hw _ (List.mem_of_getElem? (i := 11) rfl)) (hw _ (List.mem_of_getElem? (i := 12) rfl)) (hw _ (List.mem_of_getElem? (i := 13) rfl)) e0 (g := (mkF m 1 #[.val (.ref p0)] [(.ref p0)])) rfl (by rw [hml]; rfl) rfl (hb hby d2_1) (by decide) (W := 0) (by show 2 * 0 + _ ≤ _; exact Nat.le_of_eq rfl) (by decide)
  refine own_step (T' := T1) (g' := (mkF m 4 #[.val (.ref p0)] [])) st1 ?_
  refine own_retV X1 hx hlk Bd.returns (hb hby d2_4) (by decide) (by decide) ?_
  exact ⟨rfl, N0, e1⟩
theorem ef_rm1 (m : MethodId) (x0 : Addr) (x1 : Int32) (x2 : Int32) : entryFrame m #[(.ref x0), (.int x1), (.int x2)] 3 = mkF m 0 #[.val (.ref x0), .val (.int x1), .val (.int x2)] [] := by first | (simp [entryFrame, mkF, argsToLocals, Value.category]; done) | rfl
def Qrm1 (Z : State) (p0 : Addr) (p1 : Int32) (p2 : Int32) (h0 : Heap) (n0 : Nat) (v : Option Value) (h : Heap) (L : List Loc) : Prop := v = none ∧ Fr n0 L ∧ Keep h0 h [p0] ∧ Fld Z h p0 "com/example/tilescript/tilescript/PoolCell" "x" "I" (.int p1) ∧ Fld Z h p0 "com/example/tilescript/tilescript/PoolCell" "y" "I" (.int p2)
set_option maxRecDepth 65536 in
set_option maxHeartbeats 40000000 in
theorem rm1 (l : Launch) (Z : State) (a0 : Array Value) (hw : ∀ d ∈ tables_1, d.before a0 Z = true) (ws : List Jvm.Cond) (p0 : Addr) (p1 : Int32) (p2 : Int32) (h0 : Heap) (n0 : Nat) (Z0 : n0 ≤ h0.size) (E_p0 : Exa Z h0 p0 "com/example/tilescript/tilescript/PoolCell") (F_x_p0 : Fld Z h0 p0 "com/example/tilescript/tilescript/PoolCell" "x" "I" (.int (0 : Int32))) (F_y_p0 : Fld Z h0 p0 "com/example/tilescript/tilescript/PoolCell" "y" "I" (.int (0 : Int32))) (g_p0 : n0 ≤ p0) :
    MetFree l (⟨"com/example/tilescript/tilescript/PoolCell", "<init>", "(II)V"⟩ : MethodName) (head1 (Jvm.Cond.code (⟨"com/example/tilescript/tilescript/PoolCell", "<init>", "(II)V"⟩ : MethodName) prog_14_method_1_code 3 none :: ws) ({ frames := 2, cells := 0, slots := 0, locals := 24 } : Room)) (fun a U => a = #[(.ref p0), (.int p1), (.int p2)] ∧ Z.Warmed39 U.vm ∧ U.heap = h0) (fun _ _ _ _ _ => True) (fun _ U o U' => ∃ v L, o = .returned v ∧ Qrm1 Z p0 p1 p2 h0 n0 v U'.heap L ∧ FrameEnd U o U' L ({ frames := 2, cells := 0, slots := 0, locals := 24 } : Room).cells ({ frames := 2, cells := 0, slots := 0, locals := 24 } : Room).slots) := by
  refine MetFree.of_bodySF (plainFor_of_name pn_1) hisR ?_
  intro p e s m args below meth c s₁ Bd hml0 hP hK
  obtain ⟨rfl, hZ, hh⟩ := hP
  have hx := Bd.exec
  have hby := Bd.bytes
  have hlk : meth.locks = false := BodyLoose.notSynchronized Bd
  have hml : c.maxLocals = 3 := hml0
  have hown : s.vm.findClass "com/example/tilescript/tilescript/PoolCell" = some m.cls := findClass_of_methodNamed Bd.named
  have hnm := (name_of_methodNamed Bd.named Bd.method).1
  have X0 : Stand p l e ({ frames := 2, cells := 0, slots := 0, locals := 24 } : Room) s m #[(.ref p0), (.int p1), (.int p2)] below meth c s₁ [] 0 0 := Stand.of_body Bd
  have e0 : s₁.heap = h0 := by rw [← hh, Bd.state]; rfl
  have N0 := Fr.nil n0
  have K0 : Keep h0 h0 [p0] := Keep.refl h0 [p0]
  show own_G p e below s 0 0 (Qrm1 Z p0 p1 p2 h0 n0) s₁ (entryFrame m #[(.ref p0), (.int p1), (.int p2)] 3)
  rw [ef_rm1 m p0 p1 p2]
  refine own_step (T' := s₁) (g' := (mkF m 1 #[.val (.ref p0), .val (.int p1), .val (.int p2)] [(.ref p0)])) (fun t k => XS.aloadN X0.here hx rfl (hb hby d1_0) rfl rfl k) ?_
  obtain ⟨_, _, ⟨T1, L1, kk1, nn1⟩, -, X1, ⟨Lc1, hQ1, l1, y1, z1⟩, st1⟩ := X0.specialBack hx (y := (⟨"java/lang/Record", "<init>", "()V"⟩ : MethodName)) rfl hown (mvT hZ (hw _ (List.mem_of_getElem? (i := 6) rfl))) (mvT hZ (hw _ (List.mem_of_getElem? (i := 7) rfl))) (mvT hZ (hw _ (List.mem_of_getElem? (i := 10) rfl))) (by decide) (backOf (W := 0) (rm2 l Z a0 hw [] p0 h0 n0 (Nat.le_trans Z0 K0.1) ) hZ (hw _ (List.mem_of_getElem? (i := 10) rfl)) (hw _ (List.mem_of_getElem? (i := 9) rfl)) (by decide) (by decide)) (g := (mkF m 1 #[.val (.ref p0), .val (.int p1), .val (.int p2)] [(.ref p0)])) rfl (by rw [hml]; rfl) (Steps.refl _) (a := p0) (argsL := []) (rest := []) (lenOf pd_1 rfl) rfl (by show 2 * 0 + _ ≤ _; exact Nat.le_of_eq rfl) (hb hby d1_1) (fun _ _ => ⟨rfl, e0, (by decide : 0 + 0 ≤ _), (by decide : 0 + 0 ≤ _)⟩)
  dsimp only [Pt.U, Pt.locs, Pt.cells, Pt.slots] at X1 l1 y1 z1 st1 hQ1
  subst l1 y1 z1
  obtain ⟨rfl, N1q, eq1⟩ := hQ1
  have N1 := Fr.app N0 N1q
  refine own_step (T' := T1) (g' := (mkF m 4 #[.val (.ref p0), .val (.int p1), .val (.int p2)] [])) (fun t k => st1.trans k) ?_
  refine own_step (T' := T1) (g' := (mkF m 5 #[.val (.ref p0), .val (.int p1), .val (.int p2)] [(.ref p0)])) (fun t k => XS.aloadN X1.here hx rfl (hb hby d1_4) rfl rfl k) ?_
  refine own_step (T' := T1) (g' := (mkF m 6 #[.val (.ref p0), .val (.int p1), .val (.int p2)] [(.int p1), (.ref p0)])) (fun t k => XS.iloadN X1.here hx rfl (hb hby d1_5) rfl k) ?_
  obtain ⟨T2, h2, X2, e2, W2, st2⟩ := putF X1 hx hZ hown (host := "") (Or.inl (hw _ (List.mem_of_getElem? (i := 14) rfl))) Via.refl eq1 F_x_p0 E_p0 (Or.inr ⟨(hw _ (List.mem_of_getElem? (i := 15) rfl)), rfl, hnm⟩) (hw _ (List.mem_of_getElem? (i := 1) rfl)) (ty := .int) (by decide) rfl rfl (g := (mkF m 6 #[.val (.ref p0), .val (.int p1), .val (.int p2)] [(.int p1), (.ref p0)])) rfl rfl (hb hby d1_6)
  have E_p0_2 : Exa Z h2 p0 "com/example/tilescript/tilescript/PoolCell" := E_p0.wr W2
  have F_y_p0_2 : Fld Z h2 p0 "com/example/tilescript/tilescript/PoolCell" "y" "I" (.int (0 : Int32)) := F_y_p0.other W2 (Or.inr (slot_ne (Or.inr (hw _ (List.mem_of_getElem? (i := 17) rfl))) (Or.inr (hw _ (List.mem_of_getElem? (i := 15) rfl))) (by decide) (t := .int) (t' := .int) (by decide) (by decide)))
  have K_2 : Keep h0 h2 [p0] := K0.wr W2 (Or.inl (List.mem_of_getElem? (i := 0) rfl))
  have N2 := Fr.snoc X2 N1 g_p0
  have F_x_p0_2 : Fld Z h2 p0 "com/example/tilescript/tilescript/PoolCell" "x" "I" (.int p1) := F_x_p0.same W2
  refine own_step (T' := T2) (g' := (mkF m 9 #[.val (.ref p0), .val (.int p1), .val (.int p2)] [])) st2 ?_
  refine own_step (T' := T2) (g' := (mkF m 10 #[.val (.ref p0), .val (.int p1), .val (.int p2)] [(.ref p0)])) (fun t k => XS.aloadN X2.here hx rfl (hb hby d1_9) rfl rfl k) ?_
  refine own_step (T' := T2) (g' := (mkF m 11 #[.val (.ref p0), .val (.int p1), .val (.int p2)] [(.int p2), (.ref p0)])) (fun t k => XS.iloadN X2.here hx rfl (hb hby d1_10) rfl k) ?_
  obtain ⟨T3, h3, X3, e3, W3, st3⟩ := putF X2 hx hZ hown (host := "") (Or.inl (hw _ (List.mem_of_getElem? (i := 16) rfl))) Via.refl e2 F_y_p0_2 E_p0_2 (Or.inr ⟨(hw _ (List.mem_of_getElem? (i := 17) rfl)), rfl, hnm⟩) (hw _ (List.mem_of_getElem? (i := 1) rfl)) (ty := .int) (by decide) rfl rfl (g := (mkF m 11 #[.val (.ref p0), .val (.int p1), .val (.int p2)] [(.int p2), (.ref p0)])) rfl rfl (hb hby d1_11)
  have E_p0_3 : Exa Z h3 p0 "com/example/tilescript/tilescript/PoolCell" := E_p0_2.wr W3
  have F_x_p0_3 : Fld Z h3 p0 "com/example/tilescript/tilescript/PoolCell" "x" "I" (.int p1) := F_x_p0_2.other W3 (Or.inr (slot_ne (Or.inr (hw _ (List.mem_of_getElem? (i := 15) rfl))) (Or.inr (hw _ (List.mem_of_getElem? (i := 17) rfl))) (by decide) (t := .int) (t' := .int) (by decide) (by decide)))
  have K_3 : Keep h0 h3 [p0] := K_2.wr W3 (Or.inl (List.mem_of_getElem? (i := 0) rfl))
  have N3 := Fr.snoc X3 N2 g_p0
  have F_y_p0_3 : Fld Z h3 p0 "com/example/tilescript/tilescript/PoolCell" "y" "I" (.int p2) := F_y_p0_2.same W3
  refine own_step (T' := T3) (g' := (mkF m 14 #[.val (.ref p0), .val (.int p1), .val (.int p2)] [])) st3 ?_
  refine own_retV X3 hx hlk Bd.returns (hb hby d1_14) (by decide) (by decide) ?_
  rw [e3]
  exact ⟨rfl, N3, K_3, F_x_p0_3, F_y_p0_3⟩
def fn5 (p0 : Int32) (p1 : Int32) : Int32 := if p0 < p1 then p1 else p0
theorem ef_rm5 (m : MethodId) (x0 : Int32) (x1 : Int32) : entryFrame m #[(.int x0), (.int x1)] 2 = mkF m 0 #[.val (.int x0), .val (.int x1)] [] := by first | (simp [entryFrame, mkF, argsToLocals, Value.category]; done) | rfl
def Qrm5 (Z : State) (p0 : Int32) (p1 : Int32) (h0 : Heap) (n0 : Nat) (v : Option Value) (h : Heap) (L : List Loc) : Prop := v = some (.int (fn5 p0 p1)) ∧ Fr n0 L ∧ h = h0
set_option maxRecDepth 65536 in
set_option maxHeartbeats 40000000 in
theorem rm5 (l : Launch) (Z : State) (a0 : Array Value) (hw : ∀ d ∈ tables_1, d.before a0 Z = true) (ws : List Jvm.Cond) (p0 : Int32) (p1 : Int32) (h0 : Heap) (n0 : Nat) (Z0 : n0 ≤ h0.size) :
    MetFree l (⟨"java/lang/Math", "max", "(II)I"⟩ : MethodName) (head1 (Jvm.Cond.code (⟨"java/lang/Math", "max", "(II)I"⟩ : MethodName) jdk_29_method_65_code 2 (some .int) :: ws) ({ frames := 0, cells := 0, slots := 0, locals := 0 } : Room)) (fun a U => a = #[(.int p0), (.int p1)] ∧ Z.Warmed39 U.vm ∧ U.heap = h0) (fun _ _ _ _ _ => True) (fun _ U o U' => ∃ v L, o = .returned v ∧ Qrm5 Z p0 p1 h0 n0 v U'.heap L ∧ FrameEnd U o U' L ({ frames := 0, cells := 0, slots := 0, locals := 0 } : Room).cells ({ frames := 0, cells := 0, slots := 0, locals := 0 } : Room).slots) := by
  refine MetFree.of_bodySF (Jvm.Free.JP.mathPlain rfl (by decide +kernel)) hisR ?_
  intro p e s m args below meth c s₁ Bd hml0 hP hK
  obtain ⟨rfl, hZ, hh⟩ := hP
  have hx := Bd.exec
  have hby := Bd.bytes
  have hlk : meth.locks = false := BodyLoose.notSynchronized Bd
  have hml : c.maxLocals = 2 := hml0
  have hown : s.vm.findClass "java/lang/Math" = some m.cls := findClass_of_methodNamed Bd.named
  have hnm := (name_of_methodNamed Bd.named Bd.method).1
  have X0 : Stand p l e ({ frames := 0, cells := 0, slots := 0, locals := 0 } : Room) s m #[(.int p0), (.int p1)] below meth c s₁ [] 0 0 := Stand.of_body Bd
  have e0 : s₁.heap = h0 := by rw [← hh, Bd.state]; rfl
  have N0 := Fr.nil n0
  have K0 : Keep h0 h0 [] := Keep.refl h0 []
  show own_G p e below s 0 0 (Qrm5 Z p0 p1 h0 n0) s₁ (entryFrame m #[(.int p0), (.int p1)] 2)
  rw [ef_rm5 m p0 p1]
  refine own_step (T' := s₁) (g' := (mkF m 1 #[.val (.int p0), .val (.int p1)] [(.int p0)])) (fun t k => XS.iloadN X0.here hx rfl (hb hby d5_0) rfl k) ?_
  refine own_step (T' := s₁) (g' := (mkF m 2 #[.val (.int p0), .val (.int p1)] [(.int p1), (.int p0)])) (fun t k => XS.iloadN X0.here hx rfl (hb hby d5_1) rfl k) ?_
  by_cases hc2_1 : p0 < p1
  · refine own_step (T' := s₁) (g' := (mkF m 9 #[.val (.int p0), .val (.int p1)] [])) (fun t k => XS.icmpYes X0.here hx rfl (pc0 := 2) (pc' := 9) rfl (hb hby d5_2) rfl (tlt hc2_1).1 (by decide) (by decide) k) ?_
    refine own_step (T' := s₁) (g' := (mkF m 10 #[.val (.int p0), .val (.int p1)] [(.int p1)])) (fun t k => XS.iloadN X0.here hx rfl (hb hby d5_9) rfl k) ?_
    refine own_retI X0 hx hlk Bd.returns (hb hby d5_10) (by decide) (by decide) ?_
    exact ⟨congrArg some (congrArg Value.int (show p1 = (fn5 p0 p1) from by unfold fn5; rw [if_pos hc2_1])), N0, e0⟩
  · refine own_step (T' := s₁) (g' := (mkF m 5 #[.val (.int p0), .val (.int p1)] [])) (fun t k => XS.icmpNo X0.here hx rfl (hb hby d5_2) rfl (flt hc2_1).1 k) ?_
    refine own_step (T' := s₁) (g' := (mkF m 6 #[.val (.int p0), .val (.int p1)] [(.int p0)])) (fun t k => XS.iloadN X0.here hx rfl (hb hby d5_5) rfl k) ?_
    refine own_step (T' := s₁) (g' := (mkF m 10 #[.val (.int p0), .val (.int p1)] [(.int p0)])) (fun t k => XS.goto X0.here hx rfl (pc0 := 6) (pc' := 10) rfl (hb hby d5_6) (by decide) (by decide) k) ?_
    refine own_retI X0 hx hlk Bd.returns (hb hby d5_10) (by decide) (by decide) ?_
    exact ⟨congrArg some (congrArg Value.int (show p0 = (fn5 p0 p1) from by unfold fn5; rw [if_neg hc2_1])), N0, e0⟩
def fn6 (p0 : Int32) (p1 : Int32) : Int32 := if p1 < p0 then p1 else p0
theorem ef_rm6 (m : MethodId) (x0 : Int32) (x1 : Int32) : entryFrame m #[(.int x0), (.int x1)] 2 = mkF m 0 #[.val (.int x0), .val (.int x1)] [] := by first | (simp [entryFrame, mkF, argsToLocals, Value.category]; done) | rfl
def Qrm6 (Z : State) (p0 : Int32) (p1 : Int32) (h0 : Heap) (n0 : Nat) (v : Option Value) (h : Heap) (L : List Loc) : Prop := v = some (.int (fn6 p0 p1)) ∧ Fr n0 L ∧ h = h0
set_option maxRecDepth 65536 in
set_option maxHeartbeats 40000000 in
theorem rm6 (l : Launch) (Z : State) (a0 : Array Value) (hw : ∀ d ∈ tables_1, d.before a0 Z = true) (ws : List Jvm.Cond) (p0 : Int32) (p1 : Int32) (h0 : Heap) (n0 : Nat) (Z0 : n0 ≤ h0.size) :
    MetFree l (⟨"java/lang/Math", "min", "(II)I"⟩ : MethodName) (head1 (Jvm.Cond.code (⟨"java/lang/Math", "min", "(II)I"⟩ : MethodName) jdk_29_method_69_code 2 (some .int) :: ws) ({ frames := 0, cells := 0, slots := 0, locals := 0 } : Room)) (fun a U => a = #[(.int p0), (.int p1)] ∧ Z.Warmed39 U.vm ∧ U.heap = h0) (fun _ _ _ _ _ => True) (fun _ U o U' => ∃ v L, o = .returned v ∧ Qrm6 Z p0 p1 h0 n0 v U'.heap L ∧ FrameEnd U o U' L ({ frames := 0, cells := 0, slots := 0, locals := 0 } : Room).cells ({ frames := 0, cells := 0, slots := 0, locals := 0 } : Room).slots) := by
  refine MetFree.of_bodySF (Jvm.Free.JP.mathPlain rfl (by decide +kernel)) hisR ?_
  intro p e s m args below meth c s₁ Bd hml0 hP hK
  obtain ⟨rfl, hZ, hh⟩ := hP
  have hx := Bd.exec
  have hby := Bd.bytes
  have hlk : meth.locks = false := BodyLoose.notSynchronized Bd
  have hml : c.maxLocals = 2 := hml0
  have hown : s.vm.findClass "java/lang/Math" = some m.cls := findClass_of_methodNamed Bd.named
  have hnm := (name_of_methodNamed Bd.named Bd.method).1
  have X0 : Stand p l e ({ frames := 0, cells := 0, slots := 0, locals := 0 } : Room) s m #[(.int p0), (.int p1)] below meth c s₁ [] 0 0 := Stand.of_body Bd
  have e0 : s₁.heap = h0 := by rw [← hh, Bd.state]; rfl
  have N0 := Fr.nil n0
  have K0 : Keep h0 h0 [] := Keep.refl h0 []
  show own_G p e below s 0 0 (Qrm6 Z p0 p1 h0 n0) s₁ (entryFrame m #[(.int p0), (.int p1)] 2)
  rw [ef_rm6 m p0 p1]
  refine own_step (T' := s₁) (g' := (mkF m 1 #[.val (.int p0), .val (.int p1)] [(.int p0)])) (fun t k => XS.iloadN X0.here hx rfl (hb hby d6_0) rfl k) ?_
  refine own_step (T' := s₁) (g' := (mkF m 2 #[.val (.int p0), .val (.int p1)] [(.int p1), (.int p0)])) (fun t k => XS.iloadN X0.here hx rfl (hb hby d6_1) rfl k) ?_
  by_cases hc2_1 : p1 < p0
  · refine own_step (T' := s₁) (g' := (mkF m 9 #[.val (.int p0), .val (.int p1)] [])) (fun t k => XS.icmpYes X0.here hx rfl (pc0 := 2) (pc' := 9) rfl (hb hby d6_2) rfl (tlt hc2_1).2.2.1 (by decide) (by decide) k) ?_
    refine own_step (T' := s₁) (g' := (mkF m 10 #[.val (.int p0), .val (.int p1)] [(.int p1)])) (fun t k => XS.iloadN X0.here hx rfl (hb hby d6_9) rfl k) ?_
    refine own_retI X0 hx hlk Bd.returns (hb hby d6_10) (by decide) (by decide) ?_
    exact ⟨congrArg some (congrArg Value.int (show p1 = (fn6 p0 p1) from by unfold fn6; rw [if_pos hc2_1])), N0, e0⟩
  · refine own_step (T' := s₁) (g' := (mkF m 5 #[.val (.int p0), .val (.int p1)] [])) (fun t k => XS.icmpNo X0.here hx rfl (hb hby d6_2) rfl (flt hc2_1).2.2.1 k) ?_
    refine own_step (T' := s₁) (g' := (mkF m 6 #[.val (.int p0), .val (.int p1)] [(.int p0)])) (fun t k => XS.iloadN X0.here hx rfl (hb hby d6_5) rfl k) ?_
    refine own_step (T' := s₁) (g' := (mkF m 10 #[.val (.int p0), .val (.int p1)] [(.int p0)])) (fun t k => XS.goto X0.here hx rfl (pc0 := 6) (pc' := 10) rfl (hb hby d6_6) (by decide) (by decide) k) ?_
    refine own_retI X0 hx hlk Bd.returns (hb hby d6_10) (by decide) (by decide) ?_
    exact ⟨congrArg some (congrArg Value.int (show p0 = (fn6 p0 p1) from by unfold fn6; rw [if_neg hc2_1])), N0, e0⟩
def fn4 (p0 : Int32) (p1 : Int32) : Int32 := if p0 = (fn6 (fn5 p0 (0 : Int32)) p1) then (1 : Int32) else (0 : Int32)
theorem ef_rm4 (m : MethodId) (x0 : Int32) (x1 : Int32) : entryFrame m #[(.int x0), (.int x1)] 2 = mkF m 0 #[.val (.int x0), .val (.int x1)] [] := by first | (simp [entryFrame, mkF, argsToLocals, Value.category]; done) | rfl
def Qrm4 (Z : State) (p0 : Int32) (p1 : Int32) (h0 : Heap) (n0 : Nat) (v : Option Value) (h : Heap) (L : List Loc) : Prop := v = some (.int (fn4 p0 p1)) ∧ Fr n0 L ∧ h = h0
set_option maxRecDepth 65536 in
set_option maxHeartbeats 40000000 in
theorem rm4 (l : Launch) (Z : State) (a0 : Array Value) (hw : ∀ d ∈ tables_1, d.before a0 Z = true) (ws : List Jvm.Cond) (p0 : Int32) (p1 : Int32) (h0 : Heap) (n0 : Nat) (Z0 : n0 ≤ h0.size) :
    MetFree l (⟨"com/example/tilescript/tilescript/PoolCellIsOnBoardPinLaw", "clampsToItself", "(II)Z"⟩ : MethodName) (head1 (Jvm.Cond.code (⟨"com/example/tilescript/tilescript/PoolCellIsOnBoardPinLaw", "clampsToItself", "(II)Z"⟩ : MethodName) method_2_code 2 (some .boolean) :: ws) ({ frames := 1, cells := 0, slots := 0, locals := 14 } : Room)) (fun a U => a = #[(.int p0), (.int p1)] ∧ Z.Warmed39 U.vm ∧ U.heap = h0) (fun _ _ _ _ _ => True) (fun _ U o U' => ∃ v L, o = .returned v ∧ Qrm4 Z p0 p1 h0 n0 v U'.heap L ∧ FrameEnd U o U' L ({ frames := 1, cells := 0, slots := 0, locals := 14 } : Room).cells ({ frames := 1, cells := 0, slots := 0, locals := 14 } : Room).slots) := by
  refine MetFree.of_bodySF (plainFor_of_name pn_4) hisR ?_
  intro p e s m args below meth c s₁ Bd hml0 hP hK
  obtain ⟨rfl, hZ, hh⟩ := hP
  have hx := Bd.exec
  have hby := Bd.bytes
  have hlk : meth.locks = false := BodyLoose.notSynchronized Bd
  have hml : c.maxLocals = 2 := hml0
  have hown : s.vm.findClass "com/example/tilescript/tilescript/PoolCellIsOnBoardPinLaw" = some m.cls := findClass_of_methodNamed Bd.named
  have hnm := (name_of_methodNamed Bd.named Bd.method).1
  have X0 : Stand p l e ({ frames := 1, cells := 0, slots := 0, locals := 14 } : Room) s m #[(.int p0), (.int p1)] below meth c s₁ [] 0 0 := Stand.of_body Bd
  have e0 : s₁.heap = h0 := by rw [← hh, Bd.state]; rfl
  have N0 := Fr.nil n0
  have K0 : Keep h0 h0 [] := Keep.refl h0 []
  show own_G p e below s 0 0 (Qrm4 Z p0 p1 h0 n0) s₁ (entryFrame m #[(.int p0), (.int p1)] 2)
  rw [ef_rm4 m p0 p1]
  refine own_step (T' := s₁) (g' := (mkF m 1 #[.val (.int p0), .val (.int p1)] [(.int p0)])) (fun t k => XS.iloadN X0.here hx rfl (hb hby d4_0) rfl k) ?_
  refine own_step (T' := s₁) (g' := (mkF m 2 #[.val (.int p0), .val (.int p1)] [(.int p0), (.int p0)])) (fun t k => XS.iloadN X0.here hx rfl (hb hby d4_1) rfl k) ?_
  refine own_step (T' := s₁) (g' := (mkF m 3 #[.val (.int p0), .val (.int p1)] [(.int (0 : Int32)), (.int p0), (.int p0)])) (fun t k => XS.iconst X0.here hx rfl (hb hby d4_2) k) ?_
  obtain ⟨_, _, ⟨T1, L1, kk1, nn1⟩, -, X1, ⟨Lc1, hQ1, l1, y1, z1⟩, st1⟩ := Jvm.LawKit.callS X0 hx (y := (⟨"java/lang/Math", "max", "(II)I"⟩ : MethodName)) hown (mvT hZ (hw _ (List.mem_of_getElem? (i := 22) rfl))) (mvT hZ (hw _ (List.mem_of_getElem? (i := 23) rfl))) (mvT hZ (hw _ (List.mem_of_getElem? (i := 24) rfl))) (mvT hZ (hw _ (List.mem_of_getElem? (i := 25) rfl))) (by decide) (backOf (W := 1) (rm5 l Z a0 hw [] p0 (0 : Int32) h0 n0 (Nat.le_trans Z0 K0.1) ) hZ (hw _ (List.mem_of_getElem? (i := 25) rfl)) (hw _ (List.mem_of_getElem? (i := 24) rfl)) (by decide) (by decide)) (g := (mkF m 3 #[.val (.int p0), .val (.int p1)] [(.int (0 : Int32)), (.int p0), (.int p0)])) rfl (by rw [hml]; rfl) (argsL := [(.int p0), (.int (0 : Int32))]) (rest := [(.int p0)]) (lenOf pd_3 rfl) rfl (by show 2 * 0 + _ ≤ _; exact Nat.le_of_eq rfl) (hb hby d4_3) (fun _ _ => ⟨rfl, e0, (by decide : 0 + 0 ≤ _), (by decide : 0 + 0 ≤ _)⟩)
  dsimp only [Pt.U, Pt.locs, Pt.cells, Pt.slots] at X1 l1 y1 z1 st1 hQ1
  subst l1 y1 z1
  obtain ⟨rfl, N1q, eq1⟩ := hQ1
  have N1 := Fr.app N0 N1q
  refine own_step (T' := T1) (g' := (mkF m 6 #[.val (.int p0), .val (.int p1)] [(.int (fn5 p0 (0 : Int32))), (.int p0)])) st1 ?_
  refine own_step (T' := T1) (g' := (mkF m 7 #[.val (.int p0), .val (.int p1)] [(.int p1), (.int (fn5 p0 (0 : Int32))), (.int p0)])) (fun t k => XS.iloadN X1.here hx rfl (hb hby d4_6) rfl k) ?_
  obtain ⟨_, _, ⟨T2, L2, kk2, nn2⟩, -, X2, ⟨Lc2, hQ2, l2, y2, z2⟩, st2⟩ := Jvm.LawKit.callS X1 hx (y := (⟨"java/lang/Math", "min", "(II)I"⟩ : MethodName)) hown (mvT hZ (hw _ (List.mem_of_getElem? (i := 26) rfl))) (mvT hZ (hw _ (List.mem_of_getElem? (i := 27) rfl))) (mvT hZ (hw _ (List.mem_of_getElem? (i := 24) rfl))) (mvT hZ (hw _ (List.mem_of_getElem? (i := 28) rfl))) (by decide) (backOf (W := 1) (rm6 l Z a0 hw [] (fn5 p0 (0 : Int32)) p1 h0 n0 (Nat.le_trans Z0 K0.1) ) hZ (hw _ (List.mem_of_getElem? (i := 28) rfl)) (hw _ (List.mem_of_getElem? (i := 24) rfl)) (by decide) (by decide)) (g := (mkF m 7 #[.val (.int p0), .val (.int p1)] [(.int p1), (.int (fn5 p0 (0 : Int32))), (.int p0)])) rfl (by rw [hml]; rfl) (argsL := [(.int (fn5 p0 (0 : Int32))), (.int p1)]) (rest := [(.int p0)]) (lenOf pd_3 rfl) rfl (by show 2 * 0 + _ ≤ _; exact Nat.le_of_eq rfl) (hb hby d4_7) (fun _ _ => ⟨rfl, eq1, (by decide : 0 + 0 ≤ _), (by decide : 0 + 0 ≤ _)⟩)
  dsimp only [Pt.U, Pt.locs, Pt.cells, Pt.slots] at X2 l2 y2 z2 st2 hQ2
  subst l2 y2 z2
  obtain ⟨rfl, N2q, eq2⟩ := hQ2
  have N2 := Fr.app N1 N2q
  refine own_step (T' := T2) (g' := (mkF m 10 #[.val (.int p0), .val (.int p1)] [(.int (fn6 (fn5 p0 (0 : Int32)) p1)), (.int p0)])) st2 ?_
  by_cases hc10_3 : p0 = (fn6 (fn5 p0 (0 : Int32)) p1)
  · refine own_step (T' := T2) (g' := (mkF m 13 #[.val (.int p0), .val (.int p1)] [])) (fun t k => XS.icmpNo X2.here hx rfl (hb hby d4_10) rfl (teq hc10_3).2 k) ?_
    refine own_step (T' := T2) (g' := (mkF m 14 #[.val (.int p0), .val (.int p1)] [(.int (1 : Int32))])) (fun t k => XS.iconst X2.here hx rfl (hb hby d4_13) k) ?_
    refine own_step (T' := T2) (g' := (mkF m 18 #[.val (.int p0), .val (.int p1)] [(.int (1 : Int32))])) (fun t k => XS.goto X2.here hx rfl (pc0 := 14) (pc' := 18) rfl (hb hby d4_14) (by decide) (by decide) k) ?_
    refine own_retN X2 hx hlk (t := .boolean) (w := (1 : Int32)) Bd.returns (by simp) (hb hby d4_18) rfl (by decide) (by decide) ?_
    exact ⟨congrArg some (congrArg Value.int (show (1 : Int32) = (fn4 p0 p1) from by unfold fn4; rw [if_pos hc10_3])), N2, eq2⟩
  · refine own_step (T' := T2) (g' := (mkF m 17 #[.val (.int p0), .val (.int p1)] [])) (fun t k => XS.icmpYes X2.here hx rfl (pc0 := 10) (pc' := 17) rfl (hb hby d4_10) rfl (feq hc10_3).2 (by decide) (by decide) k) ?_
    refine own_step (T' := T2) (g' := (mkF m 18 #[.val (.int p0), .val (.int p1)] [(.int (0 : Int32))])) (fun t k => XS.iconst X2.here hx rfl (hb hby d4_17) k) ?_
    refine own_retN X2 hx hlk (t := .boolean) (w := (0 : Int32)) Bd.returns (by simp) (hb hby d4_18) rfl (by decide) (by decide) ?_
    exact ⟨congrArg some (congrArg Value.int (show (0 : Int32) = (fn4 p0 p1) from by unfold fn4; rw [if_neg hc10_3])), N2, eq2⟩
def fn7 (wx : Int32) (wy : Int32) : Int32 := if wx < (0 : Int32) then (0 : Int32) else if wx < (5 : Int32) then if wy < (0 : Int32) then (0 : Int32) else if wy < (4 : Int32) then (1 : Int32) else (0 : Int32) else (0 : Int32)
theorem ef_rm7 (m : MethodId) (x0 : Addr) : entryFrame m #[(.ref x0)] 1 = mkF m 0 #[.val (.ref x0)] [] := by first | (simp [entryFrame, mkF, argsToLocals, Value.category]; done) | rfl
def Qrm7 (Z : State) (p0 : Addr) (wx : Int32) (wy : Int32) (h0 : Heap) (n0 : Nat) (v : Option Value) (h : Heap) (L : List Loc) : Prop := v = some (.int (fn7 wx wy)) ∧ Fr n0 L ∧ h = h0
set_option maxRecDepth 65536 in
set_option maxHeartbeats 40000000 in
theorem rm7 (l : Launch) (Z : State) (a0 : Array Value) (hw : ∀ d ∈ tables_1, d.before a0 Z = true) (ws : List Jvm.Cond) (p0 : Addr) (wx : Int32) (wy : Int32) (h0 : Heap) (n0 : Nat) (Z0 : n0 ≤ h0.size) (F_x_p0 : Fld Z h0 p0 "com/example/tilescript/tilescript/PoolCell" "x" "I" (.int wx)) (F_y_p0 : Fld Z h0 p0 "com/example/tilescript/tilescript/PoolCell" "y" "I" (.int wy)) :
    MetFree l (⟨"com/example/tilescript/tilescript/PoolCell", "isOnBoard", "()Z"⟩ : MethodName) (head1 (Jvm.Cond.code (⟨"com/example/tilescript/tilescript/PoolCell", "isOnBoard", "()Z"⟩ : MethodName) prog_14_method_4_code 1 (some .boolean) :: ws) ({ frames := 0, cells := 0, slots := 0, locals := 0 } : Room)) (fun a U => a = #[(.ref p0)] ∧ Z.Warmed39 U.vm ∧ U.heap = h0) (fun _ _ _ _ _ => True) (fun _ U o U' => ∃ v L, o = .returned v ∧ Qrm7 Z p0 wx wy h0 n0 v U'.heap L ∧ FrameEnd U o U' L ({ frames := 0, cells := 0, slots := 0, locals := 0 } : Room).cells ({ frames := 0, cells := 0, slots := 0, locals := 0 } : Room).slots) := by
  refine MetFree.of_bodySF (plainFor_of_name pn_7) hisR ?_
  intro p e s m args below meth c s₁ Bd hml0 hP hK
  obtain ⟨rfl, hZ, hh⟩ := hP
  have hx := Bd.exec
  have hby := Bd.bytes
  have hlk : meth.locks = false := BodyLoose.notSynchronized Bd
  have hml : c.maxLocals = 1 := hml0
  have hown : s.vm.findClass "com/example/tilescript/tilescript/PoolCell" = some m.cls := findClass_of_methodNamed Bd.named
  have hnm := (name_of_methodNamed Bd.named Bd.method).1
  have X0 : Stand p l e ({ frames := 0, cells := 0, slots := 0, locals := 0 } : Room) s m #[(.ref p0)] below meth c s₁ [] 0 0 := Stand.of_body Bd
  have e0 : s₁.heap = h0 := by rw [← hh, Bd.state]; rfl
  have N0 := Fr.nil n0
  have K0 : Keep h0 h0 [] := Keep.refl h0 []
  show own_G p e below s 0 0 (Qrm7 Z p0 wx wy h0 n0) s₁ (entryFrame m #[(.ref p0)] 1)
  rw [ef_rm7 m p0]
  refine own_step (T' := s₁) (g' := (mkF m 1 #[.val (.ref p0)] [(.ref p0)])) (fun t k => XS.aloadN X0.here hx rfl (hb hby d7_0) rfl rfl k) ?_
  obtain ⟨T1, X1, e1, st1⟩ := getF X0 hx hZ hown (host := "") (Or.inl (hw _ (List.mem_of_getElem? (i := 14) rfl))) Via.refl e0 F_x_p0 (g := (mkF m 1 #[.val (.ref p0)] [(.ref p0)])) rfl rfl (hb hby d7_1)
  refine own_step (T' := T1) (g' := (mkF m 4 #[.val (.ref p0)] [(.int wx)])) st1 ?_
  by_cases hc4_2 : wx < (0 : Int32)
  · refine own_step (T' := T1) (g' := (mkF m 34 #[.val (.ref p0)] [])) (fun t k => XS.ifYes X1.here hx rfl (pc0 := 4) (pc' := 34) rfl (hb hby d7_4) rfl ((if0 _ _).trans (tlt hc4_2).1) (by decide) (by decide) k) ?_
    refine own_step (T' := T1) (g' := (mkF m 35 #[.val (.ref p0)] [(.int (0 : Int32))])) (fun t k => XS.iconst X1.here hx rfl (hb hby d7_34) k) ?_
    refine own_retN X1 hx hlk (t := .boolean) (w := (0 : Int32)) Bd.returns (by simp) (hb hby d7_35) rfl (by decide) (by decide) ?_
    exact ⟨congrArg some (congrArg Value.int (show (0 : Int32) = (fn7 wx wy) from by unfold fn7; rw [if_pos hc4_2])), N0, e1⟩
  · refine own_step (T' := T1) (g' := (mkF m 7 #[.val (.ref p0)] [])) (fun t k => XS.ifNo X1.here hx rfl (hb hby d7_4) rfl ((if0 _ _).trans (flt hc4_2).1) k) ?_
    refine own_step (T' := T1) (g' := (mkF m 8 #[.val (.ref p0)] [(.ref p0)])) (fun t k => XS.aloadN X1.here hx rfl (hb hby d7_7) rfl rfl k) ?_
    obtain ⟨T4, X4, e4, st4⟩ := getF X1 hx hZ hown (host := "") (Or.inl (hw _ (List.mem_of_getElem? (i := 14) rfl))) Via.refl e1 F_x_p0 (g := (mkF m 8 #[.val (.ref p0)] [(.ref p0)])) rfl rfl (hb hby d7_8)
    refine own_step (T' := T4) (g' := (mkF m 11 #[.val (.ref p0)] [(.int wx)])) st4 ?_
    refine own_step (T' := T4) (g' := (mkF m 12 #[.val (.ref p0)] [(.int (5 : Int32)), (.int wx)])) (fun t k => XS.iconst X4.here hx rfl (hb hby d7_11) k) ?_
    by_cases hc12_5 : wx < (5 : Int32)
    · refine own_step (T' := T4) (g' := (mkF m 15 #[.val (.ref p0)] [])) (fun t k => XS.icmpNo X4.here hx rfl (hb hby d7_12) rfl (tlt hc12_5).2.1 k) ?_
      refine own_step (T' := T4) (g' := (mkF m 16 #[.val (.ref p0)] [(.ref p0)])) (fun t k => XS.aloadN X4.here hx rfl (hb hby d7_15) rfl rfl k) ?_
      obtain ⟨T6, X6, e6, st6⟩ := getF X4 hx hZ hown (host := "") (Or.inl (hw _ (List.mem_of_getElem? (i := 16) rfl))) Via.refl e4 F_y_p0 (g := (mkF m 16 #[.val (.ref p0)] [(.ref p0)])) rfl rfl (hb hby d7_16)
      refine own_step (T' := T6) (g' := (mkF m 19 #[.val (.ref p0)] [(.int wy)])) st6 ?_
      by_cases hc19_7 : wy < (0 : Int32)
      · refine own_step (T' := T6) (g' := (mkF m 34 #[.val (.ref p0)] [])) (fun t k => XS.ifYes X6.here hx rfl (pc0 := 19) (pc' := 34) rfl (hb hby d7_19) rfl ((if0 _ _).trans (tlt hc19_7).1) (by decide) (by decide) k) ?_
        refine own_step (T' := T6) (g' := (mkF m 35 #[.val (.ref p0)] [(.int (0 : Int32))])) (fun t k => XS.iconst X6.here hx rfl (hb hby d7_34) k) ?_
        refine own_retN X6 hx hlk (t := .boolean) (w := (0 : Int32)) Bd.returns (by simp) (hb hby d7_35) rfl (by decide) (by decide) ?_
        exact ⟨congrArg some (congrArg Value.int (show (0 : Int32) = (fn7 wx wy) from by unfold fn7; rw [if_neg hc4_2, if_pos hc12_5, if_pos hc19_7])), N0, e6⟩
      · refine own_step (T' := T6) (g' := (mkF m 22 #[.val (.ref p0)] [])) (fun t k => XS.ifNo X6.here hx rfl (hb hby d7_19) rfl ((if0 _ _).trans (flt hc19_7).1) k) ?_
        refine own_step (T' := T6) (g' := (mkF m 23 #[.val (.ref p0)] [(.ref p0)])) (fun t k => XS.aloadN X6.here hx rfl (hb hby d7_22) rfl rfl k) ?_
        obtain ⟨T9, X9, e9, st9⟩ := getF X6 hx hZ hown (host := "") (Or.inl (hw _ (List.mem_of_getElem? (i := 16) rfl))) Via.refl e6 F_y_p0 (g := (mkF m 23 #[.val (.ref p0)] [(.ref p0)])) rfl rfl (hb hby d7_23)
        refine own_step (T' := T9) (g' := (mkF m 26 #[.val (.ref p0)] [(.int wy)])) st9 ?_
        refine own_step (T' := T9) (g' := (mkF m 27 #[.val (.ref p0)] [(.int (4 : Int32)), (.int wy)])) (fun t k => XS.iconst X9.here hx rfl (hb hby d7_26) k) ?_
        by_cases hc27_10 : wy < (4 : Int32)
        · refine own_step (T' := T9) (g' := (mkF m 30 #[.val (.ref p0)] [])) (fun t k => XS.icmpNo X9.here hx rfl (hb hby d7_27) rfl (tlt hc27_10).2.1 k) ?_
          refine own_step (T' := T9) (g' := (mkF m 31 #[.val (.ref p0)] [(.int (1 : Int32))])) (fun t k => XS.iconst X9.here hx rfl (hb hby d7_30) k) ?_
          refine own_step (T' := T9) (g' := (mkF m 35 #[.val (.ref p0)] [(.int (1 : Int32))])) (fun t k => XS.goto X9.here hx rfl (pc0 := 31) (pc' := 35) rfl (hb hby d7_31) (by decide) (by decide) k) ?_
          refine own_retN X9 hx hlk (t := .boolean) (w := (1 : Int32)) Bd.returns (by simp) (hb hby d7_35) rfl (by decide) (by decide) ?_
          exact ⟨congrArg some (congrArg Value.int (show (1 : Int32) = (fn7 wx wy) from by unfold fn7; rw [if_neg hc4_2, if_pos hc12_5, if_neg hc19_7, if_pos hc27_10])), N0, e9⟩
        · refine own_step (T' := T9) (g' := (mkF m 34 #[.val (.ref p0)] [])) (fun t k => XS.icmpYes X9.here hx rfl (pc0 := 27) (pc' := 34) rfl (hb hby d7_27) rfl (flt hc27_10).2.1 (by decide) (by decide) k) ?_
          refine own_step (T' := T9) (g' := (mkF m 35 #[.val (.ref p0)] [(.int (0 : Int32))])) (fun t k => XS.iconst X9.here hx rfl (hb hby d7_34) k) ?_
          refine own_retN X9 hx hlk (t := .boolean) (w := (0 : Int32)) Bd.returns (by simp) (hb hby d7_35) rfl (by decide) (by decide) ?_
          exact ⟨congrArg some (congrArg Value.int (show (0 : Int32) = (fn7 wx wy) from by unfold fn7; rw [if_neg hc4_2, if_pos hc12_5, if_neg hc19_7, if_neg hc27_10])), N0, e9⟩
    · refine own_step (T' := T4) (g' := (mkF m 34 #[.val (.ref p0)] [])) (fun t k => XS.icmpYes X4.here hx rfl (pc0 := 12) (pc' := 34) rfl (hb hby d7_12) rfl (flt hc12_5).2.1 (by decide) (by decide) k) ?_
      refine own_step (T' := T4) (g' := (mkF m 35 #[.val (.ref p0)] [(.int (0 : Int32))])) (fun t k => XS.iconst X4.here hx rfl (hb hby d7_34) k) ?_
      refine own_retN X4 hx hlk (t := .boolean) (w := (0 : Int32)) Bd.returns (by simp) (hb hby d7_35) rfl (by decide) (by decide) ?_
      exact ⟨congrArg some (congrArg Value.int (show (0 : Int32) = (fn7 wx wy) from by unfold fn7; rw [if_neg hc4_2, if_neg hc12_5])), N0, e4⟩

theorem own_cl (v hi : Int32) (hh : 0 ≤ hi.toInt) : (fn4 v hi = 0) ↔ ¬ (0 ≤ v.toInt ∧ v.toInt ≤ hi.toInt) := by
  have e5 : (fn5 v 0).toInt = max v.toInt 0 := by
    have e0 : (0 : Int32).toInt = 0 := rfl
    unfold fn5
    split
    · rename_i q; rw [Int32.lt_iff_toInt_lt, e0] at q; omega
    · rename_i q; rw [Int32.lt_iff_toInt_lt, e0] at q; omega
  have e6 : (fn6 (fn5 v 0) hi).toInt = min (fn5 v 0).toInt hi.toInt := by
    unfold fn6
    split
    · rename_i q; rw [Int32.lt_iff_toInt_lt] at q; omega
    · rename_i q; rw [Int32.lt_iff_toInt_lt] at q; omega
  have e : fn4 v hi = if (0 ≤ v.toInt ∧ v.toInt ≤ hi.toInt) then 1 else 0 := by
    unfold fn4
    by_cases q : 0 ≤ v.toInt ∧ v.toInt ≤ hi.toInt
    · rw [if_pos q, if_pos (Int32.toInt_inj.mp (by omega))]
    · rw [if_neg q, if_neg (fun r => q (by have := congrArg Int32.toInt r; omega))]
  rw [e]
  split
  · rename_i q; exact ⟨fun r => absurd r (by decide), fun r => absurd q r⟩
  · rename_i q; exact ⟨fun _ => q, fun _ => rfl⟩
theorem own_ob (x y : Int32) : fn7 x y = if (0 ≤ x.toInt ∧ x.toInt ≤ 4) ∧ (0 ≤ y.toInt ∧ y.toInt ≤ 3) then 1 else 0 := by
  unfold fn7
  repeat' split
  all_goals first | rfl | (exfalso; simp only [Int32.lt_iff_toInt_lt, ← Int32.toInt_inj, Int32.reduceToInt] at *; omega)
theorem own_A {x y : Int32} (h1 : ¬ fn4 x 4 = 0) (h2 : ¬ fn4 y 3 = 0) : fn7 x y = 1 := by
  rw [own_cl x 4 (by decide), Classical.not_not] at h1
  rw [own_cl y 3 (by decide), Classical.not_not] at h2
  rw [own_ob, if_pos ⟨h1, h2⟩]
theorem own_B {x y : Int32} (h1 : fn4 x 4 = 0) : fn7 x y = 0 := by
  rw [own_cl x 4 (by decide)] at h1
  rw [own_ob, if_neg (fun q => h1 q.1)]
theorem own_C {x y : Int32} (h1 : fn4 y 3 = 0) : fn7 x y = 0 := by
  rw [own_cl y 3 (by decide)] at h1
  rw [own_ob, if_neg (fun q => h1 q.2)]
theorem ef_rm0 (m : MethodId) (x0 : Int32) (x1 : Int32) (x2 : Int32) : entryFrame m #[(.int x0), (.int x1), (.int x2)] maxLocals = mkF m 0 #[.val (.int x0), .val (.int x1), .val (.int x2), .unset, .unset, .unset, .unset] [] := by first | (simp [entryFrame, mkF, argsToLocals, Value.category, maxLocals]; done) | rfl
def Qrm0 (Z : State) (p0 : Int32) (p1 : Int32) (p2 : Int32) (h0 : Heap) (n0 : Nat) (v : Option Value) (h : Heap) (L : List Loc) : Prop := v = some (.int (1 : Int32)) ∧ Fr n0 L
set_option maxRecDepth 65536 in
set_option maxHeartbeats 40000000 in
theorem rm0 (l : Launch) (Z : State) (a0 : Array Value) (hw : ∀ d ∈ tables_1, d.before a0 Z = true) (ws : List Jvm.Cond) (p0 : Int32) (p1 : Int32) (p2 : Int32) (h0 : Heap) (n0 : Nat) (Z0 : n0 ≤ h0.size) :
    MetFree l x (head1 (Jvm.Cond.code x code maxLocals ret :: ws) room_1) (fun a U => a = #[(.int p0), (.int p1), (.int p2)] ∧ Z.Warmed39 U.vm ∧ U.heap = h0) (fun _ _ _ _ _ => True) (fun _ U o U' => ∃ v L, o = .returned v ∧ Qrm0 Z p0 p1 p2 h0 n0 v U'.heap L ∧ FrameEnd U o U' L 1 2) := by
  refine MetFree.of_bodySF (plainFor_of_name pn_0) hisR ?_
  intro p e s m args below meth c s₁ Bd hml0 hP hK
  obtain ⟨rfl, hZ, hh⟩ := hP
  have hx := Bd.exec
  have hby := Bd.bytes
  have hlk : meth.locks = false := BodyLoose.notSynchronized Bd
  have hml : c.maxLocals = 7 := hml0
  have hown : s.vm.findClass "com/example/tilescript/tilescript/PoolCellIsOnBoardPinLaw" = some m.cls := findClass_of_methodNamed Bd.named
  have hnm := (name_of_methodNamed Bd.named Bd.method).1
  have X0 : Stand p l e room_1 s m #[(.int p0), (.int p1), (.int p2)] below meth c s₁ [] 0 0 := Stand.of_body Bd
  have e0 : s₁.heap = h0 := by rw [← hh, Bd.state]; rfl
  have N0 := Fr.nil n0
  have K0 : Keep h0 h0 [] := Keep.refl h0 []
  show own_G p e below s 1 2 (Qrm0 Z p0 p1 p2 h0 n0) s₁ (entryFrame m #[(.int p0), (.int p1), (.int p2)] maxLocals)
  rw [ef_rm0 m p0 p1 p2]
  refine own_step (T' := s₁) (g' := (mkF m 1 #[.val (.int p0), .val (.int p1), .val (.int p2), .unset, .unset, .unset, .unset] [(.int p0)])) (fun t k => XS.iloadN X0.here hx rfl (hb hby at_0) rfl k) ?_
  refine own_step (T' := s₁) (g' := (mkF m 2 #[.val (.int p0), .val (.int p1), .val (.int p2), .val (.int p0), .unset, .unset, .unset] [])) (fun t k => XS.istoreN X0.here hx rfl (hb hby at_1) rfl (l' := #[.val (.int p0), .val (.int p1), .val (.int p2), .val (.int p0), .unset, .unset, .unset]) rfl k) ?_
  refine own_step (T' := s₁) (g' := (mkF m 3 #[.val (.int p0), .val (.int p1), .val (.int p2), .val (.int p0), .unset, .unset, .unset] [(.int p1)])) (fun t k => XS.iloadN X0.here hx rfl (hb hby at_2) rfl k) ?_
  refine own_step (T' := s₁) (g' := (mkF m 5 #[.val (.int p0), .val (.int p1), .val (.int p2), .val (.int p0), .val (.int p1), .unset, .unset] [])) (fun t k => XS.istore X0.here hx rfl (hb hby at_3) rfl (l' := #[.val (.int p0), .val (.int p1), .val (.int p2), .val (.int p0), .val (.int p1), .unset, .unset]) rfl k) ?_
  refine own_step (T' := s₁) (g' := (mkF m 6 #[.val (.int p0), .val (.int p1), .val (.int p2), .val (.int p0), .val (.int p1), .unset, .unset] [(.int p2)])) (fun t k => XS.iloadN X0.here hx rfl (hb hby at_5) rfl k) ?_
  refine own_step (T' := s₁) (g' := (mkF m 7 #[.val (.int p0), .val (.int p1), .val (.int p2), .val (.int p0), .val (.int p1), .unset, .unset] [(.int (1 : Int32)), (.int p2)])) (fun t k => XS.iconst X0.here hx rfl (hb hby at_6) k) ?_
  refine own_step (T' := s₁) (g' := (mkF m 8 #[.val (.int p0), .val (.int p1), .val (.int p2), .val (.int p0), .val (.int p1), .unset, .unset] [(.int (p2 &&& (1 : Int32)))])) (fun t k => XS.iand X0.here hx rfl (hb hby at_7) rfl k) ?_
  by_cases hc8_1 : (p2 &&& (1 : Int32)) = (0 : Int32)
  · refine own_step (T' := s₁) (g' := (mkF m 18 #[.val (.int p0), .val (.int p1), .val (.int p2), .val (.int p0), .val (.int p1), .unset, .unset] [])) (fun t k => XS.ifYes X0.here hx rfl (pc0 := 8) (pc' := 18) rfl (hb hby at_8) rfl ((if0 _ _).trans (teq hc8_1).1) (by decide) (by decide) k) ?_
    refine own_step (T' := s₁) (g' := (mkF m 19 #[.val (.int p0), .val (.int p1), .val (.int p2), .val (.int p0), .val (.int p1), .unset, .unset] [(.int p2)])) (fun t k => XS.iloadN X0.here hx rfl (hb hby at_18) rfl k) ?_
    refine own_step (T' := s₁) (g' := (mkF m 20 #[.val (.int p0), .val (.int p1), .val (.int p2), .val (.int p0), .val (.int p1), .unset, .unset] [(.int (2 : Int32)), (.int p2)])) (fun t k => XS.iconst X0.here hx rfl (hb hby at_19) k) ?_
    refine own_step (T' := s₁) (g' := (mkF m 21 #[.val (.int p0), .val (.int p1), .val (.int p2), .val (.int p0), .val (.int p1), .unset, .unset] [(.int (p2 &&& (2 : Int32)))])) (fun t k => XS.iand X0.here hx rfl (hb hby at_20) rfl k) ?_
    by_cases hc21_2 : (p2 &&& (2 : Int32)) = (0 : Int32)
    · refine own_step (T' := s₁) (g' := (mkF m 32 #[.val (.int p0), .val (.int p1), .val (.int p2), .val (.int p0), .val (.int p1), .unset, .unset] [])) (fun t k => XS.ifYes X0.here hx rfl (pc0 := 21) (pc' := 32) rfl (hb hby at_21) rfl ((if0 _ _).trans (teq hc21_2).1) (by decide) (by decide) k) ?_
      obtain ⟨T3, h3, X3, e3, E3, A3, D3, -, st3⟩ := newO X0 hx hZ hown (hw _ (List.mem_of_getElem? (i := 0) rfl)) (hw _ (List.mem_of_getElem? (i := 1) rfl)) (hw _ (List.mem_of_getElem? (i := 2) rfl)) e0 (g := (mkF m 32 #[.val (.int p0), .val (.int p1), .val (.int p2), .val (.int p0), .val (.int p1), .unset, .unset] [])) rfl (hb hby at_32) (by decide) (by decide)
      obtain ⟨b3, g3⟩ : ∃ z, z = h0.size := ⟨_, rfl⟩
      rw [← g3] at A3 D3 st3
      have K_3 : Keep h0 h3 [] := K0.ext E3
      have sz_b3 : h0.size ≤ b3 := Nat.le_trans K0.1 (Nat.le_of_eq g3.symm)
      have g_b3 : n0 ≤ b3 := Nat.le_trans Z0 sz_b3
      have E_b3 : Exa Z h3 b3 "com/example/tilescript/tilescript/PoolCell" := A3
      have F_x_b3 : Fld Z h3 b3 "com/example/tilescript/tilescript/PoolCell" "x" "I" (.int (0 : Int32)) := D3 (Or.inr (hw _ (List.mem_of_getElem? (i := 15) rfl))) (ty := .int) (by decide)
      have F_y_b3 : Fld Z h3 b3 "com/example/tilescript/tilescript/PoolCell" "y" "I" (.int (0 : Int32)) := D3 (Or.inr (hw _ (List.mem_of_getElem? (i := 17) rfl))) (ty := .int) (by decide)
      refine own_step (T' := T3) (g' := (mkF m 35 #[.val (.int p0), .val (.int p1), .val (.int p2), .val (.int p0), .val (.int p1), .unset, .unset] [(.ref b3)])) st3 ?_
      refine own_step (T' := T3) (g' := (mkF m 36 #[.val (.int p0), .val (.int p1), .val (.int p2), .val (.int p0), .val (.int p1), .unset, .unset] [(.ref b3), (.ref b3)])) (fun t k => XS.dup X3.here hx rfl (hb hby at_35) rfl rfl k) ?_
      refine own_step (T' := T3) (g' := (mkF m 37 #[.val (.int p0), .val (.int p1), .val (.int p2), .val (.int p0), .val (.int p1), .unset, .unset] [(.int p0), (.ref b3), (.ref b3)])) (fun t k => XS.iloadN X3.here hx rfl (hb hby at_36) rfl k) ?_
      refine own_step (T' := T3) (g' := (mkF m 39 #[.val (.int p0), .val (.int p1), .val (.int p2), .val (.int p0), .val (.int p1), .unset, .unset] [(.int p1), (.int p0), (.ref b3), (.ref b3)])) (fun t k => XS.iload X3.here hx rfl (hb hby at_37) rfl k) ?_
      obtain ⟨_, _, ⟨T4, L4, kk4, nn4⟩, -, X4, ⟨Lc4, hQ4, l4, y4, z4⟩, st4⟩ := X3.specialBack hx (y := (⟨"com/example/tilescript/tilescript/PoolCell", "<init>", "(II)V"⟩ : MethodName)) rfl hown (mvT hZ (hw _ (List.mem_of_getElem? (i := 3) rfl))) (mvT hZ (hw _ (List.mem_of_getElem? (i := 4) rfl))) (mvT hZ (hw _ (List.mem_of_getElem? (i := 5) rfl))) (by decide) (backOf (W := 1) (rm1 l Z a0 hw [] b3 p0 p1 h3 n0 (Nat.le_trans Z0 K_3.1) E_b3 F_x_b3 F_y_b3 g_b3) hZ (hw _ (List.mem_of_getElem? (i := 5) rfl)) (hw _ (List.mem_of_getElem? (i := 2) rfl)) (by decide) (by decide)) (g := (mkF m 39 #[.val (.int p0), .val (.int p1), .val (.int p2), .val (.int p0), .val (.int p1), .unset, .unset] [(.int p1), (.int p0), (.ref b3), (.ref b3)])) rfl (by rw [hml]; rfl) (Steps.refl _) (a := b3) (argsL := [(.int p0), (.int p1)]) (rest := [(.ref b3)]) (lenOf pd_0 rfl) rfl (by show 2 * 0 + _ ≤ _; exact Nat.le_of_eq rfl) (hb hby at_39) (fun _ _ => ⟨rfl, e3, (by decide : 1 + 0 ≤ _), (by decide : 2 + 0 ≤ _)⟩)
      dsimp only [Pt.U, Pt.locs, Pt.cells, Pt.slots] at X4 l4 y4 z4 st4 hQ4
      subst l4 y4 z4
      obtain ⟨rfl, N4q, Kq4, pq4_0, pq4_1⟩ := hQ4
      have N4 := Fr.app N0 N4q
      have E_b3_4 : Exa Z T4.heap b3 "com/example/tilescript/tilescript/PoolCell" := E_b3.keep Kq4
      have K_4 : Keep h0 T4.heap [] := K_3.trans Kq4 (allS (Or.inr sz_b3) all0)
      refine own_step (T' := T4) (g' := (mkF m 42 #[.val (.int p0), .val (.int p1), .val (.int p2), .val (.int p0), .val (.int p1), .unset, .unset] [(.ref b3)])) (fun t k => st4.trans k) ?_
      refine own_step (T' := T4) (g' := (mkF m 44 #[.val (.int p0), .val (.int p1), .val (.int p2), .val (.int p0), .val (.int p1), .val (.ref b3), .unset] [])) (fun t k => XS.astore X4.here hx rfl (hb hby at_42) rfl rfl (l' := #[.val (.int p0), .val (.int p1), .val (.int p2), .val (.int p0), .val (.int p1), .val (.ref b3), .unset]) rfl k) ?_
      refine own_step (T' := T4) (g' := (mkF m 45 #[.val (.int p0), .val (.int p1), .val (.int p2), .val (.int p0), .val (.int p1), .val (.ref b3), .unset] [(.int p0)])) (fun t k => XS.iloadN X4.here hx rfl (hb hby at_44) rfl k) ?_
      refine own_step (T' := T4) (g' := (mkF m 46 #[.val (.int p0), .val (.int p1), .val (.int p2), .val (.int p0), .val (.int p1), .val (.ref b3), .unset] [(.int (4 : Int32)), (.int p0)])) (fun t k => XS.iconst X4.here hx rfl (hb hby at_45) k) ?_
      obtain ⟨_, _, ⟨T5, L5, kk5, nn5⟩, -, X5, ⟨Lc5, hQ5, l5, y5, z5⟩, st5⟩ := Jvm.LawKit.callS X4 hx (y := (⟨"com/example/tilescript/tilescript/PoolCellIsOnBoardPinLaw", "clampsToItself", "(II)Z"⟩ : MethodName)) hown (mvT hZ (hw _ (List.mem_of_getElem? (i := 18) rfl))) (mvT hZ (hw _ (List.mem_of_getElem? (i := 19) rfl))) (mvT hZ (hw _ (List.mem_of_getElem? (i := 20) rfl))) (mvT hZ (hw _ (List.mem_of_getElem? (i := 21) rfl))) (by decide) (backOf (W := 0) (rm4 l Z a0 hw [] p0 (4 : Int32) T4.heap n0 (Nat.le_trans Z0 K_4.1) ) hZ (hw _ (List.mem_of_getElem? (i := 21) rfl)) (hw _ (List.mem_of_getElem? (i := 20) rfl)) (by decide) (by decide)) (g := (mkF m 46 #[.val (.int p0), .val (.int p1), .val (.int p2), .val (.int p0), .val (.int p1), .val (.ref b3), .unset] [(.int (4 : Int32)), (.int p0)])) rfl (by rw [hml]; rfl) (argsL := [(.int p0), (.int (4 : Int32))]) (rest := []) (lenOf pd_2 rfl) rfl (by show 2 * 0 + _ ≤ _; exact Nat.le_of_eq rfl) (hb hby at_46) (fun _ _ => ⟨rfl, rfl, (by decide : 1 + 0 ≤ _), (by decide : 2 + 0 ≤ _)⟩)
      dsimp only [Pt.U, Pt.locs, Pt.cells, Pt.slots] at X5 l5 y5 z5 st5 hQ5
      subst l5 y5 z5
      obtain ⟨rfl, N5q, eq5⟩ := hQ5
      have N5 := Fr.app N4 N5q
      refine own_step (T' := T5) (g' := (mkF m 49 #[.val (.int p0), .val (.int p1), .val (.int p2), .val (.int p0), .val (.int p1), .val (.ref b3), .unset] [(.int (fn4 p0 (4 : Int32)))])) st5 ?_
      by_cases hc49_6 : (fn4 p0 (4 : Int32)) = (0 : Int32)
      · refine own_step (T' := T5) (g' := (mkF m 65 #[.val (.int p0), .val (.int p1), .val (.int p2), .val (.int p0), .val (.int p1), .val (.ref b3), .unset] [])) (fun t k => XS.ifYes X5.here hx rfl (pc0 := 49) (pc' := 65) rfl (hb hby at_49) rfl ((if0 _ _).trans (teq hc49_6).1) (by decide) (by decide) k) ?_
        refine own_step (T' := T5) (g' := (mkF m 66 #[.val (.int p0), .val (.int p1), .val (.int p2), .val (.int p0), .val (.int p1), .val (.ref b3), .unset] [(.int (0 : Int32))])) (fun t k => XS.iconst X5.here hx rfl (hb hby at_65) k) ?_
        refine own_step (T' := T5) (g' := (mkF m 68 #[.val (.int p0), .val (.int p1), .val (.int p2), .val (.int p0), .val (.int p1), .val (.ref b3), .val (.int (0 : Int32))] [])) (fun t k => XS.istore X5.here hx rfl (hb hby at_66) rfl (l' := #[.val (.int p0), .val (.int p1), .val (.int p2), .val (.int p0), .val (.int p1), .val (.ref b3), .val (.int (0 : Int32))]) rfl k) ?_
        refine own_step (T' := T5) (g' := (mkF m 70 #[.val (.int p0), .val (.int p1), .val (.int p2), .val (.int p0), .val (.int p1), .val (.ref b3), .val (.int (0 : Int32))] [(.ref b3)])) (fun t k => XS.aload X5.here hx rfl (hb hby at_68) rfl rfl k) ?_
        obtain ⟨cq7, kq7, qq7a, qq7b, qq7c⟩ := isOf hZ eq5 E_b3_4
        obtain ⟨_, _, ⟨T7, L7, kk7, nn7⟩, -, X7, ⟨Lc7, hQ7, l7, y7, z7⟩, st7⟩ := X5.virtualBack hx (y := (⟨"com/example/tilescript/tilescript/PoolCell", "isOnBoard", "()Z"⟩ : MethodName)) (z := (⟨"com/example/tilescript/tilescript/PoolCell", "isOnBoard", "()Z"⟩ : MethodName)) hown (mvT hZ (hw _ (List.mem_of_getElem? (i := 29) rfl))) (mvT hZ (hw _ (List.mem_of_getElem? (i := 30) rfl))) (notFace_of_selects (args := #[]) (mvT hZ (hw _ (List.mem_of_getElem? (i := 32) rfl)))) (mvT hZ (hw _ (List.mem_of_getElem? (i := 32) rfl))) (mvT hZ (hw _ (List.mem_of_getElem? (i := 31) rfl))) (by decide) (backOf (W := 0) (rm7 l Z a0 hw [] b3 p0 p1 T4.heap n0 (Nat.le_trans Z0 K_4.1) pq4_0 pq4_1) hZ (hw _ (List.mem_of_getElem? (i := 33) rfl)) (hw _ (List.mem_of_getElem? (i := 2) rfl)) (by decide) (by decide)) qq7a qq7c (g := (mkF m 70 #[.val (.int p0), .val (.int p1), .val (.int p2), .val (.int p0), .val (.int p1), .val (.ref b3), .val (.int (0 : Int32))] [(.ref b3)])) rfl (by rw [hml]; rfl) (Steps.refl _) (argsL := []) (rest := []) (lenOf pd_4 rfl) rfl (by show 2 * 0 + _ ≤ _; exact Nat.le_of_eq rfl) (hb hby at_70) (fun _ _ => ⟨rfl, eq5, (by decide : 1 + 0 ≤ _), (by decide : 2 + 0 ≤ _)⟩)
        dsimp only [Pt.U, Pt.locs, Pt.cells, Pt.slots] at X7 l7 y7 z7 st7 hQ7
        subst l7 y7 z7
        obtain ⟨rfl, N7q, eq7⟩ := hQ7
        have N7 := Fr.app N5 N7q
        refine own_step (T' := T7) (g' := (mkF m 73 #[.val (.int p0), .val (.int p1), .val (.int p2), .val (.int p0), .val (.int p1), .val (.ref b3), .val (.int (0 : Int32))] [(.int (fn7 p0 p1))])) (fun t k => st7.trans k) ?_
        refine own_step (T' := T7) (g' := (mkF m 75 #[.val (.int p0), .val (.int p1), .val (.int p2), .val (.int p0), .val (.int p1), .val (.ref b3), .val (.int (0 : Int32))] [(.int (0 : Int32)), (.int (fn7 p0 p1))])) (fun t k => XS.iload X7.here hx rfl (hb hby at_73) rfl k) ?_
        refine own_step (T' := T7) (g' := (mkF m 78 #[.val (.int p0), .val (.int p1), .val (.int p2), .val (.int p0), .val (.int p1), .val (.ref b3), .val (.int (0 : Int32))] [])) (fun t k => XS.icmpNo X7.here hx rfl (hb hby at_75) rfl (teq (own_B hc49_6)).2 k) ?_
        refine own_step (T' := T7) (g' := (mkF m 79 #[.val (.int p0), .val (.int p1), .val (.int p2), .val (.int p0), .val (.int p1), .val (.ref b3), .val (.int (0 : Int32))] [(.int (1 : Int32))])) (fun t k => XS.iconst X7.here hx rfl (hb hby at_78) k) ?_
        refine own_step (T' := T7) (g' := (mkF m 83 #[.val (.int p0), .val (.int p1), .val (.int p2), .val (.int p0), .val (.int p1), .val (.ref b3), .val (.int (0 : Int32))] [(.int (1 : Int32))])) (fun t k => XS.goto X7.here hx rfl (pc0 := 79) (pc' := 83) rfl (hb hby at_79) (by decide) (by decide) k) ?_
        refine own_retN X7 hx hlk (t := .boolean) (w := (1 : Int32)) Bd.returns (by simp) (hb hby at_83) rfl (by decide) (by decide) ?_
        exact ⟨rfl, N7⟩
      · refine own_step (T' := T5) (g' := (mkF m 52 #[.val (.int p0), .val (.int p1), .val (.int p2), .val (.int p0), .val (.int p1), .val (.ref b3), .unset] [])) (fun t k => XS.ifNo X5.here hx rfl (hb hby at_49) rfl ((if0 _ _).trans (feq hc49_6).1) k) ?_
        refine own_step (T' := T5) (g' := (mkF m 54 #[.val (.int p0), .val (.int p1), .val (.int p2), .val (.int p0), .val (.int p1), .val (.ref b3), .unset] [(.int p1)])) (fun t k => XS.iload X5.here hx rfl (hb hby at_52) rfl k) ?_
        refine own_step (T' := T5) (g' := (mkF m 55 #[.val (.int p0), .val (.int p1), .val (.int p2), .val (.int p0), .val (.int p1), .val (.ref b3), .unset] [(.int (3 : Int32)), (.int p1)])) (fun t k => XS.iconst X5.here hx rfl (hb hby at_54) k) ?_
        obtain ⟨_, _, ⟨T9, L9, kk9, nn9⟩, -, X9, ⟨Lc9, hQ9, l9, y9, z9⟩, st9⟩ := Jvm.LawKit.callS X5 hx (y := (⟨"com/example/tilescript/tilescript/PoolCellIsOnBoardPinLaw", "clampsToItself", "(II)Z"⟩ : MethodName)) hown (mvT hZ (hw _ (List.mem_of_getElem? (i := 18) rfl))) (mvT hZ (hw _ (List.mem_of_getElem? (i := 19) rfl))) (mvT hZ (hw _ (List.mem_of_getElem? (i := 20) rfl))) (mvT hZ (hw _ (List.mem_of_getElem? (i := 21) rfl))) (by decide) (backOf (W := 0) (rm4 l Z a0 hw [] p1 (3 : Int32) T4.heap n0 (Nat.le_trans Z0 K_4.1) ) hZ (hw _ (List.mem_of_getElem? (i := 21) rfl)) (hw _ (List.mem_of_getElem? (i := 20) rfl)) (by decide) (by decide)) (g := (mkF m 55 #[.val (.int p0), .val (.int p1), .val (.int p2), .val (.int p0), .val (.int p1), .val (.ref b3), .unset] [(.int (3 : Int32)), (.int p1)])) rfl (by rw [hml]; rfl) (argsL := [(.int p1), (.int (3 : Int32))]) (rest := []) (lenOf pd_2 rfl) rfl (by show 2 * 0 + _ ≤ _; exact Nat.le_of_eq rfl) (hb hby at_55) (fun _ _ => ⟨rfl, eq5, (by decide : 1 + 0 ≤ _), (by decide : 2 + 0 ≤ _)⟩)
        dsimp only [Pt.U, Pt.locs, Pt.cells, Pt.slots] at X9 l9 y9 z9 st9 hQ9
        subst l9 y9 z9
        obtain ⟨rfl, N9q, eq9⟩ := hQ9
        have N9 := Fr.app N5 N9q
        refine own_step (T' := T9) (g' := (mkF m 58 #[.val (.int p0), .val (.int p1), .val (.int p2), .val (.int p0), .val (.int p1), .val (.ref b3), .unset] [(.int (fn4 p1 (3 : Int32)))])) st9 ?_
        by_cases hc58_10 : (fn4 p1 (3 : Int32)) = (0 : Int32)
        · refine own_step (T' := T9) (g' := (mkF m 65 #[.val (.int p0), .val (.int p1), .val (.int p2), .val (.int p0), .val (.int p1), .val (.ref b3), .unset] [])) (fun t k => XS.ifYes X9.here hx rfl (pc0 := 58) (pc' := 65) rfl (hb hby at_58) rfl ((if0 _ _).trans (teq hc58_10).1) (by decide) (by decide) k) ?_
          refine own_step (T' := T9) (g' := (mkF m 66 #[.val (.int p0), .val (.int p1), .val (.int p2), .val (.int p0), .val (.int p1), .val (.ref b3), .unset] [(.int (0 : Int32))])) (fun t k => XS.iconst X9.here hx rfl (hb hby at_65) k) ?_
          refine own_step (T' := T9) (g' := (mkF m 68 #[.val (.int p0), .val (.int p1), .val (.int p2), .val (.int p0), .val (.int p1), .val (.ref b3), .val (.int (0 : Int32))] [])) (fun t k => XS.istore X9.here hx rfl (hb hby at_66) rfl (l' := #[.val (.int p0), .val (.int p1), .val (.int p2), .val (.int p0), .val (.int p1), .val (.ref b3), .val (.int (0 : Int32))]) rfl k) ?_
          refine own_step (T' := T9) (g' := (mkF m 70 #[.val (.int p0), .val (.int p1), .val (.int p2), .val (.int p0), .val (.int p1), .val (.ref b3), .val (.int (0 : Int32))] [(.ref b3)])) (fun t k => XS.aload X9.here hx rfl (hb hby at_68) rfl rfl k) ?_
          obtain ⟨cq11, kq11, qq11a, qq11b, qq11c⟩ := isOf hZ eq9 E_b3_4
          obtain ⟨_, _, ⟨T11, L11, kk11, nn11⟩, -, X11, ⟨Lc11, hQ11, l11, y11, z11⟩, st11⟩ := X9.virtualBack hx (y := (⟨"com/example/tilescript/tilescript/PoolCell", "isOnBoard", "()Z"⟩ : MethodName)) (z := (⟨"com/example/tilescript/tilescript/PoolCell", "isOnBoard", "()Z"⟩ : MethodName)) hown (mvT hZ (hw _ (List.mem_of_getElem? (i := 29) rfl))) (mvT hZ (hw _ (List.mem_of_getElem? (i := 30) rfl))) (notFace_of_selects (args := #[]) (mvT hZ (hw _ (List.mem_of_getElem? (i := 32) rfl)))) (mvT hZ (hw _ (List.mem_of_getElem? (i := 32) rfl))) (mvT hZ (hw _ (List.mem_of_getElem? (i := 31) rfl))) (by decide) (backOf (W := 0) (rm7 l Z a0 hw [] b3 p0 p1 T4.heap n0 (Nat.le_trans Z0 K_4.1) pq4_0 pq4_1) hZ (hw _ (List.mem_of_getElem? (i := 33) rfl)) (hw _ (List.mem_of_getElem? (i := 2) rfl)) (by decide) (by decide)) qq11a qq11c (g := (mkF m 70 #[.val (.int p0), .val (.int p1), .val (.int p2), .val (.int p0), .val (.int p1), .val (.ref b3), .val (.int (0 : Int32))] [(.ref b3)])) rfl (by rw [hml]; rfl) (Steps.refl _) (argsL := []) (rest := []) (lenOf pd_4 rfl) rfl (by show 2 * 0 + _ ≤ _; exact Nat.le_of_eq rfl) (hb hby at_70) (fun _ _ => ⟨rfl, eq9, (by decide : 1 + 0 ≤ _), (by decide : 2 + 0 ≤ _)⟩)
          dsimp only [Pt.U, Pt.locs, Pt.cells, Pt.slots] at X11 l11 y11 z11 st11 hQ11
          subst l11 y11 z11
          obtain ⟨rfl, N11q, eq11⟩ := hQ11
          have N11 := Fr.app N9 N11q
          refine own_step (T' := T11) (g' := (mkF m 73 #[.val (.int p0), .val (.int p1), .val (.int p2), .val (.int p0), .val (.int p1), .val (.ref b3), .val (.int (0 : Int32))] [(.int (fn7 p0 p1))])) (fun t k => st11.trans k) ?_
          refine own_step (T' := T11) (g' := (mkF m 75 #[.val (.int p0), .val (.int p1), .val (.int p2), .val (.int p0), .val (.int p1), .val (.ref b3), .val (.int (0 : Int32))] [(.int (0 : Int32)), (.int (fn7 p0 p1))])) (fun t k => XS.iload X11.here hx rfl (hb hby at_73) rfl k) ?_
          refine own_step (T' := T11) (g' := (mkF m 78 #[.val (.int p0), .val (.int p1), .val (.int p2), .val (.int p0), .val (.int p1), .val (.ref b3), .val (.int (0 : Int32))] [])) (fun t k => XS.icmpNo X11.here hx rfl (hb hby at_75) rfl (teq (own_C hc58_10)).2 k) ?_
          refine own_step (T' := T11) (g' := (mkF m 79 #[.val (.int p0), .val (.int p1), .val (.int p2), .val (.int p0), .val (.int p1), .val (.ref b3), .val (.int (0 : Int32))] [(.int (1 : Int32))])) (fun t k => XS.iconst X11.here hx rfl (hb hby at_78) k) ?_
          refine own_step (T' := T11) (g' := (mkF m 83 #[.val (.int p0), .val (.int p1), .val (.int p2), .val (.int p0), .val (.int p1), .val (.ref b3), .val (.int (0 : Int32))] [(.int (1 : Int32))])) (fun t k => XS.goto X11.here hx rfl (pc0 := 79) (pc' := 83) rfl (hb hby at_79) (by decide) (by decide) k) ?_
          refine own_retN X11 hx hlk (t := .boolean) (w := (1 : Int32)) Bd.returns (by simp) (hb hby at_83) rfl (by decide) (by decide) ?_
          exact ⟨rfl, N11⟩
        · refine own_step (T' := T9) (g' := (mkF m 61 #[.val (.int p0), .val (.int p1), .val (.int p2), .val (.int p0), .val (.int p1), .val (.ref b3), .unset] [])) (fun t k => XS.ifNo X9.here hx rfl (hb hby at_58) rfl ((if0 _ _).trans (feq hc58_10).1) k) ?_
          refine own_step (T' := T9) (g' := (mkF m 62 #[.val (.int p0), .val (.int p1), .val (.int p2), .val (.int p0), .val (.int p1), .val (.ref b3), .unset] [(.int (1 : Int32))])) (fun t k => XS.iconst X9.here hx rfl (hb hby at_61) k) ?_
          refine own_step (T' := T9) (g' := (mkF m 66 #[.val (.int p0), .val (.int p1), .val (.int p2), .val (.int p0), .val (.int p1), .val (.ref b3), .unset] [(.int (1 : Int32))])) (fun t k => XS.goto X9.here hx rfl (pc0 := 62) (pc' := 66) rfl (hb hby at_62) (by decide) (by decide) k) ?_
          refine own_step (T' := T9) (g' := (mkF m 68 #[.val (.int p0), .val (.int p1), .val (.int p2), .val (.int p0), .val (.int p1), .val (.ref b3), .val (.int (1 : Int32))] [])) (fun t k => XS.istore X9.here hx rfl (hb hby at_66) rfl (l' := #[.val (.int p0), .val (.int p1), .val (.int p2), .val (.int p0), .val (.int p1), .val (.ref b3), .val (.int (1 : Int32))]) rfl k) ?_
          refine own_step (T' := T9) (g' := (mkF m 70 #[.val (.int p0), .val (.int p1), .val (.int p2), .val (.int p0), .val (.int p1), .val (.ref b3), .val (.int (1 : Int32))] [(.ref b3)])) (fun t k => XS.aload X9.here hx rfl (hb hby at_68) rfl rfl k) ?_
          obtain ⟨cq13, kq13, qq13a, qq13b, qq13c⟩ := isOf hZ eq9 E_b3_4
          obtain ⟨_, _, ⟨T13, L13, kk13, nn13⟩, -, X13, ⟨Lc13, hQ13, l13, y13, z13⟩, st13⟩ := X9.virtualBack hx (y := (⟨"com/example/tilescript/tilescript/PoolCell", "isOnBoard", "()Z"⟩ : MethodName)) (z := (⟨"com/example/tilescript/tilescript/PoolCell", "isOnBoard", "()Z"⟩ : MethodName)) hown (mvT hZ (hw _ (List.mem_of_getElem? (i := 29) rfl))) (mvT hZ (hw _ (List.mem_of_getElem? (i := 30) rfl))) (notFace_of_selects (args := #[]) (mvT hZ (hw _ (List.mem_of_getElem? (i := 32) rfl)))) (mvT hZ (hw _ (List.mem_of_getElem? (i := 32) rfl))) (mvT hZ (hw _ (List.mem_of_getElem? (i := 31) rfl))) (by decide) (backOf (W := 0) (rm7 l Z a0 hw [] b3 p0 p1 T4.heap n0 (Nat.le_trans Z0 K_4.1) pq4_0 pq4_1) hZ (hw _ (List.mem_of_getElem? (i := 33) rfl)) (hw _ (List.mem_of_getElem? (i := 2) rfl)) (by decide) (by decide)) qq13a qq13c (g := (mkF m 70 #[.val (.int p0), .val (.int p1), .val (.int p2), .val (.int p0), .val (.int p1), .val (.ref b3), .val (.int (1 : Int32))] [(.ref b3)])) rfl (by rw [hml]; rfl) (Steps.refl _) (argsL := []) (rest := []) (lenOf pd_4 rfl) rfl (by show 2 * 0 + _ ≤ _; exact Nat.le_of_eq rfl) (hb hby at_70) (fun _ _ => ⟨rfl, eq9, (by decide : 1 + 0 ≤ _), (by decide : 2 + 0 ≤ _)⟩)
          dsimp only [Pt.U, Pt.locs, Pt.cells, Pt.slots] at X13 l13 y13 z13 st13 hQ13
          subst l13 y13 z13
          obtain ⟨rfl, N13q, eq13⟩ := hQ13
          have N13 := Fr.app N9 N13q
          refine own_step (T' := T13) (g' := (mkF m 73 #[.val (.int p0), .val (.int p1), .val (.int p2), .val (.int p0), .val (.int p1), .val (.ref b3), .val (.int (1 : Int32))] [(.int (fn7 p0 p1))])) (fun t k => st13.trans k) ?_
          refine own_step (T' := T13) (g' := (mkF m 75 #[.val (.int p0), .val (.int p1), .val (.int p2), .val (.int p0), .val (.int p1), .val (.ref b3), .val (.int (1 : Int32))] [(.int (1 : Int32)), (.int (fn7 p0 p1))])) (fun t k => XS.iload X13.here hx rfl (hb hby at_73) rfl k) ?_
          refine own_step (T' := T13) (g' := (mkF m 78 #[.val (.int p0), .val (.int p1), .val (.int p2), .val (.int p0), .val (.int p1), .val (.ref b3), .val (.int (1 : Int32))] [])) (fun t k => XS.icmpNo X13.here hx rfl (hb hby at_75) rfl (teq (own_A hc49_6 hc58_10)).2 k) ?_
          refine own_step (T' := T13) (g' := (mkF m 79 #[.val (.int p0), .val (.int p1), .val (.int p2), .val (.int p0), .val (.int p1), .val (.ref b3), .val (.int (1 : Int32))] [(.int (1 : Int32))])) (fun t k => XS.iconst X13.here hx rfl (hb hby at_78) k) ?_
          refine own_step (T' := T13) (g' := (mkF m 83 #[.val (.int p0), .val (.int p1), .val (.int p2), .val (.int p0), .val (.int p1), .val (.ref b3), .val (.int (1 : Int32))] [(.int (1 : Int32))])) (fun t k => XS.goto X13.here hx rfl (pc0 := 79) (pc' := 83) rfl (hb hby at_79) (by decide) (by decide) k) ?_
          refine own_retN X13 hx hlk (t := .boolean) (w := (1 : Int32)) Bd.returns (by simp) (hb hby at_83) rfl (by decide) (by decide) ?_
          exact ⟨rfl, N13⟩
    · refine own_step (T' := s₁) (g' := (mkF m 24 #[.val (.int p0), .val (.int p1), .val (.int p2), .val (.int p0), .val (.int p1), .unset, .unset] [])) (fun t k => XS.ifNo X0.here hx rfl (hb hby at_21) rfl ((if0 _ _).trans (feq hc21_2).1) k) ?_
      refine own_step (T' := s₁) (g' := (mkF m 25 #[.val (.int p0), .val (.int p1), .val (.int p2), .val (.int p0), .val (.int p1), .unset, .unset] [(.int p1)])) (fun t k => XS.iloadN X0.here hx rfl (hb hby at_24) rfl k) ?_
      refine own_step (T' := s₁) (g' := (mkF m 27 #[.val (.int p0), .val (.int p1), .val (.int p2), .val (.int p0), .val (.int p1), .unset, .unset] [(.int (7 : Int32)), (.int p1)])) (fun t k => XS.bipush X0.here hx rfl (hb hby at_25) k) ?_
      refine own_step (T' := s₁) (g' := (mkF m 28 #[.val (.int p0), .val (.int p1), .val (.int p2), .val (.int p0), .val (.int p1), .unset, .unset] [(.int (p1 &&& (7 : Int32)))])) (fun t k => XS.iand X0.here hx rfl (hb hby at_27) rfl k) ?_
      refine own_step (T' := s₁) (g' := (mkF m 29 #[.val (.int p0), .val (.int p1), .val (.int p2), .val (.int p0), .val (.int p1), .unset, .unset] [(.int (1 : Int32)), (.int (p1 &&& (7 : Int32)))])) (fun t k => XS.iconst X0.here hx rfl (hb hby at_28) k) ?_
      refine own_step (T' := s₁) (g' := (mkF m 30 #[.val (.int p0), .val (.int p1), .val (.int p2), .val (.int p0), .val (.int p1), .unset, .unset] [(.int ((p1 &&& (7 : Int32)) - (1 : Int32)))])) (fun t k => XS.isub X0.here hx rfl (hb hby at_29) rfl k) ?_
      generalize hv15 : ((p1 &&& (7 : Int32)) - (1 : Int32)) = v15
      refine own_step (T' := s₁) (g' := (mkF m 32 #[.val (.int p0), .val (.int p1), .val (.int p2), .val (.int p0), .val (.int v15), .unset, .unset] [])) (fun t k => XS.istore X0.here hx rfl (hb hby at_30) rfl (l' := #[.val (.int p0), .val (.int p1), .val (.int p2), .val (.int p0), .val (.int v15), .unset, .unset]) rfl k) ?_
      obtain ⟨T16, h16, X16, e16, E16, A16, D16, -, st16⟩ := newO X0 hx hZ hown (hw _ (List.mem_of_getElem? (i := 0) rfl)) (hw _ (List.mem_of_getElem? (i := 1) rfl)) (hw _ (List.mem_of_getElem? (i := 2) rfl)) e0 (g := (mkF m 32 #[.val (.int p0), .val (.int p1), .val (.int p2), .val (.int p0), .val (.int v15), .unset, .unset] [])) rfl (hb hby at_32) (by decide) (by decide)
      obtain ⟨b16, g16⟩ : ∃ z, z = h0.size := ⟨_, rfl⟩
      rw [← g16] at A16 D16 st16
      have K_16 : Keep h0 h16 [] := K0.ext E16
      have sz_b16 : h0.size ≤ b16 := Nat.le_trans K0.1 (Nat.le_of_eq g16.symm)
      have g_b16 : n0 ≤ b16 := Nat.le_trans Z0 sz_b16
      have E_b16 : Exa Z h16 b16 "com/example/tilescript/tilescript/PoolCell" := A16
      have F_x_b16 : Fld Z h16 b16 "com/example/tilescript/tilescript/PoolCell" "x" "I" (.int (0 : Int32)) := D16 (Or.inr (hw _ (List.mem_of_getElem? (i := 15) rfl))) (ty := .int) (by decide)
      have F_y_b16 : Fld Z h16 b16 "com/example/tilescript/tilescript/PoolCell" "y" "I" (.int (0 : Int32)) := D16 (Or.inr (hw _ (List.mem_of_getElem? (i := 17) rfl))) (ty := .int) (by decide)
      refine own_step (T' := T16) (g' := (mkF m 35 #[.val (.int p0), .val (.int p1), .val (.int p2), .val (.int p0), .val (.int v15), .unset, .unset] [(.ref b16)])) st16 ?_
      refine own_step (T' := T16) (g' := (mkF m 36 #[.val (.int p0), .val (.int p1), .val (.int p2), .val (.int p0), .val (.int v15), .unset, .unset] [(.ref b16), (.ref b16)])) (fun t k => XS.dup X16.here hx rfl (hb hby at_35) rfl rfl k) ?_
      refine own_step (T' := T16) (g' := (mkF m 37 #[.val (.int p0), .val (.int p1), .val (.int p2), .val (.int p0), .val (.int v15), .unset, .unset] [(.int p0), (.ref b16), (.ref b16)])) (fun t k => XS.iloadN X16.here hx rfl (hb hby at_36) rfl k) ?_
      refine own_step (T' := T16) (g' := (mkF m 39 #[.val (.int p0), .val (.int p1), .val (.int p2), .val (.int p0), .val (.int v15), .unset, .unset] [(.int v15), (.int p0), (.ref b16), (.ref b16)])) (fun t k => XS.iload X16.here hx rfl (hb hby at_37) rfl k) ?_
      obtain ⟨_, _, ⟨T17, L17, kk17, nn17⟩, -, X17, ⟨Lc17, hQ17, l17, y17, z17⟩, st17⟩ := X16.specialBack hx (y := (⟨"com/example/tilescript/tilescript/PoolCell", "<init>", "(II)V"⟩ : MethodName)) rfl hown (mvT hZ (hw _ (List.mem_of_getElem? (i := 3) rfl))) (mvT hZ (hw _ (List.mem_of_getElem? (i := 4) rfl))) (mvT hZ (hw _ (List.mem_of_getElem? (i := 5) rfl))) (by decide) (backOf (W := 1) (rm1 l Z a0 hw [] b16 p0 v15 h16 n0 (Nat.le_trans Z0 K_16.1) E_b16 F_x_b16 F_y_b16 g_b16) hZ (hw _ (List.mem_of_getElem? (i := 5) rfl)) (hw _ (List.mem_of_getElem? (i := 2) rfl)) (by decide) (by decide)) (g := (mkF m 39 #[.val (.int p0), .val (.int p1), .val (.int p2), .val (.int p0), .val (.int v15), .unset, .unset] [(.int v15), (.int p0), (.ref b16), (.ref b16)])) rfl (by rw [hml]; rfl) (Steps.refl _) (a := b16) (argsL := [(.int p0), (.int v15)]) (rest := [(.ref b16)]) (lenOf pd_0 rfl) rfl (by show 2 * 0 + _ ≤ _; exact Nat.le_of_eq rfl) (hb hby at_39) (fun _ _ => ⟨rfl, e16, (by decide : 1 + 0 ≤ _), (by decide : 2 + 0 ≤ _)⟩)
      dsimp only [Pt.U, Pt.locs, Pt.cells, Pt.slots] at X17 l17 y17 z17 st17 hQ17
      subst l17 y17 z17
      obtain ⟨rfl, N17q, Kq17, pq17_0, pq17_1⟩ := hQ17
      have N17 := Fr.app N0 N17q
      have E_b16_17 : Exa Z T17.heap b16 "com/example/tilescript/tilescript/PoolCell" := E_b16.keep Kq17
      have K_17 : Keep h0 T17.heap [] := K_16.trans Kq17 (allS (Or.inr sz_b16) all0)
      refine own_step (T' := T17) (g' := (mkF m 42 #[.val (.int p0), .val (.int p1), .val (.int p2), .val (.int p0), .val (.int v15), .unset, .unset] [(.ref b16)])) (fun t k => st17.trans k) ?_
      refine own_step (T' := T17) (g' := (mkF m 44 #[.val (.int p0), .val (.int p1), .val (.int p2), .val (.int p0), .val (.int v15), .val (.ref b16), .unset] [])) (fun t k => XS.astore X17.here hx rfl (hb hby at_42) rfl rfl (l' := #[.val (.int p0), .val (.int p1), .val (.int p2), .val (.int p0), .val (.int v15), .val (.ref b16), .unset]) rfl k) ?_
      refine own_step (T' := T17) (g' := (mkF m 45 #[.val (.int p0), .val (.int p1), .val (.int p2), .val (.int p0), .val (.int v15), .val (.ref b16), .unset] [(.int p0)])) (fun t k => XS.iloadN X17.here hx rfl (hb hby at_44) rfl k) ?_
      refine own_step (T' := T17) (g' := (mkF m 46 #[.val (.int p0), .val (.int p1), .val (.int p2), .val (.int p0), .val (.int v15), .val (.ref b16), .unset] [(.int (4 : Int32)), (.int p0)])) (fun t k => XS.iconst X17.here hx rfl (hb hby at_45) k) ?_
      obtain ⟨_, _, ⟨T18, L18, kk18, nn18⟩, -, X18, ⟨Lc18, hQ18, l18, y18, z18⟩, st18⟩ := Jvm.LawKit.callS X17 hx (y := (⟨"com/example/tilescript/tilescript/PoolCellIsOnBoardPinLaw", "clampsToItself", "(II)Z"⟩ : MethodName)) hown (mvT hZ (hw _ (List.mem_of_getElem? (i := 18) rfl))) (mvT hZ (hw _ (List.mem_of_getElem? (i := 19) rfl))) (mvT hZ (hw _ (List.mem_of_getElem? (i := 20) rfl))) (mvT hZ (hw _ (List.mem_of_getElem? (i := 21) rfl))) (by decide) (backOf (W := 0) (rm4 l Z a0 hw [] p0 (4 : Int32) T17.heap n0 (Nat.le_trans Z0 K_17.1) ) hZ (hw _ (List.mem_of_getElem? (i := 21) rfl)) (hw _ (List.mem_of_getElem? (i := 20) rfl)) (by decide) (by decide)) (g := (mkF m 46 #[.val (.int p0), .val (.int p1), .val (.int p2), .val (.int p0), .val (.int v15), .val (.ref b16), .unset] [(.int (4 : Int32)), (.int p0)])) rfl (by rw [hml]; rfl) (argsL := [(.int p0), (.int (4 : Int32))]) (rest := []) (lenOf pd_2 rfl) rfl (by show 2 * 0 + _ ≤ _; exact Nat.le_of_eq rfl) (hb hby at_46) (fun _ _ => ⟨rfl, rfl, (by decide : 1 + 0 ≤ _), (by decide : 2 + 0 ≤ _)⟩)
      dsimp only [Pt.U, Pt.locs, Pt.cells, Pt.slots] at X18 l18 y18 z18 st18 hQ18
      subst l18 y18 z18
      obtain ⟨rfl, N18q, eq18⟩ := hQ18
      have N18 := Fr.app N17 N18q
      refine own_step (T' := T18) (g' := (mkF m 49 #[.val (.int p0), .val (.int p1), .val (.int p2), .val (.int p0), .val (.int v15), .val (.ref b16), .unset] [(.int (fn4 p0 (4 : Int32)))])) st18 ?_
      by_cases hc49_19 : (fn4 p0 (4 : Int32)) = (0 : Int32)
      · refine own_step (T' := T18) (g' := (mkF m 65 #[.val (.int p0), .val (.int p1), .val (.int p2), .val (.int p0), .val (.int v15), .val (.ref b16), .unset] [])) (fun t k => XS.ifYes X18.here hx rfl (pc0 := 49) (pc' := 65) rfl (hb hby at_49) rfl ((if0 _ _).trans (teq hc49_19).1) (by decide) (by decide) k) ?_
        refine own_step (T' := T18) (g' := (mkF m 66 #[.val (.int p0), .val (.int p1), .val (.int p2), .val (.int p0), .val (.int v15), .val (.ref b16), .unset] [(.int (0 : Int32))])) (fun t k => XS.iconst X18.here hx rfl (hb hby at_65) k) ?_
        refine own_step (T' := T18) (g' := (mkF m 68 #[.val (.int p0), .val (.int p1), .val (.int p2), .val (.int p0), .val (.int v15), .val (.ref b16), .val (.int (0 : Int32))] [])) (fun t k => XS.istore X18.here hx rfl (hb hby at_66) rfl (l' := #[.val (.int p0), .val (.int p1), .val (.int p2), .val (.int p0), .val (.int v15), .val (.ref b16), .val (.int (0 : Int32))]) rfl k) ?_
        refine own_step (T' := T18) (g' := (mkF m 70 #[.val (.int p0), .val (.int p1), .val (.int p2), .val (.int p0), .val (.int v15), .val (.ref b16), .val (.int (0 : Int32))] [(.ref b16)])) (fun t k => XS.aload X18.here hx rfl (hb hby at_68) rfl rfl k) ?_
        obtain ⟨cq20, kq20, qq20a, qq20b, qq20c⟩ := isOf hZ eq18 E_b16_17
        obtain ⟨_, _, ⟨T20, L20, kk20, nn20⟩, -, X20, ⟨Lc20, hQ20, l20, y20, z20⟩, st20⟩ := X18.virtualBack hx (y := (⟨"com/example/tilescript/tilescript/PoolCell", "isOnBoard", "()Z"⟩ : MethodName)) (z := (⟨"com/example/tilescript/tilescript/PoolCell", "isOnBoard", "()Z"⟩ : MethodName)) hown (mvT hZ (hw _ (List.mem_of_getElem? (i := 29) rfl))) (mvT hZ (hw _ (List.mem_of_getElem? (i := 30) rfl))) (notFace_of_selects (args := #[]) (mvT hZ (hw _ (List.mem_of_getElem? (i := 32) rfl)))) (mvT hZ (hw _ (List.mem_of_getElem? (i := 32) rfl))) (mvT hZ (hw _ (List.mem_of_getElem? (i := 31) rfl))) (by decide) (backOf (W := 0) (rm7 l Z a0 hw [] b16 p0 v15 T17.heap n0 (Nat.le_trans Z0 K_17.1) pq17_0 pq17_1) hZ (hw _ (List.mem_of_getElem? (i := 33) rfl)) (hw _ (List.mem_of_getElem? (i := 2) rfl)) (by decide) (by decide)) qq20a qq20c (g := (mkF m 70 #[.val (.int p0), .val (.int p1), .val (.int p2), .val (.int p0), .val (.int v15), .val (.ref b16), .val (.int (0 : Int32))] [(.ref b16)])) rfl (by rw [hml]; rfl) (Steps.refl _) (argsL := []) (rest := []) (lenOf pd_4 rfl) rfl (by show 2 * 0 + _ ≤ _; exact Nat.le_of_eq rfl) (hb hby at_70) (fun _ _ => ⟨rfl, eq18, (by decide : 1 + 0 ≤ _), (by decide : 2 + 0 ≤ _)⟩)
        dsimp only [Pt.U, Pt.locs, Pt.cells, Pt.slots] at X20 l20 y20 z20 st20 hQ20
        subst l20 y20 z20
        obtain ⟨rfl, N20q, eq20⟩ := hQ20
        have N20 := Fr.app N18 N20q
        refine own_step (T' := T20) (g' := (mkF m 73 #[.val (.int p0), .val (.int p1), .val (.int p2), .val (.int p0), .val (.int v15), .val (.ref b16), .val (.int (0 : Int32))] [(.int (fn7 p0 v15))])) (fun t k => st20.trans k) ?_
        refine own_step (T' := T20) (g' := (mkF m 75 #[.val (.int p0), .val (.int p1), .val (.int p2), .val (.int p0), .val (.int v15), .val (.ref b16), .val (.int (0 : Int32))] [(.int (0 : Int32)), (.int (fn7 p0 v15))])) (fun t k => XS.iload X20.here hx rfl (hb hby at_73) rfl k) ?_
        refine own_step (T' := T20) (g' := (mkF m 78 #[.val (.int p0), .val (.int p1), .val (.int p2), .val (.int p0), .val (.int v15), .val (.ref b16), .val (.int (0 : Int32))] [])) (fun t k => XS.icmpNo X20.here hx rfl (hb hby at_75) rfl (teq (own_B hc49_19)).2 k) ?_
        refine own_step (T' := T20) (g' := (mkF m 79 #[.val (.int p0), .val (.int p1), .val (.int p2), .val (.int p0), .val (.int v15), .val (.ref b16), .val (.int (0 : Int32))] [(.int (1 : Int32))])) (fun t k => XS.iconst X20.here hx rfl (hb hby at_78) k) ?_
        refine own_step (T' := T20) (g' := (mkF m 83 #[.val (.int p0), .val (.int p1), .val (.int p2), .val (.int p0), .val (.int v15), .val (.ref b16), .val (.int (0 : Int32))] [(.int (1 : Int32))])) (fun t k => XS.goto X20.here hx rfl (pc0 := 79) (pc' := 83) rfl (hb hby at_79) (by decide) (by decide) k) ?_
        refine own_retN X20 hx hlk (t := .boolean) (w := (1 : Int32)) Bd.returns (by simp) (hb hby at_83) rfl (by decide) (by decide) ?_
        exact ⟨rfl, N20⟩
      · refine own_step (T' := T18) (g' := (mkF m 52 #[.val (.int p0), .val (.int p1), .val (.int p2), .val (.int p0), .val (.int v15), .val (.ref b16), .unset] [])) (fun t k => XS.ifNo X18.here hx rfl (hb hby at_49) rfl ((if0 _ _).trans (feq hc49_19).1) k) ?_
        refine own_step (T' := T18) (g' := (mkF m 54 #[.val (.int p0), .val (.int p1), .val (.int p2), .val (.int p0), .val (.int v15), .val (.ref b16), .unset] [(.int v15)])) (fun t k => XS.iload X18.here hx rfl (hb hby at_52) rfl k) ?_
        refine own_step (T' := T18) (g' := (mkF m 55 #[.val (.int p0), .val (.int p1), .val (.int p2), .val (.int p0), .val (.int v15), .val (.ref b16), .unset] [(.int (3 : Int32)), (.int v15)])) (fun t k => XS.iconst X18.here hx rfl (hb hby at_54) k) ?_
        obtain ⟨_, _, ⟨T22, L22, kk22, nn22⟩, -, X22, ⟨Lc22, hQ22, l22, y22, z22⟩, st22⟩ := Jvm.LawKit.callS X18 hx (y := (⟨"com/example/tilescript/tilescript/PoolCellIsOnBoardPinLaw", "clampsToItself", "(II)Z"⟩ : MethodName)) hown (mvT hZ (hw _ (List.mem_of_getElem? (i := 18) rfl))) (mvT hZ (hw _ (List.mem_of_getElem? (i := 19) rfl))) (mvT hZ (hw _ (List.mem_of_getElem? (i := 20) rfl))) (mvT hZ (hw _ (List.mem_of_getElem? (i := 21) rfl))) (by decide) (backOf (W := 0) (rm4 l Z a0 hw [] v15 (3 : Int32) T17.heap n0 (Nat.le_trans Z0 K_17.1) ) hZ (hw _ (List.mem_of_getElem? (i := 21) rfl)) (hw _ (List.mem_of_getElem? (i := 20) rfl)) (by decide) (by decide)) (g := (mkF m 55 #[.val (.int p0), .val (.int p1), .val (.int p2), .val (.int p0), .val (.int v15), .val (.ref b16), .unset] [(.int (3 : Int32)), (.int v15)])) rfl (by rw [hml]; rfl) (argsL := [(.int v15), (.int (3 : Int32))]) (rest := []) (lenOf pd_2 rfl) rfl (by show 2 * 0 + _ ≤ _; exact Nat.le_of_eq rfl) (hb hby at_55) (fun _ _ => ⟨rfl, eq18, (by decide : 1 + 0 ≤ _), (by decide : 2 + 0 ≤ _)⟩)
        dsimp only [Pt.U, Pt.locs, Pt.cells, Pt.slots] at X22 l22 y22 z22 st22 hQ22
        subst l22 y22 z22
        obtain ⟨rfl, N22q, eq22⟩ := hQ22
        have N22 := Fr.app N18 N22q
        refine own_step (T' := T22) (g' := (mkF m 58 #[.val (.int p0), .val (.int p1), .val (.int p2), .val (.int p0), .val (.int v15), .val (.ref b16), .unset] [(.int (fn4 v15 (3 : Int32)))])) st22 ?_
        by_cases hc58_23 : (fn4 v15 (3 : Int32)) = (0 : Int32)
        · refine own_step (T' := T22) (g' := (mkF m 65 #[.val (.int p0), .val (.int p1), .val (.int p2), .val (.int p0), .val (.int v15), .val (.ref b16), .unset] [])) (fun t k => XS.ifYes X22.here hx rfl (pc0 := 58) (pc' := 65) rfl (hb hby at_58) rfl ((if0 _ _).trans (teq hc58_23).1) (by decide) (by decide) k) ?_
          refine own_step (T' := T22) (g' := (mkF m 66 #[.val (.int p0), .val (.int p1), .val (.int p2), .val (.int p0), .val (.int v15), .val (.ref b16), .unset] [(.int (0 : Int32))])) (fun t k => XS.iconst X22.here hx rfl (hb hby at_65) k) ?_
          refine own_step (T' := T22) (g' := (mkF m 68 #[.val (.int p0), .val (.int p1), .val (.int p2), .val (.int p0), .val (.int v15), .val (.ref b16), .val (.int (0 : Int32))] [])) (fun t k => XS.istore X22.here hx rfl (hb hby at_66) rfl (l' := #[.val (.int p0), .val (.int p1), .val (.int p2), .val (.int p0), .val (.int v15), .val (.ref b16), .val (.int (0 : Int32))]) rfl k) ?_
          refine own_step (T' := T22) (g' := (mkF m 70 #[.val (.int p0), .val (.int p1), .val (.int p2), .val (.int p0), .val (.int v15), .val (.ref b16), .val (.int (0 : Int32))] [(.ref b16)])) (fun t k => XS.aload X22.here hx rfl (hb hby at_68) rfl rfl k) ?_
          obtain ⟨cq24, kq24, qq24a, qq24b, qq24c⟩ := isOf hZ eq22 E_b16_17
          obtain ⟨_, _, ⟨T24, L24, kk24, nn24⟩, -, X24, ⟨Lc24, hQ24, l24, y24, z24⟩, st24⟩ := X22.virtualBack hx (y := (⟨"com/example/tilescript/tilescript/PoolCell", "isOnBoard", "()Z"⟩ : MethodName)) (z := (⟨"com/example/tilescript/tilescript/PoolCell", "isOnBoard", "()Z"⟩ : MethodName)) hown (mvT hZ (hw _ (List.mem_of_getElem? (i := 29) rfl))) (mvT hZ (hw _ (List.mem_of_getElem? (i := 30) rfl))) (notFace_of_selects (args := #[]) (mvT hZ (hw _ (List.mem_of_getElem? (i := 32) rfl)))) (mvT hZ (hw _ (List.mem_of_getElem? (i := 32) rfl))) (mvT hZ (hw _ (List.mem_of_getElem? (i := 31) rfl))) (by decide) (backOf (W := 0) (rm7 l Z a0 hw [] b16 p0 v15 T17.heap n0 (Nat.le_trans Z0 K_17.1) pq17_0 pq17_1) hZ (hw _ (List.mem_of_getElem? (i := 33) rfl)) (hw _ (List.mem_of_getElem? (i := 2) rfl)) (by decide) (by decide)) qq24a qq24c (g := (mkF m 70 #[.val (.int p0), .val (.int p1), .val (.int p2), .val (.int p0), .val (.int v15), .val (.ref b16), .val (.int (0 : Int32))] [(.ref b16)])) rfl (by rw [hml]; rfl) (Steps.refl _) (argsL := []) (rest := []) (lenOf pd_4 rfl) rfl (by show 2 * 0 + _ ≤ _; exact Nat.le_of_eq rfl) (hb hby at_70) (fun _ _ => ⟨rfl, eq22, (by decide : 1 + 0 ≤ _), (by decide : 2 + 0 ≤ _)⟩)
          dsimp only [Pt.U, Pt.locs, Pt.cells, Pt.slots] at X24 l24 y24 z24 st24 hQ24
          subst l24 y24 z24
          obtain ⟨rfl, N24q, eq24⟩ := hQ24
          have N24 := Fr.app N22 N24q
          refine own_step (T' := T24) (g' := (mkF m 73 #[.val (.int p0), .val (.int p1), .val (.int p2), .val (.int p0), .val (.int v15), .val (.ref b16), .val (.int (0 : Int32))] [(.int (fn7 p0 v15))])) (fun t k => st24.trans k) ?_
          refine own_step (T' := T24) (g' := (mkF m 75 #[.val (.int p0), .val (.int p1), .val (.int p2), .val (.int p0), .val (.int v15), .val (.ref b16), .val (.int (0 : Int32))] [(.int (0 : Int32)), (.int (fn7 p0 v15))])) (fun t k => XS.iload X24.here hx rfl (hb hby at_73) rfl k) ?_
          refine own_step (T' := T24) (g' := (mkF m 78 #[.val (.int p0), .val (.int p1), .val (.int p2), .val (.int p0), .val (.int v15), .val (.ref b16), .val (.int (0 : Int32))] [])) (fun t k => XS.icmpNo X24.here hx rfl (hb hby at_75) rfl (teq (own_C hc58_23)).2 k) ?_
          refine own_step (T' := T24) (g' := (mkF m 79 #[.val (.int p0), .val (.int p1), .val (.int p2), .val (.int p0), .val (.int v15), .val (.ref b16), .val (.int (0 : Int32))] [(.int (1 : Int32))])) (fun t k => XS.iconst X24.here hx rfl (hb hby at_78) k) ?_
          refine own_step (T' := T24) (g' := (mkF m 83 #[.val (.int p0), .val (.int p1), .val (.int p2), .val (.int p0), .val (.int v15), .val (.ref b16), .val (.int (0 : Int32))] [(.int (1 : Int32))])) (fun t k => XS.goto X24.here hx rfl (pc0 := 79) (pc' := 83) rfl (hb hby at_79) (by decide) (by decide) k) ?_
          refine own_retN X24 hx hlk (t := .boolean) (w := (1 : Int32)) Bd.returns (by simp) (hb hby at_83) rfl (by decide) (by decide) ?_
          exact ⟨rfl, N24⟩
        · refine own_step (T' := T22) (g' := (mkF m 61 #[.val (.int p0), .val (.int p1), .val (.int p2), .val (.int p0), .val (.int v15), .val (.ref b16), .unset] [])) (fun t k => XS.ifNo X22.here hx rfl (hb hby at_58) rfl ((if0 _ _).trans (feq hc58_23).1) k) ?_
          refine own_step (T' := T22) (g' := (mkF m 62 #[.val (.int p0), .val (.int p1), .val (.int p2), .val (.int p0), .val (.int v15), .val (.ref b16), .unset] [(.int (1 : Int32))])) (fun t k => XS.iconst X22.here hx rfl (hb hby at_61) k) ?_
          refine own_step (T' := T22) (g' := (mkF m 66 #[.val (.int p0), .val (.int p1), .val (.int p2), .val (.int p0), .val (.int v15), .val (.ref b16), .unset] [(.int (1 : Int32))])) (fun t k => XS.goto X22.here hx rfl (pc0 := 62) (pc' := 66) rfl (hb hby at_62) (by decide) (by decide) k) ?_
          refine own_step (T' := T22) (g' := (mkF m 68 #[.val (.int p0), .val (.int p1), .val (.int p2), .val (.int p0), .val (.int v15), .val (.ref b16), .val (.int (1 : Int32))] [])) (fun t k => XS.istore X22.here hx rfl (hb hby at_66) rfl (l' := #[.val (.int p0), .val (.int p1), .val (.int p2), .val (.int p0), .val (.int v15), .val (.ref b16), .val (.int (1 : Int32))]) rfl k) ?_
          refine own_step (T' := T22) (g' := (mkF m 70 #[.val (.int p0), .val (.int p1), .val (.int p2), .val (.int p0), .val (.int v15), .val (.ref b16), .val (.int (1 : Int32))] [(.ref b16)])) (fun t k => XS.aload X22.here hx rfl (hb hby at_68) rfl rfl k) ?_
          obtain ⟨cq26, kq26, qq26a, qq26b, qq26c⟩ := isOf hZ eq22 E_b16_17
          obtain ⟨_, _, ⟨T26, L26, kk26, nn26⟩, -, X26, ⟨Lc26, hQ26, l26, y26, z26⟩, st26⟩ := X22.virtualBack hx (y := (⟨"com/example/tilescript/tilescript/PoolCell", "isOnBoard", "()Z"⟩ : MethodName)) (z := (⟨"com/example/tilescript/tilescript/PoolCell", "isOnBoard", "()Z"⟩ : MethodName)) hown (mvT hZ (hw _ (List.mem_of_getElem? (i := 29) rfl))) (mvT hZ (hw _ (List.mem_of_getElem? (i := 30) rfl))) (notFace_of_selects (args := #[]) (mvT hZ (hw _ (List.mem_of_getElem? (i := 32) rfl)))) (mvT hZ (hw _ (List.mem_of_getElem? (i := 32) rfl))) (mvT hZ (hw _ (List.mem_of_getElem? (i := 31) rfl))) (by decide) (backOf (W := 0) (rm7 l Z a0 hw [] b16 p0 v15 T17.heap n0 (Nat.le_trans Z0 K_17.1) pq17_0 pq17_1) hZ (hw _ (List.mem_of_getElem? (i := 33) rfl)) (hw _ (List.mem_of_getElem? (i := 2) rfl)) (by decide) (by decide)) qq26a qq26c (g := (mkF m 70 #[.val (.int p0), .val (.int p1), .val (.int p2), .val (.int p0), .val (.int v15), .val (.ref b16), .val (.int (1 : Int32))] [(.ref b16)])) rfl (by rw [hml]; rfl) (Steps.refl _) (argsL := []) (rest := []) (lenOf pd_4 rfl) rfl (by show 2 * 0 + _ ≤ _; exact Nat.le_of_eq rfl) (hb hby at_70) (fun _ _ => ⟨rfl, eq22, (by decide : 1 + 0 ≤ _), (by decide : 2 + 0 ≤ _)⟩)
          dsimp only [Pt.U, Pt.locs, Pt.cells, Pt.slots] at X26 l26 y26 z26 st26 hQ26
          subst l26 y26 z26
          obtain ⟨rfl, N26q, eq26⟩ := hQ26
          have N26 := Fr.app N22 N26q
          refine own_step (T' := T26) (g' := (mkF m 73 #[.val (.int p0), .val (.int p1), .val (.int p2), .val (.int p0), .val (.int v15), .val (.ref b16), .val (.int (1 : Int32))] [(.int (fn7 p0 v15))])) (fun t k => st26.trans k) ?_
          refine own_step (T' := T26) (g' := (mkF m 75 #[.val (.int p0), .val (.int p1), .val (.int p2), .val (.int p0), .val (.int v15), .val (.ref b16), .val (.int (1 : Int32))] [(.int (1 : Int32)), (.int (fn7 p0 v15))])) (fun t k => XS.iload X26.here hx rfl (hb hby at_73) rfl k) ?_
          refine own_step (T' := T26) (g' := (mkF m 78 #[.val (.int p0), .val (.int p1), .val (.int p2), .val (.int p0), .val (.int v15), .val (.ref b16), .val (.int (1 : Int32))] [])) (fun t k => XS.icmpNo X26.here hx rfl (hb hby at_75) rfl (teq (own_A hc49_19 hc58_23)).2 k) ?_
          refine own_step (T' := T26) (g' := (mkF m 79 #[.val (.int p0), .val (.int p1), .val (.int p2), .val (.int p0), .val (.int v15), .val (.ref b16), .val (.int (1 : Int32))] [(.int (1 : Int32))])) (fun t k => XS.iconst X26.here hx rfl (hb hby at_78) k) ?_
          refine own_step (T' := T26) (g' := (mkF m 83 #[.val (.int p0), .val (.int p1), .val (.int p2), .val (.int p0), .val (.int v15), .val (.ref b16), .val (.int (1 : Int32))] [(.int (1 : Int32))])) (fun t k => XS.goto X26.here hx rfl (pc0 := 79) (pc' := 83) rfl (hb hby at_79) (by decide) (by decide) k) ?_
          refine own_retN X26 hx hlk (t := .boolean) (w := (1 : Int32)) Bd.returns (by simp) (hb hby at_83) rfl (by decide) (by decide) ?_
          exact ⟨rfl, N26⟩
  · refine own_step (T' := s₁) (g' := (mkF m 11 #[.val (.int p0), .val (.int p1), .val (.int p2), .val (.int p0), .val (.int p1), .unset, .unset] [])) (fun t k => XS.ifNo X0.here hx rfl (hb hby at_8) rfl ((if0 _ _).trans (feq hc8_1).1) k) ?_
    refine own_step (T' := s₁) (g' := (mkF m 12 #[.val (.int p0), .val (.int p1), .val (.int p2), .val (.int p0), .val (.int p1), .unset, .unset] [(.int p0)])) (fun t k => XS.iloadN X0.here hx rfl (hb hby at_11) rfl k) ?_
    refine own_step (T' := s₁) (g' := (mkF m 14 #[.val (.int p0), .val (.int p1), .val (.int p2), .val (.int p0), .val (.int p1), .unset, .unset] [(.int (7 : Int32)), (.int p0)])) (fun t k => XS.bipush X0.here hx rfl (hb hby at_12) k) ?_
    refine own_step (T' := s₁) (g' := (mkF m 15 #[.val (.int p0), .val (.int p1), .val (.int p2), .val (.int p0), .val (.int p1), .unset, .unset] [(.int (p0 &&& (7 : Int32)))])) (fun t k => XS.iand X0.here hx rfl (hb hby at_14) rfl k) ?_
    refine own_step (T' := s₁) (g' := (mkF m 16 #[.val (.int p0), .val (.int p1), .val (.int p2), .val (.int p0), .val (.int p1), .unset, .unset] [(.int (1 : Int32)), (.int (p0 &&& (7 : Int32)))])) (fun t k => XS.iconst X0.here hx rfl (hb hby at_15) k) ?_
    refine own_step (T' := s₁) (g' := (mkF m 17 #[.val (.int p0), .val (.int p1), .val (.int p2), .val (.int p0), .val (.int p1), .unset, .unset] [(.int ((p0 &&& (7 : Int32)) - (1 : Int32)))])) (fun t k => XS.isub X0.here hx rfl (hb hby at_16) rfl k) ?_
    generalize hv28 : ((p0 &&& (7 : Int32)) - (1 : Int32)) = v28
    refine own_step (T' := s₁) (g' := (mkF m 18 #[.val (.int p0), .val (.int p1), .val (.int p2), .val (.int v28), .val (.int p1), .unset, .unset] [])) (fun t k => XS.istoreN X0.here hx rfl (hb hby at_17) rfl (l' := #[.val (.int p0), .val (.int p1), .val (.int p2), .val (.int v28), .val (.int p1), .unset, .unset]) rfl k) ?_
    refine own_step (T' := s₁) (g' := (mkF m 19 #[.val (.int p0), .val (.int p1), .val (.int p2), .val (.int v28), .val (.int p1), .unset, .unset] [(.int p2)])) (fun t k => XS.iloadN X0.here hx rfl (hb hby at_18) rfl k) ?_
    refine own_step (T' := s₁) (g' := (mkF m 20 #[.val (.int p0), .val (.int p1), .val (.int p2), .val (.int v28), .val (.int p1), .unset, .unset] [(.int (2 : Int32)), (.int p2)])) (fun t k => XS.iconst X0.here hx rfl (hb hby at_19) k) ?_
    refine own_step (T' := s₁) (g' := (mkF m 21 #[.val (.int p0), .val (.int p1), .val (.int p2), .val (.int v28), .val (.int p1), .unset, .unset] [(.int (p2 &&& (2 : Int32)))])) (fun t k => XS.iand X0.here hx rfl (hb hby at_20) rfl k) ?_
    by_cases hc21_29 : (p2 &&& (2 : Int32)) = (0 : Int32)
    · refine own_step (T' := s₁) (g' := (mkF m 32 #[.val (.int p0), .val (.int p1), .val (.int p2), .val (.int v28), .val (.int p1), .unset, .unset] [])) (fun t k => XS.ifYes X0.here hx rfl (pc0 := 21) (pc' := 32) rfl (hb hby at_21) rfl ((if0 _ _).trans (teq hc21_29).1) (by decide) (by decide) k) ?_
      obtain ⟨T30, h30, X30, e30, E30, A30, D30, -, st30⟩ := newO X0 hx hZ hown (hw _ (List.mem_of_getElem? (i := 0) rfl)) (hw _ (List.mem_of_getElem? (i := 1) rfl)) (hw _ (List.mem_of_getElem? (i := 2) rfl)) e0 (g := (mkF m 32 #[.val (.int p0), .val (.int p1), .val (.int p2), .val (.int v28), .val (.int p1), .unset, .unset] [])) rfl (hb hby at_32) (by decide) (by decide)
      obtain ⟨b30, g30⟩ : ∃ z, z = h0.size := ⟨_, rfl⟩
      rw [← g30] at A30 D30 st30
      have K_30 : Keep h0 h30 [] := K0.ext E30
      have sz_b30 : h0.size ≤ b30 := Nat.le_trans K0.1 (Nat.le_of_eq g30.symm)
      have g_b30 : n0 ≤ b30 := Nat.le_trans Z0 sz_b30
      have E_b30 : Exa Z h30 b30 "com/example/tilescript/tilescript/PoolCell" := A30
      have F_x_b30 : Fld Z h30 b30 "com/example/tilescript/tilescript/PoolCell" "x" "I" (.int (0 : Int32)) := D30 (Or.inr (hw _ (List.mem_of_getElem? (i := 15) rfl))) (ty := .int) (by decide)
      have F_y_b30 : Fld Z h30 b30 "com/example/tilescript/tilescript/PoolCell" "y" "I" (.int (0 : Int32)) := D30 (Or.inr (hw _ (List.mem_of_getElem? (i := 17) rfl))) (ty := .int) (by decide)
      refine own_step (T' := T30) (g' := (mkF m 35 #[.val (.int p0), .val (.int p1), .val (.int p2), .val (.int v28), .val (.int p1), .unset, .unset] [(.ref b30)])) st30 ?_
      refine own_step (T' := T30) (g' := (mkF m 36 #[.val (.int p0), .val (.int p1), .val (.int p2), .val (.int v28), .val (.int p1), .unset, .unset] [(.ref b30), (.ref b30)])) (fun t k => XS.dup X30.here hx rfl (hb hby at_35) rfl rfl k) ?_
      refine own_step (T' := T30) (g' := (mkF m 37 #[.val (.int p0), .val (.int p1), .val (.int p2), .val (.int v28), .val (.int p1), .unset, .unset] [(.int v28), (.ref b30), (.ref b30)])) (fun t k => XS.iloadN X30.here hx rfl (hb hby at_36) rfl k) ?_
      refine own_step (T' := T30) (g' := (mkF m 39 #[.val (.int p0), .val (.int p1), .val (.int p2), .val (.int v28), .val (.int p1), .unset, .unset] [(.int p1), (.int v28), (.ref b30), (.ref b30)])) (fun t k => XS.iload X30.here hx rfl (hb hby at_37) rfl k) ?_
      obtain ⟨_, _, ⟨T31, L31, kk31, nn31⟩, -, X31, ⟨Lc31, hQ31, l31, y31, z31⟩, st31⟩ := X30.specialBack hx (y := (⟨"com/example/tilescript/tilescript/PoolCell", "<init>", "(II)V"⟩ : MethodName)) rfl hown (mvT hZ (hw _ (List.mem_of_getElem? (i := 3) rfl))) (mvT hZ (hw _ (List.mem_of_getElem? (i := 4) rfl))) (mvT hZ (hw _ (List.mem_of_getElem? (i := 5) rfl))) (by decide) (backOf (W := 1) (rm1 l Z a0 hw [] b30 v28 p1 h30 n0 (Nat.le_trans Z0 K_30.1) E_b30 F_x_b30 F_y_b30 g_b30) hZ (hw _ (List.mem_of_getElem? (i := 5) rfl)) (hw _ (List.mem_of_getElem? (i := 2) rfl)) (by decide) (by decide)) (g := (mkF m 39 #[.val (.int p0), .val (.int p1), .val (.int p2), .val (.int v28), .val (.int p1), .unset, .unset] [(.int p1), (.int v28), (.ref b30), (.ref b30)])) rfl (by rw [hml]; rfl) (Steps.refl _) (a := b30) (argsL := [(.int v28), (.int p1)]) (rest := [(.ref b30)]) (lenOf pd_0 rfl) rfl (by show 2 * 0 + _ ≤ _; exact Nat.le_of_eq rfl) (hb hby at_39) (fun _ _ => ⟨rfl, e30, (by decide : 1 + 0 ≤ _), (by decide : 2 + 0 ≤ _)⟩)
      dsimp only [Pt.U, Pt.locs, Pt.cells, Pt.slots] at X31 l31 y31 z31 st31 hQ31
      subst l31 y31 z31
      obtain ⟨rfl, N31q, Kq31, pq31_0, pq31_1⟩ := hQ31
      have N31 := Fr.app N0 N31q
      have E_b30_31 : Exa Z T31.heap b30 "com/example/tilescript/tilescript/PoolCell" := E_b30.keep Kq31
      have K_31 : Keep h0 T31.heap [] := K_30.trans Kq31 (allS (Or.inr sz_b30) all0)
      refine own_step (T' := T31) (g' := (mkF m 42 #[.val (.int p0), .val (.int p1), .val (.int p2), .val (.int v28), .val (.int p1), .unset, .unset] [(.ref b30)])) (fun t k => st31.trans k) ?_
      refine own_step (T' := T31) (g' := (mkF m 44 #[.val (.int p0), .val (.int p1), .val (.int p2), .val (.int v28), .val (.int p1), .val (.ref b30), .unset] [])) (fun t k => XS.astore X31.here hx rfl (hb hby at_42) rfl rfl (l' := #[.val (.int p0), .val (.int p1), .val (.int p2), .val (.int v28), .val (.int p1), .val (.ref b30), .unset]) rfl k) ?_
      refine own_step (T' := T31) (g' := (mkF m 45 #[.val (.int p0), .val (.int p1), .val (.int p2), .val (.int v28), .val (.int p1), .val (.ref b30), .unset] [(.int v28)])) (fun t k => XS.iloadN X31.here hx rfl (hb hby at_44) rfl k) ?_
      refine own_step (T' := T31) (g' := (mkF m 46 #[.val (.int p0), .val (.int p1), .val (.int p2), .val (.int v28), .val (.int p1), .val (.ref b30), .unset] [(.int (4 : Int32)), (.int v28)])) (fun t k => XS.iconst X31.here hx rfl (hb hby at_45) k) ?_
      obtain ⟨_, _, ⟨T32, L32, kk32, nn32⟩, -, X32, ⟨Lc32, hQ32, l32, y32, z32⟩, st32⟩ := Jvm.LawKit.callS X31 hx (y := (⟨"com/example/tilescript/tilescript/PoolCellIsOnBoardPinLaw", "clampsToItself", "(II)Z"⟩ : MethodName)) hown (mvT hZ (hw _ (List.mem_of_getElem? (i := 18) rfl))) (mvT hZ (hw _ (List.mem_of_getElem? (i := 19) rfl))) (mvT hZ (hw _ (List.mem_of_getElem? (i := 20) rfl))) (mvT hZ (hw _ (List.mem_of_getElem? (i := 21) rfl))) (by decide) (backOf (W := 0) (rm4 l Z a0 hw [] v28 (4 : Int32) T31.heap n0 (Nat.le_trans Z0 K_31.1) ) hZ (hw _ (List.mem_of_getElem? (i := 21) rfl)) (hw _ (List.mem_of_getElem? (i := 20) rfl)) (by decide) (by decide)) (g := (mkF m 46 #[.val (.int p0), .val (.int p1), .val (.int p2), .val (.int v28), .val (.int p1), .val (.ref b30), .unset] [(.int (4 : Int32)), (.int v28)])) rfl (by rw [hml]; rfl) (argsL := [(.int v28), (.int (4 : Int32))]) (rest := []) (lenOf pd_2 rfl) rfl (by show 2 * 0 + _ ≤ _; exact Nat.le_of_eq rfl) (hb hby at_46) (fun _ _ => ⟨rfl, rfl, (by decide : 1 + 0 ≤ _), (by decide : 2 + 0 ≤ _)⟩)
      dsimp only [Pt.U, Pt.locs, Pt.cells, Pt.slots] at X32 l32 y32 z32 st32 hQ32
      subst l32 y32 z32
      obtain ⟨rfl, N32q, eq32⟩ := hQ32
      have N32 := Fr.app N31 N32q
      refine own_step (T' := T32) (g' := (mkF m 49 #[.val (.int p0), .val (.int p1), .val (.int p2), .val (.int v28), .val (.int p1), .val (.ref b30), .unset] [(.int (fn4 v28 (4 : Int32)))])) st32 ?_
      by_cases hc49_33 : (fn4 v28 (4 : Int32)) = (0 : Int32)
      · refine own_step (T' := T32) (g' := (mkF m 65 #[.val (.int p0), .val (.int p1), .val (.int p2), .val (.int v28), .val (.int p1), .val (.ref b30), .unset] [])) (fun t k => XS.ifYes X32.here hx rfl (pc0 := 49) (pc' := 65) rfl (hb hby at_49) rfl ((if0 _ _).trans (teq hc49_33).1) (by decide) (by decide) k) ?_
        refine own_step (T' := T32) (g' := (mkF m 66 #[.val (.int p0), .val (.int p1), .val (.int p2), .val (.int v28), .val (.int p1), .val (.ref b30), .unset] [(.int (0 : Int32))])) (fun t k => XS.iconst X32.here hx rfl (hb hby at_65) k) ?_
        refine own_step (T' := T32) (g' := (mkF m 68 #[.val (.int p0), .val (.int p1), .val (.int p2), .val (.int v28), .val (.int p1), .val (.ref b30), .val (.int (0 : Int32))] [])) (fun t k => XS.istore X32.here hx rfl (hb hby at_66) rfl (l' := #[.val (.int p0), .val (.int p1), .val (.int p2), .val (.int v28), .val (.int p1), .val (.ref b30), .val (.int (0 : Int32))]) rfl k) ?_
        refine own_step (T' := T32) (g' := (mkF m 70 #[.val (.int p0), .val (.int p1), .val (.int p2), .val (.int v28), .val (.int p1), .val (.ref b30), .val (.int (0 : Int32))] [(.ref b30)])) (fun t k => XS.aload X32.here hx rfl (hb hby at_68) rfl rfl k) ?_
        obtain ⟨cq34, kq34, qq34a, qq34b, qq34c⟩ := isOf hZ eq32 E_b30_31
        obtain ⟨_, _, ⟨T34, L34, kk34, nn34⟩, -, X34, ⟨Lc34, hQ34, l34, y34, z34⟩, st34⟩ := X32.virtualBack hx (y := (⟨"com/example/tilescript/tilescript/PoolCell", "isOnBoard", "()Z"⟩ : MethodName)) (z := (⟨"com/example/tilescript/tilescript/PoolCell", "isOnBoard", "()Z"⟩ : MethodName)) hown (mvT hZ (hw _ (List.mem_of_getElem? (i := 29) rfl))) (mvT hZ (hw _ (List.mem_of_getElem? (i := 30) rfl))) (notFace_of_selects (args := #[]) (mvT hZ (hw _ (List.mem_of_getElem? (i := 32) rfl)))) (mvT hZ (hw _ (List.mem_of_getElem? (i := 32) rfl))) (mvT hZ (hw _ (List.mem_of_getElem? (i := 31) rfl))) (by decide) (backOf (W := 0) (rm7 l Z a0 hw [] b30 v28 p1 T31.heap n0 (Nat.le_trans Z0 K_31.1) pq31_0 pq31_1) hZ (hw _ (List.mem_of_getElem? (i := 33) rfl)) (hw _ (List.mem_of_getElem? (i := 2) rfl)) (by decide) (by decide)) qq34a qq34c (g := (mkF m 70 #[.val (.int p0), .val (.int p1), .val (.int p2), .val (.int v28), .val (.int p1), .val (.ref b30), .val (.int (0 : Int32))] [(.ref b30)])) rfl (by rw [hml]; rfl) (Steps.refl _) (argsL := []) (rest := []) (lenOf pd_4 rfl) rfl (by show 2 * 0 + _ ≤ _; exact Nat.le_of_eq rfl) (hb hby at_70) (fun _ _ => ⟨rfl, eq32, (by decide : 1 + 0 ≤ _), (by decide : 2 + 0 ≤ _)⟩)
        dsimp only [Pt.U, Pt.locs, Pt.cells, Pt.slots] at X34 l34 y34 z34 st34 hQ34
        subst l34 y34 z34
        obtain ⟨rfl, N34q, eq34⟩ := hQ34
        have N34 := Fr.app N32 N34q
        refine own_step (T' := T34) (g' := (mkF m 73 #[.val (.int p0), .val (.int p1), .val (.int p2), .val (.int v28), .val (.int p1), .val (.ref b30), .val (.int (0 : Int32))] [(.int (fn7 v28 p1))])) (fun t k => st34.trans k) ?_
        refine own_step (T' := T34) (g' := (mkF m 75 #[.val (.int p0), .val (.int p1), .val (.int p2), .val (.int v28), .val (.int p1), .val (.ref b30), .val (.int (0 : Int32))] [(.int (0 : Int32)), (.int (fn7 v28 p1))])) (fun t k => XS.iload X34.here hx rfl (hb hby at_73) rfl k) ?_
        refine own_step (T' := T34) (g' := (mkF m 78 #[.val (.int p0), .val (.int p1), .val (.int p2), .val (.int v28), .val (.int p1), .val (.ref b30), .val (.int (0 : Int32))] [])) (fun t k => XS.icmpNo X34.here hx rfl (hb hby at_75) rfl (teq (own_B hc49_33)).2 k) ?_
        refine own_step (T' := T34) (g' := (mkF m 79 #[.val (.int p0), .val (.int p1), .val (.int p2), .val (.int v28), .val (.int p1), .val (.ref b30), .val (.int (0 : Int32))] [(.int (1 : Int32))])) (fun t k => XS.iconst X34.here hx rfl (hb hby at_78) k) ?_
        refine own_step (T' := T34) (g' := (mkF m 83 #[.val (.int p0), .val (.int p1), .val (.int p2), .val (.int v28), .val (.int p1), .val (.ref b30), .val (.int (0 : Int32))] [(.int (1 : Int32))])) (fun t k => XS.goto X34.here hx rfl (pc0 := 79) (pc' := 83) rfl (hb hby at_79) (by decide) (by decide) k) ?_
        refine own_retN X34 hx hlk (t := .boolean) (w := (1 : Int32)) Bd.returns (by simp) (hb hby at_83) rfl (by decide) (by decide) ?_
        exact ⟨rfl, N34⟩
      · refine own_step (T' := T32) (g' := (mkF m 52 #[.val (.int p0), .val (.int p1), .val (.int p2), .val (.int v28), .val (.int p1), .val (.ref b30), .unset] [])) (fun t k => XS.ifNo X32.here hx rfl (hb hby at_49) rfl ((if0 _ _).trans (feq hc49_33).1) k) ?_
        refine own_step (T' := T32) (g' := (mkF m 54 #[.val (.int p0), .val (.int p1), .val (.int p2), .val (.int v28), .val (.int p1), .val (.ref b30), .unset] [(.int p1)])) (fun t k => XS.iload X32.here hx rfl (hb hby at_52) rfl k) ?_
        refine own_step (T' := T32) (g' := (mkF m 55 #[.val (.int p0), .val (.int p1), .val (.int p2), .val (.int v28), .val (.int p1), .val (.ref b30), .unset] [(.int (3 : Int32)), (.int p1)])) (fun t k => XS.iconst X32.here hx rfl (hb hby at_54) k) ?_
        obtain ⟨_, _, ⟨T36, L36, kk36, nn36⟩, -, X36, ⟨Lc36, hQ36, l36, y36, z36⟩, st36⟩ := Jvm.LawKit.callS X32 hx (y := (⟨"com/example/tilescript/tilescript/PoolCellIsOnBoardPinLaw", "clampsToItself", "(II)Z"⟩ : MethodName)) hown (mvT hZ (hw _ (List.mem_of_getElem? (i := 18) rfl))) (mvT hZ (hw _ (List.mem_of_getElem? (i := 19) rfl))) (mvT hZ (hw _ (List.mem_of_getElem? (i := 20) rfl))) (mvT hZ (hw _ (List.mem_of_getElem? (i := 21) rfl))) (by decide) (backOf (W := 0) (rm4 l Z a0 hw [] p1 (3 : Int32) T31.heap n0 (Nat.le_trans Z0 K_31.1) ) hZ (hw _ (List.mem_of_getElem? (i := 21) rfl)) (hw _ (List.mem_of_getElem? (i := 20) rfl)) (by decide) (by decide)) (g := (mkF m 55 #[.val (.int p0), .val (.int p1), .val (.int p2), .val (.int v28), .val (.int p1), .val (.ref b30), .unset] [(.int (3 : Int32)), (.int p1)])) rfl (by rw [hml]; rfl) (argsL := [(.int p1), (.int (3 : Int32))]) (rest := []) (lenOf pd_2 rfl) rfl (by show 2 * 0 + _ ≤ _; exact Nat.le_of_eq rfl) (hb hby at_55) (fun _ _ => ⟨rfl, eq32, (by decide : 1 + 0 ≤ _), (by decide : 2 + 0 ≤ _)⟩)
        dsimp only [Pt.U, Pt.locs, Pt.cells, Pt.slots] at X36 l36 y36 z36 st36 hQ36
        subst l36 y36 z36
        obtain ⟨rfl, N36q, eq36⟩ := hQ36
        have N36 := Fr.app N32 N36q
        refine own_step (T' := T36) (g' := (mkF m 58 #[.val (.int p0), .val (.int p1), .val (.int p2), .val (.int v28), .val (.int p1), .val (.ref b30), .unset] [(.int (fn4 p1 (3 : Int32)))])) st36 ?_
        by_cases hc58_37 : (fn4 p1 (3 : Int32)) = (0 : Int32)
        · refine own_step (T' := T36) (g' := (mkF m 65 #[.val (.int p0), .val (.int p1), .val (.int p2), .val (.int v28), .val (.int p1), .val (.ref b30), .unset] [])) (fun t k => XS.ifYes X36.here hx rfl (pc0 := 58) (pc' := 65) rfl (hb hby at_58) rfl ((if0 _ _).trans (teq hc58_37).1) (by decide) (by decide) k) ?_
          refine own_step (T' := T36) (g' := (mkF m 66 #[.val (.int p0), .val (.int p1), .val (.int p2), .val (.int v28), .val (.int p1), .val (.ref b30), .unset] [(.int (0 : Int32))])) (fun t k => XS.iconst X36.here hx rfl (hb hby at_65) k) ?_
          refine own_step (T' := T36) (g' := (mkF m 68 #[.val (.int p0), .val (.int p1), .val (.int p2), .val (.int v28), .val (.int p1), .val (.ref b30), .val (.int (0 : Int32))] [])) (fun t k => XS.istore X36.here hx rfl (hb hby at_66) rfl (l' := #[.val (.int p0), .val (.int p1), .val (.int p2), .val (.int v28), .val (.int p1), .val (.ref b30), .val (.int (0 : Int32))]) rfl k) ?_
          refine own_step (T' := T36) (g' := (mkF m 70 #[.val (.int p0), .val (.int p1), .val (.int p2), .val (.int v28), .val (.int p1), .val (.ref b30), .val (.int (0 : Int32))] [(.ref b30)])) (fun t k => XS.aload X36.here hx rfl (hb hby at_68) rfl rfl k) ?_
          obtain ⟨cq38, kq38, qq38a, qq38b, qq38c⟩ := isOf hZ eq36 E_b30_31
          obtain ⟨_, _, ⟨T38, L38, kk38, nn38⟩, -, X38, ⟨Lc38, hQ38, l38, y38, z38⟩, st38⟩ := X36.virtualBack hx (y := (⟨"com/example/tilescript/tilescript/PoolCell", "isOnBoard", "()Z"⟩ : MethodName)) (z := (⟨"com/example/tilescript/tilescript/PoolCell", "isOnBoard", "()Z"⟩ : MethodName)) hown (mvT hZ (hw _ (List.mem_of_getElem? (i := 29) rfl))) (mvT hZ (hw _ (List.mem_of_getElem? (i := 30) rfl))) (notFace_of_selects (args := #[]) (mvT hZ (hw _ (List.mem_of_getElem? (i := 32) rfl)))) (mvT hZ (hw _ (List.mem_of_getElem? (i := 32) rfl))) (mvT hZ (hw _ (List.mem_of_getElem? (i := 31) rfl))) (by decide) (backOf (W := 0) (rm7 l Z a0 hw [] b30 v28 p1 T31.heap n0 (Nat.le_trans Z0 K_31.1) pq31_0 pq31_1) hZ (hw _ (List.mem_of_getElem? (i := 33) rfl)) (hw _ (List.mem_of_getElem? (i := 2) rfl)) (by decide) (by decide)) qq38a qq38c (g := (mkF m 70 #[.val (.int p0), .val (.int p1), .val (.int p2), .val (.int v28), .val (.int p1), .val (.ref b30), .val (.int (0 : Int32))] [(.ref b30)])) rfl (by rw [hml]; rfl) (Steps.refl _) (argsL := []) (rest := []) (lenOf pd_4 rfl) rfl (by show 2 * 0 + _ ≤ _; exact Nat.le_of_eq rfl) (hb hby at_70) (fun _ _ => ⟨rfl, eq36, (by decide : 1 + 0 ≤ _), (by decide : 2 + 0 ≤ _)⟩)
          dsimp only [Pt.U, Pt.locs, Pt.cells, Pt.slots] at X38 l38 y38 z38 st38 hQ38
          subst l38 y38 z38
          obtain ⟨rfl, N38q, eq38⟩ := hQ38
          have N38 := Fr.app N36 N38q
          refine own_step (T' := T38) (g' := (mkF m 73 #[.val (.int p0), .val (.int p1), .val (.int p2), .val (.int v28), .val (.int p1), .val (.ref b30), .val (.int (0 : Int32))] [(.int (fn7 v28 p1))])) (fun t k => st38.trans k) ?_
          refine own_step (T' := T38) (g' := (mkF m 75 #[.val (.int p0), .val (.int p1), .val (.int p2), .val (.int v28), .val (.int p1), .val (.ref b30), .val (.int (0 : Int32))] [(.int (0 : Int32)), (.int (fn7 v28 p1))])) (fun t k => XS.iload X38.here hx rfl (hb hby at_73) rfl k) ?_
          refine own_step (T' := T38) (g' := (mkF m 78 #[.val (.int p0), .val (.int p1), .val (.int p2), .val (.int v28), .val (.int p1), .val (.ref b30), .val (.int (0 : Int32))] [])) (fun t k => XS.icmpNo X38.here hx rfl (hb hby at_75) rfl (teq (own_C hc58_37)).2 k) ?_
          refine own_step (T' := T38) (g' := (mkF m 79 #[.val (.int p0), .val (.int p1), .val (.int p2), .val (.int v28), .val (.int p1), .val (.ref b30), .val (.int (0 : Int32))] [(.int (1 : Int32))])) (fun t k => XS.iconst X38.here hx rfl (hb hby at_78) k) ?_
          refine own_step (T' := T38) (g' := (mkF m 83 #[.val (.int p0), .val (.int p1), .val (.int p2), .val (.int v28), .val (.int p1), .val (.ref b30), .val (.int (0 : Int32))] [(.int (1 : Int32))])) (fun t k => XS.goto X38.here hx rfl (pc0 := 79) (pc' := 83) rfl (hb hby at_79) (by decide) (by decide) k) ?_
          refine own_retN X38 hx hlk (t := .boolean) (w := (1 : Int32)) Bd.returns (by simp) (hb hby at_83) rfl (by decide) (by decide) ?_
          exact ⟨rfl, N38⟩
        · refine own_step (T' := T36) (g' := (mkF m 61 #[.val (.int p0), .val (.int p1), .val (.int p2), .val (.int v28), .val (.int p1), .val (.ref b30), .unset] [])) (fun t k => XS.ifNo X36.here hx rfl (hb hby at_58) rfl ((if0 _ _).trans (feq hc58_37).1) k) ?_
          refine own_step (T' := T36) (g' := (mkF m 62 #[.val (.int p0), .val (.int p1), .val (.int p2), .val (.int v28), .val (.int p1), .val (.ref b30), .unset] [(.int (1 : Int32))])) (fun t k => XS.iconst X36.here hx rfl (hb hby at_61) k) ?_
          refine own_step (T' := T36) (g' := (mkF m 66 #[.val (.int p0), .val (.int p1), .val (.int p2), .val (.int v28), .val (.int p1), .val (.ref b30), .unset] [(.int (1 : Int32))])) (fun t k => XS.goto X36.here hx rfl (pc0 := 62) (pc' := 66) rfl (hb hby at_62) (by decide) (by decide) k) ?_
          refine own_step (T' := T36) (g' := (mkF m 68 #[.val (.int p0), .val (.int p1), .val (.int p2), .val (.int v28), .val (.int p1), .val (.ref b30), .val (.int (1 : Int32))] [])) (fun t k => XS.istore X36.here hx rfl (hb hby at_66) rfl (l' := #[.val (.int p0), .val (.int p1), .val (.int p2), .val (.int v28), .val (.int p1), .val (.ref b30), .val (.int (1 : Int32))]) rfl k) ?_
          refine own_step (T' := T36) (g' := (mkF m 70 #[.val (.int p0), .val (.int p1), .val (.int p2), .val (.int v28), .val (.int p1), .val (.ref b30), .val (.int (1 : Int32))] [(.ref b30)])) (fun t k => XS.aload X36.here hx rfl (hb hby at_68) rfl rfl k) ?_
          obtain ⟨cq40, kq40, qq40a, qq40b, qq40c⟩ := isOf hZ eq36 E_b30_31
          obtain ⟨_, _, ⟨T40, L40, kk40, nn40⟩, -, X40, ⟨Lc40, hQ40, l40, y40, z40⟩, st40⟩ := X36.virtualBack hx (y := (⟨"com/example/tilescript/tilescript/PoolCell", "isOnBoard", "()Z"⟩ : MethodName)) (z := (⟨"com/example/tilescript/tilescript/PoolCell", "isOnBoard", "()Z"⟩ : MethodName)) hown (mvT hZ (hw _ (List.mem_of_getElem? (i := 29) rfl))) (mvT hZ (hw _ (List.mem_of_getElem? (i := 30) rfl))) (notFace_of_selects (args := #[]) (mvT hZ (hw _ (List.mem_of_getElem? (i := 32) rfl)))) (mvT hZ (hw _ (List.mem_of_getElem? (i := 32) rfl))) (mvT hZ (hw _ (List.mem_of_getElem? (i := 31) rfl))) (by decide) (backOf (W := 0) (rm7 l Z a0 hw [] b30 v28 p1 T31.heap n0 (Nat.le_trans Z0 K_31.1) pq31_0 pq31_1) hZ (hw _ (List.mem_of_getElem? (i := 33) rfl)) (hw _ (List.mem_of_getElem? (i := 2) rfl)) (by decide) (by decide)) qq40a qq40c (g := (mkF m 70 #[.val (.int p0), .val (.int p1), .val (.int p2), .val (.int v28), .val (.int p1), .val (.ref b30), .val (.int (1 : Int32))] [(.ref b30)])) rfl (by rw [hml]; rfl) (Steps.refl _) (argsL := []) (rest := []) (lenOf pd_4 rfl) rfl (by show 2 * 0 + _ ≤ _; exact Nat.le_of_eq rfl) (hb hby at_70) (fun _ _ => ⟨rfl, eq36, (by decide : 1 + 0 ≤ _), (by decide : 2 + 0 ≤ _)⟩)
          dsimp only [Pt.U, Pt.locs, Pt.cells, Pt.slots] at X40 l40 y40 z40 st40 hQ40
          subst l40 y40 z40
          obtain ⟨rfl, N40q, eq40⟩ := hQ40
          have N40 := Fr.app N36 N40q
          refine own_step (T' := T40) (g' := (mkF m 73 #[.val (.int p0), .val (.int p1), .val (.int p2), .val (.int v28), .val (.int p1), .val (.ref b30), .val (.int (1 : Int32))] [(.int (fn7 v28 p1))])) (fun t k => st40.trans k) ?_
          refine own_step (T' := T40) (g' := (mkF m 75 #[.val (.int p0), .val (.int p1), .val (.int p2), .val (.int v28), .val (.int p1), .val (.ref b30), .val (.int (1 : Int32))] [(.int (1 : Int32)), (.int (fn7 v28 p1))])) (fun t k => XS.iload X40.here hx rfl (hb hby at_73) rfl k) ?_
          refine own_step (T' := T40) (g' := (mkF m 78 #[.val (.int p0), .val (.int p1), .val (.int p2), .val (.int v28), .val (.int p1), .val (.ref b30), .val (.int (1 : Int32))] [])) (fun t k => XS.icmpNo X40.here hx rfl (hb hby at_75) rfl (teq (own_A hc49_33 hc58_37)).2 k) ?_
          refine own_step (T' := T40) (g' := (mkF m 79 #[.val (.int p0), .val (.int p1), .val (.int p2), .val (.int v28), .val (.int p1), .val (.ref b30), .val (.int (1 : Int32))] [(.int (1 : Int32))])) (fun t k => XS.iconst X40.here hx rfl (hb hby at_78) k) ?_
          refine own_step (T' := T40) (g' := (mkF m 83 #[.val (.int p0), .val (.int p1), .val (.int p2), .val (.int v28), .val (.int p1), .val (.ref b30), .val (.int (1 : Int32))] [(.int (1 : Int32))])) (fun t k => XS.goto X40.here hx rfl (pc0 := 79) (pc' := 83) rfl (hb hby at_79) (by decide) (by decide) k) ?_
          refine own_retN X40 hx hlk (t := .boolean) (w := (1 : Int32)) Bd.returns (by simp) (hb hby at_83) rfl (by decide) (by decide) ?_
          exact ⟨rfl, N40⟩
    · refine own_step (T' := s₁) (g' := (mkF m 24 #[.val (.int p0), .val (.int p1), .val (.int p2), .val (.int v28), .val (.int p1), .unset, .unset] [])) (fun t k => XS.ifNo X0.here hx rfl (hb hby at_21) rfl ((if0 _ _).trans (feq hc21_29).1) k) ?_
      refine own_step (T' := s₁) (g' := (mkF m 25 #[.val (.int p0), .val (.int p1), .val (.int p2), .val (.int v28), .val (.int p1), .unset, .unset] [(.int p1)])) (fun t k => XS.iloadN X0.here hx rfl (hb hby at_24) rfl k) ?_
      refine own_step (T' := s₁) (g' := (mkF m 27 #[.val (.int p0), .val (.int p1), .val (.int p2), .val (.int v28), .val (.int p1), .unset, .unset] [(.int (7 : Int32)), (.int p1)])) (fun t k => XS.bipush X0.here hx rfl (hb hby at_25) k) ?_
      refine own_step (T' := s₁) (g' := (mkF m 28 #[.val (.int p0), .val (.int p1), .val (.int p2), .val (.int v28), .val (.int p1), .unset, .unset] [(.int (p1 &&& (7 : Int32)))])) (fun t k => XS.iand X0.here hx rfl (hb hby at_27) rfl k) ?_
      refine own_step (T' := s₁) (g' := (mkF m 29 #[.val (.int p0), .val (.int p1), .val (.int p2), .val (.int v28), .val (.int p1), .unset, .unset] [(.int (1 : Int32)), (.int (p1 &&& (7 : Int32)))])) (fun t k => XS.iconst X0.here hx rfl (hb hby at_28) k) ?_
      refine own_step (T' := s₁) (g' := (mkF m 30 #[.val (.int p0), .val (.int p1), .val (.int p2), .val (.int v28), .val (.int p1), .unset, .unset] [(.int ((p1 &&& (7 : Int32)) - (1 : Int32)))])) (fun t k => XS.isub X0.here hx rfl (hb hby at_29) rfl k) ?_
      generalize hv42 : ((p1 &&& (7 : Int32)) - (1 : Int32)) = v42
      refine own_step (T' := s₁) (g' := (mkF m 32 #[.val (.int p0), .val (.int p1), .val (.int p2), .val (.int v28), .val (.int v42), .unset, .unset] [])) (fun t k => XS.istore X0.here hx rfl (hb hby at_30) rfl (l' := #[.val (.int p0), .val (.int p1), .val (.int p2), .val (.int v28), .val (.int v42), .unset, .unset]) rfl k) ?_
      obtain ⟨T43, h43, X43, e43, E43, A43, D43, -, st43⟩ := newO X0 hx hZ hown (hw _ (List.mem_of_getElem? (i := 0) rfl)) (hw _ (List.mem_of_getElem? (i := 1) rfl)) (hw _ (List.mem_of_getElem? (i := 2) rfl)) e0 (g := (mkF m 32 #[.val (.int p0), .val (.int p1), .val (.int p2), .val (.int v28), .val (.int v42), .unset, .unset] [])) rfl (hb hby at_32) (by decide) (by decide)
      obtain ⟨b43, g43⟩ : ∃ z, z = h0.size := ⟨_, rfl⟩
      rw [← g43] at A43 D43 st43
      have K_43 : Keep h0 h43 [] := K0.ext E43
      have sz_b43 : h0.size ≤ b43 := Nat.le_trans K0.1 (Nat.le_of_eq g43.symm)
      have g_b43 : n0 ≤ b43 := Nat.le_trans Z0 sz_b43
      have E_b43 : Exa Z h43 b43 "com/example/tilescript/tilescript/PoolCell" := A43
      have F_x_b43 : Fld Z h43 b43 "com/example/tilescript/tilescript/PoolCell" "x" "I" (.int (0 : Int32)) := D43 (Or.inr (hw _ (List.mem_of_getElem? (i := 15) rfl))) (ty := .int) (by decide)
      have F_y_b43 : Fld Z h43 b43 "com/example/tilescript/tilescript/PoolCell" "y" "I" (.int (0 : Int32)) := D43 (Or.inr (hw _ (List.mem_of_getElem? (i := 17) rfl))) (ty := .int) (by decide)
      refine own_step (T' := T43) (g' := (mkF m 35 #[.val (.int p0), .val (.int p1), .val (.int p2), .val (.int v28), .val (.int v42), .unset, .unset] [(.ref b43)])) st43 ?_
      refine own_step (T' := T43) (g' := (mkF m 36 #[.val (.int p0), .val (.int p1), .val (.int p2), .val (.int v28), .val (.int v42), .unset, .unset] [(.ref b43), (.ref b43)])) (fun t k => XS.dup X43.here hx rfl (hb hby at_35) rfl rfl k) ?_
      refine own_step (T' := T43) (g' := (mkF m 37 #[.val (.int p0), .val (.int p1), .val (.int p2), .val (.int v28), .val (.int v42), .unset, .unset] [(.int v28), (.ref b43), (.ref b43)])) (fun t k => XS.iloadN X43.here hx rfl (hb hby at_36) rfl k) ?_
      refine own_step (T' := T43) (g' := (mkF m 39 #[.val (.int p0), .val (.int p1), .val (.int p2), .val (.int v28), .val (.int v42), .unset, .unset] [(.int v42), (.int v28), (.ref b43), (.ref b43)])) (fun t k => XS.iload X43.here hx rfl (hb hby at_37) rfl k) ?_
      obtain ⟨_, _, ⟨T44, L44, kk44, nn44⟩, -, X44, ⟨Lc44, hQ44, l44, y44, z44⟩, st44⟩ := X43.specialBack hx (y := (⟨"com/example/tilescript/tilescript/PoolCell", "<init>", "(II)V"⟩ : MethodName)) rfl hown (mvT hZ (hw _ (List.mem_of_getElem? (i := 3) rfl))) (mvT hZ (hw _ (List.mem_of_getElem? (i := 4) rfl))) (mvT hZ (hw _ (List.mem_of_getElem? (i := 5) rfl))) (by decide) (backOf (W := 1) (rm1 l Z a0 hw [] b43 v28 v42 h43 n0 (Nat.le_trans Z0 K_43.1) E_b43 F_x_b43 F_y_b43 g_b43) hZ (hw _ (List.mem_of_getElem? (i := 5) rfl)) (hw _ (List.mem_of_getElem? (i := 2) rfl)) (by decide) (by decide)) (g := (mkF m 39 #[.val (.int p0), .val (.int p1), .val (.int p2), .val (.int v28), .val (.int v42), .unset, .unset] [(.int v42), (.int v28), (.ref b43), (.ref b43)])) rfl (by rw [hml]; rfl) (Steps.refl _) (a := b43) (argsL := [(.int v28), (.int v42)]) (rest := [(.ref b43)]) (lenOf pd_0 rfl) rfl (by show 2 * 0 + _ ≤ _; exact Nat.le_of_eq rfl) (hb hby at_39) (fun _ _ => ⟨rfl, e43, (by decide : 1 + 0 ≤ _), (by decide : 2 + 0 ≤ _)⟩)
      dsimp only [Pt.U, Pt.locs, Pt.cells, Pt.slots] at X44 l44 y44 z44 st44 hQ44
      subst l44 y44 z44
      obtain ⟨rfl, N44q, Kq44, pq44_0, pq44_1⟩ := hQ44
      have N44 := Fr.app N0 N44q
      have E_b43_44 : Exa Z T44.heap b43 "com/example/tilescript/tilescript/PoolCell" := E_b43.keep Kq44
      have K_44 : Keep h0 T44.heap [] := K_43.trans Kq44 (allS (Or.inr sz_b43) all0)
      refine own_step (T' := T44) (g' := (mkF m 42 #[.val (.int p0), .val (.int p1), .val (.int p2), .val (.int v28), .val (.int v42), .unset, .unset] [(.ref b43)])) (fun t k => st44.trans k) ?_
      refine own_step (T' := T44) (g' := (mkF m 44 #[.val (.int p0), .val (.int p1), .val (.int p2), .val (.int v28), .val (.int v42), .val (.ref b43), .unset] [])) (fun t k => XS.astore X44.here hx rfl (hb hby at_42) rfl rfl (l' := #[.val (.int p0), .val (.int p1), .val (.int p2), .val (.int v28), .val (.int v42), .val (.ref b43), .unset]) rfl k) ?_
      refine own_step (T' := T44) (g' := (mkF m 45 #[.val (.int p0), .val (.int p1), .val (.int p2), .val (.int v28), .val (.int v42), .val (.ref b43), .unset] [(.int v28)])) (fun t k => XS.iloadN X44.here hx rfl (hb hby at_44) rfl k) ?_
      refine own_step (T' := T44) (g' := (mkF m 46 #[.val (.int p0), .val (.int p1), .val (.int p2), .val (.int v28), .val (.int v42), .val (.ref b43), .unset] [(.int (4 : Int32)), (.int v28)])) (fun t k => XS.iconst X44.here hx rfl (hb hby at_45) k) ?_
      obtain ⟨_, _, ⟨T45, L45, kk45, nn45⟩, -, X45, ⟨Lc45, hQ45, l45, y45, z45⟩, st45⟩ := Jvm.LawKit.callS X44 hx (y := (⟨"com/example/tilescript/tilescript/PoolCellIsOnBoardPinLaw", "clampsToItself", "(II)Z"⟩ : MethodName)) hown (mvT hZ (hw _ (List.mem_of_getElem? (i := 18) rfl))) (mvT hZ (hw _ (List.mem_of_getElem? (i := 19) rfl))) (mvT hZ (hw _ (List.mem_of_getElem? (i := 20) rfl))) (mvT hZ (hw _ (List.mem_of_getElem? (i := 21) rfl))) (by decide) (backOf (W := 0) (rm4 l Z a0 hw [] v28 (4 : Int32) T44.heap n0 (Nat.le_trans Z0 K_44.1) ) hZ (hw _ (List.mem_of_getElem? (i := 21) rfl)) (hw _ (List.mem_of_getElem? (i := 20) rfl)) (by decide) (by decide)) (g := (mkF m 46 #[.val (.int p0), .val (.int p1), .val (.int p2), .val (.int v28), .val (.int v42), .val (.ref b43), .unset] [(.int (4 : Int32)), (.int v28)])) rfl (by rw [hml]; rfl) (argsL := [(.int v28), (.int (4 : Int32))]) (rest := []) (lenOf pd_2 rfl) rfl (by show 2 * 0 + _ ≤ _; exact Nat.le_of_eq rfl) (hb hby at_46) (fun _ _ => ⟨rfl, rfl, (by decide : 1 + 0 ≤ _), (by decide : 2 + 0 ≤ _)⟩)
      dsimp only [Pt.U, Pt.locs, Pt.cells, Pt.slots] at X45 l45 y45 z45 st45 hQ45
      subst l45 y45 z45
      obtain ⟨rfl, N45q, eq45⟩ := hQ45
      have N45 := Fr.app N44 N45q
      refine own_step (T' := T45) (g' := (mkF m 49 #[.val (.int p0), .val (.int p1), .val (.int p2), .val (.int v28), .val (.int v42), .val (.ref b43), .unset] [(.int (fn4 v28 (4 : Int32)))])) st45 ?_
      by_cases hc49_46 : (fn4 v28 (4 : Int32)) = (0 : Int32)
      · refine own_step (T' := T45) (g' := (mkF m 65 #[.val (.int p0), .val (.int p1), .val (.int p2), .val (.int v28), .val (.int v42), .val (.ref b43), .unset] [])) (fun t k => XS.ifYes X45.here hx rfl (pc0 := 49) (pc' := 65) rfl (hb hby at_49) rfl ((if0 _ _).trans (teq hc49_46).1) (by decide) (by decide) k) ?_
        refine own_step (T' := T45) (g' := (mkF m 66 #[.val (.int p0), .val (.int p1), .val (.int p2), .val (.int v28), .val (.int v42), .val (.ref b43), .unset] [(.int (0 : Int32))])) (fun t k => XS.iconst X45.here hx rfl (hb hby at_65) k) ?_
        refine own_step (T' := T45) (g' := (mkF m 68 #[.val (.int p0), .val (.int p1), .val (.int p2), .val (.int v28), .val (.int v42), .val (.ref b43), .val (.int (0 : Int32))] [])) (fun t k => XS.istore X45.here hx rfl (hb hby at_66) rfl (l' := #[.val (.int p0), .val (.int p1), .val (.int p2), .val (.int v28), .val (.int v42), .val (.ref b43), .val (.int (0 : Int32))]) rfl k) ?_
        refine own_step (T' := T45) (g' := (mkF m 70 #[.val (.int p0), .val (.int p1), .val (.int p2), .val (.int v28), .val (.int v42), .val (.ref b43), .val (.int (0 : Int32))] [(.ref b43)])) (fun t k => XS.aload X45.here hx rfl (hb hby at_68) rfl rfl k) ?_
        obtain ⟨cq47, kq47, qq47a, qq47b, qq47c⟩ := isOf hZ eq45 E_b43_44
        obtain ⟨_, _, ⟨T47, L47, kk47, nn47⟩, -, X47, ⟨Lc47, hQ47, l47, y47, z47⟩, st47⟩ := X45.virtualBack hx (y := (⟨"com/example/tilescript/tilescript/PoolCell", "isOnBoard", "()Z"⟩ : MethodName)) (z := (⟨"com/example/tilescript/tilescript/PoolCell", "isOnBoard", "()Z"⟩ : MethodName)) hown (mvT hZ (hw _ (List.mem_of_getElem? (i := 29) rfl))) (mvT hZ (hw _ (List.mem_of_getElem? (i := 30) rfl))) (notFace_of_selects (args := #[]) (mvT hZ (hw _ (List.mem_of_getElem? (i := 32) rfl)))) (mvT hZ (hw _ (List.mem_of_getElem? (i := 32) rfl))) (mvT hZ (hw _ (List.mem_of_getElem? (i := 31) rfl))) (by decide) (backOf (W := 0) (rm7 l Z a0 hw [] b43 v28 v42 T44.heap n0 (Nat.le_trans Z0 K_44.1) pq44_0 pq44_1) hZ (hw _ (List.mem_of_getElem? (i := 33) rfl)) (hw _ (List.mem_of_getElem? (i := 2) rfl)) (by decide) (by decide)) qq47a qq47c (g := (mkF m 70 #[.val (.int p0), .val (.int p1), .val (.int p2), .val (.int v28), .val (.int v42), .val (.ref b43), .val (.int (0 : Int32))] [(.ref b43)])) rfl (by rw [hml]; rfl) (Steps.refl _) (argsL := []) (rest := []) (lenOf pd_4 rfl) rfl (by show 2 * 0 + _ ≤ _; exact Nat.le_of_eq rfl) (hb hby at_70) (fun _ _ => ⟨rfl, eq45, (by decide : 1 + 0 ≤ _), (by decide : 2 + 0 ≤ _)⟩)
        dsimp only [Pt.U, Pt.locs, Pt.cells, Pt.slots] at X47 l47 y47 z47 st47 hQ47
        subst l47 y47 z47
        obtain ⟨rfl, N47q, eq47⟩ := hQ47
        have N47 := Fr.app N45 N47q
        refine own_step (T' := T47) (g' := (mkF m 73 #[.val (.int p0), .val (.int p1), .val (.int p2), .val (.int v28), .val (.int v42), .val (.ref b43), .val (.int (0 : Int32))] [(.int (fn7 v28 v42))])) (fun t k => st47.trans k) ?_
        refine own_step (T' := T47) (g' := (mkF m 75 #[.val (.int p0), .val (.int p1), .val (.int p2), .val (.int v28), .val (.int v42), .val (.ref b43), .val (.int (0 : Int32))] [(.int (0 : Int32)), (.int (fn7 v28 v42))])) (fun t k => XS.iload X47.here hx rfl (hb hby at_73) rfl k) ?_
        refine own_step (T' := T47) (g' := (mkF m 78 #[.val (.int p0), .val (.int p1), .val (.int p2), .val (.int v28), .val (.int v42), .val (.ref b43), .val (.int (0 : Int32))] [])) (fun t k => XS.icmpNo X47.here hx rfl (hb hby at_75) rfl (teq (own_B hc49_46)).2 k) ?_
        refine own_step (T' := T47) (g' := (mkF m 79 #[.val (.int p0), .val (.int p1), .val (.int p2), .val (.int v28), .val (.int v42), .val (.ref b43), .val (.int (0 : Int32))] [(.int (1 : Int32))])) (fun t k => XS.iconst X47.here hx rfl (hb hby at_78) k) ?_
        refine own_step (T' := T47) (g' := (mkF m 83 #[.val (.int p0), .val (.int p1), .val (.int p2), .val (.int v28), .val (.int v42), .val (.ref b43), .val (.int (0 : Int32))] [(.int (1 : Int32))])) (fun t k => XS.goto X47.here hx rfl (pc0 := 79) (pc' := 83) rfl (hb hby at_79) (by decide) (by decide) k) ?_
        refine own_retN X47 hx hlk (t := .boolean) (w := (1 : Int32)) Bd.returns (by simp) (hb hby at_83) rfl (by decide) (by decide) ?_
        exact ⟨rfl, N47⟩
      · refine own_step (T' := T45) (g' := (mkF m 52 #[.val (.int p0), .val (.int p1), .val (.int p2), .val (.int v28), .val (.int v42), .val (.ref b43), .unset] [])) (fun t k => XS.ifNo X45.here hx rfl (hb hby at_49) rfl ((if0 _ _).trans (feq hc49_46).1) k) ?_
        refine own_step (T' := T45) (g' := (mkF m 54 #[.val (.int p0), .val (.int p1), .val (.int p2), .val (.int v28), .val (.int v42), .val (.ref b43), .unset] [(.int v42)])) (fun t k => XS.iload X45.here hx rfl (hb hby at_52) rfl k) ?_
        refine own_step (T' := T45) (g' := (mkF m 55 #[.val (.int p0), .val (.int p1), .val (.int p2), .val (.int v28), .val (.int v42), .val (.ref b43), .unset] [(.int (3 : Int32)), (.int v42)])) (fun t k => XS.iconst X45.here hx rfl (hb hby at_54) k) ?_
        obtain ⟨_, _, ⟨T49, L49, kk49, nn49⟩, -, X49, ⟨Lc49, hQ49, l49, y49, z49⟩, st49⟩ := Jvm.LawKit.callS X45 hx (y := (⟨"com/example/tilescript/tilescript/PoolCellIsOnBoardPinLaw", "clampsToItself", "(II)Z"⟩ : MethodName)) hown (mvT hZ (hw _ (List.mem_of_getElem? (i := 18) rfl))) (mvT hZ (hw _ (List.mem_of_getElem? (i := 19) rfl))) (mvT hZ (hw _ (List.mem_of_getElem? (i := 20) rfl))) (mvT hZ (hw _ (List.mem_of_getElem? (i := 21) rfl))) (by decide) (backOf (W := 0) (rm4 l Z a0 hw [] v42 (3 : Int32) T44.heap n0 (Nat.le_trans Z0 K_44.1) ) hZ (hw _ (List.mem_of_getElem? (i := 21) rfl)) (hw _ (List.mem_of_getElem? (i := 20) rfl)) (by decide) (by decide)) (g := (mkF m 55 #[.val (.int p0), .val (.int p1), .val (.int p2), .val (.int v28), .val (.int v42), .val (.ref b43), .unset] [(.int (3 : Int32)), (.int v42)])) rfl (by rw [hml]; rfl) (argsL := [(.int v42), (.int (3 : Int32))]) (rest := []) (lenOf pd_2 rfl) rfl (by show 2 * 0 + _ ≤ _; exact Nat.le_of_eq rfl) (hb hby at_55) (fun _ _ => ⟨rfl, eq45, (by decide : 1 + 0 ≤ _), (by decide : 2 + 0 ≤ _)⟩)
        dsimp only [Pt.U, Pt.locs, Pt.cells, Pt.slots] at X49 l49 y49 z49 st49 hQ49
        subst l49 y49 z49
        obtain ⟨rfl, N49q, eq49⟩ := hQ49
        have N49 := Fr.app N45 N49q
        refine own_step (T' := T49) (g' := (mkF m 58 #[.val (.int p0), .val (.int p1), .val (.int p2), .val (.int v28), .val (.int v42), .val (.ref b43), .unset] [(.int (fn4 v42 (3 : Int32)))])) st49 ?_
        by_cases hc58_50 : (fn4 v42 (3 : Int32)) = (0 : Int32)
        · refine own_step (T' := T49) (g' := (mkF m 65 #[.val (.int p0), .val (.int p1), .val (.int p2), .val (.int v28), .val (.int v42), .val (.ref b43), .unset] [])) (fun t k => XS.ifYes X49.here hx rfl (pc0 := 58) (pc' := 65) rfl (hb hby at_58) rfl ((if0 _ _).trans (teq hc58_50).1) (by decide) (by decide) k) ?_
          refine own_step (T' := T49) (g' := (mkF m 66 #[.val (.int p0), .val (.int p1), .val (.int p2), .val (.int v28), .val (.int v42), .val (.ref b43), .unset] [(.int (0 : Int32))])) (fun t k => XS.iconst X49.here hx rfl (hb hby at_65) k) ?_
          refine own_step (T' := T49) (g' := (mkF m 68 #[.val (.int p0), .val (.int p1), .val (.int p2), .val (.int v28), .val (.int v42), .val (.ref b43), .val (.int (0 : Int32))] [])) (fun t k => XS.istore X49.here hx rfl (hb hby at_66) rfl (l' := #[.val (.int p0), .val (.int p1), .val (.int p2), .val (.int v28), .val (.int v42), .val (.ref b43), .val (.int (0 : Int32))]) rfl k) ?_
          refine own_step (T' := T49) (g' := (mkF m 70 #[.val (.int p0), .val (.int p1), .val (.int p2), .val (.int v28), .val (.int v42), .val (.ref b43), .val (.int (0 : Int32))] [(.ref b43)])) (fun t k => XS.aload X49.here hx rfl (hb hby at_68) rfl rfl k) ?_
          obtain ⟨cq51, kq51, qq51a, qq51b, qq51c⟩ := isOf hZ eq49 E_b43_44
          obtain ⟨_, _, ⟨T51, L51, kk51, nn51⟩, -, X51, ⟨Lc51, hQ51, l51, y51, z51⟩, st51⟩ := X49.virtualBack hx (y := (⟨"com/example/tilescript/tilescript/PoolCell", "isOnBoard", "()Z"⟩ : MethodName)) (z := (⟨"com/example/tilescript/tilescript/PoolCell", "isOnBoard", "()Z"⟩ : MethodName)) hown (mvT hZ (hw _ (List.mem_of_getElem? (i := 29) rfl))) (mvT hZ (hw _ (List.mem_of_getElem? (i := 30) rfl))) (notFace_of_selects (args := #[]) (mvT hZ (hw _ (List.mem_of_getElem? (i := 32) rfl)))) (mvT hZ (hw _ (List.mem_of_getElem? (i := 32) rfl))) (mvT hZ (hw _ (List.mem_of_getElem? (i := 31) rfl))) (by decide) (backOf (W := 0) (rm7 l Z a0 hw [] b43 v28 v42 T44.heap n0 (Nat.le_trans Z0 K_44.1) pq44_0 pq44_1) hZ (hw _ (List.mem_of_getElem? (i := 33) rfl)) (hw _ (List.mem_of_getElem? (i := 2) rfl)) (by decide) (by decide)) qq51a qq51c (g := (mkF m 70 #[.val (.int p0), .val (.int p1), .val (.int p2), .val (.int v28), .val (.int v42), .val (.ref b43), .val (.int (0 : Int32))] [(.ref b43)])) rfl (by rw [hml]; rfl) (Steps.refl _) (argsL := []) (rest := []) (lenOf pd_4 rfl) rfl (by show 2 * 0 + _ ≤ _; exact Nat.le_of_eq rfl) (hb hby at_70) (fun _ _ => ⟨rfl, eq49, (by decide : 1 + 0 ≤ _), (by decide : 2 + 0 ≤ _)⟩)
          dsimp only [Pt.U, Pt.locs, Pt.cells, Pt.slots] at X51 l51 y51 z51 st51 hQ51
          subst l51 y51 z51
          obtain ⟨rfl, N51q, eq51⟩ := hQ51
          have N51 := Fr.app N49 N51q
          refine own_step (T' := T51) (g' := (mkF m 73 #[.val (.int p0), .val (.int p1), .val (.int p2), .val (.int v28), .val (.int v42), .val (.ref b43), .val (.int (0 : Int32))] [(.int (fn7 v28 v42))])) (fun t k => st51.trans k) ?_
          refine own_step (T' := T51) (g' := (mkF m 75 #[.val (.int p0), .val (.int p1), .val (.int p2), .val (.int v28), .val (.int v42), .val (.ref b43), .val (.int (0 : Int32))] [(.int (0 : Int32)), (.int (fn7 v28 v42))])) (fun t k => XS.iload X51.here hx rfl (hb hby at_73) rfl k) ?_
          refine own_step (T' := T51) (g' := (mkF m 78 #[.val (.int p0), .val (.int p1), .val (.int p2), .val (.int v28), .val (.int v42), .val (.ref b43), .val (.int (0 : Int32))] [])) (fun t k => XS.icmpNo X51.here hx rfl (hb hby at_75) rfl (teq (own_C hc58_50)).2 k) ?_
          refine own_step (T' := T51) (g' := (mkF m 79 #[.val (.int p0), .val (.int p1), .val (.int p2), .val (.int v28), .val (.int v42), .val (.ref b43), .val (.int (0 : Int32))] [(.int (1 : Int32))])) (fun t k => XS.iconst X51.here hx rfl (hb hby at_78) k) ?_
          refine own_step (T' := T51) (g' := (mkF m 83 #[.val (.int p0), .val (.int p1), .val (.int p2), .val (.int v28), .val (.int v42), .val (.ref b43), .val (.int (0 : Int32))] [(.int (1 : Int32))])) (fun t k => XS.goto X51.here hx rfl (pc0 := 79) (pc' := 83) rfl (hb hby at_79) (by decide) (by decide) k) ?_
          refine own_retN X51 hx hlk (t := .boolean) (w := (1 : Int32)) Bd.returns (by simp) (hb hby at_83) rfl (by decide) (by decide) ?_
          exact ⟨rfl, N51⟩
        · refine own_step (T' := T49) (g' := (mkF m 61 #[.val (.int p0), .val (.int p1), .val (.int p2), .val (.int v28), .val (.int v42), .val (.ref b43), .unset] [])) (fun t k => XS.ifNo X49.here hx rfl (hb hby at_58) rfl ((if0 _ _).trans (feq hc58_50).1) k) ?_
          refine own_step (T' := T49) (g' := (mkF m 62 #[.val (.int p0), .val (.int p1), .val (.int p2), .val (.int v28), .val (.int v42), .val (.ref b43), .unset] [(.int (1 : Int32))])) (fun t k => XS.iconst X49.here hx rfl (hb hby at_61) k) ?_
          refine own_step (T' := T49) (g' := (mkF m 66 #[.val (.int p0), .val (.int p1), .val (.int p2), .val (.int v28), .val (.int v42), .val (.ref b43), .unset] [(.int (1 : Int32))])) (fun t k => XS.goto X49.here hx rfl (pc0 := 62) (pc' := 66) rfl (hb hby at_62) (by decide) (by decide) k) ?_
          refine own_step (T' := T49) (g' := (mkF m 68 #[.val (.int p0), .val (.int p1), .val (.int p2), .val (.int v28), .val (.int v42), .val (.ref b43), .val (.int (1 : Int32))] [])) (fun t k => XS.istore X49.here hx rfl (hb hby at_66) rfl (l' := #[.val (.int p0), .val (.int p1), .val (.int p2), .val (.int v28), .val (.int v42), .val (.ref b43), .val (.int (1 : Int32))]) rfl k) ?_
          refine own_step (T' := T49) (g' := (mkF m 70 #[.val (.int p0), .val (.int p1), .val (.int p2), .val (.int v28), .val (.int v42), .val (.ref b43), .val (.int (1 : Int32))] [(.ref b43)])) (fun t k => XS.aload X49.here hx rfl (hb hby at_68) rfl rfl k) ?_
          obtain ⟨cq53, kq53, qq53a, qq53b, qq53c⟩ := isOf hZ eq49 E_b43_44
          obtain ⟨_, _, ⟨T53, L53, kk53, nn53⟩, -, X53, ⟨Lc53, hQ53, l53, y53, z53⟩, st53⟩ := X49.virtualBack hx (y := (⟨"com/example/tilescript/tilescript/PoolCell", "isOnBoard", "()Z"⟩ : MethodName)) (z := (⟨"com/example/tilescript/tilescript/PoolCell", "isOnBoard", "()Z"⟩ : MethodName)) hown (mvT hZ (hw _ (List.mem_of_getElem? (i := 29) rfl))) (mvT hZ (hw _ (List.mem_of_getElem? (i := 30) rfl))) (notFace_of_selects (args := #[]) (mvT hZ (hw _ (List.mem_of_getElem? (i := 32) rfl)))) (mvT hZ (hw _ (List.mem_of_getElem? (i := 32) rfl))) (mvT hZ (hw _ (List.mem_of_getElem? (i := 31) rfl))) (by decide) (backOf (W := 0) (rm7 l Z a0 hw [] b43 v28 v42 T44.heap n0 (Nat.le_trans Z0 K_44.1) pq44_0 pq44_1) hZ (hw _ (List.mem_of_getElem? (i := 33) rfl)) (hw _ (List.mem_of_getElem? (i := 2) rfl)) (by decide) (by decide)) qq53a qq53c (g := (mkF m 70 #[.val (.int p0), .val (.int p1), .val (.int p2), .val (.int v28), .val (.int v42), .val (.ref b43), .val (.int (1 : Int32))] [(.ref b43)])) rfl (by rw [hml]; rfl) (Steps.refl _) (argsL := []) (rest := []) (lenOf pd_4 rfl) rfl (by show 2 * 0 + _ ≤ _; exact Nat.le_of_eq rfl) (hb hby at_70) (fun _ _ => ⟨rfl, eq49, (by decide : 1 + 0 ≤ _), (by decide : 2 + 0 ≤ _)⟩)
          dsimp only [Pt.U, Pt.locs, Pt.cells, Pt.slots] at X53 l53 y53 z53 st53 hQ53
          subst l53 y53 z53
          obtain ⟨rfl, N53q, eq53⟩ := hQ53
          have N53 := Fr.app N49 N53q
          refine own_step (T' := T53) (g' := (mkF m 73 #[.val (.int p0), .val (.int p1), .val (.int p2), .val (.int v28), .val (.int v42), .val (.ref b43), .val (.int (1 : Int32))] [(.int (fn7 v28 v42))])) (fun t k => st53.trans k) ?_
          refine own_step (T' := T53) (g' := (mkF m 75 #[.val (.int p0), .val (.int p1), .val (.int p2), .val (.int v28), .val (.int v42), .val (.ref b43), .val (.int (1 : Int32))] [(.int (1 : Int32)), (.int (fn7 v28 v42))])) (fun t k => XS.iload X53.here hx rfl (hb hby at_73) rfl k) ?_
          refine own_step (T' := T53) (g' := (mkF m 78 #[.val (.int p0), .val (.int p1), .val (.int p2), .val (.int v28), .val (.int v42), .val (.ref b43), .val (.int (1 : Int32))] [])) (fun t k => XS.icmpNo X53.here hx rfl (hb hby at_75) rfl (teq (own_A hc49_46 hc58_50)).2 k) ?_
          refine own_step (T' := T53) (g' := (mkF m 79 #[.val (.int p0), .val (.int p1), .val (.int p2), .val (.int v28), .val (.int v42), .val (.ref b43), .val (.int (1 : Int32))] [(.int (1 : Int32))])) (fun t k => XS.iconst X53.here hx rfl (hb hby at_78) k) ?_
          refine own_step (T' := T53) (g' := (mkF m 83 #[.val (.int p0), .val (.int p1), .val (.int p2), .val (.int v28), .val (.int v42), .val (.ref b43), .val (.int (1 : Int32))] [(.int (1 : Int32))])) (fun t k => XS.goto X53.here hx rfl (pc0 := 79) (pc' := 83) rfl (hb hby at_79) (by decide) (by decide) k) ?_
          refine own_retN X53 hx hlk (t := .boolean) (w := (1 : Int32)) Bd.returns (by simp) (hb hby at_83) rfl (by decide) (by decide) ?_
          exact ⟨rfl, N53⟩
set_option maxRecDepth 65536 in
set_option maxHeartbeats 40000000 in
theorem comes_1 {Post : Tables → Env → Array Value → State → Outcome → State → Prop} (hpost : ∀ tb e args s v u, (limb_1_1.after args s (.returned v) u = true ∧ limb_1_2.after args s (.returned v) u = true ∧ True) → FrameEnd s (.returned v) u (Jvm.fieldLocs frame_1_writes args s ++ Jvm.arrayLocs frame_1_arrays args s ++ Jvm.staticLocs frame_1_statics s) 16 128 → Post tb e args s (.returned v) u) :
    ArmFor flags0 classFile x code maxLocals ret World_1 tables_1 room_1 Calls_1 rest_1 Pre_1 Post := by
  intro l hfl _ _ p e ha hc hk s m args below hf hA hF happ hP
  obtain ⟨hcalls, hrest, hpre⟩ := hP
  obtain ⟨-, -, -, hnamed, -, -, -, hat⟩ := (Spec.applies_iff hf).mp happ
  obtain ⟨hg, hn⟩ := and_e (Cond.before_iff.mp (show (Jvm.Cond.and given_1 narrow_1).before args s = true from hpre))
  obtain ⟨g0, r0⟩ := and_e hg
  obtain ⟨g1, r1⟩ := and_e r0
  obtain ⟨g2, r2⟩ := and_e r1
  obtain ⟨w0, w1, w2, rfl⟩ : ∃ w0 w1 w2 : Value, args = #[w0, w1, w2] := by
    have hs : args.size = 3 := by simpa [Cond.value, given_1] using g0
    obtain ⟨L⟩ := args
    match L, hs with
    | [w0, w1, w2], _ => exact ⟨w0, w1, w2, rfl⟩
  have hw := fun d (hd : d ∈ tables_1) => atoms_spec (ws := Jvm.Cond.code x code maxLocals ret :: tables_1) hat d (List.mem_cons_of_mem _ hd)
  have hfit : Fit s := fun {y c} hc i hi => by
    obtain ⟨ha, rfl⟩ := Array.getElem?_eq_some_iff.mp hc
    have q := List.all_eq_true.mp ((Array.all_eq_true_iff_forall_mem.mp hF) _ (Array.getElem_mem ha)) i (List.mem_range.mpr hi)
    simpa [Array.getElem?_eq_getElem hi] using q
  obtain ⟨i0, ei0⟩ := is_v g1
  obtain rfl : w0 = (.int i0) := Option.some.inj ei0
  obtain ⟨i1, ei1⟩ := is_v g2
  obtain rfl : w1 = (.int i1) := Option.some.inj ei1
  obtain ⟨i2, ei2⟩ := is_v r2
  obtain rfl : w2 = (.int i2) := Option.some.inj ei2
  obtain ⟨n, o, h1, h2, h3, _, L, rfl, ⟨rfl, N⟩, hq⟩ := rm0 l s _ hw tables_1 i0 i1 i2  s.heap s.heap.size (Nat.le_refl _)  p e ha hc hk s m _ below hf ((Spec.applies_iff_loose hf).mp happ).1 ⟨rfl, State.Warmed39.refl s, rfl⟩ trivial
  refine ⟨n, _, h1, h2, h3, hpost _ _ _ _ _ _ ⟨Cond.after_iff.mpr rfl, Cond.after_iff.mpr (eq_i res_at (Term.int_eval (1)) rfl), trivial⟩ ⟨hq.1, hq.2.1, (hq.2.2.sift fun y hy => Or.inr (N y hy)).mono (by decide) (by decide)⟩⟩
theorem main_1_1 : Claimed_1_1 := comes_1 fun _ _ _ _ _ _ h hF => ⟨h.1, hF⟩
theorem main_1_2 : Claimed_1_2 := comes_1 fun _ _ _ _ _ _ h hF => ⟨h.2.1, hF⟩
end Jvm.Pilot.@@N@@
namespace Jvm.Pilot.@@N@@
open Jvm Jvm.ClassFile Sem Op Lib Jvm.Free Jvm.Stand Jvm.Pilot.@@N@@.Jvm.D
/-! MADE BY PROGRAM (witnessworld.py) out of the Statement's table words and the real class files: 11 classes; the members and pool entries that the words name. The judged class is class 1, her method 2. -/
namespace start1
open Jvm.ClassFile
def u (s : String) : CpInfo := .utf8 (stringToUtf16 s)
/-- a pool by its gaps: so many unusable entries, then the entry; so many at the end -/
def gap : Nat → List CpInfo → List CpInfo
  | 0, r => r
  | n + 1, r => .unusable :: gap n r
def poolList (es : List (Nat × CpInfo)) (last : Nat) : List CpInfo := es.foldr (fun e r => gap e.1 (e.2 :: r)) (gap last [])
def pool (es : List (Nat × CpInfo)) (last : Nat) : Array CpInfo := ⟨poolList es last⟩
def fileOf (pool : Array CpInfo) (this : Nat) (attrs : Array Attribute := #[]) (ms : Array MethodInfo := #[]) (fl : Nat := 33) (sup : Nat := 0) (ifs : Array Nat := #[]) (fds : Array FieldInfo := #[]) : ClassFile where
  minorVersion := 0
  majorVersion := 65
  constantPool := pool
  accessFlags := fl
  thisClass := this
  superClass := sup
  interfaces := ifs
  fields := fds
  methods := ms
  attributes := attrs
def plain (name : String) (sup : Option ClassId) : Class where
  name := name
  kind := .ordinary
  loader := none
  accessFlags := 33
  super := sup
  interfaces := #[]
  cf := none
  fields := #[]
  methods := #[]
  instanceTypes := #[]
  staticTypes := #[]
  resolved := #[]
  callSites := []
  init := .initialized
  statics := none
  mirror := none

def pool0 : Array CpInfo := pool [(5, u "<init>"), (0, u "()V"), (1, .class_ 10), (1, u "java/lang/Object")] 113

def k0c0 : Code := { maxStack := 0, maxLocals := 1, code := object_method_1_code, exceptionTable := #[], attributes := #[] }
def k0m0 : Method := { name := "<init>", desc := "()V", sig := { parameters := [], returnType := none }, accessFlags := 1, code := some k0c0 }
/-- java/lang/Object -/
def k0 : Class := { plain "java/lang/Object" none with
  accessFlags := 33
  interfaces := #[]
  cf := some (fileOf pool0 8 #[] #[{ accessFlags := 1, nameIndex := 5, descriptorIndex := 6, attributes := #[] }] 33 0 #[] #[])
  fields := #[]
  methods := #[k0m0]
  instanceTypes := #[]
  staticTypes := #[]
  resolved := Array.replicate 124 none
  statics := none }

def pool1 : Array CpInfo := pool [(2, .class_ 4), (1, u "java/lang/Object"), (0, u "<init>"), (0, u "()V"), (0, .methodref 8 9), (0, .class_ 10), (0, .nameAndType 11 12), (0, u "java/lang/Math"), (0, u "max"), (0, u "(II)I"), (0, .methodref 8 14), (0, .nameAndType 15 12), (0, u "min"), (0, .class_ 17), (0, u "com/example/tilescript/tilescript/PoolCell"), (0, .methodref 16 19), (0, .nameAndType 5 20), (0, u "(II)V"), (0, .methodref 22 23), (0, .class_ 24), (0, .nameAndType 25 26), (0, u "com/example/tilescript/tilescript/PoolCellIsOnBoardPinLaw"), (0, u "clampsToItself"), (0, u "(II)Z"), (0, .methodref 16 28), (0, .nameAndType 29 30), (0, u "isOnBoard"), (0, u "()Z"), (3, u "law"), (0, u "(III)Z")] 2

def k1m0 : Method := { name := "<init>", desc := "()V", sig := { parameters := [], returnType := none }, accessFlags := 2, code := none }
def k1c1 : Code := { maxStack := 3, maxLocals := 2, code := method_2_code, exceptionTable := #[], attributes := #[] }
def k1m1 : Method := { name := "clampsToItself", desc := "(II)Z", sig := { parameters := [.int, .int], returnType := some .boolean }, accessFlags := 10, code := some k1c1 }
def k1c2 : Code := { maxStack := 4, maxLocals := 7, code := code, exceptionTable := #[], attributes := #[] }
def k1m2 : Method := { name := "law", desc := "(III)Z", sig := { parameters := [.int, .int, .int], returnType := some .boolean }, accessFlags := 9, code := some k1c2 }
/-- com/example/tilescript/tilescript/PoolCellIsOnBoardPinLaw -/
def k1 : Class := { plain "com/example/tilescript/tilescript/PoolCellIsOnBoardPinLaw" (some 0) with
  accessFlags := 49
  interfaces := #[]
  cf := some (fileOf pool1 22 #[] #[{ accessFlags := 2, nameIndex := 5, descriptorIndex := 6, attributes := #[] }, { accessFlags := 10, nameIndex := 25, descriptorIndex := 26, attributes := #[] }, { accessFlags := 9, nameIndex := 34, descriptorIndex := 35, attributes := #[] }] 49 2 #[] #[])
  fields := #[]
  methods := #[k1m0, k1m1, k1m2]
  instanceTypes := #[]
  staticTypes := #[]
  resolved := Array.replicate 38 none
  statics := none }

def pool2 : Array CpInfo := pool [(1, .methodref 2 3), (0, .class_ 4), (0, .nameAndType 5 6), (0, u "java/lang/Object"), (0, u "<init>"), (0, u "()V"), (0, .class_ 8), (0, u "java/lang/Record")] 13

def k2c0 : Code := { maxStack := 1, maxLocals := 1, code := jdk_30_method_1_code, exceptionTable := #[], attributes := #[] }
def k2m0 : Method := { name := "<init>", desc := "()V", sig := { parameters := [], returnType := none }, accessFlags := 4, code := some k2c0 }
/-- java/lang/Record -/
def k2 : Class := { plain "java/lang/Record" (some 0) with
  accessFlags := 1057
  interfaces := #[]
  cf := some (fileOf pool2 7 #[] #[{ accessFlags := 4, nameIndex := 5, descriptorIndex := 6, attributes := #[] }] 1057 2 #[] #[])
  fields := #[]
  methods := #[k2m0]
  instanceTypes := #[]
  staticTypes := #[]
  resolved := Array.replicate 22 none
  statics := none }

def pool3 : Array CpInfo := pool [(1, .class_ 2), (0, u "com/example/tilescript/tilescript/PoolCell"), (0, .methodref 4 5), (0, .class_ 6), (0, .nameAndType 7 8), (0, u "java/lang/Record"), (0, u "<init>"), (0, u "()V"), (0, .fieldref 1 10), (0, .nameAndType 11 12), (0, u "x"), (0, u "I"), (0, .fieldref 1 14), (0, .nameAndType 15 12), (0, u "y"), (8, u "(II)V"), (2, u "LOW_COLUMN_STEPS"), (0, u "[[I"), (2, u "HIGH_COLUMN_STEPS"), (15, u "COLUMNS"), (2, u "ROWS"), (1, u "BOARD"), (0, u "Ljava/lang/String;"), (2, u "NOTATION"), (2, u "NOTATION_LENGTH"), (1, u "DIRECTIONS"), (10, u "isOnBoard"), (0, u "()Z")] 38

def k3c0 : Code := { maxStack := 2, maxLocals := 3, code := prog_14_method_1_code, exceptionTable := #[], attributes := #[] }
def k3m0 : Method := { name := "<init>", desc := "(II)V", sig := { parameters := [.int, .int], returnType := none }, accessFlags := 0, code := some k3c0 }
def k3c1 : Code := { maxStack := 2, maxLocals := 1, code := prog_14_method_4_code, exceptionTable := #[], attributes := #[] }
def k3m1 : Method := { name := "isOnBoard", desc := "()Z", sig := { parameters := [], returnType := some .boolean }, accessFlags := 0, code := some k3c1 }
/-- com/example/tilescript/tilescript/PoolCell -/
def k3 : Class := { plain "com/example/tilescript/tilescript/PoolCell" (some 2) with
  accessFlags := 48
  interfaces := #[]
  cf := some (fileOf pool3 1 #[] #[{ accessFlags := 0, nameIndex := 7, descriptorIndex := 24, attributes := #[] }, { accessFlags := 0, nameIndex := 72, descriptorIndex := 73, attributes := #[] }] 48 4 #[] #[{ accessFlags := 18, nameIndex := 11, descriptorIndex := 12, attributes := #[] }, { accessFlags := 18, nameIndex := 15, descriptorIndex := 12, attributes := #[] }, { accessFlags := 24, nameIndex := 47, descriptorIndex := 12, attributes := #[] }, { accessFlags := 24, nameIndex := 50, descriptorIndex := 12, attributes := #[] }, { accessFlags := 24, nameIndex := 52, descriptorIndex := 53, attributes := #[] }, { accessFlags := 24, nameIndex := 56, descriptorIndex := 53, attributes := #[] }, { accessFlags := 24, nameIndex := 59, descriptorIndex := 12, attributes := #[] }, { accessFlags := 24, nameIndex := 61, descriptorIndex := 12, attributes := #[] }, { accessFlags := 26, nameIndex := 27, descriptorIndex := 28, attributes := #[] }, { accessFlags := 26, nameIndex := 31, descriptorIndex := 28, attributes := #[] }])
  fields := #[{ name := "x", type := .int, accessFlags := 18, slot := 0, constantValue := 0 }, { name := "y", type := .int, accessFlags := 18, slot := 1, constantValue := 0 }, { name := "COLUMNS", type := .int, accessFlags := 24, slot := 0, constantValue := 0 }, { name := "ROWS", type := .int, accessFlags := 24, slot := 1, constantValue := 0 }, { name := "BOARD", type := (.object "java/lang/String"), accessFlags := 24, slot := 2, constantValue := 0 }, { name := "NOTATION", type := (.object "java/lang/String"), accessFlags := 24, slot := 3, constantValue := 0 }, { name := "NOTATION_LENGTH", type := .int, accessFlags := 24, slot := 4, constantValue := 0 }, { name := "DIRECTIONS", type := .int, accessFlags := 24, slot := 5, constantValue := 0 }, { name := "LOW_COLUMN_STEPS", type := (.array (.array .int)), accessFlags := 26, slot := 6, constantValue := 0 }, { name := "HIGH_COLUMN_STEPS", type := (.array (.array .int)), accessFlags := 26, slot := 7, constantValue := 0 }]
  methods := #[k3m0, k3m1]
  instanceTypes := #[.int, .int]
  staticTypes := #[.int, .int, (.object "java/lang/String"), (.object "java/lang/String"), .int, .int, (.array (.array .int)), (.array (.array .int))]
  resolved := Array.replicate 112 none
  statics := none }

def pool4 : Array CpInfo := pool [(1, .class_ 2), (0, u "java/lang/Math"), (1, .class_ 6), (1, u "java/lang/Object"), (0, u "<init>"), (0, u "()V"), (89, .class_ 100), (1, u "java/lang/Math$RandomNumberGeneratorHolder"), (71, u "negativeZeroFloatBits"), (0, u "J"), (2, u "negativeZeroDoubleBits"), (21, u "max"), (2, u "min"), (43, u "$assertionsDisabled"), (0, u "Z"), (88, u "(II)I"), (2, u "twoToTheDoubleScaleDown"), (0, u "D"), (4, u "twoToTheDoubleScaleUp"), (9, u "E"), (3, u "PI"), (2, u "TAU"), (2, u "DEGREES_TO_RADIANS"), (0, u "RADIANS_TO_DEGREES")] 94

def k4m0 : Method := { name := "<init>", desc := "()V", sig := { parameters := [], returnType := none }, accessFlags := 2, code := none }
def k4c1 : Code := { maxStack := 2, maxLocals := 2, code := jdk_29_method_65_code, exceptionTable := #[], attributes := #[] }
def k4m1 : Method := { name := "max", desc := "(II)I", sig := { parameters := [.int, .int], returnType := some .int }, accessFlags := 9, code := some k4c1 }
def k4c2 : Code := { maxStack := 2, maxLocals := 2, code := jdk_29_method_69_code, exceptionTable := #[], attributes := #[] }
def k4m2 : Method := { name := "min", desc := "(II)I", sig := { parameters := [.int, .int], returnType := some .int }, accessFlags := 9, code := some k4c2 }
/-- java/lang/Math -/
def k4 : Class := { plain "java/lang/Math" (some 0) with
  accessFlags := 49
  interfaces := #[]
  cf := some (fileOf pool4 1 #[.nestMembers #[98]] #[{ accessFlags := 2, nameIndex := 7, descriptorIndex := 8, attributes := #[] }, { accessFlags := 9, nameIndex := 198, descriptorIndex := 335, attributes := #[] }, { accessFlags := 9, nameIndex := 201, descriptorIndex := 335, attributes := #[] }] 49 4 #[] #[{ accessFlags := 25, nameIndex := 354, descriptorIndex := 339, attributes := #[] }, { accessFlags := 25, nameIndex := 358, descriptorIndex := 339, attributes := #[] }, { accessFlags := 25, nameIndex := 361, descriptorIndex := 339, attributes := #[] }, { accessFlags := 26, nameIndex := 364, descriptorIndex := 339, attributes := #[] }, { accessFlags := 26, nameIndex := 365, descriptorIndex := 339, attributes := #[] }, { accessFlags := 26, nameIndex := 172, descriptorIndex := 173, attributes := #[] }, { accessFlags := 26, nameIndex := 176, descriptorIndex := 173, attributes := #[] }, { accessFlags := 8, nameIndex := 344, descriptorIndex := 339, attributes := #[] }, { accessFlags := 8, nameIndex := 338, descriptorIndex := 339, attributes := #[] }, { accessFlags := 4120, nameIndex := 245, descriptorIndex := 246, attributes := #[] }])
  fields := #[{ name := "E", type := .double, accessFlags := 25, slot := 0, constantValue := 0 }, { name := "PI", type := .double, accessFlags := 25, slot := 1, constantValue := 0 }, { name := "TAU", type := .double, accessFlags := 25, slot := 2, constantValue := 0 }, { name := "DEGREES_TO_RADIANS", type := .double, accessFlags := 26, slot := 3, constantValue := 0 }, { name := "RADIANS_TO_DEGREES", type := .double, accessFlags := 26, slot := 4, constantValue := 0 }, { name := "negativeZeroFloatBits", type := .long, accessFlags := 26, slot := 5, constantValue := 0 }, { name := "negativeZeroDoubleBits", type := .long, accessFlags := 26, slot := 6, constantValue := 0 }, { name := "twoToTheDoubleScaleUp", type := .double, accessFlags := 8, slot := 7, constantValue := 0 }, { name := "twoToTheDoubleScaleDown", type := .double, accessFlags := 8, slot := 8, constantValue := 0 }, { name := "$assertionsDisabled", type := .boolean, accessFlags := 4120, slot := 9, constantValue := 0 }]
  methods := #[k4m0, k4m1, k4m2]
  instanceTypes := #[]
  staticTypes := #[.double, .double, .double, .double, .double, .long, .long, .double, .double, .boolean]
  resolved := Array.replicate 460 none
  statics := none }

def pool5 : Array CpInfo := pool [(1, u "java/lang/Cloneable"), (0, .class_ 1), (0, u "java/lang/Object"), (0, .class_ 3)] 3

/-- java/lang/Cloneable -/
def k5 : Class := { plain "java/lang/Cloneable" (some 0) with
  accessFlags := 1537
  interfaces := #[]
  cf := some (fileOf pool5 2 #[] #[] 1537 4 #[] #[])
  fields := #[]
  methods := #[]
  instanceTypes := #[]
  staticTypes := #[]
  resolved := Array.replicate 8 none
  statics := none }

def pool6 : Array CpInfo := pool [(1, u "java/io/Serializable"), (0, .class_ 1), (0, u "java/lang/Object"), (0, .class_ 3)] 3

/-- java/io/Serializable -/
def k6 : Class := { plain "java/io/Serializable" (some 0) with
  accessFlags := 1537
  interfaces := #[]
  cf := some (fileOf pool6 2 #[] #[] 1537 4 #[] #[])
  fields := #[]
  methods := #[]
  instanceTypes := #[]
  staticTypes := #[]
  resolved := Array.replicate 8 none
  statics := none }

/-- the primitive byte -/
def k7 : Class := { plain "byte" none with kind := .primitive 'B', accessFlags := 0x411 }
/-- [B -/
def k8 : Class := { plain "[B" (some 0) with kind := .array 7 .byte, interfaces := #[5, 6], accessFlags := 1041 }

/-- the primitive int -/
def k9 : Class := { plain "int" none with kind := .primitive 'I', accessFlags := 0x411 }
/-- [I -/
def k10 : Class := { plain "[I" (some 0) with kind := .array 9 .int, interfaces := #[5, 6], accessFlags := 1041 }

def heap : Heap := #[]
def classes : Array Class := #[k0, k1, k2, k3, k4, k5, k6, k7, k8, k9, k10]
def interned : List (Array UInt16 × Addr) := []
def slotsUsed : Nat := 0
def theMethod : MethodId := ⟨1, 2⟩
def args0 : Array Value := #[.int 5, .int 7, .int 1]
def aboutOver (below : List Frame) : State where
  vm := { classes := classes, interned := interned.toArray }
  heap := heap
  slotsUsed := slotsUsed
  threads := #[{ frames := .invoking theMethod args0 :: below }]
def below0 : List Frame := [.native { method := ⟨0, 0⟩, args := #[] }]
def about1 : State := aboutOver below0
def p0 : Program := .bare "" "" ""
def e0 : Env := launch0.env 0 0 0
theorem w_frames : about1.frames = Frame.invoking theMethod args0 :: below0 := rfl
set_option maxRecDepth 65536 in
theorem w_args : argsFit about1.vm theMethod args0 = true := by decide +kernel
set_option maxRecDepth 65536 in
theorem w_heap : heapFits about1 = true := by decide +kernel
set_option maxRecDepth 65536 in
theorem w_runnable : about1.curStatus? = some .runnable := by decide +kernel
set_option maxRecDepth 65536 in
theorem w_alone : about1.alone = true := by decide +kernel
set_option maxRecDepth 65536 in
theorem w_named : about1.methodNamed? x = some theMethod := by decide +kernel
set_option maxRecDepth 65536 in
theorem w_hears : about1.hears theMethod below0 = true := by decide +kernel
set_option maxRecDepth 65536 in
theorem w_ripe : about1.ripe theMethod args0 below0 = true := by decide +kernel
theorem w_running : about1.status = .running := rfl
set_option maxRecDepth 65536 in
theorem w_room : about1.hasRoom e0.platform room_1 = true :=
  launch0.hasRoom_least _ room_1 (by decide +kernel) (by decide +kernel) (by decide +kernel) (by decide +kernel) (by decide +kernel) (by decide +kernel)
theorem allAtoms_all (ts : List Jvm.Cond) (a : Array Jvm.Value) (st : Jvm.State) : (allAtoms ts).before a st = ts.all (fun c => c.before a st) := by
  induction ts with
  | nil => rfl
  | cons c t ih =>
    show (Jvm.Cond.and c (allAtoms t)).before a st = _
    rw [Jvm.Cond.before_and, ih, List.all_cons]
def words1 : List Jvm.Cond := Jvm.Cond.code x code maxLocals ret :: tables_1
/-- a 'code' word, met by the world's own term for the bytes: nothing is compared byte by byte -/
theorem code_word {y : MethodName} {bytes : ByteArray} {mx : Nat} {rt : Option FieldType} {a : Array Value} {s : State} {m : MethodId} {meth : Method} {c : Code} (h1 : s.methodNamed? y = some m) (h2 : s.vm.method? m = some meth) (h3 : meth.code = some c) (h4 : c.code = bytes)
    (h5 : (c.maxLocals == mx && c.exceptionTable.isEmpty && decide (c.maxStack ≤ mostOperands) && decide (meth.sig.returnType = rt) && !meth.locks && decide (parseMethodDescriptor y.desc = some meth.sig)) = true) : (Jvm.Cond.code y bytes mx rt).before a s = true := by
  simp only [Bool.and_eq_true, beq_iff_eq, Bool.not_eq_true', decide_eq_true_eq] at h5
  obtain ⟨⟨⟨⟨⟨g1, g2⟩, g3⟩, g4⟩, g5⟩, g6⟩ := h5
  simp [Cond.before, Cond.holds, Cond.value, h1, h2, h3, h4, g1, g2, g3, g4, g5, g6]
def isCode : Jvm.Cond → Bool
  | .code _ _ _ _ => true
  | _ => false
theorem all_split {L : List Jvm.Cond} {P : Jvm.Cond → Bool} (h1 : L.all (fun c => isCode c || P c) = true) (h2 : ∀ c ∈ L.filter isCode, P c = true) : L.all P = true := by
  refine List.all_eq_true.mpr fun c hc => ?_
  have h := List.all_eq_true.mp h1 c hc
  rcases Bool.eq_false_or_eq_true (isCode c) with hi | hi
  · exact h2 c (List.mem_filter.mpr ⟨hc, hi⟩)
  · simpa [hi] using h
set_option maxRecDepth 65536 in
theorem w_c0 : (Jvm.Cond.code x code maxLocals ret).before args0 about1 = true := code_word (m := ⟨1, 2⟩) (meth := k1m2) (c := k1c2) (by decide +kernel) rfl rfl rfl (by decide +kernel)
set_option maxRecDepth 65536 in
theorem w_c1 : (Jvm.Cond.code ({ cls := "com/example/tilescript/tilescript/PoolCell", name := "<init>", desc := "(II)V" } : Jvm.MethodName) prog_14_method_1_code (3 : Nat) (Option.none : Option Jvm.ClassFile.FieldType)).before args0 about1 = true := code_word (m := ⟨3, 0⟩) (meth := k3m0) (c := k3c0) (by decide +kernel) rfl rfl rfl (by decide +kernel)
set_option maxRecDepth 65536 in
theorem w_c2 : (Jvm.Cond.code ({ cls := "java/lang/Record", name := "<init>", desc := "()V" } : Jvm.MethodName) jdk_30_method_1_code (1 : Nat) (Option.none : Option Jvm.ClassFile.FieldType)).before args0 about1 = true := code_word (m := ⟨2, 0⟩) (meth := k2m0) (c := k2c0) (by decide +kernel) rfl rfl rfl (by decide +kernel)
set_option maxRecDepth 65536 in
theorem w_c3 : (Jvm.Cond.code ({ cls := "java/lang/Object", name := "<init>", desc := "()V" } : Jvm.MethodName) object_method_1_code (1 : Nat) (Option.none : Option Jvm.ClassFile.FieldType)).before args0 about1 = true := code_word (m := ⟨0, 0⟩) (meth := k0m0) (c := k0c0) (by decide +kernel) rfl rfl rfl (by decide +kernel)
set_option maxRecDepth 65536 in
theorem w_c4 : (Jvm.Cond.code ({ cls := "com/example/tilescript/tilescript/PoolCellIsOnBoardPinLaw", name := "clampsToItself", desc := "(II)Z" } : Jvm.MethodName) method_2_code (2 : Nat) (Option.some Jvm.ClassFile.FieldType.boolean)).before args0 about1 = true := code_word (m := ⟨1, 1⟩) (meth := k1m1) (c := k1c1) (by decide +kernel) rfl rfl rfl (by decide +kernel)
set_option maxRecDepth 65536 in
theorem w_c5 : (Jvm.Cond.code ({ cls := "java/lang/Math", name := "max", desc := "(II)I" } : Jvm.MethodName) jdk_29_method_65_code (2 : Nat) (Option.some Jvm.ClassFile.FieldType.int)).before args0 about1 = true := code_word (m := ⟨4, 1⟩) (meth := k4m1) (c := k4c1) (by decide +kernel) rfl rfl rfl (by decide +kernel)
set_option maxRecDepth 65536 in
theorem w_c6 : (Jvm.Cond.code ({ cls := "java/lang/Math", name := "min", desc := "(II)I" } : Jvm.MethodName) jdk_29_method_69_code (2 : Nat) (Option.some Jvm.ClassFile.FieldType.int)).before args0 about1 = true := code_word (m := ⟨4, 2⟩) (meth := k4m2) (c := k4c2) (by decide +kernel) rfl rfl rfl (by decide +kernel)
set_option maxRecDepth 65536 in
theorem w_c7 : (Jvm.Cond.code ({ cls := "com/example/tilescript/tilescript/PoolCell", name := "isOnBoard", desc := "()Z" } : Jvm.MethodName) prog_14_method_4_code (1 : Nat) (Option.some Jvm.ClassFile.FieldType.boolean)).before args0 about1 = true := code_word (m := ⟨3, 1⟩) (meth := k3m1) (c := k3c1) (by decide +kernel) rfl rfl rfl (by decide +kernel)
def codes1 : List Jvm.Cond := [Jvm.Cond.code x code maxLocals ret, Jvm.Cond.code ({ cls := "com/example/tilescript/tilescript/PoolCell", name := "<init>", desc := "(II)V" } : Jvm.MethodName) prog_14_method_1_code (3 : Nat) (Option.none : Option Jvm.ClassFile.FieldType), Jvm.Cond.code ({ cls := "java/lang/Record", name := "<init>", desc := "()V" } : Jvm.MethodName) jdk_30_method_1_code (1 : Nat) (Option.none : Option Jvm.ClassFile.FieldType), Jvm.Cond.code ({ cls := "java/lang/Object", name := "<init>", desc := "()V" } : Jvm.MethodName) object_method_1_code (1 : Nat) (Option.none : Option Jvm.ClassFile.FieldType), Jvm.Cond.code ({ cls := "com/example/tilescript/tilescript/PoolCellIsOnBoardPinLaw", name := "clampsToItself", desc := "(II)Z" } : Jvm.MethodName) method_2_code (2 : Nat) (Option.some Jvm.ClassFile.FieldType.boolean), Jvm.Cond.code ({ cls := "java/lang/Math", name := "max", desc := "(II)I" } : Jvm.MethodName) jdk_29_method_65_code (2 : Nat) (Option.some Jvm.ClassFile.FieldType.int), Jvm.Cond.code ({ cls := "java/lang/Math", name := "min", desc := "(II)I" } : Jvm.MethodName) jdk_29_method_69_code (2 : Nat) (Option.some Jvm.ClassFile.FieldType.int), Jvm.Cond.code ({ cls := "com/example/tilescript/tilescript/PoolCell", name := "isOnBoard", desc := "()Z" } : Jvm.MethodName) prog_14_method_4_code (1 : Nat) (Option.some Jvm.ClassFile.FieldType.boolean)]
set_option maxRecDepth 65536 in
theorem codes_eq : words1.filter isCode = codes1 := rfl
theorem w_codes : ∀ c ∈ words1.filter isCode, c.before args0 about1 = true := by
  rw [codes_eq]
  intro c hc
  simp only [codes1, List.mem_cons, List.not_mem_nil, or_false] at hc
  rcases hc with rfl | rfl | rfl | rfl | rfl | rfl | rfl | rfl
  · exact w_c0
  · exact w_c1
  · exact w_c2
  · exact w_c3
  · exact w_c4
  · exact w_c5
  · exact w_c6
  · exact w_c7
set_option maxRecDepth 65536 in
theorem w_t1 : (words1.take 24).all (fun c => isCode c || c.before args0 about1) = true := by decide +kernel
set_option maxRecDepth 65536 in
theorem w_t2 : (words1.drop 24).all (fun c => isCode c || c.before args0 about1) = true := by decide +kernel
theorem w_tables : (allAtoms (Jvm.Cond.code x code maxLocals ret :: tables_1)).before args0 about1 = true := by
  rw [allAtoms_all]
  show words1.all (fun c => c.before args0 about1) = true
  refine all_split ?_ w_codes
  rw [← List.take_append_drop 24 words1, List.all_append, w_t1, w_t2]
  rfl
set_option maxRecDepth 65536 in
theorem w_case : (Jvm.Cond.and given_1 narrow_1).before args0 about1 = true := by decide +kernel
theorem w_applies : (headSpec (Jvm.Cond.code x code maxLocals ret :: tables_1) room_1).applies x e0.platform about1 = true :=
  (Spec.applies_iff w_frames).mpr ⟨w_running, w_runnable, w_alone, w_named, w_hears, w_ripe, w_room, w_tables⟩
theorem atStart : AtStart classFile x code maxLocals ret World_1 tables_1 room_1 Calls_1 rest_1 Pre_1 launch0 p0 e0 about1 theMethod args0 below0 :=
  ⟨lists_1, trivial, launch0.admits_env _ _ _, launch0.least_env, fairChoices_fair.cas, fairChoices_fair.clock, w_frames, w_args, w_heap, w_applies, trivial, trivial, w_case⟩
end start1
theorem witness_1 : WitnessClaimed_1 := ⟨start1.p0, start1.e0, start1.about1, start1.theMethod, start1.args0, start1.below0, start1.atStart⟩
end Jvm.Pilot.@@N@@
