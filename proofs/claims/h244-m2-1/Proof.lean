import JvmDerived
import JvmDerived.Pilot.@@N@@Statement
import JvmDerived.Pilot.@@N@@Code
set_option linter.unusedVariables false
set_option linter.unusedSimpArgs false
@@BLOCK:NumsL.lean.txt@@
namespace Jvm.Pilot.@@N@@
open Jvm Jvm.ClassFile Sem Op Lib Jvm.Free Jvm.Stand Jvm.LawKit Jvm.RoadKit Bundle Jvm.Pilot.@@N@@.Jvm.D

section OwnKit
variable {p : Program} {l : Launch} {e : Env} {R : Room} {s : State} {m : MethodId} {args : Array Value} {below : List Frame} {meth : Method} {c : Code} {T T' : State} {locs : List Loc} {cells slots : Nat} {Z : State} {h h' : Heap}
/-- from the state T with the frame g on top the run ends well -/
def own_G (p : Program) (e : Env) (below : List Frame) (s : State) (kc ks : Nat) (Q : Option Value → Heap → List Loc → Prop) (T : State) (g : JFrame) : Prop :=
  ∃ (U : State) (o : Outcome), Steps p.tables e below (T.setTop g) U ∧ U.status = .running ∧ Ended U below o ∧ ∃ v L, o = .returned v ∧ Q v U.heap L ∧ FrameEnd s o U L kc ks
variable {kc ks : Nat} {Q : Option Value → Heap → List Loc → Prop}
theorem own_step {g g' : JFrame} (k : ∀ t, Steps p.tables e below (T'.setTop g') t → Steps p.tables e below (T.setTop g) t) (hh : own_G p e below s kc ks Q T' g') : own_G p e below s kc ks Q T g := by
  obtain ⟨U, o, h1, h2⟩ := hh
  exact ⟨U, o, k _ h1, h2⟩
theorem own_retN (X : Stand p l e R s m args below meth c T locs cells slots) (hx : p.tables.exec = Jvm.exec) (hlk : meth.locks = false) {pc : Nat} {Ls : Array Slot} {z w : Int32} {t : FieldType} {rest : List Value} (hret : meth.sig.returnType = some t) (ht : t = .boolean ∨ t = .byte ∨ t = .char ∨ t = .short) (hd : decode c.code pc = .ok (.ireturn, 1)) (hw : nar t z = w) (hc : cells ≤ kc) (hs : slots ≤ ks) (hQ : Q (some (.int w)) T.heap locs) :
    own_G p e below s kc ks Q T (mkF m pc Ls (.int z :: rest)) := by
  subst hw
  obtain ⟨fs, hr, hrun, hended, hW, hsame⟩ := X.leave (v := some (.int (nar t z))) (fun q => by rw [hret] at q; cases q) hlk
  exact ⟨_, _, retN X hx hret ht hd hr, hrun, hended, _, _, rfl, hQ, ⟨_, rfl⟩, hW, hsame.mono hc hs⟩
theorem own_retI (X : Stand p l e R s m args below meth c T locs cells slots) (hx : p.tables.exec = Jvm.exec) (hlk : meth.locks = false) {pc : Nat} {Ls : Array Slot} {z : Int32} {rest : List Value} (hret : meth.sig.returnType = some .int) (hd : decode c.code pc = .ok (.ireturn, 1)) (hc : cells ≤ kc) (hs : slots ≤ ks) (hQ : Q (some (.int z)) T.heap locs) :
    own_G p e below s kc ks Q T (mkF m pc Ls (.int z :: rest)) := by
  obtain ⟨fs, hr, hrun, hended, hW, hsame⟩ := X.leave (v := some (.int z)) (fun q => by rw [hret] at q; cases q) hlk
  exact ⟨_, _, retOut X hx hret rfl (Or.inl ⟨rfl, Or.inl rfl, z, rfl⟩) hd hr, hrun, hended, _, _, rfl, hQ, ⟨_, rfl⟩, hW, hsame.mono hc hs⟩
theorem own_retJ (X : Stand p l e R s m args below meth c T locs cells slots) (hx : p.tables.exec = Jvm.exec) (hlk : meth.locks = false) {pc : Nat} {Ls : Array Slot} {z : Int64} {rest : List Value} (hret : meth.sig.returnType = some .long) (hd : decode c.code pc = .ok (.lreturn, 1)) (hc : cells ≤ kc) (hs : slots ≤ ks) (hQ : Q (some (.long z)) T.heap locs) :
    own_G p e below s kc ks Q T (mkF m pc Ls (.long z :: rest)) := by
  obtain ⟨fs, hr, hrun, hended, hW, hsame⟩ := X.leave (v := some (.long z)) (fun q => by rw [hret] at q; cases q) hlk
  exact ⟨_, _, retOut X hx hret rfl (Or.inr (Or.inl ⟨rfl, rfl, z, rfl⟩)) hd hr, hrun, hended, _, _, rfl, hQ, ⟨_, rfl⟩, hW, hsame.mono hc hs⟩
theorem own_retR (X : Stand p l e R s m args below meth c T locs cells slots) (hx : p.tables.exec = Jvm.exec) (hlk : meth.locks = false) {pc : Nat} {Ls : Array Slot} {w : Value} {t : FieldType} {rest : List Value} (hret : meth.sig.returnType = some t) (ht : t.isReference = true) (hw : w.isRef = true) (hd : decode c.code pc = .ok (.areturn, 1)) (hc : cells ≤ kc) (hs : slots ≤ ks) (hQ : Q (some w) T.heap locs) :
    own_G p e below s kc ks Q T (mkF m pc Ls (w :: rest)) := by
  obtain ⟨fs, hr, hrun, hended, hW, hsame⟩ := X.leave (v := some w) (fun q => by rw [hret] at q; cases q) hlk
  have hn : narrow t w = w := by cases w <;> cases t <;> first | rfl | (cases hw; done) | (cases ht; done)
  exact ⟨_, _, retOut X hx hret hn (Or.inr (Or.inr (Or.inr (Or.inr ⟨rfl, ht, hw⟩)))) hd hr, hrun, hended, _, _, rfl, hQ, ⟨_, rfl⟩, hW, hsame.mono hc hs⟩
theorem own_retV (X : Stand p l e R s m args below meth c T locs cells slots) (hx : p.tables.exec = Jvm.exec) (hlk : meth.locks = false) {pc : Nat} {Ls : Array Slot} (hret : meth.sig.returnType = none) (hd : decode c.code pc = .ok (.return_, 1)) (hc : cells ≤ kc) (hs : slots ≤ ks) (hQ : Q none T.heap locs) :
    own_G p e below s kc ks Q T (mkF m pc Ls []) := by
  obtain ⟨fs, hr, hrun, hended, hW, hsame⟩ := X.leave (v := none) (fun _ => rfl) hlk
  exact ⟨_, _, X.returnOut hx hret hd hr, hrun, hended, _, _, rfl, hQ, ⟨_, rfl⟩, hW, hsame.mono hc hs⟩
theorem own_lksw (X : Stand p l e R s m args below meth c T locs cells slots) (hx : p.tables.exec = Jvm.exec) {g : JFrame} (hg : g.method = m) {d : Int} {prs : Array (Int × Int)} {len : Nat} (hd : decode c.code g.pc = .ok (.lookupswitch d prs, len)) {x : Int32} {rest : List Value} (hs : g.stack = .int x :: rest) (hp : (prs.toList.zip (prs.toList.drop 1)).all (fun (a, next) => a.1 < next.1) = true)
    {o : Int} (ho : lookupswitch.offset prs.toList d x.toInt = o) {pc0 pc' : Nat} (hpc : g.pc = pc0) (h0 : 0 ≤ (pc0 : Int) + o) (hq : ((pc0 : Int) + o).toNat = pc') {target : State}
    (k : Steps p.tables e below (T.setTop { g with pc := pc', stack := rest }) target) : Steps p.tables e below (T.setTop g) target := by
  subst hg hpc hq ho
  jvm_step X.here [X.here.top, hx, hd, hs, lookupswitch.wp_chain, hp, h0]
  exact ⟨by simpa using hp, k⟩
theorem own_sta_keep {C n d : String} {v : Value} {ws : List Addr} (F : Sta Z h C n d v) (K : Keep h h' ws) (q : ∀ a ∈ ws, ∀ cell : Cell, h[a]? = some cell → cell.vm.isStatics = false) : Sta Z h' C n d v := by
  obtain ⟨cf, i, k, f, st, cell, h1, h2, h3, h4, h5, h6, h7⟩ := F
  exact ⟨cf, i, k, f, st, cell, h1, h2, h3, h4, K.2.1 st cell h5 (fun hm => by rw [q st hm cell h5] at h6; cases h6), h6, h7⟩
end OwnKit
theorem pd_0 : parseMethodDescriptor "()V" = some ⟨[], none⟩ := by decide +kernel
theorem pd_1 : parseMethodDescriptor "(Lcom/example/tilescript/tilescript/TicTacToe;[CII)I" = some ⟨[(.object "com/example/tilescript/tilescript/TicTacToe"), (.array .char), .int, .int], some .int⟩ := by decide +kernel
theorem pd_2 : parseMethodDescriptor "(I)V" = some ⟨[.int], none⟩ := by decide +kernel
theorem pd_3 : parseMethodDescriptor "(I)Z" = some ⟨[.int], some .boolean⟩ := by decide +kernel
theorem pd_4 : parseMethodDescriptor "()Z" = some ⟨[], some .boolean⟩ := by decide +kernel
theorem pd_5 : parseMethodDescriptor "()C" = some ⟨[], some .char⟩ := by decide +kernel
theorem pd_6 : parseMethodDescriptor "(I)C" = some ⟨[.int], some .char⟩ := by decide +kernel
theorem pd_7 : parseMethodDescriptor "([CI)C" = some ⟨[(.array .char), .int], some .char⟩ := by decide +kernel
theorem pn_0 : plainName "com/example/tilescript/tilescript/TicTacToeAtPinLaw" = true := by first | (simp [plainName, overriddenIn]; done) | decide +kernel
theorem d1_0 : decode prog_19_method_1_code 0 = .ok (.aload_n 0, 1) := by decide +kernel
theorem d1_1 : decode prog_19_method_1_code 1 = .ok (.invokespecial 1, 3) := by decide +kernel
theorem d1_4 : decode prog_19_method_1_code 4 = .ok (.aload_n 0, 1) := by decide +kernel
theorem d1_5 : decode prog_19_method_1_code 5 = .ok (.iconst (-1), 1) := by decide +kernel
theorem d1_6 : decode prog_19_method_1_code 6 = .ok (.putfield 7, 3) := by decide +kernel
theorem d1_9 : decode prog_19_method_1_code 9 = .ok (.aload_n 0, 1) := by decide +kernel
theorem d1_10 : decode prog_19_method_1_code 10 = .ok (.bipush 45, 2) := by decide +kernel
theorem d1_12 : decode prog_19_method_1_code 12 = .ok (.putfield 13, 3) := by decide +kernel
theorem d1_15 : decode prog_19_method_1_code 15 = .ok (.return_, 1) := by decide +kernel
theorem pn_1 : plainName "com/example/tilescript/tilescript/TicTacToe" = true := by first | (simp [plainName, overriddenIn]; done) | decide +kernel
theorem d3_0 : decode method_2_code 0 = .ok (.iload_n 2, 1) := by decide +kernel
theorem d3_1 : decode method_2_code 1 = .ok (.ldc 7, 2) := by decide +kernel
theorem d3_3 : decode method_2_code 3 = .ok (.iand, 1) := by decide +kernel
theorem d3_4 : decode method_2_code 4 = .ok (.bipush 10, 2) := by decide +kernel
theorem d3_6 : decode method_2_code 6 = .ok (.irem, 1) := by decide +kernel
theorem d3_7 : decode method_2_code 7 = .ok (.istore 4, 2) := by decide +kernel
theorem d3_9 : decode method_2_code 9 = .ok (.iload 4, 2) := by decide +kernel
theorem d3_11 : decode method_2_code 11 = .ok (.bipush 9, 2) := by decide +kernel
theorem d3_13 : decode method_2_code 13 = .ok (.if_icmp .ge 37, 3) := by decide +kernel
theorem d3_16 : decode method_2_code 16 = .ok (.aload_n 1, 1) := by decide +kernel
theorem d3_17 : decode method_2_code 17 = .ok (.iload 4, 2) := by decide +kernel
theorem d3_19 : decode method_2_code 19 = .ok (.caload, 1) := by decide +kernel
theorem d3_20 : decode method_2_code 20 = .ok (.ifCond .ne 30, 3) := by decide +kernel
theorem d3_23 : decode method_2_code 23 = .ok (.aload_n 0, 1) := by decide +kernel
theorem d3_24 : decode method_2_code 24 = .ok (.iload 4, 2) := by decide +kernel
theorem d3_26 : decode method_2_code 26 = .ok (.invokevirtual 8, 3) := by decide +kernel
theorem d3_29 : decode method_2_code 29 = .ok (.aload_n 1, 1) := by decide +kernel
theorem d3_30 : decode method_2_code 30 = .ok (.iload 4, 2) := by decide +kernel
theorem d3_32 : decode method_2_code 32 = .ok (.iload_n 3, 1) := by decide +kernel
theorem d3_33 : decode method_2_code 33 = .ok (.iconst 2, 1) := by decide +kernel
theorem d3_34 : decode method_2_code 34 = .ok (.irem, 1) := by decide +kernel
theorem d3_35 : decode method_2_code 35 = .ok (.ifCond .ne 8, 3) := by decide +kernel
theorem d3_38 : decode method_2_code 38 = .ok (.bipush 88, 2) := by decide +kernel
theorem d3_40 : decode method_2_code 40 = .ok (.goto 5, 3) := by decide +kernel
theorem d3_43 : decode method_2_code 43 = .ok (.bipush 79, 2) := by decide +kernel
theorem d3_45 : decode method_2_code 45 = .ok (.castore, 1) := by decide +kernel
theorem d3_46 : decode method_2_code 46 = .ok (.iload_n 3, 1) := by decide +kernel
theorem d3_47 : decode method_2_code 47 = .ok (.iconst 1, 1) := by decide +kernel
theorem d3_48 : decode method_2_code 48 = .ok (.iadd, 1) := by decide +kernel
theorem d3_49 : decode method_2_code 49 = .ok (.ireturn, 1) := by decide +kernel
theorem d3_50 : decode method_2_code 50 = .ok (.iload_n 3, 1) := by decide +kernel
theorem d3_51 : decode method_2_code 51 = .ok (.ireturn, 1) := by decide +kernel
theorem pn_3 : plainName "com/example/tilescript/tilescript/TicTacToeAtPinLaw" = true := by first | (simp [plainName, overriddenIn]; done) | decide +kernel
theorem d4_0 : decode prog_19_method_8_code 0 = .ok (.aload_n 0, 1) := by decide +kernel
theorem d4_1 : decode prog_19_method_8_code 1 = .ok (.iload_n 1, 1) := by decide +kernel
theorem d4_2 : decode prog_19_method_8_code 2 = .ok (.invokevirtual 30, 3) := by decide +kernel
theorem d4_5 : decode prog_19_method_8_code 5 = .ok (.ifCond .ne 21, 3) := by decide +kernel
theorem d4_8 : decode prog_19_method_8_code 8 = .ok (.new 34, 3) := by decide +kernel
theorem d4_11 : decode prog_19_method_8_code 11 = .ok (.dup, 1) := by decide +kernel
theorem d4_12 : decode prog_19_method_8_code 12 = .ok (.iload_n 1, 1) := by decide +kernel
theorem d4_13 : decode prog_19_method_8_code 13 = .ok (.aload_n 0, 1) := by decide +kernel
theorem d4_14 : decode prog_19_method_8_code 14 = .ok (.invokestatic 36, 3) := by decide +kernel
theorem d4_22 : decode prog_19_method_8_code 22 = .ok (.invokespecial 46, 3) := by decide +kernel
theorem d4_25 : decode prog_19_method_8_code 25 = .ok (.athrow, 1) := by decide +kernel
theorem d4_26 : decode prog_19_method_8_code 26 = .ok (.aload_n 0, 1) := by decide +kernel
theorem d4_27 : decode prog_19_method_8_code 27 = .ok (.invokevirtual 49, 3) := by decide +kernel
theorem d4_30 : decode prog_19_method_8_code 30 = .ok (.istore_n 2, 1) := by decide +kernel
theorem d4_31 : decode prog_19_method_8_code 31 = .ok (.iload_n 2, 1) := by decide +kernel
theorem d4_32 : decode prog_19_method_8_code 32 = .ok (.bipush 88, 2) := by decide +kernel
theorem d4_34 : decode prog_19_method_8_code 34 = .ok (.if_icmp .ne 23, 3) := by decide +kernel
theorem d4_37 : decode prog_19_method_8_code 37 = .ok (.aload_n 0, 1) := by decide +kernel
theorem d4_38 : decode prog_19_method_8_code 38 = .ok (.dup, 1) := by decide +kernel
theorem d4_39 : decode prog_19_method_8_code 39 = .ok (.getfield 20, 3) := by decide +kernel
theorem d4_42 : decode prog_19_method_8_code 42 = .ok (.iconst 1, 1) := by decide +kernel
theorem d4_43 : decode prog_19_method_8_code 43 = .ok (.iload_n 1, 1) := by decide +kernel
theorem d4_44 : decode prog_19_method_8_code 44 = .ok (.ishl, 1) := by decide +kernel
theorem d4_45 : decode prog_19_method_8_code 45 = .ok (.ior, 1) := by decide +kernel
theorem d4_46 : decode prog_19_method_8_code 46 = .ok (.putfield 20, 3) := by decide +kernel
theorem d4_49 : decode prog_19_method_8_code 49 = .ok (.aload_n 0, 1) := by decide +kernel
theorem d4_50 : decode prog_19_method_8_code 50 = .ok (.getfield 20, 3) := by decide +kernel
theorem d4_53 : decode prog_19_method_8_code 53 = .ok (.istore_n 3, 1) := by decide +kernel
theorem d4_54 : decode prog_19_method_8_code 54 = .ok (.goto 20, 3) := by decide +kernel
theorem d4_57 : decode prog_19_method_8_code 57 = .ok (.aload_n 0, 1) := by decide +kernel
theorem d4_58 : decode prog_19_method_8_code 58 = .ok (.dup, 1) := by decide +kernel
theorem d4_59 : decode prog_19_method_8_code 59 = .ok (.getfield 23, 3) := by decide +kernel
theorem d4_62 : decode prog_19_method_8_code 62 = .ok (.iconst 1, 1) := by decide +kernel
theorem d4_63 : decode prog_19_method_8_code 63 = .ok (.iload_n 1, 1) := by decide +kernel
theorem d4_64 : decode prog_19_method_8_code 64 = .ok (.ishl, 1) := by decide +kernel
theorem d4_65 : decode prog_19_method_8_code 65 = .ok (.ior, 1) := by decide +kernel
theorem d4_66 : decode prog_19_method_8_code 66 = .ok (.putfield 23, 3) := by decide +kernel
theorem d4_69 : decode prog_19_method_8_code 69 = .ok (.aload_n 0, 1) := by decide +kernel
theorem d4_70 : decode prog_19_method_8_code 70 = .ok (.getfield 23, 3) := by decide +kernel
theorem d4_73 : decode prog_19_method_8_code 73 = .ok (.istore_n 3, 1) := by decide +kernel
theorem d4_74 : decode prog_19_method_8_code 74 = .ok (.aload_n 0, 1) := by decide +kernel
theorem d4_75 : decode prog_19_method_8_code 75 = .ok (.dup, 1) := by decide +kernel
theorem d4_76 : decode prog_19_method_8_code 76 = .ok (.getfield 17, 3) := by decide +kernel
theorem d4_79 : decode prog_19_method_8_code 79 = .ok (.iconst 1, 1) := by decide +kernel
theorem d4_80 : decode prog_19_method_8_code 80 = .ok (.iadd, 1) := by decide +kernel
theorem d4_81 : decode prog_19_method_8_code 81 = .ok (.putfield 17, 3) := by decide +kernel
theorem d4_84 : decode prog_19_method_8_code 84 = .ok (.aload_n 0, 1) := by decide +kernel
theorem d4_85 : decode prog_19_method_8_code 85 = .ok (.iload_n 1, 1) := by decide +kernel
theorem d4_86 : decode prog_19_method_8_code 86 = .ok (.putfield 7, 3) := by decide +kernel
theorem d4_89 : decode prog_19_method_8_code 89 = .ok (.getstatic 53, 3) := by decide +kernel
theorem d4_92 : decode prog_19_method_8_code 92 = .ok (.astore 4, 2) := by decide +kernel
theorem d4_94 : decode prog_19_method_8_code 94 = .ok (.aload 4, 2) := by decide +kernel
theorem d4_96 : decode prog_19_method_8_code 96 = .ok (.arraylength, 1) := by decide +kernel
theorem d4_97 : decode prog_19_method_8_code 97 = .ok (.istore 5, 2) := by decide +kernel
theorem d4_99 : decode prog_19_method_8_code 99 = .ok (.iconst 0, 1) := by decide +kernel
theorem d4_100 : decode prog_19_method_8_code 100 = .ok (.istore 6, 2) := by decide +kernel
theorem d4_102 : decode prog_19_method_8_code 102 = .ok (.iload 6, 2) := by decide +kernel
theorem d4_104 : decode prog_19_method_8_code 104 = .ok (.iload 5, 2) := by decide +kernel
theorem d4_106 : decode prog_19_method_8_code 106 = .ok (.if_icmp .ge 31, 3) := by decide +kernel
theorem d4_109 : decode prog_19_method_8_code 109 = .ok (.aload 4, 2) := by decide +kernel
theorem d4_111 : decode prog_19_method_8_code 111 = .ok (.iload 6, 2) := by decide +kernel
theorem d4_113 : decode prog_19_method_8_code 113 = .ok (.iaload, 1) := by decide +kernel
theorem d4_114 : decode prog_19_method_8_code 114 = .ok (.istore 7, 2) := by decide +kernel
theorem d4_116 : decode prog_19_method_8_code 116 = .ok (.iload_n 3, 1) := by decide +kernel
theorem d4_117 : decode prog_19_method_8_code 117 = .ok (.iload 7, 2) := by decide +kernel
theorem d4_119 : decode prog_19_method_8_code 119 = .ok (.iand, 1) := by decide +kernel
theorem d4_120 : decode prog_19_method_8_code 120 = .ok (.iload 7, 2) := by decide +kernel
theorem d4_122 : decode prog_19_method_8_code 122 = .ok (.if_icmp .ne 9, 3) := by decide +kernel
theorem d4_125 : decode prog_19_method_8_code 125 = .ok (.aload_n 0, 1) := by decide +kernel
theorem d4_126 : decode prog_19_method_8_code 126 = .ok (.iload_n 2, 1) := by decide +kernel
theorem d4_127 : decode prog_19_method_8_code 127 = .ok (.putfield 13, 3) := by decide +kernel
theorem d4_130 : decode prog_19_method_8_code 130 = .ok (.return_, 1) := by decide +kernel
theorem d4_131 : decode prog_19_method_8_code 131 = .ok (.iinc 6 1, 3) := by decide +kernel
theorem d4_134 : decode prog_19_method_8_code 134 = .ok (.goto (-32), 3) := by decide +kernel
theorem d4_137 : decode prog_19_method_8_code 137 = .ok (.return_, 1) := by decide +kernel
theorem pn_4 : plainName "com/example/tilescript/tilescript/TicTacToe" = true := by first | (simp [plainName, overriddenIn]; done) | decide +kernel
theorem d5_0 : decode prog_19_method_7_code 0 = .ok (.aload_n 0, 1) := by decide +kernel
theorem d5_1 : decode prog_19_method_7_code 1 = .ok (.invokevirtual 26, 3) := by decide +kernel
theorem d5_4 : decode prog_19_method_7_code 4 = .ok (.ifCond .ne 33, 3) := by decide +kernel
theorem d5_7 : decode prog_19_method_7_code 7 = .ok (.iload_n 1, 1) := by decide +kernel
theorem d5_8 : decode prog_19_method_7_code 8 = .ok (.ifCond .lt 29, 3) := by decide +kernel
theorem d5_11 : decode prog_19_method_7_code 11 = .ok (.iload_n 1, 1) := by decide +kernel
theorem d5_12 : decode prog_19_method_7_code 12 = .ok (.bipush 9, 2) := by decide +kernel
theorem d5_14 : decode prog_19_method_7_code 14 = .ok (.if_icmp .ge 23, 3) := by decide +kernel
theorem d5_17 : decode prog_19_method_7_code 17 = .ok (.aload_n 0, 1) := by decide +kernel
theorem d5_18 : decode prog_19_method_7_code 18 = .ok (.getfield 20, 3) := by decide +kernel
theorem d5_21 : decode prog_19_method_7_code 21 = .ok (.aload_n 0, 1) := by decide +kernel
theorem d5_22 : decode prog_19_method_7_code 22 = .ok (.getfield 23, 3) := by decide +kernel
theorem d5_25 : decode prog_19_method_7_code 25 = .ok (.ior, 1) := by decide +kernel
theorem d5_26 : decode prog_19_method_7_code 26 = .ok (.iconst 1, 1) := by decide +kernel
theorem d5_27 : decode prog_19_method_7_code 27 = .ok (.iload_n 1, 1) := by decide +kernel
theorem d5_28 : decode prog_19_method_7_code 28 = .ok (.ishl, 1) := by decide +kernel
theorem d5_29 : decode prog_19_method_7_code 29 = .ok (.iand, 1) := by decide +kernel
theorem d5_30 : decode prog_19_method_7_code 30 = .ok (.ifCond .ne 7, 3) := by decide +kernel
theorem d5_33 : decode prog_19_method_7_code 33 = .ok (.iconst 1, 1) := by decide +kernel
theorem d5_34 : decode prog_19_method_7_code 34 = .ok (.goto 4, 3) := by decide +kernel
theorem d5_37 : decode prog_19_method_7_code 37 = .ok (.iconst 0, 1) := by decide +kernel
theorem d5_38 : decode prog_19_method_7_code 38 = .ok (.ireturn, 1) := by decide +kernel
theorem pn_5 : plainName "com/example/tilescript/tilescript/TicTacToe" = true := by first | (simp [plainName, overriddenIn]; done) | decide +kernel
theorem d6_0 : decode prog_19_method_5_code 0 = .ok (.aload_n 0, 1) := by decide +kernel
theorem d6_1 : decode prog_19_method_5_code 1 = .ok (.getfield 13, 3) := by decide +kernel
theorem d6_4 : decode prog_19_method_5_code 4 = .ok (.bipush 45, 2) := by decide +kernel
theorem d6_6 : decode prog_19_method_5_code 6 = .ok (.if_icmp .ne 12, 3) := by decide +kernel
theorem d6_9 : decode prog_19_method_5_code 9 = .ok (.aload_n 0, 1) := by decide +kernel
theorem d6_10 : decode prog_19_method_5_code 10 = .ok (.getfield 17, 3) := by decide +kernel
theorem d6_13 : decode prog_19_method_5_code 13 = .ok (.bipush 9, 2) := by decide +kernel
theorem d6_15 : decode prog_19_method_5_code 15 = .ok (.if_icmp .ne 7, 3) := by decide +kernel
theorem d6_18 : decode prog_19_method_5_code 18 = .ok (.iconst 1, 1) := by decide +kernel
theorem d6_19 : decode prog_19_method_5_code 19 = .ok (.goto 4, 3) := by decide +kernel
theorem d6_22 : decode prog_19_method_5_code 22 = .ok (.iconst 0, 1) := by decide +kernel
theorem d6_23 : decode prog_19_method_5_code 23 = .ok (.ireturn, 1) := by decide +kernel
theorem pn_6 : plainName "com/example/tilescript/tilescript/TicTacToe" = true := by first | (simp [plainName, overriddenIn]; done) | decide +kernel
theorem d7_0 : decode prog_19_method_2_code 0 = .ok (.aload_n 0, 1) := by decide +kernel
theorem d7_1 : decode prog_19_method_2_code 1 = .ok (.getfield 17, 3) := by decide +kernel
theorem d7_4 : decode prog_19_method_2_code 4 = .ok (.iconst 2, 1) := by decide +kernel
theorem d7_5 : decode prog_19_method_2_code 5 = .ok (.irem, 1) := by decide +kernel
theorem d7_6 : decode prog_19_method_2_code 6 = .ok (.ifCond .ne 8, 3) := by decide +kernel
theorem d7_9 : decode prog_19_method_2_code 9 = .ok (.bipush 88, 2) := by decide +kernel
theorem d7_11 : decode prog_19_method_2_code 11 = .ok (.goto 5, 3) := by decide +kernel
theorem d7_14 : decode prog_19_method_2_code 14 = .ok (.bipush 79, 2) := by decide +kernel
theorem d7_16 : decode prog_19_method_2_code 16 = .ok (.ireturn, 1) := by decide +kernel
theorem pn_7 : plainName "com/example/tilescript/tilescript/TicTacToe" = true := by first | (simp [plainName, overriddenIn]; done) | decide +kernel
theorem d8_0 : decode prog_19_method_3_code 0 = .ok (.iconst 1, 1) := by decide +kernel
theorem d8_1 : decode prog_19_method_3_code 1 = .ok (.iload_n 1, 1) := by decide +kernel
theorem d8_2 : decode prog_19_method_3_code 2 = .ok (.ishl, 1) := by decide +kernel
theorem d8_3 : decode prog_19_method_3_code 3 = .ok (.istore_n 2, 1) := by decide +kernel
theorem d8_4 : decode prog_19_method_3_code 4 = .ok (.aload_n 0, 1) := by decide +kernel
theorem d8_5 : decode prog_19_method_3_code 5 = .ok (.getfield 20, 3) := by decide +kernel
theorem d8_8 : decode prog_19_method_3_code 8 = .ok (.iload_n 2, 1) := by decide +kernel
theorem d8_9 : decode prog_19_method_3_code 9 = .ok (.iand, 1) := by decide +kernel
theorem d8_10 : decode prog_19_method_3_code 10 = .ok (.ifCond .eq 6, 3) := by decide +kernel
theorem d8_13 : decode prog_19_method_3_code 13 = .ok (.bipush 88, 2) := by decide +kernel
theorem d8_15 : decode prog_19_method_3_code 15 = .ok (.ireturn, 1) := by decide +kernel
theorem d8_16 : decode prog_19_method_3_code 16 = .ok (.aload_n 0, 1) := by decide +kernel
theorem d8_17 : decode prog_19_method_3_code 17 = .ok (.getfield 23, 3) := by decide +kernel
theorem d8_20 : decode prog_19_method_3_code 20 = .ok (.iload_n 2, 1) := by decide +kernel
theorem d8_21 : decode prog_19_method_3_code 21 = .ok (.iand, 1) := by decide +kernel
theorem d8_22 : decode prog_19_method_3_code 22 = .ok (.ifCond .eq 8, 3) := by decide +kernel
theorem d8_25 : decode prog_19_method_3_code 25 = .ok (.bipush 79, 2) := by decide +kernel
theorem d8_27 : decode prog_19_method_3_code 27 = .ok (.goto 5, 3) := by decide +kernel
theorem d8_30 : decode prog_19_method_3_code 30 = .ok (.bipush 45, 2) := by decide +kernel
theorem d8_32 : decode prog_19_method_3_code 32 = .ok (.ireturn, 1) := by decide +kernel
theorem pn_8 : plainName "com/example/tilescript/tilescript/TicTacToe" = true := by first | (simp [plainName, overriddenIn]; done) | decide +kernel
theorem d9_0 : decode method_3_code 0 = .ok (.aload_n 0, 1) := by decide +kernel
theorem d9_1 : decode method_3_code 1 = .ok (.iload_n 1, 1) := by decide +kernel
theorem d9_2 : decode method_3_code 2 = .ok (.caload, 1) := by decide +kernel
theorem d9_3 : decode method_3_code 3 = .ok (.ifCond .ne 6, 3) := by decide +kernel
theorem d9_6 : decode method_3_code 6 = .ok (.bipush 45, 2) := by decide +kernel
theorem d9_8 : decode method_3_code 8 = .ok (.ireturn, 1) := by decide +kernel
theorem d9_9 : decode method_3_code 9 = .ok (.aload_n 0, 1) := by decide +kernel
theorem d9_10 : decode method_3_code 10 = .ok (.iload_n 1, 1) := by decide +kernel
theorem d9_11 : decode method_3_code 11 = .ok (.caload, 1) := by decide +kernel
theorem d9_12 : decode method_3_code 12 = .ok (.ireturn, 1) := by decide +kernel
theorem pn_9 : plainName "com/example/tilescript/tilescript/TicTacToeAtPinLaw" = true := by first | (simp [plainName, overriddenIn]; done) | decide +kernel

theorem own_eqI {args : Array Value} {first s : State} {o : Option Outcome} {idx : List Nat} {t : Term} {n : Int32} (h : (Cond.eq t (.int n)).value args first o s idx = some true) : t.eval args first o idx s = some (.int n) := by
  simp only [Cond.value, Term.eval] at h
  cases ht : t.eval args first o idx s with
  | none => simp [ht] at h
  | some x => cases x <;> simp [ht] at h ⊢; exact h
theorem own_eqR {args : Array Value} {first s : State} {o : Option Outcome} {idx : List Nat} {t u : Term} {a : Addr} (hu : u.eval args first o idx s = some (.ref a)) (h : (Cond.eq t u).value args first o s idx = some true) : t.eval args first o idx s = some (.ref a) := by
  simp only [Cond.value, hu] at h
  cases ht : t.eval args first o idx s with
  | none => simp [ht] at h
  | some x => cases x <;> simp [ht] at h ⊢; exact h
theorem own_el {args : Array Value} {s : State} {t : Term} {a : Addr} {c : Cell} {ty : FieldType} {i : Int32} {v : Value} (A : Arr s s.heap a c ty) (ev : t.eval args s none [] s = some (.ref a)) (he : (Term.elem t (.int i)).eval args s none [] s = some v) (k : Nat) (hk : i.toNatClampNeg = k) : c.slots[k]? = some v := by
  subst hk
  exact (elem_in he ev rfl A.1).2
theorem own_arv {args : Array Value} {s : State} {t : Term} {a : Addr} {c : Cell} {ty : FieldType} {z : Int32} {vs : List Value} {dv : Value} (hf : Fit s) (A : Arr s s.heap a c ty) (ev : t.eval args s none [] s = some (.ref a)) (hl : (Term.length t).eval args s none [] s = some (.int z)) (hz : ¬ z < 0) (hle : z.toNatClampNeg = vs.length) (H : HasL c 0 vs) : Arv s s.heap a c.cls ty z vs dv := by
  have hA := A.fin (Vm.Alike.refl _)
  by_cases q : c.slots.size < 2 ^ 31
  · have e := (len_f ev hA q).symm.trans hl
    injection e with e
    injection e with e
    exact Arv.start hf A q e hz hle H
  · simp [Term.eval, ev, hA, q] at hl
theorem ef_rm1 (m : MethodId) (x0 : Addr) : entryFrame m #[(.ref x0)] 1 = mkF m 0 #[.val (.ref x0)] [] := by first | (simp [entryFrame, mkF, argsToLocals, Value.category]; done) | rfl
def Qrm1 (Z : State) (p0 : Addr) (h0 : Heap) (n0 : Nat) (v : Option Value) (h : Heap) (L : List Loc) : Prop := v = none ∧ Fr n0 L ∧ Keep h0 h [p0] ∧ Fld Z h p0 "com/example/tilescript/tilescript/TicTacToe" "lastMove" "I" (.int (-1 : Int32)) ∧ Fld Z h p0 "com/example/tilescript/tilescript/TicTacToe" "winner" "C" (.int (45 : Int32)) ∧ Fld Z h p0 "com/example/tilescript/tilescript/TicTacToe" "xCells" "I" (.int (0 : Int32)) ∧ Fld Z h p0 "com/example/tilescript/tilescript/TicTacToe" "oCells" "I" (.int (0 : Int32)) ∧ Fld Z h p0 "com/example/tilescript/tilescript/TicTacToe" "marks" "I" (.int (0 : Int32))
set_option maxRecDepth 65536 in
set_option maxHeartbeats 40000000 in
theorem rm1 (l : Launch) (Z : State) (a0 : Array Value) (hw : ∀ d ∈ tables_1, d.before a0 Z = true) (ws : List Jvm.Cond) (p0 : Addr) (h0 : Heap) (n0 : Nat) (Z0 : n0 ≤ h0.size) (E_p0 : Exa Z h0 p0 "com/example/tilescript/tilescript/TicTacToe") (F_lastMove_p0 : Fld Z h0 p0 "com/example/tilescript/tilescript/TicTacToe" "lastMove" "I" (.int (0 : Int32))) (F_winner_p0 : Fld Z h0 p0 "com/example/tilescript/tilescript/TicTacToe" "winner" "C" (.int (0 : Int32))) (F_xCells_p0 : Fld Z h0 p0 "com/example/tilescript/tilescript/TicTacToe" "xCells" "I" (.int (0 : Int32))) (F_oCells_p0 : Fld Z h0 p0 "com/example/tilescript/tilescript/TicTacToe" "oCells" "I" (.int (0 : Int32))) (F_marks_p0 : Fld Z h0 p0 "com/example/tilescript/tilescript/TicTacToe" "marks" "I" (.int (0 : Int32))) (g_p0 : n0 ≤ p0) :
    MetFree l (⟨"com/example/tilescript/tilescript/TicTacToe", "<init>", "()V"⟩ : MethodName) (head1 (Jvm.Cond.code (⟨"com/example/tilescript/tilescript/TicTacToe", "<init>", "()V"⟩ : MethodName) prog_19_method_1_code 1 none :: ws) ({ frames := 1, cells := 0, slots := 0, locals := 12 } : Room)) (fun a U => a = #[(.ref p0)] ∧ Z.Warmed39 U.vm ∧ U.heap = h0) (fun _ _ _ _ _ => True) (fun _ U o U' => ∃ v L, o = .returned v ∧ Qrm1 Z p0 h0 n0 v U'.heap L ∧ FrameEnd U o U' L ({ frames := 1, cells := 0, slots := 0, locals := 12 } : Room).cells ({ frames := 1, cells := 0, slots := 0, locals := 12 } : Room).slots) := by
  refine MetFree.of_bodySF (plainFor_of_name pn_1) hisR ?_
  intro p e s m args below meth c s₁ Bd hml0 hP hK
  obtain ⟨rfl, hZ, hh⟩ := hP
  have hx := Bd.exec
  have hby := Bd.bytes
  have hlk : meth.locks = false := BodyLoose.notSynchronized Bd
  have hml : c.maxLocals = 1 := hml0
  have hown : s.vm.findClass "com/example/tilescript/tilescript/TicTacToe" = some m.cls := findClass_of_methodNamed Bd.named
  have hnm := (name_of_methodNamed Bd.named Bd.method).1
  have X0 : Stand p l e ({ frames := 1, cells := 0, slots := 0, locals := 12 } : Room) s m #[(.ref p0)] below meth c s₁ [] 0 0 := Stand.of_body Bd
  have e0 : s₁.heap = h0 := by rw [← hh, Bd.state]; rfl
  have N0 := Fr.nil n0
  have K0 : Keep h0 h0 [p0] := Keep.refl h0 [p0]
  show own_G p e below s 0 0 (Qrm1 Z p0 h0 n0) s₁ (entryFrame m #[(.ref p0)] 1)
  rw [ef_rm1 m p0]
  refine own_step (T' := s₁) (g' := (mkF m 1 #[.val (.ref p0)] [(.ref p0)])) (fun t k => XS.aloadN X0.here hx rfl (hb hby d1_0) rfl rfl k) ?_
  obtain ⟨T1, X1, e1, st1⟩ := initO X0 hx hZ hown (hw _ (List.mem_of_getElem? (i := 6) rfl)) (hw _ (List.mem_of_getElem? (i := 7) rfl)) (hw _ (List.mem_of_getElem? (i := 8) rfl)) e0 (g := (mkF m 1 #[.val (.ref p0)] [(.ref p0)])) rfl (by rw [hml]; rfl) rfl (hb hby d1_1) (by decide) (W := 0) (by show 2 * 0 + _ ≤ _; exact Nat.le_of_eq rfl) (by decide)
  refine own_step (T' := T1) (g' := (mkF m 4 #[.val (.ref p0)] [])) st1 ?_
  refine own_step (T' := T1) (g' := (mkF m 5 #[.val (.ref p0)] [(.ref p0)])) (fun t k => XS.aloadN X1.here hx rfl (hb hby d1_4) rfl rfl k) ?_
  refine own_step (T' := T1) (g' := (mkF m 6 #[.val (.ref p0)] [(.int (-1 : Int32)), (.ref p0)])) (fun t k => XS.iconst X1.here hx rfl (hb hby d1_5) k) ?_
  obtain ⟨T2, h2, X2, e2, W2, st2⟩ := putF X1 hx hZ hown (host := "") (Or.inl (hw _ (List.mem_of_getElem? (i := 9) rfl))) Via.refl e1 F_lastMove_p0 E_p0 (Or.inl (hw _ (List.mem_of_getElem? (i := 10) rfl))) (hw _ (List.mem_of_getElem? (i := 1) rfl)) (ty := .int) (by decide) rfl rfl (g := (mkF m 6 #[.val (.ref p0)] [(.int (-1 : Int32)), (.ref p0)])) rfl rfl (hb hby d1_6)
  have E_p0_2 : Exa Z h2 p0 "com/example/tilescript/tilescript/TicTacToe" := E_p0.wr W2
  have F_winner_p0_2 : Fld Z h2 p0 "com/example/tilescript/tilescript/TicTacToe" "winner" "C" (.int (0 : Int32)) := F_winner_p0.other W2 (Or.inr (slot_ne (Or.inl (hw _ (List.mem_of_getElem? (i := 12) rfl))) (Or.inl (hw _ (List.mem_of_getElem? (i := 10) rfl))) (by decide) (t := .char) (t' := .int) (by decide) (by decide)))
  have F_xCells_p0_2 : Fld Z h2 p0 "com/example/tilescript/tilescript/TicTacToe" "xCells" "I" (.int (0 : Int32)) := F_xCells_p0.other W2 (Or.inr (slot_ne (Or.inl (hw _ (List.mem_of_getElem? (i := 37) rfl))) (Or.inl (hw _ (List.mem_of_getElem? (i := 10) rfl))) (by decide) (t := .int) (t' := .int) (by decide) (by decide)))
  have F_oCells_p0_2 : Fld Z h2 p0 "com/example/tilescript/tilescript/TicTacToe" "oCells" "I" (.int (0 : Int32)) := F_oCells_p0.other W2 (Or.inr (slot_ne (Or.inl (hw _ (List.mem_of_getElem? (i := 39) rfl))) (Or.inl (hw _ (List.mem_of_getElem? (i := 10) rfl))) (by decide) (t := .int) (t' := .int) (by decide) (by decide)))
  have F_marks_p0_2 : Fld Z h2 p0 "com/example/tilescript/tilescript/TicTacToe" "marks" "I" (.int (0 : Int32)) := F_marks_p0.other W2 (Or.inr (slot_ne (Or.inl (hw _ (List.mem_of_getElem? (i := 35) rfl))) (Or.inl (hw _ (List.mem_of_getElem? (i := 10) rfl))) (by decide) (t := .int) (t' := .int) (by decide) (by decide)))
  have K_2 : Keep h0 h2 [p0] := K0.wr W2 (Or.inl (List.mem_of_getElem? (i := 0) rfl))
  have N2 := Fr.snoc X2 N0 g_p0
  have F_lastMove_p0_2 : Fld Z h2 p0 "com/example/tilescript/tilescript/TicTacToe" "lastMove" "I" (.int (-1 : Int32)) := F_lastMove_p0.same W2
  refine own_step (T' := T2) (g' := (mkF m 9 #[.val (.ref p0)] [])) st2 ?_
  refine own_step (T' := T2) (g' := (mkF m 10 #[.val (.ref p0)] [(.ref p0)])) (fun t k => XS.aloadN X2.here hx rfl (hb hby d1_9) rfl rfl k) ?_
  refine own_step (T' := T2) (g' := (mkF m 12 #[.val (.ref p0)] [(.int (45 : Int32)), (.ref p0)])) (fun t k => XS.bipush X2.here hx rfl (hb hby d1_10) k) ?_
  obtain ⟨T3, h3, X3, e3, W3, st3⟩ := putFN X2 hx hZ hown (hw _ (List.mem_of_getElem? (i := 11) rfl)) Via.refl e2 F_winner_p0_2 E_p0_2 (Or.inl (hw _ (List.mem_of_getElem? (i := 12) rfl))) (hw _ (List.mem_of_getElem? (i := 1) rfl)) (ty := .char) (v' := (.int (45 : Int32))) (by decide) rfl (fits_nar_char (45 : Int32)) (g := (mkF m 12 #[.val (.ref p0)] [(.int (45 : Int32)), (.ref p0)])) rfl rfl (hb hby d1_12)
  have E_p0_3 : Exa Z h3 p0 "com/example/tilescript/tilescript/TicTacToe" := E_p0_2.wr W3
  have F_xCells_p0_3 : Fld Z h3 p0 "com/example/tilescript/tilescript/TicTacToe" "xCells" "I" (.int (0 : Int32)) := F_xCells_p0_2.other W3 (Or.inr (slot_ne (Or.inl (hw _ (List.mem_of_getElem? (i := 37) rfl))) (Or.inl (hw _ (List.mem_of_getElem? (i := 12) rfl))) (by decide) (t := .int) (t' := .char) (by decide) (by decide)))
  have F_oCells_p0_3 : Fld Z h3 p0 "com/example/tilescript/tilescript/TicTacToe" "oCells" "I" (.int (0 : Int32)) := F_oCells_p0_2.other W3 (Or.inr (slot_ne (Or.inl (hw _ (List.mem_of_getElem? (i := 39) rfl))) (Or.inl (hw _ (List.mem_of_getElem? (i := 12) rfl))) (by decide) (t := .int) (t' := .char) (by decide) (by decide)))
  have F_marks_p0_3 : Fld Z h3 p0 "com/example/tilescript/tilescript/TicTacToe" "marks" "I" (.int (0 : Int32)) := F_marks_p0_2.other W3 (Or.inr (slot_ne (Or.inl (hw _ (List.mem_of_getElem? (i := 35) rfl))) (Or.inl (hw _ (List.mem_of_getElem? (i := 12) rfl))) (by decide) (t := .int) (t' := .char) (by decide) (by decide)))
  have F_lastMove_p0_3 : Fld Z h3 p0 "com/example/tilescript/tilescript/TicTacToe" "lastMove" "I" (.int (-1 : Int32)) := F_lastMove_p0_2.other W3 (Or.inr (slot_ne (Or.inl (hw _ (List.mem_of_getElem? (i := 10) rfl))) (Or.inl (hw _ (List.mem_of_getElem? (i := 12) rfl))) (by decide) (t := .int) (t' := .char) (by decide) (by decide)))
  have K_3 : Keep h0 h3 [p0] := K_2.wr W3 (Or.inl (List.mem_of_getElem? (i := 0) rfl))
  have N3 := Fr.snoc X3 N2 g_p0
  have F_winner_p0_3 : Fld Z h3 p0 "com/example/tilescript/tilescript/TicTacToe" "winner" "C" (.int (45 : Int32)) := F_winner_p0_2.same W3
  refine own_step (T' := T3) (g' := (mkF m 15 #[.val (.ref p0)] [])) st3 ?_
  refine own_retV X3 hx hlk Bd.returns (hb hby d1_15) (by decide) (by decide) ?_
  rw [e3]
  exact ⟨rfl, N3, K_3, F_lastMove_p0_3, F_winner_p0_3, F_xCells_p0_3, F_oCells_p0_3, F_marks_p0_3⟩
def fnOver (ww : Int32) (wm : Int32) : Int32 := if ww = (45 : Int32) then if wm = (9 : Int32) then (1 : Int32) else (0 : Int32) else (1 : Int32)
theorem ef_rm6 (m : MethodId) (x0 : Addr) : entryFrame m #[(.ref x0)] 1 = mkF m 0 #[.val (.ref x0)] [] := by first | (simp [entryFrame, mkF, argsToLocals, Value.category]; done) | rfl
def Qrm6 (Z : State) (p0 : Addr) (ww : Int32) (wm : Int32) (h0 : Heap) (n0 : Nat) (v : Option Value) (h : Heap) (L : List Loc) : Prop := v = some (.int (fnOver ww wm)) ∧ Fr n0 L ∧ h = h0
set_option maxRecDepth 65536 in
set_option maxHeartbeats 40000000 in
theorem rm6 (l : Launch) (Z : State) (a0 : Array Value) (hw : ∀ d ∈ tables_1, d.before a0 Z = true) (ws : List Jvm.Cond) (p0 : Addr) (ww : Int32) (wm : Int32) (h0 : Heap) (n0 : Nat) (Z0 : n0 ≤ h0.size) (F_winner_p0 : Fld Z h0 p0 "com/example/tilescript/tilescript/TicTacToe" "winner" "C" (.int ww)) (F_marks_p0 : Fld Z h0 p0 "com/example/tilescript/tilescript/TicTacToe" "marks" "I" (.int wm)) :
    MetFree l (⟨"com/example/tilescript/tilescript/TicTacToe", "isOver", "()Z"⟩ : MethodName) (head1 (Jvm.Cond.code (⟨"com/example/tilescript/tilescript/TicTacToe", "isOver", "()Z"⟩ : MethodName) prog_19_method_5_code 1 (some .boolean) :: ws) ({ frames := 0, cells := 0, slots := 0, locals := 0 } : Room)) (fun a U => a = #[(.ref p0)] ∧ Z.Warmed39 U.vm ∧ U.heap = h0) (fun _ _ _ _ _ => True) (fun _ U o U' => ∃ v L, o = .returned v ∧ Qrm6 Z p0 ww wm h0 n0 v U'.heap L ∧ FrameEnd U o U' L ({ frames := 0, cells := 0, slots := 0, locals := 0 } : Room).cells ({ frames := 0, cells := 0, slots := 0, locals := 0 } : Room).slots) := by
  refine MetFree.of_bodySF (plainFor_of_name pn_6) hisR ?_
  intro p e s m args below meth c s₁ Bd hml0 hP hK
  obtain ⟨rfl, hZ, hh⟩ := hP
  have hx := Bd.exec
  have hby := Bd.bytes
  have hlk : meth.locks = false := BodyLoose.notSynchronized Bd
  have hml : c.maxLocals = 1 := hml0
  have hown : s.vm.findClass "com/example/tilescript/tilescript/TicTacToe" = some m.cls := findClass_of_methodNamed Bd.named
  have hnm := (name_of_methodNamed Bd.named Bd.method).1
  have X0 : Stand p l e ({ frames := 0, cells := 0, slots := 0, locals := 0 } : Room) s m #[(.ref p0)] below meth c s₁ [] 0 0 := Stand.of_body Bd
  have e0 : s₁.heap = h0 := by rw [← hh, Bd.state]; rfl
  have N0 := Fr.nil n0
  have K0 : Keep h0 h0 [] := Keep.refl h0 []
  show own_G p e below s 0 0 (Qrm6 Z p0 ww wm h0 n0) s₁ (entryFrame m #[(.ref p0)] 1)
  rw [ef_rm6 m p0]
  refine own_step (T' := s₁) (g' := (mkF m 1 #[.val (.ref p0)] [(.ref p0)])) (fun t k => XS.aloadN X0.here hx rfl (hb hby d6_0) rfl rfl k) ?_
  obtain ⟨T1, X1, e1, st1⟩ := getF X0 hx hZ hown (host := "") (Or.inl (hw _ (List.mem_of_getElem? (i := 11) rfl))) Via.refl e0 F_winner_p0 (g := (mkF m 1 #[.val (.ref p0)] [(.ref p0)])) rfl rfl (hb hby d6_1)
  refine own_step (T' := T1) (g' := (mkF m 4 #[.val (.ref p0)] [(.int ww)])) st1 ?_
  refine own_step (T' := T1) (g' := (mkF m 6 #[.val (.ref p0)] [(.int (45 : Int32)), (.int ww)])) (fun t k => XS.bipush X1.here hx rfl (hb hby d6_4) k) ?_
  by_cases hc6_2 : ww = (45 : Int32)
  · refine own_step (T' := T1) (g' := (mkF m 9 #[.val (.ref p0)] [])) (fun t k => XS.icmpNo X1.here hx rfl (hb hby d6_6) rfl (teq hc6_2).2 k) ?_
    refine own_step (T' := T1) (g' := (mkF m 10 #[.val (.ref p0)] [(.ref p0)])) (fun t k => XS.aloadN X1.here hx rfl (hb hby d6_9) rfl rfl k) ?_
    obtain ⟨T3, X3, e3, st3⟩ := getF X1 hx hZ hown (host := "") (Or.inl (hw _ (List.mem_of_getElem? (i := 34) rfl))) Via.refl e1 F_marks_p0 (g := (mkF m 10 #[.val (.ref p0)] [(.ref p0)])) rfl rfl (hb hby d6_10)
    refine own_step (T' := T3) (g' := (mkF m 13 #[.val (.ref p0)] [(.int wm)])) st3 ?_
    refine own_step (T' := T3) (g' := (mkF m 15 #[.val (.ref p0)] [(.int (9 : Int32)), (.int wm)])) (fun t k => XS.bipush X3.here hx rfl (hb hby d6_13) k) ?_
    by_cases hc15_4 : wm = (9 : Int32)
    · refine own_step (T' := T3) (g' := (mkF m 18 #[.val (.ref p0)] [])) (fun t k => XS.icmpNo X3.here hx rfl (hb hby d6_15) rfl (teq hc15_4).2 k) ?_
      refine own_step (T' := T3) (g' := (mkF m 19 #[.val (.ref p0)] [(.int (1 : Int32))])) (fun t k => XS.iconst X3.here hx rfl (hb hby d6_18) k) ?_
      refine own_step (T' := T3) (g' := (mkF m 23 #[.val (.ref p0)] [(.int (1 : Int32))])) (fun t k => XS.goto X3.here hx rfl (pc0 := 19) (pc' := 23) rfl (hb hby d6_19) (by decide) (by decide) k) ?_
      refine own_retN X3 hx hlk (t := .boolean) (w := (1 : Int32)) Bd.returns (by simp) (hb hby d6_23) rfl (by decide) (by decide) ?_
      exact ⟨congrArg some (congrArg Value.int (show (1 : Int32) = (fnOver ww wm) from by unfold fnOver; rw [if_pos hc6_2, if_pos hc15_4])), N0, e3⟩
    · refine own_step (T' := T3) (g' := (mkF m 22 #[.val (.ref p0)] [])) (fun t k => XS.icmpYes X3.here hx rfl (pc0 := 15) (pc' := 22) rfl (hb hby d6_15) rfl (feq hc15_4).2 (by decide) (by decide) k) ?_
      refine own_step (T' := T3) (g' := (mkF m 23 #[.val (.ref p0)] [(.int (0 : Int32))])) (fun t k => XS.iconst X3.here hx rfl (hb hby d6_22) k) ?_
      refine own_retN X3 hx hlk (t := .boolean) (w := (0 : Int32)) Bd.returns (by simp) (hb hby d6_23) rfl (by decide) (by decide) ?_
      exact ⟨congrArg some (congrArg Value.int (show (0 : Int32) = (fnOver ww wm) from by unfold fnOver; rw [if_pos hc6_2, if_neg hc15_4])), N0, e3⟩
  · refine own_step (T' := T1) (g' := (mkF m 18 #[.val (.ref p0)] [])) (fun t k => XS.icmpYes X1.here hx rfl (pc0 := 6) (pc' := 18) rfl (hb hby d6_6) rfl (feq hc6_2).2 (by decide) (by decide) k) ?_
    refine own_step (T' := T1) (g' := (mkF m 19 #[.val (.ref p0)] [(.int (1 : Int32))])) (fun t k => XS.iconst X1.here hx rfl (hb hby d6_18) k) ?_
    refine own_step (T' := T1) (g' := (mkF m 23 #[.val (.ref p0)] [(.int (1 : Int32))])) (fun t k => XS.goto X1.here hx rfl (pc0 := 19) (pc' := 23) rfl (hb hby d6_19) (by decide) (by decide) k) ?_
    refine own_retN X1 hx hlk (t := .boolean) (w := (1 : Int32)) Bd.returns (by simp) (hb hby d6_23) rfl (by decide) (by decide) ?_
    exact ⟨congrArg some (congrArg Value.int (show (1 : Int32) = (fnOver ww wm) from by unfold fnOver; rw [if_neg hc6_2])), N0, e1⟩
def fnLegal (p1 : Int32) (ww : Int32) (wm : Int32) (wx : Int32) (wo : Int32) : Int32 := if (fnOver ww wm) = (0 : Int32) then if p1 < (0 : Int32) then (0 : Int32) else if p1 < (9 : Int32) then if ((wx ||| wo) &&& ((1 : Int32) <<< (p1 &&& 31))) = (0 : Int32) then (1 : Int32) else (0 : Int32) else (0 : Int32) else (0 : Int32)
theorem ef_rm5 (m : MethodId) (x0 : Addr) (x1 : Int32) : entryFrame m #[(.ref x0), (.int x1)] 2 = mkF m 0 #[.val (.ref x0), .val (.int x1)] [] := by first | (simp [entryFrame, mkF, argsToLocals, Value.category]; done) | rfl
def Qrm5 (Z : State) (p0 : Addr) (p1 : Int32) (ww : Int32) (wm : Int32) (wx : Int32) (wo : Int32) (h0 : Heap) (n0 : Nat) (v : Option Value) (h : Heap) (L : List Loc) : Prop := v = some (.int (fnLegal p1 ww wm wx wo)) ∧ Fr n0 L ∧ h = h0
set_option maxRecDepth 65536 in
set_option maxHeartbeats 40000000 in
theorem rm5 (l : Launch) (Z : State) (a0 : Array Value) (hw : ∀ d ∈ tables_1, d.before a0 Z = true) (ws : List Jvm.Cond) (p0 : Addr) (p1 : Int32) (ww : Int32) (wm : Int32) (wx : Int32) (wo : Int32) (h0 : Heap) (n0 : Nat) (Z0 : n0 ≤ h0.size) (E_p0 : Exa Z h0 p0 "com/example/tilescript/tilescript/TicTacToe") (F_winner_p0 : Fld Z h0 p0 "com/example/tilescript/tilescript/TicTacToe" "winner" "C" (.int ww)) (F_marks_p0 : Fld Z h0 p0 "com/example/tilescript/tilescript/TicTacToe" "marks" "I" (.int wm)) (F_xCells_p0 : Fld Z h0 p0 "com/example/tilescript/tilescript/TicTacToe" "xCells" "I" (.int wx)) (F_oCells_p0 : Fld Z h0 p0 "com/example/tilescript/tilescript/TicTacToe" "oCells" "I" (.int wo)) :
    MetFree l (⟨"com/example/tilescript/tilescript/TicTacToe", "isLegal", "(I)Z"⟩ : MethodName) (head1 (Jvm.Cond.code (⟨"com/example/tilescript/tilescript/TicTacToe", "isLegal", "(I)Z"⟩ : MethodName) prog_19_method_7_code 2 (some .boolean) :: ws) ({ frames := 1, cells := 0, slots := 0, locals := 12 } : Room)) (fun a U => a = #[(.ref p0), (.int p1)] ∧ Z.Warmed39 U.vm ∧ U.heap = h0) (fun _ _ _ _ _ => True) (fun _ U o U' => ∃ v L, o = .returned v ∧ Qrm5 Z p0 p1 ww wm wx wo h0 n0 v U'.heap L ∧ FrameEnd U o U' L ({ frames := 1, cells := 0, slots := 0, locals := 12 } : Room).cells ({ frames := 1, cells := 0, slots := 0, locals := 12 } : Room).slots) := by
  refine MetFree.of_bodySF (plainFor_of_name pn_5) hisR ?_
  intro p e s m args below meth c s₁ Bd hml0 hP hK
  obtain ⟨rfl, hZ, hh⟩ := hP
  have hx := Bd.exec
  have hby := Bd.bytes
  have hlk : meth.locks = false := BodyLoose.notSynchronized Bd
  have hml : c.maxLocals = 2 := hml0
  have hown : s.vm.findClass "com/example/tilescript/tilescript/TicTacToe" = some m.cls := findClass_of_methodNamed Bd.named
  have hnm := (name_of_methodNamed Bd.named Bd.method).1
  have X0 : Stand p l e ({ frames := 1, cells := 0, slots := 0, locals := 12 } : Room) s m #[(.ref p0), (.int p1)] below meth c s₁ [] 0 0 := Stand.of_body Bd
  have e0 : s₁.heap = h0 := by rw [← hh, Bd.state]; rfl
  have N0 := Fr.nil n0
  have K0 : Keep h0 h0 [] := Keep.refl h0 []
  show own_G p e below s 0 0 (Qrm5 Z p0 p1 ww wm wx wo h0 n0) s₁ (entryFrame m #[(.ref p0), (.int p1)] 2)
  rw [ef_rm5 m p0 p1]
  refine own_step (T' := s₁) (g' := (mkF m 1 #[.val (.ref p0), .val (.int p1)] [(.ref p0)])) (fun t k => XS.aloadN X0.here hx rfl (hb hby d5_0) rfl rfl k) ?_
  obtain ⟨cq1, kq1, qq1a, qq1b, qq1c⟩ := isOf hZ e0 E_p0
  obtain ⟨_, _, ⟨T1, L1, kk1, nn1⟩, -, X1, ⟨Lc1, hQ1, l1, y1, z1⟩, st1⟩ := X0.virtualBack hx (y := (⟨"com/example/tilescript/tilescript/TicTacToe", "isOver", "()Z"⟩ : MethodName)) (z := (⟨"com/example/tilescript/tilescript/TicTacToe", "isOver", "()Z"⟩ : MethodName)) hown (mvT hZ (hw _ (List.mem_of_getElem? (i := 29) rfl))) (mvT hZ (hw _ (List.mem_of_getElem? (i := 30) rfl))) (notFace_of_selects (args := #[]) (mvT hZ (hw _ (List.mem_of_getElem? (i := 32) rfl)))) (mvT hZ (hw _ (List.mem_of_getElem? (i := 32) rfl))) (mvT hZ (hw _ (List.mem_of_getElem? (i := 31) rfl))) (by decide) (backOf (W := 0) (rm6 l Z a0 hw [] p0 ww wm h0 n0 (Nat.le_trans Z0 K0.1) F_winner_p0 F_marks_p0) hZ (hw _ (List.mem_of_getElem? (i := 33) rfl)) (hw _ (List.mem_of_getElem? (i := 2) rfl)) (by decide) (by decide)) qq1a qq1c (g := (mkF m 1 #[.val (.ref p0), .val (.int p1)] [(.ref p0)])) rfl (by rw [hml]; rfl) (Steps.refl _) (argsL := []) (rest := []) (lenOf pd_4 rfl) rfl (by show 2 * 0 + _ ≤ _; exact Nat.le_of_eq rfl) (hb hby d5_1) (fun _ _ => ⟨rfl, e0, (by decide : 0 + 0 ≤ _), (by decide : 0 + 0 ≤ _)⟩)
  dsimp only [Pt.U, Pt.locs, Pt.cells, Pt.slots] at X1 l1 y1 z1 st1 hQ1
  subst l1 y1 z1
  obtain ⟨rfl, N1q, eq1⟩ := hQ1
  have N1 := Fr.app N0 N1q
  refine own_step (T' := T1) (g' := (mkF m 4 #[.val (.ref p0), .val (.int p1)] [(.int (fnOver ww wm))])) (fun t k => st1.trans k) ?_
  by_cases hc4_2 : (fnOver ww wm) = (0 : Int32)
  · refine own_step (T' := T1) (g' := (mkF m 7 #[.val (.ref p0), .val (.int p1)] [])) (fun t k => XS.ifNo X1.here hx rfl (hb hby d5_4) rfl ((if0 _ _).trans (teq hc4_2).2) k) ?_
    refine own_step (T' := T1) (g' := (mkF m 8 #[.val (.ref p0), .val (.int p1)] [(.int p1)])) (fun t k => XS.iloadN X1.here hx rfl (hb hby d5_7) rfl k) ?_
    by_cases hc8_3 : p1 < (0 : Int32)
    · refine own_step (T' := T1) (g' := (mkF m 37 #[.val (.ref p0), .val (.int p1)] [])) (fun t k => XS.ifYes X1.here hx rfl (pc0 := 8) (pc' := 37) rfl (hb hby d5_8) rfl ((if0 _ _).trans (tlt hc8_3).1) (by decide) (by decide) k) ?_
      refine own_step (T' := T1) (g' := (mkF m 38 #[.val (.ref p0), .val (.int p1)] [(.int (0 : Int32))])) (fun t k => XS.iconst X1.here hx rfl (hb hby d5_37) k) ?_
      refine own_retN X1 hx hlk (t := .boolean) (w := (0 : Int32)) Bd.returns (by simp) (hb hby d5_38) rfl (by decide) (by decide) ?_
      exact ⟨congrArg some (congrArg Value.int (show (0 : Int32) = (fnLegal p1 ww wm wx wo) from by unfold fnLegal; rw [if_pos hc4_2, if_pos hc8_3])), N1, eq1⟩
    · refine own_step (T' := T1) (g' := (mkF m 11 #[.val (.ref p0), .val (.int p1)] [])) (fun t k => XS.ifNo X1.here hx rfl (hb hby d5_8) rfl ((if0 _ _).trans (flt hc8_3).1) k) ?_
      refine own_step (T' := T1) (g' := (mkF m 12 #[.val (.ref p0), .val (.int p1)] [(.int p1)])) (fun t k => XS.iloadN X1.here hx rfl (hb hby d5_11) rfl k) ?_
      refine own_step (T' := T1) (g' := (mkF m 14 #[.val (.ref p0), .val (.int p1)] [(.int (9 : Int32)), (.int p1)])) (fun t k => XS.bipush X1.here hx rfl (hb hby d5_12) k) ?_
      by_cases hc14_5 : p1 < (9 : Int32)
      · refine own_step (T' := T1) (g' := (mkF m 17 #[.val (.ref p0), .val (.int p1)] [])) (fun t k => XS.icmpNo X1.here hx rfl (hb hby d5_14) rfl (tlt hc14_5).2.1 k) ?_
        refine own_step (T' := T1) (g' := (mkF m 18 #[.val (.ref p0), .val (.int p1)] [(.ref p0)])) (fun t k => XS.aloadN X1.here hx rfl (hb hby d5_17) rfl rfl k) ?_
        obtain ⟨T6, X6, e6, st6⟩ := getF X1 hx hZ hown (host := "") (Or.inl (hw _ (List.mem_of_getElem? (i := 36) rfl))) Via.refl eq1 F_xCells_p0 (g := (mkF m 18 #[.val (.ref p0), .val (.int p1)] [(.ref p0)])) rfl rfl (hb hby d5_18)
        refine own_step (T' := T6) (g' := (mkF m 21 #[.val (.ref p0), .val (.int p1)] [(.int wx)])) st6 ?_
        refine own_step (T' := T6) (g' := (mkF m 22 #[.val (.ref p0), .val (.int p1)] [(.ref p0), (.int wx)])) (fun t k => XS.aloadN X6.here hx rfl (hb hby d5_21) rfl rfl k) ?_
        obtain ⟨T7, X7, e7, st7⟩ := getF X6 hx hZ hown (host := "") (Or.inl (hw _ (List.mem_of_getElem? (i := 38) rfl))) Via.refl e6 F_oCells_p0 (g := (mkF m 22 #[.val (.ref p0), .val (.int p1)] [(.ref p0), (.int wx)])) rfl rfl (hb hby d5_22)
        refine own_step (T' := T7) (g' := (mkF m 25 #[.val (.ref p0), .val (.int p1)] [(.int wo), (.int wx)])) st7 ?_
        refine own_step (T' := T7) (g' := (mkF m 26 #[.val (.ref p0), .val (.int p1)] [(.int (wx ||| wo))])) (fun t k => XS.ior X7.here hx rfl (hb hby d5_25) rfl k) ?_
        refine own_step (T' := T7) (g' := (mkF m 27 #[.val (.ref p0), .val (.int p1)] [(.int (1 : Int32)), (.int (wx ||| wo))])) (fun t k => XS.iconst X7.here hx rfl (hb hby d5_26) k) ?_
        refine own_step (T' := T7) (g' := (mkF m 28 #[.val (.ref p0), .val (.int p1)] [(.int p1), (.int (1 : Int32)), (.int (wx ||| wo))])) (fun t k => XS.iloadN X7.here hx rfl (hb hby d5_27) rfl k) ?_
        refine own_step (T' := T7) (g' := (mkF m 29 #[.val (.ref p0), .val (.int p1)] [(.int ((1 : Int32) <<< (p1 &&& 31))), (.int (wx ||| wo))])) (fun t k => XS.ishl X7.here hx rfl (hb hby d5_28) rfl k) ?_
        refine own_step (T' := T7) (g' := (mkF m 30 #[.val (.ref p0), .val (.int p1)] [(.int ((wx ||| wo) &&& ((1 : Int32) <<< (p1 &&& 31))))])) (fun t k => XS.iand X7.here hx rfl (hb hby d5_29) rfl k) ?_
        by_cases hc30_8 : ((wx ||| wo) &&& ((1 : Int32) <<< (p1 &&& 31))) = (0 : Int32)
        · refine own_step (T' := T7) (g' := (mkF m 33 #[.val (.ref p0), .val (.int p1)] [])) (fun t k => XS.ifNo X7.here hx rfl (hb hby d5_30) rfl ((if0 _ _).trans (teq hc30_8).2) k) ?_
          refine own_step (T' := T7) (g' := (mkF m 34 #[.val (.ref p0), .val (.int p1)] [(.int (1 : Int32))])) (fun t k => XS.iconst X7.here hx rfl (hb hby d5_33) k) ?_
          refine own_step (T' := T7) (g' := (mkF m 38 #[.val (.ref p0), .val (.int p1)] [(.int (1 : Int32))])) (fun t k => XS.goto X7.here hx rfl (pc0 := 34) (pc' := 38) rfl (hb hby d5_34) (by decide) (by decide) k) ?_
          refine own_retN X7 hx hlk (t := .boolean) (w := (1 : Int32)) Bd.returns (by simp) (hb hby d5_38) rfl (by decide) (by decide) ?_
          exact ⟨congrArg some (congrArg Value.int (show (1 : Int32) = (fnLegal p1 ww wm wx wo) from by unfold fnLegal; rw [if_pos hc4_2, if_neg hc8_3, if_pos hc14_5, if_pos hc30_8])), N1, e7⟩
        · refine own_step (T' := T7) (g' := (mkF m 37 #[.val (.ref p0), .val (.int p1)] [])) (fun t k => XS.ifYes X7.here hx rfl (pc0 := 30) (pc' := 37) rfl (hb hby d5_30) rfl ((if0 _ _).trans (feq hc30_8).2) (by decide) (by decide) k) ?_
          refine own_step (T' := T7) (g' := (mkF m 38 #[.val (.ref p0), .val (.int p1)] [(.int (0 : Int32))])) (fun t k => XS.iconst X7.here hx rfl (hb hby d5_37) k) ?_
          refine own_retN X7 hx hlk (t := .boolean) (w := (0 : Int32)) Bd.returns (by simp) (hb hby d5_38) rfl (by decide) (by decide) ?_
          exact ⟨congrArg some (congrArg Value.int (show (0 : Int32) = (fnLegal p1 ww wm wx wo) from by unfold fnLegal; rw [if_pos hc4_2, if_neg hc8_3, if_pos hc14_5, if_neg hc30_8])), N1, e7⟩
      · refine own_step (T' := T1) (g' := (mkF m 37 #[.val (.ref p0), .val (.int p1)] [])) (fun t k => XS.icmpYes X1.here hx rfl (pc0 := 14) (pc' := 37) rfl (hb hby d5_14) rfl (flt hc14_5).2.1 (by decide) (by decide) k) ?_
        refine own_step (T' := T1) (g' := (mkF m 38 #[.val (.ref p0), .val (.int p1)] [(.int (0 : Int32))])) (fun t k => XS.iconst X1.here hx rfl (hb hby d5_37) k) ?_
        refine own_retN X1 hx hlk (t := .boolean) (w := (0 : Int32)) Bd.returns (by simp) (hb hby d5_38) rfl (by decide) (by decide) ?_
        exact ⟨congrArg some (congrArg Value.int (show (0 : Int32) = (fnLegal p1 ww wm wx wo) from by unfold fnLegal; rw [if_pos hc4_2, if_neg hc8_3, if_neg hc14_5])), N1, eq1⟩
  · refine own_step (T' := T1) (g' := (mkF m 37 #[.val (.ref p0), .val (.int p1)] [])) (fun t k => XS.ifYes X1.here hx rfl (pc0 := 4) (pc' := 37) rfl (hb hby d5_4) rfl ((if0 _ _).trans (feq hc4_2).2) (by decide) (by decide) k) ?_
    refine own_step (T' := T1) (g' := (mkF m 38 #[.val (.ref p0), .val (.int p1)] [(.int (0 : Int32))])) (fun t k => XS.iconst X1.here hx rfl (hb hby d5_37) k) ?_
    refine own_retN X1 hx hlk (t := .boolean) (w := (0 : Int32)) Bd.returns (by simp) (hb hby d5_38) rfl (by decide) (by decide) ?_
    exact ⟨congrArg some (congrArg Value.int (show (0 : Int32) = (fnLegal p1 ww wm wx wo) from by unfold fnLegal; rw [if_neg hc4_2])), N1, eq1⟩
def fnTok (wm : Int32) : Int32 := if (wm % (2 : Int32)) = (0 : Int32) then (88 : Int32) else (79 : Int32)
theorem ef_rm7 (m : MethodId) (x0 : Addr) : entryFrame m #[(.ref x0)] 1 = mkF m 0 #[.val (.ref x0)] [] := by first | (simp [entryFrame, mkF, argsToLocals, Value.category]; done) | rfl
def Qrm7 (Z : State) (p0 : Addr) (wm : Int32) (h0 : Heap) (n0 : Nat) (v : Option Value) (h : Heap) (L : List Loc) : Prop := v = some (.int (fnTok wm)) ∧ Fr n0 L ∧ h = h0
set_option maxRecDepth 65536 in
set_option maxHeartbeats 40000000 in
theorem rm7 (l : Launch) (Z : State) (a0 : Array Value) (hw : ∀ d ∈ tables_1, d.before a0 Z = true) (ws : List Jvm.Cond) (p0 : Addr) (wm : Int32) (h0 : Heap) (n0 : Nat) (Z0 : n0 ≤ h0.size) (F_marks_p0 : Fld Z h0 p0 "com/example/tilescript/tilescript/TicTacToe" "marks" "I" (.int wm)) :
    MetFree l (⟨"com/example/tilescript/tilescript/TicTacToe", "token", "()C"⟩ : MethodName) (head1 (Jvm.Cond.code (⟨"com/example/tilescript/tilescript/TicTacToe", "token", "()C"⟩ : MethodName) prog_19_method_2_code 1 (some .char) :: ws) ({ frames := 0, cells := 0, slots := 0, locals := 0 } : Room)) (fun a U => a = #[(.ref p0)] ∧ Z.Warmed39 U.vm ∧ U.heap = h0) (fun _ _ _ _ _ => True) (fun _ U o U' => ∃ v L, o = .returned v ∧ Qrm7 Z p0 wm h0 n0 v U'.heap L ∧ FrameEnd U o U' L ({ frames := 0, cells := 0, slots := 0, locals := 0 } : Room).cells ({ frames := 0, cells := 0, slots := 0, locals := 0 } : Room).slots) := by
  refine MetFree.of_bodySF (plainFor_of_name pn_7) hisR ?_
  intro p e s m args below meth c s₁ Bd hml0 hP hK
  obtain ⟨rfl, hZ, hh⟩ := hP
  have hx := Bd.exec
  have hby := Bd.bytes
  have hlk : meth.locks = false := BodyLoose.notSynchronized Bd
  have hml : c.maxLocals = 1 := hml0
  have hown : s.vm.findClass "com/example/tilescript/tilescript/TicTacToe" = some m.cls := findClass_of_methodNamed Bd.named
  have hnm := (name_of_methodNamed Bd.named Bd.method).1
  have X0 : Stand p l e ({ frames := 0, cells := 0, slots := 0, locals := 0 } : Room) s m #[(.ref p0)] below meth c s₁ [] 0 0 := Stand.of_body Bd
  have e0 : s₁.heap = h0 := by rw [← hh, Bd.state]; rfl
  have N0 := Fr.nil n0
  have K0 : Keep h0 h0 [] := Keep.refl h0 []
  show own_G p e below s 0 0 (Qrm7 Z p0 wm h0 n0) s₁ (entryFrame m #[(.ref p0)] 1)
  rw [ef_rm7 m p0]
  refine own_step (T' := s₁) (g' := (mkF m 1 #[.val (.ref p0)] [(.ref p0)])) (fun t k => XS.aloadN X0.here hx rfl (hb hby d7_0) rfl rfl k) ?_
  obtain ⟨T1, X1, e1, st1⟩ := getF X0 hx hZ hown (host := "") (Or.inl (hw _ (List.mem_of_getElem? (i := 34) rfl))) Via.refl e0 F_marks_p0 (g := (mkF m 1 #[.val (.ref p0)] [(.ref p0)])) rfl rfl (hb hby d7_1)
  refine own_step (T' := T1) (g' := (mkF m 4 #[.val (.ref p0)] [(.int wm)])) st1 ?_
  refine own_step (T' := T1) (g' := (mkF m 5 #[.val (.ref p0)] [(.int (2 : Int32)), (.int wm)])) (fun t k => XS.iconst X1.here hx rfl (hb hby d7_4) k) ?_
  refine own_step (T' := T1) (g' := (mkF m 6 #[.val (.ref p0)] [(.int (wm % (2 : Int32)))])) (fun t k => Jvm.RoadKit.iremM X1 hx rfl (hb hby d7_5) rfl (by decide) k) ?_
  by_cases hc6_2 : (wm % (2 : Int32)) = (0 : Int32)
  · refine own_step (T' := T1) (g' := (mkF m 9 #[.val (.ref p0)] [])) (fun t k => XS.ifNo X1.here hx rfl (hb hby d7_6) rfl ((if0 _ _).trans (teq hc6_2).2) k) ?_
    refine own_step (T' := T1) (g' := (mkF m 11 #[.val (.ref p0)] [(.int (88 : Int32))])) (fun t k => XS.bipush X1.here hx rfl (hb hby d7_9) k) ?_
    refine own_step (T' := T1) (g' := (mkF m 16 #[.val (.ref p0)] [(.int (88 : Int32))])) (fun t k => XS.goto X1.here hx rfl (pc0 := 11) (pc' := 16) rfl (hb hby d7_11) (by decide) (by decide) k) ?_
    refine own_retN X1 hx hlk (t := .char) (w := (88 : Int32)) Bd.returns (by simp) (hb hby d7_16) rfl (by decide) (by decide) ?_
    exact ⟨congrArg some (congrArg Value.int (show (88 : Int32) = (fnTok wm) from by unfold fnTok; rw [if_pos hc6_2])), N0, e1⟩
  · refine own_step (T' := T1) (g' := (mkF m 14 #[.val (.ref p0)] [])) (fun t k => XS.ifYes X1.here hx rfl (pc0 := 6) (pc' := 14) rfl (hb hby d7_6) rfl ((if0 _ _).trans (feq hc6_2).2) (by decide) (by decide) k) ?_
    refine own_step (T' := T1) (g' := (mkF m 16 #[.val (.ref p0)] [(.int (79 : Int32))])) (fun t k => XS.bipush X1.here hx rfl (hb hby d7_14) k) ?_
    refine own_retN X1 hx hlk (t := .char) (w := (79 : Int32)) Bd.returns (by simp) (hb hby d7_16) rfl (by decide) (by decide) ?_
    exact ⟨congrArg some (congrArg Value.int (show (79 : Int32) = (fnTok wm) from by unfold fnTok; rw [if_neg hc6_2])), N0, e1⟩
def own_wn (c t w : Int32) : Int32 := if (c &&& (7 : Int32)) = (7 : Int32) then t else if (c &&& (56 : Int32)) = (56 : Int32) then t else if (c &&& (448 : Int32)) = (448 : Int32) then t else if (c &&& (73 : Int32)) = (73 : Int32) then t else if (c &&& (146 : Int32)) = (146 : Int32) then t else if (c &&& (292 : Int32)) = (292 : Int32) then t else if (c &&& (273 : Int32)) = (273 : Int32) then t else if (c &&& (84 : Int32)) = (84 : Int32) then t else w
def own_play (c x o m w x1 o1 w1 : Int32) : Prop := (fnTok m = 88 ∧ x1 = (x ||| ((1 : Int32) <<< (c &&& 31))) ∧ o1 = o ∧ w1 = own_wn x1 (nar .char (fnTok m)) w) ∨ (¬ fnTok m = 88 ∧ x1 = x ∧ o1 = (o ||| ((1 : Int32) <<< (c &&& 31))) ∧ w1 = own_wn o1 (nar .char (fnTok m)) w)
theorem ef_rm4 (m : MethodId) (x0 : Addr) (x1 : Int32) : entryFrame m #[(.ref x0), (.int x1)] 8 = mkF m 0 #[.val (.ref x0), .val (.int x1), .unset, .unset, .unset, .unset, .unset, .unset] [] := by first | (simp [entryFrame, mkF, argsToLocals, Value.category]; done) | rfl
def Qrm4 (Z : State) (p0 : Addr) (p1 : Int32) (wx : Int32) (wo : Int32) (wm : Int32) (ww : Int32) (wl : Int32) (aL : Addr) (kL : ClassId) (h0 : Heap) (n0 : Nat) (v : Option Value) (h : Heap) (L : List Loc) : Prop := ∃ (x1 : Int32) (o1 : Int32) (w1 : Int32), v = none ∧ Fr n0 L ∧ Keep h0 h [p0] ∧ Fld Z h p0 "com/example/tilescript/tilescript/TicTacToe" "xCells" "I" (.int x1) ∧ Fld Z h p0 "com/example/tilescript/tilescript/TicTacToe" "oCells" "I" (.int o1) ∧ Fld Z h p0 "com/example/tilescript/tilescript/TicTacToe" "marks" "I" (.int (wm + (1 : Int32))) ∧ Fld Z h p0 "com/example/tilescript/tilescript/TicTacToe" "winner" "C" (.int w1) ∧ Fld Z h p0 "com/example/tilescript/tilescript/TicTacToe" "lastMove" "I" (.int p1) ∧ own_play p1 wx wo wm ww x1 o1 w1
set_option maxRecDepth 65536 in
set_option maxHeartbeats 40000000 in
theorem rm4 (l : Launch) (Z : State) (a0 : Array Value) (hw : ∀ d ∈ tables_1, d.before a0 Z = true) (ws : List Jvm.Cond) (p0 : Addr) (p1 : Int32) (wx : Int32) (wo : Int32) (wm : Int32) (ww : Int32) (wl : Int32) (aL : Addr) (kL : ClassId) (h0 : Heap) (n0 : Nat) (Z0 : n0 ≤ h0.size) (E_p0 : Exa Z h0 p0 "com/example/tilescript/tilescript/TicTacToe") (F_xCells_p0 : Fld Z h0 p0 "com/example/tilescript/tilescript/TicTacToe" "xCells" "I" (.int wx)) (F_oCells_p0 : Fld Z h0 p0 "com/example/tilescript/tilescript/TicTacToe" "oCells" "I" (.int wo)) (F_marks_p0 : Fld Z h0 p0 "com/example/tilescript/tilescript/TicTacToe" "marks" "I" (.int wm)) (F_winner_p0 : Fld Z h0 p0 "com/example/tilescript/tilescript/TicTacToe" "winner" "C" (.int ww)) (F_lastMove_p0 : Fld Z h0 p0 "com/example/tilescript/tilescript/TicTacToe" "lastMove" "I" (.int wl)) (g_p0 : n0 ≤ p0) (S_LINES : Sta Z h0 "com/example/tilescript/tilescript/TicTacToe" "LINES" "[I" (.ref aL)) (V_aL : Arv Z h0 aL kL .int (8 : Int32) [(.int (7 : Int32)), (.int (56 : Int32)), (.int (448 : Int32)), (.int (73 : Int32)), (.int (146 : Int32)), (.int (292 : Int32)), (.int (273 : Int32)), (.int (84 : Int32))] (.int (0 : Int32))) (neL : aL ≠ p0) (hleg : ¬ ((fnLegal p1 ww wm wx wo) = (0 : Int32))) :
    MetFree l (⟨"com/example/tilescript/tilescript/TicTacToe", "play", "(I)V"⟩ : MethodName) (head1 (Jvm.Cond.code (⟨"com/example/tilescript/tilescript/TicTacToe", "play", "(I)V"⟩ : MethodName) prog_19_method_8_code 8 none :: ws) ({ frames := 2, cells := 0, slots := 0, locals := 25 } : Room)) (fun a U => a = #[(.ref p0), (.int p1)] ∧ Z.Warmed39 U.vm ∧ U.heap = h0) (fun _ _ _ _ _ => True) (fun _ U o U' => ∃ v L, o = .returned v ∧ Qrm4 Z p0 p1 wx wo wm ww wl aL kL h0 n0 v U'.heap L ∧ FrameEnd U o U' L ({ frames := 2, cells := 0, slots := 0, locals := 25 } : Room).cells ({ frames := 2, cells := 0, slots := 0, locals := 25 } : Room).slots) := by
  refine MetFree.of_bodySF (plainFor_of_name pn_4) hisR ?_
  intro p e s m args below meth c s₁ Bd hml0 hP hK
  obtain ⟨rfl, hZ, hh⟩ := hP
  have hx := Bd.exec
  have hby := Bd.bytes
  have hlk : meth.locks = false := BodyLoose.notSynchronized Bd
  have hml : c.maxLocals = 8 := hml0
  have hown : s.vm.findClass "com/example/tilescript/tilescript/TicTacToe" = some m.cls := findClass_of_methodNamed Bd.named
  have hnm := (name_of_methodNamed Bd.named Bd.method).1
  have X0 : Stand p l e ({ frames := 2, cells := 0, slots := 0, locals := 25 } : Room) s m #[(.ref p0), (.int p1)] below meth c s₁ [] 0 0 := Stand.of_body Bd
  have e0 : s₁.heap = h0 := by rw [← hh, Bd.state]; rfl
  have N0 := Fr.nil n0
  have K0 : Keep h0 h0 [p0] := Keep.refl h0 [p0]
  show own_G p e below s 0 0 (Qrm4 Z p0 p1 wx wo wm ww wl aL kL h0 n0) s₁ (entryFrame m #[(.ref p0), (.int p1)] 8)
  rw [ef_rm4 m p0 p1]
  refine own_step (T' := s₁) (g' := (mkF m 1 #[.val (.ref p0), .val (.int p1), .unset, .unset, .unset, .unset, .unset, .unset] [(.ref p0)])) (fun t k => XS.aloadN X0.here hx rfl (hb hby d4_0) rfl rfl k) ?_
  refine own_step (T' := s₁) (g' := (mkF m 2 #[.val (.ref p0), .val (.int p1), .unset, .unset, .unset, .unset, .unset, .unset] [(.int p1), (.ref p0)])) (fun t k => XS.iloadN X0.here hx rfl (hb hby d4_1) rfl k) ?_
  obtain ⟨cq1, kq1, qq1a, qq1b, qq1c⟩ := isOf hZ e0 E_p0
  obtain ⟨_, _, ⟨T1, L1, kk1, nn1⟩, -, X1, ⟨Lc1, hQ1, l1, y1, z1⟩, st1⟩ := X0.virtualBack hx (y := (⟨"com/example/tilescript/tilescript/TicTacToe", "isLegal", "(I)Z"⟩ : MethodName)) (z := (⟨"com/example/tilescript/tilescript/TicTacToe", "isLegal", "(I)Z"⟩ : MethodName)) hown (mvT hZ (hw _ (List.mem_of_getElem? (i := 24) rfl))) (mvT hZ (hw _ (List.mem_of_getElem? (i := 25) rfl))) (notFace_of_selects (args := #[]) (mvT hZ (hw _ (List.mem_of_getElem? (i := 27) rfl)))) (mvT hZ (hw _ (List.mem_of_getElem? (i := 27) rfl))) (mvT hZ (hw _ (List.mem_of_getElem? (i := 26) rfl))) (by decide) (backOf (W := 0) (rm5 l Z a0 hw [] p0 p1 ww wm wx wo h0 n0 (Nat.le_trans Z0 K0.1) E_p0 F_winner_p0 F_marks_p0 F_xCells_p0 F_oCells_p0) hZ (hw _ (List.mem_of_getElem? (i := 28) rfl)) (hw _ (List.mem_of_getElem? (i := 2) rfl)) (by decide) (by decide)) qq1a qq1c (g := (mkF m 2 #[.val (.ref p0), .val (.int p1), .unset, .unset, .unset, .unset, .unset, .unset] [(.int p1), (.ref p0)])) rfl (by rw [hml]; rfl) (Steps.refl _) (argsL := [(.int p1)]) (rest := []) (lenOf pd_3 rfl) rfl (by show 2 * 0 + _ ≤ _; exact Nat.le_of_eq rfl) (hb hby d4_2) (fun _ _ => ⟨rfl, e0, (by decide : 0 + 0 ≤ _), (by decide : 0 + 0 ≤ _)⟩)
  dsimp only [Pt.U, Pt.locs, Pt.cells, Pt.slots] at X1 l1 y1 z1 st1 hQ1
  subst l1 y1 z1
  obtain ⟨rfl, N1q, eq1⟩ := hQ1
  have N1 := Fr.app N0 N1q
  refine own_step (T' := T1) (g' := (mkF m 5 #[.val (.ref p0), .val (.int p1), .unset, .unset, .unset, .unset, .unset, .unset] [(.int (fnLegal p1 ww wm wx wo))])) (fun t k => st1.trans k) ?_
  refine own_step (T' := T1) (g' := (mkF m 26 #[.val (.ref p0), .val (.int p1), .unset, .unset, .unset, .unset, .unset, .unset] [])) (fun t k => XS.ifYes X1.here hx rfl (pc0 := 5) (pc' := 26) rfl (hb hby d4_5) rfl ((if0 _ _).trans (feq hleg).2) (by decide) (by decide) k) ?_
  refine own_step (T' := T1) (g' := (mkF m 27 #[.val (.ref p0), .val (.int p1), .unset, .unset, .unset, .unset, .unset, .unset] [(.ref p0)])) (fun t k => XS.aloadN X1.here hx rfl (hb hby d4_26) rfl rfl k) ?_
  obtain ⟨cq2, kq2, qq2a, qq2b, qq2c⟩ := isOf hZ eq1 E_p0
  obtain ⟨_, _, ⟨T2, L2, kk2, nn2⟩, -, X2, ⟨Lc2, hQ2, l2, y2, z2⟩, st2⟩ := X1.virtualBack hx (y := (⟨"com/example/tilescript/tilescript/TicTacToe", "token", "()C"⟩ : MethodName)) (z := (⟨"com/example/tilescript/tilescript/TicTacToe", "token", "()C"⟩ : MethodName)) hown (mvT hZ (hw _ (List.mem_of_getElem? (i := 40) rfl))) (mvT hZ (hw _ (List.mem_of_getElem? (i := 41) rfl))) (notFace_of_selects (args := #[]) (mvT hZ (hw _ (List.mem_of_getElem? (i := 43) rfl)))) (mvT hZ (hw _ (List.mem_of_getElem? (i := 43) rfl))) (mvT hZ (hw _ (List.mem_of_getElem? (i := 42) rfl))) (by decide) (backOf (W := 0) (rm7 l Z a0 hw [] p0 wm h0 n0 (Nat.le_trans Z0 K0.1) F_marks_p0) hZ (hw _ (List.mem_of_getElem? (i := 44) rfl)) (hw _ (List.mem_of_getElem? (i := 2) rfl)) (by decide) (by decide)) qq2a qq2c (g := (mkF m 27 #[.val (.ref p0), .val (.int p1), .unset, .unset, .unset, .unset, .unset, .unset] [(.ref p0)])) rfl (by rw [hml]; rfl) (Steps.refl _) (argsL := []) (rest := []) (lenOf pd_5 rfl) rfl (by show 2 * 0 + _ ≤ _; exact Nat.le_of_eq rfl) (hb hby d4_27) (fun _ _ => ⟨rfl, eq1, (by decide : 0 + 0 ≤ _), (by decide : 0 + 0 ≤ _)⟩)
  dsimp only [Pt.U, Pt.locs, Pt.cells, Pt.slots] at X2 l2 y2 z2 st2 hQ2
  subst l2 y2 z2
  obtain ⟨rfl, N2q, eq2⟩ := hQ2
  have N2 := Fr.app N1 N2q
  refine own_step (T' := T2) (g' := (mkF m 30 #[.val (.ref p0), .val (.int p1), .unset, .unset, .unset, .unset, .unset, .unset] [(.int (fnTok wm))])) (fun t k => st2.trans k) ?_
  refine own_step (T' := T2) (g' := (mkF m 31 #[.val (.ref p0), .val (.int p1), .val (.int (fnTok wm)), .unset, .unset, .unset, .unset, .unset] [])) (fun t k => XS.istoreN X2.here hx rfl (hb hby d4_30) rfl (l' := #[.val (.ref p0), .val (.int p1), .val (.int (fnTok wm)), .unset, .unset, .unset, .unset, .unset]) rfl k) ?_
  refine own_step (T' := T2) (g' := (mkF m 32 #[.val (.ref p0), .val (.int p1), .val (.int (fnTok wm)), .unset, .unset, .unset, .unset, .unset] [(.int (fnTok wm))])) (fun t k => XS.iloadN X2.here hx rfl (hb hby d4_31) rfl k) ?_
  refine own_step (T' := T2) (g' := (mkF m 34 #[.val (.ref p0), .val (.int p1), .val (.int (fnTok wm)), .unset, .unset, .unset, .unset, .unset] [(.int (88 : Int32)), (.int (fnTok wm))])) (fun t k => XS.bipush X2.here hx rfl (hb hby d4_32) k) ?_
  by_cases hc34_3 : (fnTok wm) = (88 : Int32)
  · refine own_step (T' := T2) (g' := (mkF m 37 #[.val (.ref p0), .val (.int p1), .val (.int (fnTok wm)), .unset, .unset, .unset, .unset, .unset] [])) (fun t k => XS.icmpNo X2.here hx rfl (hb hby d4_34) rfl (teq hc34_3).2 k) ?_
    refine own_step (T' := T2) (g' := (mkF m 38 #[.val (.ref p0), .val (.int p1), .val (.int (fnTok wm)), .unset, .unset, .unset, .unset, .unset] [(.ref p0)])) (fun t k => XS.aloadN X2.here hx rfl (hb hby d4_37) rfl rfl k) ?_
    refine own_step (T' := T2) (g' := (mkF m 39 #[.val (.ref p0), .val (.int p1), .val (.int (fnTok wm)), .unset, .unset, .unset, .unset, .unset] [(.ref p0), (.ref p0)])) (fun t k => XS.dup X2.here hx rfl (hb hby d4_38) rfl rfl k) ?_
    obtain ⟨T4, X4, e4, st4⟩ := getF X2 hx hZ hown (host := "") (Or.inl (hw _ (List.mem_of_getElem? (i := 36) rfl))) Via.refl eq2 F_xCells_p0 (g := (mkF m 39 #[.val (.ref p0), .val (.int p1), .val (.int (fnTok wm)), .unset, .unset, .unset, .unset, .unset] [(.ref p0), (.ref p0)])) rfl rfl (hb hby d4_39)
    refine own_step (T' := T4) (g' := (mkF m 42 #[.val (.ref p0), .val (.int p1), .val (.int (fnTok wm)), .unset, .unset, .unset, .unset, .unset] [(.int wx), (.ref p0)])) st4 ?_
    refine own_step (T' := T4) (g' := (mkF m 43 #[.val (.ref p0), .val (.int p1), .val (.int (fnTok wm)), .unset, .unset, .unset, .unset, .unset] [(.int (1 : Int32)), (.int wx), (.ref p0)])) (fun t k => XS.iconst X4.here hx rfl (hb hby d4_42) k) ?_
    refine own_step (T' := T4) (g' := (mkF m 44 #[.val (.ref p0), .val (.int p1), .val (.int (fnTok wm)), .unset, .unset, .unset, .unset, .unset] [(.int p1), (.int (1 : Int32)), (.int wx), (.ref p0)])) (fun t k => XS.iloadN X4.here hx rfl (hb hby d4_43) rfl k) ?_
    refine own_step (T' := T4) (g' := (mkF m 45 #[.val (.ref p0), .val (.int p1), .val (.int (fnTok wm)), .unset, .unset, .unset, .unset, .unset] [(.int ((1 : Int32) <<< (p1 &&& 31))), (.int wx), (.ref p0)])) (fun t k => XS.ishl X4.here hx rfl (hb hby d4_44) rfl k) ?_
    refine own_step (T' := T4) (g' := (mkF m 46 #[.val (.ref p0), .val (.int p1), .val (.int (fnTok wm)), .unset, .unset, .unset, .unset, .unset] [(.int (wx ||| ((1 : Int32) <<< (p1 &&& 31)))), (.ref p0)])) (fun t k => XS.ior X4.here hx rfl (hb hby d4_45) rfl k) ?_
    obtain ⟨T5, h5, X5, e5, W5, st5⟩ := putF X4 hx hZ hown (host := "") (Or.inl (hw _ (List.mem_of_getElem? (i := 36) rfl))) Via.refl e4 F_xCells_p0 E_p0 (Or.inl (hw _ (List.mem_of_getElem? (i := 37) rfl))) (hw _ (List.mem_of_getElem? (i := 1) rfl)) (ty := .int) (by decide) rfl rfl (g := (mkF m 46 #[.val (.ref p0), .val (.int p1), .val (.int (fnTok wm)), .unset, .unset, .unset, .unset, .unset] [(.int (wx ||| ((1 : Int32) <<< (p1 &&& 31)))), (.ref p0)])) rfl rfl (hb hby d4_46)
    have E_p0_5 : Exa Z h5 p0 "com/example/tilescript/tilescript/TicTacToe" := E_p0.wr W5
    have F_oCells_p0_5 : Fld Z h5 p0 "com/example/tilescript/tilescript/TicTacToe" "oCells" "I" (.int wo) := F_oCells_p0.other W5 (Or.inr (slot_ne (Or.inl (hw _ (List.mem_of_getElem? (i := 39) rfl))) (Or.inl (hw _ (List.mem_of_getElem? (i := 37) rfl))) (by decide) (t := .int) (t' := .int) (by decide) (by decide)))
    have F_marks_p0_5 : Fld Z h5 p0 "com/example/tilescript/tilescript/TicTacToe" "marks" "I" (.int wm) := F_marks_p0.other W5 (Or.inr (slot_ne (Or.inl (hw _ (List.mem_of_getElem? (i := 35) rfl))) (Or.inl (hw _ (List.mem_of_getElem? (i := 37) rfl))) (by decide) (t := .int) (t' := .int) (by decide) (by decide)))
    have F_winner_p0_5 : Fld Z h5 p0 "com/example/tilescript/tilescript/TicTacToe" "winner" "C" (.int ww) := F_winner_p0.other W5 (Or.inr (slot_ne (Or.inl (hw _ (List.mem_of_getElem? (i := 12) rfl))) (Or.inl (hw _ (List.mem_of_getElem? (i := 37) rfl))) (by decide) (t := .char) (t' := .int) (by decide) (by decide)))
    have F_lastMove_p0_5 : Fld Z h5 p0 "com/example/tilescript/tilescript/TicTacToe" "lastMove" "I" (.int wl) := F_lastMove_p0.other W5 (Or.inr (slot_ne (Or.inl (hw _ (List.mem_of_getElem? (i := 10) rfl))) (Or.inl (hw _ (List.mem_of_getElem? (i := 37) rfl))) (by decide) (t := .int) (t' := .int) (by decide) (by decide)))
    have S_LINES_5 : Sta Z h5 "com/example/tilescript/tilescript/TicTacToe" "LINES" "[I" (.ref aL) := S_LINES.wr W5
    have V_aL_5 : Arv Z h5 aL kL .int (8 : Int32) [(.int (7 : Int32)), (.int (56 : Int32)), (.int (448 : Int32)), (.int (73 : Int32)), (.int (146 : Int32)), (.int (292 : Int32)), (.int (273 : Int32)), (.int (84 : Int32))] (.int (0 : Int32)) := V_aL.other W5 neL
    have K_5 : Keep h0 h5 [p0] := K0.wr W5 (Or.inl (List.mem_of_getElem? (i := 0) rfl))
    have N5 := Fr.snoc X5 N2 g_p0
    have F_xCells_p0_5 : Fld Z h5 p0 "com/example/tilescript/tilescript/TicTacToe" "xCells" "I" (.int (wx ||| ((1 : Int32) <<< (p1 &&& 31)))) := F_xCells_p0.same W5
    refine own_step (T' := T5) (g' := (mkF m 49 #[.val (.ref p0), .val (.int p1), .val (.int (fnTok wm)), .unset, .unset, .unset, .unset, .unset] [])) st5 ?_
    refine own_step (T' := T5) (g' := (mkF m 50 #[.val (.ref p0), .val (.int p1), .val (.int (fnTok wm)), .unset, .unset, .unset, .unset, .unset] [(.ref p0)])) (fun t k => XS.aloadN X5.here hx rfl (hb hby d4_49) rfl rfl k) ?_
    obtain ⟨T6, X6, e6, st6⟩ := getF X5 hx hZ hown (host := "") (Or.inl (hw _ (List.mem_of_getElem? (i := 36) rfl))) Via.refl e5 F_xCells_p0_5 (g := (mkF m 50 #[.val (.ref p0), .val (.int p1), .val (.int (fnTok wm)), .unset, .unset, .unset, .unset, .unset] [(.ref p0)])) rfl rfl (hb hby d4_50)
    refine own_step (T' := T6) (g' := (mkF m 53 #[.val (.ref p0), .val (.int p1), .val (.int (fnTok wm)), .unset, .unset, .unset, .unset, .unset] [(.int (wx ||| ((1 : Int32) <<< (p1 &&& 31))))])) st6 ?_
    refine own_step (T' := T6) (g' := (mkF m 54 #[.val (.ref p0), .val (.int p1), .val (.int (fnTok wm)), .val (.int (wx ||| ((1 : Int32) <<< (p1 &&& 31)))), .unset, .unset, .unset, .unset] [])) (fun t k => XS.istoreN X6.here hx rfl (hb hby d4_53) rfl (l' := #[.val (.ref p0), .val (.int p1), .val (.int (fnTok wm)), .val (.int (wx ||| ((1 : Int32) <<< (p1 &&& 31)))), .unset, .unset, .unset, .unset]) rfl k) ?_
    refine own_step (T' := T6) (g' := (mkF m 74 #[.val (.ref p0), .val (.int p1), .val (.int (fnTok wm)), .val (.int (wx ||| ((1 : Int32) <<< (p1 &&& 31)))), .unset, .unset, .unset, .unset] [])) (fun t k => XS.goto X6.here hx rfl (pc0 := 54) (pc' := 74) rfl (hb hby d4_54) (by decide) (by decide) k) ?_
    refine own_step (T' := T6) (g' := (mkF m 75 #[.val (.ref p0), .val (.int p1), .val (.int (fnTok wm)), .val (.int (wx ||| ((1 : Int32) <<< (p1 &&& 31)))), .unset, .unset, .unset, .unset] [(.ref p0)])) (fun t k => XS.aloadN X6.here hx rfl (hb hby d4_74) rfl rfl k) ?_
    refine own_step (T' := T6) (g' := (mkF m 76 #[.val (.ref p0), .val (.int p1), .val (.int (fnTok wm)), .val (.int (wx ||| ((1 : Int32) <<< (p1 &&& 31)))), .unset, .unset, .unset, .unset] [(.ref p0), (.ref p0)])) (fun t k => XS.dup X6.here hx rfl (hb hby d4_75) rfl rfl k) ?_
    obtain ⟨T7, X7, e7, st7⟩ := getF X6 hx hZ hown (host := "") (Or.inl (hw _ (List.mem_of_getElem? (i := 34) rfl))) Via.refl e6 F_marks_p0_5 (g := (mkF m 76 #[.val (.ref p0), .val (.int p1), .val (.int (fnTok wm)), .val (.int (wx ||| ((1 : Int32) <<< (p1 &&& 31)))), .unset, .unset, .unset, .unset] [(.ref p0), (.ref p0)])) rfl rfl (hb hby d4_76)
    refine own_step (T' := T7) (g' := (mkF m 79 #[.val (.ref p0), .val (.int p1), .val (.int (fnTok wm)), .val (.int (wx ||| ((1 : Int32) <<< (p1 &&& 31)))), .unset, .unset, .unset, .unset] [(.int wm), (.ref p0)])) st7 ?_
    refine own_step (T' := T7) (g' := (mkF m 80 #[.val (.ref p0), .val (.int p1), .val (.int (fnTok wm)), .val (.int (wx ||| ((1 : Int32) <<< (p1 &&& 31)))), .unset, .unset, .unset, .unset] [(.int (1 : Int32)), (.int wm), (.ref p0)])) (fun t k => XS.iconst X7.here hx rfl (hb hby d4_79) k) ?_
    refine own_step (T' := T7) (g' := (mkF m 81 #[.val (.ref p0), .val (.int p1), .val (.int (fnTok wm)), .val (.int (wx ||| ((1 : Int32) <<< (p1 &&& 31)))), .unset, .unset, .unset, .unset] [(.int (wm + (1 : Int32))), (.ref p0)])) (fun t k => XS.iadd X7.here hx rfl (hb hby d4_80) rfl k) ?_
    obtain ⟨T8, h8, X8, e8, W8, st8⟩ := putF X7 hx hZ hown (host := "") (Or.inl (hw _ (List.mem_of_getElem? (i := 34) rfl))) Via.refl e7 F_marks_p0_5 E_p0_5 (Or.inl (hw _ (List.mem_of_getElem? (i := 35) rfl))) (hw _ (List.mem_of_getElem? (i := 1) rfl)) (ty := .int) (by decide) rfl rfl (g := (mkF m 81 #[.val (.ref p0), .val (.int p1), .val (.int (fnTok wm)), .val (.int (wx ||| ((1 : Int32) <<< (p1 &&& 31)))), .unset, .unset, .unset, .unset] [(.int (wm + (1 : Int32))), (.ref p0)])) rfl rfl (hb hby d4_81)
    have E_p0_8 : Exa Z h8 p0 "com/example/tilescript/tilescript/TicTacToe" := E_p0_5.wr W8
    have F_oCells_p0_8 : Fld Z h8 p0 "com/example/tilescript/tilescript/TicTacToe" "oCells" "I" (.int wo) := F_oCells_p0_5.other W8 (Or.inr (slot_ne (Or.inl (hw _ (List.mem_of_getElem? (i := 39) rfl))) (Or.inl (hw _ (List.mem_of_getElem? (i := 35) rfl))) (by decide) (t := .int) (t' := .int) (by decide) (by decide)))
    have F_winner_p0_8 : Fld Z h8 p0 "com/example/tilescript/tilescript/TicTacToe" "winner" "C" (.int ww) := F_winner_p0_5.other W8 (Or.inr (slot_ne (Or.inl (hw _ (List.mem_of_getElem? (i := 12) rfl))) (Or.inl (hw _ (List.mem_of_getElem? (i := 35) rfl))) (by decide) (t := .char) (t' := .int) (by decide) (by decide)))
    have F_lastMove_p0_8 : Fld Z h8 p0 "com/example/tilescript/tilescript/TicTacToe" "lastMove" "I" (.int wl) := F_lastMove_p0_5.other W8 (Or.inr (slot_ne (Or.inl (hw _ (List.mem_of_getElem? (i := 10) rfl))) (Or.inl (hw _ (List.mem_of_getElem? (i := 35) rfl))) (by decide) (t := .int) (t' := .int) (by decide) (by decide)))
    have S_LINES_8 : Sta Z h8 "com/example/tilescript/tilescript/TicTacToe" "LINES" "[I" (.ref aL) := S_LINES_5.wr W8
    have V_aL_8 : Arv Z h8 aL kL .int (8 : Int32) [(.int (7 : Int32)), (.int (56 : Int32)), (.int (448 : Int32)), (.int (73 : Int32)), (.int (146 : Int32)), (.int (292 : Int32)), (.int (273 : Int32)), (.int (84 : Int32))] (.int (0 : Int32)) := V_aL_5.other W8 neL
    have F_xCells_p0_8 : Fld Z h8 p0 "com/example/tilescript/tilescript/TicTacToe" "xCells" "I" (.int (wx ||| ((1 : Int32) <<< (p1 &&& 31)))) := F_xCells_p0_5.other W8 (Or.inr (slot_ne (Or.inl (hw _ (List.mem_of_getElem? (i := 37) rfl))) (Or.inl (hw _ (List.mem_of_getElem? (i := 35) rfl))) (by decide) (t := .int) (t' := .int) (by decide) (by decide)))
    have K_8 : Keep h0 h8 [p0] := K_5.wr W8 (Or.inl (List.mem_of_getElem? (i := 0) rfl))
    have N8 := Fr.snoc X8 N5 g_p0
    have F_marks_p0_8 : Fld Z h8 p0 "com/example/tilescript/tilescript/TicTacToe" "marks" "I" (.int (wm + (1 : Int32))) := F_marks_p0_5.same W8
    refine own_step (T' := T8) (g' := (mkF m 84 #[.val (.ref p0), .val (.int p1), .val (.int (fnTok wm)), .val (.int (wx ||| ((1 : Int32) <<< (p1 &&& 31)))), .unset, .unset, .unset, .unset] [])) st8 ?_
    refine own_step (T' := T8) (g' := (mkF m 85 #[.val (.ref p0), .val (.int p1), .val (.int (fnTok wm)), .val (.int (wx ||| ((1 : Int32) <<< (p1 &&& 31)))), .unset, .unset, .unset, .unset] [(.ref p0)])) (fun t k => XS.aloadN X8.here hx rfl (hb hby d4_84) rfl rfl k) ?_
    refine own_step (T' := T8) (g' := (mkF m 86 #[.val (.ref p0), .val (.int p1), .val (.int (fnTok wm)), .val (.int (wx ||| ((1 : Int32) <<< (p1 &&& 31)))), .unset, .unset, .unset, .unset] [(.int p1), (.ref p0)])) (fun t k => XS.iloadN X8.here hx rfl (hb hby d4_85) rfl k) ?_
    obtain ⟨T9, h9, X9, e9, W9, st9⟩ := putF X8 hx hZ hown (host := "") (Or.inl (hw _ (List.mem_of_getElem? (i := 9) rfl))) Via.refl e8 F_lastMove_p0_8 E_p0_8 (Or.inl (hw _ (List.mem_of_getElem? (i := 10) rfl))) (hw _ (List.mem_of_getElem? (i := 1) rfl)) (ty := .int) (by decide) rfl rfl (g := (mkF m 86 #[.val (.ref p0), .val (.int p1), .val (.int (fnTok wm)), .val (.int (wx ||| ((1 : Int32) <<< (p1 &&& 31)))), .unset, .unset, .unset, .unset] [(.int p1), (.ref p0)])) rfl rfl (hb hby d4_86)
    have E_p0_9 : Exa Z h9 p0 "com/example/tilescript/tilescript/TicTacToe" := E_p0_8.wr W9
    have F_oCells_p0_9 : Fld Z h9 p0 "com/example/tilescript/tilescript/TicTacToe" "oCells" "I" (.int wo) := F_oCells_p0_8.other W9 (Or.inr (slot_ne (Or.inl (hw _ (List.mem_of_getElem? (i := 39) rfl))) (Or.inl (hw _ (List.mem_of_getElem? (i := 10) rfl))) (by decide) (t := .int) (t' := .int) (by decide) (by decide)))
    have F_winner_p0_9 : Fld Z h9 p0 "com/example/tilescript/tilescript/TicTacToe" "winner" "C" (.int ww) := F_winner_p0_8.other W9 (Or.inr (slot_ne (Or.inl (hw _ (List.mem_of_getElem? (i := 12) rfl))) (Or.inl (hw _ (List.mem_of_getElem? (i := 10) rfl))) (by decide) (t := .char) (t' := .int) (by decide) (by decide)))
    have S_LINES_9 : Sta Z h9 "com/example/tilescript/tilescript/TicTacToe" "LINES" "[I" (.ref aL) := S_LINES_8.wr W9
    have V_aL_9 : Arv Z h9 aL kL .int (8 : Int32) [(.int (7 : Int32)), (.int (56 : Int32)), (.int (448 : Int32)), (.int (73 : Int32)), (.int (146 : Int32)), (.int (292 : Int32)), (.int (273 : Int32)), (.int (84 : Int32))] (.int (0 : Int32)) := V_aL_8.other W9 neL
    have F_xCells_p0_9 : Fld Z h9 p0 "com/example/tilescript/tilescript/TicTacToe" "xCells" "I" (.int (wx ||| ((1 : Int32) <<< (p1 &&& 31)))) := F_xCells_p0_8.other W9 (Or.inr (slot_ne (Or.inl (hw _ (List.mem_of_getElem? (i := 37) rfl))) (Or.inl (hw _ (List.mem_of_getElem? (i := 10) rfl))) (by decide) (t := .int) (t' := .int) (by decide) (by decide)))
    have F_marks_p0_9 : Fld Z h9 p0 "com/example/tilescript/tilescript/TicTacToe" "marks" "I" (.int (wm + (1 : Int32))) := F_marks_p0_8.other W9 (Or.inr (slot_ne (Or.inl (hw _ (List.mem_of_getElem? (i := 35) rfl))) (Or.inl (hw _ (List.mem_of_getElem? (i := 10) rfl))) (by decide) (t := .int) (t' := .int) (by decide) (by decide)))
    have K_9 : Keep h0 h9 [p0] := K_8.wr W9 (Or.inl (List.mem_of_getElem? (i := 0) rfl))
    have N9 := Fr.snoc X9 N8 g_p0
    have F_lastMove_p0_9 : Fld Z h9 p0 "com/example/tilescript/tilescript/TicTacToe" "lastMove" "I" (.int p1) := F_lastMove_p0_8.same W9
    refine own_step (T' := T9) (g' := (mkF m 89 #[.val (.ref p0), .val (.int p1), .val (.int (fnTok wm)), .val (.int (wx ||| ((1 : Int32) <<< (p1 &&& 31)))), .unset, .unset, .unset, .unset] [])) st9 ?_
    obtain ⟨T10, X10, e10, st10⟩ := getS2 X9 hx hZ hown (host := "") (Or.inl (hw _ (List.mem_of_getElem? (i := 45) rfl))) Via.refl e9 S_LINES_9 (g := (mkF m 89 #[.val (.ref p0), .val (.int p1), .val (.int (fnTok wm)), .val (.int (wx ||| ((1 : Int32) <<< (p1 &&& 31)))), .unset, .unset, .unset, .unset] [])) rfl (hb hby d4_89)
    refine own_step (T' := T10) (g' := (mkF m 92 #[.val (.ref p0), .val (.int p1), .val (.int (fnTok wm)), .val (.int (wx ||| ((1 : Int32) <<< (p1 &&& 31)))), .unset, .unset, .unset, .unset] [(.ref aL)])) st10 ?_
    refine own_step (T' := T10) (g' := (mkF m 94 #[.val (.ref p0), .val (.int p1), .val (.int (fnTok wm)), .val (.int (wx ||| ((1 : Int32) <<< (p1 &&& 31)))), .val (.ref aL), .unset, .unset, .unset] [])) (fun t k => XS.astore X10.here hx rfl (hb hby d4_92) rfl rfl (l' := #[.val (.ref p0), .val (.int p1), .val (.int (fnTok wm)), .val (.int (wx ||| ((1 : Int32) <<< (p1 &&& 31)))), .val (.ref aL), .unset, .unset, .unset]) rfl k) ?_
    refine own_step (T' := T10) (g' := (mkF m 96 #[.val (.ref p0), .val (.int p1), .val (.int (fnTok wm)), .val (.int (wx ||| ((1 : Int32) <<< (p1 &&& 31)))), .val (.ref aL), .unset, .unset, .unset] [(.ref aL)])) (fun t k => XS.aload X10.here hx rfl (hb hby d4_94) rfl rfl k) ?_
    obtain ⟨cl11, Ar11, q11, Sz11, Nn11, Hh11, Gg11⟩ := id V_aL_9
    refine own_step (T' := T10) (g' := (mkF m 97 #[.val (.ref p0), .val (.int p1), .val (.int (fnTok wm)), .val (.int (wx ||| ((1 : Int32) <<< (p1 &&& 31)))), .val (.ref aL), .unset, .unset, .unset] [(.int (8 : Int32))])) (fun t k => X10.arraylength hx (by rw [e10]; exact Ar11.1) (State.isArrayOf_alike hZ.alike Ar11.2.1) (g := (mkF m 96 #[.val (.ref p0), .val (.int p1), .val (.int (fnTok wm)), .val (.int (wx ||| ((1 : Int32) <<< (p1 &&& 31)))), .val (.ref aL), .unset, .unset, .unset] [(.ref aL)])) rfl rfl (hb hby d4_96) t (by rw [len_of Sz11 Nn11]; exact k)) ?_
    refine own_step (T' := T10) (g' := (mkF m 99 #[.val (.ref p0), .val (.int p1), .val (.int (fnTok wm)), .val (.int (wx ||| ((1 : Int32) <<< (p1 &&& 31)))), .val (.ref aL), .val (.int (8 : Int32)), .unset, .unset] [])) (fun t k => XS.istore X10.here hx rfl (hb hby d4_97) rfl (l' := #[.val (.ref p0), .val (.int p1), .val (.int (fnTok wm)), .val (.int (wx ||| ((1 : Int32) <<< (p1 &&& 31)))), .val (.ref aL), .val (.int (8 : Int32)), .unset, .unset]) rfl k) ?_
    refine own_step (T' := T10) (g' := (mkF m 100 #[.val (.ref p0), .val (.int p1), .val (.int (fnTok wm)), .val (.int (wx ||| ((1 : Int32) <<< (p1 &&& 31)))), .val (.ref aL), .val (.int (8 : Int32)), .unset, .unset] [(.int (0 : Int32))])) (fun t k => XS.iconst X10.here hx rfl (hb hby d4_99) k) ?_
    refine own_step (T' := T10) (g' := (mkF m 102 #[.val (.ref p0), .val (.int p1), .val (.int (fnTok wm)), .val (.int (wx ||| ((1 : Int32) <<< (p1 &&& 31)))), .val (.ref aL), .val (.int (8 : Int32)), .val (.int (0 : Int32)), .unset] [])) (fun t k => XS.istore X10.here hx rfl (hb hby d4_100) rfl (l' := #[.val (.ref p0), .val (.int p1), .val (.int (fnTok wm)), .val (.int (wx ||| ((1 : Int32) <<< (p1 &&& 31)))), .val (.ref aL), .val (.int (8 : Int32)), .val (.int (0 : Int32)), .unset]) rfl k) ?_
    refine own_step (T' := T10) (g' := (mkF m 104 #[.val (.ref p0), .val (.int p1), .val (.int (fnTok wm)), .val (.int (wx ||| ((1 : Int32) <<< (p1 &&& 31)))), .val (.ref aL), .val (.int (8 : Int32)), .val (.int (0 : Int32)), .unset] [(.int (0 : Int32))])) (fun t k => XS.iload X10.here hx rfl (hb hby d4_102) rfl k) ?_
    refine own_step (T' := T10) (g' := (mkF m 106 #[.val (.ref p0), .val (.int p1), .val (.int (fnTok wm)), .val (.int (wx ||| ((1 : Int32) <<< (p1 &&& 31)))), .val (.ref aL), .val (.int (8 : Int32)), .val (.int (0 : Int32)), .unset] [(.int (8 : Int32)), (.int (0 : Int32))])) (fun t k => XS.iload X10.here hx rfl (hb hby d4_104) rfl k) ?_
    refine own_step (T' := T10) (g' := (mkF m 109 #[.val (.ref p0), .val (.int p1), .val (.int (fnTok wm)), .val (.int (wx ||| ((1 : Int32) <<< (p1 &&& 31)))), .val (.ref aL), .val (.int (8 : Int32)), .val (.int (0 : Int32)), .unset] [])) (fun t k => XS.icmpNo X10.here hx rfl (hb hby d4_106) rfl (tlt (by decide : (0 : Int32) < (8 : Int32))).2.1 k) ?_
    refine own_step (T' := T10) (g' := (mkF m 111 #[.val (.ref p0), .val (.int p1), .val (.int (fnTok wm)), .val (.int (wx ||| ((1 : Int32) <<< (p1 &&& 31)))), .val (.ref aL), .val (.int (8 : Int32)), .val (.int (0 : Int32)), .unset] [(.ref aL)])) (fun t k => XS.aload X10.here hx rfl (hb hby d4_109) rfl rfl k) ?_
    refine own_step (T' := T10) (g' := (mkF m 113 #[.val (.ref p0), .val (.int p1), .val (.int (fnTok wm)), .val (.int (wx ||| ((1 : Int32) <<< (p1 &&& 31)))), .val (.ref aL), .val (.int (8 : Int32)), .val (.int (0 : Int32)), .unset] [(.int (0 : Int32)), (.ref aL)])) (fun t k => XS.iload X10.here hx rfl (hb hby d4_111) rfl k) ?_
    obtain ⟨cl12, Ar12, q12, Sz12, Nn12, Hh12, Gg12⟩ := id V_aL_9
    have hin12 : ¬ ((0 : Int32) < 0 ∨ cl12.slots.size ≤ ((0 : Int32)).toNatClampNeg) := inb_of Sz12 ⟨by decide, by decide⟩
    refine own_step (T' := T10) (g' := (mkF m 114 #[.val (.ref p0), .val (.int p1), .val (.int (fnTok wm)), .val (.int (wx ||| ((1 : Int32) <<< (p1 &&& 31)))), .val (.ref aL), .val (.int (8 : Int32)), .val (.int (0 : Int32)), .unset] [(.int (7 : Int32))])) (fun t k => X10.iaload hx (j := (0 : Int32)) (v := (.int (7 : Int32))) (by rw [e10]; exact Ar12.1) (State.isArrayOf_alike hZ.alike Ar12.2.1) Ar12.2.2 hin12 (Has.at Hh12 hin12 rfl) (g := (mkF m 113 #[.val (.ref p0), .val (.int p1), .val (.int (fnTok wm)), .val (.int (wx ||| ((1 : Int32) <<< (p1 &&& 31)))), .val (.ref aL), .val (.int (8 : Int32)), .val (.int (0 : Int32)), .unset] [(.int (0 : Int32)), (.ref aL)])) rfl rfl (hb hby d4_113) t k) ?_
    refine own_step (T' := T10) (g' := (mkF m 116 #[.val (.ref p0), .val (.int p1), .val (.int (fnTok wm)), .val (.int (wx ||| ((1 : Int32) <<< (p1 &&& 31)))), .val (.ref aL), .val (.int (8 : Int32)), .val (.int (0 : Int32)), .val (.int (7 : Int32))] [])) (fun t k => XS.istore X10.here hx rfl (hb hby d4_114) rfl (l' := #[.val (.ref p0), .val (.int p1), .val (.int (fnTok wm)), .val (.int (wx ||| ((1 : Int32) <<< (p1 &&& 31)))), .val (.ref aL), .val (.int (8 : Int32)), .val (.int (0 : Int32)), .val (.int (7 : Int32))]) rfl k) ?_
    refine own_step (T' := T10) (g' := (mkF m 117 #[.val (.ref p0), .val (.int p1), .val (.int (fnTok wm)), .val (.int (wx ||| ((1 : Int32) <<< (p1 &&& 31)))), .val (.ref aL), .val (.int (8 : Int32)), .val (.int (0 : Int32)), .val (.int (7 : Int32))] [(.int (wx ||| ((1 : Int32) <<< (p1 &&& 31))))])) (fun t k => XS.iloadN X10.here hx rfl (hb hby d4_116) rfl k) ?_
    refine own_step (T' := T10) (g' := (mkF m 119 #[.val (.ref p0), .val (.int p1), .val (.int (fnTok wm)), .val (.int (wx ||| ((1 : Int32) <<< (p1 &&& 31)))), .val (.ref aL), .val (.int (8 : Int32)), .val (.int (0 : Int32)), .val (.int (7 : Int32))] [(.int (7 : Int32)), (.int (wx ||| ((1 : Int32) <<< (p1 &&& 31))))])) (fun t k => XS.iload X10.here hx rfl (hb hby d4_117) rfl k) ?_
    refine own_step (T' := T10) (g' := (mkF m 120 #[.val (.ref p0), .val (.int p1), .val (.int (fnTok wm)), .val (.int (wx ||| ((1 : Int32) <<< (p1 &&& 31)))), .val (.ref aL), .val (.int (8 : Int32)), .val (.int (0 : Int32)), .val (.int (7 : Int32))] [(.int ((wx ||| ((1 : Int32) <<< (p1 &&& 31))) &&& (7 : Int32)))])) (fun t k => XS.iand X10.here hx rfl (hb hby d4_119) rfl k) ?_
    refine own_step (T' := T10) (g' := (mkF m 122 #[.val (.ref p0), .val (.int p1), .val (.int (fnTok wm)), .val (.int (wx ||| ((1 : Int32) <<< (p1 &&& 31)))), .val (.ref aL), .val (.int (8 : Int32)), .val (.int (0 : Int32)), .val (.int (7 : Int32))] [(.int (7 : Int32)), (.int ((wx ||| ((1 : Int32) <<< (p1 &&& 31))) &&& (7 : Int32)))])) (fun t k => XS.iload X10.here hx rfl (hb hby d4_120) rfl k) ?_
    by_cases hc122_13 : ((wx ||| ((1 : Int32) <<< (p1 &&& 31))) &&& (7 : Int32)) = (7 : Int32)
    · refine own_step (T' := T10) (g' := (mkF m 125 #[.val (.ref p0), .val (.int p1), .val (.int (fnTok wm)), .val (.int (wx ||| ((1 : Int32) <<< (p1 &&& 31)))), .val (.ref aL), .val (.int (8 : Int32)), .val (.int (0 : Int32)), .val (.int (7 : Int32))] [])) (fun t k => XS.icmpNo X10.here hx rfl (hb hby d4_122) rfl (teq hc122_13).2 k) ?_
      refine own_step (T' := T10) (g' := (mkF m 126 #[.val (.ref p0), .val (.int p1), .val (.int (fnTok wm)), .val (.int (wx ||| ((1 : Int32) <<< (p1 &&& 31)))), .val (.ref aL), .val (.int (8 : Int32)), .val (.int (0 : Int32)), .val (.int (7 : Int32))] [(.ref p0)])) (fun t k => XS.aloadN X10.here hx rfl (hb hby d4_125) rfl rfl k) ?_
      refine own_step (T' := T10) (g' := (mkF m 127 #[.val (.ref p0), .val (.int p1), .val (.int (fnTok wm)), .val (.int (wx ||| ((1 : Int32) <<< (p1 &&& 31)))), .val (.ref aL), .val (.int (8 : Int32)), .val (.int (0 : Int32)), .val (.int (7 : Int32))] [(.int (fnTok wm)), (.ref p0)])) (fun t k => XS.iloadN X10.here hx rfl (hb hby d4_126) rfl k) ?_
      obtain ⟨T14, h14, X14, e14, W14, st14⟩ := putFN X10 hx hZ hown (hw _ (List.mem_of_getElem? (i := 11) rfl)) Via.refl e10 F_winner_p0_9 E_p0_9 (Or.inl (hw _ (List.mem_of_getElem? (i := 12) rfl))) (hw _ (List.mem_of_getElem? (i := 1) rfl)) (ty := .char) (v' := (.int (nar .char (fnTok wm)))) (by decide) rfl (fits_nar_char (fnTok wm)) (g := (mkF m 127 #[.val (.ref p0), .val (.int p1), .val (.int (fnTok wm)), .val (.int (wx ||| ((1 : Int32) <<< (p1 &&& 31)))), .val (.ref aL), .val (.int (8 : Int32)), .val (.int (0 : Int32)), .val (.int (7 : Int32))] [(.int (fnTok wm)), (.ref p0)])) rfl rfl (hb hby d4_127)
      have E_p0_14 : Exa Z h14 p0 "com/example/tilescript/tilescript/TicTacToe" := E_p0_9.wr W14
      have F_oCells_p0_14 : Fld Z h14 p0 "com/example/tilescript/tilescript/TicTacToe" "oCells" "I" (.int wo) := F_oCells_p0_9.other W14 (Or.inr (slot_ne (Or.inl (hw _ (List.mem_of_getElem? (i := 39) rfl))) (Or.inl (hw _ (List.mem_of_getElem? (i := 12) rfl))) (by decide) (t := .int) (t' := .char) (by decide) (by decide)))
      have S_LINES_14 : Sta Z h14 "com/example/tilescript/tilescript/TicTacToe" "LINES" "[I" (.ref aL) := S_LINES_9.wr W14
      have V_aL_14 : Arv Z h14 aL kL .int (8 : Int32) [(.int (7 : Int32)), (.int (56 : Int32)), (.int (448 : Int32)), (.int (73 : Int32)), (.int (146 : Int32)), (.int (292 : Int32)), (.int (273 : Int32)), (.int (84 : Int32))] (.int (0 : Int32)) := V_aL_9.other W14 neL
      have F_xCells_p0_14 : Fld Z h14 p0 "com/example/tilescript/tilescript/TicTacToe" "xCells" "I" (.int (wx ||| ((1 : Int32) <<< (p1 &&& 31)))) := F_xCells_p0_9.other W14 (Or.inr (slot_ne (Or.inl (hw _ (List.mem_of_getElem? (i := 37) rfl))) (Or.inl (hw _ (List.mem_of_getElem? (i := 12) rfl))) (by decide) (t := .int) (t' := .char) (by decide) (by decide)))
      have F_marks_p0_14 : Fld Z h14 p0 "com/example/tilescript/tilescript/TicTacToe" "marks" "I" (.int (wm + (1 : Int32))) := F_marks_p0_9.other W14 (Or.inr (slot_ne (Or.inl (hw _ (List.mem_of_getElem? (i := 35) rfl))) (Or.inl (hw _ (List.mem_of_getElem? (i := 12) rfl))) (by decide) (t := .int) (t' := .char) (by decide) (by decide)))
      have F_lastMove_p0_14 : Fld Z h14 p0 "com/example/tilescript/tilescript/TicTacToe" "lastMove" "I" (.int p1) := F_lastMove_p0_9.other W14 (Or.inr (slot_ne (Or.inl (hw _ (List.mem_of_getElem? (i := 10) rfl))) (Or.inl (hw _ (List.mem_of_getElem? (i := 12) rfl))) (by decide) (t := .int) (t' := .char) (by decide) (by decide)))
      have K_14 : Keep h0 h14 [p0] := K_9.wr W14 (Or.inl (List.mem_of_getElem? (i := 0) rfl))
      have N14 := Fr.snoc X14 N9 g_p0
      have F_winner_p0_14 : Fld Z h14 p0 "com/example/tilescript/tilescript/TicTacToe" "winner" "C" (.int (nar .char (fnTok wm))) := F_winner_p0_9.same W14
      refine own_step (T' := T14) (g' := (mkF m 130 #[.val (.ref p0), .val (.int p1), .val (.int (fnTok wm)), .val (.int (wx ||| ((1 : Int32) <<< (p1 &&& 31)))), .val (.ref aL), .val (.int (8 : Int32)), .val (.int (0 : Int32)), .val (.int (7 : Int32))] [])) st14 ?_
      refine own_retV X14 hx hlk Bd.returns (hb hby d4_130) (by decide) (by decide) ?_
      rw [e14]
      exact ⟨(wx ||| ((1 : Int32) <<< (p1 &&& 31))), wo, (nar .char (fnTok wm)), rfl, N14, K_14, F_xCells_p0_14, F_oCells_p0_14, F_marks_p0_14, F_winner_p0_14, F_lastMove_p0_14, Or.inl ⟨hc34_3, rfl, rfl, (by unfold own_wn; rw [if_pos hc122_13])⟩⟩
    · refine own_step (T' := T10) (g' := (mkF m 131 #[.val (.ref p0), .val (.int p1), .val (.int (fnTok wm)), .val (.int (wx ||| ((1 : Int32) <<< (p1 &&& 31)))), .val (.ref aL), .val (.int (8 : Int32)), .val (.int (0 : Int32)), .val (.int (7 : Int32))] [])) (fun t k => XS.icmpYes X10.here hx rfl (pc0 := 122) (pc' := 131) rfl (hb hby d4_122) rfl (feq hc122_13).2 (by decide) (by decide) k) ?_
      refine own_step (T' := T10) (g' := (mkF m 134 #[.val (.ref p0), .val (.int p1), .val (.int (fnTok wm)), .val (.int (wx ||| ((1 : Int32) <<< (p1 &&& 31)))), .val (.ref aL), .val (.int (8 : Int32)), .val (.int (1 : Int32)), .val (.int (7 : Int32))] [])) (fun t k => XS.iinc X10.here hx rfl (hb hby d4_131) rfl (l' := #[.val (.ref p0), .val (.int p1), .val (.int (fnTok wm)), .val (.int (wx ||| ((1 : Int32) <<< (p1 &&& 31)))), .val (.ref aL), .val (.int (8 : Int32)), .val (.int (1 : Int32)), .val (.int (7 : Int32))]) rfl k) ?_
      refine own_step (T' := T10) (g' := (mkF m 102 #[.val (.ref p0), .val (.int p1), .val (.int (fnTok wm)), .val (.int (wx ||| ((1 : Int32) <<< (p1 &&& 31)))), .val (.ref aL), .val (.int (8 : Int32)), .val (.int (1 : Int32)), .val (.int (7 : Int32))] [])) (fun t k => XS.goto X10.here hx rfl (pc0 := 134) (pc' := 102) rfl (hb hby d4_134) (by decide) (by decide) k) ?_
      refine own_step (T' := T10) (g' := (mkF m 104 #[.val (.ref p0), .val (.int p1), .val (.int (fnTok wm)), .val (.int (wx ||| ((1 : Int32) <<< (p1 &&& 31)))), .val (.ref aL), .val (.int (8 : Int32)), .val (.int (1 : Int32)), .val (.int (7 : Int32))] [(.int (1 : Int32))])) (fun t k => XS.iload X10.here hx rfl (hb hby d4_102) rfl k) ?_
      refine own_step (T' := T10) (g' := (mkF m 106 #[.val (.ref p0), .val (.int p1), .val (.int (fnTok wm)), .val (.int (wx ||| ((1 : Int32) <<< (p1 &&& 31)))), .val (.ref aL), .val (.int (8 : Int32)), .val (.int (1 : Int32)), .val (.int (7 : Int32))] [(.int (8 : Int32)), (.int (1 : Int32))])) (fun t k => XS.iload X10.here hx rfl (hb hby d4_104) rfl k) ?_
      refine own_step (T' := T10) (g' := (mkF m 109 #[.val (.ref p0), .val (.int p1), .val (.int (fnTok wm)), .val (.int (wx ||| ((1 : Int32) <<< (p1 &&& 31)))), .val (.ref aL), .val (.int (8 : Int32)), .val (.int (1 : Int32)), .val (.int (7 : Int32))] [])) (fun t k => XS.icmpNo X10.here hx rfl (hb hby d4_106) rfl (tlt (by decide : (1 : Int32) < (8 : Int32))).2.1 k) ?_
      refine own_step (T' := T10) (g' := (mkF m 111 #[.val (.ref p0), .val (.int p1), .val (.int (fnTok wm)), .val (.int (wx ||| ((1 : Int32) <<< (p1 &&& 31)))), .val (.ref aL), .val (.int (8 : Int32)), .val (.int (1 : Int32)), .val (.int (7 : Int32))] [(.ref aL)])) (fun t k => XS.aload X10.here hx rfl (hb hby d4_109) rfl rfl k) ?_
      refine own_step (T' := T10) (g' := (mkF m 113 #[.val (.ref p0), .val (.int p1), .val (.int (fnTok wm)), .val (.int (wx ||| ((1 : Int32) <<< (p1 &&& 31)))), .val (.ref aL), .val (.int (8 : Int32)), .val (.int (1 : Int32)), .val (.int (7 : Int32))] [(.int (1 : Int32)), (.ref aL)])) (fun t k => XS.iload X10.here hx rfl (hb hby d4_111) rfl k) ?_
      obtain ⟨cl16, Ar16, q16, Sz16, Nn16, Hh16, Gg16⟩ := id V_aL_9
      have hin16 : ¬ ((1 : Int32) < 0 ∨ cl16.slots.size ≤ ((1 : Int32)).toNatClampNeg) := inb_of Sz16 ⟨by decide, by decide⟩
      refine own_step (T' := T10) (g' := (mkF m 114 #[.val (.ref p0), .val (.int p1), .val (.int (fnTok wm)), .val (.int (wx ||| ((1 : Int32) <<< (p1 &&& 31)))), .val (.ref aL), .val (.int (8 : Int32)), .val (.int (1 : Int32)), .val (.int (7 : Int32))] [(.int (56 : Int32))])) (fun t k => X10.iaload hx (j := (1 : Int32)) (v := (.int (56 : Int32))) (by rw [e10]; exact Ar16.1) (State.isArrayOf_alike hZ.alike Ar16.2.1) Ar16.2.2 hin16 (Has.at Hh16 hin16 rfl) (g := (mkF m 113 #[.val (.ref p0), .val (.int p1), .val (.int (fnTok wm)), .val (.int (wx ||| ((1 : Int32) <<< (p1 &&& 31)))), .val (.ref aL), .val (.int (8 : Int32)), .val (.int (1 : Int32)), .val (.int (7 : Int32))] [(.int (1 : Int32)), (.ref aL)])) rfl rfl (hb hby d4_113) t k) ?_
      refine own_step (T' := T10) (g' := (mkF m 116 #[.val (.ref p0), .val (.int p1), .val (.int (fnTok wm)), .val (.int (wx ||| ((1 : Int32) <<< (p1 &&& 31)))), .val (.ref aL), .val (.int (8 : Int32)), .val (.int (1 : Int32)), .val (.int (56 : Int32))] [])) (fun t k => XS.istore X10.here hx rfl (hb hby d4_114) rfl (l' := #[.val (.ref p0), .val (.int p1), .val (.int (fnTok wm)), .val (.int (wx ||| ((1 : Int32) <<< (p1 &&& 31)))), .val (.ref aL), .val (.int (8 : Int32)), .val (.int (1 : Int32)), .val (.int (56 : Int32))]) rfl k) ?_
      refine own_step (T' := T10) (g' := (mkF m 117 #[.val (.ref p0), .val (.int p1), .val (.int (fnTok wm)), .val (.int (wx ||| ((1 : Int32) <<< (p1 &&& 31)))), .val (.ref aL), .val (.int (8 : Int32)), .val (.int (1 : Int32)), .val (.int (56 : Int32))] [(.int (wx ||| ((1 : Int32) <<< (p1 &&& 31))))])) (fun t k => XS.iloadN X10.here hx rfl (hb hby d4_116) rfl k) ?_
      refine own_step (T' := T10) (g' := (mkF m 119 #[.val (.ref p0), .val (.int p1), .val (.int (fnTok wm)), .val (.int (wx ||| ((1 : Int32) <<< (p1 &&& 31)))), .val (.ref aL), .val (.int (8 : Int32)), .val (.int (1 : Int32)), .val (.int (56 : Int32))] [(.int (56 : Int32)), (.int (wx ||| ((1 : Int32) <<< (p1 &&& 31))))])) (fun t k => XS.iload X10.here hx rfl (hb hby d4_117) rfl k) ?_
      refine own_step (T' := T10) (g' := (mkF m 120 #[.val (.ref p0), .val (.int p1), .val (.int (fnTok wm)), .val (.int (wx ||| ((1 : Int32) <<< (p1 &&& 31)))), .val (.ref aL), .val (.int (8 : Int32)), .val (.int (1 : Int32)), .val (.int (56 : Int32))] [(.int ((wx ||| ((1 : Int32) <<< (p1 &&& 31))) &&& (56 : Int32)))])) (fun t k => XS.iand X10.here hx rfl (hb hby d4_119) rfl k) ?_
      refine own_step (T' := T10) (g' := (mkF m 122 #[.val (.ref p0), .val (.int p1), .val (.int (fnTok wm)), .val (.int (wx ||| ((1 : Int32) <<< (p1 &&& 31)))), .val (.ref aL), .val (.int (8 : Int32)), .val (.int (1 : Int32)), .val (.int (56 : Int32))] [(.int (56 : Int32)), (.int ((wx ||| ((1 : Int32) <<< (p1 &&& 31))) &&& (56 : Int32)))])) (fun t k => XS.iload X10.here hx rfl (hb hby d4_120) rfl k) ?_
      by_cases hc122_17 : ((wx ||| ((1 : Int32) <<< (p1 &&& 31))) &&& (56 : Int32)) = (56 : Int32)
      · refine own_step (T' := T10) (g' := (mkF m 125 #[.val (.ref p0), .val (.int p1), .val (.int (fnTok wm)), .val (.int (wx ||| ((1 : Int32) <<< (p1 &&& 31)))), .val (.ref aL), .val (.int (8 : Int32)), .val (.int (1 : Int32)), .val (.int (56 : Int32))] [])) (fun t k => XS.icmpNo X10.here hx rfl (hb hby d4_122) rfl (teq hc122_17).2 k) ?_
        refine own_step (T' := T10) (g' := (mkF m 126 #[.val (.ref p0), .val (.int p1), .val (.int (fnTok wm)), .val (.int (wx ||| ((1 : Int32) <<< (p1 &&& 31)))), .val (.ref aL), .val (.int (8 : Int32)), .val (.int (1 : Int32)), .val (.int (56 : Int32))] [(.ref p0)])) (fun t k => XS.aloadN X10.here hx rfl (hb hby d4_125) rfl rfl k) ?_
        refine own_step (T' := T10) (g' := (mkF m 127 #[.val (.ref p0), .val (.int p1), .val (.int (fnTok wm)), .val (.int (wx ||| ((1 : Int32) <<< (p1 &&& 31)))), .val (.ref aL), .val (.int (8 : Int32)), .val (.int (1 : Int32)), .val (.int (56 : Int32))] [(.int (fnTok wm)), (.ref p0)])) (fun t k => XS.iloadN X10.here hx rfl (hb hby d4_126) rfl k) ?_
        obtain ⟨T18, h18, X18, e18, W18, st18⟩ := putFN X10 hx hZ hown (hw _ (List.mem_of_getElem? (i := 11) rfl)) Via.refl e10 F_winner_p0_9 E_p0_9 (Or.inl (hw _ (List.mem_of_getElem? (i := 12) rfl))) (hw _ (List.mem_of_getElem? (i := 1) rfl)) (ty := .char) (v' := (.int (nar .char (fnTok wm)))) (by decide) rfl (fits_nar_char (fnTok wm)) (g := (mkF m 127 #[.val (.ref p0), .val (.int p1), .val (.int (fnTok wm)), .val (.int (wx ||| ((1 : Int32) <<< (p1 &&& 31)))), .val (.ref aL), .val (.int (8 : Int32)), .val (.int (1 : Int32)), .val (.int (56 : Int32))] [(.int (fnTok wm)), (.ref p0)])) rfl rfl (hb hby d4_127)
        have E_p0_18 : Exa Z h18 p0 "com/example/tilescript/tilescript/TicTacToe" := E_p0_9.wr W18
        have F_oCells_p0_18 : Fld Z h18 p0 "com/example/tilescript/tilescript/TicTacToe" "oCells" "I" (.int wo) := F_oCells_p0_9.other W18 (Or.inr (slot_ne (Or.inl (hw _ (List.mem_of_getElem? (i := 39) rfl))) (Or.inl (hw _ (List.mem_of_getElem? (i := 12) rfl))) (by decide) (t := .int) (t' := .char) (by decide) (by decide)))
        have S_LINES_18 : Sta Z h18 "com/example/tilescript/tilescript/TicTacToe" "LINES" "[I" (.ref aL) := S_LINES_9.wr W18
        have V_aL_18 : Arv Z h18 aL kL .int (8 : Int32) [(.int (7 : Int32)), (.int (56 : Int32)), (.int (448 : Int32)), (.int (73 : Int32)), (.int (146 : Int32)), (.int (292 : Int32)), (.int (273 : Int32)), (.int (84 : Int32))] (.int (0 : Int32)) := V_aL_9.other W18 neL
        have F_xCells_p0_18 : Fld Z h18 p0 "com/example/tilescript/tilescript/TicTacToe" "xCells" "I" (.int (wx ||| ((1 : Int32) <<< (p1 &&& 31)))) := F_xCells_p0_9.other W18 (Or.inr (slot_ne (Or.inl (hw _ (List.mem_of_getElem? (i := 37) rfl))) (Or.inl (hw _ (List.mem_of_getElem? (i := 12) rfl))) (by decide) (t := .int) (t' := .char) (by decide) (by decide)))
        have F_marks_p0_18 : Fld Z h18 p0 "com/example/tilescript/tilescript/TicTacToe" "marks" "I" (.int (wm + (1 : Int32))) := F_marks_p0_9.other W18 (Or.inr (slot_ne (Or.inl (hw _ (List.mem_of_getElem? (i := 35) rfl))) (Or.inl (hw _ (List.mem_of_getElem? (i := 12) rfl))) (by decide) (t := .int) (t' := .char) (by decide) (by decide)))
        have F_lastMove_p0_18 : Fld Z h18 p0 "com/example/tilescript/tilescript/TicTacToe" "lastMove" "I" (.int p1) := F_lastMove_p0_9.other W18 (Or.inr (slot_ne (Or.inl (hw _ (List.mem_of_getElem? (i := 10) rfl))) (Or.inl (hw _ (List.mem_of_getElem? (i := 12) rfl))) (by decide) (t := .int) (t' := .char) (by decide) (by decide)))
        have K_18 : Keep h0 h18 [p0] := K_9.wr W18 (Or.inl (List.mem_of_getElem? (i := 0) rfl))
        have N18 := Fr.snoc X18 N9 g_p0
        have F_winner_p0_18 : Fld Z h18 p0 "com/example/tilescript/tilescript/TicTacToe" "winner" "C" (.int (nar .char (fnTok wm))) := F_winner_p0_9.same W18
        refine own_step (T' := T18) (g' := (mkF m 130 #[.val (.ref p0), .val (.int p1), .val (.int (fnTok wm)), .val (.int (wx ||| ((1 : Int32) <<< (p1 &&& 31)))), .val (.ref aL), .val (.int (8 : Int32)), .val (.int (1 : Int32)), .val (.int (56 : Int32))] [])) st18 ?_
        refine own_retV X18 hx hlk Bd.returns (hb hby d4_130) (by decide) (by decide) ?_
        rw [e18]
        exact ⟨(wx ||| ((1 : Int32) <<< (p1 &&& 31))), wo, (nar .char (fnTok wm)), rfl, N18, K_18, F_xCells_p0_18, F_oCells_p0_18, F_marks_p0_18, F_winner_p0_18, F_lastMove_p0_18, Or.inl ⟨hc34_3, rfl, rfl, (by unfold own_wn; rw [if_neg hc122_13, if_pos hc122_17])⟩⟩
      · refine own_step (T' := T10) (g' := (mkF m 131 #[.val (.ref p0), .val (.int p1), .val (.int (fnTok wm)), .val (.int (wx ||| ((1 : Int32) <<< (p1 &&& 31)))), .val (.ref aL), .val (.int (8 : Int32)), .val (.int (1 : Int32)), .val (.int (56 : Int32))] [])) (fun t k => XS.icmpYes X10.here hx rfl (pc0 := 122) (pc' := 131) rfl (hb hby d4_122) rfl (feq hc122_17).2 (by decide) (by decide) k) ?_
        refine own_step (T' := T10) (g' := (mkF m 134 #[.val (.ref p0), .val (.int p1), .val (.int (fnTok wm)), .val (.int (wx ||| ((1 : Int32) <<< (p1 &&& 31)))), .val (.ref aL), .val (.int (8 : Int32)), .val (.int (2 : Int32)), .val (.int (56 : Int32))] [])) (fun t k => XS.iinc X10.here hx rfl (hb hby d4_131) rfl (l' := #[.val (.ref p0), .val (.int p1), .val (.int (fnTok wm)), .val (.int (wx ||| ((1 : Int32) <<< (p1 &&& 31)))), .val (.ref aL), .val (.int (8 : Int32)), .val (.int (2 : Int32)), .val (.int (56 : Int32))]) rfl k) ?_
        refine own_step (T' := T10) (g' := (mkF m 102 #[.val (.ref p0), .val (.int p1), .val (.int (fnTok wm)), .val (.int (wx ||| ((1 : Int32) <<< (p1 &&& 31)))), .val (.ref aL), .val (.int (8 : Int32)), .val (.int (2 : Int32)), .val (.int (56 : Int32))] [])) (fun t k => XS.goto X10.here hx rfl (pc0 := 134) (pc' := 102) rfl (hb hby d4_134) (by decide) (by decide) k) ?_
        refine own_step (T' := T10) (g' := (mkF m 104 #[.val (.ref p0), .val (.int p1), .val (.int (fnTok wm)), .val (.int (wx ||| ((1 : Int32) <<< (p1 &&& 31)))), .val (.ref aL), .val (.int (8 : Int32)), .val (.int (2 : Int32)), .val (.int (56 : Int32))] [(.int (2 : Int32))])) (fun t k => XS.iload X10.here hx rfl (hb hby d4_102) rfl k) ?_
        refine own_step (T' := T10) (g' := (mkF m 106 #[.val (.ref p0), .val (.int p1), .val (.int (fnTok wm)), .val (.int (wx ||| ((1 : Int32) <<< (p1 &&& 31)))), .val (.ref aL), .val (.int (8 : Int32)), .val (.int (2 : Int32)), .val (.int (56 : Int32))] [(.int (8 : Int32)), (.int (2 : Int32))])) (fun t k => XS.iload X10.here hx rfl (hb hby d4_104) rfl k) ?_
        refine own_step (T' := T10) (g' := (mkF m 109 #[.val (.ref p0), .val (.int p1), .val (.int (fnTok wm)), .val (.int (wx ||| ((1 : Int32) <<< (p1 &&& 31)))), .val (.ref aL), .val (.int (8 : Int32)), .val (.int (2 : Int32)), .val (.int (56 : Int32))] [])) (fun t k => XS.icmpNo X10.here hx rfl (hb hby d4_106) rfl (tlt (by decide : (2 : Int32) < (8 : Int32))).2.1 k) ?_
        refine own_step (T' := T10) (g' := (mkF m 111 #[.val (.ref p0), .val (.int p1), .val (.int (fnTok wm)), .val (.int (wx ||| ((1 : Int32) <<< (p1 &&& 31)))), .val (.ref aL), .val (.int (8 : Int32)), .val (.int (2 : Int32)), .val (.int (56 : Int32))] [(.ref aL)])) (fun t k => XS.aload X10.here hx rfl (hb hby d4_109) rfl rfl k) ?_
        refine own_step (T' := T10) (g' := (mkF m 113 #[.val (.ref p0), .val (.int p1), .val (.int (fnTok wm)), .val (.int (wx ||| ((1 : Int32) <<< (p1 &&& 31)))), .val (.ref aL), .val (.int (8 : Int32)), .val (.int (2 : Int32)), .val (.int (56 : Int32))] [(.int (2 : Int32)), (.ref aL)])) (fun t k => XS.iload X10.here hx rfl (hb hby d4_111) rfl k) ?_
        obtain ⟨cl20, Ar20, q20, Sz20, Nn20, Hh20, Gg20⟩ := id V_aL_9
        have hin20 : ¬ ((2 : Int32) < 0 ∨ cl20.slots.size ≤ ((2 : Int32)).toNatClampNeg) := inb_of Sz20 ⟨by decide, by decide⟩
        refine own_step (T' := T10) (g' := (mkF m 114 #[.val (.ref p0), .val (.int p1), .val (.int (fnTok wm)), .val (.int (wx ||| ((1 : Int32) <<< (p1 &&& 31)))), .val (.ref aL), .val (.int (8 : Int32)), .val (.int (2 : Int32)), .val (.int (56 : Int32))] [(.int (448 : Int32))])) (fun t k => X10.iaload hx (j := (2 : Int32)) (v := (.int (448 : Int32))) (by rw [e10]; exact Ar20.1) (State.isArrayOf_alike hZ.alike Ar20.2.1) Ar20.2.2 hin20 (Has.at Hh20 hin20 rfl) (g := (mkF m 113 #[.val (.ref p0), .val (.int p1), .val (.int (fnTok wm)), .val (.int (wx ||| ((1 : Int32) <<< (p1 &&& 31)))), .val (.ref aL), .val (.int (8 : Int32)), .val (.int (2 : Int32)), .val (.int (56 : Int32))] [(.int (2 : Int32)), (.ref aL)])) rfl rfl (hb hby d4_113) t k) ?_
        refine own_step (T' := T10) (g' := (mkF m 116 #[.val (.ref p0), .val (.int p1), .val (.int (fnTok wm)), .val (.int (wx ||| ((1 : Int32) <<< (p1 &&& 31)))), .val (.ref aL), .val (.int (8 : Int32)), .val (.int (2 : Int32)), .val (.int (448 : Int32))] [])) (fun t k => XS.istore X10.here hx rfl (hb hby d4_114) rfl (l' := #[.val (.ref p0), .val (.int p1), .val (.int (fnTok wm)), .val (.int (wx ||| ((1 : Int32) <<< (p1 &&& 31)))), .val (.ref aL), .val (.int (8 : Int32)), .val (.int (2 : Int32)), .val (.int (448 : Int32))]) rfl k) ?_
        refine own_step (T' := T10) (g' := (mkF m 117 #[.val (.ref p0), .val (.int p1), .val (.int (fnTok wm)), .val (.int (wx ||| ((1 : Int32) <<< (p1 &&& 31)))), .val (.ref aL), .val (.int (8 : Int32)), .val (.int (2 : Int32)), .val (.int (448 : Int32))] [(.int (wx ||| ((1 : Int32) <<< (p1 &&& 31))))])) (fun t k => XS.iloadN X10.here hx rfl (hb hby d4_116) rfl k) ?_
        refine own_step (T' := T10) (g' := (mkF m 119 #[.val (.ref p0), .val (.int p1), .val (.int (fnTok wm)), .val (.int (wx ||| ((1 : Int32) <<< (p1 &&& 31)))), .val (.ref aL), .val (.int (8 : Int32)), .val (.int (2 : Int32)), .val (.int (448 : Int32))] [(.int (448 : Int32)), (.int (wx ||| ((1 : Int32) <<< (p1 &&& 31))))])) (fun t k => XS.iload X10.here hx rfl (hb hby d4_117) rfl k) ?_
        refine own_step (T' := T10) (g' := (mkF m 120 #[.val (.ref p0), .val (.int p1), .val (.int (fnTok wm)), .val (.int (wx ||| ((1 : Int32) <<< (p1 &&& 31)))), .val (.ref aL), .val (.int (8 : Int32)), .val (.int (2 : Int32)), .val (.int (448 : Int32))] [(.int ((wx ||| ((1 : Int32) <<< (p1 &&& 31))) &&& (448 : Int32)))])) (fun t k => XS.iand X10.here hx rfl (hb hby d4_119) rfl k) ?_
        refine own_step (T' := T10) (g' := (mkF m 122 #[.val (.ref p0), .val (.int p1), .val (.int (fnTok wm)), .val (.int (wx ||| ((1 : Int32) <<< (p1 &&& 31)))), .val (.ref aL), .val (.int (8 : Int32)), .val (.int (2 : Int32)), .val (.int (448 : Int32))] [(.int (448 : Int32)), (.int ((wx ||| ((1 : Int32) <<< (p1 &&& 31))) &&& (448 : Int32)))])) (fun t k => XS.iload X10.here hx rfl (hb hby d4_120) rfl k) ?_
        by_cases hc122_21 : ((wx ||| ((1 : Int32) <<< (p1 &&& 31))) &&& (448 : Int32)) = (448 : Int32)
        · refine own_step (T' := T10) (g' := (mkF m 125 #[.val (.ref p0), .val (.int p1), .val (.int (fnTok wm)), .val (.int (wx ||| ((1 : Int32) <<< (p1 &&& 31)))), .val (.ref aL), .val (.int (8 : Int32)), .val (.int (2 : Int32)), .val (.int (448 : Int32))] [])) (fun t k => XS.icmpNo X10.here hx rfl (hb hby d4_122) rfl (teq hc122_21).2 k) ?_
          refine own_step (T' := T10) (g' := (mkF m 126 #[.val (.ref p0), .val (.int p1), .val (.int (fnTok wm)), .val (.int (wx ||| ((1 : Int32) <<< (p1 &&& 31)))), .val (.ref aL), .val (.int (8 : Int32)), .val (.int (2 : Int32)), .val (.int (448 : Int32))] [(.ref p0)])) (fun t k => XS.aloadN X10.here hx rfl (hb hby d4_125) rfl rfl k) ?_
          refine own_step (T' := T10) (g' := (mkF m 127 #[.val (.ref p0), .val (.int p1), .val (.int (fnTok wm)), .val (.int (wx ||| ((1 : Int32) <<< (p1 &&& 31)))), .val (.ref aL), .val (.int (8 : Int32)), .val (.int (2 : Int32)), .val (.int (448 : Int32))] [(.int (fnTok wm)), (.ref p0)])) (fun t k => XS.iloadN X10.here hx rfl (hb hby d4_126) rfl k) ?_
          obtain ⟨T22, h22, X22, e22, W22, st22⟩ := putFN X10 hx hZ hown (hw _ (List.mem_of_getElem? (i := 11) rfl)) Via.refl e10 F_winner_p0_9 E_p0_9 (Or.inl (hw _ (List.mem_of_getElem? (i := 12) rfl))) (hw _ (List.mem_of_getElem? (i := 1) rfl)) (ty := .char) (v' := (.int (nar .char (fnTok wm)))) (by decide) rfl (fits_nar_char (fnTok wm)) (g := (mkF m 127 #[.val (.ref p0), .val (.int p1), .val (.int (fnTok wm)), .val (.int (wx ||| ((1 : Int32) <<< (p1 &&& 31)))), .val (.ref aL), .val (.int (8 : Int32)), .val (.int (2 : Int32)), .val (.int (448 : Int32))] [(.int (fnTok wm)), (.ref p0)])) rfl rfl (hb hby d4_127)
          have E_p0_22 : Exa Z h22 p0 "com/example/tilescript/tilescript/TicTacToe" := E_p0_9.wr W22
          have F_oCells_p0_22 : Fld Z h22 p0 "com/example/tilescript/tilescript/TicTacToe" "oCells" "I" (.int wo) := F_oCells_p0_9.other W22 (Or.inr (slot_ne (Or.inl (hw _ (List.mem_of_getElem? (i := 39) rfl))) (Or.inl (hw _ (List.mem_of_getElem? (i := 12) rfl))) (by decide) (t := .int) (t' := .char) (by decide) (by decide)))
          have S_LINES_22 : Sta Z h22 "com/example/tilescript/tilescript/TicTacToe" "LINES" "[I" (.ref aL) := S_LINES_9.wr W22
          have V_aL_22 : Arv Z h22 aL kL .int (8 : Int32) [(.int (7 : Int32)), (.int (56 : Int32)), (.int (448 : Int32)), (.int (73 : Int32)), (.int (146 : Int32)), (.int (292 : Int32)), (.int (273 : Int32)), (.int (84 : Int32))] (.int (0 : Int32)) := V_aL_9.other W22 neL
          have F_xCells_p0_22 : Fld Z h22 p0 "com/example/tilescript/tilescript/TicTacToe" "xCells" "I" (.int (wx ||| ((1 : Int32) <<< (p1 &&& 31)))) := F_xCells_p0_9.other W22 (Or.inr (slot_ne (Or.inl (hw _ (List.mem_of_getElem? (i := 37) rfl))) (Or.inl (hw _ (List.mem_of_getElem? (i := 12) rfl))) (by decide) (t := .int) (t' := .char) (by decide) (by decide)))
          have F_marks_p0_22 : Fld Z h22 p0 "com/example/tilescript/tilescript/TicTacToe" "marks" "I" (.int (wm + (1 : Int32))) := F_marks_p0_9.other W22 (Or.inr (slot_ne (Or.inl (hw _ (List.mem_of_getElem? (i := 35) rfl))) (Or.inl (hw _ (List.mem_of_getElem? (i := 12) rfl))) (by decide) (t := .int) (t' := .char) (by decide) (by decide)))
          have F_lastMove_p0_22 : Fld Z h22 p0 "com/example/tilescript/tilescript/TicTacToe" "lastMove" "I" (.int p1) := F_lastMove_p0_9.other W22 (Or.inr (slot_ne (Or.inl (hw _ (List.mem_of_getElem? (i := 10) rfl))) (Or.inl (hw _ (List.mem_of_getElem? (i := 12) rfl))) (by decide) (t := .int) (t' := .char) (by decide) (by decide)))
          have K_22 : Keep h0 h22 [p0] := K_9.wr W22 (Or.inl (List.mem_of_getElem? (i := 0) rfl))
          have N22 := Fr.snoc X22 N9 g_p0
          have F_winner_p0_22 : Fld Z h22 p0 "com/example/tilescript/tilescript/TicTacToe" "winner" "C" (.int (nar .char (fnTok wm))) := F_winner_p0_9.same W22
          refine own_step (T' := T22) (g' := (mkF m 130 #[.val (.ref p0), .val (.int p1), .val (.int (fnTok wm)), .val (.int (wx ||| ((1 : Int32) <<< (p1 &&& 31)))), .val (.ref aL), .val (.int (8 : Int32)), .val (.int (2 : Int32)), .val (.int (448 : Int32))] [])) st22 ?_
          refine own_retV X22 hx hlk Bd.returns (hb hby d4_130) (by decide) (by decide) ?_
          rw [e22]
          exact ⟨(wx ||| ((1 : Int32) <<< (p1 &&& 31))), wo, (nar .char (fnTok wm)), rfl, N22, K_22, F_xCells_p0_22, F_oCells_p0_22, F_marks_p0_22, F_winner_p0_22, F_lastMove_p0_22, Or.inl ⟨hc34_3, rfl, rfl, (by unfold own_wn; rw [if_neg hc122_13, if_neg hc122_17, if_pos hc122_21])⟩⟩
        · refine own_step (T' := T10) (g' := (mkF m 131 #[.val (.ref p0), .val (.int p1), .val (.int (fnTok wm)), .val (.int (wx ||| ((1 : Int32) <<< (p1 &&& 31)))), .val (.ref aL), .val (.int (8 : Int32)), .val (.int (2 : Int32)), .val (.int (448 : Int32))] [])) (fun t k => XS.icmpYes X10.here hx rfl (pc0 := 122) (pc' := 131) rfl (hb hby d4_122) rfl (feq hc122_21).2 (by decide) (by decide) k) ?_
          refine own_step (T' := T10) (g' := (mkF m 134 #[.val (.ref p0), .val (.int p1), .val (.int (fnTok wm)), .val (.int (wx ||| ((1 : Int32) <<< (p1 &&& 31)))), .val (.ref aL), .val (.int (8 : Int32)), .val (.int (3 : Int32)), .val (.int (448 : Int32))] [])) (fun t k => XS.iinc X10.here hx rfl (hb hby d4_131) rfl (l' := #[.val (.ref p0), .val (.int p1), .val (.int (fnTok wm)), .val (.int (wx ||| ((1 : Int32) <<< (p1 &&& 31)))), .val (.ref aL), .val (.int (8 : Int32)), .val (.int (3 : Int32)), .val (.int (448 : Int32))]) rfl k) ?_
          refine own_step (T' := T10) (g' := (mkF m 102 #[.val (.ref p0), .val (.int p1), .val (.int (fnTok wm)), .val (.int (wx ||| ((1 : Int32) <<< (p1 &&& 31)))), .val (.ref aL), .val (.int (8 : Int32)), .val (.int (3 : Int32)), .val (.int (448 : Int32))] [])) (fun t k => XS.goto X10.here hx rfl (pc0 := 134) (pc' := 102) rfl (hb hby d4_134) (by decide) (by decide) k) ?_
          refine own_step (T' := T10) (g' := (mkF m 104 #[.val (.ref p0), .val (.int p1), .val (.int (fnTok wm)), .val (.int (wx ||| ((1 : Int32) <<< (p1 &&& 31)))), .val (.ref aL), .val (.int (8 : Int32)), .val (.int (3 : Int32)), .val (.int (448 : Int32))] [(.int (3 : Int32))])) (fun t k => XS.iload X10.here hx rfl (hb hby d4_102) rfl k) ?_
          refine own_step (T' := T10) (g' := (mkF m 106 #[.val (.ref p0), .val (.int p1), .val (.int (fnTok wm)), .val (.int (wx ||| ((1 : Int32) <<< (p1 &&& 31)))), .val (.ref aL), .val (.int (8 : Int32)), .val (.int (3 : Int32)), .val (.int (448 : Int32))] [(.int (8 : Int32)), (.int (3 : Int32))])) (fun t k => XS.iload X10.here hx rfl (hb hby d4_104) rfl k) ?_
          refine own_step (T' := T10) (g' := (mkF m 109 #[.val (.ref p0), .val (.int p1), .val (.int (fnTok wm)), .val (.int (wx ||| ((1 : Int32) <<< (p1 &&& 31)))), .val (.ref aL), .val (.int (8 : Int32)), .val (.int (3 : Int32)), .val (.int (448 : Int32))] [])) (fun t k => XS.icmpNo X10.here hx rfl (hb hby d4_106) rfl (tlt (by decide : (3 : Int32) < (8 : Int32))).2.1 k) ?_
          refine own_step (T' := T10) (g' := (mkF m 111 #[.val (.ref p0), .val (.int p1), .val (.int (fnTok wm)), .val (.int (wx ||| ((1 : Int32) <<< (p1 &&& 31)))), .val (.ref aL), .val (.int (8 : Int32)), .val (.int (3 : Int32)), .val (.int (448 : Int32))] [(.ref aL)])) (fun t k => XS.aload X10.here hx rfl (hb hby d4_109) rfl rfl k) ?_
          refine own_step (T' := T10) (g' := (mkF m 113 #[.val (.ref p0), .val (.int p1), .val (.int (fnTok wm)), .val (.int (wx ||| ((1 : Int32) <<< (p1 &&& 31)))), .val (.ref aL), .val (.int (8 : Int32)), .val (.int (3 : Int32)), .val (.int (448 : Int32))] [(.int (3 : Int32)), (.ref aL)])) (fun t k => XS.iload X10.here hx rfl (hb hby d4_111) rfl k) ?_
          obtain ⟨cl24, Ar24, q24, Sz24, Nn24, Hh24, Gg24⟩ := id V_aL_9
          have hin24 : ¬ ((3 : Int32) < 0 ∨ cl24.slots.size ≤ ((3 : Int32)).toNatClampNeg) := inb_of Sz24 ⟨by decide, by decide⟩
          refine own_step (T' := T10) (g' := (mkF m 114 #[.val (.ref p0), .val (.int p1), .val (.int (fnTok wm)), .val (.int (wx ||| ((1 : Int32) <<< (p1 &&& 31)))), .val (.ref aL), .val (.int (8 : Int32)), .val (.int (3 : Int32)), .val (.int (448 : Int32))] [(.int (73 : Int32))])) (fun t k => X10.iaload hx (j := (3 : Int32)) (v := (.int (73 : Int32))) (by rw [e10]; exact Ar24.1) (State.isArrayOf_alike hZ.alike Ar24.2.1) Ar24.2.2 hin24 (Has.at Hh24 hin24 rfl) (g := (mkF m 113 #[.val (.ref p0), .val (.int p1), .val (.int (fnTok wm)), .val (.int (wx ||| ((1 : Int32) <<< (p1 &&& 31)))), .val (.ref aL), .val (.int (8 : Int32)), .val (.int (3 : Int32)), .val (.int (448 : Int32))] [(.int (3 : Int32)), (.ref aL)])) rfl rfl (hb hby d4_113) t k) ?_
          refine own_step (T' := T10) (g' := (mkF m 116 #[.val (.ref p0), .val (.int p1), .val (.int (fnTok wm)), .val (.int (wx ||| ((1 : Int32) <<< (p1 &&& 31)))), .val (.ref aL), .val (.int (8 : Int32)), .val (.int (3 : Int32)), .val (.int (73 : Int32))] [])) (fun t k => XS.istore X10.here hx rfl (hb hby d4_114) rfl (l' := #[.val (.ref p0), .val (.int p1), .val (.int (fnTok wm)), .val (.int (wx ||| ((1 : Int32) <<< (p1 &&& 31)))), .val (.ref aL), .val (.int (8 : Int32)), .val (.int (3 : Int32)), .val (.int (73 : Int32))]) rfl k) ?_
          refine own_step (T' := T10) (g' := (mkF m 117 #[.val (.ref p0), .val (.int p1), .val (.int (fnTok wm)), .val (.int (wx ||| ((1 : Int32) <<< (p1 &&& 31)))), .val (.ref aL), .val (.int (8 : Int32)), .val (.int (3 : Int32)), .val (.int (73 : Int32))] [(.int (wx ||| ((1 : Int32) <<< (p1 &&& 31))))])) (fun t k => XS.iloadN X10.here hx rfl (hb hby d4_116) rfl k) ?_
          refine own_step (T' := T10) (g' := (mkF m 119 #[.val (.ref p0), .val (.int p1), .val (.int (fnTok wm)), .val (.int (wx ||| ((1 : Int32) <<< (p1 &&& 31)))), .val (.ref aL), .val (.int (8 : Int32)), .val (.int (3 : Int32)), .val (.int (73 : Int32))] [(.int (73 : Int32)), (.int (wx ||| ((1 : Int32) <<< (p1 &&& 31))))])) (fun t k => XS.iload X10.here hx rfl (hb hby d4_117) rfl k) ?_
          refine own_step (T' := T10) (g' := (mkF m 120 #[.val (.ref p0), .val (.int p1), .val (.int (fnTok wm)), .val (.int (wx ||| ((1 : Int32) <<< (p1 &&& 31)))), .val (.ref aL), .val (.int (8 : Int32)), .val (.int (3 : Int32)), .val (.int (73 : Int32))] [(.int ((wx ||| ((1 : Int32) <<< (p1 &&& 31))) &&& (73 : Int32)))])) (fun t k => XS.iand X10.here hx rfl (hb hby d4_119) rfl k) ?_
          refine own_step (T' := T10) (g' := (mkF m 122 #[.val (.ref p0), .val (.int p1), .val (.int (fnTok wm)), .val (.int (wx ||| ((1 : Int32) <<< (p1 &&& 31)))), .val (.ref aL), .val (.int (8 : Int32)), .val (.int (3 : Int32)), .val (.int (73 : Int32))] [(.int (73 : Int32)), (.int ((wx ||| ((1 : Int32) <<< (p1 &&& 31))) &&& (73 : Int32)))])) (fun t k => XS.iload X10.here hx rfl (hb hby d4_120) rfl k) ?_
          by_cases hc122_25 : ((wx ||| ((1 : Int32) <<< (p1 &&& 31))) &&& (73 : Int32)) = (73 : Int32)
          · refine own_step (T' := T10) (g' := (mkF m 125 #[.val (.ref p0), .val (.int p1), .val (.int (fnTok wm)), .val (.int (wx ||| ((1 : Int32) <<< (p1 &&& 31)))), .val (.ref aL), .val (.int (8 : Int32)), .val (.int (3 : Int32)), .val (.int (73 : Int32))] [])) (fun t k => XS.icmpNo X10.here hx rfl (hb hby d4_122) rfl (teq hc122_25).2 k) ?_
            refine own_step (T' := T10) (g' := (mkF m 126 #[.val (.ref p0), .val (.int p1), .val (.int (fnTok wm)), .val (.int (wx ||| ((1 : Int32) <<< (p1 &&& 31)))), .val (.ref aL), .val (.int (8 : Int32)), .val (.int (3 : Int32)), .val (.int (73 : Int32))] [(.ref p0)])) (fun t k => XS.aloadN X10.here hx rfl (hb hby d4_125) rfl rfl k) ?_
            refine own_step (T' := T10) (g' := (mkF m 127 #[.val (.ref p0), .val (.int p1), .val (.int (fnTok wm)), .val (.int (wx ||| ((1 : Int32) <<< (p1 &&& 31)))), .val (.ref aL), .val (.int (8 : Int32)), .val (.int (3 : Int32)), .val (.int (73 : Int32))] [(.int (fnTok wm)), (.ref p0)])) (fun t k => XS.iloadN X10.here hx rfl (hb hby d4_126) rfl k) ?_
            obtain ⟨T26, h26, X26, e26, W26, st26⟩ := putFN X10 hx hZ hown (hw _ (List.mem_of_getElem? (i := 11) rfl)) Via.refl e10 F_winner_p0_9 E_p0_9 (Or.inl (hw _ (List.mem_of_getElem? (i := 12) rfl))) (hw _ (List.mem_of_getElem? (i := 1) rfl)) (ty := .char) (v' := (.int (nar .char (fnTok wm)))) (by decide) rfl (fits_nar_char (fnTok wm)) (g := (mkF m 127 #[.val (.ref p0), .val (.int p1), .val (.int (fnTok wm)), .val (.int (wx ||| ((1 : Int32) <<< (p1 &&& 31)))), .val (.ref aL), .val (.int (8 : Int32)), .val (.int (3 : Int32)), .val (.int (73 : Int32))] [(.int (fnTok wm)), (.ref p0)])) rfl rfl (hb hby d4_127)
            have E_p0_26 : Exa Z h26 p0 "com/example/tilescript/tilescript/TicTacToe" := E_p0_9.wr W26
            have F_oCells_p0_26 : Fld Z h26 p0 "com/example/tilescript/tilescript/TicTacToe" "oCells" "I" (.int wo) := F_oCells_p0_9.other W26 (Or.inr (slot_ne (Or.inl (hw _ (List.mem_of_getElem? (i := 39) rfl))) (Or.inl (hw _ (List.mem_of_getElem? (i := 12) rfl))) (by decide) (t := .int) (t' := .char) (by decide) (by decide)))
            have S_LINES_26 : Sta Z h26 "com/example/tilescript/tilescript/TicTacToe" "LINES" "[I" (.ref aL) := S_LINES_9.wr W26
            have V_aL_26 : Arv Z h26 aL kL .int (8 : Int32) [(.int (7 : Int32)), (.int (56 : Int32)), (.int (448 : Int32)), (.int (73 : Int32)), (.int (146 : Int32)), (.int (292 : Int32)), (.int (273 : Int32)), (.int (84 : Int32))] (.int (0 : Int32)) := V_aL_9.other W26 neL
            have F_xCells_p0_26 : Fld Z h26 p0 "com/example/tilescript/tilescript/TicTacToe" "xCells" "I" (.int (wx ||| ((1 : Int32) <<< (p1 &&& 31)))) := F_xCells_p0_9.other W26 (Or.inr (slot_ne (Or.inl (hw _ (List.mem_of_getElem? (i := 37) rfl))) (Or.inl (hw _ (List.mem_of_getElem? (i := 12) rfl))) (by decide) (t := .int) (t' := .char) (by decide) (by decide)))
            have F_marks_p0_26 : Fld Z h26 p0 "com/example/tilescript/tilescript/TicTacToe" "marks" "I" (.int (wm + (1 : Int32))) := F_marks_p0_9.other W26 (Or.inr (slot_ne (Or.inl (hw _ (List.mem_of_getElem? (i := 35) rfl))) (Or.inl (hw _ (List.mem_of_getElem? (i := 12) rfl))) (by decide) (t := .int) (t' := .char) (by decide) (by decide)))
            have F_lastMove_p0_26 : Fld Z h26 p0 "com/example/tilescript/tilescript/TicTacToe" "lastMove" "I" (.int p1) := F_lastMove_p0_9.other W26 (Or.inr (slot_ne (Or.inl (hw _ (List.mem_of_getElem? (i := 10) rfl))) (Or.inl (hw _ (List.mem_of_getElem? (i := 12) rfl))) (by decide) (t := .int) (t' := .char) (by decide) (by decide)))
            have K_26 : Keep h0 h26 [p0] := K_9.wr W26 (Or.inl (List.mem_of_getElem? (i := 0) rfl))
            have N26 := Fr.snoc X26 N9 g_p0
            have F_winner_p0_26 : Fld Z h26 p0 "com/example/tilescript/tilescript/TicTacToe" "winner" "C" (.int (nar .char (fnTok wm))) := F_winner_p0_9.same W26
            refine own_step (T' := T26) (g' := (mkF m 130 #[.val (.ref p0), .val (.int p1), .val (.int (fnTok wm)), .val (.int (wx ||| ((1 : Int32) <<< (p1 &&& 31)))), .val (.ref aL), .val (.int (8 : Int32)), .val (.int (3 : Int32)), .val (.int (73 : Int32))] [])) st26 ?_
            refine own_retV X26 hx hlk Bd.returns (hb hby d4_130) (by decide) (by decide) ?_
            rw [e26]
            exact ⟨(wx ||| ((1 : Int32) <<< (p1 &&& 31))), wo, (nar .char (fnTok wm)), rfl, N26, K_26, F_xCells_p0_26, F_oCells_p0_26, F_marks_p0_26, F_winner_p0_26, F_lastMove_p0_26, Or.inl ⟨hc34_3, rfl, rfl, (by unfold own_wn; rw [if_neg hc122_13, if_neg hc122_17, if_neg hc122_21, if_pos hc122_25])⟩⟩
          · refine own_step (T' := T10) (g' := (mkF m 131 #[.val (.ref p0), .val (.int p1), .val (.int (fnTok wm)), .val (.int (wx ||| ((1 : Int32) <<< (p1 &&& 31)))), .val (.ref aL), .val (.int (8 : Int32)), .val (.int (3 : Int32)), .val (.int (73 : Int32))] [])) (fun t k => XS.icmpYes X10.here hx rfl (pc0 := 122) (pc' := 131) rfl (hb hby d4_122) rfl (feq hc122_25).2 (by decide) (by decide) k) ?_
            refine own_step (T' := T10) (g' := (mkF m 134 #[.val (.ref p0), .val (.int p1), .val (.int (fnTok wm)), .val (.int (wx ||| ((1 : Int32) <<< (p1 &&& 31)))), .val (.ref aL), .val (.int (8 : Int32)), .val (.int (4 : Int32)), .val (.int (73 : Int32))] [])) (fun t k => XS.iinc X10.here hx rfl (hb hby d4_131) rfl (l' := #[.val (.ref p0), .val (.int p1), .val (.int (fnTok wm)), .val (.int (wx ||| ((1 : Int32) <<< (p1 &&& 31)))), .val (.ref aL), .val (.int (8 : Int32)), .val (.int (4 : Int32)), .val (.int (73 : Int32))]) rfl k) ?_
            refine own_step (T' := T10) (g' := (mkF m 102 #[.val (.ref p0), .val (.int p1), .val (.int (fnTok wm)), .val (.int (wx ||| ((1 : Int32) <<< (p1 &&& 31)))), .val (.ref aL), .val (.int (8 : Int32)), .val (.int (4 : Int32)), .val (.int (73 : Int32))] [])) (fun t k => XS.goto X10.here hx rfl (pc0 := 134) (pc' := 102) rfl (hb hby d4_134) (by decide) (by decide) k) ?_
            refine own_step (T' := T10) (g' := (mkF m 104 #[.val (.ref p0), .val (.int p1), .val (.int (fnTok wm)), .val (.int (wx ||| ((1 : Int32) <<< (p1 &&& 31)))), .val (.ref aL), .val (.int (8 : Int32)), .val (.int (4 : Int32)), .val (.int (73 : Int32))] [(.int (4 : Int32))])) (fun t k => XS.iload X10.here hx rfl (hb hby d4_102) rfl k) ?_
            refine own_step (T' := T10) (g' := (mkF m 106 #[.val (.ref p0), .val (.int p1), .val (.int (fnTok wm)), .val (.int (wx ||| ((1 : Int32) <<< (p1 &&& 31)))), .val (.ref aL), .val (.int (8 : Int32)), .val (.int (4 : Int32)), .val (.int (73 : Int32))] [(.int (8 : Int32)), (.int (4 : Int32))])) (fun t k => XS.iload X10.here hx rfl (hb hby d4_104) rfl k) ?_
            refine own_step (T' := T10) (g' := (mkF m 109 #[.val (.ref p0), .val (.int p1), .val (.int (fnTok wm)), .val (.int (wx ||| ((1 : Int32) <<< (p1 &&& 31)))), .val (.ref aL), .val (.int (8 : Int32)), .val (.int (4 : Int32)), .val (.int (73 : Int32))] [])) (fun t k => XS.icmpNo X10.here hx rfl (hb hby d4_106) rfl (tlt (by decide : (4 : Int32) < (8 : Int32))).2.1 k) ?_
            refine own_step (T' := T10) (g' := (mkF m 111 #[.val (.ref p0), .val (.int p1), .val (.int (fnTok wm)), .val (.int (wx ||| ((1 : Int32) <<< (p1 &&& 31)))), .val (.ref aL), .val (.int (8 : Int32)), .val (.int (4 : Int32)), .val (.int (73 : Int32))] [(.ref aL)])) (fun t k => XS.aload X10.here hx rfl (hb hby d4_109) rfl rfl k) ?_
            refine own_step (T' := T10) (g' := (mkF m 113 #[.val (.ref p0), .val (.int p1), .val (.int (fnTok wm)), .val (.int (wx ||| ((1 : Int32) <<< (p1 &&& 31)))), .val (.ref aL), .val (.int (8 : Int32)), .val (.int (4 : Int32)), .val (.int (73 : Int32))] [(.int (4 : Int32)), (.ref aL)])) (fun t k => XS.iload X10.here hx rfl (hb hby d4_111) rfl k) ?_
            obtain ⟨cl28, Ar28, q28, Sz28, Nn28, Hh28, Gg28⟩ := id V_aL_9
            have hin28 : ¬ ((4 : Int32) < 0 ∨ cl28.slots.size ≤ ((4 : Int32)).toNatClampNeg) := inb_of Sz28 ⟨by decide, by decide⟩
            refine own_step (T' := T10) (g' := (mkF m 114 #[.val (.ref p0), .val (.int p1), .val (.int (fnTok wm)), .val (.int (wx ||| ((1 : Int32) <<< (p1 &&& 31)))), .val (.ref aL), .val (.int (8 : Int32)), .val (.int (4 : Int32)), .val (.int (73 : Int32))] [(.int (146 : Int32))])) (fun t k => X10.iaload hx (j := (4 : Int32)) (v := (.int (146 : Int32))) (by rw [e10]; exact Ar28.1) (State.isArrayOf_alike hZ.alike Ar28.2.1) Ar28.2.2 hin28 (Has.at Hh28 hin28 rfl) (g := (mkF m 113 #[.val (.ref p0), .val (.int p1), .val (.int (fnTok wm)), .val (.int (wx ||| ((1 : Int32) <<< (p1 &&& 31)))), .val (.ref aL), .val (.int (8 : Int32)), .val (.int (4 : Int32)), .val (.int (73 : Int32))] [(.int (4 : Int32)), (.ref aL)])) rfl rfl (hb hby d4_113) t k) ?_
            refine own_step (T' := T10) (g' := (mkF m 116 #[.val (.ref p0), .val (.int p1), .val (.int (fnTok wm)), .val (.int (wx ||| ((1 : Int32) <<< (p1 &&& 31)))), .val (.ref aL), .val (.int (8 : Int32)), .val (.int (4 : Int32)), .val (.int (146 : Int32))] [])) (fun t k => XS.istore X10.here hx rfl (hb hby d4_114) rfl (l' := #[.val (.ref p0), .val (.int p1), .val (.int (fnTok wm)), .val (.int (wx ||| ((1 : Int32) <<< (p1 &&& 31)))), .val (.ref aL), .val (.int (8 : Int32)), .val (.int (4 : Int32)), .val (.int (146 : Int32))]) rfl k) ?_
            refine own_step (T' := T10) (g' := (mkF m 117 #[.val (.ref p0), .val (.int p1), .val (.int (fnTok wm)), .val (.int (wx ||| ((1 : Int32) <<< (p1 &&& 31)))), .val (.ref aL), .val (.int (8 : Int32)), .val (.int (4 : Int32)), .val (.int (146 : Int32))] [(.int (wx ||| ((1 : Int32) <<< (p1 &&& 31))))])) (fun t k => XS.iloadN X10.here hx rfl (hb hby d4_116) rfl k) ?_
            refine own_step (T' := T10) (g' := (mkF m 119 #[.val (.ref p0), .val (.int p1), .val (.int (fnTok wm)), .val (.int (wx ||| ((1 : Int32) <<< (p1 &&& 31)))), .val (.ref aL), .val (.int (8 : Int32)), .val (.int (4 : Int32)), .val (.int (146 : Int32))] [(.int (146 : Int32)), (.int (wx ||| ((1 : Int32) <<< (p1 &&& 31))))])) (fun t k => XS.iload X10.here hx rfl (hb hby d4_117) rfl k) ?_
            refine own_step (T' := T10) (g' := (mkF m 120 #[.val (.ref p0), .val (.int p1), .val (.int (fnTok wm)), .val (.int (wx ||| ((1 : Int32) <<< (p1 &&& 31)))), .val (.ref aL), .val (.int (8 : Int32)), .val (.int (4 : Int32)), .val (.int (146 : Int32))] [(.int ((wx ||| ((1 : Int32) <<< (p1 &&& 31))) &&& (146 : Int32)))])) (fun t k => XS.iand X10.here hx rfl (hb hby d4_119) rfl k) ?_
            refine own_step (T' := T10) (g' := (mkF m 122 #[.val (.ref p0), .val (.int p1), .val (.int (fnTok wm)), .val (.int (wx ||| ((1 : Int32) <<< (p1 &&& 31)))), .val (.ref aL), .val (.int (8 : Int32)), .val (.int (4 : Int32)), .val (.int (146 : Int32))] [(.int (146 : Int32)), (.int ((wx ||| ((1 : Int32) <<< (p1 &&& 31))) &&& (146 : Int32)))])) (fun t k => XS.iload X10.here hx rfl (hb hby d4_120) rfl k) ?_
            by_cases hc122_29 : ((wx ||| ((1 : Int32) <<< (p1 &&& 31))) &&& (146 : Int32)) = (146 : Int32)
            · refine own_step (T' := T10) (g' := (mkF m 125 #[.val (.ref p0), .val (.int p1), .val (.int (fnTok wm)), .val (.int (wx ||| ((1 : Int32) <<< (p1 &&& 31)))), .val (.ref aL), .val (.int (8 : Int32)), .val (.int (4 : Int32)), .val (.int (146 : Int32))] [])) (fun t k => XS.icmpNo X10.here hx rfl (hb hby d4_122) rfl (teq hc122_29).2 k) ?_
              refine own_step (T' := T10) (g' := (mkF m 126 #[.val (.ref p0), .val (.int p1), .val (.int (fnTok wm)), .val (.int (wx ||| ((1 : Int32) <<< (p1 &&& 31)))), .val (.ref aL), .val (.int (8 : Int32)), .val (.int (4 : Int32)), .val (.int (146 : Int32))] [(.ref p0)])) (fun t k => XS.aloadN X10.here hx rfl (hb hby d4_125) rfl rfl k) ?_
              refine own_step (T' := T10) (g' := (mkF m 127 #[.val (.ref p0), .val (.int p1), .val (.int (fnTok wm)), .val (.int (wx ||| ((1 : Int32) <<< (p1 &&& 31)))), .val (.ref aL), .val (.int (8 : Int32)), .val (.int (4 : Int32)), .val (.int (146 : Int32))] [(.int (fnTok wm)), (.ref p0)])) (fun t k => XS.iloadN X10.here hx rfl (hb hby d4_126) rfl k) ?_
              obtain ⟨T30, h30, X30, e30, W30, st30⟩ := putFN X10 hx hZ hown (hw _ (List.mem_of_getElem? (i := 11) rfl)) Via.refl e10 F_winner_p0_9 E_p0_9 (Or.inl (hw _ (List.mem_of_getElem? (i := 12) rfl))) (hw _ (List.mem_of_getElem? (i := 1) rfl)) (ty := .char) (v' := (.int (nar .char (fnTok wm)))) (by decide) rfl (fits_nar_char (fnTok wm)) (g := (mkF m 127 #[.val (.ref p0), .val (.int p1), .val (.int (fnTok wm)), .val (.int (wx ||| ((1 : Int32) <<< (p1 &&& 31)))), .val (.ref aL), .val (.int (8 : Int32)), .val (.int (4 : Int32)), .val (.int (146 : Int32))] [(.int (fnTok wm)), (.ref p0)])) rfl rfl (hb hby d4_127)
              have E_p0_30 : Exa Z h30 p0 "com/example/tilescript/tilescript/TicTacToe" := E_p0_9.wr W30
              have F_oCells_p0_30 : Fld Z h30 p0 "com/example/tilescript/tilescript/TicTacToe" "oCells" "I" (.int wo) := F_oCells_p0_9.other W30 (Or.inr (slot_ne (Or.inl (hw _ (List.mem_of_getElem? (i := 39) rfl))) (Or.inl (hw _ (List.mem_of_getElem? (i := 12) rfl))) (by decide) (t := .int) (t' := .char) (by decide) (by decide)))
              have S_LINES_30 : Sta Z h30 "com/example/tilescript/tilescript/TicTacToe" "LINES" "[I" (.ref aL) := S_LINES_9.wr W30
              have V_aL_30 : Arv Z h30 aL kL .int (8 : Int32) [(.int (7 : Int32)), (.int (56 : Int32)), (.int (448 : Int32)), (.int (73 : Int32)), (.int (146 : Int32)), (.int (292 : Int32)), (.int (273 : Int32)), (.int (84 : Int32))] (.int (0 : Int32)) := V_aL_9.other W30 neL
              have F_xCells_p0_30 : Fld Z h30 p0 "com/example/tilescript/tilescript/TicTacToe" "xCells" "I" (.int (wx ||| ((1 : Int32) <<< (p1 &&& 31)))) := F_xCells_p0_9.other W30 (Or.inr (slot_ne (Or.inl (hw _ (List.mem_of_getElem? (i := 37) rfl))) (Or.inl (hw _ (List.mem_of_getElem? (i := 12) rfl))) (by decide) (t := .int) (t' := .char) (by decide) (by decide)))
              have F_marks_p0_30 : Fld Z h30 p0 "com/example/tilescript/tilescript/TicTacToe" "marks" "I" (.int (wm + (1 : Int32))) := F_marks_p0_9.other W30 (Or.inr (slot_ne (Or.inl (hw _ (List.mem_of_getElem? (i := 35) rfl))) (Or.inl (hw _ (List.mem_of_getElem? (i := 12) rfl))) (by decide) (t := .int) (t' := .char) (by decide) (by decide)))
              have F_lastMove_p0_30 : Fld Z h30 p0 "com/example/tilescript/tilescript/TicTacToe" "lastMove" "I" (.int p1) := F_lastMove_p0_9.other W30 (Or.inr (slot_ne (Or.inl (hw _ (List.mem_of_getElem? (i := 10) rfl))) (Or.inl (hw _ (List.mem_of_getElem? (i := 12) rfl))) (by decide) (t := .int) (t' := .char) (by decide) (by decide)))
              have K_30 : Keep h0 h30 [p0] := K_9.wr W30 (Or.inl (List.mem_of_getElem? (i := 0) rfl))
              have N30 := Fr.snoc X30 N9 g_p0
              have F_winner_p0_30 : Fld Z h30 p0 "com/example/tilescript/tilescript/TicTacToe" "winner" "C" (.int (nar .char (fnTok wm))) := F_winner_p0_9.same W30
              refine own_step (T' := T30) (g' := (mkF m 130 #[.val (.ref p0), .val (.int p1), .val (.int (fnTok wm)), .val (.int (wx ||| ((1 : Int32) <<< (p1 &&& 31)))), .val (.ref aL), .val (.int (8 : Int32)), .val (.int (4 : Int32)), .val (.int (146 : Int32))] [])) st30 ?_
              refine own_retV X30 hx hlk Bd.returns (hb hby d4_130) (by decide) (by decide) ?_
              rw [e30]
              exact ⟨(wx ||| ((1 : Int32) <<< (p1 &&& 31))), wo, (nar .char (fnTok wm)), rfl, N30, K_30, F_xCells_p0_30, F_oCells_p0_30, F_marks_p0_30, F_winner_p0_30, F_lastMove_p0_30, Or.inl ⟨hc34_3, rfl, rfl, (by unfold own_wn; rw [if_neg hc122_13, if_neg hc122_17, if_neg hc122_21, if_neg hc122_25, if_pos hc122_29])⟩⟩
            · refine own_step (T' := T10) (g' := (mkF m 131 #[.val (.ref p0), .val (.int p1), .val (.int (fnTok wm)), .val (.int (wx ||| ((1 : Int32) <<< (p1 &&& 31)))), .val (.ref aL), .val (.int (8 : Int32)), .val (.int (4 : Int32)), .val (.int (146 : Int32))] [])) (fun t k => XS.icmpYes X10.here hx rfl (pc0 := 122) (pc' := 131) rfl (hb hby d4_122) rfl (feq hc122_29).2 (by decide) (by decide) k) ?_
              refine own_step (T' := T10) (g' := (mkF m 134 #[.val (.ref p0), .val (.int p1), .val (.int (fnTok wm)), .val (.int (wx ||| ((1 : Int32) <<< (p1 &&& 31)))), .val (.ref aL), .val (.int (8 : Int32)), .val (.int (5 : Int32)), .val (.int (146 : Int32))] [])) (fun t k => XS.iinc X10.here hx rfl (hb hby d4_131) rfl (l' := #[.val (.ref p0), .val (.int p1), .val (.int (fnTok wm)), .val (.int (wx ||| ((1 : Int32) <<< (p1 &&& 31)))), .val (.ref aL), .val (.int (8 : Int32)), .val (.int (5 : Int32)), .val (.int (146 : Int32))]) rfl k) ?_
              refine own_step (T' := T10) (g' := (mkF m 102 #[.val (.ref p0), .val (.int p1), .val (.int (fnTok wm)), .val (.int (wx ||| ((1 : Int32) <<< (p1 &&& 31)))), .val (.ref aL), .val (.int (8 : Int32)), .val (.int (5 : Int32)), .val (.int (146 : Int32))] [])) (fun t k => XS.goto X10.here hx rfl (pc0 := 134) (pc' := 102) rfl (hb hby d4_134) (by decide) (by decide) k) ?_
              refine own_step (T' := T10) (g' := (mkF m 104 #[.val (.ref p0), .val (.int p1), .val (.int (fnTok wm)), .val (.int (wx ||| ((1 : Int32) <<< (p1 &&& 31)))), .val (.ref aL), .val (.int (8 : Int32)), .val (.int (5 : Int32)), .val (.int (146 : Int32))] [(.int (5 : Int32))])) (fun t k => XS.iload X10.here hx rfl (hb hby d4_102) rfl k) ?_
              refine own_step (T' := T10) (g' := (mkF m 106 #[.val (.ref p0), .val (.int p1), .val (.int (fnTok wm)), .val (.int (wx ||| ((1 : Int32) <<< (p1 &&& 31)))), .val (.ref aL), .val (.int (8 : Int32)), .val (.int (5 : Int32)), .val (.int (146 : Int32))] [(.int (8 : Int32)), (.int (5 : Int32))])) (fun t k => XS.iload X10.here hx rfl (hb hby d4_104) rfl k) ?_
              refine own_step (T' := T10) (g' := (mkF m 109 #[.val (.ref p0), .val (.int p1), .val (.int (fnTok wm)), .val (.int (wx ||| ((1 : Int32) <<< (p1 &&& 31)))), .val (.ref aL), .val (.int (8 : Int32)), .val (.int (5 : Int32)), .val (.int (146 : Int32))] [])) (fun t k => XS.icmpNo X10.here hx rfl (hb hby d4_106) rfl (tlt (by decide : (5 : Int32) < (8 : Int32))).2.1 k) ?_
              refine own_step (T' := T10) (g' := (mkF m 111 #[.val (.ref p0), .val (.int p1), .val (.int (fnTok wm)), .val (.int (wx ||| ((1 : Int32) <<< (p1 &&& 31)))), .val (.ref aL), .val (.int (8 : Int32)), .val (.int (5 : Int32)), .val (.int (146 : Int32))] [(.ref aL)])) (fun t k => XS.aload X10.here hx rfl (hb hby d4_109) rfl rfl k) ?_
              refine own_step (T' := T10) (g' := (mkF m 113 #[.val (.ref p0), .val (.int p1), .val (.int (fnTok wm)), .val (.int (wx ||| ((1 : Int32) <<< (p1 &&& 31)))), .val (.ref aL), .val (.int (8 : Int32)), .val (.int (5 : Int32)), .val (.int (146 : Int32))] [(.int (5 : Int32)), (.ref aL)])) (fun t k => XS.iload X10.here hx rfl (hb hby d4_111) rfl k) ?_
              obtain ⟨cl32, Ar32, q32, Sz32, Nn32, Hh32, Gg32⟩ := id V_aL_9
              have hin32 : ¬ ((5 : Int32) < 0 ∨ cl32.slots.size ≤ ((5 : Int32)).toNatClampNeg) := inb_of Sz32 ⟨by decide, by decide⟩
              refine own_step (T' := T10) (g' := (mkF m 114 #[.val (.ref p0), .val (.int p1), .val (.int (fnTok wm)), .val (.int (wx ||| ((1 : Int32) <<< (p1 &&& 31)))), .val (.ref aL), .val (.int (8 : Int32)), .val (.int (5 : Int32)), .val (.int (146 : Int32))] [(.int (292 : Int32))])) (fun t k => X10.iaload hx (j := (5 : Int32)) (v := (.int (292 : Int32))) (by rw [e10]; exact Ar32.1) (State.isArrayOf_alike hZ.alike Ar32.2.1) Ar32.2.2 hin32 (Has.at Hh32 hin32 rfl) (g := (mkF m 113 #[.val (.ref p0), .val (.int p1), .val (.int (fnTok wm)), .val (.int (wx ||| ((1 : Int32) <<< (p1 &&& 31)))), .val (.ref aL), .val (.int (8 : Int32)), .val (.int (5 : Int32)), .val (.int (146 : Int32))] [(.int (5 : Int32)), (.ref aL)])) rfl rfl (hb hby d4_113) t k) ?_
              refine own_step (T' := T10) (g' := (mkF m 116 #[.val (.ref p0), .val (.int p1), .val (.int (fnTok wm)), .val (.int (wx ||| ((1 : Int32) <<< (p1 &&& 31)))), .val (.ref aL), .val (.int (8 : Int32)), .val (.int (5 : Int32)), .val (.int (292 : Int32))] [])) (fun t k => XS.istore X10.here hx rfl (hb hby d4_114) rfl (l' := #[.val (.ref p0), .val (.int p1), .val (.int (fnTok wm)), .val (.int (wx ||| ((1 : Int32) <<< (p1 &&& 31)))), .val (.ref aL), .val (.int (8 : Int32)), .val (.int (5 : Int32)), .val (.int (292 : Int32))]) rfl k) ?_
              refine own_step (T' := T10) (g' := (mkF m 117 #[.val (.ref p0), .val (.int p1), .val (.int (fnTok wm)), .val (.int (wx ||| ((1 : Int32) <<< (p1 &&& 31)))), .val (.ref aL), .val (.int (8 : Int32)), .val (.int (5 : Int32)), .val (.int (292 : Int32))] [(.int (wx ||| ((1 : Int32) <<< (p1 &&& 31))))])) (fun t k => XS.iloadN X10.here hx rfl (hb hby d4_116) rfl k) ?_
              refine own_step (T' := T10) (g' := (mkF m 119 #[.val (.ref p0), .val (.int p1), .val (.int (fnTok wm)), .val (.int (wx ||| ((1 : Int32) <<< (p1 &&& 31)))), .val (.ref aL), .val (.int (8 : Int32)), .val (.int (5 : Int32)), .val (.int (292 : Int32))] [(.int (292 : Int32)), (.int (wx ||| ((1 : Int32) <<< (p1 &&& 31))))])) (fun t k => XS.iload X10.here hx rfl (hb hby d4_117) rfl k) ?_
              refine own_step (T' := T10) (g' := (mkF m 120 #[.val (.ref p0), .val (.int p1), .val (.int (fnTok wm)), .val (.int (wx ||| ((1 : Int32) <<< (p1 &&& 31)))), .val (.ref aL), .val (.int (8 : Int32)), .val (.int (5 : Int32)), .val (.int (292 : Int32))] [(.int ((wx ||| ((1 : Int32) <<< (p1 &&& 31))) &&& (292 : Int32)))])) (fun t k => XS.iand X10.here hx rfl (hb hby d4_119) rfl k) ?_
              refine own_step (T' := T10) (g' := (mkF m 122 #[.val (.ref p0), .val (.int p1), .val (.int (fnTok wm)), .val (.int (wx ||| ((1 : Int32) <<< (p1 &&& 31)))), .val (.ref aL), .val (.int (8 : Int32)), .val (.int (5 : Int32)), .val (.int (292 : Int32))] [(.int (292 : Int32)), (.int ((wx ||| ((1 : Int32) <<< (p1 &&& 31))) &&& (292 : Int32)))])) (fun t k => XS.iload X10.here hx rfl (hb hby d4_120) rfl k) ?_
              by_cases hc122_33 : ((wx ||| ((1 : Int32) <<< (p1 &&& 31))) &&& (292 : Int32)) = (292 : Int32)
              · refine own_step (T' := T10) (g' := (mkF m 125 #[.val (.ref p0), .val (.int p1), .val (.int (fnTok wm)), .val (.int (wx ||| ((1 : Int32) <<< (p1 &&& 31)))), .val (.ref aL), .val (.int (8 : Int32)), .val (.int (5 : Int32)), .val (.int (292 : Int32))] [])) (fun t k => XS.icmpNo X10.here hx rfl (hb hby d4_122) rfl (teq hc122_33).2 k) ?_
                refine own_step (T' := T10) (g' := (mkF m 126 #[.val (.ref p0), .val (.int p1), .val (.int (fnTok wm)), .val (.int (wx ||| ((1 : Int32) <<< (p1 &&& 31)))), .val (.ref aL), .val (.int (8 : Int32)), .val (.int (5 : Int32)), .val (.int (292 : Int32))] [(.ref p0)])) (fun t k => XS.aloadN X10.here hx rfl (hb hby d4_125) rfl rfl k) ?_
                refine own_step (T' := T10) (g' := (mkF m 127 #[.val (.ref p0), .val (.int p1), .val (.int (fnTok wm)), .val (.int (wx ||| ((1 : Int32) <<< (p1 &&& 31)))), .val (.ref aL), .val (.int (8 : Int32)), .val (.int (5 : Int32)), .val (.int (292 : Int32))] [(.int (fnTok wm)), (.ref p0)])) (fun t k => XS.iloadN X10.here hx rfl (hb hby d4_126) rfl k) ?_
                obtain ⟨T34, h34, X34, e34, W34, st34⟩ := putFN X10 hx hZ hown (hw _ (List.mem_of_getElem? (i := 11) rfl)) Via.refl e10 F_winner_p0_9 E_p0_9 (Or.inl (hw _ (List.mem_of_getElem? (i := 12) rfl))) (hw _ (List.mem_of_getElem? (i := 1) rfl)) (ty := .char) (v' := (.int (nar .char (fnTok wm)))) (by decide) rfl (fits_nar_char (fnTok wm)) (g := (mkF m 127 #[.val (.ref p0), .val (.int p1), .val (.int (fnTok wm)), .val (.int (wx ||| ((1 : Int32) <<< (p1 &&& 31)))), .val (.ref aL), .val (.int (8 : Int32)), .val (.int (5 : Int32)), .val (.int (292 : Int32))] [(.int (fnTok wm)), (.ref p0)])) rfl rfl (hb hby d4_127)
                have E_p0_34 : Exa Z h34 p0 "com/example/tilescript/tilescript/TicTacToe" := E_p0_9.wr W34
                have F_oCells_p0_34 : Fld Z h34 p0 "com/example/tilescript/tilescript/TicTacToe" "oCells" "I" (.int wo) := F_oCells_p0_9.other W34 (Or.inr (slot_ne (Or.inl (hw _ (List.mem_of_getElem? (i := 39) rfl))) (Or.inl (hw _ (List.mem_of_getElem? (i := 12) rfl))) (by decide) (t := .int) (t' := .char) (by decide) (by decide)))
                have S_LINES_34 : Sta Z h34 "com/example/tilescript/tilescript/TicTacToe" "LINES" "[I" (.ref aL) := S_LINES_9.wr W34
                have V_aL_34 : Arv Z h34 aL kL .int (8 : Int32) [(.int (7 : Int32)), (.int (56 : Int32)), (.int (448 : Int32)), (.int (73 : Int32)), (.int (146 : Int32)), (.int (292 : Int32)), (.int (273 : Int32)), (.int (84 : Int32))] (.int (0 : Int32)) := V_aL_9.other W34 neL
                have F_xCells_p0_34 : Fld Z h34 p0 "com/example/tilescript/tilescript/TicTacToe" "xCells" "I" (.int (wx ||| ((1 : Int32) <<< (p1 &&& 31)))) := F_xCells_p0_9.other W34 (Or.inr (slot_ne (Or.inl (hw _ (List.mem_of_getElem? (i := 37) rfl))) (Or.inl (hw _ (List.mem_of_getElem? (i := 12) rfl))) (by decide) (t := .int) (t' := .char) (by decide) (by decide)))
                have F_marks_p0_34 : Fld Z h34 p0 "com/example/tilescript/tilescript/TicTacToe" "marks" "I" (.int (wm + (1 : Int32))) := F_marks_p0_9.other W34 (Or.inr (slot_ne (Or.inl (hw _ (List.mem_of_getElem? (i := 35) rfl))) (Or.inl (hw _ (List.mem_of_getElem? (i := 12) rfl))) (by decide) (t := .int) (t' := .char) (by decide) (by decide)))
                have F_lastMove_p0_34 : Fld Z h34 p0 "com/example/tilescript/tilescript/TicTacToe" "lastMove" "I" (.int p1) := F_lastMove_p0_9.other W34 (Or.inr (slot_ne (Or.inl (hw _ (List.mem_of_getElem? (i := 10) rfl))) (Or.inl (hw _ (List.mem_of_getElem? (i := 12) rfl))) (by decide) (t := .int) (t' := .char) (by decide) (by decide)))
                have K_34 : Keep h0 h34 [p0] := K_9.wr W34 (Or.inl (List.mem_of_getElem? (i := 0) rfl))
                have N34 := Fr.snoc X34 N9 g_p0
                have F_winner_p0_34 : Fld Z h34 p0 "com/example/tilescript/tilescript/TicTacToe" "winner" "C" (.int (nar .char (fnTok wm))) := F_winner_p0_9.same W34
                refine own_step (T' := T34) (g' := (mkF m 130 #[.val (.ref p0), .val (.int p1), .val (.int (fnTok wm)), .val (.int (wx ||| ((1 : Int32) <<< (p1 &&& 31)))), .val (.ref aL), .val (.int (8 : Int32)), .val (.int (5 : Int32)), .val (.int (292 : Int32))] [])) st34 ?_
                refine own_retV X34 hx hlk Bd.returns (hb hby d4_130) (by decide) (by decide) ?_
                rw [e34]
                exact ⟨(wx ||| ((1 : Int32) <<< (p1 &&& 31))), wo, (nar .char (fnTok wm)), rfl, N34, K_34, F_xCells_p0_34, F_oCells_p0_34, F_marks_p0_34, F_winner_p0_34, F_lastMove_p0_34, Or.inl ⟨hc34_3, rfl, rfl, (by unfold own_wn; rw [if_neg hc122_13, if_neg hc122_17, if_neg hc122_21, if_neg hc122_25, if_neg hc122_29, if_pos hc122_33])⟩⟩
              · refine own_step (T' := T10) (g' := (mkF m 131 #[.val (.ref p0), .val (.int p1), .val (.int (fnTok wm)), .val (.int (wx ||| ((1 : Int32) <<< (p1 &&& 31)))), .val (.ref aL), .val (.int (8 : Int32)), .val (.int (5 : Int32)), .val (.int (292 : Int32))] [])) (fun t k => XS.icmpYes X10.here hx rfl (pc0 := 122) (pc' := 131) rfl (hb hby d4_122) rfl (feq hc122_33).2 (by decide) (by decide) k) ?_
                refine own_step (T' := T10) (g' := (mkF m 134 #[.val (.ref p0), .val (.int p1), .val (.int (fnTok wm)), .val (.int (wx ||| ((1 : Int32) <<< (p1 &&& 31)))), .val (.ref aL), .val (.int (8 : Int32)), .val (.int (6 : Int32)), .val (.int (292 : Int32))] [])) (fun t k => XS.iinc X10.here hx rfl (hb hby d4_131) rfl (l' := #[.val (.ref p0), .val (.int p1), .val (.int (fnTok wm)), .val (.int (wx ||| ((1 : Int32) <<< (p1 &&& 31)))), .val (.ref aL), .val (.int (8 : Int32)), .val (.int (6 : Int32)), .val (.int (292 : Int32))]) rfl k) ?_
                refine own_step (T' := T10) (g' := (mkF m 102 #[.val (.ref p0), .val (.int p1), .val (.int (fnTok wm)), .val (.int (wx ||| ((1 : Int32) <<< (p1 &&& 31)))), .val (.ref aL), .val (.int (8 : Int32)), .val (.int (6 : Int32)), .val (.int (292 : Int32))] [])) (fun t k => XS.goto X10.here hx rfl (pc0 := 134) (pc' := 102) rfl (hb hby d4_134) (by decide) (by decide) k) ?_
                refine own_step (T' := T10) (g' := (mkF m 104 #[.val (.ref p0), .val (.int p1), .val (.int (fnTok wm)), .val (.int (wx ||| ((1 : Int32) <<< (p1 &&& 31)))), .val (.ref aL), .val (.int (8 : Int32)), .val (.int (6 : Int32)), .val (.int (292 : Int32))] [(.int (6 : Int32))])) (fun t k => XS.iload X10.here hx rfl (hb hby d4_102) rfl k) ?_
                refine own_step (T' := T10) (g' := (mkF m 106 #[.val (.ref p0), .val (.int p1), .val (.int (fnTok wm)), .val (.int (wx ||| ((1 : Int32) <<< (p1 &&& 31)))), .val (.ref aL), .val (.int (8 : Int32)), .val (.int (6 : Int32)), .val (.int (292 : Int32))] [(.int (8 : Int32)), (.int (6 : Int32))])) (fun t k => XS.iload X10.here hx rfl (hb hby d4_104) rfl k) ?_
                refine own_step (T' := T10) (g' := (mkF m 109 #[.val (.ref p0), .val (.int p1), .val (.int (fnTok wm)), .val (.int (wx ||| ((1 : Int32) <<< (p1 &&& 31)))), .val (.ref aL), .val (.int (8 : Int32)), .val (.int (6 : Int32)), .val (.int (292 : Int32))] [])) (fun t k => XS.icmpNo X10.here hx rfl (hb hby d4_106) rfl (tlt (by decide : (6 : Int32) < (8 : Int32))).2.1 k) ?_
                refine own_step (T' := T10) (g' := (mkF m 111 #[.val (.ref p0), .val (.int p1), .val (.int (fnTok wm)), .val (.int (wx ||| ((1 : Int32) <<< (p1 &&& 31)))), .val (.ref aL), .val (.int (8 : Int32)), .val (.int (6 : Int32)), .val (.int (292 : Int32))] [(.ref aL)])) (fun t k => XS.aload X10.here hx rfl (hb hby d4_109) rfl rfl k) ?_
                refine own_step (T' := T10) (g' := (mkF m 113 #[.val (.ref p0), .val (.int p1), .val (.int (fnTok wm)), .val (.int (wx ||| ((1 : Int32) <<< (p1 &&& 31)))), .val (.ref aL), .val (.int (8 : Int32)), .val (.int (6 : Int32)), .val (.int (292 : Int32))] [(.int (6 : Int32)), (.ref aL)])) (fun t k => XS.iload X10.here hx rfl (hb hby d4_111) rfl k) ?_
                obtain ⟨cl36, Ar36, q36, Sz36, Nn36, Hh36, Gg36⟩ := id V_aL_9
                have hin36 : ¬ ((6 : Int32) < 0 ∨ cl36.slots.size ≤ ((6 : Int32)).toNatClampNeg) := inb_of Sz36 ⟨by decide, by decide⟩
                refine own_step (T' := T10) (g' := (mkF m 114 #[.val (.ref p0), .val (.int p1), .val (.int (fnTok wm)), .val (.int (wx ||| ((1 : Int32) <<< (p1 &&& 31)))), .val (.ref aL), .val (.int (8 : Int32)), .val (.int (6 : Int32)), .val (.int (292 : Int32))] [(.int (273 : Int32))])) (fun t k => X10.iaload hx (j := (6 : Int32)) (v := (.int (273 : Int32))) (by rw [e10]; exact Ar36.1) (State.isArrayOf_alike hZ.alike Ar36.2.1) Ar36.2.2 hin36 (Has.at Hh36 hin36 rfl) (g := (mkF m 113 #[.val (.ref p0), .val (.int p1), .val (.int (fnTok wm)), .val (.int (wx ||| ((1 : Int32) <<< (p1 &&& 31)))), .val (.ref aL), .val (.int (8 : Int32)), .val (.int (6 : Int32)), .val (.int (292 : Int32))] [(.int (6 : Int32)), (.ref aL)])) rfl rfl (hb hby d4_113) t k) ?_
                refine own_step (T' := T10) (g' := (mkF m 116 #[.val (.ref p0), .val (.int p1), .val (.int (fnTok wm)), .val (.int (wx ||| ((1 : Int32) <<< (p1 &&& 31)))), .val (.ref aL), .val (.int (8 : Int32)), .val (.int (6 : Int32)), .val (.int (273 : Int32))] [])) (fun t k => XS.istore X10.here hx rfl (hb hby d4_114) rfl (l' := #[.val (.ref p0), .val (.int p1), .val (.int (fnTok wm)), .val (.int (wx ||| ((1 : Int32) <<< (p1 &&& 31)))), .val (.ref aL), .val (.int (8 : Int32)), .val (.int (6 : Int32)), .val (.int (273 : Int32))]) rfl k) ?_
                refine own_step (T' := T10) (g' := (mkF m 117 #[.val (.ref p0), .val (.int p1), .val (.int (fnTok wm)), .val (.int (wx ||| ((1 : Int32) <<< (p1 &&& 31)))), .val (.ref aL), .val (.int (8 : Int32)), .val (.int (6 : Int32)), .val (.int (273 : Int32))] [(.int (wx ||| ((1 : Int32) <<< (p1 &&& 31))))])) (fun t k => XS.iloadN X10.here hx rfl (hb hby d4_116) rfl k) ?_
                refine own_step (T' := T10) (g' := (mkF m 119 #[.val (.ref p0), .val (.int p1), .val (.int (fnTok wm)), .val (.int (wx ||| ((1 : Int32) <<< (p1 &&& 31)))), .val (.ref aL), .val (.int (8 : Int32)), .val (.int (6 : Int32)), .val (.int (273 : Int32))] [(.int (273 : Int32)), (.int (wx ||| ((1 : Int32) <<< (p1 &&& 31))))])) (fun t k => XS.iload X10.here hx rfl (hb hby d4_117) rfl k) ?_
                refine own_step (T' := T10) (g' := (mkF m 120 #[.val (.ref p0), .val (.int p1), .val (.int (fnTok wm)), .val (.int (wx ||| ((1 : Int32) <<< (p1 &&& 31)))), .val (.ref aL), .val (.int (8 : Int32)), .val (.int (6 : Int32)), .val (.int (273 : Int32))] [(.int ((wx ||| ((1 : Int32) <<< (p1 &&& 31))) &&& (273 : Int32)))])) (fun t k => XS.iand X10.here hx rfl (hb hby d4_119) rfl k) ?_
                refine own_step (T' := T10) (g' := (mkF m 122 #[.val (.ref p0), .val (.int p1), .val (.int (fnTok wm)), .val (.int (wx ||| ((1 : Int32) <<< (p1 &&& 31)))), .val (.ref aL), .val (.int (8 : Int32)), .val (.int (6 : Int32)), .val (.int (273 : Int32))] [(.int (273 : Int32)), (.int ((wx ||| ((1 : Int32) <<< (p1 &&& 31))) &&& (273 : Int32)))])) (fun t k => XS.iload X10.here hx rfl (hb hby d4_120) rfl k) ?_
                by_cases hc122_37 : ((wx ||| ((1 : Int32) <<< (p1 &&& 31))) &&& (273 : Int32)) = (273 : Int32)
                · refine own_step (T' := T10) (g' := (mkF m 125 #[.val (.ref p0), .val (.int p1), .val (.int (fnTok wm)), .val (.int (wx ||| ((1 : Int32) <<< (p1 &&& 31)))), .val (.ref aL), .val (.int (8 : Int32)), .val (.int (6 : Int32)), .val (.int (273 : Int32))] [])) (fun t k => XS.icmpNo X10.here hx rfl (hb hby d4_122) rfl (teq hc122_37).2 k) ?_
                  refine own_step (T' := T10) (g' := (mkF m 126 #[.val (.ref p0), .val (.int p1), .val (.int (fnTok wm)), .val (.int (wx ||| ((1 : Int32) <<< (p1 &&& 31)))), .val (.ref aL), .val (.int (8 : Int32)), .val (.int (6 : Int32)), .val (.int (273 : Int32))] [(.ref p0)])) (fun t k => XS.aloadN X10.here hx rfl (hb hby d4_125) rfl rfl k) ?_
                  refine own_step (T' := T10) (g' := (mkF m 127 #[.val (.ref p0), .val (.int p1), .val (.int (fnTok wm)), .val (.int (wx ||| ((1 : Int32) <<< (p1 &&& 31)))), .val (.ref aL), .val (.int (8 : Int32)), .val (.int (6 : Int32)), .val (.int (273 : Int32))] [(.int (fnTok wm)), (.ref p0)])) (fun t k => XS.iloadN X10.here hx rfl (hb hby d4_126) rfl k) ?_
                  obtain ⟨T38, h38, X38, e38, W38, st38⟩ := putFN X10 hx hZ hown (hw _ (List.mem_of_getElem? (i := 11) rfl)) Via.refl e10 F_winner_p0_9 E_p0_9 (Or.inl (hw _ (List.mem_of_getElem? (i := 12) rfl))) (hw _ (List.mem_of_getElem? (i := 1) rfl)) (ty := .char) (v' := (.int (nar .char (fnTok wm)))) (by decide) rfl (fits_nar_char (fnTok wm)) (g := (mkF m 127 #[.val (.ref p0), .val (.int p1), .val (.int (fnTok wm)), .val (.int (wx ||| ((1 : Int32) <<< (p1 &&& 31)))), .val (.ref aL), .val (.int (8 : Int32)), .val (.int (6 : Int32)), .val (.int (273 : Int32))] [(.int (fnTok wm)), (.ref p0)])) rfl rfl (hb hby d4_127)
                  have E_p0_38 : Exa Z h38 p0 "com/example/tilescript/tilescript/TicTacToe" := E_p0_9.wr W38
                  have F_oCells_p0_38 : Fld Z h38 p0 "com/example/tilescript/tilescript/TicTacToe" "oCells" "I" (.int wo) := F_oCells_p0_9.other W38 (Or.inr (slot_ne (Or.inl (hw _ (List.mem_of_getElem? (i := 39) rfl))) (Or.inl (hw _ (List.mem_of_getElem? (i := 12) rfl))) (by decide) (t := .int) (t' := .char) (by decide) (by decide)))
                  have S_LINES_38 : Sta Z h38 "com/example/tilescript/tilescript/TicTacToe" "LINES" "[I" (.ref aL) := S_LINES_9.wr W38
                  have V_aL_38 : Arv Z h38 aL kL .int (8 : Int32) [(.int (7 : Int32)), (.int (56 : Int32)), (.int (448 : Int32)), (.int (73 : Int32)), (.int (146 : Int32)), (.int (292 : Int32)), (.int (273 : Int32)), (.int (84 : Int32))] (.int (0 : Int32)) := V_aL_9.other W38 neL
                  have F_xCells_p0_38 : Fld Z h38 p0 "com/example/tilescript/tilescript/TicTacToe" "xCells" "I" (.int (wx ||| ((1 : Int32) <<< (p1 &&& 31)))) := F_xCells_p0_9.other W38 (Or.inr (slot_ne (Or.inl (hw _ (List.mem_of_getElem? (i := 37) rfl))) (Or.inl (hw _ (List.mem_of_getElem? (i := 12) rfl))) (by decide) (t := .int) (t' := .char) (by decide) (by decide)))
                  have F_marks_p0_38 : Fld Z h38 p0 "com/example/tilescript/tilescript/TicTacToe" "marks" "I" (.int (wm + (1 : Int32))) := F_marks_p0_9.other W38 (Or.inr (slot_ne (Or.inl (hw _ (List.mem_of_getElem? (i := 35) rfl))) (Or.inl (hw _ (List.mem_of_getElem? (i := 12) rfl))) (by decide) (t := .int) (t' := .char) (by decide) (by decide)))
                  have F_lastMove_p0_38 : Fld Z h38 p0 "com/example/tilescript/tilescript/TicTacToe" "lastMove" "I" (.int p1) := F_lastMove_p0_9.other W38 (Or.inr (slot_ne (Or.inl (hw _ (List.mem_of_getElem? (i := 10) rfl))) (Or.inl (hw _ (List.mem_of_getElem? (i := 12) rfl))) (by decide) (t := .int) (t' := .char) (by decide) (by decide)))
                  have K_38 : Keep h0 h38 [p0] := K_9.wr W38 (Or.inl (List.mem_of_getElem? (i := 0) rfl))
                  have N38 := Fr.snoc X38 N9 g_p0
                  have F_winner_p0_38 : Fld Z h38 p0 "com/example/tilescript/tilescript/TicTacToe" "winner" "C" (.int (nar .char (fnTok wm))) := F_winner_p0_9.same W38
                  refine own_step (T' := T38) (g' := (mkF m 130 #[.val (.ref p0), .val (.int p1), .val (.int (fnTok wm)), .val (.int (wx ||| ((1 : Int32) <<< (p1 &&& 31)))), .val (.ref aL), .val (.int (8 : Int32)), .val (.int (6 : Int32)), .val (.int (273 : Int32))] [])) st38 ?_
                  refine own_retV X38 hx hlk Bd.returns (hb hby d4_130) (by decide) (by decide) ?_
                  rw [e38]
                  exact ⟨(wx ||| ((1 : Int32) <<< (p1 &&& 31))), wo, (nar .char (fnTok wm)), rfl, N38, K_38, F_xCells_p0_38, F_oCells_p0_38, F_marks_p0_38, F_winner_p0_38, F_lastMove_p0_38, Or.inl ⟨hc34_3, rfl, rfl, (by unfold own_wn; rw [if_neg hc122_13, if_neg hc122_17, if_neg hc122_21, if_neg hc122_25, if_neg hc122_29, if_neg hc122_33, if_pos hc122_37])⟩⟩
                · refine own_step (T' := T10) (g' := (mkF m 131 #[.val (.ref p0), .val (.int p1), .val (.int (fnTok wm)), .val (.int (wx ||| ((1 : Int32) <<< (p1 &&& 31)))), .val (.ref aL), .val (.int (8 : Int32)), .val (.int (6 : Int32)), .val (.int (273 : Int32))] [])) (fun t k => XS.icmpYes X10.here hx rfl (pc0 := 122) (pc' := 131) rfl (hb hby d4_122) rfl (feq hc122_37).2 (by decide) (by decide) k) ?_
                  refine own_step (T' := T10) (g' := (mkF m 134 #[.val (.ref p0), .val (.int p1), .val (.int (fnTok wm)), .val (.int (wx ||| ((1 : Int32) <<< (p1 &&& 31)))), .val (.ref aL), .val (.int (8 : Int32)), .val (.int (7 : Int32)), .val (.int (273 : Int32))] [])) (fun t k => XS.iinc X10.here hx rfl (hb hby d4_131) rfl (l' := #[.val (.ref p0), .val (.int p1), .val (.int (fnTok wm)), .val (.int (wx ||| ((1 : Int32) <<< (p1 &&& 31)))), .val (.ref aL), .val (.int (8 : Int32)), .val (.int (7 : Int32)), .val (.int (273 : Int32))]) rfl k) ?_
                  refine own_step (T' := T10) (g' := (mkF m 102 #[.val (.ref p0), .val (.int p1), .val (.int (fnTok wm)), .val (.int (wx ||| ((1 : Int32) <<< (p1 &&& 31)))), .val (.ref aL), .val (.int (8 : Int32)), .val (.int (7 : Int32)), .val (.int (273 : Int32))] [])) (fun t k => XS.goto X10.here hx rfl (pc0 := 134) (pc' := 102) rfl (hb hby d4_134) (by decide) (by decide) k) ?_
                  refine own_step (T' := T10) (g' := (mkF m 104 #[.val (.ref p0), .val (.int p1), .val (.int (fnTok wm)), .val (.int (wx ||| ((1 : Int32) <<< (p1 &&& 31)))), .val (.ref aL), .val (.int (8 : Int32)), .val (.int (7 : Int32)), .val (.int (273 : Int32))] [(.int (7 : Int32))])) (fun t k => XS.iload X10.here hx rfl (hb hby d4_102) rfl k) ?_
                  refine own_step (T' := T10) (g' := (mkF m 106 #[.val (.ref p0), .val (.int p1), .val (.int (fnTok wm)), .val (.int (wx ||| ((1 : Int32) <<< (p1 &&& 31)))), .val (.ref aL), .val (.int (8 : Int32)), .val (.int (7 : Int32)), .val (.int (273 : Int32))] [(.int (8 : Int32)), (.int (7 : Int32))])) (fun t k => XS.iload X10.here hx rfl (hb hby d4_104) rfl k) ?_
                  refine own_step (T' := T10) (g' := (mkF m 109 #[.val (.ref p0), .val (.int p1), .val (.int (fnTok wm)), .val (.int (wx ||| ((1 : Int32) <<< (p1 &&& 31)))), .val (.ref aL), .val (.int (8 : Int32)), .val (.int (7 : Int32)), .val (.int (273 : Int32))] [])) (fun t k => XS.icmpNo X10.here hx rfl (hb hby d4_106) rfl (tlt (by decide : (7 : Int32) < (8 : Int32))).2.1 k) ?_
                  refine own_step (T' := T10) (g' := (mkF m 111 #[.val (.ref p0), .val (.int p1), .val (.int (fnTok wm)), .val (.int (wx ||| ((1 : Int32) <<< (p1 &&& 31)))), .val (.ref aL), .val (.int (8 : Int32)), .val (.int (7 : Int32)), .val (.int (273 : Int32))] [(.ref aL)])) (fun t k => XS.aload X10.here hx rfl (hb hby d4_109) rfl rfl k) ?_
                  refine own_step (T' := T10) (g' := (mkF m 113 #[.val (.ref p0), .val (.int p1), .val (.int (fnTok wm)), .val (.int (wx ||| ((1 : Int32) <<< (p1 &&& 31)))), .val (.ref aL), .val (.int (8 : Int32)), .val (.int (7 : Int32)), .val (.int (273 : Int32))] [(.int (7 : Int32)), (.ref aL)])) (fun t k => XS.iload X10.here hx rfl (hb hby d4_111) rfl k) ?_
                  obtain ⟨cl40, Ar40, q40, Sz40, Nn40, Hh40, Gg40⟩ := id V_aL_9
                  have hin40 : ¬ ((7 : Int32) < 0 ∨ cl40.slots.size ≤ ((7 : Int32)).toNatClampNeg) := inb_of Sz40 ⟨by decide, by decide⟩
                  refine own_step (T' := T10) (g' := (mkF m 114 #[.val (.ref p0), .val (.int p1), .val (.int (fnTok wm)), .val (.int (wx ||| ((1 : Int32) <<< (p1 &&& 31)))), .val (.ref aL), .val (.int (8 : Int32)), .val (.int (7 : Int32)), .val (.int (273 : Int32))] [(.int (84 : Int32))])) (fun t k => X10.iaload hx (j := (7 : Int32)) (v := (.int (84 : Int32))) (by rw [e10]; exact Ar40.1) (State.isArrayOf_alike hZ.alike Ar40.2.1) Ar40.2.2 hin40 (Has.at Hh40 hin40 rfl) (g := (mkF m 113 #[.val (.ref p0), .val (.int p1), .val (.int (fnTok wm)), .val (.int (wx ||| ((1 : Int32) <<< (p1 &&& 31)))), .val (.ref aL), .val (.int (8 : Int32)), .val (.int (7 : Int32)), .val (.int (273 : Int32))] [(.int (7 : Int32)), (.ref aL)])) rfl rfl (hb hby d4_113) t k) ?_
                  refine own_step (T' := T10) (g' := (mkF m 116 #[.val (.ref p0), .val (.int p1), .val (.int (fnTok wm)), .val (.int (wx ||| ((1 : Int32) <<< (p1 &&& 31)))), .val (.ref aL), .val (.int (8 : Int32)), .val (.int (7 : Int32)), .val (.int (84 : Int32))] [])) (fun t k => XS.istore X10.here hx rfl (hb hby d4_114) rfl (l' := #[.val (.ref p0), .val (.int p1), .val (.int (fnTok wm)), .val (.int (wx ||| ((1 : Int32) <<< (p1 &&& 31)))), .val (.ref aL), .val (.int (8 : Int32)), .val (.int (7 : Int32)), .val (.int (84 : Int32))]) rfl k) ?_
                  refine own_step (T' := T10) (g' := (mkF m 117 #[.val (.ref p0), .val (.int p1), .val (.int (fnTok wm)), .val (.int (wx ||| ((1 : Int32) <<< (p1 &&& 31)))), .val (.ref aL), .val (.int (8 : Int32)), .val (.int (7 : Int32)), .val (.int (84 : Int32))] [(.int (wx ||| ((1 : Int32) <<< (p1 &&& 31))))])) (fun t k => XS.iloadN X10.here hx rfl (hb hby d4_116) rfl k) ?_
                  refine own_step (T' := T10) (g' := (mkF m 119 #[.val (.ref p0), .val (.int p1), .val (.int (fnTok wm)), .val (.int (wx ||| ((1 : Int32) <<< (p1 &&& 31)))), .val (.ref aL), .val (.int (8 : Int32)), .val (.int (7 : Int32)), .val (.int (84 : Int32))] [(.int (84 : Int32)), (.int (wx ||| ((1 : Int32) <<< (p1 &&& 31))))])) (fun t k => XS.iload X10.here hx rfl (hb hby d4_117) rfl k) ?_
                  refine own_step (T' := T10) (g' := (mkF m 120 #[.val (.ref p0), .val (.int p1), .val (.int (fnTok wm)), .val (.int (wx ||| ((1 : Int32) <<< (p1 &&& 31)))), .val (.ref aL), .val (.int (8 : Int32)), .val (.int (7 : Int32)), .val (.int (84 : Int32))] [(.int ((wx ||| ((1 : Int32) <<< (p1 &&& 31))) &&& (84 : Int32)))])) (fun t k => XS.iand X10.here hx rfl (hb hby d4_119) rfl k) ?_
                  refine own_step (T' := T10) (g' := (mkF m 122 #[.val (.ref p0), .val (.int p1), .val (.int (fnTok wm)), .val (.int (wx ||| ((1 : Int32) <<< (p1 &&& 31)))), .val (.ref aL), .val (.int (8 : Int32)), .val (.int (7 : Int32)), .val (.int (84 : Int32))] [(.int (84 : Int32)), (.int ((wx ||| ((1 : Int32) <<< (p1 &&& 31))) &&& (84 : Int32)))])) (fun t k => XS.iload X10.here hx rfl (hb hby d4_120) rfl k) ?_
                  by_cases hc122_41 : ((wx ||| ((1 : Int32) <<< (p1 &&& 31))) &&& (84 : Int32)) = (84 : Int32)
                  · refine own_step (T' := T10) (g' := (mkF m 125 #[.val (.ref p0), .val (.int p1), .val (.int (fnTok wm)), .val (.int (wx ||| ((1 : Int32) <<< (p1 &&& 31)))), .val (.ref aL), .val (.int (8 : Int32)), .val (.int (7 : Int32)), .val (.int (84 : Int32))] [])) (fun t k => XS.icmpNo X10.here hx rfl (hb hby d4_122) rfl (teq hc122_41).2 k) ?_
                    refine own_step (T' := T10) (g' := (mkF m 126 #[.val (.ref p0), .val (.int p1), .val (.int (fnTok wm)), .val (.int (wx ||| ((1 : Int32) <<< (p1 &&& 31)))), .val (.ref aL), .val (.int (8 : Int32)), .val (.int (7 : Int32)), .val (.int (84 : Int32))] [(.ref p0)])) (fun t k => XS.aloadN X10.here hx rfl (hb hby d4_125) rfl rfl k) ?_
                    refine own_step (T' := T10) (g' := (mkF m 127 #[.val (.ref p0), .val (.int p1), .val (.int (fnTok wm)), .val (.int (wx ||| ((1 : Int32) <<< (p1 &&& 31)))), .val (.ref aL), .val (.int (8 : Int32)), .val (.int (7 : Int32)), .val (.int (84 : Int32))] [(.int (fnTok wm)), (.ref p0)])) (fun t k => XS.iloadN X10.here hx rfl (hb hby d4_126) rfl k) ?_
                    obtain ⟨T42, h42, X42, e42, W42, st42⟩ := putFN X10 hx hZ hown (hw _ (List.mem_of_getElem? (i := 11) rfl)) Via.refl e10 F_winner_p0_9 E_p0_9 (Or.inl (hw _ (List.mem_of_getElem? (i := 12) rfl))) (hw _ (List.mem_of_getElem? (i := 1) rfl)) (ty := .char) (v' := (.int (nar .char (fnTok wm)))) (by decide) rfl (fits_nar_char (fnTok wm)) (g := (mkF m 127 #[.val (.ref p0), .val (.int p1), .val (.int (fnTok wm)), .val (.int (wx ||| ((1 : Int32) <<< (p1 &&& 31)))), .val (.ref aL), .val (.int (8 : Int32)), .val (.int (7 : Int32)), .val (.int (84 : Int32))] [(.int (fnTok wm)), (.ref p0)])) rfl rfl (hb hby d4_127)
                    have E_p0_42 : Exa Z h42 p0 "com/example/tilescript/tilescript/TicTacToe" := E_p0_9.wr W42
                    have F_oCells_p0_42 : Fld Z h42 p0 "com/example/tilescript/tilescript/TicTacToe" "oCells" "I" (.int wo) := F_oCells_p0_9.other W42 (Or.inr (slot_ne (Or.inl (hw _ (List.mem_of_getElem? (i := 39) rfl))) (Or.inl (hw _ (List.mem_of_getElem? (i := 12) rfl))) (by decide) (t := .int) (t' := .char) (by decide) (by decide)))
                    have S_LINES_42 : Sta Z h42 "com/example/tilescript/tilescript/TicTacToe" "LINES" "[I" (.ref aL) := S_LINES_9.wr W42
                    have V_aL_42 : Arv Z h42 aL kL .int (8 : Int32) [(.int (7 : Int32)), (.int (56 : Int32)), (.int (448 : Int32)), (.int (73 : Int32)), (.int (146 : Int32)), (.int (292 : Int32)), (.int (273 : Int32)), (.int (84 : Int32))] (.int (0 : Int32)) := V_aL_9.other W42 neL
                    have F_xCells_p0_42 : Fld Z h42 p0 "com/example/tilescript/tilescript/TicTacToe" "xCells" "I" (.int (wx ||| ((1 : Int32) <<< (p1 &&& 31)))) := F_xCells_p0_9.other W42 (Or.inr (slot_ne (Or.inl (hw _ (List.mem_of_getElem? (i := 37) rfl))) (Or.inl (hw _ (List.mem_of_getElem? (i := 12) rfl))) (by decide) (t := .int) (t' := .char) (by decide) (by decide)))
                    have F_marks_p0_42 : Fld Z h42 p0 "com/example/tilescript/tilescript/TicTacToe" "marks" "I" (.int (wm + (1 : Int32))) := F_marks_p0_9.other W42 (Or.inr (slot_ne (Or.inl (hw _ (List.mem_of_getElem? (i := 35) rfl))) (Or.inl (hw _ (List.mem_of_getElem? (i := 12) rfl))) (by decide) (t := .int) (t' := .char) (by decide) (by decide)))
                    have F_lastMove_p0_42 : Fld Z h42 p0 "com/example/tilescript/tilescript/TicTacToe" "lastMove" "I" (.int p1) := F_lastMove_p0_9.other W42 (Or.inr (slot_ne (Or.inl (hw _ (List.mem_of_getElem? (i := 10) rfl))) (Or.inl (hw _ (List.mem_of_getElem? (i := 12) rfl))) (by decide) (t := .int) (t' := .char) (by decide) (by decide)))
                    have K_42 : Keep h0 h42 [p0] := K_9.wr W42 (Or.inl (List.mem_of_getElem? (i := 0) rfl))
                    have N42 := Fr.snoc X42 N9 g_p0
                    have F_winner_p0_42 : Fld Z h42 p0 "com/example/tilescript/tilescript/TicTacToe" "winner" "C" (.int (nar .char (fnTok wm))) := F_winner_p0_9.same W42
                    refine own_step (T' := T42) (g' := (mkF m 130 #[.val (.ref p0), .val (.int p1), .val (.int (fnTok wm)), .val (.int (wx ||| ((1 : Int32) <<< (p1 &&& 31)))), .val (.ref aL), .val (.int (8 : Int32)), .val (.int (7 : Int32)), .val (.int (84 : Int32))] [])) st42 ?_
                    refine own_retV X42 hx hlk Bd.returns (hb hby d4_130) (by decide) (by decide) ?_
                    rw [e42]
                    exact ⟨(wx ||| ((1 : Int32) <<< (p1 &&& 31))), wo, (nar .char (fnTok wm)), rfl, N42, K_42, F_xCells_p0_42, F_oCells_p0_42, F_marks_p0_42, F_winner_p0_42, F_lastMove_p0_42, Or.inl ⟨hc34_3, rfl, rfl, (by unfold own_wn; rw [if_neg hc122_13, if_neg hc122_17, if_neg hc122_21, if_neg hc122_25, if_neg hc122_29, if_neg hc122_33, if_neg hc122_37, if_pos hc122_41])⟩⟩
                  · refine own_step (T' := T10) (g' := (mkF m 131 #[.val (.ref p0), .val (.int p1), .val (.int (fnTok wm)), .val (.int (wx ||| ((1 : Int32) <<< (p1 &&& 31)))), .val (.ref aL), .val (.int (8 : Int32)), .val (.int (7 : Int32)), .val (.int (84 : Int32))] [])) (fun t k => XS.icmpYes X10.here hx rfl (pc0 := 122) (pc' := 131) rfl (hb hby d4_122) rfl (feq hc122_41).2 (by decide) (by decide) k) ?_
                    refine own_step (T' := T10) (g' := (mkF m 134 #[.val (.ref p0), .val (.int p1), .val (.int (fnTok wm)), .val (.int (wx ||| ((1 : Int32) <<< (p1 &&& 31)))), .val (.ref aL), .val (.int (8 : Int32)), .val (.int (8 : Int32)), .val (.int (84 : Int32))] [])) (fun t k => XS.iinc X10.here hx rfl (hb hby d4_131) rfl (l' := #[.val (.ref p0), .val (.int p1), .val (.int (fnTok wm)), .val (.int (wx ||| ((1 : Int32) <<< (p1 &&& 31)))), .val (.ref aL), .val (.int (8 : Int32)), .val (.int (8 : Int32)), .val (.int (84 : Int32))]) rfl k) ?_
                    refine own_step (T' := T10) (g' := (mkF m 102 #[.val (.ref p0), .val (.int p1), .val (.int (fnTok wm)), .val (.int (wx ||| ((1 : Int32) <<< (p1 &&& 31)))), .val (.ref aL), .val (.int (8 : Int32)), .val (.int (8 : Int32)), .val (.int (84 : Int32))] [])) (fun t k => XS.goto X10.here hx rfl (pc0 := 134) (pc' := 102) rfl (hb hby d4_134) (by decide) (by decide) k) ?_
                    refine own_step (T' := T10) (g' := (mkF m 104 #[.val (.ref p0), .val (.int p1), .val (.int (fnTok wm)), .val (.int (wx ||| ((1 : Int32) <<< (p1 &&& 31)))), .val (.ref aL), .val (.int (8 : Int32)), .val (.int (8 : Int32)), .val (.int (84 : Int32))] [(.int (8 : Int32))])) (fun t k => XS.iload X10.here hx rfl (hb hby d4_102) rfl k) ?_
                    refine own_step (T' := T10) (g' := (mkF m 106 #[.val (.ref p0), .val (.int p1), .val (.int (fnTok wm)), .val (.int (wx ||| ((1 : Int32) <<< (p1 &&& 31)))), .val (.ref aL), .val (.int (8 : Int32)), .val (.int (8 : Int32)), .val (.int (84 : Int32))] [(.int (8 : Int32)), (.int (8 : Int32))])) (fun t k => XS.iload X10.here hx rfl (hb hby d4_104) rfl k) ?_
                    refine own_step (T' := T10) (g' := (mkF m 137 #[.val (.ref p0), .val (.int p1), .val (.int (fnTok wm)), .val (.int (wx ||| ((1 : Int32) <<< (p1 &&& 31)))), .val (.ref aL), .val (.int (8 : Int32)), .val (.int (8 : Int32)), .val (.int (84 : Int32))] [])) (fun t k => XS.icmpYes X10.here hx rfl (pc0 := 106) (pc' := 137) rfl (hb hby d4_106) rfl (flt (by decide : ¬ ((8 : Int32) < (8 : Int32)))).2.1 (by decide) (by decide) k) ?_
                    refine own_retV X10 hx hlk Bd.returns (hb hby d4_137) (by decide) (by decide) ?_
                    rw [e10]
                    exact ⟨(wx ||| ((1 : Int32) <<< (p1 &&& 31))), wo, ww, rfl, N9, K_9, F_xCells_p0_9, F_oCells_p0_9, F_marks_p0_9, F_winner_p0_9, F_lastMove_p0_9, Or.inl ⟨hc34_3, rfl, rfl, (by unfold own_wn; rw [if_neg hc122_13, if_neg hc122_17, if_neg hc122_21, if_neg hc122_25, if_neg hc122_29, if_neg hc122_33, if_neg hc122_37, if_neg hc122_41])⟩⟩
  · refine own_step (T' := T2) (g' := (mkF m 57 #[.val (.ref p0), .val (.int p1), .val (.int (fnTok wm)), .unset, .unset, .unset, .unset, .unset] [])) (fun t k => XS.icmpYes X2.here hx rfl (pc0 := 34) (pc' := 57) rfl (hb hby d4_34) rfl (feq hc34_3).2 (by decide) (by decide) k) ?_
    refine own_step (T' := T2) (g' := (mkF m 58 #[.val (.ref p0), .val (.int p1), .val (.int (fnTok wm)), .unset, .unset, .unset, .unset, .unset] [(.ref p0)])) (fun t k => XS.aloadN X2.here hx rfl (hb hby d4_57) rfl rfl k) ?_
    refine own_step (T' := T2) (g' := (mkF m 59 #[.val (.ref p0), .val (.int p1), .val (.int (fnTok wm)), .unset, .unset, .unset, .unset, .unset] [(.ref p0), (.ref p0)])) (fun t k => XS.dup X2.here hx rfl (hb hby d4_58) rfl rfl k) ?_
    obtain ⟨T45, X45, e45, st45⟩ := getF X2 hx hZ hown (host := "") (Or.inl (hw _ (List.mem_of_getElem? (i := 38) rfl))) Via.refl eq2 F_oCells_p0 (g := (mkF m 59 #[.val (.ref p0), .val (.int p1), .val (.int (fnTok wm)), .unset, .unset, .unset, .unset, .unset] [(.ref p0), (.ref p0)])) rfl rfl (hb hby d4_59)
    refine own_step (T' := T45) (g' := (mkF m 62 #[.val (.ref p0), .val (.int p1), .val (.int (fnTok wm)), .unset, .unset, .unset, .unset, .unset] [(.int wo), (.ref p0)])) st45 ?_
    refine own_step (T' := T45) (g' := (mkF m 63 #[.val (.ref p0), .val (.int p1), .val (.int (fnTok wm)), .unset, .unset, .unset, .unset, .unset] [(.int (1 : Int32)), (.int wo), (.ref p0)])) (fun t k => XS.iconst X45.here hx rfl (hb hby d4_62) k) ?_
    refine own_step (T' := T45) (g' := (mkF m 64 #[.val (.ref p0), .val (.int p1), .val (.int (fnTok wm)), .unset, .unset, .unset, .unset, .unset] [(.int p1), (.int (1 : Int32)), (.int wo), (.ref p0)])) (fun t k => XS.iloadN X45.here hx rfl (hb hby d4_63) rfl k) ?_
    refine own_step (T' := T45) (g' := (mkF m 65 #[.val (.ref p0), .val (.int p1), .val (.int (fnTok wm)), .unset, .unset, .unset, .unset, .unset] [(.int ((1 : Int32) <<< (p1 &&& 31))), (.int wo), (.ref p0)])) (fun t k => XS.ishl X45.here hx rfl (hb hby d4_64) rfl k) ?_
    refine own_step (T' := T45) (g' := (mkF m 66 #[.val (.ref p0), .val (.int p1), .val (.int (fnTok wm)), .unset, .unset, .unset, .unset, .unset] [(.int (wo ||| ((1 : Int32) <<< (p1 &&& 31)))), (.ref p0)])) (fun t k => XS.ior X45.here hx rfl (hb hby d4_65) rfl k) ?_
    obtain ⟨T46, h46, X46, e46, W46, st46⟩ := putF X45 hx hZ hown (host := "") (Or.inl (hw _ (List.mem_of_getElem? (i := 38) rfl))) Via.refl e45 F_oCells_p0 E_p0 (Or.inl (hw _ (List.mem_of_getElem? (i := 39) rfl))) (hw _ (List.mem_of_getElem? (i := 1) rfl)) (ty := .int) (by decide) rfl rfl (g := (mkF m 66 #[.val (.ref p0), .val (.int p1), .val (.int (fnTok wm)), .unset, .unset, .unset, .unset, .unset] [(.int (wo ||| ((1 : Int32) <<< (p1 &&& 31)))), (.ref p0)])) rfl rfl (hb hby d4_66)
    have E_p0_46 : Exa Z h46 p0 "com/example/tilescript/tilescript/TicTacToe" := E_p0.wr W46
    have F_xCells_p0_46 : Fld Z h46 p0 "com/example/tilescript/tilescript/TicTacToe" "xCells" "I" (.int wx) := F_xCells_p0.other W46 (Or.inr (slot_ne (Or.inl (hw _ (List.mem_of_getElem? (i := 37) rfl))) (Or.inl (hw _ (List.mem_of_getElem? (i := 39) rfl))) (by decide) (t := .int) (t' := .int) (by decide) (by decide)))
    have F_marks_p0_46 : Fld Z h46 p0 "com/example/tilescript/tilescript/TicTacToe" "marks" "I" (.int wm) := F_marks_p0.other W46 (Or.inr (slot_ne (Or.inl (hw _ (List.mem_of_getElem? (i := 35) rfl))) (Or.inl (hw _ (List.mem_of_getElem? (i := 39) rfl))) (by decide) (t := .int) (t' := .int) (by decide) (by decide)))
    have F_winner_p0_46 : Fld Z h46 p0 "com/example/tilescript/tilescript/TicTacToe" "winner" "C" (.int ww) := F_winner_p0.other W46 (Or.inr (slot_ne (Or.inl (hw _ (List.mem_of_getElem? (i := 12) rfl))) (Or.inl (hw _ (List.mem_of_getElem? (i := 39) rfl))) (by decide) (t := .char) (t' := .int) (by decide) (by decide)))
    have F_lastMove_p0_46 : Fld Z h46 p0 "com/example/tilescript/tilescript/TicTacToe" "lastMove" "I" (.int wl) := F_lastMove_p0.other W46 (Or.inr (slot_ne (Or.inl (hw _ (List.mem_of_getElem? (i := 10) rfl))) (Or.inl (hw _ (List.mem_of_getElem? (i := 39) rfl))) (by decide) (t := .int) (t' := .int) (by decide) (by decide)))
    have S_LINES_46 : Sta Z h46 "com/example/tilescript/tilescript/TicTacToe" "LINES" "[I" (.ref aL) := S_LINES.wr W46
    have V_aL_46 : Arv Z h46 aL kL .int (8 : Int32) [(.int (7 : Int32)), (.int (56 : Int32)), (.int (448 : Int32)), (.int (73 : Int32)), (.int (146 : Int32)), (.int (292 : Int32)), (.int (273 : Int32)), (.int (84 : Int32))] (.int (0 : Int32)) := V_aL.other W46 neL
    have K_46 : Keep h0 h46 [p0] := K0.wr W46 (Or.inl (List.mem_of_getElem? (i := 0) rfl))
    have N46 := Fr.snoc X46 N2 g_p0
    have F_oCells_p0_46 : Fld Z h46 p0 "com/example/tilescript/tilescript/TicTacToe" "oCells" "I" (.int (wo ||| ((1 : Int32) <<< (p1 &&& 31)))) := F_oCells_p0.same W46
    refine own_step (T' := T46) (g' := (mkF m 69 #[.val (.ref p0), .val (.int p1), .val (.int (fnTok wm)), .unset, .unset, .unset, .unset, .unset] [])) st46 ?_
    refine own_step (T' := T46) (g' := (mkF m 70 #[.val (.ref p0), .val (.int p1), .val (.int (fnTok wm)), .unset, .unset, .unset, .unset, .unset] [(.ref p0)])) (fun t k => XS.aloadN X46.here hx rfl (hb hby d4_69) rfl rfl k) ?_
    obtain ⟨T47, X47, e47, st47⟩ := getF X46 hx hZ hown (host := "") (Or.inl (hw _ (List.mem_of_getElem? (i := 38) rfl))) Via.refl e46 F_oCells_p0_46 (g := (mkF m 70 #[.val (.ref p0), .val (.int p1), .val (.int (fnTok wm)), .unset, .unset, .unset, .unset, .unset] [(.ref p0)])) rfl rfl (hb hby d4_70)
    refine own_step (T' := T47) (g' := (mkF m 73 #[.val (.ref p0), .val (.int p1), .val (.int (fnTok wm)), .unset, .unset, .unset, .unset, .unset] [(.int (wo ||| ((1 : Int32) <<< (p1 &&& 31))))])) st47 ?_
    refine own_step (T' := T47) (g' := (mkF m 74 #[.val (.ref p0), .val (.int p1), .val (.int (fnTok wm)), .val (.int (wo ||| ((1 : Int32) <<< (p1 &&& 31)))), .unset, .unset, .unset, .unset] [])) (fun t k => XS.istoreN X47.here hx rfl (hb hby d4_73) rfl (l' := #[.val (.ref p0), .val (.int p1), .val (.int (fnTok wm)), .val (.int (wo ||| ((1 : Int32) <<< (p1 &&& 31)))), .unset, .unset, .unset, .unset]) rfl k) ?_
    refine own_step (T' := T47) (g' := (mkF m 75 #[.val (.ref p0), .val (.int p1), .val (.int (fnTok wm)), .val (.int (wo ||| ((1 : Int32) <<< (p1 &&& 31)))), .unset, .unset, .unset, .unset] [(.ref p0)])) (fun t k => XS.aloadN X47.here hx rfl (hb hby d4_74) rfl rfl k) ?_
    refine own_step (T' := T47) (g' := (mkF m 76 #[.val (.ref p0), .val (.int p1), .val (.int (fnTok wm)), .val (.int (wo ||| ((1 : Int32) <<< (p1 &&& 31)))), .unset, .unset, .unset, .unset] [(.ref p0), (.ref p0)])) (fun t k => XS.dup X47.here hx rfl (hb hby d4_75) rfl rfl k) ?_
    obtain ⟨T48, X48, e48, st48⟩ := getF X47 hx hZ hown (host := "") (Or.inl (hw _ (List.mem_of_getElem? (i := 34) rfl))) Via.refl e47 F_marks_p0_46 (g := (mkF m 76 #[.val (.ref p0), .val (.int p1), .val (.int (fnTok wm)), .val (.int (wo ||| ((1 : Int32) <<< (p1 &&& 31)))), .unset, .unset, .unset, .unset] [(.ref p0), (.ref p0)])) rfl rfl (hb hby d4_76)
    refine own_step (T' := T48) (g' := (mkF m 79 #[.val (.ref p0), .val (.int p1), .val (.int (fnTok wm)), .val (.int (wo ||| ((1 : Int32) <<< (p1 &&& 31)))), .unset, .unset, .unset, .unset] [(.int wm), (.ref p0)])) st48 ?_
    refine own_step (T' := T48) (g' := (mkF m 80 #[.val (.ref p0), .val (.int p1), .val (.int (fnTok wm)), .val (.int (wo ||| ((1 : Int32) <<< (p1 &&& 31)))), .unset, .unset, .unset, .unset] [(.int (1 : Int32)), (.int wm), (.ref p0)])) (fun t k => XS.iconst X48.here hx rfl (hb hby d4_79) k) ?_
    refine own_step (T' := T48) (g' := (mkF m 81 #[.val (.ref p0), .val (.int p1), .val (.int (fnTok wm)), .val (.int (wo ||| ((1 : Int32) <<< (p1 &&& 31)))), .unset, .unset, .unset, .unset] [(.int (wm + (1 : Int32))), (.ref p0)])) (fun t k => XS.iadd X48.here hx rfl (hb hby d4_80) rfl k) ?_
    obtain ⟨T49, h49, X49, e49, W49, st49⟩ := putF X48 hx hZ hown (host := "") (Or.inl (hw _ (List.mem_of_getElem? (i := 34) rfl))) Via.refl e48 F_marks_p0_46 E_p0_46 (Or.inl (hw _ (List.mem_of_getElem? (i := 35) rfl))) (hw _ (List.mem_of_getElem? (i := 1) rfl)) (ty := .int) (by decide) rfl rfl (g := (mkF m 81 #[.val (.ref p0), .val (.int p1), .val (.int (fnTok wm)), .val (.int (wo ||| ((1 : Int32) <<< (p1 &&& 31)))), .unset, .unset, .unset, .unset] [(.int (wm + (1 : Int32))), (.ref p0)])) rfl rfl (hb hby d4_81)
    have E_p0_49 : Exa Z h49 p0 "com/example/tilescript/tilescript/TicTacToe" := E_p0_46.wr W49
    have F_xCells_p0_49 : Fld Z h49 p0 "com/example/tilescript/tilescript/TicTacToe" "xCells" "I" (.int wx) := F_xCells_p0_46.other W49 (Or.inr (slot_ne (Or.inl (hw _ (List.mem_of_getElem? (i := 37) rfl))) (Or.inl (hw _ (List.mem_of_getElem? (i := 35) rfl))) (by decide) (t := .int) (t' := .int) (by decide) (by decide)))
    have F_winner_p0_49 : Fld Z h49 p0 "com/example/tilescript/tilescript/TicTacToe" "winner" "C" (.int ww) := F_winner_p0_46.other W49 (Or.inr (slot_ne (Or.inl (hw _ (List.mem_of_getElem? (i := 12) rfl))) (Or.inl (hw _ (List.mem_of_getElem? (i := 35) rfl))) (by decide) (t := .char) (t' := .int) (by decide) (by decide)))
    have F_lastMove_p0_49 : Fld Z h49 p0 "com/example/tilescript/tilescript/TicTacToe" "lastMove" "I" (.int wl) := F_lastMove_p0_46.other W49 (Or.inr (slot_ne (Or.inl (hw _ (List.mem_of_getElem? (i := 10) rfl))) (Or.inl (hw _ (List.mem_of_getElem? (i := 35) rfl))) (by decide) (t := .int) (t' := .int) (by decide) (by decide)))
    have S_LINES_49 : Sta Z h49 "com/example/tilescript/tilescript/TicTacToe" "LINES" "[I" (.ref aL) := S_LINES_46.wr W49
    have V_aL_49 : Arv Z h49 aL kL .int (8 : Int32) [(.int (7 : Int32)), (.int (56 : Int32)), (.int (448 : Int32)), (.int (73 : Int32)), (.int (146 : Int32)), (.int (292 : Int32)), (.int (273 : Int32)), (.int (84 : Int32))] (.int (0 : Int32)) := V_aL_46.other W49 neL
    have F_oCells_p0_49 : Fld Z h49 p0 "com/example/tilescript/tilescript/TicTacToe" "oCells" "I" (.int (wo ||| ((1 : Int32) <<< (p1 &&& 31)))) := F_oCells_p0_46.other W49 (Or.inr (slot_ne (Or.inl (hw _ (List.mem_of_getElem? (i := 39) rfl))) (Or.inl (hw _ (List.mem_of_getElem? (i := 35) rfl))) (by decide) (t := .int) (t' := .int) (by decide) (by decide)))
    have K_49 : Keep h0 h49 [p0] := K_46.wr W49 (Or.inl (List.mem_of_getElem? (i := 0) rfl))
    have N49 := Fr.snoc X49 N46 g_p0
    have F_marks_p0_49 : Fld Z h49 p0 "com/example/tilescript/tilescript/TicTacToe" "marks" "I" (.int (wm + (1 : Int32))) := F_marks_p0_46.same W49
    refine own_step (T' := T49) (g' := (mkF m 84 #[.val (.ref p0), .val (.int p1), .val (.int (fnTok wm)), .val (.int (wo ||| ((1 : Int32) <<< (p1 &&& 31)))), .unset, .unset, .unset, .unset] [])) st49 ?_
    refine own_step (T' := T49) (g' := (mkF m 85 #[.val (.ref p0), .val (.int p1), .val (.int (fnTok wm)), .val (.int (wo ||| ((1 : Int32) <<< (p1 &&& 31)))), .unset, .unset, .unset, .unset] [(.ref p0)])) (fun t k => XS.aloadN X49.here hx rfl (hb hby d4_84) rfl rfl k) ?_
    refine own_step (T' := T49) (g' := (mkF m 86 #[.val (.ref p0), .val (.int p1), .val (.int (fnTok wm)), .val (.int (wo ||| ((1 : Int32) <<< (p1 &&& 31)))), .unset, .unset, .unset, .unset] [(.int p1), (.ref p0)])) (fun t k => XS.iloadN X49.here hx rfl (hb hby d4_85) rfl k) ?_
    obtain ⟨T50, h50, X50, e50, W50, st50⟩ := putF X49 hx hZ hown (host := "") (Or.inl (hw _ (List.mem_of_getElem? (i := 9) rfl))) Via.refl e49 F_lastMove_p0_49 E_p0_49 (Or.inl (hw _ (List.mem_of_getElem? (i := 10) rfl))) (hw _ (List.mem_of_getElem? (i := 1) rfl)) (ty := .int) (by decide) rfl rfl (g := (mkF m 86 #[.val (.ref p0), .val (.int p1), .val (.int (fnTok wm)), .val (.int (wo ||| ((1 : Int32) <<< (p1 &&& 31)))), .unset, .unset, .unset, .unset] [(.int p1), (.ref p0)])) rfl rfl (hb hby d4_86)
    have E_p0_50 : Exa Z h50 p0 "com/example/tilescript/tilescript/TicTacToe" := E_p0_49.wr W50
    have F_xCells_p0_50 : Fld Z h50 p0 "com/example/tilescript/tilescript/TicTacToe" "xCells" "I" (.int wx) := F_xCells_p0_49.other W50 (Or.inr (slot_ne (Or.inl (hw _ (List.mem_of_getElem? (i := 37) rfl))) (Or.inl (hw _ (List.mem_of_getElem? (i := 10) rfl))) (by decide) (t := .int) (t' := .int) (by decide) (by decide)))
    have F_winner_p0_50 : Fld Z h50 p0 "com/example/tilescript/tilescript/TicTacToe" "winner" "C" (.int ww) := F_winner_p0_49.other W50 (Or.inr (slot_ne (Or.inl (hw _ (List.mem_of_getElem? (i := 12) rfl))) (Or.inl (hw _ (List.mem_of_getElem? (i := 10) rfl))) (by decide) (t := .char) (t' := .int) (by decide) (by decide)))
    have S_LINES_50 : Sta Z h50 "com/example/tilescript/tilescript/TicTacToe" "LINES" "[I" (.ref aL) := S_LINES_49.wr W50
    have V_aL_50 : Arv Z h50 aL kL .int (8 : Int32) [(.int (7 : Int32)), (.int (56 : Int32)), (.int (448 : Int32)), (.int (73 : Int32)), (.int (146 : Int32)), (.int (292 : Int32)), (.int (273 : Int32)), (.int (84 : Int32))] (.int (0 : Int32)) := V_aL_49.other W50 neL
    have F_oCells_p0_50 : Fld Z h50 p0 "com/example/tilescript/tilescript/TicTacToe" "oCells" "I" (.int (wo ||| ((1 : Int32) <<< (p1 &&& 31)))) := F_oCells_p0_49.other W50 (Or.inr (slot_ne (Or.inl (hw _ (List.mem_of_getElem? (i := 39) rfl))) (Or.inl (hw _ (List.mem_of_getElem? (i := 10) rfl))) (by decide) (t := .int) (t' := .int) (by decide) (by decide)))
    have F_marks_p0_50 : Fld Z h50 p0 "com/example/tilescript/tilescript/TicTacToe" "marks" "I" (.int (wm + (1 : Int32))) := F_marks_p0_49.other W50 (Or.inr (slot_ne (Or.inl (hw _ (List.mem_of_getElem? (i := 35) rfl))) (Or.inl (hw _ (List.mem_of_getElem? (i := 10) rfl))) (by decide) (t := .int) (t' := .int) (by decide) (by decide)))
    have K_50 : Keep h0 h50 [p0] := K_49.wr W50 (Or.inl (List.mem_of_getElem? (i := 0) rfl))
    have N50 := Fr.snoc X50 N49 g_p0
    have F_lastMove_p0_50 : Fld Z h50 p0 "com/example/tilescript/tilescript/TicTacToe" "lastMove" "I" (.int p1) := F_lastMove_p0_49.same W50
    refine own_step (T' := T50) (g' := (mkF m 89 #[.val (.ref p0), .val (.int p1), .val (.int (fnTok wm)), .val (.int (wo ||| ((1 : Int32) <<< (p1 &&& 31)))), .unset, .unset, .unset, .unset] [])) st50 ?_
    obtain ⟨T51, X51, e51, st51⟩ := getS2 X50 hx hZ hown (host := "") (Or.inl (hw _ (List.mem_of_getElem? (i := 45) rfl))) Via.refl e50 S_LINES_50 (g := (mkF m 89 #[.val (.ref p0), .val (.int p1), .val (.int (fnTok wm)), .val (.int (wo ||| ((1 : Int32) <<< (p1 &&& 31)))), .unset, .unset, .unset, .unset] [])) rfl (hb hby d4_89)
    refine own_step (T' := T51) (g' := (mkF m 92 #[.val (.ref p0), .val (.int p1), .val (.int (fnTok wm)), .val (.int (wo ||| ((1 : Int32) <<< (p1 &&& 31)))), .unset, .unset, .unset, .unset] [(.ref aL)])) st51 ?_
    refine own_step (T' := T51) (g' := (mkF m 94 #[.val (.ref p0), .val (.int p1), .val (.int (fnTok wm)), .val (.int (wo ||| ((1 : Int32) <<< (p1 &&& 31)))), .val (.ref aL), .unset, .unset, .unset] [])) (fun t k => XS.astore X51.here hx rfl (hb hby d4_92) rfl rfl (l' := #[.val (.ref p0), .val (.int p1), .val (.int (fnTok wm)), .val (.int (wo ||| ((1 : Int32) <<< (p1 &&& 31)))), .val (.ref aL), .unset, .unset, .unset]) rfl k) ?_
    refine own_step (T' := T51) (g' := (mkF m 96 #[.val (.ref p0), .val (.int p1), .val (.int (fnTok wm)), .val (.int (wo ||| ((1 : Int32) <<< (p1 &&& 31)))), .val (.ref aL), .unset, .unset, .unset] [(.ref aL)])) (fun t k => XS.aload X51.here hx rfl (hb hby d4_94) rfl rfl k) ?_
    obtain ⟨cl52, Ar52, q52, Sz52, Nn52, Hh52, Gg52⟩ := id V_aL_50
    refine own_step (T' := T51) (g' := (mkF m 97 #[.val (.ref p0), .val (.int p1), .val (.int (fnTok wm)), .val (.int (wo ||| ((1 : Int32) <<< (p1 &&& 31)))), .val (.ref aL), .unset, .unset, .unset] [(.int (8 : Int32))])) (fun t k => X51.arraylength hx (by rw [e51]; exact Ar52.1) (State.isArrayOf_alike hZ.alike Ar52.2.1) (g := (mkF m 96 #[.val (.ref p0), .val (.int p1), .val (.int (fnTok wm)), .val (.int (wo ||| ((1 : Int32) <<< (p1 &&& 31)))), .val (.ref aL), .unset, .unset, .unset] [(.ref aL)])) rfl rfl (hb hby d4_96) t (by rw [len_of Sz52 Nn52]; exact k)) ?_
    refine own_step (T' := T51) (g' := (mkF m 99 #[.val (.ref p0), .val (.int p1), .val (.int (fnTok wm)), .val (.int (wo ||| ((1 : Int32) <<< (p1 &&& 31)))), .val (.ref aL), .val (.int (8 : Int32)), .unset, .unset] [])) (fun t k => XS.istore X51.here hx rfl (hb hby d4_97) rfl (l' := #[.val (.ref p0), .val (.int p1), .val (.int (fnTok wm)), .val (.int (wo ||| ((1 : Int32) <<< (p1 &&& 31)))), .val (.ref aL), .val (.int (8 : Int32)), .unset, .unset]) rfl k) ?_
    refine own_step (T' := T51) (g' := (mkF m 100 #[.val (.ref p0), .val (.int p1), .val (.int (fnTok wm)), .val (.int (wo ||| ((1 : Int32) <<< (p1 &&& 31)))), .val (.ref aL), .val (.int (8 : Int32)), .unset, .unset] [(.int (0 : Int32))])) (fun t k => XS.iconst X51.here hx rfl (hb hby d4_99) k) ?_
    refine own_step (T' := T51) (g' := (mkF m 102 #[.val (.ref p0), .val (.int p1), .val (.int (fnTok wm)), .val (.int (wo ||| ((1 : Int32) <<< (p1 &&& 31)))), .val (.ref aL), .val (.int (8 : Int32)), .val (.int (0 : Int32)), .unset] [])) (fun t k => XS.istore X51.here hx rfl (hb hby d4_100) rfl (l' := #[.val (.ref p0), .val (.int p1), .val (.int (fnTok wm)), .val (.int (wo ||| ((1 : Int32) <<< (p1 &&& 31)))), .val (.ref aL), .val (.int (8 : Int32)), .val (.int (0 : Int32)), .unset]) rfl k) ?_
    refine own_step (T' := T51) (g' := (mkF m 104 #[.val (.ref p0), .val (.int p1), .val (.int (fnTok wm)), .val (.int (wo ||| ((1 : Int32) <<< (p1 &&& 31)))), .val (.ref aL), .val (.int (8 : Int32)), .val (.int (0 : Int32)), .unset] [(.int (0 : Int32))])) (fun t k => XS.iload X51.here hx rfl (hb hby d4_102) rfl k) ?_
    refine own_step (T' := T51) (g' := (mkF m 106 #[.val (.ref p0), .val (.int p1), .val (.int (fnTok wm)), .val (.int (wo ||| ((1 : Int32) <<< (p1 &&& 31)))), .val (.ref aL), .val (.int (8 : Int32)), .val (.int (0 : Int32)), .unset] [(.int (8 : Int32)), (.int (0 : Int32))])) (fun t k => XS.iload X51.here hx rfl (hb hby d4_104) rfl k) ?_
    refine own_step (T' := T51) (g' := (mkF m 109 #[.val (.ref p0), .val (.int p1), .val (.int (fnTok wm)), .val (.int (wo ||| ((1 : Int32) <<< (p1 &&& 31)))), .val (.ref aL), .val (.int (8 : Int32)), .val (.int (0 : Int32)), .unset] [])) (fun t k => XS.icmpNo X51.here hx rfl (hb hby d4_106) rfl (tlt (by decide : (0 : Int32) < (8 : Int32))).2.1 k) ?_
    refine own_step (T' := T51) (g' := (mkF m 111 #[.val (.ref p0), .val (.int p1), .val (.int (fnTok wm)), .val (.int (wo ||| ((1 : Int32) <<< (p1 &&& 31)))), .val (.ref aL), .val (.int (8 : Int32)), .val (.int (0 : Int32)), .unset] [(.ref aL)])) (fun t k => XS.aload X51.here hx rfl (hb hby d4_109) rfl rfl k) ?_
    refine own_step (T' := T51) (g' := (mkF m 113 #[.val (.ref p0), .val (.int p1), .val (.int (fnTok wm)), .val (.int (wo ||| ((1 : Int32) <<< (p1 &&& 31)))), .val (.ref aL), .val (.int (8 : Int32)), .val (.int (0 : Int32)), .unset] [(.int (0 : Int32)), (.ref aL)])) (fun t k => XS.iload X51.here hx rfl (hb hby d4_111) rfl k) ?_
    obtain ⟨cl53, Ar53, q53, Sz53, Nn53, Hh53, Gg53⟩ := id V_aL_50
    have hin53 : ¬ ((0 : Int32) < 0 ∨ cl53.slots.size ≤ ((0 : Int32)).toNatClampNeg) := inb_of Sz53 ⟨by decide, by decide⟩
    refine own_step (T' := T51) (g' := (mkF m 114 #[.val (.ref p0), .val (.int p1), .val (.int (fnTok wm)), .val (.int (wo ||| ((1 : Int32) <<< (p1 &&& 31)))), .val (.ref aL), .val (.int (8 : Int32)), .val (.int (0 : Int32)), .unset] [(.int (7 : Int32))])) (fun t k => X51.iaload hx (j := (0 : Int32)) (v := (.int (7 : Int32))) (by rw [e51]; exact Ar53.1) (State.isArrayOf_alike hZ.alike Ar53.2.1) Ar53.2.2 hin53 (Has.at Hh53 hin53 rfl) (g := (mkF m 113 #[.val (.ref p0), .val (.int p1), .val (.int (fnTok wm)), .val (.int (wo ||| ((1 : Int32) <<< (p1 &&& 31)))), .val (.ref aL), .val (.int (8 : Int32)), .val (.int (0 : Int32)), .unset] [(.int (0 : Int32)), (.ref aL)])) rfl rfl (hb hby d4_113) t k) ?_
    refine own_step (T' := T51) (g' := (mkF m 116 #[.val (.ref p0), .val (.int p1), .val (.int (fnTok wm)), .val (.int (wo ||| ((1 : Int32) <<< (p1 &&& 31)))), .val (.ref aL), .val (.int (8 : Int32)), .val (.int (0 : Int32)), .val (.int (7 : Int32))] [])) (fun t k => XS.istore X51.here hx rfl (hb hby d4_114) rfl (l' := #[.val (.ref p0), .val (.int p1), .val (.int (fnTok wm)), .val (.int (wo ||| ((1 : Int32) <<< (p1 &&& 31)))), .val (.ref aL), .val (.int (8 : Int32)), .val (.int (0 : Int32)), .val (.int (7 : Int32))]) rfl k) ?_
    refine own_step (T' := T51) (g' := (mkF m 117 #[.val (.ref p0), .val (.int p1), .val (.int (fnTok wm)), .val (.int (wo ||| ((1 : Int32) <<< (p1 &&& 31)))), .val (.ref aL), .val (.int (8 : Int32)), .val (.int (0 : Int32)), .val (.int (7 : Int32))] [(.int (wo ||| ((1 : Int32) <<< (p1 &&& 31))))])) (fun t k => XS.iloadN X51.here hx rfl (hb hby d4_116) rfl k) ?_
    refine own_step (T' := T51) (g' := (mkF m 119 #[.val (.ref p0), .val (.int p1), .val (.int (fnTok wm)), .val (.int (wo ||| ((1 : Int32) <<< (p1 &&& 31)))), .val (.ref aL), .val (.int (8 : Int32)), .val (.int (0 : Int32)), .val (.int (7 : Int32))] [(.int (7 : Int32)), (.int (wo ||| ((1 : Int32) <<< (p1 &&& 31))))])) (fun t k => XS.iload X51.here hx rfl (hb hby d4_117) rfl k) ?_
    refine own_step (T' := T51) (g' := (mkF m 120 #[.val (.ref p0), .val (.int p1), .val (.int (fnTok wm)), .val (.int (wo ||| ((1 : Int32) <<< (p1 &&& 31)))), .val (.ref aL), .val (.int (8 : Int32)), .val (.int (0 : Int32)), .val (.int (7 : Int32))] [(.int ((wo ||| ((1 : Int32) <<< (p1 &&& 31))) &&& (7 : Int32)))])) (fun t k => XS.iand X51.here hx rfl (hb hby d4_119) rfl k) ?_
    refine own_step (T' := T51) (g' := (mkF m 122 #[.val (.ref p0), .val (.int p1), .val (.int (fnTok wm)), .val (.int (wo ||| ((1 : Int32) <<< (p1 &&& 31)))), .val (.ref aL), .val (.int (8 : Int32)), .val (.int (0 : Int32)), .val (.int (7 : Int32))] [(.int (7 : Int32)), (.int ((wo ||| ((1 : Int32) <<< (p1 &&& 31))) &&& (7 : Int32)))])) (fun t k => XS.iload X51.here hx rfl (hb hby d4_120) rfl k) ?_
    by_cases hc122_54 : ((wo ||| ((1 : Int32) <<< (p1 &&& 31))) &&& (7 : Int32)) = (7 : Int32)
    · refine own_step (T' := T51) (g' := (mkF m 125 #[.val (.ref p0), .val (.int p1), .val (.int (fnTok wm)), .val (.int (wo ||| ((1 : Int32) <<< (p1 &&& 31)))), .val (.ref aL), .val (.int (8 : Int32)), .val (.int (0 : Int32)), .val (.int (7 : Int32))] [])) (fun t k => XS.icmpNo X51.here hx rfl (hb hby d4_122) rfl (teq hc122_54).2 k) ?_
      refine own_step (T' := T51) (g' := (mkF m 126 #[.val (.ref p0), .val (.int p1), .val (.int (fnTok wm)), .val (.int (wo ||| ((1 : Int32) <<< (p1 &&& 31)))), .val (.ref aL), .val (.int (8 : Int32)), .val (.int (0 : Int32)), .val (.int (7 : Int32))] [(.ref p0)])) (fun t k => XS.aloadN X51.here hx rfl (hb hby d4_125) rfl rfl k) ?_
      refine own_step (T' := T51) (g' := (mkF m 127 #[.val (.ref p0), .val (.int p1), .val (.int (fnTok wm)), .val (.int (wo ||| ((1 : Int32) <<< (p1 &&& 31)))), .val (.ref aL), .val (.int (8 : Int32)), .val (.int (0 : Int32)), .val (.int (7 : Int32))] [(.int (fnTok wm)), (.ref p0)])) (fun t k => XS.iloadN X51.here hx rfl (hb hby d4_126) rfl k) ?_
      obtain ⟨T55, h55, X55, e55, W55, st55⟩ := putFN X51 hx hZ hown (hw _ (List.mem_of_getElem? (i := 11) rfl)) Via.refl e51 F_winner_p0_50 E_p0_50 (Or.inl (hw _ (List.mem_of_getElem? (i := 12) rfl))) (hw _ (List.mem_of_getElem? (i := 1) rfl)) (ty := .char) (v' := (.int (nar .char (fnTok wm)))) (by decide) rfl (fits_nar_char (fnTok wm)) (g := (mkF m 127 #[.val (.ref p0), .val (.int p1), .val (.int (fnTok wm)), .val (.int (wo ||| ((1 : Int32) <<< (p1 &&& 31)))), .val (.ref aL), .val (.int (8 : Int32)), .val (.int (0 : Int32)), .val (.int (7 : Int32))] [(.int (fnTok wm)), (.ref p0)])) rfl rfl (hb hby d4_127)
      have E_p0_55 : Exa Z h55 p0 "com/example/tilescript/tilescript/TicTacToe" := E_p0_50.wr W55
      have F_xCells_p0_55 : Fld Z h55 p0 "com/example/tilescript/tilescript/TicTacToe" "xCells" "I" (.int wx) := F_xCells_p0_50.other W55 (Or.inr (slot_ne (Or.inl (hw _ (List.mem_of_getElem? (i := 37) rfl))) (Or.inl (hw _ (List.mem_of_getElem? (i := 12) rfl))) (by decide) (t := .int) (t' := .char) (by decide) (by decide)))
      have S_LINES_55 : Sta Z h55 "com/example/tilescript/tilescript/TicTacToe" "LINES" "[I" (.ref aL) := S_LINES_50.wr W55
      have V_aL_55 : Arv Z h55 aL kL .int (8 : Int32) [(.int (7 : Int32)), (.int (56 : Int32)), (.int (448 : Int32)), (.int (73 : Int32)), (.int (146 : Int32)), (.int (292 : Int32)), (.int (273 : Int32)), (.int (84 : Int32))] (.int (0 : Int32)) := V_aL_50.other W55 neL
      have F_oCells_p0_55 : Fld Z h55 p0 "com/example/tilescript/tilescript/TicTacToe" "oCells" "I" (.int (wo ||| ((1 : Int32) <<< (p1 &&& 31)))) := F_oCells_p0_50.other W55 (Or.inr (slot_ne (Or.inl (hw _ (List.mem_of_getElem? (i := 39) rfl))) (Or.inl (hw _ (List.mem_of_getElem? (i := 12) rfl))) (by decide) (t := .int) (t' := .char) (by decide) (by decide)))
      have F_marks_p0_55 : Fld Z h55 p0 "com/example/tilescript/tilescript/TicTacToe" "marks" "I" (.int (wm + (1 : Int32))) := F_marks_p0_50.other W55 (Or.inr (slot_ne (Or.inl (hw _ (List.mem_of_getElem? (i := 35) rfl))) (Or.inl (hw _ (List.mem_of_getElem? (i := 12) rfl))) (by decide) (t := .int) (t' := .char) (by decide) (by decide)))
      have F_lastMove_p0_55 : Fld Z h55 p0 "com/example/tilescript/tilescript/TicTacToe" "lastMove" "I" (.int p1) := F_lastMove_p0_50.other W55 (Or.inr (slot_ne (Or.inl (hw _ (List.mem_of_getElem? (i := 10) rfl))) (Or.inl (hw _ (List.mem_of_getElem? (i := 12) rfl))) (by decide) (t := .int) (t' := .char) (by decide) (by decide)))
      have K_55 : Keep h0 h55 [p0] := K_50.wr W55 (Or.inl (List.mem_of_getElem? (i := 0) rfl))
      have N55 := Fr.snoc X55 N50 g_p0
      have F_winner_p0_55 : Fld Z h55 p0 "com/example/tilescript/tilescript/TicTacToe" "winner" "C" (.int (nar .char (fnTok wm))) := F_winner_p0_50.same W55
      refine own_step (T' := T55) (g' := (mkF m 130 #[.val (.ref p0), .val (.int p1), .val (.int (fnTok wm)), .val (.int (wo ||| ((1 : Int32) <<< (p1 &&& 31)))), .val (.ref aL), .val (.int (8 : Int32)), .val (.int (0 : Int32)), .val (.int (7 : Int32))] [])) st55 ?_
      refine own_retV X55 hx hlk Bd.returns (hb hby d4_130) (by decide) (by decide) ?_
      rw [e55]
      exact ⟨wx, (wo ||| ((1 : Int32) <<< (p1 &&& 31))), (nar .char (fnTok wm)), rfl, N55, K_55, F_xCells_p0_55, F_oCells_p0_55, F_marks_p0_55, F_winner_p0_55, F_lastMove_p0_55, Or.inr ⟨hc34_3, rfl, rfl, (by unfold own_wn; rw [if_pos hc122_54])⟩⟩
    · refine own_step (T' := T51) (g' := (mkF m 131 #[.val (.ref p0), .val (.int p1), .val (.int (fnTok wm)), .val (.int (wo ||| ((1 : Int32) <<< (p1 &&& 31)))), .val (.ref aL), .val (.int (8 : Int32)), .val (.int (0 : Int32)), .val (.int (7 : Int32))] [])) (fun t k => XS.icmpYes X51.here hx rfl (pc0 := 122) (pc' := 131) rfl (hb hby d4_122) rfl (feq hc122_54).2 (by decide) (by decide) k) ?_
      refine own_step (T' := T51) (g' := (mkF m 134 #[.val (.ref p0), .val (.int p1), .val (.int (fnTok wm)), .val (.int (wo ||| ((1 : Int32) <<< (p1 &&& 31)))), .val (.ref aL), .val (.int (8 : Int32)), .val (.int (1 : Int32)), .val (.int (7 : Int32))] [])) (fun t k => XS.iinc X51.here hx rfl (hb hby d4_131) rfl (l' := #[.val (.ref p0), .val (.int p1), .val (.int (fnTok wm)), .val (.int (wo ||| ((1 : Int32) <<< (p1 &&& 31)))), .val (.ref aL), .val (.int (8 : Int32)), .val (.int (1 : Int32)), .val (.int (7 : Int32))]) rfl k) ?_
      refine own_step (T' := T51) (g' := (mkF m 102 #[.val (.ref p0), .val (.int p1), .val (.int (fnTok wm)), .val (.int (wo ||| ((1 : Int32) <<< (p1 &&& 31)))), .val (.ref aL), .val (.int (8 : Int32)), .val (.int (1 : Int32)), .val (.int (7 : Int32))] [])) (fun t k => XS.goto X51.here hx rfl (pc0 := 134) (pc' := 102) rfl (hb hby d4_134) (by decide) (by decide) k) ?_
      refine own_step (T' := T51) (g' := (mkF m 104 #[.val (.ref p0), .val (.int p1), .val (.int (fnTok wm)), .val (.int (wo ||| ((1 : Int32) <<< (p1 &&& 31)))), .val (.ref aL), .val (.int (8 : Int32)), .val (.int (1 : Int32)), .val (.int (7 : Int32))] [(.int (1 : Int32))])) (fun t k => XS.iload X51.here hx rfl (hb hby d4_102) rfl k) ?_
      refine own_step (T' := T51) (g' := (mkF m 106 #[.val (.ref p0), .val (.int p1), .val (.int (fnTok wm)), .val (.int (wo ||| ((1 : Int32) <<< (p1 &&& 31)))), .val (.ref aL), .val (.int (8 : Int32)), .val (.int (1 : Int32)), .val (.int (7 : Int32))] [(.int (8 : Int32)), (.int (1 : Int32))])) (fun t k => XS.iload X51.here hx rfl (hb hby d4_104) rfl k) ?_
      refine own_step (T' := T51) (g' := (mkF m 109 #[.val (.ref p0), .val (.int p1), .val (.int (fnTok wm)), .val (.int (wo ||| ((1 : Int32) <<< (p1 &&& 31)))), .val (.ref aL), .val (.int (8 : Int32)), .val (.int (1 : Int32)), .val (.int (7 : Int32))] [])) (fun t k => XS.icmpNo X51.here hx rfl (hb hby d4_106) rfl (tlt (by decide : (1 : Int32) < (8 : Int32))).2.1 k) ?_
      refine own_step (T' := T51) (g' := (mkF m 111 #[.val (.ref p0), .val (.int p1), .val (.int (fnTok wm)), .val (.int (wo ||| ((1 : Int32) <<< (p1 &&& 31)))), .val (.ref aL), .val (.int (8 : Int32)), .val (.int (1 : Int32)), .val (.int (7 : Int32))] [(.ref aL)])) (fun t k => XS.aload X51.here hx rfl (hb hby d4_109) rfl rfl k) ?_
      refine own_step (T' := T51) (g' := (mkF m 113 #[.val (.ref p0), .val (.int p1), .val (.int (fnTok wm)), .val (.int (wo ||| ((1 : Int32) <<< (p1 &&& 31)))), .val (.ref aL), .val (.int (8 : Int32)), .val (.int (1 : Int32)), .val (.int (7 : Int32))] [(.int (1 : Int32)), (.ref aL)])) (fun t k => XS.iload X51.here hx rfl (hb hby d4_111) rfl k) ?_
      obtain ⟨cl57, Ar57, q57, Sz57, Nn57, Hh57, Gg57⟩ := id V_aL_50
      have hin57 : ¬ ((1 : Int32) < 0 ∨ cl57.slots.size ≤ ((1 : Int32)).toNatClampNeg) := inb_of Sz57 ⟨by decide, by decide⟩
      refine own_step (T' := T51) (g' := (mkF m 114 #[.val (.ref p0), .val (.int p1), .val (.int (fnTok wm)), .val (.int (wo ||| ((1 : Int32) <<< (p1 &&& 31)))), .val (.ref aL), .val (.int (8 : Int32)), .val (.int (1 : Int32)), .val (.int (7 : Int32))] [(.int (56 : Int32))])) (fun t k => X51.iaload hx (j := (1 : Int32)) (v := (.int (56 : Int32))) (by rw [e51]; exact Ar57.1) (State.isArrayOf_alike hZ.alike Ar57.2.1) Ar57.2.2 hin57 (Has.at Hh57 hin57 rfl) (g := (mkF m 113 #[.val (.ref p0), .val (.int p1), .val (.int (fnTok wm)), .val (.int (wo ||| ((1 : Int32) <<< (p1 &&& 31)))), .val (.ref aL), .val (.int (8 : Int32)), .val (.int (1 : Int32)), .val (.int (7 : Int32))] [(.int (1 : Int32)), (.ref aL)])) rfl rfl (hb hby d4_113) t k) ?_
      refine own_step (T' := T51) (g' := (mkF m 116 #[.val (.ref p0), .val (.int p1), .val (.int (fnTok wm)), .val (.int (wo ||| ((1 : Int32) <<< (p1 &&& 31)))), .val (.ref aL), .val (.int (8 : Int32)), .val (.int (1 : Int32)), .val (.int (56 : Int32))] [])) (fun t k => XS.istore X51.here hx rfl (hb hby d4_114) rfl (l' := #[.val (.ref p0), .val (.int p1), .val (.int (fnTok wm)), .val (.int (wo ||| ((1 : Int32) <<< (p1 &&& 31)))), .val (.ref aL), .val (.int (8 : Int32)), .val (.int (1 : Int32)), .val (.int (56 : Int32))]) rfl k) ?_
      refine own_step (T' := T51) (g' := (mkF m 117 #[.val (.ref p0), .val (.int p1), .val (.int (fnTok wm)), .val (.int (wo ||| ((1 : Int32) <<< (p1 &&& 31)))), .val (.ref aL), .val (.int (8 : Int32)), .val (.int (1 : Int32)), .val (.int (56 : Int32))] [(.int (wo ||| ((1 : Int32) <<< (p1 &&& 31))))])) (fun t k => XS.iloadN X51.here hx rfl (hb hby d4_116) rfl k) ?_
      refine own_step (T' := T51) (g' := (mkF m 119 #[.val (.ref p0), .val (.int p1), .val (.int (fnTok wm)), .val (.int (wo ||| ((1 : Int32) <<< (p1 &&& 31)))), .val (.ref aL), .val (.int (8 : Int32)), .val (.int (1 : Int32)), .val (.int (56 : Int32))] [(.int (56 : Int32)), (.int (wo ||| ((1 : Int32) <<< (p1 &&& 31))))])) (fun t k => XS.iload X51.here hx rfl (hb hby d4_117) rfl k) ?_
      refine own_step (T' := T51) (g' := (mkF m 120 #[.val (.ref p0), .val (.int p1), .val (.int (fnTok wm)), .val (.int (wo ||| ((1 : Int32) <<< (p1 &&& 31)))), .val (.ref aL), .val (.int (8 : Int32)), .val (.int (1 : Int32)), .val (.int (56 : Int32))] [(.int ((wo ||| ((1 : Int32) <<< (p1 &&& 31))) &&& (56 : Int32)))])) (fun t k => XS.iand X51.here hx rfl (hb hby d4_119) rfl k) ?_
      refine own_step (T' := T51) (g' := (mkF m 122 #[.val (.ref p0), .val (.int p1), .val (.int (fnTok wm)), .val (.int (wo ||| ((1 : Int32) <<< (p1 &&& 31)))), .val (.ref aL), .val (.int (8 : Int32)), .val (.int (1 : Int32)), .val (.int (56 : Int32))] [(.int (56 : Int32)), (.int ((wo ||| ((1 : Int32) <<< (p1 &&& 31))) &&& (56 : Int32)))])) (fun t k => XS.iload X51.here hx rfl (hb hby d4_120) rfl k) ?_
      by_cases hc122_58 : ((wo ||| ((1 : Int32) <<< (p1 &&& 31))) &&& (56 : Int32)) = (56 : Int32)
      · refine own_step (T' := T51) (g' := (mkF m 125 #[.val (.ref p0), .val (.int p1), .val (.int (fnTok wm)), .val (.int (wo ||| ((1 : Int32) <<< (p1 &&& 31)))), .val (.ref aL), .val (.int (8 : Int32)), .val (.int (1 : Int32)), .val (.int (56 : Int32))] [])) (fun t k => XS.icmpNo X51.here hx rfl (hb hby d4_122) rfl (teq hc122_58).2 k) ?_
        refine own_step (T' := T51) (g' := (mkF m 126 #[.val (.ref p0), .val (.int p1), .val (.int (fnTok wm)), .val (.int (wo ||| ((1 : Int32) <<< (p1 &&& 31)))), .val (.ref aL), .val (.int (8 : Int32)), .val (.int (1 : Int32)), .val (.int (56 : Int32))] [(.ref p0)])) (fun t k => XS.aloadN X51.here hx rfl (hb hby d4_125) rfl rfl k) ?_
        refine own_step (T' := T51) (g' := (mkF m 127 #[.val (.ref p0), .val (.int p1), .val (.int (fnTok wm)), .val (.int (wo ||| ((1 : Int32) <<< (p1 &&& 31)))), .val (.ref aL), .val (.int (8 : Int32)), .val (.int (1 : Int32)), .val (.int (56 : Int32))] [(.int (fnTok wm)), (.ref p0)])) (fun t k => XS.iloadN X51.here hx rfl (hb hby d4_126) rfl k) ?_
        obtain ⟨T59, h59, X59, e59, W59, st59⟩ := putFN X51 hx hZ hown (hw _ (List.mem_of_getElem? (i := 11) rfl)) Via.refl e51 F_winner_p0_50 E_p0_50 (Or.inl (hw _ (List.mem_of_getElem? (i := 12) rfl))) (hw _ (List.mem_of_getElem? (i := 1) rfl)) (ty := .char) (v' := (.int (nar .char (fnTok wm)))) (by decide) rfl (fits_nar_char (fnTok wm)) (g := (mkF m 127 #[.val (.ref p0), .val (.int p1), .val (.int (fnTok wm)), .val (.int (wo ||| ((1 : Int32) <<< (p1 &&& 31)))), .val (.ref aL), .val (.int (8 : Int32)), .val (.int (1 : Int32)), .val (.int (56 : Int32))] [(.int (fnTok wm)), (.ref p0)])) rfl rfl (hb hby d4_127)
        have E_p0_59 : Exa Z h59 p0 "com/example/tilescript/tilescript/TicTacToe" := E_p0_50.wr W59
        have F_xCells_p0_59 : Fld Z h59 p0 "com/example/tilescript/tilescript/TicTacToe" "xCells" "I" (.int wx) := F_xCells_p0_50.other W59 (Or.inr (slot_ne (Or.inl (hw _ (List.mem_of_getElem? (i := 37) rfl))) (Or.inl (hw _ (List.mem_of_getElem? (i := 12) rfl))) (by decide) (t := .int) (t' := .char) (by decide) (by decide)))
        have S_LINES_59 : Sta Z h59 "com/example/tilescript/tilescript/TicTacToe" "LINES" "[I" (.ref aL) := S_LINES_50.wr W59
        have V_aL_59 : Arv Z h59 aL kL .int (8 : Int32) [(.int (7 : Int32)), (.int (56 : Int32)), (.int (448 : Int32)), (.int (73 : Int32)), (.int (146 : Int32)), (.int (292 : Int32)), (.int (273 : Int32)), (.int (84 : Int32))] (.int (0 : Int32)) := V_aL_50.other W59 neL
        have F_oCells_p0_59 : Fld Z h59 p0 "com/example/tilescript/tilescript/TicTacToe" "oCells" "I" (.int (wo ||| ((1 : Int32) <<< (p1 &&& 31)))) := F_oCells_p0_50.other W59 (Or.inr (slot_ne (Or.inl (hw _ (List.mem_of_getElem? (i := 39) rfl))) (Or.inl (hw _ (List.mem_of_getElem? (i := 12) rfl))) (by decide) (t := .int) (t' := .char) (by decide) (by decide)))
        have F_marks_p0_59 : Fld Z h59 p0 "com/example/tilescript/tilescript/TicTacToe" "marks" "I" (.int (wm + (1 : Int32))) := F_marks_p0_50.other W59 (Or.inr (slot_ne (Or.inl (hw _ (List.mem_of_getElem? (i := 35) rfl))) (Or.inl (hw _ (List.mem_of_getElem? (i := 12) rfl))) (by decide) (t := .int) (t' := .char) (by decide) (by decide)))
        have F_lastMove_p0_59 : Fld Z h59 p0 "com/example/tilescript/tilescript/TicTacToe" "lastMove" "I" (.int p1) := F_lastMove_p0_50.other W59 (Or.inr (slot_ne (Or.inl (hw _ (List.mem_of_getElem? (i := 10) rfl))) (Or.inl (hw _ (List.mem_of_getElem? (i := 12) rfl))) (by decide) (t := .int) (t' := .char) (by decide) (by decide)))
        have K_59 : Keep h0 h59 [p0] := K_50.wr W59 (Or.inl (List.mem_of_getElem? (i := 0) rfl))
        have N59 := Fr.snoc X59 N50 g_p0
        have F_winner_p0_59 : Fld Z h59 p0 "com/example/tilescript/tilescript/TicTacToe" "winner" "C" (.int (nar .char (fnTok wm))) := F_winner_p0_50.same W59
        refine own_step (T' := T59) (g' := (mkF m 130 #[.val (.ref p0), .val (.int p1), .val (.int (fnTok wm)), .val (.int (wo ||| ((1 : Int32) <<< (p1 &&& 31)))), .val (.ref aL), .val (.int (8 : Int32)), .val (.int (1 : Int32)), .val (.int (56 : Int32))] [])) st59 ?_
        refine own_retV X59 hx hlk Bd.returns (hb hby d4_130) (by decide) (by decide) ?_
        rw [e59]
        exact ⟨wx, (wo ||| ((1 : Int32) <<< (p1 &&& 31))), (nar .char (fnTok wm)), rfl, N59, K_59, F_xCells_p0_59, F_oCells_p0_59, F_marks_p0_59, F_winner_p0_59, F_lastMove_p0_59, Or.inr ⟨hc34_3, rfl, rfl, (by unfold own_wn; rw [if_neg hc122_54, if_pos hc122_58])⟩⟩
      · refine own_step (T' := T51) (g' := (mkF m 131 #[.val (.ref p0), .val (.int p1), .val (.int (fnTok wm)), .val (.int (wo ||| ((1 : Int32) <<< (p1 &&& 31)))), .val (.ref aL), .val (.int (8 : Int32)), .val (.int (1 : Int32)), .val (.int (56 : Int32))] [])) (fun t k => XS.icmpYes X51.here hx rfl (pc0 := 122) (pc' := 131) rfl (hb hby d4_122) rfl (feq hc122_58).2 (by decide) (by decide) k) ?_
        refine own_step (T' := T51) (g' := (mkF m 134 #[.val (.ref p0), .val (.int p1), .val (.int (fnTok wm)), .val (.int (wo ||| ((1 : Int32) <<< (p1 &&& 31)))), .val (.ref aL), .val (.int (8 : Int32)), .val (.int (2 : Int32)), .val (.int (56 : Int32))] [])) (fun t k => XS.iinc X51.here hx rfl (hb hby d4_131) rfl (l' := #[.val (.ref p0), .val (.int p1), .val (.int (fnTok wm)), .val (.int (wo ||| ((1 : Int32) <<< (p1 &&& 31)))), .val (.ref aL), .val (.int (8 : Int32)), .val (.int (2 : Int32)), .val (.int (56 : Int32))]) rfl k) ?_
        refine own_step (T' := T51) (g' := (mkF m 102 #[.val (.ref p0), .val (.int p1), .val (.int (fnTok wm)), .val (.int (wo ||| ((1 : Int32) <<< (p1 &&& 31)))), .val (.ref aL), .val (.int (8 : Int32)), .val (.int (2 : Int32)), .val (.int (56 : Int32))] [])) (fun t k => XS.goto X51.here hx rfl (pc0 := 134) (pc' := 102) rfl (hb hby d4_134) (by decide) (by decide) k) ?_
        refine own_step (T' := T51) (g' := (mkF m 104 #[.val (.ref p0), .val (.int p1), .val (.int (fnTok wm)), .val (.int (wo ||| ((1 : Int32) <<< (p1 &&& 31)))), .val (.ref aL), .val (.int (8 : Int32)), .val (.int (2 : Int32)), .val (.int (56 : Int32))] [(.int (2 : Int32))])) (fun t k => XS.iload X51.here hx rfl (hb hby d4_102) rfl k) ?_
        refine own_step (T' := T51) (g' := (mkF m 106 #[.val (.ref p0), .val (.int p1), .val (.int (fnTok wm)), .val (.int (wo ||| ((1 : Int32) <<< (p1 &&& 31)))), .val (.ref aL), .val (.int (8 : Int32)), .val (.int (2 : Int32)), .val (.int (56 : Int32))] [(.int (8 : Int32)), (.int (2 : Int32))])) (fun t k => XS.iload X51.here hx rfl (hb hby d4_104) rfl k) ?_
        refine own_step (T' := T51) (g' := (mkF m 109 #[.val (.ref p0), .val (.int p1), .val (.int (fnTok wm)), .val (.int (wo ||| ((1 : Int32) <<< (p1 &&& 31)))), .val (.ref aL), .val (.int (8 : Int32)), .val (.int (2 : Int32)), .val (.int (56 : Int32))] [])) (fun t k => XS.icmpNo X51.here hx rfl (hb hby d4_106) rfl (tlt (by decide : (2 : Int32) < (8 : Int32))).2.1 k) ?_
        refine own_step (T' := T51) (g' := (mkF m 111 #[.val (.ref p0), .val (.int p1), .val (.int (fnTok wm)), .val (.int (wo ||| ((1 : Int32) <<< (p1 &&& 31)))), .val (.ref aL), .val (.int (8 : Int32)), .val (.int (2 : Int32)), .val (.int (56 : Int32))] [(.ref aL)])) (fun t k => XS.aload X51.here hx rfl (hb hby d4_109) rfl rfl k) ?_
        refine own_step (T' := T51) (g' := (mkF m 113 #[.val (.ref p0), .val (.int p1), .val (.int (fnTok wm)), .val (.int (wo ||| ((1 : Int32) <<< (p1 &&& 31)))), .val (.ref aL), .val (.int (8 : Int32)), .val (.int (2 : Int32)), .val (.int (56 : Int32))] [(.int (2 : Int32)), (.ref aL)])) (fun t k => XS.iload X51.here hx rfl (hb hby d4_111) rfl k) ?_
        obtain ⟨cl61, Ar61, q61, Sz61, Nn61, Hh61, Gg61⟩ := id V_aL_50
        have hin61 : ¬ ((2 : Int32) < 0 ∨ cl61.slots.size ≤ ((2 : Int32)).toNatClampNeg) := inb_of Sz61 ⟨by decide, by decide⟩
        refine own_step (T' := T51) (g' := (mkF m 114 #[.val (.ref p0), .val (.int p1), .val (.int (fnTok wm)), .val (.int (wo ||| ((1 : Int32) <<< (p1 &&& 31)))), .val (.ref aL), .val (.int (8 : Int32)), .val (.int (2 : Int32)), .val (.int (56 : Int32))] [(.int (448 : Int32))])) (fun t k => X51.iaload hx (j := (2 : Int32)) (v := (.int (448 : Int32))) (by rw [e51]; exact Ar61.1) (State.isArrayOf_alike hZ.alike Ar61.2.1) Ar61.2.2 hin61 (Has.at Hh61 hin61 rfl) (g := (mkF m 113 #[.val (.ref p0), .val (.int p1), .val (.int (fnTok wm)), .val (.int (wo ||| ((1 : Int32) <<< (p1 &&& 31)))), .val (.ref aL), .val (.int (8 : Int32)), .val (.int (2 : Int32)), .val (.int (56 : Int32))] [(.int (2 : Int32)), (.ref aL)])) rfl rfl (hb hby d4_113) t k) ?_
        refine own_step (T' := T51) (g' := (mkF m 116 #[.val (.ref p0), .val (.int p1), .val (.int (fnTok wm)), .val (.int (wo ||| ((1 : Int32) <<< (p1 &&& 31)))), .val (.ref aL), .val (.int (8 : Int32)), .val (.int (2 : Int32)), .val (.int (448 : Int32))] [])) (fun t k => XS.istore X51.here hx rfl (hb hby d4_114) rfl (l' := #[.val (.ref p0), .val (.int p1), .val (.int (fnTok wm)), .val (.int (wo ||| ((1 : Int32) <<< (p1 &&& 31)))), .val (.ref aL), .val (.int (8 : Int32)), .val (.int (2 : Int32)), .val (.int (448 : Int32))]) rfl k) ?_
        refine own_step (T' := T51) (g' := (mkF m 117 #[.val (.ref p0), .val (.int p1), .val (.int (fnTok wm)), .val (.int (wo ||| ((1 : Int32) <<< (p1 &&& 31)))), .val (.ref aL), .val (.int (8 : Int32)), .val (.int (2 : Int32)), .val (.int (448 : Int32))] [(.int (wo ||| ((1 : Int32) <<< (p1 &&& 31))))])) (fun t k => XS.iloadN X51.here hx rfl (hb hby d4_116) rfl k) ?_
        refine own_step (T' := T51) (g' := (mkF m 119 #[.val (.ref p0), .val (.int p1), .val (.int (fnTok wm)), .val (.int (wo ||| ((1 : Int32) <<< (p1 &&& 31)))), .val (.ref aL), .val (.int (8 : Int32)), .val (.int (2 : Int32)), .val (.int (448 : Int32))] [(.int (448 : Int32)), (.int (wo ||| ((1 : Int32) <<< (p1 &&& 31))))])) (fun t k => XS.iload X51.here hx rfl (hb hby d4_117) rfl k) ?_
        refine own_step (T' := T51) (g' := (mkF m 120 #[.val (.ref p0), .val (.int p1), .val (.int (fnTok wm)), .val (.int (wo ||| ((1 : Int32) <<< (p1 &&& 31)))), .val (.ref aL), .val (.int (8 : Int32)), .val (.int (2 : Int32)), .val (.int (448 : Int32))] [(.int ((wo ||| ((1 : Int32) <<< (p1 &&& 31))) &&& (448 : Int32)))])) (fun t k => XS.iand X51.here hx rfl (hb hby d4_119) rfl k) ?_
        refine own_step (T' := T51) (g' := (mkF m 122 #[.val (.ref p0), .val (.int p1), .val (.int (fnTok wm)), .val (.int (wo ||| ((1 : Int32) <<< (p1 &&& 31)))), .val (.ref aL), .val (.int (8 : Int32)), .val (.int (2 : Int32)), .val (.int (448 : Int32))] [(.int (448 : Int32)), (.int ((wo ||| ((1 : Int32) <<< (p1 &&& 31))) &&& (448 : Int32)))])) (fun t k => XS.iload X51.here hx rfl (hb hby d4_120) rfl k) ?_
        by_cases hc122_62 : ((wo ||| ((1 : Int32) <<< (p1 &&& 31))) &&& (448 : Int32)) = (448 : Int32)
        · refine own_step (T' := T51) (g' := (mkF m 125 #[.val (.ref p0), .val (.int p1), .val (.int (fnTok wm)), .val (.int (wo ||| ((1 : Int32) <<< (p1 &&& 31)))), .val (.ref aL), .val (.int (8 : Int32)), .val (.int (2 : Int32)), .val (.int (448 : Int32))] [])) (fun t k => XS.icmpNo X51.here hx rfl (hb hby d4_122) rfl (teq hc122_62).2 k) ?_
          refine own_step (T' := T51) (g' := (mkF m 126 #[.val (.ref p0), .val (.int p1), .val (.int (fnTok wm)), .val (.int (wo ||| ((1 : Int32) <<< (p1 &&& 31)))), .val (.ref aL), .val (.int (8 : Int32)), .val (.int (2 : Int32)), .val (.int (448 : Int32))] [(.ref p0)])) (fun t k => XS.aloadN X51.here hx rfl (hb hby d4_125) rfl rfl k) ?_
          refine own_step (T' := T51) (g' := (mkF m 127 #[.val (.ref p0), .val (.int p1), .val (.int (fnTok wm)), .val (.int (wo ||| ((1 : Int32) <<< (p1 &&& 31)))), .val (.ref aL), .val (.int (8 : Int32)), .val (.int (2 : Int32)), .val (.int (448 : Int32))] [(.int (fnTok wm)), (.ref p0)])) (fun t k => XS.iloadN X51.here hx rfl (hb hby d4_126) rfl k) ?_
          obtain ⟨T63, h63, X63, e63, W63, st63⟩ := putFN X51 hx hZ hown (hw _ (List.mem_of_getElem? (i := 11) rfl)) Via.refl e51 F_winner_p0_50 E_p0_50 (Or.inl (hw _ (List.mem_of_getElem? (i := 12) rfl))) (hw _ (List.mem_of_getElem? (i := 1) rfl)) (ty := .char) (v' := (.int (nar .char (fnTok wm)))) (by decide) rfl (fits_nar_char (fnTok wm)) (g := (mkF m 127 #[.val (.ref p0), .val (.int p1), .val (.int (fnTok wm)), .val (.int (wo ||| ((1 : Int32) <<< (p1 &&& 31)))), .val (.ref aL), .val (.int (8 : Int32)), .val (.int (2 : Int32)), .val (.int (448 : Int32))] [(.int (fnTok wm)), (.ref p0)])) rfl rfl (hb hby d4_127)
          have E_p0_63 : Exa Z h63 p0 "com/example/tilescript/tilescript/TicTacToe" := E_p0_50.wr W63
          have F_xCells_p0_63 : Fld Z h63 p0 "com/example/tilescript/tilescript/TicTacToe" "xCells" "I" (.int wx) := F_xCells_p0_50.other W63 (Or.inr (slot_ne (Or.inl (hw _ (List.mem_of_getElem? (i := 37) rfl))) (Or.inl (hw _ (List.mem_of_getElem? (i := 12) rfl))) (by decide) (t := .int) (t' := .char) (by decide) (by decide)))
          have S_LINES_63 : Sta Z h63 "com/example/tilescript/tilescript/TicTacToe" "LINES" "[I" (.ref aL) := S_LINES_50.wr W63
          have V_aL_63 : Arv Z h63 aL kL .int (8 : Int32) [(.int (7 : Int32)), (.int (56 : Int32)), (.int (448 : Int32)), (.int (73 : Int32)), (.int (146 : Int32)), (.int (292 : Int32)), (.int (273 : Int32)), (.int (84 : Int32))] (.int (0 : Int32)) := V_aL_50.other W63 neL
          have F_oCells_p0_63 : Fld Z h63 p0 "com/example/tilescript/tilescript/TicTacToe" "oCells" "I" (.int (wo ||| ((1 : Int32) <<< (p1 &&& 31)))) := F_oCells_p0_50.other W63 (Or.inr (slot_ne (Or.inl (hw _ (List.mem_of_getElem? (i := 39) rfl))) (Or.inl (hw _ (List.mem_of_getElem? (i := 12) rfl))) (by decide) (t := .int) (t' := .char) (by decide) (by decide)))
          have F_marks_p0_63 : Fld Z h63 p0 "com/example/tilescript/tilescript/TicTacToe" "marks" "I" (.int (wm + (1 : Int32))) := F_marks_p0_50.other W63 (Or.inr (slot_ne (Or.inl (hw _ (List.mem_of_getElem? (i := 35) rfl))) (Or.inl (hw _ (List.mem_of_getElem? (i := 12) rfl))) (by decide) (t := .int) (t' := .char) (by decide) (by decide)))
          have F_lastMove_p0_63 : Fld Z h63 p0 "com/example/tilescript/tilescript/TicTacToe" "lastMove" "I" (.int p1) := F_lastMove_p0_50.other W63 (Or.inr (slot_ne (Or.inl (hw _ (List.mem_of_getElem? (i := 10) rfl))) (Or.inl (hw _ (List.mem_of_getElem? (i := 12) rfl))) (by decide) (t := .int) (t' := .char) (by decide) (by decide)))
          have K_63 : Keep h0 h63 [p0] := K_50.wr W63 (Or.inl (List.mem_of_getElem? (i := 0) rfl))
          have N63 := Fr.snoc X63 N50 g_p0
          have F_winner_p0_63 : Fld Z h63 p0 "com/example/tilescript/tilescript/TicTacToe" "winner" "C" (.int (nar .char (fnTok wm))) := F_winner_p0_50.same W63
          refine own_step (T' := T63) (g' := (mkF m 130 #[.val (.ref p0), .val (.int p1), .val (.int (fnTok wm)), .val (.int (wo ||| ((1 : Int32) <<< (p1 &&& 31)))), .val (.ref aL), .val (.int (8 : Int32)), .val (.int (2 : Int32)), .val (.int (448 : Int32))] [])) st63 ?_
          refine own_retV X63 hx hlk Bd.returns (hb hby d4_130) (by decide) (by decide) ?_
          rw [e63]
          exact ⟨wx, (wo ||| ((1 : Int32) <<< (p1 &&& 31))), (nar .char (fnTok wm)), rfl, N63, K_63, F_xCells_p0_63, F_oCells_p0_63, F_marks_p0_63, F_winner_p0_63, F_lastMove_p0_63, Or.inr ⟨hc34_3, rfl, rfl, (by unfold own_wn; rw [if_neg hc122_54, if_neg hc122_58, if_pos hc122_62])⟩⟩
        · refine own_step (T' := T51) (g' := (mkF m 131 #[.val (.ref p0), .val (.int p1), .val (.int (fnTok wm)), .val (.int (wo ||| ((1 : Int32) <<< (p1 &&& 31)))), .val (.ref aL), .val (.int (8 : Int32)), .val (.int (2 : Int32)), .val (.int (448 : Int32))] [])) (fun t k => XS.icmpYes X51.here hx rfl (pc0 := 122) (pc' := 131) rfl (hb hby d4_122) rfl (feq hc122_62).2 (by decide) (by decide) k) ?_
          refine own_step (T' := T51) (g' := (mkF m 134 #[.val (.ref p0), .val (.int p1), .val (.int (fnTok wm)), .val (.int (wo ||| ((1 : Int32) <<< (p1 &&& 31)))), .val (.ref aL), .val (.int (8 : Int32)), .val (.int (3 : Int32)), .val (.int (448 : Int32))] [])) (fun t k => XS.iinc X51.here hx rfl (hb hby d4_131) rfl (l' := #[.val (.ref p0), .val (.int p1), .val (.int (fnTok wm)), .val (.int (wo ||| ((1 : Int32) <<< (p1 &&& 31)))), .val (.ref aL), .val (.int (8 : Int32)), .val (.int (3 : Int32)), .val (.int (448 : Int32))]) rfl k) ?_
          refine own_step (T' := T51) (g' := (mkF m 102 #[.val (.ref p0), .val (.int p1), .val (.int (fnTok wm)), .val (.int (wo ||| ((1 : Int32) <<< (p1 &&& 31)))), .val (.ref aL), .val (.int (8 : Int32)), .val (.int (3 : Int32)), .val (.int (448 : Int32))] [])) (fun t k => XS.goto X51.here hx rfl (pc0 := 134) (pc' := 102) rfl (hb hby d4_134) (by decide) (by decide) k) ?_
          refine own_step (T' := T51) (g' := (mkF m 104 #[.val (.ref p0), .val (.int p1), .val (.int (fnTok wm)), .val (.int (wo ||| ((1 : Int32) <<< (p1 &&& 31)))), .val (.ref aL), .val (.int (8 : Int32)), .val (.int (3 : Int32)), .val (.int (448 : Int32))] [(.int (3 : Int32))])) (fun t k => XS.iload X51.here hx rfl (hb hby d4_102) rfl k) ?_
          refine own_step (T' := T51) (g' := (mkF m 106 #[.val (.ref p0), .val (.int p1), .val (.int (fnTok wm)), .val (.int (wo ||| ((1 : Int32) <<< (p1 &&& 31)))), .val (.ref aL), .val (.int (8 : Int32)), .val (.int (3 : Int32)), .val (.int (448 : Int32))] [(.int (8 : Int32)), (.int (3 : Int32))])) (fun t k => XS.iload X51.here hx rfl (hb hby d4_104) rfl k) ?_
          refine own_step (T' := T51) (g' := (mkF m 109 #[.val (.ref p0), .val (.int p1), .val (.int (fnTok wm)), .val (.int (wo ||| ((1 : Int32) <<< (p1 &&& 31)))), .val (.ref aL), .val (.int (8 : Int32)), .val (.int (3 : Int32)), .val (.int (448 : Int32))] [])) (fun t k => XS.icmpNo X51.here hx rfl (hb hby d4_106) rfl (tlt (by decide : (3 : Int32) < (8 : Int32))).2.1 k) ?_
          refine own_step (T' := T51) (g' := (mkF m 111 #[.val (.ref p0), .val (.int p1), .val (.int (fnTok wm)), .val (.int (wo ||| ((1 : Int32) <<< (p1 &&& 31)))), .val (.ref aL), .val (.int (8 : Int32)), .val (.int (3 : Int32)), .val (.int (448 : Int32))] [(.ref aL)])) (fun t k => XS.aload X51.here hx rfl (hb hby d4_109) rfl rfl k) ?_
          refine own_step (T' := T51) (g' := (mkF m 113 #[.val (.ref p0), .val (.int p1), .val (.int (fnTok wm)), .val (.int (wo ||| ((1 : Int32) <<< (p1 &&& 31)))), .val (.ref aL), .val (.int (8 : Int32)), .val (.int (3 : Int32)), .val (.int (448 : Int32))] [(.int (3 : Int32)), (.ref aL)])) (fun t k => XS.iload X51.here hx rfl (hb hby d4_111) rfl k) ?_
          obtain ⟨cl65, Ar65, q65, Sz65, Nn65, Hh65, Gg65⟩ := id V_aL_50
          have hin65 : ¬ ((3 : Int32) < 0 ∨ cl65.slots.size ≤ ((3 : Int32)).toNatClampNeg) := inb_of Sz65 ⟨by decide, by decide⟩
          refine own_step (T' := T51) (g' := (mkF m 114 #[.val (.ref p0), .val (.int p1), .val (.int (fnTok wm)), .val (.int (wo ||| ((1 : Int32) <<< (p1 &&& 31)))), .val (.ref aL), .val (.int (8 : Int32)), .val (.int (3 : Int32)), .val (.int (448 : Int32))] [(.int (73 : Int32))])) (fun t k => X51.iaload hx (j := (3 : Int32)) (v := (.int (73 : Int32))) (by rw [e51]; exact Ar65.1) (State.isArrayOf_alike hZ.alike Ar65.2.1) Ar65.2.2 hin65 (Has.at Hh65 hin65 rfl) (g := (mkF m 113 #[.val (.ref p0), .val (.int p1), .val (.int (fnTok wm)), .val (.int (wo ||| ((1 : Int32) <<< (p1 &&& 31)))), .val (.ref aL), .val (.int (8 : Int32)), .val (.int (3 : Int32)), .val (.int (448 : Int32))] [(.int (3 : Int32)), (.ref aL)])) rfl rfl (hb hby d4_113) t k) ?_
          refine own_step (T' := T51) (g' := (mkF m 116 #[.val (.ref p0), .val (.int p1), .val (.int (fnTok wm)), .val (.int (wo ||| ((1 : Int32) <<< (p1 &&& 31)))), .val (.ref aL), .val (.int (8 : Int32)), .val (.int (3 : Int32)), .val (.int (73 : Int32))] [])) (fun t k => XS.istore X51.here hx rfl (hb hby d4_114) rfl (l' := #[.val (.ref p0), .val (.int p1), .val (.int (fnTok wm)), .val (.int (wo ||| ((1 : Int32) <<< (p1 &&& 31)))), .val (.ref aL), .val (.int (8 : Int32)), .val (.int (3 : Int32)), .val (.int (73 : Int32))]) rfl k) ?_
          refine own_step (T' := T51) (g' := (mkF m 117 #[.val (.ref p0), .val (.int p1), .val (.int (fnTok wm)), .val (.int (wo ||| ((1 : Int32) <<< (p1 &&& 31)))), .val (.ref aL), .val (.int (8 : Int32)), .val (.int (3 : Int32)), .val (.int (73 : Int32))] [(.int (wo ||| ((1 : Int32) <<< (p1 &&& 31))))])) (fun t k => XS.iloadN X51.here hx rfl (hb hby d4_116) rfl k) ?_
          refine own_step (T' := T51) (g' := (mkF m 119 #[.val (.ref p0), .val (.int p1), .val (.int (fnTok wm)), .val (.int (wo ||| ((1 : Int32) <<< (p1 &&& 31)))), .val (.ref aL), .val (.int (8 : Int32)), .val (.int (3 : Int32)), .val (.int (73 : Int32))] [(.int (73 : Int32)), (.int (wo ||| ((1 : Int32) <<< (p1 &&& 31))))])) (fun t k => XS.iload X51.here hx rfl (hb hby d4_117) rfl k) ?_
          refine own_step (T' := T51) (g' := (mkF m 120 #[.val (.ref p0), .val (.int p1), .val (.int (fnTok wm)), .val (.int (wo ||| ((1 : Int32) <<< (p1 &&& 31)))), .val (.ref aL), .val (.int (8 : Int32)), .val (.int (3 : Int32)), .val (.int (73 : Int32))] [(.int ((wo ||| ((1 : Int32) <<< (p1 &&& 31))) &&& (73 : Int32)))])) (fun t k => XS.iand X51.here hx rfl (hb hby d4_119) rfl k) ?_
          refine own_step (T' := T51) (g' := (mkF m 122 #[.val (.ref p0), .val (.int p1), .val (.int (fnTok wm)), .val (.int (wo ||| ((1 : Int32) <<< (p1 &&& 31)))), .val (.ref aL), .val (.int (8 : Int32)), .val (.int (3 : Int32)), .val (.int (73 : Int32))] [(.int (73 : Int32)), (.int ((wo ||| ((1 : Int32) <<< (p1 &&& 31))) &&& (73 : Int32)))])) (fun t k => XS.iload X51.here hx rfl (hb hby d4_120) rfl k) ?_
          by_cases hc122_66 : ((wo ||| ((1 : Int32) <<< (p1 &&& 31))) &&& (73 : Int32)) = (73 : Int32)
          · refine own_step (T' := T51) (g' := (mkF m 125 #[.val (.ref p0), .val (.int p1), .val (.int (fnTok wm)), .val (.int (wo ||| ((1 : Int32) <<< (p1 &&& 31)))), .val (.ref aL), .val (.int (8 : Int32)), .val (.int (3 : Int32)), .val (.int (73 : Int32))] [])) (fun t k => XS.icmpNo X51.here hx rfl (hb hby d4_122) rfl (teq hc122_66).2 k) ?_
            refine own_step (T' := T51) (g' := (mkF m 126 #[.val (.ref p0), .val (.int p1), .val (.int (fnTok wm)), .val (.int (wo ||| ((1 : Int32) <<< (p1 &&& 31)))), .val (.ref aL), .val (.int (8 : Int32)), .val (.int (3 : Int32)), .val (.int (73 : Int32))] [(.ref p0)])) (fun t k => XS.aloadN X51.here hx rfl (hb hby d4_125) rfl rfl k) ?_
            refine own_step (T' := T51) (g' := (mkF m 127 #[.val (.ref p0), .val (.int p1), .val (.int (fnTok wm)), .val (.int (wo ||| ((1 : Int32) <<< (p1 &&& 31)))), .val (.ref aL), .val (.int (8 : Int32)), .val (.int (3 : Int32)), .val (.int (73 : Int32))] [(.int (fnTok wm)), (.ref p0)])) (fun t k => XS.iloadN X51.here hx rfl (hb hby d4_126) rfl k) ?_
            obtain ⟨T67, h67, X67, e67, W67, st67⟩ := putFN X51 hx hZ hown (hw _ (List.mem_of_getElem? (i := 11) rfl)) Via.refl e51 F_winner_p0_50 E_p0_50 (Or.inl (hw _ (List.mem_of_getElem? (i := 12) rfl))) (hw _ (List.mem_of_getElem? (i := 1) rfl)) (ty := .char) (v' := (.int (nar .char (fnTok wm)))) (by decide) rfl (fits_nar_char (fnTok wm)) (g := (mkF m 127 #[.val (.ref p0), .val (.int p1), .val (.int (fnTok wm)), .val (.int (wo ||| ((1 : Int32) <<< (p1 &&& 31)))), .val (.ref aL), .val (.int (8 : Int32)), .val (.int (3 : Int32)), .val (.int (73 : Int32))] [(.int (fnTok wm)), (.ref p0)])) rfl rfl (hb hby d4_127)
            have E_p0_67 : Exa Z h67 p0 "com/example/tilescript/tilescript/TicTacToe" := E_p0_50.wr W67
            have F_xCells_p0_67 : Fld Z h67 p0 "com/example/tilescript/tilescript/TicTacToe" "xCells" "I" (.int wx) := F_xCells_p0_50.other W67 (Or.inr (slot_ne (Or.inl (hw _ (List.mem_of_getElem? (i := 37) rfl))) (Or.inl (hw _ (List.mem_of_getElem? (i := 12) rfl))) (by decide) (t := .int) (t' := .char) (by decide) (by decide)))
            have S_LINES_67 : Sta Z h67 "com/example/tilescript/tilescript/TicTacToe" "LINES" "[I" (.ref aL) := S_LINES_50.wr W67
            have V_aL_67 : Arv Z h67 aL kL .int (8 : Int32) [(.int (7 : Int32)), (.int (56 : Int32)), (.int (448 : Int32)), (.int (73 : Int32)), (.int (146 : Int32)), (.int (292 : Int32)), (.int (273 : Int32)), (.int (84 : Int32))] (.int (0 : Int32)) := V_aL_50.other W67 neL
            have F_oCells_p0_67 : Fld Z h67 p0 "com/example/tilescript/tilescript/TicTacToe" "oCells" "I" (.int (wo ||| ((1 : Int32) <<< (p1 &&& 31)))) := F_oCells_p0_50.other W67 (Or.inr (slot_ne (Or.inl (hw _ (List.mem_of_getElem? (i := 39) rfl))) (Or.inl (hw _ (List.mem_of_getElem? (i := 12) rfl))) (by decide) (t := .int) (t' := .char) (by decide) (by decide)))
            have F_marks_p0_67 : Fld Z h67 p0 "com/example/tilescript/tilescript/TicTacToe" "marks" "I" (.int (wm + (1 : Int32))) := F_marks_p0_50.other W67 (Or.inr (slot_ne (Or.inl (hw _ (List.mem_of_getElem? (i := 35) rfl))) (Or.inl (hw _ (List.mem_of_getElem? (i := 12) rfl))) (by decide) (t := .int) (t' := .char) (by decide) (by decide)))
            have F_lastMove_p0_67 : Fld Z h67 p0 "com/example/tilescript/tilescript/TicTacToe" "lastMove" "I" (.int p1) := F_lastMove_p0_50.other W67 (Or.inr (slot_ne (Or.inl (hw _ (List.mem_of_getElem? (i := 10) rfl))) (Or.inl (hw _ (List.mem_of_getElem? (i := 12) rfl))) (by decide) (t := .int) (t' := .char) (by decide) (by decide)))
            have K_67 : Keep h0 h67 [p0] := K_50.wr W67 (Or.inl (List.mem_of_getElem? (i := 0) rfl))
            have N67 := Fr.snoc X67 N50 g_p0
            have F_winner_p0_67 : Fld Z h67 p0 "com/example/tilescript/tilescript/TicTacToe" "winner" "C" (.int (nar .char (fnTok wm))) := F_winner_p0_50.same W67
            refine own_step (T' := T67) (g' := (mkF m 130 #[.val (.ref p0), .val (.int p1), .val (.int (fnTok wm)), .val (.int (wo ||| ((1 : Int32) <<< (p1 &&& 31)))), .val (.ref aL), .val (.int (8 : Int32)), .val (.int (3 : Int32)), .val (.int (73 : Int32))] [])) st67 ?_
            refine own_retV X67 hx hlk Bd.returns (hb hby d4_130) (by decide) (by decide) ?_
            rw [e67]
            exact ⟨wx, (wo ||| ((1 : Int32) <<< (p1 &&& 31))), (nar .char (fnTok wm)), rfl, N67, K_67, F_xCells_p0_67, F_oCells_p0_67, F_marks_p0_67, F_winner_p0_67, F_lastMove_p0_67, Or.inr ⟨hc34_3, rfl, rfl, (by unfold own_wn; rw [if_neg hc122_54, if_neg hc122_58, if_neg hc122_62, if_pos hc122_66])⟩⟩
          · refine own_step (T' := T51) (g' := (mkF m 131 #[.val (.ref p0), .val (.int p1), .val (.int (fnTok wm)), .val (.int (wo ||| ((1 : Int32) <<< (p1 &&& 31)))), .val (.ref aL), .val (.int (8 : Int32)), .val (.int (3 : Int32)), .val (.int (73 : Int32))] [])) (fun t k => XS.icmpYes X51.here hx rfl (pc0 := 122) (pc' := 131) rfl (hb hby d4_122) rfl (feq hc122_66).2 (by decide) (by decide) k) ?_
            refine own_step (T' := T51) (g' := (mkF m 134 #[.val (.ref p0), .val (.int p1), .val (.int (fnTok wm)), .val (.int (wo ||| ((1 : Int32) <<< (p1 &&& 31)))), .val (.ref aL), .val (.int (8 : Int32)), .val (.int (4 : Int32)), .val (.int (73 : Int32))] [])) (fun t k => XS.iinc X51.here hx rfl (hb hby d4_131) rfl (l' := #[.val (.ref p0), .val (.int p1), .val (.int (fnTok wm)), .val (.int (wo ||| ((1 : Int32) <<< (p1 &&& 31)))), .val (.ref aL), .val (.int (8 : Int32)), .val (.int (4 : Int32)), .val (.int (73 : Int32))]) rfl k) ?_
            refine own_step (T' := T51) (g' := (mkF m 102 #[.val (.ref p0), .val (.int p1), .val (.int (fnTok wm)), .val (.int (wo ||| ((1 : Int32) <<< (p1 &&& 31)))), .val (.ref aL), .val (.int (8 : Int32)), .val (.int (4 : Int32)), .val (.int (73 : Int32))] [])) (fun t k => XS.goto X51.here hx rfl (pc0 := 134) (pc' := 102) rfl (hb hby d4_134) (by decide) (by decide) k) ?_
            refine own_step (T' := T51) (g' := (mkF m 104 #[.val (.ref p0), .val (.int p1), .val (.int (fnTok wm)), .val (.int (wo ||| ((1 : Int32) <<< (p1 &&& 31)))), .val (.ref aL), .val (.int (8 : Int32)), .val (.int (4 : Int32)), .val (.int (73 : Int32))] [(.int (4 : Int32))])) (fun t k => XS.iload X51.here hx rfl (hb hby d4_102) rfl k) ?_
            refine own_step (T' := T51) (g' := (mkF m 106 #[.val (.ref p0), .val (.int p1), .val (.int (fnTok wm)), .val (.int (wo ||| ((1 : Int32) <<< (p1 &&& 31)))), .val (.ref aL), .val (.int (8 : Int32)), .val (.int (4 : Int32)), .val (.int (73 : Int32))] [(.int (8 : Int32)), (.int (4 : Int32))])) (fun t k => XS.iload X51.here hx rfl (hb hby d4_104) rfl k) ?_
            refine own_step (T' := T51) (g' := (mkF m 109 #[.val (.ref p0), .val (.int p1), .val (.int (fnTok wm)), .val (.int (wo ||| ((1 : Int32) <<< (p1 &&& 31)))), .val (.ref aL), .val (.int (8 : Int32)), .val (.int (4 : Int32)), .val (.int (73 : Int32))] [])) (fun t k => XS.icmpNo X51.here hx rfl (hb hby d4_106) rfl (tlt (by decide : (4 : Int32) < (8 : Int32))).2.1 k) ?_
            refine own_step (T' := T51) (g' := (mkF m 111 #[.val (.ref p0), .val (.int p1), .val (.int (fnTok wm)), .val (.int (wo ||| ((1 : Int32) <<< (p1 &&& 31)))), .val (.ref aL), .val (.int (8 : Int32)), .val (.int (4 : Int32)), .val (.int (73 : Int32))] [(.ref aL)])) (fun t k => XS.aload X51.here hx rfl (hb hby d4_109) rfl rfl k) ?_
            refine own_step (T' := T51) (g' := (mkF m 113 #[.val (.ref p0), .val (.int p1), .val (.int (fnTok wm)), .val (.int (wo ||| ((1 : Int32) <<< (p1 &&& 31)))), .val (.ref aL), .val (.int (8 : Int32)), .val (.int (4 : Int32)), .val (.int (73 : Int32))] [(.int (4 : Int32)), (.ref aL)])) (fun t k => XS.iload X51.here hx rfl (hb hby d4_111) rfl k) ?_
            obtain ⟨cl69, Ar69, q69, Sz69, Nn69, Hh69, Gg69⟩ := id V_aL_50
            have hin69 : ¬ ((4 : Int32) < 0 ∨ cl69.slots.size ≤ ((4 : Int32)).toNatClampNeg) := inb_of Sz69 ⟨by decide, by decide⟩
            refine own_step (T' := T51) (g' := (mkF m 114 #[.val (.ref p0), .val (.int p1), .val (.int (fnTok wm)), .val (.int (wo ||| ((1 : Int32) <<< (p1 &&& 31)))), .val (.ref aL), .val (.int (8 : Int32)), .val (.int (4 : Int32)), .val (.int (73 : Int32))] [(.int (146 : Int32))])) (fun t k => X51.iaload hx (j := (4 : Int32)) (v := (.int (146 : Int32))) (by rw [e51]; exact Ar69.1) (State.isArrayOf_alike hZ.alike Ar69.2.1) Ar69.2.2 hin69 (Has.at Hh69 hin69 rfl) (g := (mkF m 113 #[.val (.ref p0), .val (.int p1), .val (.int (fnTok wm)), .val (.int (wo ||| ((1 : Int32) <<< (p1 &&& 31)))), .val (.ref aL), .val (.int (8 : Int32)), .val (.int (4 : Int32)), .val (.int (73 : Int32))] [(.int (4 : Int32)), (.ref aL)])) rfl rfl (hb hby d4_113) t k) ?_
            refine own_step (T' := T51) (g' := (mkF m 116 #[.val (.ref p0), .val (.int p1), .val (.int (fnTok wm)), .val (.int (wo ||| ((1 : Int32) <<< (p1 &&& 31)))), .val (.ref aL), .val (.int (8 : Int32)), .val (.int (4 : Int32)), .val (.int (146 : Int32))] [])) (fun t k => XS.istore X51.here hx rfl (hb hby d4_114) rfl (l' := #[.val (.ref p0), .val (.int p1), .val (.int (fnTok wm)), .val (.int (wo ||| ((1 : Int32) <<< (p1 &&& 31)))), .val (.ref aL), .val (.int (8 : Int32)), .val (.int (4 : Int32)), .val (.int (146 : Int32))]) rfl k) ?_
            refine own_step (T' := T51) (g' := (mkF m 117 #[.val (.ref p0), .val (.int p1), .val (.int (fnTok wm)), .val (.int (wo ||| ((1 : Int32) <<< (p1 &&& 31)))), .val (.ref aL), .val (.int (8 : Int32)), .val (.int (4 : Int32)), .val (.int (146 : Int32))] [(.int (wo ||| ((1 : Int32) <<< (p1 &&& 31))))])) (fun t k => XS.iloadN X51.here hx rfl (hb hby d4_116) rfl k) ?_
            refine own_step (T' := T51) (g' := (mkF m 119 #[.val (.ref p0), .val (.int p1), .val (.int (fnTok wm)), .val (.int (wo ||| ((1 : Int32) <<< (p1 &&& 31)))), .val (.ref aL), .val (.int (8 : Int32)), .val (.int (4 : Int32)), .val (.int (146 : Int32))] [(.int (146 : Int32)), (.int (wo ||| ((1 : Int32) <<< (p1 &&& 31))))])) (fun t k => XS.iload X51.here hx rfl (hb hby d4_117) rfl k) ?_
            refine own_step (T' := T51) (g' := (mkF m 120 #[.val (.ref p0), .val (.int p1), .val (.int (fnTok wm)), .val (.int (wo ||| ((1 : Int32) <<< (p1 &&& 31)))), .val (.ref aL), .val (.int (8 : Int32)), .val (.int (4 : Int32)), .val (.int (146 : Int32))] [(.int ((wo ||| ((1 : Int32) <<< (p1 &&& 31))) &&& (146 : Int32)))])) (fun t k => XS.iand X51.here hx rfl (hb hby d4_119) rfl k) ?_
            refine own_step (T' := T51) (g' := (mkF m 122 #[.val (.ref p0), .val (.int p1), .val (.int (fnTok wm)), .val (.int (wo ||| ((1 : Int32) <<< (p1 &&& 31)))), .val (.ref aL), .val (.int (8 : Int32)), .val (.int (4 : Int32)), .val (.int (146 : Int32))] [(.int (146 : Int32)), (.int ((wo ||| ((1 : Int32) <<< (p1 &&& 31))) &&& (146 : Int32)))])) (fun t k => XS.iload X51.here hx rfl (hb hby d4_120) rfl k) ?_
            by_cases hc122_70 : ((wo ||| ((1 : Int32) <<< (p1 &&& 31))) &&& (146 : Int32)) = (146 : Int32)
            · refine own_step (T' := T51) (g' := (mkF m 125 #[.val (.ref p0), .val (.int p1), .val (.int (fnTok wm)), .val (.int (wo ||| ((1 : Int32) <<< (p1 &&& 31)))), .val (.ref aL), .val (.int (8 : Int32)), .val (.int (4 : Int32)), .val (.int (146 : Int32))] [])) (fun t k => XS.icmpNo X51.here hx rfl (hb hby d4_122) rfl (teq hc122_70).2 k) ?_
              refine own_step (T' := T51) (g' := (mkF m 126 #[.val (.ref p0), .val (.int p1), .val (.int (fnTok wm)), .val (.int (wo ||| ((1 : Int32) <<< (p1 &&& 31)))), .val (.ref aL), .val (.int (8 : Int32)), .val (.int (4 : Int32)), .val (.int (146 : Int32))] [(.ref p0)])) (fun t k => XS.aloadN X51.here hx rfl (hb hby d4_125) rfl rfl k) ?_
              refine own_step (T' := T51) (g' := (mkF m 127 #[.val (.ref p0), .val (.int p1), .val (.int (fnTok wm)), .val (.int (wo ||| ((1 : Int32) <<< (p1 &&& 31)))), .val (.ref aL), .val (.int (8 : Int32)), .val (.int (4 : Int32)), .val (.int (146 : Int32))] [(.int (fnTok wm)), (.ref p0)])) (fun t k => XS.iloadN X51.here hx rfl (hb hby d4_126) rfl k) ?_
              obtain ⟨T71, h71, X71, e71, W71, st71⟩ := putFN X51 hx hZ hown (hw _ (List.mem_of_getElem? (i := 11) rfl)) Via.refl e51 F_winner_p0_50 E_p0_50 (Or.inl (hw _ (List.mem_of_getElem? (i := 12) rfl))) (hw _ (List.mem_of_getElem? (i := 1) rfl)) (ty := .char) (v' := (.int (nar .char (fnTok wm)))) (by decide) rfl (fits_nar_char (fnTok wm)) (g := (mkF m 127 #[.val (.ref p0), .val (.int p1), .val (.int (fnTok wm)), .val (.int (wo ||| ((1 : Int32) <<< (p1 &&& 31)))), .val (.ref aL), .val (.int (8 : Int32)), .val (.int (4 : Int32)), .val (.int (146 : Int32))] [(.int (fnTok wm)), (.ref p0)])) rfl rfl (hb hby d4_127)
              have E_p0_71 : Exa Z h71 p0 "com/example/tilescript/tilescript/TicTacToe" := E_p0_50.wr W71
              have F_xCells_p0_71 : Fld Z h71 p0 "com/example/tilescript/tilescript/TicTacToe" "xCells" "I" (.int wx) := F_xCells_p0_50.other W71 (Or.inr (slot_ne (Or.inl (hw _ (List.mem_of_getElem? (i := 37) rfl))) (Or.inl (hw _ (List.mem_of_getElem? (i := 12) rfl))) (by decide) (t := .int) (t' := .char) (by decide) (by decide)))
              have S_LINES_71 : Sta Z h71 "com/example/tilescript/tilescript/TicTacToe" "LINES" "[I" (.ref aL) := S_LINES_50.wr W71
              have V_aL_71 : Arv Z h71 aL kL .int (8 : Int32) [(.int (7 : Int32)), (.int (56 : Int32)), (.int (448 : Int32)), (.int (73 : Int32)), (.int (146 : Int32)), (.int (292 : Int32)), (.int (273 : Int32)), (.int (84 : Int32))] (.int (0 : Int32)) := V_aL_50.other W71 neL
              have F_oCells_p0_71 : Fld Z h71 p0 "com/example/tilescript/tilescript/TicTacToe" "oCells" "I" (.int (wo ||| ((1 : Int32) <<< (p1 &&& 31)))) := F_oCells_p0_50.other W71 (Or.inr (slot_ne (Or.inl (hw _ (List.mem_of_getElem? (i := 39) rfl))) (Or.inl (hw _ (List.mem_of_getElem? (i := 12) rfl))) (by decide) (t := .int) (t' := .char) (by decide) (by decide)))
              have F_marks_p0_71 : Fld Z h71 p0 "com/example/tilescript/tilescript/TicTacToe" "marks" "I" (.int (wm + (1 : Int32))) := F_marks_p0_50.other W71 (Or.inr (slot_ne (Or.inl (hw _ (List.mem_of_getElem? (i := 35) rfl))) (Or.inl (hw _ (List.mem_of_getElem? (i := 12) rfl))) (by decide) (t := .int) (t' := .char) (by decide) (by decide)))
              have F_lastMove_p0_71 : Fld Z h71 p0 "com/example/tilescript/tilescript/TicTacToe" "lastMove" "I" (.int p1) := F_lastMove_p0_50.other W71 (Or.inr (slot_ne (Or.inl (hw _ (List.mem_of_getElem? (i := 10) rfl))) (Or.inl (hw _ (List.mem_of_getElem? (i := 12) rfl))) (by decide) (t := .int) (t' := .char) (by decide) (by decide)))
              have K_71 : Keep h0 h71 [p0] := K_50.wr W71 (Or.inl (List.mem_of_getElem? (i := 0) rfl))
              have N71 := Fr.snoc X71 N50 g_p0
              have F_winner_p0_71 : Fld Z h71 p0 "com/example/tilescript/tilescript/TicTacToe" "winner" "C" (.int (nar .char (fnTok wm))) := F_winner_p0_50.same W71
              refine own_step (T' := T71) (g' := (mkF m 130 #[.val (.ref p0), .val (.int p1), .val (.int (fnTok wm)), .val (.int (wo ||| ((1 : Int32) <<< (p1 &&& 31)))), .val (.ref aL), .val (.int (8 : Int32)), .val (.int (4 : Int32)), .val (.int (146 : Int32))] [])) st71 ?_
              refine own_retV X71 hx hlk Bd.returns (hb hby d4_130) (by decide) (by decide) ?_
              rw [e71]
              exact ⟨wx, (wo ||| ((1 : Int32) <<< (p1 &&& 31))), (nar .char (fnTok wm)), rfl, N71, K_71, F_xCells_p0_71, F_oCells_p0_71, F_marks_p0_71, F_winner_p0_71, F_lastMove_p0_71, Or.inr ⟨hc34_3, rfl, rfl, (by unfold own_wn; rw [if_neg hc122_54, if_neg hc122_58, if_neg hc122_62, if_neg hc122_66, if_pos hc122_70])⟩⟩
            · refine own_step (T' := T51) (g' := (mkF m 131 #[.val (.ref p0), .val (.int p1), .val (.int (fnTok wm)), .val (.int (wo ||| ((1 : Int32) <<< (p1 &&& 31)))), .val (.ref aL), .val (.int (8 : Int32)), .val (.int (4 : Int32)), .val (.int (146 : Int32))] [])) (fun t k => XS.icmpYes X51.here hx rfl (pc0 := 122) (pc' := 131) rfl (hb hby d4_122) rfl (feq hc122_70).2 (by decide) (by decide) k) ?_
              refine own_step (T' := T51) (g' := (mkF m 134 #[.val (.ref p0), .val (.int p1), .val (.int (fnTok wm)), .val (.int (wo ||| ((1 : Int32) <<< (p1 &&& 31)))), .val (.ref aL), .val (.int (8 : Int32)), .val (.int (5 : Int32)), .val (.int (146 : Int32))] [])) (fun t k => XS.iinc X51.here hx rfl (hb hby d4_131) rfl (l' := #[.val (.ref p0), .val (.int p1), .val (.int (fnTok wm)), .val (.int (wo ||| ((1 : Int32) <<< (p1 &&& 31)))), .val (.ref aL), .val (.int (8 : Int32)), .val (.int (5 : Int32)), .val (.int (146 : Int32))]) rfl k) ?_
              refine own_step (T' := T51) (g' := (mkF m 102 #[.val (.ref p0), .val (.int p1), .val (.int (fnTok wm)), .val (.int (wo ||| ((1 : Int32) <<< (p1 &&& 31)))), .val (.ref aL), .val (.int (8 : Int32)), .val (.int (5 : Int32)), .val (.int (146 : Int32))] [])) (fun t k => XS.goto X51.here hx rfl (pc0 := 134) (pc' := 102) rfl (hb hby d4_134) (by decide) (by decide) k) ?_
              refine own_step (T' := T51) (g' := (mkF m 104 #[.val (.ref p0), .val (.int p1), .val (.int (fnTok wm)), .val (.int (wo ||| ((1 : Int32) <<< (p1 &&& 31)))), .val (.ref aL), .val (.int (8 : Int32)), .val (.int (5 : Int32)), .val (.int (146 : Int32))] [(.int (5 : Int32))])) (fun t k => XS.iload X51.here hx rfl (hb hby d4_102) rfl k) ?_
              refine own_step (T' := T51) (g' := (mkF m 106 #[.val (.ref p0), .val (.int p1), .val (.int (fnTok wm)), .val (.int (wo ||| ((1 : Int32) <<< (p1 &&& 31)))), .val (.ref aL), .val (.int (8 : Int32)), .val (.int (5 : Int32)), .val (.int (146 : Int32))] [(.int (8 : Int32)), (.int (5 : Int32))])) (fun t k => XS.iload X51.here hx rfl (hb hby d4_104) rfl k) ?_
              refine own_step (T' := T51) (g' := (mkF m 109 #[.val (.ref p0), .val (.int p1), .val (.int (fnTok wm)), .val (.int (wo ||| ((1 : Int32) <<< (p1 &&& 31)))), .val (.ref aL), .val (.int (8 : Int32)), .val (.int (5 : Int32)), .val (.int (146 : Int32))] [])) (fun t k => XS.icmpNo X51.here hx rfl (hb hby d4_106) rfl (tlt (by decide : (5 : Int32) < (8 : Int32))).2.1 k) ?_
              refine own_step (T' := T51) (g' := (mkF m 111 #[.val (.ref p0), .val (.int p1), .val (.int (fnTok wm)), .val (.int (wo ||| ((1 : Int32) <<< (p1 &&& 31)))), .val (.ref aL), .val (.int (8 : Int32)), .val (.int (5 : Int32)), .val (.int (146 : Int32))] [(.ref aL)])) (fun t k => XS.aload X51.here hx rfl (hb hby d4_109) rfl rfl k) ?_
              refine own_step (T' := T51) (g' := (mkF m 113 #[.val (.ref p0), .val (.int p1), .val (.int (fnTok wm)), .val (.int (wo ||| ((1 : Int32) <<< (p1 &&& 31)))), .val (.ref aL), .val (.int (8 : Int32)), .val (.int (5 : Int32)), .val (.int (146 : Int32))] [(.int (5 : Int32)), (.ref aL)])) (fun t k => XS.iload X51.here hx rfl (hb hby d4_111) rfl k) ?_
              obtain ⟨cl73, Ar73, q73, Sz73, Nn73, Hh73, Gg73⟩ := id V_aL_50
              have hin73 : ¬ ((5 : Int32) < 0 ∨ cl73.slots.size ≤ ((5 : Int32)).toNatClampNeg) := inb_of Sz73 ⟨by decide, by decide⟩
              refine own_step (T' := T51) (g' := (mkF m 114 #[.val (.ref p0), .val (.int p1), .val (.int (fnTok wm)), .val (.int (wo ||| ((1 : Int32) <<< (p1 &&& 31)))), .val (.ref aL), .val (.int (8 : Int32)), .val (.int (5 : Int32)), .val (.int (146 : Int32))] [(.int (292 : Int32))])) (fun t k => X51.iaload hx (j := (5 : Int32)) (v := (.int (292 : Int32))) (by rw [e51]; exact Ar73.1) (State.isArrayOf_alike hZ.alike Ar73.2.1) Ar73.2.2 hin73 (Has.at Hh73 hin73 rfl) (g := (mkF m 113 #[.val (.ref p0), .val (.int p1), .val (.int (fnTok wm)), .val (.int (wo ||| ((1 : Int32) <<< (p1 &&& 31)))), .val (.ref aL), .val (.int (8 : Int32)), .val (.int (5 : Int32)), .val (.int (146 : Int32))] [(.int (5 : Int32)), (.ref aL)])) rfl rfl (hb hby d4_113) t k) ?_
              refine own_step (T' := T51) (g' := (mkF m 116 #[.val (.ref p0), .val (.int p1), .val (.int (fnTok wm)), .val (.int (wo ||| ((1 : Int32) <<< (p1 &&& 31)))), .val (.ref aL), .val (.int (8 : Int32)), .val (.int (5 : Int32)), .val (.int (292 : Int32))] [])) (fun t k => XS.istore X51.here hx rfl (hb hby d4_114) rfl (l' := #[.val (.ref p0), .val (.int p1), .val (.int (fnTok wm)), .val (.int (wo ||| ((1 : Int32) <<< (p1 &&& 31)))), .val (.ref aL), .val (.int (8 : Int32)), .val (.int (5 : Int32)), .val (.int (292 : Int32))]) rfl k) ?_
              refine own_step (T' := T51) (g' := (mkF m 117 #[.val (.ref p0), .val (.int p1), .val (.int (fnTok wm)), .val (.int (wo ||| ((1 : Int32) <<< (p1 &&& 31)))), .val (.ref aL), .val (.int (8 : Int32)), .val (.int (5 : Int32)), .val (.int (292 : Int32))] [(.int (wo ||| ((1 : Int32) <<< (p1 &&& 31))))])) (fun t k => XS.iloadN X51.here hx rfl (hb hby d4_116) rfl k) ?_
              refine own_step (T' := T51) (g' := (mkF m 119 #[.val (.ref p0), .val (.int p1), .val (.int (fnTok wm)), .val (.int (wo ||| ((1 : Int32) <<< (p1 &&& 31)))), .val (.ref aL), .val (.int (8 : Int32)), .val (.int (5 : Int32)), .val (.int (292 : Int32))] [(.int (292 : Int32)), (.int (wo ||| ((1 : Int32) <<< (p1 &&& 31))))])) (fun t k => XS.iload X51.here hx rfl (hb hby d4_117) rfl k) ?_
              refine own_step (T' := T51) (g' := (mkF m 120 #[.val (.ref p0), .val (.int p1), .val (.int (fnTok wm)), .val (.int (wo ||| ((1 : Int32) <<< (p1 &&& 31)))), .val (.ref aL), .val (.int (8 : Int32)), .val (.int (5 : Int32)), .val (.int (292 : Int32))] [(.int ((wo ||| ((1 : Int32) <<< (p1 &&& 31))) &&& (292 : Int32)))])) (fun t k => XS.iand X51.here hx rfl (hb hby d4_119) rfl k) ?_
              refine own_step (T' := T51) (g' := (mkF m 122 #[.val (.ref p0), .val (.int p1), .val (.int (fnTok wm)), .val (.int (wo ||| ((1 : Int32) <<< (p1 &&& 31)))), .val (.ref aL), .val (.int (8 : Int32)), .val (.int (5 : Int32)), .val (.int (292 : Int32))] [(.int (292 : Int32)), (.int ((wo ||| ((1 : Int32) <<< (p1 &&& 31))) &&& (292 : Int32)))])) (fun t k => XS.iload X51.here hx rfl (hb hby d4_120) rfl k) ?_
              by_cases hc122_74 : ((wo ||| ((1 : Int32) <<< (p1 &&& 31))) &&& (292 : Int32)) = (292 : Int32)
              · refine own_step (T' := T51) (g' := (mkF m 125 #[.val (.ref p0), .val (.int p1), .val (.int (fnTok wm)), .val (.int (wo ||| ((1 : Int32) <<< (p1 &&& 31)))), .val (.ref aL), .val (.int (8 : Int32)), .val (.int (5 : Int32)), .val (.int (292 : Int32))] [])) (fun t k => XS.icmpNo X51.here hx rfl (hb hby d4_122) rfl (teq hc122_74).2 k) ?_
                refine own_step (T' := T51) (g' := (mkF m 126 #[.val (.ref p0), .val (.int p1), .val (.int (fnTok wm)), .val (.int (wo ||| ((1 : Int32) <<< (p1 &&& 31)))), .val (.ref aL), .val (.int (8 : Int32)), .val (.int (5 : Int32)), .val (.int (292 : Int32))] [(.ref p0)])) (fun t k => XS.aloadN X51.here hx rfl (hb hby d4_125) rfl rfl k) ?_
                refine own_step (T' := T51) (g' := (mkF m 127 #[.val (.ref p0), .val (.int p1), .val (.int (fnTok wm)), .val (.int (wo ||| ((1 : Int32) <<< (p1 &&& 31)))), .val (.ref aL), .val (.int (8 : Int32)), .val (.int (5 : Int32)), .val (.int (292 : Int32))] [(.int (fnTok wm)), (.ref p0)])) (fun t k => XS.iloadN X51.here hx rfl (hb hby d4_126) rfl k) ?_
                obtain ⟨T75, h75, X75, e75, W75, st75⟩ := putFN X51 hx hZ hown (hw _ (List.mem_of_getElem? (i := 11) rfl)) Via.refl e51 F_winner_p0_50 E_p0_50 (Or.inl (hw _ (List.mem_of_getElem? (i := 12) rfl))) (hw _ (List.mem_of_getElem? (i := 1) rfl)) (ty := .char) (v' := (.int (nar .char (fnTok wm)))) (by decide) rfl (fits_nar_char (fnTok wm)) (g := (mkF m 127 #[.val (.ref p0), .val (.int p1), .val (.int (fnTok wm)), .val (.int (wo ||| ((1 : Int32) <<< (p1 &&& 31)))), .val (.ref aL), .val (.int (8 : Int32)), .val (.int (5 : Int32)), .val (.int (292 : Int32))] [(.int (fnTok wm)), (.ref p0)])) rfl rfl (hb hby d4_127)
                have E_p0_75 : Exa Z h75 p0 "com/example/tilescript/tilescript/TicTacToe" := E_p0_50.wr W75
                have F_xCells_p0_75 : Fld Z h75 p0 "com/example/tilescript/tilescript/TicTacToe" "xCells" "I" (.int wx) := F_xCells_p0_50.other W75 (Or.inr (slot_ne (Or.inl (hw _ (List.mem_of_getElem? (i := 37) rfl))) (Or.inl (hw _ (List.mem_of_getElem? (i := 12) rfl))) (by decide) (t := .int) (t' := .char) (by decide) (by decide)))
                have S_LINES_75 : Sta Z h75 "com/example/tilescript/tilescript/TicTacToe" "LINES" "[I" (.ref aL) := S_LINES_50.wr W75
                have V_aL_75 : Arv Z h75 aL kL .int (8 : Int32) [(.int (7 : Int32)), (.int (56 : Int32)), (.int (448 : Int32)), (.int (73 : Int32)), (.int (146 : Int32)), (.int (292 : Int32)), (.int (273 : Int32)), (.int (84 : Int32))] (.int (0 : Int32)) := V_aL_50.other W75 neL
                have F_oCells_p0_75 : Fld Z h75 p0 "com/example/tilescript/tilescript/TicTacToe" "oCells" "I" (.int (wo ||| ((1 : Int32) <<< (p1 &&& 31)))) := F_oCells_p0_50.other W75 (Or.inr (slot_ne (Or.inl (hw _ (List.mem_of_getElem? (i := 39) rfl))) (Or.inl (hw _ (List.mem_of_getElem? (i := 12) rfl))) (by decide) (t := .int) (t' := .char) (by decide) (by decide)))
                have F_marks_p0_75 : Fld Z h75 p0 "com/example/tilescript/tilescript/TicTacToe" "marks" "I" (.int (wm + (1 : Int32))) := F_marks_p0_50.other W75 (Or.inr (slot_ne (Or.inl (hw _ (List.mem_of_getElem? (i := 35) rfl))) (Or.inl (hw _ (List.mem_of_getElem? (i := 12) rfl))) (by decide) (t := .int) (t' := .char) (by decide) (by decide)))
                have F_lastMove_p0_75 : Fld Z h75 p0 "com/example/tilescript/tilescript/TicTacToe" "lastMove" "I" (.int p1) := F_lastMove_p0_50.other W75 (Or.inr (slot_ne (Or.inl (hw _ (List.mem_of_getElem? (i := 10) rfl))) (Or.inl (hw _ (List.mem_of_getElem? (i := 12) rfl))) (by decide) (t := .int) (t' := .char) (by decide) (by decide)))
                have K_75 : Keep h0 h75 [p0] := K_50.wr W75 (Or.inl (List.mem_of_getElem? (i := 0) rfl))
                have N75 := Fr.snoc X75 N50 g_p0
                have F_winner_p0_75 : Fld Z h75 p0 "com/example/tilescript/tilescript/TicTacToe" "winner" "C" (.int (nar .char (fnTok wm))) := F_winner_p0_50.same W75
                refine own_step (T' := T75) (g' := (mkF m 130 #[.val (.ref p0), .val (.int p1), .val (.int (fnTok wm)), .val (.int (wo ||| ((1 : Int32) <<< (p1 &&& 31)))), .val (.ref aL), .val (.int (8 : Int32)), .val (.int (5 : Int32)), .val (.int (292 : Int32))] [])) st75 ?_
                refine own_retV X75 hx hlk Bd.returns (hb hby d4_130) (by decide) (by decide) ?_
                rw [e75]
                exact ⟨wx, (wo ||| ((1 : Int32) <<< (p1 &&& 31))), (nar .char (fnTok wm)), rfl, N75, K_75, F_xCells_p0_75, F_oCells_p0_75, F_marks_p0_75, F_winner_p0_75, F_lastMove_p0_75, Or.inr ⟨hc34_3, rfl, rfl, (by unfold own_wn; rw [if_neg hc122_54, if_neg hc122_58, if_neg hc122_62, if_neg hc122_66, if_neg hc122_70, if_pos hc122_74])⟩⟩
              · refine own_step (T' := T51) (g' := (mkF m 131 #[.val (.ref p0), .val (.int p1), .val (.int (fnTok wm)), .val (.int (wo ||| ((1 : Int32) <<< (p1 &&& 31)))), .val (.ref aL), .val (.int (8 : Int32)), .val (.int (5 : Int32)), .val (.int (292 : Int32))] [])) (fun t k => XS.icmpYes X51.here hx rfl (pc0 := 122) (pc' := 131) rfl (hb hby d4_122) rfl (feq hc122_74).2 (by decide) (by decide) k) ?_
                refine own_step (T' := T51) (g' := (mkF m 134 #[.val (.ref p0), .val (.int p1), .val (.int (fnTok wm)), .val (.int (wo ||| ((1 : Int32) <<< (p1 &&& 31)))), .val (.ref aL), .val (.int (8 : Int32)), .val (.int (6 : Int32)), .val (.int (292 : Int32))] [])) (fun t k => XS.iinc X51.here hx rfl (hb hby d4_131) rfl (l' := #[.val (.ref p0), .val (.int p1), .val (.int (fnTok wm)), .val (.int (wo ||| ((1 : Int32) <<< (p1 &&& 31)))), .val (.ref aL), .val (.int (8 : Int32)), .val (.int (6 : Int32)), .val (.int (292 : Int32))]) rfl k) ?_
                refine own_step (T' := T51) (g' := (mkF m 102 #[.val (.ref p0), .val (.int p1), .val (.int (fnTok wm)), .val (.int (wo ||| ((1 : Int32) <<< (p1 &&& 31)))), .val (.ref aL), .val (.int (8 : Int32)), .val (.int (6 : Int32)), .val (.int (292 : Int32))] [])) (fun t k => XS.goto X51.here hx rfl (pc0 := 134) (pc' := 102) rfl (hb hby d4_134) (by decide) (by decide) k) ?_
                refine own_step (T' := T51) (g' := (mkF m 104 #[.val (.ref p0), .val (.int p1), .val (.int (fnTok wm)), .val (.int (wo ||| ((1 : Int32) <<< (p1 &&& 31)))), .val (.ref aL), .val (.int (8 : Int32)), .val (.int (6 : Int32)), .val (.int (292 : Int32))] [(.int (6 : Int32))])) (fun t k => XS.iload X51.here hx rfl (hb hby d4_102) rfl k) ?_
                refine own_step (T' := T51) (g' := (mkF m 106 #[.val (.ref p0), .val (.int p1), .val (.int (fnTok wm)), .val (.int (wo ||| ((1 : Int32) <<< (p1 &&& 31)))), .val (.ref aL), .val (.int (8 : Int32)), .val (.int (6 : Int32)), .val (.int (292 : Int32))] [(.int (8 : Int32)), (.int (6 : Int32))])) (fun t k => XS.iload X51.here hx rfl (hb hby d4_104) rfl k) ?_
                refine own_step (T' := T51) (g' := (mkF m 109 #[.val (.ref p0), .val (.int p1), .val (.int (fnTok wm)), .val (.int (wo ||| ((1 : Int32) <<< (p1 &&& 31)))), .val (.ref aL), .val (.int (8 : Int32)), .val (.int (6 : Int32)), .val (.int (292 : Int32))] [])) (fun t k => XS.icmpNo X51.here hx rfl (hb hby d4_106) rfl (tlt (by decide : (6 : Int32) < (8 : Int32))).2.1 k) ?_
                refine own_step (T' := T51) (g' := (mkF m 111 #[.val (.ref p0), .val (.int p1), .val (.int (fnTok wm)), .val (.int (wo ||| ((1 : Int32) <<< (p1 &&& 31)))), .val (.ref aL), .val (.int (8 : Int32)), .val (.int (6 : Int32)), .val (.int (292 : Int32))] [(.ref aL)])) (fun t k => XS.aload X51.here hx rfl (hb hby d4_109) rfl rfl k) ?_
                refine own_step (T' := T51) (g' := (mkF m 113 #[.val (.ref p0), .val (.int p1), .val (.int (fnTok wm)), .val (.int (wo ||| ((1 : Int32) <<< (p1 &&& 31)))), .val (.ref aL), .val (.int (8 : Int32)), .val (.int (6 : Int32)), .val (.int (292 : Int32))] [(.int (6 : Int32)), (.ref aL)])) (fun t k => XS.iload X51.here hx rfl (hb hby d4_111) rfl k) ?_
                obtain ⟨cl77, Ar77, q77, Sz77, Nn77, Hh77, Gg77⟩ := id V_aL_50
                have hin77 : ¬ ((6 : Int32) < 0 ∨ cl77.slots.size ≤ ((6 : Int32)).toNatClampNeg) := inb_of Sz77 ⟨by decide, by decide⟩
                refine own_step (T' := T51) (g' := (mkF m 114 #[.val (.ref p0), .val (.int p1), .val (.int (fnTok wm)), .val (.int (wo ||| ((1 : Int32) <<< (p1 &&& 31)))), .val (.ref aL), .val (.int (8 : Int32)), .val (.int (6 : Int32)), .val (.int (292 : Int32))] [(.int (273 : Int32))])) (fun t k => X51.iaload hx (j := (6 : Int32)) (v := (.int (273 : Int32))) (by rw [e51]; exact Ar77.1) (State.isArrayOf_alike hZ.alike Ar77.2.1) Ar77.2.2 hin77 (Has.at Hh77 hin77 rfl) (g := (mkF m 113 #[.val (.ref p0), .val (.int p1), .val (.int (fnTok wm)), .val (.int (wo ||| ((1 : Int32) <<< (p1 &&& 31)))), .val (.ref aL), .val (.int (8 : Int32)), .val (.int (6 : Int32)), .val (.int (292 : Int32))] [(.int (6 : Int32)), (.ref aL)])) rfl rfl (hb hby d4_113) t k) ?_
                refine own_step (T' := T51) (g' := (mkF m 116 #[.val (.ref p0), .val (.int p1), .val (.int (fnTok wm)), .val (.int (wo ||| ((1 : Int32) <<< (p1 &&& 31)))), .val (.ref aL), .val (.int (8 : Int32)), .val (.int (6 : Int32)), .val (.int (273 : Int32))] [])) (fun t k => XS.istore X51.here hx rfl (hb hby d4_114) rfl (l' := #[.val (.ref p0), .val (.int p1), .val (.int (fnTok wm)), .val (.int (wo ||| ((1 : Int32) <<< (p1 &&& 31)))), .val (.ref aL), .val (.int (8 : Int32)), .val (.int (6 : Int32)), .val (.int (273 : Int32))]) rfl k) ?_
                refine own_step (T' := T51) (g' := (mkF m 117 #[.val (.ref p0), .val (.int p1), .val (.int (fnTok wm)), .val (.int (wo ||| ((1 : Int32) <<< (p1 &&& 31)))), .val (.ref aL), .val (.int (8 : Int32)), .val (.int (6 : Int32)), .val (.int (273 : Int32))] [(.int (wo ||| ((1 : Int32) <<< (p1 &&& 31))))])) (fun t k => XS.iloadN X51.here hx rfl (hb hby d4_116) rfl k) ?_
                refine own_step (T' := T51) (g' := (mkF m 119 #[.val (.ref p0), .val (.int p1), .val (.int (fnTok wm)), .val (.int (wo ||| ((1 : Int32) <<< (p1 &&& 31)))), .val (.ref aL), .val (.int (8 : Int32)), .val (.int (6 : Int32)), .val (.int (273 : Int32))] [(.int (273 : Int32)), (.int (wo ||| ((1 : Int32) <<< (p1 &&& 31))))])) (fun t k => XS.iload X51.here hx rfl (hb hby d4_117) rfl k) ?_
                refine own_step (T' := T51) (g' := (mkF m 120 #[.val (.ref p0), .val (.int p1), .val (.int (fnTok wm)), .val (.int (wo ||| ((1 : Int32) <<< (p1 &&& 31)))), .val (.ref aL), .val (.int (8 : Int32)), .val (.int (6 : Int32)), .val (.int (273 : Int32))] [(.int ((wo ||| ((1 : Int32) <<< (p1 &&& 31))) &&& (273 : Int32)))])) (fun t k => XS.iand X51.here hx rfl (hb hby d4_119) rfl k) ?_
                refine own_step (T' := T51) (g' := (mkF m 122 #[.val (.ref p0), .val (.int p1), .val (.int (fnTok wm)), .val (.int (wo ||| ((1 : Int32) <<< (p1 &&& 31)))), .val (.ref aL), .val (.int (8 : Int32)), .val (.int (6 : Int32)), .val (.int (273 : Int32))] [(.int (273 : Int32)), (.int ((wo ||| ((1 : Int32) <<< (p1 &&& 31))) &&& (273 : Int32)))])) (fun t k => XS.iload X51.here hx rfl (hb hby d4_120) rfl k) ?_
                by_cases hc122_78 : ((wo ||| ((1 : Int32) <<< (p1 &&& 31))) &&& (273 : Int32)) = (273 : Int32)
                · refine own_step (T' := T51) (g' := (mkF m 125 #[.val (.ref p0), .val (.int p1), .val (.int (fnTok wm)), .val (.int (wo ||| ((1 : Int32) <<< (p1 &&& 31)))), .val (.ref aL), .val (.int (8 : Int32)), .val (.int (6 : Int32)), .val (.int (273 : Int32))] [])) (fun t k => XS.icmpNo X51.here hx rfl (hb hby d4_122) rfl (teq hc122_78).2 k) ?_
                  refine own_step (T' := T51) (g' := (mkF m 126 #[.val (.ref p0), .val (.int p1), .val (.int (fnTok wm)), .val (.int (wo ||| ((1 : Int32) <<< (p1 &&& 31)))), .val (.ref aL), .val (.int (8 : Int32)), .val (.int (6 : Int32)), .val (.int (273 : Int32))] [(.ref p0)])) (fun t k => XS.aloadN X51.here hx rfl (hb hby d4_125) rfl rfl k) ?_
                  refine own_step (T' := T51) (g' := (mkF m 127 #[.val (.ref p0), .val (.int p1), .val (.int (fnTok wm)), .val (.int (wo ||| ((1 : Int32) <<< (p1 &&& 31)))), .val (.ref aL), .val (.int (8 : Int32)), .val (.int (6 : Int32)), .val (.int (273 : Int32))] [(.int (fnTok wm)), (.ref p0)])) (fun t k => XS.iloadN X51.here hx rfl (hb hby d4_126) rfl k) ?_
                  obtain ⟨T79, h79, X79, e79, W79, st79⟩ := putFN X51 hx hZ hown (hw _ (List.mem_of_getElem? (i := 11) rfl)) Via.refl e51 F_winner_p0_50 E_p0_50 (Or.inl (hw _ (List.mem_of_getElem? (i := 12) rfl))) (hw _ (List.mem_of_getElem? (i := 1) rfl)) (ty := .char) (v' := (.int (nar .char (fnTok wm)))) (by decide) rfl (fits_nar_char (fnTok wm)) (g := (mkF m 127 #[.val (.ref p0), .val (.int p1), .val (.int (fnTok wm)), .val (.int (wo ||| ((1 : Int32) <<< (p1 &&& 31)))), .val (.ref aL), .val (.int (8 : Int32)), .val (.int (6 : Int32)), .val (.int (273 : Int32))] [(.int (fnTok wm)), (.ref p0)])) rfl rfl (hb hby d4_127)
                  have E_p0_79 : Exa Z h79 p0 "com/example/tilescript/tilescript/TicTacToe" := E_p0_50.wr W79
                  have F_xCells_p0_79 : Fld Z h79 p0 "com/example/tilescript/tilescript/TicTacToe" "xCells" "I" (.int wx) := F_xCells_p0_50.other W79 (Or.inr (slot_ne (Or.inl (hw _ (List.mem_of_getElem? (i := 37) rfl))) (Or.inl (hw _ (List.mem_of_getElem? (i := 12) rfl))) (by decide) (t := .int) (t' := .char) (by decide) (by decide)))
                  have S_LINES_79 : Sta Z h79 "com/example/tilescript/tilescript/TicTacToe" "LINES" "[I" (.ref aL) := S_LINES_50.wr W79
                  have V_aL_79 : Arv Z h79 aL kL .int (8 : Int32) [(.int (7 : Int32)), (.int (56 : Int32)), (.int (448 : Int32)), (.int (73 : Int32)), (.int (146 : Int32)), (.int (292 : Int32)), (.int (273 : Int32)), (.int (84 : Int32))] (.int (0 : Int32)) := V_aL_50.other W79 neL
                  have F_oCells_p0_79 : Fld Z h79 p0 "com/example/tilescript/tilescript/TicTacToe" "oCells" "I" (.int (wo ||| ((1 : Int32) <<< (p1 &&& 31)))) := F_oCells_p0_50.other W79 (Or.inr (slot_ne (Or.inl (hw _ (List.mem_of_getElem? (i := 39) rfl))) (Or.inl (hw _ (List.mem_of_getElem? (i := 12) rfl))) (by decide) (t := .int) (t' := .char) (by decide) (by decide)))
                  have F_marks_p0_79 : Fld Z h79 p0 "com/example/tilescript/tilescript/TicTacToe" "marks" "I" (.int (wm + (1 : Int32))) := F_marks_p0_50.other W79 (Or.inr (slot_ne (Or.inl (hw _ (List.mem_of_getElem? (i := 35) rfl))) (Or.inl (hw _ (List.mem_of_getElem? (i := 12) rfl))) (by decide) (t := .int) (t' := .char) (by decide) (by decide)))
                  have F_lastMove_p0_79 : Fld Z h79 p0 "com/example/tilescript/tilescript/TicTacToe" "lastMove" "I" (.int p1) := F_lastMove_p0_50.other W79 (Or.inr (slot_ne (Or.inl (hw _ (List.mem_of_getElem? (i := 10) rfl))) (Or.inl (hw _ (List.mem_of_getElem? (i := 12) rfl))) (by decide) (t := .int) (t' := .char) (by decide) (by decide)))
                  have K_79 : Keep h0 h79 [p0] := K_50.wr W79 (Or.inl (List.mem_of_getElem? (i := 0) rfl))
                  have N79 := Fr.snoc X79 N50 g_p0
                  have F_winner_p0_79 : Fld Z h79 p0 "com/example/tilescript/tilescript/TicTacToe" "winner" "C" (.int (nar .char (fnTok wm))) := F_winner_p0_50.same W79
                  refine own_step (T' := T79) (g' := (mkF m 130 #[.val (.ref p0), .val (.int p1), .val (.int (fnTok wm)), .val (.int (wo ||| ((1 : Int32) <<< (p1 &&& 31)))), .val (.ref aL), .val (.int (8 : Int32)), .val (.int (6 : Int32)), .val (.int (273 : Int32))] [])) st79 ?_
                  refine own_retV X79 hx hlk Bd.returns (hb hby d4_130) (by decide) (by decide) ?_
                  rw [e79]
                  exact ⟨wx, (wo ||| ((1 : Int32) <<< (p1 &&& 31))), (nar .char (fnTok wm)), rfl, N79, K_79, F_xCells_p0_79, F_oCells_p0_79, F_marks_p0_79, F_winner_p0_79, F_lastMove_p0_79, Or.inr ⟨hc34_3, rfl, rfl, (by unfold own_wn; rw [if_neg hc122_54, if_neg hc122_58, if_neg hc122_62, if_neg hc122_66, if_neg hc122_70, if_neg hc122_74, if_pos hc122_78])⟩⟩
                · refine own_step (T' := T51) (g' := (mkF m 131 #[.val (.ref p0), .val (.int p1), .val (.int (fnTok wm)), .val (.int (wo ||| ((1 : Int32) <<< (p1 &&& 31)))), .val (.ref aL), .val (.int (8 : Int32)), .val (.int (6 : Int32)), .val (.int (273 : Int32))] [])) (fun t k => XS.icmpYes X51.here hx rfl (pc0 := 122) (pc' := 131) rfl (hb hby d4_122) rfl (feq hc122_78).2 (by decide) (by decide) k) ?_
                  refine own_step (T' := T51) (g' := (mkF m 134 #[.val (.ref p0), .val (.int p1), .val (.int (fnTok wm)), .val (.int (wo ||| ((1 : Int32) <<< (p1 &&& 31)))), .val (.ref aL), .val (.int (8 : Int32)), .val (.int (7 : Int32)), .val (.int (273 : Int32))] [])) (fun t k => XS.iinc X51.here hx rfl (hb hby d4_131) rfl (l' := #[.val (.ref p0), .val (.int p1), .val (.int (fnTok wm)), .val (.int (wo ||| ((1 : Int32) <<< (p1 &&& 31)))), .val (.ref aL), .val (.int (8 : Int32)), .val (.int (7 : Int32)), .val (.int (273 : Int32))]) rfl k) ?_
                  refine own_step (T' := T51) (g' := (mkF m 102 #[.val (.ref p0), .val (.int p1), .val (.int (fnTok wm)), .val (.int (wo ||| ((1 : Int32) <<< (p1 &&& 31)))), .val (.ref aL), .val (.int (8 : Int32)), .val (.int (7 : Int32)), .val (.int (273 : Int32))] [])) (fun t k => XS.goto X51.here hx rfl (pc0 := 134) (pc' := 102) rfl (hb hby d4_134) (by decide) (by decide) k) ?_
                  refine own_step (T' := T51) (g' := (mkF m 104 #[.val (.ref p0), .val (.int p1), .val (.int (fnTok wm)), .val (.int (wo ||| ((1 : Int32) <<< (p1 &&& 31)))), .val (.ref aL), .val (.int (8 : Int32)), .val (.int (7 : Int32)), .val (.int (273 : Int32))] [(.int (7 : Int32))])) (fun t k => XS.iload X51.here hx rfl (hb hby d4_102) rfl k) ?_
                  refine own_step (T' := T51) (g' := (mkF m 106 #[.val (.ref p0), .val (.int p1), .val (.int (fnTok wm)), .val (.int (wo ||| ((1 : Int32) <<< (p1 &&& 31)))), .val (.ref aL), .val (.int (8 : Int32)), .val (.int (7 : Int32)), .val (.int (273 : Int32))] [(.int (8 : Int32)), (.int (7 : Int32))])) (fun t k => XS.iload X51.here hx rfl (hb hby d4_104) rfl k) ?_
                  refine own_step (T' := T51) (g' := (mkF m 109 #[.val (.ref p0), .val (.int p1), .val (.int (fnTok wm)), .val (.int (wo ||| ((1 : Int32) <<< (p1 &&& 31)))), .val (.ref aL), .val (.int (8 : Int32)), .val (.int (7 : Int32)), .val (.int (273 : Int32))] [])) (fun t k => XS.icmpNo X51.here hx rfl (hb hby d4_106) rfl (tlt (by decide : (7 : Int32) < (8 : Int32))).2.1 k) ?_
                  refine own_step (T' := T51) (g' := (mkF m 111 #[.val (.ref p0), .val (.int p1), .val (.int (fnTok wm)), .val (.int (wo ||| ((1 : Int32) <<< (p1 &&& 31)))), .val (.ref aL), .val (.int (8 : Int32)), .val (.int (7 : Int32)), .val (.int (273 : Int32))] [(.ref aL)])) (fun t k => XS.aload X51.here hx rfl (hb hby d4_109) rfl rfl k) ?_
                  refine own_step (T' := T51) (g' := (mkF m 113 #[.val (.ref p0), .val (.int p1), .val (.int (fnTok wm)), .val (.int (wo ||| ((1 : Int32) <<< (p1 &&& 31)))), .val (.ref aL), .val (.int (8 : Int32)), .val (.int (7 : Int32)), .val (.int (273 : Int32))] [(.int (7 : Int32)), (.ref aL)])) (fun t k => XS.iload X51.here hx rfl (hb hby d4_111) rfl k) ?_
                  obtain ⟨cl81, Ar81, q81, Sz81, Nn81, Hh81, Gg81⟩ := id V_aL_50
                  have hin81 : ¬ ((7 : Int32) < 0 ∨ cl81.slots.size ≤ ((7 : Int32)).toNatClampNeg) := inb_of Sz81 ⟨by decide, by decide⟩
                  refine own_step (T' := T51) (g' := (mkF m 114 #[.val (.ref p0), .val (.int p1), .val (.int (fnTok wm)), .val (.int (wo ||| ((1 : Int32) <<< (p1 &&& 31)))), .val (.ref aL), .val (.int (8 : Int32)), .val (.int (7 : Int32)), .val (.int (273 : Int32))] [(.int (84 : Int32))])) (fun t k => X51.iaload hx (j := (7 : Int32)) (v := (.int (84 : Int32))) (by rw [e51]; exact Ar81.1) (State.isArrayOf_alike hZ.alike Ar81.2.1) Ar81.2.2 hin81 (Has.at Hh81 hin81 rfl) (g := (mkF m 113 #[.val (.ref p0), .val (.int p1), .val (.int (fnTok wm)), .val (.int (wo ||| ((1 : Int32) <<< (p1 &&& 31)))), .val (.ref aL), .val (.int (8 : Int32)), .val (.int (7 : Int32)), .val (.int (273 : Int32))] [(.int (7 : Int32)), (.ref aL)])) rfl rfl (hb hby d4_113) t k) ?_
                  refine own_step (T' := T51) (g' := (mkF m 116 #[.val (.ref p0), .val (.int p1), .val (.int (fnTok wm)), .val (.int (wo ||| ((1 : Int32) <<< (p1 &&& 31)))), .val (.ref aL), .val (.int (8 : Int32)), .val (.int (7 : Int32)), .val (.int (84 : Int32))] [])) (fun t k => XS.istore X51.here hx rfl (hb hby d4_114) rfl (l' := #[.val (.ref p0), .val (.int p1), .val (.int (fnTok wm)), .val (.int (wo ||| ((1 : Int32) <<< (p1 &&& 31)))), .val (.ref aL), .val (.int (8 : Int32)), .val (.int (7 : Int32)), .val (.int (84 : Int32))]) rfl k) ?_
                  refine own_step (T' := T51) (g' := (mkF m 117 #[.val (.ref p0), .val (.int p1), .val (.int (fnTok wm)), .val (.int (wo ||| ((1 : Int32) <<< (p1 &&& 31)))), .val (.ref aL), .val (.int (8 : Int32)), .val (.int (7 : Int32)), .val (.int (84 : Int32))] [(.int (wo ||| ((1 : Int32) <<< (p1 &&& 31))))])) (fun t k => XS.iloadN X51.here hx rfl (hb hby d4_116) rfl k) ?_
                  refine own_step (T' := T51) (g' := (mkF m 119 #[.val (.ref p0), .val (.int p1), .val (.int (fnTok wm)), .val (.int (wo ||| ((1 : Int32) <<< (p1 &&& 31)))), .val (.ref aL), .val (.int (8 : Int32)), .val (.int (7 : Int32)), .val (.int (84 : Int32))] [(.int (84 : Int32)), (.int (wo ||| ((1 : Int32) <<< (p1 &&& 31))))])) (fun t k => XS.iload X51.here hx rfl (hb hby d4_117) rfl k) ?_
                  refine own_step (T' := T51) (g' := (mkF m 120 #[.val (.ref p0), .val (.int p1), .val (.int (fnTok wm)), .val (.int (wo ||| ((1 : Int32) <<< (p1 &&& 31)))), .val (.ref aL), .val (.int (8 : Int32)), .val (.int (7 : Int32)), .val (.int (84 : Int32))] [(.int ((wo ||| ((1 : Int32) <<< (p1 &&& 31))) &&& (84 : Int32)))])) (fun t k => XS.iand X51.here hx rfl (hb hby d4_119) rfl k) ?_
                  refine own_step (T' := T51) (g' := (mkF m 122 #[.val (.ref p0), .val (.int p1), .val (.int (fnTok wm)), .val (.int (wo ||| ((1 : Int32) <<< (p1 &&& 31)))), .val (.ref aL), .val (.int (8 : Int32)), .val (.int (7 : Int32)), .val (.int (84 : Int32))] [(.int (84 : Int32)), (.int ((wo ||| ((1 : Int32) <<< (p1 &&& 31))) &&& (84 : Int32)))])) (fun t k => XS.iload X51.here hx rfl (hb hby d4_120) rfl k) ?_
                  by_cases hc122_82 : ((wo ||| ((1 : Int32) <<< (p1 &&& 31))) &&& (84 : Int32)) = (84 : Int32)
                  · refine own_step (T' := T51) (g' := (mkF m 125 #[.val (.ref p0), .val (.int p1), .val (.int (fnTok wm)), .val (.int (wo ||| ((1 : Int32) <<< (p1 &&& 31)))), .val (.ref aL), .val (.int (8 : Int32)), .val (.int (7 : Int32)), .val (.int (84 : Int32))] [])) (fun t k => XS.icmpNo X51.here hx rfl (hb hby d4_122) rfl (teq hc122_82).2 k) ?_
                    refine own_step (T' := T51) (g' := (mkF m 126 #[.val (.ref p0), .val (.int p1), .val (.int (fnTok wm)), .val (.int (wo ||| ((1 : Int32) <<< (p1 &&& 31)))), .val (.ref aL), .val (.int (8 : Int32)), .val (.int (7 : Int32)), .val (.int (84 : Int32))] [(.ref p0)])) (fun t k => XS.aloadN X51.here hx rfl (hb hby d4_125) rfl rfl k) ?_
                    refine own_step (T' := T51) (g' := (mkF m 127 #[.val (.ref p0), .val (.int p1), .val (.int (fnTok wm)), .val (.int (wo ||| ((1 : Int32) <<< (p1 &&& 31)))), .val (.ref aL), .val (.int (8 : Int32)), .val (.int (7 : Int32)), .val (.int (84 : Int32))] [(.int (fnTok wm)), (.ref p0)])) (fun t k => XS.iloadN X51.here hx rfl (hb hby d4_126) rfl k) ?_
                    obtain ⟨T83, h83, X83, e83, W83, st83⟩ := putFN X51 hx hZ hown (hw _ (List.mem_of_getElem? (i := 11) rfl)) Via.refl e51 F_winner_p0_50 E_p0_50 (Or.inl (hw _ (List.mem_of_getElem? (i := 12) rfl))) (hw _ (List.mem_of_getElem? (i := 1) rfl)) (ty := .char) (v' := (.int (nar .char (fnTok wm)))) (by decide) rfl (fits_nar_char (fnTok wm)) (g := (mkF m 127 #[.val (.ref p0), .val (.int p1), .val (.int (fnTok wm)), .val (.int (wo ||| ((1 : Int32) <<< (p1 &&& 31)))), .val (.ref aL), .val (.int (8 : Int32)), .val (.int (7 : Int32)), .val (.int (84 : Int32))] [(.int (fnTok wm)), (.ref p0)])) rfl rfl (hb hby d4_127)
                    have E_p0_83 : Exa Z h83 p0 "com/example/tilescript/tilescript/TicTacToe" := E_p0_50.wr W83
                    have F_xCells_p0_83 : Fld Z h83 p0 "com/example/tilescript/tilescript/TicTacToe" "xCells" "I" (.int wx) := F_xCells_p0_50.other W83 (Or.inr (slot_ne (Or.inl (hw _ (List.mem_of_getElem? (i := 37) rfl))) (Or.inl (hw _ (List.mem_of_getElem? (i := 12) rfl))) (by decide) (t := .int) (t' := .char) (by decide) (by decide)))
                    have S_LINES_83 : Sta Z h83 "com/example/tilescript/tilescript/TicTacToe" "LINES" "[I" (.ref aL) := S_LINES_50.wr W83
                    have V_aL_83 : Arv Z h83 aL kL .int (8 : Int32) [(.int (7 : Int32)), (.int (56 : Int32)), (.int (448 : Int32)), (.int (73 : Int32)), (.int (146 : Int32)), (.int (292 : Int32)), (.int (273 : Int32)), (.int (84 : Int32))] (.int (0 : Int32)) := V_aL_50.other W83 neL
                    have F_oCells_p0_83 : Fld Z h83 p0 "com/example/tilescript/tilescript/TicTacToe" "oCells" "I" (.int (wo ||| ((1 : Int32) <<< (p1 &&& 31)))) := F_oCells_p0_50.other W83 (Or.inr (slot_ne (Or.inl (hw _ (List.mem_of_getElem? (i := 39) rfl))) (Or.inl (hw _ (List.mem_of_getElem? (i := 12) rfl))) (by decide) (t := .int) (t' := .char) (by decide) (by decide)))
                    have F_marks_p0_83 : Fld Z h83 p0 "com/example/tilescript/tilescript/TicTacToe" "marks" "I" (.int (wm + (1 : Int32))) := F_marks_p0_50.other W83 (Or.inr (slot_ne (Or.inl (hw _ (List.mem_of_getElem? (i := 35) rfl))) (Or.inl (hw _ (List.mem_of_getElem? (i := 12) rfl))) (by decide) (t := .int) (t' := .char) (by decide) (by decide)))
                    have F_lastMove_p0_83 : Fld Z h83 p0 "com/example/tilescript/tilescript/TicTacToe" "lastMove" "I" (.int p1) := F_lastMove_p0_50.other W83 (Or.inr (slot_ne (Or.inl (hw _ (List.mem_of_getElem? (i := 10) rfl))) (Or.inl (hw _ (List.mem_of_getElem? (i := 12) rfl))) (by decide) (t := .int) (t' := .char) (by decide) (by decide)))
                    have K_83 : Keep h0 h83 [p0] := K_50.wr W83 (Or.inl (List.mem_of_getElem? (i := 0) rfl))
                    have N83 := Fr.snoc X83 N50 g_p0
                    have F_winner_p0_83 : Fld Z h83 p0 "com/example/tilescript/tilescript/TicTacToe" "winner" "C" (.int (nar .char (fnTok wm))) := F_winner_p0_50.same W83
                    refine own_step (T' := T83) (g' := (mkF m 130 #[.val (.ref p0), .val (.int p1), .val (.int (fnTok wm)), .val (.int (wo ||| ((1 : Int32) <<< (p1 &&& 31)))), .val (.ref aL), .val (.int (8 : Int32)), .val (.int (7 : Int32)), .val (.int (84 : Int32))] [])) st83 ?_
                    refine own_retV X83 hx hlk Bd.returns (hb hby d4_130) (by decide) (by decide) ?_
                    rw [e83]
                    exact ⟨wx, (wo ||| ((1 : Int32) <<< (p1 &&& 31))), (nar .char (fnTok wm)), rfl, N83, K_83, F_xCells_p0_83, F_oCells_p0_83, F_marks_p0_83, F_winner_p0_83, F_lastMove_p0_83, Or.inr ⟨hc34_3, rfl, rfl, (by unfold own_wn; rw [if_neg hc122_54, if_neg hc122_58, if_neg hc122_62, if_neg hc122_66, if_neg hc122_70, if_neg hc122_74, if_neg hc122_78, if_pos hc122_82])⟩⟩
                  · refine own_step (T' := T51) (g' := (mkF m 131 #[.val (.ref p0), .val (.int p1), .val (.int (fnTok wm)), .val (.int (wo ||| ((1 : Int32) <<< (p1 &&& 31)))), .val (.ref aL), .val (.int (8 : Int32)), .val (.int (7 : Int32)), .val (.int (84 : Int32))] [])) (fun t k => XS.icmpYes X51.here hx rfl (pc0 := 122) (pc' := 131) rfl (hb hby d4_122) rfl (feq hc122_82).2 (by decide) (by decide) k) ?_
                    refine own_step (T' := T51) (g' := (mkF m 134 #[.val (.ref p0), .val (.int p1), .val (.int (fnTok wm)), .val (.int (wo ||| ((1 : Int32) <<< (p1 &&& 31)))), .val (.ref aL), .val (.int (8 : Int32)), .val (.int (8 : Int32)), .val (.int (84 : Int32))] [])) (fun t k => XS.iinc X51.here hx rfl (hb hby d4_131) rfl (l' := #[.val (.ref p0), .val (.int p1), .val (.int (fnTok wm)), .val (.int (wo ||| ((1 : Int32) <<< (p1 &&& 31)))), .val (.ref aL), .val (.int (8 : Int32)), .val (.int (8 : Int32)), .val (.int (84 : Int32))]) rfl k) ?_
                    refine own_step (T' := T51) (g' := (mkF m 102 #[.val (.ref p0), .val (.int p1), .val (.int (fnTok wm)), .val (.int (wo ||| ((1 : Int32) <<< (p1 &&& 31)))), .val (.ref aL), .val (.int (8 : Int32)), .val (.int (8 : Int32)), .val (.int (84 : Int32))] [])) (fun t k => XS.goto X51.here hx rfl (pc0 := 134) (pc' := 102) rfl (hb hby d4_134) (by decide) (by decide) k) ?_
                    refine own_step (T' := T51) (g' := (mkF m 104 #[.val (.ref p0), .val (.int p1), .val (.int (fnTok wm)), .val (.int (wo ||| ((1 : Int32) <<< (p1 &&& 31)))), .val (.ref aL), .val (.int (8 : Int32)), .val (.int (8 : Int32)), .val (.int (84 : Int32))] [(.int (8 : Int32))])) (fun t k => XS.iload X51.here hx rfl (hb hby d4_102) rfl k) ?_
                    refine own_step (T' := T51) (g' := (mkF m 106 #[.val (.ref p0), .val (.int p1), .val (.int (fnTok wm)), .val (.int (wo ||| ((1 : Int32) <<< (p1 &&& 31)))), .val (.ref aL), .val (.int (8 : Int32)), .val (.int (8 : Int32)), .val (.int (84 : Int32))] [(.int (8 : Int32)), (.int (8 : Int32))])) (fun t k => XS.iload X51.here hx rfl (hb hby d4_104) rfl k) ?_
                    refine own_step (T' := T51) (g' := (mkF m 137 #[.val (.ref p0), .val (.int p1), .val (.int (fnTok wm)), .val (.int (wo ||| ((1 : Int32) <<< (p1 &&& 31)))), .val (.ref aL), .val (.int (8 : Int32)), .val (.int (8 : Int32)), .val (.int (84 : Int32))] [])) (fun t k => XS.icmpYes X51.here hx rfl (pc0 := 106) (pc' := 137) rfl (hb hby d4_106) rfl (flt (by decide : ¬ ((8 : Int32) < (8 : Int32)))).2.1 (by decide) (by decide) k) ?_
                    refine own_retV X51 hx hlk Bd.returns (hb hby d4_137) (by decide) (by decide) ?_
                    rw [e51]
                    exact ⟨wx, (wo ||| ((1 : Int32) <<< (p1 &&& 31))), ww, rfl, N50, K_50, F_xCells_p0_50, F_oCells_p0_50, F_marks_p0_50, F_winner_p0_50, F_lastMove_p0_50, Or.inr ⟨hc34_3, rfl, rfl, (by unfold own_wn; rw [if_neg hc122_54, if_neg hc122_58, if_neg hc122_62, if_neg hc122_66, if_neg hc122_70, if_neg hc122_74, if_neg hc122_78, if_neg hc122_82])⟩⟩
def fnAt (p1 : Int32) (wx : Int32) (wo : Int32) : Int32 := if (wx &&& ((1 : Int32) <<< (p1 &&& 31))) = (0 : Int32) then if (wo &&& ((1 : Int32) <<< (p1 &&& 31))) = (0 : Int32) then (45 : Int32) else (79 : Int32) else (88 : Int32)
theorem ef_rm8 (m : MethodId) (x0 : Addr) (x1 : Int32) : entryFrame m #[(.ref x0), (.int x1)] 3 = mkF m 0 #[.val (.ref x0), .val (.int x1), .unset] [] := by first | (simp [entryFrame, mkF, argsToLocals, Value.category]; done) | rfl
def Qrm8 (Z : State) (p0 : Addr) (p1 : Int32) (wx : Int32) (wo : Int32) (h0 : Heap) (n0 : Nat) (v : Option Value) (h : Heap) (L : List Loc) : Prop := v = some (.int (fnAt p1 wx wo)) ∧ Fr n0 L ∧ h = h0
set_option maxRecDepth 65536 in
set_option maxHeartbeats 40000000 in
theorem rm8 (l : Launch) (Z : State) (a0 : Array Value) (hw : ∀ d ∈ tables_1, d.before a0 Z = true) (ws : List Jvm.Cond) (p0 : Addr) (p1 : Int32) (wx : Int32) (wo : Int32) (h0 : Heap) (n0 : Nat) (Z0 : n0 ≤ h0.size) (F_xCells_p0 : Fld Z h0 p0 "com/example/tilescript/tilescript/TicTacToe" "xCells" "I" (.int wx)) (F_oCells_p0 : Fld Z h0 p0 "com/example/tilescript/tilescript/TicTacToe" "oCells" "I" (.int wo)) :
    MetFree l (⟨"com/example/tilescript/tilescript/TicTacToe", "at", "(I)C"⟩ : MethodName) (head1 (Jvm.Cond.code (⟨"com/example/tilescript/tilescript/TicTacToe", "at", "(I)C"⟩ : MethodName) prog_19_method_3_code 3 (some .char) :: ws) ({ frames := 0, cells := 0, slots := 0, locals := 0 } : Room)) (fun a U => a = #[(.ref p0), (.int p1)] ∧ Z.Warmed39 U.vm ∧ U.heap = h0) (fun _ _ _ _ _ => True) (fun _ U o U' => ∃ v L, o = .returned v ∧ Qrm8 Z p0 p1 wx wo h0 n0 v U'.heap L ∧ FrameEnd U o U' L ({ frames := 0, cells := 0, slots := 0, locals := 0 } : Room).cells ({ frames := 0, cells := 0, slots := 0, locals := 0 } : Room).slots) := by
  refine MetFree.of_bodySF (plainFor_of_name pn_8) hisR ?_
  intro p e s m args below meth c s₁ Bd hml0 hP hK
  obtain ⟨rfl, hZ, hh⟩ := hP
  have hx := Bd.exec
  have hby := Bd.bytes
  have hlk : meth.locks = false := BodyLoose.notSynchronized Bd
  have hml : c.maxLocals = 3 := hml0
  have hown : s.vm.findClass "com/example/tilescript/tilescript/TicTacToe" = some m.cls := findClass_of_methodNamed Bd.named
  have hnm := (name_of_methodNamed Bd.named Bd.method).1
  have X0 : Stand p l e ({ frames := 0, cells := 0, slots := 0, locals := 0 } : Room) s m #[(.ref p0), (.int p1)] below meth c s₁ [] 0 0 := Stand.of_body Bd
  have e0 : s₁.heap = h0 := by rw [← hh, Bd.state]; rfl
  have N0 := Fr.nil n0
  have K0 : Keep h0 h0 [] := Keep.refl h0 []
  show own_G p e below s 0 0 (Qrm8 Z p0 p1 wx wo h0 n0) s₁ (entryFrame m #[(.ref p0), (.int p1)] 3)
  rw [ef_rm8 m p0 p1]
  refine own_step (T' := s₁) (g' := (mkF m 1 #[.val (.ref p0), .val (.int p1), .unset] [(.int (1 : Int32))])) (fun t k => XS.iconst X0.here hx rfl (hb hby d8_0) k) ?_
  refine own_step (T' := s₁) (g' := (mkF m 2 #[.val (.ref p0), .val (.int p1), .unset] [(.int p1), (.int (1 : Int32))])) (fun t k => XS.iloadN X0.here hx rfl (hb hby d8_1) rfl k) ?_
  refine own_step (T' := s₁) (g' := (mkF m 3 #[.val (.ref p0), .val (.int p1), .unset] [(.int ((1 : Int32) <<< (p1 &&& 31)))])) (fun t k => XS.ishl X0.here hx rfl (hb hby d8_2) rfl k) ?_
  refine own_step (T' := s₁) (g' := (mkF m 4 #[.val (.ref p0), .val (.int p1), .val (.int ((1 : Int32) <<< (p1 &&& 31)))] [])) (fun t k => XS.istoreN X0.here hx rfl (hb hby d8_3) rfl (l' := #[.val (.ref p0), .val (.int p1), .val (.int ((1 : Int32) <<< (p1 &&& 31)))]) rfl k) ?_
  refine own_step (T' := s₁) (g' := (mkF m 5 #[.val (.ref p0), .val (.int p1), .val (.int ((1 : Int32) <<< (p1 &&& 31)))] [(.ref p0)])) (fun t k => XS.aloadN X0.here hx rfl (hb hby d8_4) rfl rfl k) ?_
  obtain ⟨T1, X1, e1, st1⟩ := getF X0 hx hZ hown (host := "") (Or.inl (hw _ (List.mem_of_getElem? (i := 36) rfl))) Via.refl e0 F_xCells_p0 (g := (mkF m 5 #[.val (.ref p0), .val (.int p1), .val (.int ((1 : Int32) <<< (p1 &&& 31)))] [(.ref p0)])) rfl rfl (hb hby d8_5)
  refine own_step (T' := T1) (g' := (mkF m 8 #[.val (.ref p0), .val (.int p1), .val (.int ((1 : Int32) <<< (p1 &&& 31)))] [(.int wx)])) st1 ?_
  refine own_step (T' := T1) (g' := (mkF m 9 #[.val (.ref p0), .val (.int p1), .val (.int ((1 : Int32) <<< (p1 &&& 31)))] [(.int ((1 : Int32) <<< (p1 &&& 31))), (.int wx)])) (fun t k => XS.iloadN X1.here hx rfl (hb hby d8_8) rfl k) ?_
  refine own_step (T' := T1) (g' := (mkF m 10 #[.val (.ref p0), .val (.int p1), .val (.int ((1 : Int32) <<< (p1 &&& 31)))] [(.int (wx &&& ((1 : Int32) <<< (p1 &&& 31))))])) (fun t k => XS.iand X1.here hx rfl (hb hby d8_9) rfl k) ?_
  by_cases hc10_2 : (wx &&& ((1 : Int32) <<< (p1 &&& 31))) = (0 : Int32)
  · refine own_step (T' := T1) (g' := (mkF m 16 #[.val (.ref p0), .val (.int p1), .val (.int ((1 : Int32) <<< (p1 &&& 31)))] [])) (fun t k => XS.ifYes X1.here hx rfl (pc0 := 10) (pc' := 16) rfl (hb hby d8_10) rfl ((if0 _ _).trans (teq hc10_2).1) (by decide) (by decide) k) ?_
    refine own_step (T' := T1) (g' := (mkF m 17 #[.val (.ref p0), .val (.int p1), .val (.int ((1 : Int32) <<< (p1 &&& 31)))] [(.ref p0)])) (fun t k => XS.aloadN X1.here hx rfl (hb hby d8_16) rfl rfl k) ?_
    obtain ⟨T3, X3, e3, st3⟩ := getF X1 hx hZ hown (host := "") (Or.inl (hw _ (List.mem_of_getElem? (i := 38) rfl))) Via.refl e1 F_oCells_p0 (g := (mkF m 17 #[.val (.ref p0), .val (.int p1), .val (.int ((1 : Int32) <<< (p1 &&& 31)))] [(.ref p0)])) rfl rfl (hb hby d8_17)
    refine own_step (T' := T3) (g' := (mkF m 20 #[.val (.ref p0), .val (.int p1), .val (.int ((1 : Int32) <<< (p1 &&& 31)))] [(.int wo)])) st3 ?_
    refine own_step (T' := T3) (g' := (mkF m 21 #[.val (.ref p0), .val (.int p1), .val (.int ((1 : Int32) <<< (p1 &&& 31)))] [(.int ((1 : Int32) <<< (p1 &&& 31))), (.int wo)])) (fun t k => XS.iloadN X3.here hx rfl (hb hby d8_20) rfl k) ?_
    refine own_step (T' := T3) (g' := (mkF m 22 #[.val (.ref p0), .val (.int p1), .val (.int ((1 : Int32) <<< (p1 &&& 31)))] [(.int (wo &&& ((1 : Int32) <<< (p1 &&& 31))))])) (fun t k => XS.iand X3.here hx rfl (hb hby d8_21) rfl k) ?_
    by_cases hc22_4 : (wo &&& ((1 : Int32) <<< (p1 &&& 31))) = (0 : Int32)
    · refine own_step (T' := T3) (g' := (mkF m 30 #[.val (.ref p0), .val (.int p1), .val (.int ((1 : Int32) <<< (p1 &&& 31)))] [])) (fun t k => XS.ifYes X3.here hx rfl (pc0 := 22) (pc' := 30) rfl (hb hby d8_22) rfl ((if0 _ _).trans (teq hc22_4).1) (by decide) (by decide) k) ?_
      refine own_step (T' := T3) (g' := (mkF m 32 #[.val (.ref p0), .val (.int p1), .val (.int ((1 : Int32) <<< (p1 &&& 31)))] [(.int (45 : Int32))])) (fun t k => XS.bipush X3.here hx rfl (hb hby d8_30) k) ?_
      refine own_retN X3 hx hlk (t := .char) (w := (45 : Int32)) Bd.returns (by simp) (hb hby d8_32) rfl (by decide) (by decide) ?_
      exact ⟨congrArg some (congrArg Value.int (show (45 : Int32) = (fnAt p1 wx wo) from by unfold fnAt; rw [if_pos hc10_2, if_pos hc22_4])), N0, e3⟩
    · refine own_step (T' := T3) (g' := (mkF m 25 #[.val (.ref p0), .val (.int p1), .val (.int ((1 : Int32) <<< (p1 &&& 31)))] [])) (fun t k => XS.ifNo X3.here hx rfl (hb hby d8_22) rfl ((if0 _ _).trans (feq hc22_4).1) k) ?_
      refine own_step (T' := T3) (g' := (mkF m 27 #[.val (.ref p0), .val (.int p1), .val (.int ((1 : Int32) <<< (p1 &&& 31)))] [(.int (79 : Int32))])) (fun t k => XS.bipush X3.here hx rfl (hb hby d8_25) k) ?_
      refine own_step (T' := T3) (g' := (mkF m 32 #[.val (.ref p0), .val (.int p1), .val (.int ((1 : Int32) <<< (p1 &&& 31)))] [(.int (79 : Int32))])) (fun t k => XS.goto X3.here hx rfl (pc0 := 27) (pc' := 32) rfl (hb hby d8_27) (by decide) (by decide) k) ?_
      refine own_retN X3 hx hlk (t := .char) (w := (79 : Int32)) Bd.returns (by simp) (hb hby d8_32) rfl (by decide) (by decide) ?_
      exact ⟨congrArg some (congrArg Value.int (show (79 : Int32) = (fnAt p1 wx wo) from by unfold fnAt; rw [if_pos hc10_2, if_neg hc22_4])), N0, e3⟩
  · refine own_step (T' := T1) (g' := (mkF m 13 #[.val (.ref p0), .val (.int p1), .val (.int ((1 : Int32) <<< (p1 &&& 31)))] [])) (fun t k => XS.ifNo X1.here hx rfl (hb hby d8_10) rfl ((if0 _ _).trans (feq hc10_2).1) k) ?_
    refine own_step (T' := T1) (g' := (mkF m 15 #[.val (.ref p0), .val (.int p1), .val (.int ((1 : Int32) <<< (p1 &&& 31)))] [(.int (88 : Int32))])) (fun t k => XS.bipush X1.here hx rfl (hb hby d8_13) k) ?_
    refine own_retN X1 hx hlk (t := .char) (w := (88 : Int32)) Bd.returns (by simp) (hb hby d8_15) rfl (by decide) (by decide) ?_
    exact ⟨congrArg some (congrArg Value.int (show (88 : Int32) = (fnAt p1 wx wo) from by unfold fnAt; rw [if_neg hc10_2])), N0, e1⟩
def fnExp (p1 : Int32) (r0 : Int32) : Int32 := if r0 = (0 : Int32) then (45 : Int32) else (nar .char r0)
theorem ef_rm9 (m : MethodId) (x0 : Addr) (x1 : Int32) : entryFrame m #[(.ref x0), (.int x1)] 2 = mkF m 0 #[.val (.ref x0), .val (.int x1)] [] := by first | (simp [entryFrame, mkF, argsToLocals, Value.category]; done) | rfl
def Qrm9 (Z : State) (p0 : Addr) (p1 : Int32) (kk : ClassId) (vs : List Value) (r0 : Int32) (h0 : Heap) (n0 : Nat) (v : Option Value) (h : Heap) (L : List Loc) : Prop := v = some (.int (fnExp p1 r0)) ∧ Fr n0 L ∧ h = h0
set_option maxRecDepth 65536 in
set_option maxHeartbeats 40000000 in
theorem rm9 (l : Launch) (Z : State) (a0 : Array Value) (hw : ∀ d ∈ tables_1, d.before a0 Z = true) (ws : List Jvm.Cond) (p0 : Addr) (p1 : Int32) (kk : ClassId) (vs : List Value) (r0 : Int32) (h0 : Heap) (n0 : Nat) (Z0 : n0 ≤ h0.size) (V_p0 : Arv Z h0 p0 kk .char (9 : Int32) vs (.int (0 : Int32))) (hidx : ¬ p1 < 0 ∧ p1 < (9 : Int32)) (hr : vs.getD p1.toNatClampNeg (.int (0 : Int32)) = (.int r0)) :
    MetFree l (⟨"com/example/tilescript/tilescript/TicTacToeAtPinLaw", "expected", "([CI)C"⟩ : MethodName) (head1 (Jvm.Cond.code (⟨"com/example/tilescript/tilescript/TicTacToeAtPinLaw", "expected", "([CI)C"⟩ : MethodName) method_3_code 2 (some .char) :: ws) ({ frames := 0, cells := 0, slots := 0, locals := 0 } : Room)) (fun a U => a = #[(.ref p0), (.int p1)] ∧ Z.Warmed39 U.vm ∧ U.heap = h0) (fun _ _ _ _ _ => True) (fun _ U o U' => ∃ v L, o = .returned v ∧ Qrm9 Z p0 p1 kk vs r0 h0 n0 v U'.heap L ∧ FrameEnd U o U' L ({ frames := 0, cells := 0, slots := 0, locals := 0 } : Room).cells ({ frames := 0, cells := 0, slots := 0, locals := 0 } : Room).slots) := by
  refine MetFree.of_bodySF (plainFor_of_name pn_9) hisR ?_
  intro p e s m args below meth c s₁ Bd hml0 hP hK
  obtain ⟨rfl, hZ, hh⟩ := hP
  have hx := Bd.exec
  have hby := Bd.bytes
  have hlk : meth.locks = false := BodyLoose.notSynchronized Bd
  have hml : c.maxLocals = 2 := hml0
  have hown : s.vm.findClass "com/example/tilescript/tilescript/TicTacToeAtPinLaw" = some m.cls := findClass_of_methodNamed Bd.named
  have hnm := (name_of_methodNamed Bd.named Bd.method).1
  have X0 : Stand p l e ({ frames := 0, cells := 0, slots := 0, locals := 0 } : Room) s m #[(.ref p0), (.int p1)] below meth c s₁ [] 0 0 := Stand.of_body Bd
  have e0 : s₁.heap = h0 := by rw [← hh, Bd.state]; rfl
  have N0 := Fr.nil n0
  have K0 : Keep h0 h0 [] := Keep.refl h0 []
  show own_G p e below s 0 0 (Qrm9 Z p0 p1 kk vs r0 h0 n0) s₁ (entryFrame m #[(.ref p0), (.int p1)] 2)
  rw [ef_rm9 m p0 p1]
  refine own_step (T' := s₁) (g' := (mkF m 1 #[.val (.ref p0), .val (.int p1)] [(.ref p0)])) (fun t k => XS.aloadN X0.here hx rfl (hb hby d9_0) rfl rfl k) ?_
  refine own_step (T' := s₁) (g' := (mkF m 2 #[.val (.ref p0), .val (.int p1)] [(.int p1), (.ref p0)])) (fun t k => XS.iloadN X0.here hx rfl (hb hby d9_1) rfl k) ?_
  obtain ⟨cl1, Ar1, q1, Sz1, Nn1, Hh1, Gg1⟩ := id V_p0
  have hin1 : ¬ (p1 < 0 ∨ cl1.slots.size ≤ (p1).toNatClampNeg) := inb_of Sz1 hidx
  refine own_step (T' := s₁) (g' := (mkF m 3 #[.val (.ref p0), .val (.int p1)] [(.int r0)])) (fun t k => X0.caload hx (j := p1) (v := (.int r0)) (by rw [e0]; exact Ar1.1) (State.isArrayOf_alike hZ.alike Ar1.2.1) Ar1.2.2 hin1 (Has.at Hh1 hin1 hr) (g := (mkF m 2 #[.val (.ref p0), .val (.int p1)] [(.int p1), (.ref p0)])) rfl rfl (hb hby d9_2) t k) ?_
  by_cases hc3_2 : r0 = (0 : Int32)
  · refine own_step (T' := s₁) (g' := (mkF m 6 #[.val (.ref p0), .val (.int p1)] [])) (fun t k => XS.ifNo X0.here hx rfl (hb hby d9_3) rfl ((if0 _ _).trans (teq hc3_2).2) k) ?_
    refine own_step (T' := s₁) (g' := (mkF m 8 #[.val (.ref p0), .val (.int p1)] [(.int (45 : Int32))])) (fun t k => XS.bipush X0.here hx rfl (hb hby d9_6) k) ?_
    refine own_retN X0 hx hlk (t := .char) (w := (45 : Int32)) Bd.returns (by simp) (hb hby d9_8) rfl (by decide) (by decide) ?_
    exact ⟨congrArg some (congrArg Value.int (show (45 : Int32) = (fnExp p1 r0) from by unfold fnExp; rw [if_pos hc3_2])), N0, e0⟩
  · refine own_step (T' := s₁) (g' := (mkF m 9 #[.val (.ref p0), .val (.int p1)] [])) (fun t k => XS.ifYes X0.here hx rfl (pc0 := 3) (pc' := 9) rfl (hb hby d9_3) rfl ((if0 _ _).trans (feq hc3_2).2) (by decide) (by decide) k) ?_
    refine own_step (T' := s₁) (g' := (mkF m 10 #[.val (.ref p0), .val (.int p1)] [(.ref p0)])) (fun t k => XS.aloadN X0.here hx rfl (hb hby d9_9) rfl rfl k) ?_
    refine own_step (T' := s₁) (g' := (mkF m 11 #[.val (.ref p0), .val (.int p1)] [(.int p1), (.ref p0)])) (fun t k => XS.iloadN X0.here hx rfl (hb hby d9_10) rfl k) ?_
    obtain ⟨cl4, Ar4, q4, Sz4, Nn4, Hh4, Gg4⟩ := id V_p0
    have hin4 : ¬ (p1 < 0 ∨ cl4.slots.size ≤ (p1).toNatClampNeg) := inb_of Sz4 hidx
    refine own_step (T' := s₁) (g' := (mkF m 12 #[.val (.ref p0), .val (.int p1)] [(.int r0)])) (fun t k => X0.caload hx (j := p1) (v := (.int r0)) (by rw [e0]; exact Ar4.1) (State.isArrayOf_alike hZ.alike Ar4.2.1) Ar4.2.2 hin4 (Has.at Hh4 hin4 hr) (g := (mkF m 11 #[.val (.ref p0), .val (.int p1)] [(.int p1), (.ref p0)])) rfl rfl (hb hby d9_11) t k) ?_
    refine own_retN X0 hx hlk (t := .char) (w := (nar .char r0)) Bd.returns (by simp) (hb hby d9_12) rfl (by decide) (by decide) ?_
    exact ⟨congrArg some (congrArg Value.int (show (nar .char r0) = (fnExp p1 r0) from by unfold fnExp; rw [if_neg hc3_2])), N0, e0⟩
def own_pc (n : Nat) : Nat := n % 2 + n / 2 % 2 + n / 4 % 2 + n / 8 % 2 + n / 16 % 2 + n / 32 % 2 + n / 64 % 2 + n / 128 % 2 + n / 256 % 2
def own_ch (a b i : Nat) : Int32 := if a.testBit i = true then 88 else if b.testBit i = true then 79 else 0
theorem own_t1 : ∀ a, a < 512 → ∀ c, c < 9 → (Int32.ofNat a ||| ((1 : Int32) <<< (Int32.ofNat c &&& 31))) = Int32.ofNat (a ||| 2 ^ c) := by decide +kernel
theorem own_t2 : ∀ a, a < 512 → ∀ c, c < 9 → a ||| 2 ^ c < 512 := by decide +kernel
theorem own_t3 : ∀ a, a < 512 → ∀ c, c < 9 → a.testBit c = false → own_pc (a ||| 2 ^ c) = own_pc a + 1 := by decide +kernel
theorem own_t4 : ∀ a, a < 512 → own_pc a ≤ 2 → (¬ (Int32.ofNat a &&& 7) = 7 ∧ ¬ (Int32.ofNat a &&& 56) = 56 ∧ ¬ (Int32.ofNat a &&& 448) = 448 ∧ ¬ (Int32.ofNat a &&& 73) = 73 ∧ ¬ (Int32.ofNat a &&& 146) = 146 ∧ ¬ (Int32.ofNat a &&& 292) = 292 ∧ ¬ (Int32.ofNat a &&& 273) = 273 ∧ ¬ (Int32.ofNat a &&& 84) = 84) := by decide +kernel
theorem own_t5 : ∀ a, a < 512 → ∀ c, c < 9 → decide ((Int32.ofNat a &&& ((1 : Int32) <<< (Int32.ofNat c &&& 31))) = 0) = !(a.testBit c) := by decide +kernel
theorem own_or (a b : Nat) : Int32.ofNat a ||| Int32.ofNat b = Int32.ofNat (a ||| b) := by
  apply Int32.toBitVec_inj.mp
  show BitVec.ofNat 32 a ||| BitVec.ofNat 32 b = BitVec.ofNat 32 (a ||| b)
  apply BitVec.eq_of_getLsbD_eq
  intro i hi
  simp [BitVec.getLsbD_ofNat, hi]
theorem own_or512 {a b : Nat} (ha : a < 512) (hb : b < 512) : a ||| b < 512 := Nat.or_lt_two_pow (n := 9) ha hb
theorem own_ofNat {v : Int32} (h0 : 0 ≤ v.toInt) : v = Int32.ofNat v.toNatClampNeg := by
  apply Int32.toInt_inj.mp
  have h := v.toInt_lt
  have e : (v.toNatClampNeg : Int) = v.toInt := by simp only [Int32.toNatClampNeg]; omega
  rw [Int32.toInt_ofNat_of_lt (by omega)]
  exact e.symm
theorem own_clamp {v : Int32} (h0 : 0 ≤ v.toInt) : (v.toNatClampNeg : Int) = v.toInt := by simp only [Int32.toNatClampNeg]; omega
theorem own_tb (a c i : Nat) : (a ||| 2 ^ c).testBit i = (a.testBit i || decide (c = i)) := by
  rw [Nat.testBit_or, Nat.testBit_two_pow]
def own_Inv (x o w c : Int32) (vs : List Value) : Prop :=
  ∃ a b : Nat, a < 512 ∧ b < 512 ∧ x = Int32.ofNat a ∧ o = Int32.ofNat b ∧ 0 ≤ c.toInt ∧ c.toInt ≤ 5 ∧ own_pc a = (c.toInt.toNat + 1) / 2 ∧ own_pc b = c.toInt.toNat / 2 ∧ (c.toInt ≤ 4 → w = 45) ∧ vs.length = 9 ∧ ∀ i, i < 9 → vs.getD i (.int (0 : Int32)) = .int (own_ch a b i)
theorem own_inv0 : own_Inv 0 0 45 0 [(.int (0 : Int32)), (.int (0 : Int32)), (.int (0 : Int32)), (.int (0 : Int32)), (.int (0 : Int32)), (.int (0 : Int32)), (.int (0 : Int32)), (.int (0 : Int32)), (.int (0 : Int32))] := by
  refine ⟨0, 0, by decide, by decide, rfl, rfl, by decide, by decide, by decide, by decide, fun _ => rfl, rfl, ?_⟩
  intro i hi
  have hc : own_ch 0 0 i = 0 := by simp [own_ch]
  rw [hc]
  match i, hi with
  | 0, _ => rfl
  | 1, _ => rfl
  | 2, _ => rfl
  | 3, _ => rfl
  | 4, _ => rfl
  | 5, _ => rfl
  | 6, _ => rfl
  | 7, _ => rfl
  | 8, _ => rfl
theorem own_mod10 (p v : Int32) (hv : (p &&& 2147483647) % 10 = v) : 0 ≤ v.toInt ∧ v.toInt < 10 := by
  have e1 : (p &&& 2147483647).toInt = p.toInt % 2 ^ 31 := Jvm.Kit.i32_mask p 2147483647 (k := 31) (by decide) (by decide)
  have e2 : v.toInt = (p.toInt % 2 ^ 31) % 10 := by
    rw [← hv, Int32.toInt_mod, e1, Int.tmod_eq_emod_of_nonneg (by omega)]; rfl
  omega
section
variable {x o w c v r t x1 o1 w1 : Int32} {vs : List Value}
theorem own_lt9 (h : v < (9 : Int32)) : v.toInt < 9 := by
  rw [Int32.lt_iff_toInt_lt] at h
  exact h
theorem own_in9 (hv : 0 ≤ v.toInt ∧ v.toInt < 10) (h : v < (9 : Int32)) : ¬ v < 0 ∧ v < (9 : Int32) := by
  refine ⟨?_, h⟩
  rw [Int32.lt_iff_toInt_lt]
  have : (0 : Int32).toInt = 0 := rfl
  omega
theorem own_nat9 (hv : 0 ≤ v.toInt) (h : v.toInt < 9) : v.toNatClampNeg < 9 := by
  have := own_clamp hv
  omega
theorem own_len9 (I : own_Inv x o w c vs) (hv : 0 ≤ v.toInt ∧ v.toInt < 10) (h : v < (9 : Int32)) : v.toNatClampNeg < vs.length := by
  obtain ⟨a, b, -, -, -, -, -, -, -, -, -, hl, -⟩ := I
  rw [hl]; exact own_nat9 hv.1 (own_lt9 h)
theorem own_inv_get (I : own_Inv x o w c vs) (hv : 0 ≤ v.toInt ∧ v.toInt < 10) (h : v < (9 : Int32)) : ∃ r : Int32, vs.getD v.toNatClampNeg (.int (0 : Int32)) = .int r := by
  obtain ⟨a, b, -, -, -, -, -, -, -, -, -, -, hi⟩ := I
  exact ⟨_, hi _ (own_nat9 hv.1 (own_lt9 h))⟩
theorem own_empty {a b i : Nat} (h : own_ch a b i = 0) : a.testBit i = false ∧ b.testBit i = false := by
  unfold own_ch at h
  by_cases h1 : a.testBit i = true
  · rw [if_pos h1] at h; exact absurd h (by decide)
  · rw [if_neg h1] at h
    by_cases h2 : b.testBit i = true
    · rw [if_pos h2] at h; exact absurd h (by decide)
    · exact ⟨by simpa using h1, by simpa using h2⟩
theorem own_legal (I : own_Inv x o w c vs) (hc : c.toInt ≤ 4) (hv : 0 ≤ v.toInt ∧ v.toInt < 10) (h : v < (9 : Int32)) (hr : vs.getD v.toNatClampNeg (.int (0 : Int32)) = .int r) (h0 : r = 0) : ¬ fnLegal v w c x o = 0 := by
  obtain ⟨a, b, ha, hb, rfl, rfl, c0, c5, pa, pb, hw, hl, hi⟩ := I
  have hn := own_nat9 hv.1 (own_lt9 h)
  have he : own_ch a b v.toNatClampNeg = 0 := by
    have := (hi _ hn).symm.trans hr
    injection this with this
    rw [this, h0]
  obtain ⟨e1, e2⟩ := own_empty he
  have hq : ((Int32.ofNat a ||| Int32.ofNat b) &&& ((1 : Int32) <<< (v &&& 31))) = 0 := by
    rw [own_or, own_ofNat hv.1]
    have := own_t5 (a ||| b) (own_or512 ha hb) v.toNatClampNeg hn
    rw [Nat.testBit_or, e1, e2] at this
    exact of_decide_eq_true this
  have hov : fnOver w c = 0 := by
    rw [hw hc]
    unfold fnOver
    have : ¬ c = 9 := fun q => by rw [q] at hc; exact absurd hc (by decide)
    rw [if_pos rfl, if_neg this]
  have hneg : ¬ v < 0 := (own_in9 hv h).1
  unfold fnLegal
  rw [if_pos hov, if_neg hneg, if_pos h, if_pos hq]
  decide
theorem own_wn_no {a : Nat} (ha : a < 512) (hp : own_pc a ≤ 2) : own_wn (Int32.ofNat a) t w = w := by
  obtain ⟨q1, q2, q3, q4, q5, q6, q7, q8⟩ := own_t4 a ha hp
  unfold own_wn
  rw [if_neg q1, if_neg q2, if_neg q3, if_neg q4, if_neg q5, if_neg q6, if_neg q7, if_neg q8]
theorem own_par (hc : 0 ≤ c.toInt) : (c % 2 = 0) ↔ c.toInt.toNat % 2 = 0 := by
  have e : (c % 2).toInt = c.toInt % 2 := by
    rw [Int32.toInt_mod, Int.tmod_eq_emod_of_nonneg hc]; rfl
  constructor
  · intro q
    rw [q] at e
    have : (0 : Int32).toInt = 0 := rfl
    omega
  · intro q
    apply Int32.toInt_inj.mp
    have : (0 : Int32).toInt = 0 := rfl
    omega
theorem own_succ (h0 : 0 ≤ c.toInt) (h5 : c.toInt ≤ 100) : (c + 1).toInt = c.toInt + 1 := by
  have e : (1 : Int32).toInt = 1 := rfl
  rw [Int32.toInt_add, e]; exact Int.bmod_eq_of_le (by omega) (by omega)
theorem own_cnt1 (I : own_Inv x o w c vs) (hc : c.toInt ≤ 4) : (c + 1).toInt ≤ c.toInt + 1 := by
  obtain ⟨a, b, -, -, -, -, c0, c5, -⟩ := I
  rw [own_succ c0 (by omega)]; omega
theorem own_inv_play (I : own_Inv x o w c vs) (hc : c.toInt ≤ 4) (hv : 0 ≤ v.toInt ∧ v.toInt < 10) (h : v < (9 : Int32)) (hr : vs.getD v.toNatClampNeg (.int (0 : Int32)) = .int r) (h0 : r = 0) (hp : own_play v x o c w x1 o1 w1) (ht : (c % 2 = 0 ∧ t = 88) ∨ (¬ c % 2 = 0 ∧ t = 79)) :
    own_Inv x1 o1 w1 (c + 1) (vs.set v.toNatClampNeg (.int t)) := by
  obtain ⟨a, b, ha, hb, rfl, rfl, c0, c5, pa, pb, hw, hl, hi⟩ := I
  have hn := own_nat9 hv.1 (own_lt9 h)
  have he : own_ch a b v.toNatClampNeg = 0 := by
    have := (hi _ hn).symm.trans hr
    injection this with this
    rw [this, h0]
  obtain ⟨e1, e2⟩ := own_empty he
  have hs := own_succ c0 (by omega)
  have hvn := own_ofNat hv.1
  generalize hj : v.toNatClampNeg = j at *
  have hgen : ∀ (a' b' : Nat), (∀ i, i < 9 → own_ch a' b' i = if j = i then t else own_ch a b i) → ∀ i, i < 9 → (vs.set j (.int t)).getD i (.int (0 : Int32)) = .int (own_ch a' b' i) := by
    intro a' b' hab i hi9
    rw [hab i hi9]
    by_cases q : j = i
    · subst q
      rw [if_pos rfl, List.getD_eq_getElem?_getD, List.getElem?_set_self (by omega)]; rfl
    · rw [if_neg q, List.getD_eq_getElem?_getD, List.getElem?_set_ne q, ← List.getD_eq_getElem?_getD]; exact hi i hi9
  rcases hp with ⟨tk, rfl, rfl, rfl⟩ | ⟨tk, rfl, rfl, rfl⟩
  · have hm : c % 2 = 0 := by
      by_cases q : c % 2 = 0
      · exact q
      · unfold fnTok at tk; rw [if_neg q] at tk; exact absurd tk (by decide)
    have ht' : t = 88 := by
      rcases ht with ⟨-, q⟩ | ⟨q, -⟩
      · exact q
      · exact absurd hm q
    have hpar := (own_par c0).mp hm
    have hp3 := own_t3 a ha j hn e1
    have hx : (Int32.ofNat a ||| ((1 : Int32) <<< (v &&& 31))) = Int32.ofNat (a ||| 2 ^ j) := by rw [hvn]; exact own_t1 a ha j hn
    rw [hx]
    refine ⟨a ||| 2 ^ j, b, own_t2 a ha j hn, hb, rfl, rfl, by omega, by omega, by omega, by omega, ?_, by rw [List.length_set]; exact hl, hgen _ _ ?_⟩
    · intro q
      rw [own_wn_no (own_t2 a ha j hn) (by omega)]; exact hw hc
    · intro i hi9
      unfold own_ch
      rw [own_tb]
      by_cases q : j = i
      · subst q; simp [ht']
      · simp [q]
  · have hm : ¬ c % 2 = 0 := by
      intro q
      unfold fnTok at tk; rw [if_pos q] at tk; exact tk rfl
    have ht' : t = 79 := by
      rcases ht with ⟨q, -⟩ | ⟨-, q⟩
      · exact absurd q hm
      · exact q
    have hpar : ¬ c.toInt.toNat % 2 = 0 := fun q => hm ((own_par c0).mpr q)
    have hp3 := own_t3 b hb j hn e2
    have hx : (Int32.ofNat b ||| ((1 : Int32) <<< (v &&& 31))) = Int32.ofNat (b ||| 2 ^ j) := by rw [hvn]; exact own_t1 b hb j hn
    rw [hx]
    refine ⟨a, b ||| 2 ^ j, ha, own_t2 b hb j hn, rfl, rfl, by omega, by omega, by omega, by omega, ?_, by rw [List.length_set]; exact hl, hgen _ _ ?_⟩
    · intro q
      rw [own_wn_no (own_t2 b hb j hn) (by omega)]; exact hw hc
    · intro i hi9
      unfold own_ch
      rw [own_tb]
      by_cases q : j = i
      · subst q; simp [ht', e1]
      · simp [q]
theorem own_k1 (q v : Int32) (hv : (q &&& 65535) % 9 = v) : 0 ≤ v.toInt ∧ v.toInt < 9 := by
  have e1 : (q &&& 65535).toInt = q.toInt % 2 ^ 16 := Jvm.Kit.i32_mask q 65535 (k := 16) (by decide) (by decide)
  have e2 : v.toInt = (q.toInt % 2 ^ 16) % 9 := by
    rw [← hv, Int32.toInt_mod, e1, Int.tmod_eq_emod_of_nonneg (by omega)]; rfl
  omega
theorem own_k2 (q v : Int32) (hv : (q.toUInt32 >>> ((16 : Int32) &&& 31).toUInt32).toInt32 % 9 = v) : 0 ≤ v.toInt ∧ v.toInt < 9 := by
  have hle : (q.toUInt32 >>> ((16 : Int32) &&& 31).toUInt32).toNat < 65536 := by
    have h1 : ((16 : Int32) &&& 31).toUInt32.toNat = 16 := by decide
    rw [UInt32.toNat_shiftRight, h1, Nat.shiftRight_eq_div_pow]
    have := q.toUInt32.toNat_lt
    show q.toUInt32.toNat / 65536 < 65536
    omega
  have e1 : (q.toUInt32 >>> ((16 : Int32) &&& 31).toUInt32).toInt32.toInt = ((q.toUInt32 >>> ((16 : Int32) &&& 31).toUInt32).toNat : Int) := by
    show (q.toUInt32 >>> ((16 : Int32) &&& 31).toUInt32).toBitVec.toInt = _
    have h2 : (q.toUInt32 >>> ((16 : Int32) &&& 31).toUInt32).toBitVec.toNat = (q.toUInt32 >>> ((16 : Int32) &&& 31).toUInt32).toNat := rfl
    rw [BitVec.toInt_eq_toNat_cond, h2, if_pos (by omega)]
  have e2 : v.toInt = ((q.toUInt32 >>> ((16 : Int32) &&& 31).toUInt32).toNat : Int) % 9 := by
    rw [← hv, Int32.toInt_mod, e1, Int.tmod_eq_emod_of_nonneg (by omega)]; rfl
  omega
theorem own_k9 (hv : 0 ≤ v.toInt ∧ v.toInt < 9) : ¬ v < 0 ∧ v < (9 : Int32) := by
  simp only [Int32.lt_iff_toInt_lt, Int32.reduceToInt]
  omega
theorem own_inv_at (I : own_Inv x o w c vs) (hv : 0 ≤ v.toInt ∧ v.toInt < 9) : ∃ r : Int32, vs.getD v.toNatClampNeg (.int (0 : Int32)) = .int r ∧ fnAt v x o = fnExp v r := by
  obtain ⟨a, b, ha, hb, rfl, rfl, c0, c5, pa, pb, hw, hl, hi⟩ := I
  have hn := own_nat9 hv.1 hv.2
  refine ⟨_, hi _ hn, ?_⟩
  have hvn := own_ofNat hv.1
  have q1 := own_t5 a ha v.toNatClampNeg hn
  have q2 := own_t5 b hb v.toNatClampNeg hn
  rw [← hvn] at q1 q2
  unfold fnAt fnExp own_ch
  by_cases h1 : a.testBit v.toNatClampNeg = true
  · rw [h1] at q1
    rw [if_neg (of_decide_eq_false q1), if_pos h1]; decide
  · rw [Bool.not_eq_true] at h1
    rw [h1] at q1
    rw [if_pos (of_decide_eq_true q1)]
    simp only [h1, Bool.false_eq_true, if_false]
    by_cases h2 : b.testBit v.toNatClampNeg = true
    · rw [h2] at q2
      rw [if_neg (of_decide_eq_false q2)]
      simp only [h2, if_true]; decide
    · rw [Bool.not_eq_true] at h2
      rw [h2] at q2
      rw [if_pos (of_decide_eq_true q2)]
      simp only [h2, Bool.false_eq_true, if_false]; decide
end
theorem ef_rm3 (m : MethodId) (x0 : Addr) (x1 : Addr) (x2 : Int32) (x3 : Int32) : entryFrame m #[(.ref x0), (.ref x1), (.int x2), (.int x3)] 5 = mkF m 0 #[.val (.ref x0), .val (.ref x1), .val (.int x2), .val (.int x3), .unset] [] := by first | (simp [entryFrame, mkF, argsToLocals, Value.category]; done) | rfl
def Qrm3 (Z : State) (p0 : Addr) (p1 : Addr) (p2 : Int32) (p3 : Int32) (wx : Int32) (wo : Int32) (ww : Int32) (wl : Int32) (kk : ClassId) (vs : List Value) (aL : Addr) (kL : ClassId) (h0 : Heap) (n0 : Nat) (v : Option Value) (h : Heap) (L : List Loc) : Prop := ∃ (x1 : Int32) (o1 : Int32) (w1 : Int32) (c1 : Int32) (l1 : Int32) (vs1 : List Value), v = some (.int c1) ∧ Fr n0 L ∧ Keep h0 h [p0, p1] ∧ Fld Z h p0 "com/example/tilescript/tilescript/TicTacToe" "xCells" "I" (.int x1) ∧ Fld Z h p0 "com/example/tilescript/tilescript/TicTacToe" "oCells" "I" (.int o1) ∧ Fld Z h p0 "com/example/tilescript/tilescript/TicTacToe" "marks" "I" (.int c1) ∧ Fld Z h p0 "com/example/tilescript/tilescript/TicTacToe" "winner" "C" (.int w1) ∧ Fld Z h p0 "com/example/tilescript/tilescript/TicTacToe" "lastMove" "I" (.int l1) ∧ Arv Z h p1 kk .char (9 : Int32) vs1 (.int (0 : Int32)) ∧ own_Inv x1 o1 w1 c1 vs1 ∧ c1.toInt ≤ p3.toInt + 1
set_option maxRecDepth 65536 in
set_option maxHeartbeats 40000000 in
theorem rm3 (l : Launch) (Z : State) (a0 : Array Value) (hw : ∀ d ∈ tables_1, d.before a0 Z = true) (ws : List Jvm.Cond) (p0 : Addr) (p1 : Addr) (p2 : Int32) (p3 : Int32) (wx : Int32) (wo : Int32) (ww : Int32) (wl : Int32) (kk : ClassId) (vs : List Value) (aL : Addr) (kL : ClassId) (h0 : Heap) (n0 : Nat) (Z0 : n0 ≤ h0.size) (E_p0 : Exa Z h0 p0 "com/example/tilescript/tilescript/TicTacToe") (F_xCells_p0 : Fld Z h0 p0 "com/example/tilescript/tilescript/TicTacToe" "xCells" "I" (.int wx)) (F_oCells_p0 : Fld Z h0 p0 "com/example/tilescript/tilescript/TicTacToe" "oCells" "I" (.int wo)) (F_marks_p0 : Fld Z h0 p0 "com/example/tilescript/tilescript/TicTacToe" "marks" "I" (.int p3)) (F_winner_p0 : Fld Z h0 p0 "com/example/tilescript/tilescript/TicTacToe" "winner" "C" (.int ww)) (F_lastMove_p0 : Fld Z h0 p0 "com/example/tilescript/tilescript/TicTacToe" "lastMove" "I" (.int wl)) (g_p0 : n0 ≤ p0) (g_p1 : n0 ≤ p1) (V_p1 : Arv Z h0 p1 kk .char (9 : Int32) vs (.int (0 : Int32))) (S_LINES : Sta Z h0 "com/example/tilescript/tilescript/TicTacToe" "LINES" "[I" (.ref aL)) (V_aL : Arv Z h0 aL kL .int (8 : Int32) [(.int (7 : Int32)), (.int (56 : Int32)), (.int (448 : Int32)), (.int (73 : Int32)), (.int (146 : Int32)), (.int (292 : Int32)), (.int (273 : Int32)), (.int (84 : Int32))] (.int (0 : Int32))) (neL : aL ≠ p0) (neLr : aL ≠ p1) (ne01 : p0 ≠ p1) (hinv : own_Inv wx wo ww p3 vs) (hcnt : p3.toInt ≤ 4) :
    MetFree l (⟨"com/example/tilescript/tilescript/TicTacToeAtPinLaw", "step", "(Lcom/example/tilescript/tilescript/TicTacToe;[CII)I"⟩ : MethodName) (head1 (Jvm.Cond.code (⟨"com/example/tilescript/tilescript/TicTacToeAtPinLaw", "step", "(Lcom/example/tilescript/tilescript/TicTacToe;[CII)I"⟩ : MethodName) method_2_code 5 (some .int) :: ws) ({ frames := 3, cells := 0, slots := 0, locals := 44 } : Room)) (fun a U => a = #[(.ref p0), (.ref p1), (.int p2), (.int p3)] ∧ Z.Warmed39 U.vm ∧ U.heap = h0) (fun _ _ _ _ _ => True) (fun _ U o U' => ∃ v L, o = .returned v ∧ Qrm3 Z p0 p1 p2 p3 wx wo ww wl kk vs aL kL h0 n0 v U'.heap L ∧ FrameEnd U o U' L ({ frames := 3, cells := 0, slots := 0, locals := 44 } : Room).cells ({ frames := 3, cells := 0, slots := 0, locals := 44 } : Room).slots) := by
  refine MetFree.of_bodySF (plainFor_of_name pn_3) hisR ?_
  intro p e s m args below meth c s₁ Bd hml0 hP hK
  obtain ⟨rfl, hZ, hh⟩ := hP
  have hx := Bd.exec
  have hby := Bd.bytes
  have hlk : meth.locks = false := BodyLoose.notSynchronized Bd
  have hml : c.maxLocals = 5 := hml0
  have hown : s.vm.findClass "com/example/tilescript/tilescript/TicTacToeAtPinLaw" = some m.cls := findClass_of_methodNamed Bd.named
  have hnm := (name_of_methodNamed Bd.named Bd.method).1
  have X0 : Stand p l e ({ frames := 3, cells := 0, slots := 0, locals := 44 } : Room) s m #[(.ref p0), (.ref p1), (.int p2), (.int p3)] below meth c s₁ [] 0 0 := Stand.of_body Bd
  have e0 : s₁.heap = h0 := by rw [← hh, Bd.state]; rfl
  have N0 := Fr.nil n0
  have K0 : Keep h0 h0 [p0, p1] := Keep.refl h0 [p0, p1]
  show own_G p e below s 0 0 (Qrm3 Z p0 p1 p2 p3 wx wo ww wl kk vs aL kL h0 n0) s₁ (entryFrame m #[(.ref p0), (.ref p1), (.int p2), (.int p3)] 5)
  rw [ef_rm3 m p0 p1 p2 p3]
  refine own_step (T' := s₁) (g' := (mkF m 1 #[.val (.ref p0), .val (.ref p1), .val (.int p2), .val (.int p3), .unset] [(.int p2)])) (fun t k => XS.iloadN X0.here hx rfl (hb hby d3_0) rfl k) ?_
  refine own_step (T' := s₁) (g' := (mkF m 3 #[.val (.ref p0), .val (.ref p1), .val (.int p2), .val (.int p3), .unset] [(.int (2147483647 : Int32)), (.int p2)])) (fun t k => X0.ldcInt hx hown (mvT hZ (hw _ (List.mem_of_getElem? (i := 18) rfl))) (g := (mkF m 1 #[.val (.ref p0), .val (.ref p1), .val (.int p2), .val (.int p3), .unset] [(.int p2)])) rfl (hb hby d3_1) t k) ?_
  refine own_step (T' := s₁) (g' := (mkF m 4 #[.val (.ref p0), .val (.ref p1), .val (.int p2), .val (.int p3), .unset] [(.int (p2 &&& (2147483647 : Int32)))])) (fun t k => XS.iand X0.here hx rfl (hb hby d3_3) rfl k) ?_
  refine own_step (T' := s₁) (g' := (mkF m 6 #[.val (.ref p0), .val (.ref p1), .val (.int p2), .val (.int p3), .unset] [(.int (10 : Int32)), (.int (p2 &&& (2147483647 : Int32)))])) (fun t k => XS.bipush X0.here hx rfl (hb hby d3_4) k) ?_
  refine own_step (T' := s₁) (g' := (mkF m 7 #[.val (.ref p0), .val (.ref p1), .val (.int p2), .val (.int p3), .unset] [(.int ((p2 &&& (2147483647 : Int32)) % (10 : Int32)))])) (fun t k => Jvm.RoadKit.iremM X0 hx rfl (hb hby d3_6) rfl (by decide) k) ?_
  generalize hv1 : ((p2 &&& (2147483647 : Int32)) % (10 : Int32)) = v1
  refine own_step (T' := s₁) (g' := (mkF m 9 #[.val (.ref p0), .val (.ref p1), .val (.int p2), .val (.int p3), .val (.int v1)] [])) (fun t k => XS.istore X0.here hx rfl (hb hby d3_7) rfl (l' := #[.val (.ref p0), .val (.ref p1), .val (.int p2), .val (.int p3), .val (.int v1)]) rfl k) ?_
  have hcell := own_mod10 p2 v1 hv1
  refine own_step (T' := s₁) (g' := (mkF m 11 #[.val (.ref p0), .val (.ref p1), .val (.int p2), .val (.int p3), .val (.int v1)] [(.int v1)])) (fun t k => XS.iload X0.here hx rfl (hb hby d3_9) rfl k) ?_
  refine own_step (T' := s₁) (g' := (mkF m 13 #[.val (.ref p0), .val (.ref p1), .val (.int p2), .val (.int p3), .val (.int v1)] [(.int (9 : Int32)), (.int v1)])) (fun t k => XS.bipush X0.here hx rfl (hb hby d3_11) k) ?_
  by_cases hc13_2 : v1 < (9 : Int32)
  · refine own_step (T' := s₁) (g' := (mkF m 16 #[.val (.ref p0), .val (.ref p1), .val (.int p2), .val (.int p3), .val (.int v1)] [])) (fun t k => XS.icmpNo X0.here hx rfl (hb hby d3_13) rfl (tlt hc13_2).2.1 k) ?_
    refine own_step (T' := s₁) (g' := (mkF m 17 #[.val (.ref p0), .val (.ref p1), .val (.int p2), .val (.int p3), .val (.int v1)] [(.ref p1)])) (fun t k => XS.aloadN X0.here hx rfl (hb hby d3_16) rfl rfl k) ?_
    refine own_step (T' := s₁) (g' := (mkF m 19 #[.val (.ref p0), .val (.ref p1), .val (.int p2), .val (.int p3), .val (.int v1)] [(.int v1), (.ref p1)])) (fun t k => XS.iload X0.here hx rfl (hb hby d3_17) rfl k) ?_
    obtain ⟨r0, hr0⟩ := own_inv_get hinv hcell hc13_2
    obtain ⟨cl3, Ar3, q3, Sz3, Nn3, Hh3, Gg3⟩ := id V_p1
    have hin3 : ¬ (v1 < 0 ∨ cl3.slots.size ≤ (v1).toNatClampNeg) := inb_of Sz3 (own_in9 hcell hc13_2)
    refine own_step (T' := s₁) (g' := (mkF m 20 #[.val (.ref p0), .val (.ref p1), .val (.int p2), .val (.int p3), .val (.int v1)] [(.int r0)])) (fun t k => X0.caload hx (j := v1) (v := (.int r0)) (by rw [e0]; exact Ar3.1) (State.isArrayOf_alike hZ.alike Ar3.2.1) Ar3.2.2 hin3 (Has.at Hh3 hin3 hr0) (g := (mkF m 19 #[.val (.ref p0), .val (.ref p1), .val (.int p2), .val (.int p3), .val (.int v1)] [(.int v1), (.ref p1)])) rfl rfl (hb hby d3_19) t k) ?_
    by_cases hc20_4 : r0 = (0 : Int32)
    · refine own_step (T' := s₁) (g' := (mkF m 23 #[.val (.ref p0), .val (.ref p1), .val (.int p2), .val (.int p3), .val (.int v1)] [])) (fun t k => XS.ifNo X0.here hx rfl (hb hby d3_20) rfl ((if0 _ _).trans (teq hc20_4).2) k) ?_
      refine own_step (T' := s₁) (g' := (mkF m 24 #[.val (.ref p0), .val (.ref p1), .val (.int p2), .val (.int p3), .val (.int v1)] [(.ref p0)])) (fun t k => XS.aloadN X0.here hx rfl (hb hby d3_23) rfl rfl k) ?_
      refine own_step (T' := s₁) (g' := (mkF m 26 #[.val (.ref p0), .val (.ref p1), .val (.int p2), .val (.int p3), .val (.int v1)] [(.int v1), (.ref p0)])) (fun t k => XS.iload X0.here hx rfl (hb hby d3_24) rfl k) ?_
      obtain ⟨cq5, kq5, qq5a, qq5b, qq5c⟩ := isOf hZ e0 E_p0
      obtain ⟨_, _, ⟨T5, L5, kk5, nn5⟩, -, X5, ⟨Lc5, hQ5, l5, y5, z5⟩, st5⟩ := X0.virtualBack hx (y := (⟨"com/example/tilescript/tilescript/TicTacToe", "play", "(I)V"⟩ : MethodName)) (z := (⟨"com/example/tilescript/tilescript/TicTacToe", "play", "(I)V"⟩ : MethodName)) hown (mvT hZ (hw _ (List.mem_of_getElem? (i := 19) rfl))) (mvT hZ (hw _ (List.mem_of_getElem? (i := 20) rfl))) (notFace_of_selects (args := #[]) (mvT hZ (hw _ (List.mem_of_getElem? (i := 22) rfl)))) (mvT hZ (hw _ (List.mem_of_getElem? (i := 22) rfl))) (mvT hZ (hw _ (List.mem_of_getElem? (i := 21) rfl))) (by decide) (backOf (W := 0) (rm4 l Z a0 hw [] p0 v1 wx wo p3 ww wl aL kL h0 n0 (Nat.le_trans Z0 K0.1) E_p0 F_xCells_p0 F_oCells_p0 F_marks_p0 F_winner_p0 F_lastMove_p0 g_p0 S_LINES V_aL neL (own_legal hinv hcnt hcell hc13_2 hr0 hc20_4)) hZ (hw _ (List.mem_of_getElem? (i := 23) rfl)) (hw _ (List.mem_of_getElem? (i := 2) rfl)) (by decide) (by decide)) qq5a qq5c (g := (mkF m 26 #[.val (.ref p0), .val (.ref p1), .val (.int p2), .val (.int p3), .val (.int v1)] [(.int v1), (.ref p0)])) rfl (by rw [hml]; rfl) (Steps.refl _) (argsL := [(.int v1)]) (rest := []) (lenOf pd_2 rfl) rfl (by show 2 * 0 + _ ≤ _; exact Nat.le_of_eq rfl) (hb hby d3_26) (fun _ _ => ⟨rfl, e0, (by decide : 0 + 0 ≤ _), (by decide : 0 + 0 ≤ _)⟩)
      dsimp only [Pt.U, Pt.locs, Pt.cells, Pt.slots] at X5 l5 y5 z5 st5 hQ5
      subst l5 y5 z5
      obtain ⟨x1_5, o1_5, w1_5, rfl, N5q, Kq5, pq5_0, pq5_1, pq5_2, pq5_3, pq5_4, pq5_5⟩ := hQ5
      have N5 := Fr.app N0 N5q
      have E_p0_5 : Exa Z T5.heap p0 "com/example/tilescript/tilescript/TicTacToe" := E_p0.keep Kq5
      have V_p1_5 : Arv Z T5.heap p1 kk .char (9 : Int32) vs (.int (0 : Int32)) := V_p1.keep Kq5 (ninS (Ne.symm ne01) nin0)
      have S_LINES_5 : Sta Z T5.heap "com/example/tilescript/tilescript/TicTacToe" "LINES" "[I" (.ref aL) := own_sta_keep S_LINES Kq5 (allS E_p0.nostat all0)
      have V_aL_5 : Arv Z T5.heap aL kL .int (8 : Int32) [(.int (7 : Int32)), (.int (56 : Int32)), (.int (448 : Int32)), (.int (73 : Int32)), (.int (146 : Int32)), (.int (292 : Int32)), (.int (273 : Int32)), (.int (84 : Int32))] (.int (0 : Int32)) := V_aL.keep Kq5 (ninS neL nin0)
      have K_5 : Keep h0 T5.heap [p0, p1] := K0.trans Kq5 (allS (Or.inl (List.mem_of_getElem? (i := 0) rfl)) all0)
      refine own_step (T' := T5) (g' := (mkF m 29 #[.val (.ref p0), .val (.ref p1), .val (.int p2), .val (.int p3), .val (.int v1)] [])) (fun t k => st5.trans k) ?_
      refine own_step (T' := T5) (g' := (mkF m 30 #[.val (.ref p0), .val (.ref p1), .val (.int p2), .val (.int p3), .val (.int v1)] [(.ref p1)])) (fun t k => XS.aloadN X5.here hx rfl (hb hby d3_29) rfl rfl k) ?_
      refine own_step (T' := T5) (g' := (mkF m 32 #[.val (.ref p0), .val (.ref p1), .val (.int p2), .val (.int p3), .val (.int v1)] [(.int v1), (.ref p1)])) (fun t k => XS.iload X5.here hx rfl (hb hby d3_30) rfl k) ?_
      refine own_step (T' := T5) (g' := (mkF m 33 #[.val (.ref p0), .val (.ref p1), .val (.int p2), .val (.int p3), .val (.int v1)] [(.int p3), (.int v1), (.ref p1)])) (fun t k => XS.iloadN X5.here hx rfl (hb hby d3_32) rfl k) ?_
      refine own_step (T' := T5) (g' := (mkF m 34 #[.val (.ref p0), .val (.ref p1), .val (.int p2), .val (.int p3), .val (.int v1)] [(.int (2 : Int32)), (.int p3), (.int v1), (.ref p1)])) (fun t k => XS.iconst X5.here hx rfl (hb hby d3_33) k) ?_
      refine own_step (T' := T5) (g' := (mkF m 35 #[.val (.ref p0), .val (.ref p1), .val (.int p2), .val (.int p3), .val (.int v1)] [(.int (p3 % (2 : Int32))), (.int v1), (.ref p1)])) (fun t k => Jvm.RoadKit.iremM X5 hx rfl (hb hby d3_34) rfl (by decide) k) ?_
      by_cases hc35_6 : (p3 % (2 : Int32)) = (0 : Int32)
      · refine own_step (T' := T5) (g' := (mkF m 38 #[.val (.ref p0), .val (.ref p1), .val (.int p2), .val (.int p3), .val (.int v1)] [(.int v1), (.ref p1)])) (fun t k => XS.ifNo X5.here hx rfl (hb hby d3_35) rfl ((if0 _ _).trans (teq hc35_6).2) k) ?_
        refine own_step (T' := T5) (g' := (mkF m 40 #[.val (.ref p0), .val (.ref p1), .val (.int p2), .val (.int p3), .val (.int v1)] [(.int (88 : Int32)), (.int v1), (.ref p1)])) (fun t k => XS.bipush X5.here hx rfl (hb hby d3_38) k) ?_
        refine own_step (T' := T5) (g' := (mkF m 45 #[.val (.ref p0), .val (.ref p1), .val (.int p2), .val (.int p3), .val (.int v1)] [(.int (88 : Int32)), (.int v1), (.ref p1)])) (fun t k => XS.goto X5.here hx rfl (pc0 := 40) (pc' := 45) rfl (hb hby d3_40) (by decide) (by decide) k) ?_
        obtain ⟨cl7, Ar7, q7, Sz7, Nn7, Hh7, Gg7⟩ := id V_p1_5
        have hin7 : ¬ (v1 < 0 ∨ cl7.slots.size ≤ (v1).toNatClampNeg) := inb_of Sz7 (own_in9 hcell hc13_2)
        obtain ⟨T7, h7, X7, e7, W7, st7⟩ := stC X5 hx hZ rfl Ar7 (j := v1) hin7 (g := (mkF m 45 #[.val (.ref p0), .val (.ref p1), .val (.int p2), .val (.int p3), .val (.int v1)] [(.int (88 : Int32)), (.int v1), (.ref p1)])) rfl rfl (hb hby d3_45)
        have E_p0_7 : Exa Z h7 p0 "com/example/tilescript/tilescript/TicTacToe" := E_p0_5.wr W7
        have S_LINES_7 : Sta Z h7 "com/example/tilescript/tilescript/TicTacToe" "LINES" "[I" (.ref aL) := S_LINES_5.wr W7
        have V_aL_7 : Arv Z h7 aL kL .int (8 : Int32) [(.int (7 : Int32)), (.int (56 : Int32)), (.int (448 : Int32)), (.int (73 : Int32)), (.int (146 : Int32)), (.int (292 : Int32)), (.int (273 : Int32)), (.int (84 : Int32))] (.int (0 : Int32)) := V_aL_5.other W7 neLr
        have F_xCells_p0_7 : Fld Z h7 p0 "com/example/tilescript/tilescript/TicTacToe" "xCells" "I" (.int x1_5) := pq5_0.other W7 (Or.inl ne01)
        have F_oCells_p0_7 : Fld Z h7 p0 "com/example/tilescript/tilescript/TicTacToe" "oCells" "I" (.int o1_5) := pq5_1.other W7 (Or.inl ne01)
        have F_marks_p0_7 : Fld Z h7 p0 "com/example/tilescript/tilescript/TicTacToe" "marks" "I" (.int (p3 + (1 : Int32))) := pq5_2.other W7 (Or.inl ne01)
        have F_winner_p0_7 : Fld Z h7 p0 "com/example/tilescript/tilescript/TicTacToe" "winner" "C" (.int w1_5) := pq5_3.other W7 (Or.inl ne01)
        have F_lastMove_p0_7 : Fld Z h7 p0 "com/example/tilescript/tilescript/TicTacToe" "lastMove" "I" (.int v1) := pq5_4.other W7 (Or.inl ne01)
        have K_7 : Keep h0 h7 [p0, p1] := K_5.wr W7 (Or.inl (List.mem_of_getElem? (i := 1) rfl))
        have N7 := Fr.snoc X7 N5 g_p1
        have V_p1_7 : Arv Z h7 p1 kk .char (9 : Int32) (vs.set (v1).toNatClampNeg (.int (88 : Int32))) (.int (0 : Int32)) := Arv.set Ar7 q7 Sz7 Nn7 Hh7 Gg7 (fits_nar_char _) W7 (v1).toNatClampNeg rfl (own_len9 hinv hcell hc13_2)
        refine own_step (T' := T7) (g' := (mkF m 46 #[.val (.ref p0), .val (.ref p1), .val (.int p2), .val (.int p3), .val (.int v1)] [])) st7 ?_
        refine own_step (T' := T7) (g' := (mkF m 47 #[.val (.ref p0), .val (.ref p1), .val (.int p2), .val (.int p3), .val (.int v1)] [(.int p3)])) (fun t k => XS.iloadN X7.here hx rfl (hb hby d3_46) rfl k) ?_
        refine own_step (T' := T7) (g' := (mkF m 48 #[.val (.ref p0), .val (.ref p1), .val (.int p2), .val (.int p3), .val (.int v1)] [(.int (1 : Int32)), (.int p3)])) (fun t k => XS.iconst X7.here hx rfl (hb hby d3_47) k) ?_
        refine own_step (T' := T7) (g' := (mkF m 49 #[.val (.ref p0), .val (.ref p1), .val (.int p2), .val (.int p3), .val (.int v1)] [(.int (p3 + (1 : Int32)))])) (fun t k => XS.iadd X7.here hx rfl (hb hby d3_48) rfl k) ?_
        refine own_retI X7 hx hlk Bd.returns (hb hby d3_49) (by decide) (by decide) ?_
        rw [e7]
        exact ⟨x1_5, o1_5, w1_5, (p3 + (1 : Int32)), v1, (vs.set (v1).toNatClampNeg (.int (88 : Int32))), rfl, N7, K_7, F_xCells_p0_7, F_oCells_p0_7, F_marks_p0_7, F_winner_p0_7, F_lastMove_p0_7, V_p1_7, (own_inv_play hinv hcnt hcell hc13_2 hr0 hc20_4 pq5_5 (Or.inl ⟨hc35_6, rfl⟩)), (own_cnt1 hinv hcnt)⟩
      · refine own_step (T' := T5) (g' := (mkF m 43 #[.val (.ref p0), .val (.ref p1), .val (.int p2), .val (.int p3), .val (.int v1)] [(.int v1), (.ref p1)])) (fun t k => XS.ifYes X5.here hx rfl (pc0 := 35) (pc' := 43) rfl (hb hby d3_35) rfl ((if0 _ _).trans (feq hc35_6).2) (by decide) (by decide) k) ?_
        refine own_step (T' := T5) (g' := (mkF m 45 #[.val (.ref p0), .val (.ref p1), .val (.int p2), .val (.int p3), .val (.int v1)] [(.int (79 : Int32)), (.int v1), (.ref p1)])) (fun t k => XS.bipush X5.here hx rfl (hb hby d3_43) k) ?_
        obtain ⟨cl9, Ar9, q9, Sz9, Nn9, Hh9, Gg9⟩ := id V_p1_5
        have hin9 : ¬ (v1 < 0 ∨ cl9.slots.size ≤ (v1).toNatClampNeg) := inb_of Sz9 (own_in9 hcell hc13_2)
        obtain ⟨T9, h9, X9, e9, W9, st9⟩ := stC X5 hx hZ rfl Ar9 (j := v1) hin9 (g := (mkF m 45 #[.val (.ref p0), .val (.ref p1), .val (.int p2), .val (.int p3), .val (.int v1)] [(.int (79 : Int32)), (.int v1), (.ref p1)])) rfl rfl (hb hby d3_45)
        have E_p0_9 : Exa Z h9 p0 "com/example/tilescript/tilescript/TicTacToe" := E_p0_5.wr W9
        have S_LINES_9 : Sta Z h9 "com/example/tilescript/tilescript/TicTacToe" "LINES" "[I" (.ref aL) := S_LINES_5.wr W9
        have V_aL_9 : Arv Z h9 aL kL .int (8 : Int32) [(.int (7 : Int32)), (.int (56 : Int32)), (.int (448 : Int32)), (.int (73 : Int32)), (.int (146 : Int32)), (.int (292 : Int32)), (.int (273 : Int32)), (.int (84 : Int32))] (.int (0 : Int32)) := V_aL_5.other W9 neLr
        have F_xCells_p0_9 : Fld Z h9 p0 "com/example/tilescript/tilescript/TicTacToe" "xCells" "I" (.int x1_5) := pq5_0.other W9 (Or.inl ne01)
        have F_oCells_p0_9 : Fld Z h9 p0 "com/example/tilescript/tilescript/TicTacToe" "oCells" "I" (.int o1_5) := pq5_1.other W9 (Or.inl ne01)
        have F_marks_p0_9 : Fld Z h9 p0 "com/example/tilescript/tilescript/TicTacToe" "marks" "I" (.int (p3 + (1 : Int32))) := pq5_2.other W9 (Or.inl ne01)
        have F_winner_p0_9 : Fld Z h9 p0 "com/example/tilescript/tilescript/TicTacToe" "winner" "C" (.int w1_5) := pq5_3.other W9 (Or.inl ne01)
        have F_lastMove_p0_9 : Fld Z h9 p0 "com/example/tilescript/tilescript/TicTacToe" "lastMove" "I" (.int v1) := pq5_4.other W9 (Or.inl ne01)
        have K_9 : Keep h0 h9 [p0, p1] := K_5.wr W9 (Or.inl (List.mem_of_getElem? (i := 1) rfl))
        have N9 := Fr.snoc X9 N5 g_p1
        have V_p1_9 : Arv Z h9 p1 kk .char (9 : Int32) (vs.set (v1).toNatClampNeg (.int (79 : Int32))) (.int (0 : Int32)) := Arv.set Ar9 q9 Sz9 Nn9 Hh9 Gg9 (fits_nar_char _) W9 (v1).toNatClampNeg rfl (own_len9 hinv hcell hc13_2)
        refine own_step (T' := T9) (g' := (mkF m 46 #[.val (.ref p0), .val (.ref p1), .val (.int p2), .val (.int p3), .val (.int v1)] [])) st9 ?_
        refine own_step (T' := T9) (g' := (mkF m 47 #[.val (.ref p0), .val (.ref p1), .val (.int p2), .val (.int p3), .val (.int v1)] [(.int p3)])) (fun t k => XS.iloadN X9.here hx rfl (hb hby d3_46) rfl k) ?_
        refine own_step (T' := T9) (g' := (mkF m 48 #[.val (.ref p0), .val (.ref p1), .val (.int p2), .val (.int p3), .val (.int v1)] [(.int (1 : Int32)), (.int p3)])) (fun t k => XS.iconst X9.here hx rfl (hb hby d3_47) k) ?_
        refine own_step (T' := T9) (g' := (mkF m 49 #[.val (.ref p0), .val (.ref p1), .val (.int p2), .val (.int p3), .val (.int v1)] [(.int (p3 + (1 : Int32)))])) (fun t k => XS.iadd X9.here hx rfl (hb hby d3_48) rfl k) ?_
        refine own_retI X9 hx hlk Bd.returns (hb hby d3_49) (by decide) (by decide) ?_
        rw [e9]
        exact ⟨x1_5, o1_5, w1_5, (p3 + (1 : Int32)), v1, (vs.set (v1).toNatClampNeg (.int (79 : Int32))), rfl, N9, K_9, F_xCells_p0_9, F_oCells_p0_9, F_marks_p0_9, F_winner_p0_9, F_lastMove_p0_9, V_p1_9, (own_inv_play hinv hcnt hcell hc13_2 hr0 hc20_4 pq5_5 (Or.inr ⟨hc35_6, rfl⟩)), (own_cnt1 hinv hcnt)⟩
    · refine own_step (T' := s₁) (g' := (mkF m 50 #[.val (.ref p0), .val (.ref p1), .val (.int p2), .val (.int p3), .val (.int v1)] [])) (fun t k => XS.ifYes X0.here hx rfl (pc0 := 20) (pc' := 50) rfl (hb hby d3_20) rfl ((if0 _ _).trans (feq hc20_4).2) (by decide) (by decide) k) ?_
      refine own_step (T' := s₁) (g' := (mkF m 51 #[.val (.ref p0), .val (.ref p1), .val (.int p2), .val (.int p3), .val (.int v1)] [(.int p3)])) (fun t k => XS.iloadN X0.here hx rfl (hb hby d3_50) rfl k) ?_
      refine own_retI X0 hx hlk Bd.returns (hb hby d3_51) (by decide) (by decide) ?_
      rw [e0]
      exact ⟨wx, wo, ww, p3, wl, vs, rfl, N0, K0, F_xCells_p0, F_oCells_p0, F_marks_p0, F_winner_p0, F_lastMove_p0, V_p1, hinv, (by omega)⟩
  · refine own_step (T' := s₁) (g' := (mkF m 50 #[.val (.ref p0), .val (.ref p1), .val (.int p2), .val (.int p3), .val (.int v1)] [])) (fun t k => XS.icmpYes X0.here hx rfl (pc0 := 13) (pc' := 50) rfl (hb hby d3_13) rfl (flt hc13_2).2.1 (by decide) (by decide) k) ?_
    refine own_step (T' := s₁) (g' := (mkF m 51 #[.val (.ref p0), .val (.ref p1), .val (.int p2), .val (.int p3), .val (.int v1)] [(.int p3)])) (fun t k => XS.iloadN X0.here hx rfl (hb hby d3_50) rfl k) ?_
    refine own_retI X0 hx hlk Bd.returns (hb hby d3_51) (by decide) (by decide) ?_
    rw [e0]
    exact ⟨wx, wo, ww, p3, wl, vs, rfl, N0, K0, F_xCells_p0, F_oCells_p0, F_marks_p0, F_winner_p0, F_lastMove_p0, V_p1, hinv, (by omega)⟩
theorem ef_rm0 (m : MethodId) (x0 : Int32) (x1 : Int32) (x2 : Int32) (x3 : Int32) (x4 : Int32) (x5 : Int32) : entryFrame m #[(.int x0), (.int x1), (.int x2), (.int x3), (.int x4), (.int x5)] maxLocals = mkF m 0 #[.val (.int x0), .val (.int x1), .val (.int x2), .val (.int x3), .val (.int x4), .val (.int x5), .unset, .unset, .unset, .unset, .unset, .unset, .unset] [] := by first | (simp [entryFrame, mkF, argsToLocals, Value.category, maxLocals]; done) | rfl
def Qrm0 (Z : State) (p0 : Int32) (p1 : Int32) (p2 : Int32) (p3 : Int32) (p4 : Int32) (p5 : Int32) (aL : Addr) (kL : ClassId) (h0 : Heap) (n0 : Nat) (v : Option Value) (h : Heap) (L : List Loc) : Prop := v = some (.int (1 : Int32)) ∧ Fr n0 L
set_option maxRecDepth 65536 in
set_option maxHeartbeats 40000000 in
theorem rm0 (l : Launch) (Z : State) (a0 : Array Value) (hw : ∀ d ∈ tables_1, d.before a0 Z = true) (ws : List Jvm.Cond) (p0 : Int32) (p1 : Int32) (p2 : Int32) (p3 : Int32) (p4 : Int32) (p5 : Int32) (aL : Addr) (kL : ClassId) (h0 : Heap) (n0 : Nat) (Z0 : n0 ≤ h0.size) (S_LINES : Sta Z h0 "com/example/tilescript/tilescript/TicTacToe" "LINES" "[I" (.ref aL)) (V_aL : Arv Z h0 aL kL .int (8 : Int32) [(.int (7 : Int32)), (.int (56 : Int32)), (.int (448 : Int32)), (.int (73 : Int32)), (.int (146 : Int32)), (.int (292 : Int32)), (.int (273 : Int32)), (.int (84 : Int32))] (.int (0 : Int32))) :
    MetFree l x (head1 (Jvm.Cond.code x code maxLocals ret :: ws) room_1) (fun a U => a = #[(.int p0), (.int p1), (.int p2), (.int p3), (.int p4), (.int p5)] ∧ Z.Warmed39 U.vm ∧ U.heap = h0) (fun _ _ _ _ _ => True) (fun _ U o U' => ∃ v L, o = .returned v ∧ Qrm0 Z p0 p1 p2 p3 p4 p5 aL kL h0 n0 v U'.heap L ∧ FrameEnd U o U' L 2 14) := by
  refine MetFree.of_bodySF (plainFor_of_name pn_0) hisR ?_
  intro p e s m args below meth c s₁ Bd hml0 hP hK
  obtain ⟨rfl, hZ, hh⟩ := hP
  have hx := Bd.exec
  have hby := Bd.bytes
  have hlk : meth.locks = false := BodyLoose.notSynchronized Bd
  have hml : c.maxLocals = 13 := hml0
  have hown : s.vm.findClass "com/example/tilescript/tilescript/TicTacToeAtPinLaw" = some m.cls := findClass_of_methodNamed Bd.named
  have hnm := (name_of_methodNamed Bd.named Bd.method).1
  have X0 : Stand p l e room_1 s m #[(.int p0), (.int p1), (.int p2), (.int p3), (.int p4), (.int p5)] below meth c s₁ [] 0 0 := Stand.of_body Bd
  have e0 : s₁.heap = h0 := by rw [← hh, Bd.state]; rfl
  have N0 := Fr.nil n0
  have K0 : Keep h0 h0 [] := Keep.refl h0 []
  show own_G p e below s 2 14 (Qrm0 Z p0 p1 p2 p3 p4 p5 aL kL h0 n0) s₁ (entryFrame m #[(.int p0), (.int p1), (.int p2), (.int p3), (.int p4), (.int p5)] maxLocals)
  rw [ef_rm0 m p0 p1 p2 p3 p4 p5]
  obtain ⟨T1, h1, X1, e1, E1, A1, D1, -, st1⟩ := newO X0 hx hZ hown (hw _ (List.mem_of_getElem? (i := 0) rfl)) (hw _ (List.mem_of_getElem? (i := 1) rfl)) (hw _ (List.mem_of_getElem? (i := 2) rfl)) e0 (g := (mkF m 0 #[.val (.int p0), .val (.int p1), .val (.int p2), .val (.int p3), .val (.int p4), .val (.int p5), .unset, .unset, .unset, .unset, .unset, .unset, .unset] [])) rfl (hb hby at_0) (by decide) (by decide)
  obtain ⟨b1, g1⟩ : ∃ z, z = h0.size := ⟨_, rfl⟩
  rw [← g1] at A1 D1 st1
  have S_LINES_1 : Sta Z h1 "com/example/tilescript/tilescript/TicTacToe" "LINES" "[I" (.ref aL) := S_LINES.ext E1
  have V_aL_1 : Arv Z h1 aL kL .int (8 : Int32) [(.int (7 : Int32)), (.int (56 : Int32)), (.int (448 : Int32)), (.int (73 : Int32)), (.int (146 : Int32)), (.int (292 : Int32)), (.int (273 : Int32)), (.int (84 : Int32))] (.int (0 : Int32)) := V_aL.ext E1
  have K_1 : Keep h0 h1 [] := K0.ext E1
  have sz_b1 : h0.size ≤ b1 := Nat.le_trans K0.1 (Nat.le_of_eq g1.symm)
  have g_b1 : n0 ≤ b1 := Nat.le_trans Z0 sz_b1
  have ne_aL_b1 : aL ≠ b1 := Nat.ne_of_lt (Nat.lt_of_lt_of_le V_aL.lt (Nat.le_of_eq g1.symm))
  have E_b1 : Exa Z h1 b1 "com/example/tilescript/tilescript/TicTacToe" := A1
  have F_lastMove_b1 : Fld Z h1 b1 "com/example/tilescript/tilescript/TicTacToe" "lastMove" "I" (.int (0 : Int32)) := D1 (Or.inl (hw _ (List.mem_of_getElem? (i := 10) rfl))) (ty := .int) (by decide)
  have F_winner_b1 : Fld Z h1 b1 "com/example/tilescript/tilescript/TicTacToe" "winner" "C" (.int (0 : Int32)) := D1 (Or.inl (hw _ (List.mem_of_getElem? (i := 12) rfl))) (ty := .char) (by decide)
  have F_marks_b1 : Fld Z h1 b1 "com/example/tilescript/tilescript/TicTacToe" "marks" "I" (.int (0 : Int32)) := D1 (Or.inl (hw _ (List.mem_of_getElem? (i := 35) rfl))) (ty := .int) (by decide)
  have F_xCells_b1 : Fld Z h1 b1 "com/example/tilescript/tilescript/TicTacToe" "xCells" "I" (.int (0 : Int32)) := D1 (Or.inl (hw _ (List.mem_of_getElem? (i := 37) rfl))) (ty := .int) (by decide)
  have F_oCells_b1 : Fld Z h1 b1 "com/example/tilescript/tilescript/TicTacToe" "oCells" "I" (.int (0 : Int32)) := D1 (Or.inl (hw _ (List.mem_of_getElem? (i := 39) rfl))) (ty := .int) (by decide)
  refine own_step (T' := T1) (g' := (mkF m 3 #[.val (.int p0), .val (.int p1), .val (.int p2), .val (.int p3), .val (.int p4), .val (.int p5), .unset, .unset, .unset, .unset, .unset, .unset, .unset] [(.ref b1)])) st1 ?_
  refine own_step (T' := T1) (g' := (mkF m 4 #[.val (.int p0), .val (.int p1), .val (.int p2), .val (.int p3), .val (.int p4), .val (.int p5), .unset, .unset, .unset, .unset, .unset, .unset, .unset] [(.ref b1), (.ref b1)])) (fun t k => XS.dup X1.here hx rfl (hb hby at_3) rfl rfl k) ?_
  obtain ⟨_, _, ⟨T2, L2, kk2, nn2⟩, -, X2, ⟨Lc2, hQ2, l2, y2, z2⟩, st2⟩ := X1.specialBack hx (y := (⟨"com/example/tilescript/tilescript/TicTacToe", "<init>", "()V"⟩ : MethodName)) rfl hown (mvT hZ (hw _ (List.mem_of_getElem? (i := 3) rfl))) (mvT hZ (hw _ (List.mem_of_getElem? (i := 4) rfl))) (mvT hZ (hw _ (List.mem_of_getElem? (i := 5) rfl))) (by decide) (backOf (W := 1) (rm1 l Z a0 hw [] b1 h1 n0 (Nat.le_trans Z0 K_1.1) E_b1 F_lastMove_b1 F_winner_b1 F_xCells_b1 F_oCells_b1 F_marks_b1 g_b1) hZ (hw _ (List.mem_of_getElem? (i := 5) rfl)) (hw _ (List.mem_of_getElem? (i := 2) rfl)) (by decide) (by decide)) (g := (mkF m 4 #[.val (.int p0), .val (.int p1), .val (.int p2), .val (.int p3), .val (.int p4), .val (.int p5), .unset, .unset, .unset, .unset, .unset, .unset, .unset] [(.ref b1), (.ref b1)])) rfl (by rw [hml]; rfl) (Steps.refl _) (a := b1) (argsL := []) (rest := [(.ref b1)]) (lenOf pd_0 rfl) rfl (by show 2 * 0 + _ ≤ _; exact Nat.le_of_eq rfl) (hb hby at_4) (fun _ _ => ⟨rfl, e1, (by decide : 1 + 0 ≤ _), (by decide : 5 + 0 ≤ _)⟩)
  dsimp only [Pt.U, Pt.locs, Pt.cells, Pt.slots] at X2 l2 y2 z2 st2 hQ2
  subst l2 y2 z2
  obtain ⟨rfl, N2q, Kq2, pq2_0, pq2_1, pq2_2, pq2_3, pq2_4⟩ := hQ2
  have N2 := Fr.app N0 N2q
  have S_LINES_2 : Sta Z T2.heap "com/example/tilescript/tilescript/TicTacToe" "LINES" "[I" (.ref aL) := own_sta_keep S_LINES_1 Kq2 (allS E_b1.nostat all0)
  have V_aL_2 : Arv Z T2.heap aL kL .int (8 : Int32) [(.int (7 : Int32)), (.int (56 : Int32)), (.int (448 : Int32)), (.int (73 : Int32)), (.int (146 : Int32)), (.int (292 : Int32)), (.int (273 : Int32)), (.int (84 : Int32))] (.int (0 : Int32)) := V_aL_1.keep Kq2 (ninS ne_aL_b1 nin0)
  have E_b1_2 : Exa Z T2.heap b1 "com/example/tilescript/tilescript/TicTacToe" := E_b1.keep Kq2
  have K_2 : Keep h0 T2.heap [] := K_1.trans Kq2 (allS (Or.inr sz_b1) all0)
  refine own_step (T' := T2) (g' := (mkF m 7 #[.val (.int p0), .val (.int p1), .val (.int p2), .val (.int p3), .val (.int p4), .val (.int p5), .unset, .unset, .unset, .unset, .unset, .unset, .unset] [(.ref b1)])) (fun t k => st2.trans k) ?_
  refine own_step (T' := T2) (g' := (mkF m 9 #[.val (.int p0), .val (.int p1), .val (.int p2), .val (.int p3), .val (.int p4), .val (.int p5), .val (.ref b1), .unset, .unset, .unset, .unset, .unset, .unset] [])) (fun t k => XS.astore X2.here hx rfl (hb hby at_7) rfl rfl (l' := #[.val (.int p0), .val (.int p1), .val (.int p2), .val (.int p3), .val (.int p4), .val (.int p5), .val (.ref b1), .unset, .unset, .unset, .unset, .unset, .unset]) rfl k) ?_
  refine own_step (T' := T2) (g' := (mkF m 11 #[.val (.int p0), .val (.int p1), .val (.int p2), .val (.int p3), .val (.int p4), .val (.int p5), .val (.ref b1), .unset, .unset, .unset, .unset, .unset, .unset] [(.int (9 : Int32))])) (fun t k => XS.bipush X2.here hx rfl (hb hby at_9) k) ?_
  obtain ⟨T3, h3, k3, X3, e3, E3, A3, st3⟩ := newP X2 hx hZ (hw _ (List.mem_of_getElem? (i := 13) rfl)) rfl (g := (mkF m 11 #[.val (.int p0), .val (.int p1), .val (.int p2), .val (.int p3), .val (.int p4), .val (.int p5), .val (.ref b1), .unset, .unset, .unset, .unset, .unset, .unset] [(.int (9 : Int32))])) rfl (hb hby at_11) rfl (by decide) (cap := 9) (by decide) (by decide) (by decide) (by decide)
  obtain ⟨b3, g3⟩ : ∃ z, z = T2.heap.size := ⟨_, rfl⟩
  rw [← g3] at A3 st3
  have S_LINES_3 : Sta Z h3 "com/example/tilescript/tilescript/TicTacToe" "LINES" "[I" (.ref aL) := S_LINES_2.ext E3
  have V_aL_3 : Arv Z h3 aL kL .int (8 : Int32) [(.int (7 : Int32)), (.int (56 : Int32)), (.int (448 : Int32)), (.int (73 : Int32)), (.int (146 : Int32)), (.int (292 : Int32)), (.int (273 : Int32)), (.int (84 : Int32))] (.int (0 : Int32)) := V_aL_2.ext E3
  have E_b1_3 : Exa Z h3 b1 "com/example/tilescript/tilescript/TicTacToe" := E_b1_2.ext E3
  have F_lastMove_b1_3 : Fld Z h3 b1 "com/example/tilescript/tilescript/TicTacToe" "lastMove" "I" (.int (-1 : Int32)) := pq2_0.ext E3
  have F_winner_b1_3 : Fld Z h3 b1 "com/example/tilescript/tilescript/TicTacToe" "winner" "C" (.int (45 : Int32)) := pq2_1.ext E3
  have F_xCells_b1_3 : Fld Z h3 b1 "com/example/tilescript/tilescript/TicTacToe" "xCells" "I" (.int (0 : Int32)) := pq2_2.ext E3
  have F_oCells_b1_3 : Fld Z h3 b1 "com/example/tilescript/tilescript/TicTacToe" "oCells" "I" (.int (0 : Int32)) := pq2_3.ext E3
  have F_marks_b1_3 : Fld Z h3 b1 "com/example/tilescript/tilescript/TicTacToe" "marks" "I" (.int (0 : Int32)) := pq2_4.ext E3
  have K_3 : Keep h0 h3 [] := K_2.ext E3
  have sz_b3 : h0.size ≤ b3 := Nat.le_trans K_2.1 (Nat.le_of_eq g3.symm)
  have g_b3 : n0 ≤ b3 := Nat.le_trans Z0 sz_b3
  have ne_aL_b3 : aL ≠ b3 := Nat.ne_of_lt (Nat.lt_of_lt_of_le V_aL_2.lt (Nat.le_of_eq g3.symm))
  have ne_b1_b3 : b1 ≠ b3 := Nat.ne_of_lt (Nat.lt_of_lt_of_le E_b1_2.lt (Nat.le_of_eq g3.symm))
  have V_b3 : Arv Z h3 b3 k3 .char (9 : Int32) [(.int (0 : Int32)), (.int (0 : Int32)), (.int (0 : Int32)), (.int (0 : Int32)), (.int (0 : Int32)), (.int (0 : Int32)), (.int (0 : Int32)), (.int (0 : Int32)), (.int (0 : Int32))] (.int (0 : Int32)) := (Arv.new A3 (by decide)).pad (pad_rep [] (.int (0 : Int32)) 9)
  refine own_step (T' := T3) (g' := (mkF m 13 #[.val (.int p0), .val (.int p1), .val (.int p2), .val (.int p3), .val (.int p4), .val (.int p5), .val (.ref b1), .unset, .unset, .unset, .unset, .unset, .unset] [(.ref b3)])) st3 ?_
  refine own_step (T' := T3) (g' := (mkF m 15 #[.val (.int p0), .val (.int p1), .val (.int p2), .val (.int p3), .val (.int p4), .val (.int p5), .val (.ref b1), .val (.ref b3), .unset, .unset, .unset, .unset, .unset] [])) (fun t k => XS.astore X3.here hx rfl (hb hby at_13) rfl rfl (l' := #[.val (.int p0), .val (.int p1), .val (.int p2), .val (.int p3), .val (.int p4), .val (.int p5), .val (.ref b1), .val (.ref b3), .unset, .unset, .unset, .unset, .unset]) rfl k) ?_
  refine own_step (T' := T3) (g' := (mkF m 16 #[.val (.int p0), .val (.int p1), .val (.int p2), .val (.int p3), .val (.int p4), .val (.int p5), .val (.ref b1), .val (.ref b3), .unset, .unset, .unset, .unset, .unset] [(.int (0 : Int32))])) (fun t k => XS.iconst X3.here hx rfl (hb hby at_15) k) ?_
  refine own_step (T' := T3) (g' := (mkF m 18 #[.val (.int p0), .val (.int p1), .val (.int p2), .val (.int p3), .val (.int p4), .val (.int p5), .val (.ref b1), .val (.ref b3), .val (.int (0 : Int32)), .unset, .unset, .unset, .unset] [])) (fun t k => XS.istore X3.here hx rfl (hb hby at_16) rfl (l' := #[.val (.int p0), .val (.int p1), .val (.int p2), .val (.int p3), .val (.int p4), .val (.int p5), .val (.ref b1), .val (.ref b3), .val (.int (0 : Int32)), .unset, .unset, .unset, .unset]) rfl k) ?_
  refine own_step (T' := T3) (g' := (mkF m 20 #[.val (.int p0), .val (.int p1), .val (.int p2), .val (.int p3), .val (.int p4), .val (.int p5), .val (.ref b1), .val (.ref b3), .val (.int (0 : Int32)), .unset, .unset, .unset, .unset] [(.ref b1)])) (fun t k => XS.aload X3.here hx rfl (hb hby at_18) rfl rfl k) ?_
  refine own_step (T' := T3) (g' := (mkF m 22 #[.val (.int p0), .val (.int p1), .val (.int p2), .val (.int p3), .val (.int p4), .val (.int p5), .val (.ref b1), .val (.ref b3), .val (.int (0 : Int32)), .unset, .unset, .unset, .unset] [(.ref b3), (.ref b1)])) (fun t k => XS.aload X3.here hx rfl (hb hby at_20) rfl rfl k) ?_
  refine own_step (T' := T3) (g' := (mkF m 23 #[.val (.int p0), .val (.int p1), .val (.int p2), .val (.int p3), .val (.int p4), .val (.int p5), .val (.ref b1), .val (.ref b3), .val (.int (0 : Int32)), .unset, .unset, .unset, .unset] [(.int p0), (.ref b3), (.ref b1)])) (fun t k => XS.iloadN X3.here hx rfl (hb hby at_22) rfl k) ?_
  refine own_step (T' := T3) (g' := (mkF m 25 #[.val (.int p0), .val (.int p1), .val (.int p2), .val (.int p3), .val (.int p4), .val (.int p5), .val (.ref b1), .val (.ref b3), .val (.int (0 : Int32)), .unset, .unset, .unset, .unset] [(.int (0 : Int32)), (.int p0), (.ref b3), (.ref b1)])) (fun t k => XS.iload X3.here hx rfl (hb hby at_23) rfl k) ?_
  obtain ⟨_, _, ⟨T4, L4, kk4, nn4⟩, -, X4, ⟨Lc4, hQ4, l4, y4, z4⟩, st4⟩ := Jvm.LawKit.callS X3 hx (y := (⟨"com/example/tilescript/tilescript/TicTacToeAtPinLaw", "step", "(Lcom/example/tilescript/tilescript/TicTacToe;[CII)I"⟩ : MethodName)) hown (mvT hZ (hw _ (List.mem_of_getElem? (i := 14) rfl))) (mvT hZ (hw _ (List.mem_of_getElem? (i := 15) rfl))) (mvT hZ (hw _ (List.mem_of_getElem? (i := 16) rfl))) (mvT hZ (hw _ (List.mem_of_getElem? (i := 17) rfl))) (by decide) (backOf (W := 0) (rm3 l Z a0 hw [] b1 b3 p0 (0 : Int32) (0 : Int32) (0 : Int32) (45 : Int32) (-1 : Int32) k3 [(.int (0 : Int32)), (.int (0 : Int32)), (.int (0 : Int32)), (.int (0 : Int32)), (.int (0 : Int32)), (.int (0 : Int32)), (.int (0 : Int32)), (.int (0 : Int32)), (.int (0 : Int32))] aL kL h3 n0 (Nat.le_trans Z0 K_3.1) E_b1_3 F_xCells_b1_3 F_oCells_b1_3 F_marks_b1_3 F_winner_b1_3 F_lastMove_b1_3 g_b1 g_b3 V_b3 S_LINES_3 V_aL_3 ne_aL_b1 ne_aL_b3 ne_b1_b3 own_inv0 (by have : (0 : Int32).toInt = 0 := rfl; omega)) hZ (hw _ (List.mem_of_getElem? (i := 17) rfl)) (hw _ (List.mem_of_getElem? (i := 16) rfl)) (by decide) (by decide)) (g := (mkF m 25 #[.val (.int p0), .val (.int p1), .val (.int p2), .val (.int p3), .val (.int p4), .val (.int p5), .val (.ref b1), .val (.ref b3), .val (.int (0 : Int32)), .unset, .unset, .unset, .unset] [(.int (0 : Int32)), (.int p0), (.ref b3), (.ref b1)])) rfl (by rw [hml]; rfl) (argsL := [(.ref b1), (.ref b3), (.int p0), (.int (0 : Int32))]) (rest := []) (lenOf pd_1 rfl) rfl (by show 2 * 0 + _ ≤ _; exact Nat.le_of_eq rfl) (hb hby at_25) (fun _ _ => ⟨rfl, e3, (by decide : 2 + 0 ≤ _), (by decide : 14 + 0 ≤ _)⟩)
  dsimp only [Pt.U, Pt.locs, Pt.cells, Pt.slots] at X4 l4 y4 z4 st4 hQ4
  subst l4 y4 z4
  obtain ⟨x1_4, o1_4, w1_4, c1_4, l1_4, vs1_4, rfl, N4q, Kq4, pq4_0, pq4_1, pq4_2, pq4_3, pq4_4, pq4_5, pq4_6, pq4_7⟩ := hQ4
  have N4 := Fr.app N2 N4q
  have S_LINES_4 : Sta Z T4.heap "com/example/tilescript/tilescript/TicTacToe" "LINES" "[I" (.ref aL) := own_sta_keep S_LINES_3 Kq4 (allS E_b1_3.nostat (allS V_b3.nostat all0))
  have V_aL_4 : Arv Z T4.heap aL kL .int (8 : Int32) [(.int (7 : Int32)), (.int (56 : Int32)), (.int (448 : Int32)), (.int (73 : Int32)), (.int (146 : Int32)), (.int (292 : Int32)), (.int (273 : Int32)), (.int (84 : Int32))] (.int (0 : Int32)) := V_aL_3.keep Kq4 (ninS ne_aL_b1 (ninS ne_aL_b3 nin0))
  have E_b1_4 : Exa Z T4.heap b1 "com/example/tilescript/tilescript/TicTacToe" := E_b1_3.keep Kq4
  have K_4 : Keep h0 T4.heap [] := K_3.trans Kq4 (allS (Or.inr sz_b1) (allS (Or.inr sz_b3) all0))
  refine own_step (T' := T4) (g' := (mkF m 28 #[.val (.int p0), .val (.int p1), .val (.int p2), .val (.int p3), .val (.int p4), .val (.int p5), .val (.ref b1), .val (.ref b3), .val (.int (0 : Int32)), .unset, .unset, .unset, .unset] [(.int c1_4)])) st4 ?_
  refine own_step (T' := T4) (g' := (mkF m 30 #[.val (.int p0), .val (.int p1), .val (.int p2), .val (.int p3), .val (.int p4), .val (.int p5), .val (.ref b1), .val (.ref b3), .val (.int c1_4), .unset, .unset, .unset, .unset] [])) (fun t k => XS.istore X4.here hx rfl (hb hby at_28) rfl (l' := #[.val (.int p0), .val (.int p1), .val (.int p2), .val (.int p3), .val (.int p4), .val (.int p5), .val (.ref b1), .val (.ref b3), .val (.int c1_4), .unset, .unset, .unset, .unset]) rfl k) ?_
  refine own_step (T' := T4) (g' := (mkF m 32 #[.val (.int p0), .val (.int p1), .val (.int p2), .val (.int p3), .val (.int p4), .val (.int p5), .val (.ref b1), .val (.ref b3), .val (.int c1_4), .unset, .unset, .unset, .unset] [(.ref b1)])) (fun t k => XS.aload X4.here hx rfl (hb hby at_30) rfl rfl k) ?_
  refine own_step (T' := T4) (g' := (mkF m 34 #[.val (.int p0), .val (.int p1), .val (.int p2), .val (.int p3), .val (.int p4), .val (.int p5), .val (.ref b1), .val (.ref b3), .val (.int c1_4), .unset, .unset, .unset, .unset] [(.ref b3), (.ref b1)])) (fun t k => XS.aload X4.here hx rfl (hb hby at_32) rfl rfl k) ?_
  refine own_step (T' := T4) (g' := (mkF m 35 #[.val (.int p0), .val (.int p1), .val (.int p2), .val (.int p3), .val (.int p4), .val (.int p5), .val (.ref b1), .val (.ref b3), .val (.int c1_4), .unset, .unset, .unset, .unset] [(.int p1), (.ref b3), (.ref b1)])) (fun t k => XS.iloadN X4.here hx rfl (hb hby at_34) rfl k) ?_
  refine own_step (T' := T4) (g' := (mkF m 37 #[.val (.int p0), .val (.int p1), .val (.int p2), .val (.int p3), .val (.int p4), .val (.int p5), .val (.ref b1), .val (.ref b3), .val (.int c1_4), .unset, .unset, .unset, .unset] [(.int c1_4), (.int p1), (.ref b3), (.ref b1)])) (fun t k => XS.iload X4.here hx rfl (hb hby at_35) rfl k) ?_
  obtain ⟨_, _, ⟨T5, L5, kk5, nn5⟩, -, X5, ⟨Lc5, hQ5, l5, y5, z5⟩, st5⟩ := Jvm.LawKit.callS X4 hx (y := (⟨"com/example/tilescript/tilescript/TicTacToeAtPinLaw", "step", "(Lcom/example/tilescript/tilescript/TicTacToe;[CII)I"⟩ : MethodName)) hown (mvT hZ (hw _ (List.mem_of_getElem? (i := 14) rfl))) (mvT hZ (hw _ (List.mem_of_getElem? (i := 15) rfl))) (mvT hZ (hw _ (List.mem_of_getElem? (i := 16) rfl))) (mvT hZ (hw _ (List.mem_of_getElem? (i := 17) rfl))) (by decide) (backOf (W := 0) (rm3 l Z a0 hw [] b1 b3 p1 c1_4 x1_4 o1_4 w1_4 l1_4 k3 vs1_4 aL kL T4.heap n0 (Nat.le_trans Z0 K_4.1) E_b1_4 pq4_0 pq4_1 pq4_2 pq4_3 pq4_4 g_b1 g_b3 pq4_5 S_LINES_4 V_aL_4 ne_aL_b1 ne_aL_b3 ne_b1_b3 pq4_6 (by have : (0 : Int32).toInt = 0 := rfl; omega)) hZ (hw _ (List.mem_of_getElem? (i := 17) rfl)) (hw _ (List.mem_of_getElem? (i := 16) rfl)) (by decide) (by decide)) (g := (mkF m 37 #[.val (.int p0), .val (.int p1), .val (.int p2), .val (.int p3), .val (.int p4), .val (.int p5), .val (.ref b1), .val (.ref b3), .val (.int c1_4), .unset, .unset, .unset, .unset] [(.int c1_4), (.int p1), (.ref b3), (.ref b1)])) rfl (by rw [hml]; rfl) (argsL := [(.ref b1), (.ref b3), (.int p1), (.int c1_4)]) (rest := []) (lenOf pd_1 rfl) rfl (by show 2 * 0 + _ ≤ _; exact Nat.le_of_eq rfl) (hb hby at_37) (fun _ _ => ⟨rfl, rfl, (by decide : 2 + 0 ≤ _), (by decide : 14 + 0 ≤ _)⟩)
  dsimp only [Pt.U, Pt.locs, Pt.cells, Pt.slots] at X5 l5 y5 z5 st5 hQ5
  subst l5 y5 z5
  obtain ⟨x1_5, o1_5, w1_5, c1_5, l1_5, vs1_5, rfl, N5q, Kq5, pq5_0, pq5_1, pq5_2, pq5_3, pq5_4, pq5_5, pq5_6, pq5_7⟩ := hQ5
  have N5 := Fr.app N4 N5q
  have S_LINES_5 : Sta Z T5.heap "com/example/tilescript/tilescript/TicTacToe" "LINES" "[I" (.ref aL) := own_sta_keep S_LINES_4 Kq5 (allS E_b1_4.nostat (allS pq4_5.nostat all0))
  have V_aL_5 : Arv Z T5.heap aL kL .int (8 : Int32) [(.int (7 : Int32)), (.int (56 : Int32)), (.int (448 : Int32)), (.int (73 : Int32)), (.int (146 : Int32)), (.int (292 : Int32)), (.int (273 : Int32)), (.int (84 : Int32))] (.int (0 : Int32)) := V_aL_4.keep Kq5 (ninS ne_aL_b1 (ninS ne_aL_b3 nin0))
  have E_b1_5 : Exa Z T5.heap b1 "com/example/tilescript/tilescript/TicTacToe" := E_b1_4.keep Kq5
  have K_5 : Keep h0 T5.heap [] := K_4.trans Kq5 (allS (Or.inr sz_b1) (allS (Or.inr sz_b3) all0))
  refine own_step (T' := T5) (g' := (mkF m 40 #[.val (.int p0), .val (.int p1), .val (.int p2), .val (.int p3), .val (.int p4), .val (.int p5), .val (.ref b1), .val (.ref b3), .val (.int c1_4), .unset, .unset, .unset, .unset] [(.int c1_5)])) st5 ?_
  refine own_step (T' := T5) (g' := (mkF m 42 #[.val (.int p0), .val (.int p1), .val (.int p2), .val (.int p3), .val (.int p4), .val (.int p5), .val (.ref b1), .val (.ref b3), .val (.int c1_5), .unset, .unset, .unset, .unset] [])) (fun t k => XS.istore X5.here hx rfl (hb hby at_40) rfl (l' := #[.val (.int p0), .val (.int p1), .val (.int p2), .val (.int p3), .val (.int p4), .val (.int p5), .val (.ref b1), .val (.ref b3), .val (.int c1_5), .unset, .unset, .unset, .unset]) rfl k) ?_
  refine own_step (T' := T5) (g' := (mkF m 44 #[.val (.int p0), .val (.int p1), .val (.int p2), .val (.int p3), .val (.int p4), .val (.int p5), .val (.ref b1), .val (.ref b3), .val (.int c1_5), .unset, .unset, .unset, .unset] [(.ref b1)])) (fun t k => XS.aload X5.here hx rfl (hb hby at_42) rfl rfl k) ?_
  refine own_step (T' := T5) (g' := (mkF m 46 #[.val (.int p0), .val (.int p1), .val (.int p2), .val (.int p3), .val (.int p4), .val (.int p5), .val (.ref b1), .val (.ref b3), .val (.int c1_5), .unset, .unset, .unset, .unset] [(.ref b3), (.ref b1)])) (fun t k => XS.aload X5.here hx rfl (hb hby at_44) rfl rfl k) ?_
  refine own_step (T' := T5) (g' := (mkF m 47 #[.val (.int p0), .val (.int p1), .val (.int p2), .val (.int p3), .val (.int p4), .val (.int p5), .val (.ref b1), .val (.ref b3), .val (.int c1_5), .unset, .unset, .unset, .unset] [(.int p2), (.ref b3), (.ref b1)])) (fun t k => XS.iloadN X5.here hx rfl (hb hby at_46) rfl k) ?_
  refine own_step (T' := T5) (g' := (mkF m 49 #[.val (.int p0), .val (.int p1), .val (.int p2), .val (.int p3), .val (.int p4), .val (.int p5), .val (.ref b1), .val (.ref b3), .val (.int c1_5), .unset, .unset, .unset, .unset] [(.int c1_5), (.int p2), (.ref b3), (.ref b1)])) (fun t k => XS.iload X5.here hx rfl (hb hby at_47) rfl k) ?_
  obtain ⟨_, _, ⟨T6, L6, kk6, nn6⟩, -, X6, ⟨Lc6, hQ6, l6, y6, z6⟩, st6⟩ := Jvm.LawKit.callS X5 hx (y := (⟨"com/example/tilescript/tilescript/TicTacToeAtPinLaw", "step", "(Lcom/example/tilescript/tilescript/TicTacToe;[CII)I"⟩ : MethodName)) hown (mvT hZ (hw _ (List.mem_of_getElem? (i := 14) rfl))) (mvT hZ (hw _ (List.mem_of_getElem? (i := 15) rfl))) (mvT hZ (hw _ (List.mem_of_getElem? (i := 16) rfl))) (mvT hZ (hw _ (List.mem_of_getElem? (i := 17) rfl))) (by decide) (backOf (W := 0) (rm3 l Z a0 hw [] b1 b3 p2 c1_5 x1_5 o1_5 w1_5 l1_5 k3 vs1_5 aL kL T5.heap n0 (Nat.le_trans Z0 K_5.1) E_b1_5 pq5_0 pq5_1 pq5_2 pq5_3 pq5_4 g_b1 g_b3 pq5_5 S_LINES_5 V_aL_5 ne_aL_b1 ne_aL_b3 ne_b1_b3 pq5_6 (by have : (0 : Int32).toInt = 0 := rfl; omega)) hZ (hw _ (List.mem_of_getElem? (i := 17) rfl)) (hw _ (List.mem_of_getElem? (i := 16) rfl)) (by decide) (by decide)) (g := (mkF m 49 #[.val (.int p0), .val (.int p1), .val (.int p2), .val (.int p3), .val (.int p4), .val (.int p5), .val (.ref b1), .val (.ref b3), .val (.int c1_5), .unset, .unset, .unset, .unset] [(.int c1_5), (.int p2), (.ref b3), (.ref b1)])) rfl (by rw [hml]; rfl) (argsL := [(.ref b1), (.ref b3), (.int p2), (.int c1_5)]) (rest := []) (lenOf pd_1 rfl) rfl (by show 2 * 0 + _ ≤ _; exact Nat.le_of_eq rfl) (hb hby at_49) (fun _ _ => ⟨rfl, rfl, (by decide : 2 + 0 ≤ _), (by decide : 14 + 0 ≤ _)⟩)
  dsimp only [Pt.U, Pt.locs, Pt.cells, Pt.slots] at X6 l6 y6 z6 st6 hQ6
  subst l6 y6 z6
  obtain ⟨x1_6, o1_6, w1_6, c1_6, l1_6, vs1_6, rfl, N6q, Kq6, pq6_0, pq6_1, pq6_2, pq6_3, pq6_4, pq6_5, pq6_6, pq6_7⟩ := hQ6
  have N6 := Fr.app N5 N6q
  have S_LINES_6 : Sta Z T6.heap "com/example/tilescript/tilescript/TicTacToe" "LINES" "[I" (.ref aL) := own_sta_keep S_LINES_5 Kq6 (allS E_b1_5.nostat (allS pq5_5.nostat all0))
  have V_aL_6 : Arv Z T6.heap aL kL .int (8 : Int32) [(.int (7 : Int32)), (.int (56 : Int32)), (.int (448 : Int32)), (.int (73 : Int32)), (.int (146 : Int32)), (.int (292 : Int32)), (.int (273 : Int32)), (.int (84 : Int32))] (.int (0 : Int32)) := V_aL_5.keep Kq6 (ninS ne_aL_b1 (ninS ne_aL_b3 nin0))
  have E_b1_6 : Exa Z T6.heap b1 "com/example/tilescript/tilescript/TicTacToe" := E_b1_5.keep Kq6
  have K_6 : Keep h0 T6.heap [] := K_5.trans Kq6 (allS (Or.inr sz_b1) (allS (Or.inr sz_b3) all0))
  refine own_step (T' := T6) (g' := (mkF m 52 #[.val (.int p0), .val (.int p1), .val (.int p2), .val (.int p3), .val (.int p4), .val (.int p5), .val (.ref b1), .val (.ref b3), .val (.int c1_5), .unset, .unset, .unset, .unset] [(.int c1_6)])) st6 ?_
  refine own_step (T' := T6) (g' := (mkF m 54 #[.val (.int p0), .val (.int p1), .val (.int p2), .val (.int p3), .val (.int p4), .val (.int p5), .val (.ref b1), .val (.ref b3), .val (.int c1_6), .unset, .unset, .unset, .unset] [])) (fun t k => XS.istore X6.here hx rfl (hb hby at_52) rfl (l' := #[.val (.int p0), .val (.int p1), .val (.int p2), .val (.int p3), .val (.int p4), .val (.int p5), .val (.ref b1), .val (.ref b3), .val (.int c1_6), .unset, .unset, .unset, .unset]) rfl k) ?_
  refine own_step (T' := T6) (g' := (mkF m 56 #[.val (.int p0), .val (.int p1), .val (.int p2), .val (.int p3), .val (.int p4), .val (.int p5), .val (.ref b1), .val (.ref b3), .val (.int c1_6), .unset, .unset, .unset, .unset] [(.ref b1)])) (fun t k => XS.aload X6.here hx rfl (hb hby at_54) rfl rfl k) ?_
  refine own_step (T' := T6) (g' := (mkF m 58 #[.val (.int p0), .val (.int p1), .val (.int p2), .val (.int p3), .val (.int p4), .val (.int p5), .val (.ref b1), .val (.ref b3), .val (.int c1_6), .unset, .unset, .unset, .unset] [(.ref b3), (.ref b1)])) (fun t k => XS.aload X6.here hx rfl (hb hby at_56) rfl rfl k) ?_
  refine own_step (T' := T6) (g' := (mkF m 59 #[.val (.int p0), .val (.int p1), .val (.int p2), .val (.int p3), .val (.int p4), .val (.int p5), .val (.ref b1), .val (.ref b3), .val (.int c1_6), .unset, .unset, .unset, .unset] [(.int p3), (.ref b3), (.ref b1)])) (fun t k => XS.iloadN X6.here hx rfl (hb hby at_58) rfl k) ?_
  refine own_step (T' := T6) (g' := (mkF m 61 #[.val (.int p0), .val (.int p1), .val (.int p2), .val (.int p3), .val (.int p4), .val (.int p5), .val (.ref b1), .val (.ref b3), .val (.int c1_6), .unset, .unset, .unset, .unset] [(.int c1_6), (.int p3), (.ref b3), (.ref b1)])) (fun t k => XS.iload X6.here hx rfl (hb hby at_59) rfl k) ?_
  obtain ⟨_, _, ⟨T7, L7, kk7, nn7⟩, -, X7, ⟨Lc7, hQ7, l7, y7, z7⟩, st7⟩ := Jvm.LawKit.callS X6 hx (y := (⟨"com/example/tilescript/tilescript/TicTacToeAtPinLaw", "step", "(Lcom/example/tilescript/tilescript/TicTacToe;[CII)I"⟩ : MethodName)) hown (mvT hZ (hw _ (List.mem_of_getElem? (i := 14) rfl))) (mvT hZ (hw _ (List.mem_of_getElem? (i := 15) rfl))) (mvT hZ (hw _ (List.mem_of_getElem? (i := 16) rfl))) (mvT hZ (hw _ (List.mem_of_getElem? (i := 17) rfl))) (by decide) (backOf (W := 0) (rm3 l Z a0 hw [] b1 b3 p3 c1_6 x1_6 o1_6 w1_6 l1_6 k3 vs1_6 aL kL T6.heap n0 (Nat.le_trans Z0 K_6.1) E_b1_6 pq6_0 pq6_1 pq6_2 pq6_3 pq6_4 g_b1 g_b3 pq6_5 S_LINES_6 V_aL_6 ne_aL_b1 ne_aL_b3 ne_b1_b3 pq6_6 (by have : (0 : Int32).toInt = 0 := rfl; omega)) hZ (hw _ (List.mem_of_getElem? (i := 17) rfl)) (hw _ (List.mem_of_getElem? (i := 16) rfl)) (by decide) (by decide)) (g := (mkF m 61 #[.val (.int p0), .val (.int p1), .val (.int p2), .val (.int p3), .val (.int p4), .val (.int p5), .val (.ref b1), .val (.ref b3), .val (.int c1_6), .unset, .unset, .unset, .unset] [(.int c1_6), (.int p3), (.ref b3), (.ref b1)])) rfl (by rw [hml]; rfl) (argsL := [(.ref b1), (.ref b3), (.int p3), (.int c1_6)]) (rest := []) (lenOf pd_1 rfl) rfl (by show 2 * 0 + _ ≤ _; exact Nat.le_of_eq rfl) (hb hby at_61) (fun _ _ => ⟨rfl, rfl, (by decide : 2 + 0 ≤ _), (by decide : 14 + 0 ≤ _)⟩)
  dsimp only [Pt.U, Pt.locs, Pt.cells, Pt.slots] at X7 l7 y7 z7 st7 hQ7
  subst l7 y7 z7
  obtain ⟨x1_7, o1_7, w1_7, c1_7, l1_7, vs1_7, rfl, N7q, Kq7, pq7_0, pq7_1, pq7_2, pq7_3, pq7_4, pq7_5, pq7_6, pq7_7⟩ := hQ7
  have N7 := Fr.app N6 N7q
  have S_LINES_7 : Sta Z T7.heap "com/example/tilescript/tilescript/TicTacToe" "LINES" "[I" (.ref aL) := own_sta_keep S_LINES_6 Kq7 (allS E_b1_6.nostat (allS pq6_5.nostat all0))
  have V_aL_7 : Arv Z T7.heap aL kL .int (8 : Int32) [(.int (7 : Int32)), (.int (56 : Int32)), (.int (448 : Int32)), (.int (73 : Int32)), (.int (146 : Int32)), (.int (292 : Int32)), (.int (273 : Int32)), (.int (84 : Int32))] (.int (0 : Int32)) := V_aL_6.keep Kq7 (ninS ne_aL_b1 (ninS ne_aL_b3 nin0))
  have E_b1_7 : Exa Z T7.heap b1 "com/example/tilescript/tilescript/TicTacToe" := E_b1_6.keep Kq7
  have K_7 : Keep h0 T7.heap [] := K_6.trans Kq7 (allS (Or.inr sz_b1) (allS (Or.inr sz_b3) all0))
  refine own_step (T' := T7) (g' := (mkF m 64 #[.val (.int p0), .val (.int p1), .val (.int p2), .val (.int p3), .val (.int p4), .val (.int p5), .val (.ref b1), .val (.ref b3), .val (.int c1_6), .unset, .unset, .unset, .unset] [(.int c1_7)])) st7 ?_
  refine own_step (T' := T7) (g' := (mkF m 66 #[.val (.int p0), .val (.int p1), .val (.int p2), .val (.int p3), .val (.int p4), .val (.int p5), .val (.ref b1), .val (.ref b3), .val (.int c1_7), .unset, .unset, .unset, .unset] [])) (fun t k => XS.istore X7.here hx rfl (hb hby at_64) rfl (l' := #[.val (.int p0), .val (.int p1), .val (.int p2), .val (.int p3), .val (.int p4), .val (.int p5), .val (.ref b1), .val (.ref b3), .val (.int c1_7), .unset, .unset, .unset, .unset]) rfl k) ?_
  refine own_step (T' := T7) (g' := (mkF m 68 #[.val (.int p0), .val (.int p1), .val (.int p2), .val (.int p3), .val (.int p4), .val (.int p5), .val (.ref b1), .val (.ref b3), .val (.int c1_7), .unset, .unset, .unset, .unset] [(.ref b1)])) (fun t k => XS.aload X7.here hx rfl (hb hby at_66) rfl rfl k) ?_
  refine own_step (T' := T7) (g' := (mkF m 70 #[.val (.int p0), .val (.int p1), .val (.int p2), .val (.int p3), .val (.int p4), .val (.int p5), .val (.ref b1), .val (.ref b3), .val (.int c1_7), .unset, .unset, .unset, .unset] [(.ref b3), (.ref b1)])) (fun t k => XS.aload X7.here hx rfl (hb hby at_68) rfl rfl k) ?_
  refine own_step (T' := T7) (g' := (mkF m 72 #[.val (.int p0), .val (.int p1), .val (.int p2), .val (.int p3), .val (.int p4), .val (.int p5), .val (.ref b1), .val (.ref b3), .val (.int c1_7), .unset, .unset, .unset, .unset] [(.int p4), (.ref b3), (.ref b1)])) (fun t k => XS.iload X7.here hx rfl (hb hby at_70) rfl k) ?_
  refine own_step (T' := T7) (g' := (mkF m 74 #[.val (.int p0), .val (.int p1), .val (.int p2), .val (.int p3), .val (.int p4), .val (.int p5), .val (.ref b1), .val (.ref b3), .val (.int c1_7), .unset, .unset, .unset, .unset] [(.int c1_7), (.int p4), (.ref b3), (.ref b1)])) (fun t k => XS.iload X7.here hx rfl (hb hby at_72) rfl k) ?_
  obtain ⟨_, _, ⟨T8, L8, kk8, nn8⟩, -, X8, ⟨Lc8, hQ8, l8, y8, z8⟩, st8⟩ := Jvm.LawKit.callS X7 hx (y := (⟨"com/example/tilescript/tilescript/TicTacToeAtPinLaw", "step", "(Lcom/example/tilescript/tilescript/TicTacToe;[CII)I"⟩ : MethodName)) hown (mvT hZ (hw _ (List.mem_of_getElem? (i := 14) rfl))) (mvT hZ (hw _ (List.mem_of_getElem? (i := 15) rfl))) (mvT hZ (hw _ (List.mem_of_getElem? (i := 16) rfl))) (mvT hZ (hw _ (List.mem_of_getElem? (i := 17) rfl))) (by decide) (backOf (W := 0) (rm3 l Z a0 hw [] b1 b3 p4 c1_7 x1_7 o1_7 w1_7 l1_7 k3 vs1_7 aL kL T7.heap n0 (Nat.le_trans Z0 K_7.1) E_b1_7 pq7_0 pq7_1 pq7_2 pq7_3 pq7_4 g_b1 g_b3 pq7_5 S_LINES_7 V_aL_7 ne_aL_b1 ne_aL_b3 ne_b1_b3 pq7_6 (by have : (0 : Int32).toInt = 0 := rfl; omega)) hZ (hw _ (List.mem_of_getElem? (i := 17) rfl)) (hw _ (List.mem_of_getElem? (i := 16) rfl)) (by decide) (by decide)) (g := (mkF m 74 #[.val (.int p0), .val (.int p1), .val (.int p2), .val (.int p3), .val (.int p4), .val (.int p5), .val (.ref b1), .val (.ref b3), .val (.int c1_7), .unset, .unset, .unset, .unset] [(.int c1_7), (.int p4), (.ref b3), (.ref b1)])) rfl (by rw [hml]; rfl) (argsL := [(.ref b1), (.ref b3), (.int p4), (.int c1_7)]) (rest := []) (lenOf pd_1 rfl) rfl (by show 2 * 0 + _ ≤ _; exact Nat.le_of_eq rfl) (hb hby at_74) (fun _ _ => ⟨rfl, rfl, (by decide : 2 + 0 ≤ _), (by decide : 14 + 0 ≤ _)⟩)
  dsimp only [Pt.U, Pt.locs, Pt.cells, Pt.slots] at X8 l8 y8 z8 st8 hQ8
  subst l8 y8 z8
  obtain ⟨x1_8, o1_8, w1_8, c1_8, l1_8, vs1_8, rfl, N8q, Kq8, pq8_0, pq8_1, pq8_2, pq8_3, pq8_4, pq8_5, pq8_6, pq8_7⟩ := hQ8
  have N8 := Fr.app N7 N8q
  have S_LINES_8 : Sta Z T8.heap "com/example/tilescript/tilescript/TicTacToe" "LINES" "[I" (.ref aL) := own_sta_keep S_LINES_7 Kq8 (allS E_b1_7.nostat (allS pq7_5.nostat all0))
  have V_aL_8 : Arv Z T8.heap aL kL .int (8 : Int32) [(.int (7 : Int32)), (.int (56 : Int32)), (.int (448 : Int32)), (.int (73 : Int32)), (.int (146 : Int32)), (.int (292 : Int32)), (.int (273 : Int32)), (.int (84 : Int32))] (.int (0 : Int32)) := V_aL_7.keep Kq8 (ninS ne_aL_b1 (ninS ne_aL_b3 nin0))
  have E_b1_8 : Exa Z T8.heap b1 "com/example/tilescript/tilescript/TicTacToe" := E_b1_7.keep Kq8
  have K_8 : Keep h0 T8.heap [] := K_7.trans Kq8 (allS (Or.inr sz_b1) (allS (Or.inr sz_b3) all0))
  refine own_step (T' := T8) (g' := (mkF m 77 #[.val (.int p0), .val (.int p1), .val (.int p2), .val (.int p3), .val (.int p4), .val (.int p5), .val (.ref b1), .val (.ref b3), .val (.int c1_7), .unset, .unset, .unset, .unset] [(.int c1_8)])) st8 ?_
  refine own_step (T' := T8) (g' := (mkF m 79 #[.val (.int p0), .val (.int p1), .val (.int p2), .val (.int p3), .val (.int p4), .val (.int p5), .val (.ref b1), .val (.ref b3), .val (.int c1_8), .unset, .unset, .unset, .unset] [])) (fun t k => XS.istore X8.here hx rfl (hb hby at_77) rfl (l' := #[.val (.int p0), .val (.int p1), .val (.int p2), .val (.int p3), .val (.int p4), .val (.int p5), .val (.ref b1), .val (.ref b3), .val (.int c1_8), .unset, .unset, .unset, .unset]) rfl k) ?_
  refine own_step (T' := T8) (g' := (mkF m 81 #[.val (.int p0), .val (.int p1), .val (.int p2), .val (.int p3), .val (.int p4), .val (.int p5), .val (.ref b1), .val (.ref b3), .val (.int c1_8), .unset, .unset, .unset, .unset] [(.int p5)])) (fun t k => XS.iload X8.here hx rfl (hb hby at_79) rfl k) ?_
  refine own_step (T' := T8) (g' := (mkF m 83 #[.val (.int p0), .val (.int p1), .val (.int p2), .val (.int p3), .val (.int p4), .val (.int p5), .val (.ref b1), .val (.ref b3), .val (.int c1_8), .unset, .unset, .unset, .unset] [(.int (65535 : Int32)), (.int p5)])) (fun t k => X8.ldcInt hx hown (mvT hZ (hw _ (List.mem_of_getElem? (i := 47) rfl))) (g := (mkF m 81 #[.val (.int p0), .val (.int p1), .val (.int p2), .val (.int p3), .val (.int p4), .val (.int p5), .val (.ref b1), .val (.ref b3), .val (.int c1_8), .unset, .unset, .unset, .unset] [(.int p5)])) rfl (hb hby at_81) t k) ?_
  refine own_step (T' := T8) (g' := (mkF m 84 #[.val (.int p0), .val (.int p1), .val (.int p2), .val (.int p3), .val (.int p4), .val (.int p5), .val (.ref b1), .val (.ref b3), .val (.int c1_8), .unset, .unset, .unset, .unset] [(.int (p5 &&& (65535 : Int32)))])) (fun t k => XS.iand X8.here hx rfl (hb hby at_83) rfl k) ?_
  refine own_step (T' := T8) (g' := (mkF m 86 #[.val (.int p0), .val (.int p1), .val (.int p2), .val (.int p3), .val (.int p4), .val (.int p5), .val (.ref b1), .val (.ref b3), .val (.int c1_8), .unset, .unset, .unset, .unset] [(.int (9 : Int32)), (.int (p5 &&& (65535 : Int32)))])) (fun t k => XS.bipush X8.here hx rfl (hb hby at_84) k) ?_
  refine own_step (T' := T8) (g' := (mkF m 87 #[.val (.int p0), .val (.int p1), .val (.int p2), .val (.int p3), .val (.int p4), .val (.int p5), .val (.ref b1), .val (.ref b3), .val (.int c1_8), .unset, .unset, .unset, .unset] [(.int ((p5 &&& (65535 : Int32)) % (9 : Int32)))])) (fun t k => Jvm.RoadKit.iremM X8 hx rfl (hb hby at_86) rfl (by decide) k) ?_
  generalize hv9 : ((p5 &&& (65535 : Int32)) % (9 : Int32)) = v9
  refine own_step (T' := T8) (g' := (mkF m 89 #[.val (.int p0), .val (.int p1), .val (.int p2), .val (.int p3), .val (.int p4), .val (.int p5), .val (.ref b1), .val (.ref b3), .val (.int c1_8), .val (.int v9), .unset, .unset, .unset] [])) (fun t k => XS.istore X8.here hx rfl (hb hby at_87) rfl (l' := #[.val (.int p0), .val (.int p1), .val (.int p2), .val (.int p3), .val (.int p4), .val (.int p5), .val (.ref b1), .val (.ref b3), .val (.int c1_8), .val (.int v9), .unset, .unset, .unset]) rfl k) ?_
  refine own_step (T' := T8) (g' := (mkF m 91 #[.val (.int p0), .val (.int p1), .val (.int p2), .val (.int p3), .val (.int p4), .val (.int p5), .val (.ref b1), .val (.ref b3), .val (.int c1_8), .val (.int v9), .unset, .unset, .unset] [(.int p5)])) (fun t k => XS.iload X8.here hx rfl (hb hby at_89) rfl k) ?_
  refine own_step (T' := T8) (g' := (mkF m 93 #[.val (.int p0), .val (.int p1), .val (.int p2), .val (.int p3), .val (.int p4), .val (.int p5), .val (.ref b1), .val (.ref b3), .val (.int c1_8), .val (.int v9), .unset, .unset, .unset] [(.int (16 : Int32)), (.int p5)])) (fun t k => XS.bipush X8.here hx rfl (hb hby at_91) k) ?_
  refine own_step (T' := T8) (g' := (mkF m 94 #[.val (.int p0), .val (.int p1), .val (.int p2), .val (.int p3), .val (.int p4), .val (.int p5), .val (.ref b1), .val (.ref b3), .val (.int c1_8), .val (.int v9), .unset, .unset, .unset] [(.int (p5.toUInt32 >>> ((16 : Int32) &&& 31).toUInt32).toInt32)])) (fun t k => XS.iushr X8.here hx rfl (hb hby at_93) rfl k) ?_
  refine own_step (T' := T8) (g' := (mkF m 96 #[.val (.int p0), .val (.int p1), .val (.int p2), .val (.int p3), .val (.int p4), .val (.int p5), .val (.ref b1), .val (.ref b3), .val (.int c1_8), .val (.int v9), .unset, .unset, .unset] [(.int (9 : Int32)), (.int (p5.toUInt32 >>> ((16 : Int32) &&& 31).toUInt32).toInt32)])) (fun t k => XS.bipush X8.here hx rfl (hb hby at_94) k) ?_
  refine own_step (T' := T8) (g' := (mkF m 97 #[.val (.int p0), .val (.int p1), .val (.int p2), .val (.int p3), .val (.int p4), .val (.int p5), .val (.ref b1), .val (.ref b3), .val (.int c1_8), .val (.int v9), .unset, .unset, .unset] [(.int ((p5.toUInt32 >>> ((16 : Int32) &&& 31).toUInt32).toInt32 % (9 : Int32)))])) (fun t k => Jvm.RoadKit.iremM X8 hx rfl (hb hby at_96) rfl (by decide) k) ?_
  generalize hv10 : ((p5.toUInt32 >>> ((16 : Int32) &&& 31).toUInt32).toInt32 % (9 : Int32)) = v10
  refine own_step (T' := T8) (g' := (mkF m 99 #[.val (.int p0), .val (.int p1), .val (.int p2), .val (.int p3), .val (.int p4), .val (.int p5), .val (.ref b1), .val (.ref b3), .val (.int c1_8), .val (.int v9), .val (.int v10), .unset, .unset] [])) (fun t k => XS.istore X8.here hx rfl (hb hby at_97) rfl (l' := #[.val (.int p0), .val (.int p1), .val (.int p2), .val (.int p3), .val (.int p4), .val (.int p5), .val (.ref b1), .val (.ref b3), .val (.int c1_8), .val (.int v9), .val (.int v10), .unset, .unset]) rfl k) ?_
  refine own_step (T' := T8) (g' := (mkF m 101 #[.val (.int p0), .val (.int p1), .val (.int p2), .val (.int p3), .val (.int p4), .val (.int p5), .val (.ref b1), .val (.ref b3), .val (.int c1_8), .val (.int v9), .val (.int v10), .unset, .unset] [(.ref b1)])) (fun t k => XS.aload X8.here hx rfl (hb hby at_99) rfl rfl k) ?_
  refine own_step (T' := T8) (g' := (mkF m 103 #[.val (.int p0), .val (.int p1), .val (.int p2), .val (.int p3), .val (.int p4), .val (.int p5), .val (.ref b1), .val (.ref b3), .val (.int c1_8), .val (.int v9), .val (.int v10), .unset, .unset] [(.int v9), (.ref b1)])) (fun t k => XS.iload X8.here hx rfl (hb hby at_101) rfl k) ?_
  obtain ⟨cq11, kq11, qq11a, qq11b, qq11c⟩ := isOf hZ rfl E_b1_8
  obtain ⟨_, _, ⟨T11, L11, kk11, nn11⟩, -, X11, ⟨Lc11, hQ11, l11, y11, z11⟩, st11⟩ := X8.virtualBack hx (y := (⟨"com/example/tilescript/tilescript/TicTacToe", "at", "(I)C"⟩ : MethodName)) (z := (⟨"com/example/tilescript/tilescript/TicTacToe", "at", "(I)C"⟩ : MethodName)) hown (mvT hZ (hw _ (List.mem_of_getElem? (i := 48) rfl))) (mvT hZ (hw _ (List.mem_of_getElem? (i := 49) rfl))) (notFace_of_selects (args := #[]) (mvT hZ (hw _ (List.mem_of_getElem? (i := 51) rfl)))) (mvT hZ (hw _ (List.mem_of_getElem? (i := 51) rfl))) (mvT hZ (hw _ (List.mem_of_getElem? (i := 50) rfl))) (by decide) (backOf (W := 0) (rm8 l Z a0 hw [] b1 v9 x1_8 o1_8 T8.heap n0 (Nat.le_trans Z0 K_8.1) pq8_0 pq8_1) hZ (hw _ (List.mem_of_getElem? (i := 52) rfl)) (hw _ (List.mem_of_getElem? (i := 2) rfl)) (by decide) (by decide)) qq11a qq11c (g := (mkF m 103 #[.val (.int p0), .val (.int p1), .val (.int p2), .val (.int p3), .val (.int p4), .val (.int p5), .val (.ref b1), .val (.ref b3), .val (.int c1_8), .val (.int v9), .val (.int v10), .unset, .unset] [(.int v9), (.ref b1)])) rfl (by rw [hml]; rfl) (Steps.refl _) (argsL := [(.int v9)]) (rest := []) (lenOf pd_6 rfl) rfl (by show 2 * 0 + _ ≤ _; exact Nat.le_of_eq rfl) (hb hby at_103) (fun _ _ => ⟨rfl, rfl, (by decide : 2 + 0 ≤ _), (by decide : 14 + 0 ≤ _)⟩)
  dsimp only [Pt.U, Pt.locs, Pt.cells, Pt.slots] at X11 l11 y11 z11 st11 hQ11
  subst l11 y11 z11
  obtain ⟨rfl, N11q, eq11⟩ := hQ11
  have N11 := Fr.app N8 N11q
  refine own_step (T' := T11) (g' := (mkF m 106 #[.val (.int p0), .val (.int p1), .val (.int p2), .val (.int p3), .val (.int p4), .val (.int p5), .val (.ref b1), .val (.ref b3), .val (.int c1_8), .val (.int v9), .val (.int v10), .unset, .unset] [(.int (fnAt v9 x1_8 o1_8))])) (fun t k => st11.trans k) ?_
  refine own_step (T' := T11) (g' := (mkF m 108 #[.val (.int p0), .val (.int p1), .val (.int p2), .val (.int p3), .val (.int p4), .val (.int p5), .val (.ref b1), .val (.ref b3), .val (.int c1_8), .val (.int v9), .val (.int v10), .unset, .unset] [(.ref b3), (.int (fnAt v9 x1_8 o1_8))])) (fun t k => XS.aload X11.here hx rfl (hb hby at_106) rfl rfl k) ?_
  refine own_step (T' := T11) (g' := (mkF m 110 #[.val (.int p0), .val (.int p1), .val (.int p2), .val (.int p3), .val (.int p4), .val (.int p5), .val (.ref b1), .val (.ref b3), .val (.int c1_8), .val (.int v9), .val (.int v10), .unset, .unset] [(.int v9), (.ref b3), (.int (fnAt v9 x1_8 o1_8))])) (fun t k => XS.iload X11.here hx rfl (hb hby at_108) rfl k) ?_
  have hk13 := own_k1 p5 v9 hv9
  obtain ⟨rr13, hrr13, heq13⟩ := own_inv_at pq8_6 hk13
  obtain ⟨_, _, ⟨T12, L12, kk12, nn12⟩, -, X12, ⟨Lc12, hQ12, l12, y12, z12⟩, st12⟩ := Jvm.LawKit.callS X11 hx (y := (⟨"com/example/tilescript/tilescript/TicTacToeAtPinLaw", "expected", "([CI)C"⟩ : MethodName)) hown (mvT hZ (hw _ (List.mem_of_getElem? (i := 53) rfl))) (mvT hZ (hw _ (List.mem_of_getElem? (i := 54) rfl))) (mvT hZ (hw _ (List.mem_of_getElem? (i := 16) rfl))) (mvT hZ (hw _ (List.mem_of_getElem? (i := 55) rfl))) (by decide) (backOf (W := 1) (rm9 l Z a0 hw [] b3 v9 k3 vs1_8 rr13 T8.heap n0 (Nat.le_trans Z0 K_8.1) pq8_5 (own_k9 hk13) hrr13) hZ (hw _ (List.mem_of_getElem? (i := 55) rfl)) (hw _ (List.mem_of_getElem? (i := 16) rfl)) (by decide) (by decide)) (g := (mkF m 110 #[.val (.int p0), .val (.int p1), .val (.int p2), .val (.int p3), .val (.int p4), .val (.int p5), .val (.ref b1), .val (.ref b3), .val (.int c1_8), .val (.int v9), .val (.int v10), .unset, .unset] [(.int v9), (.ref b3), (.int (fnAt v9 x1_8 o1_8))])) rfl (by rw [hml]; rfl) (argsL := [(.ref b3), (.int v9)]) (rest := [(.int (fnAt v9 x1_8 o1_8))]) (lenOf pd_7 rfl) rfl (by show 2 * 0 + _ ≤ _; exact Nat.le_of_eq rfl) (hb hby at_110) (fun _ _ => ⟨rfl, eq11, (by decide : 2 + 0 ≤ _), (by decide : 14 + 0 ≤ _)⟩)
  dsimp only [Pt.U, Pt.locs, Pt.cells, Pt.slots] at X12 l12 y12 z12 st12 hQ12
  subst l12 y12 z12
  obtain ⟨rfl, N12q, eq12⟩ := hQ12
  have N12 := Fr.app N11 N12q
  refine own_step (T' := T12) (g' := (mkF m 113 #[.val (.int p0), .val (.int p1), .val (.int p2), .val (.int p3), .val (.int p4), .val (.int p5), .val (.ref b1), .val (.ref b3), .val (.int c1_8), .val (.int v9), .val (.int v10), .unset, .unset] [(.int (fnExp v9 rr13)), (.int (fnAt v9 x1_8 o1_8))])) st12 ?_
  refine own_step (T' := T12) (g' := (mkF m 116 #[.val (.int p0), .val (.int p1), .val (.int p2), .val (.int p3), .val (.int p4), .val (.int p5), .val (.ref b1), .val (.ref b3), .val (.int c1_8), .val (.int v9), .val (.int v10), .unset, .unset] [])) (fun t k => XS.icmpNo X12.here hx rfl (hb hby at_113) rfl (teq heq13).2 k) ?_
  refine own_step (T' := T12) (g' := (mkF m 117 #[.val (.int p0), .val (.int p1), .val (.int p2), .val (.int p3), .val (.int p4), .val (.int p5), .val (.ref b1), .val (.ref b3), .val (.int c1_8), .val (.int v9), .val (.int v10), .unset, .unset] [(.int (1 : Int32))])) (fun t k => XS.iconst X12.here hx rfl (hb hby at_116) k) ?_
  refine own_step (T' := T12) (g' := (mkF m 121 #[.val (.int p0), .val (.int p1), .val (.int p2), .val (.int p3), .val (.int p4), .val (.int p5), .val (.ref b1), .val (.ref b3), .val (.int c1_8), .val (.int v9), .val (.int v10), .unset, .unset] [(.int (1 : Int32))])) (fun t k => XS.goto X12.here hx rfl (pc0 := 117) (pc' := 121) rfl (hb hby at_117) (by decide) (by decide) k) ?_
  refine own_step (T' := T12) (g' := (mkF m 123 #[.val (.int p0), .val (.int p1), .val (.int p2), .val (.int p3), .val (.int p4), .val (.int p5), .val (.ref b1), .val (.ref b3), .val (.int c1_8), .val (.int v9), .val (.int v10), .val (.int (1 : Int32)), .unset] [])) (fun t k => XS.istore X12.here hx rfl (hb hby at_121) rfl (l' := #[.val (.int p0), .val (.int p1), .val (.int p2), .val (.int p3), .val (.int p4), .val (.int p5), .val (.ref b1), .val (.ref b3), .val (.int c1_8), .val (.int v9), .val (.int v10), .val (.int (1 : Int32)), .unset]) rfl k) ?_
  refine own_step (T' := T12) (g' := (mkF m 125 #[.val (.int p0), .val (.int p1), .val (.int p2), .val (.int p3), .val (.int p4), .val (.int p5), .val (.ref b1), .val (.ref b3), .val (.int c1_8), .val (.int v9), .val (.int v10), .val (.int (1 : Int32)), .unset] [(.ref b1)])) (fun t k => XS.aload X12.here hx rfl (hb hby at_123) rfl rfl k) ?_
  refine own_step (T' := T12) (g' := (mkF m 127 #[.val (.int p0), .val (.int p1), .val (.int p2), .val (.int p3), .val (.int p4), .val (.int p5), .val (.ref b1), .val (.ref b3), .val (.int c1_8), .val (.int v9), .val (.int v10), .val (.int (1 : Int32)), .unset] [(.int v10), (.ref b1)])) (fun t k => XS.iload X12.here hx rfl (hb hby at_125) rfl k) ?_
  obtain ⟨cq14, kq14, qq14a, qq14b, qq14c⟩ := isOf hZ eq12 E_b1_8
  obtain ⟨_, _, ⟨T14, L14, kk14, nn14⟩, -, X14, ⟨Lc14, hQ14, l14, y14, z14⟩, st14⟩ := X12.virtualBack hx (y := (⟨"com/example/tilescript/tilescript/TicTacToe", "at", "(I)C"⟩ : MethodName)) (z := (⟨"com/example/tilescript/tilescript/TicTacToe", "at", "(I)C"⟩ : MethodName)) hown (mvT hZ (hw _ (List.mem_of_getElem? (i := 48) rfl))) (mvT hZ (hw _ (List.mem_of_getElem? (i := 49) rfl))) (notFace_of_selects (args := #[]) (mvT hZ (hw _ (List.mem_of_getElem? (i := 51) rfl)))) (mvT hZ (hw _ (List.mem_of_getElem? (i := 51) rfl))) (mvT hZ (hw _ (List.mem_of_getElem? (i := 50) rfl))) (by decide) (backOf (W := 0) (rm8 l Z a0 hw [] b1 v10 x1_8 o1_8 T8.heap n0 (Nat.le_trans Z0 K_8.1) pq8_0 pq8_1) hZ (hw _ (List.mem_of_getElem? (i := 52) rfl)) (hw _ (List.mem_of_getElem? (i := 2) rfl)) (by decide) (by decide)) qq14a qq14c (g := (mkF m 127 #[.val (.int p0), .val (.int p1), .val (.int p2), .val (.int p3), .val (.int p4), .val (.int p5), .val (.ref b1), .val (.ref b3), .val (.int c1_8), .val (.int v9), .val (.int v10), .val (.int (1 : Int32)), .unset] [(.int v10), (.ref b1)])) rfl (by rw [hml]; rfl) (Steps.refl _) (argsL := [(.int v10)]) (rest := []) (lenOf pd_6 rfl) rfl (by show 2 * 0 + _ ≤ _; exact Nat.le_of_eq rfl) (hb hby at_127) (fun _ _ => ⟨rfl, eq12, (by decide : 2 + 0 ≤ _), (by decide : 14 + 0 ≤ _)⟩)
  dsimp only [Pt.U, Pt.locs, Pt.cells, Pt.slots] at X14 l14 y14 z14 st14 hQ14
  subst l14 y14 z14
  obtain ⟨rfl, N14q, eq14⟩ := hQ14
  have N14 := Fr.app N12 N14q
  refine own_step (T' := T14) (g' := (mkF m 130 #[.val (.int p0), .val (.int p1), .val (.int p2), .val (.int p3), .val (.int p4), .val (.int p5), .val (.ref b1), .val (.ref b3), .val (.int c1_8), .val (.int v9), .val (.int v10), .val (.int (1 : Int32)), .unset] [(.int (fnAt v10 x1_8 o1_8))])) (fun t k => st14.trans k) ?_
  refine own_step (T' := T14) (g' := (mkF m 132 #[.val (.int p0), .val (.int p1), .val (.int p2), .val (.int p3), .val (.int p4), .val (.int p5), .val (.ref b1), .val (.ref b3), .val (.int c1_8), .val (.int v9), .val (.int v10), .val (.int (1 : Int32)), .unset] [(.ref b3), (.int (fnAt v10 x1_8 o1_8))])) (fun t k => XS.aload X14.here hx rfl (hb hby at_130) rfl rfl k) ?_
  refine own_step (T' := T14) (g' := (mkF m 134 #[.val (.int p0), .val (.int p1), .val (.int p2), .val (.int p3), .val (.int p4), .val (.int p5), .val (.ref b1), .val (.ref b3), .val (.int c1_8), .val (.int v9), .val (.int v10), .val (.int (1 : Int32)), .unset] [(.int v10), (.ref b3), (.int (fnAt v10 x1_8 o1_8))])) (fun t k => XS.iload X14.here hx rfl (hb hby at_132) rfl k) ?_
  have hk16 := own_k2 p5 v10 hv10
  obtain ⟨rr16, hrr16, heq16⟩ := own_inv_at pq8_6 hk16
  obtain ⟨_, _, ⟨T15, L15, kk15, nn15⟩, -, X15, ⟨Lc15, hQ15, l15, y15, z15⟩, st15⟩ := Jvm.LawKit.callS X14 hx (y := (⟨"com/example/tilescript/tilescript/TicTacToeAtPinLaw", "expected", "([CI)C"⟩ : MethodName)) hown (mvT hZ (hw _ (List.mem_of_getElem? (i := 53) rfl))) (mvT hZ (hw _ (List.mem_of_getElem? (i := 54) rfl))) (mvT hZ (hw _ (List.mem_of_getElem? (i := 16) rfl))) (mvT hZ (hw _ (List.mem_of_getElem? (i := 55) rfl))) (by decide) (backOf (W := 1) (rm9 l Z a0 hw [] b3 v10 k3 vs1_8 rr16 T8.heap n0 (Nat.le_trans Z0 K_8.1) pq8_5 (own_k9 hk16) hrr16) hZ (hw _ (List.mem_of_getElem? (i := 55) rfl)) (hw _ (List.mem_of_getElem? (i := 16) rfl)) (by decide) (by decide)) (g := (mkF m 134 #[.val (.int p0), .val (.int p1), .val (.int p2), .val (.int p3), .val (.int p4), .val (.int p5), .val (.ref b1), .val (.ref b3), .val (.int c1_8), .val (.int v9), .val (.int v10), .val (.int (1 : Int32)), .unset] [(.int v10), (.ref b3), (.int (fnAt v10 x1_8 o1_8))])) rfl (by rw [hml]; rfl) (argsL := [(.ref b3), (.int v10)]) (rest := [(.int (fnAt v10 x1_8 o1_8))]) (lenOf pd_7 rfl) rfl (by show 2 * 0 + _ ≤ _; exact Nat.le_of_eq rfl) (hb hby at_134) (fun _ _ => ⟨rfl, eq14, (by decide : 2 + 0 ≤ _), (by decide : 14 + 0 ≤ _)⟩)
  dsimp only [Pt.U, Pt.locs, Pt.cells, Pt.slots] at X15 l15 y15 z15 st15 hQ15
  subst l15 y15 z15
  obtain ⟨rfl, N15q, eq15⟩ := hQ15
  have N15 := Fr.app N14 N15q
  refine own_step (T' := T15) (g' := (mkF m 137 #[.val (.int p0), .val (.int p1), .val (.int p2), .val (.int p3), .val (.int p4), .val (.int p5), .val (.ref b1), .val (.ref b3), .val (.int c1_8), .val (.int v9), .val (.int v10), .val (.int (1 : Int32)), .unset] [(.int (fnExp v10 rr16)), (.int (fnAt v10 x1_8 o1_8))])) st15 ?_
  refine own_step (T' := T15) (g' := (mkF m 140 #[.val (.int p0), .val (.int p1), .val (.int p2), .val (.int p3), .val (.int p4), .val (.int p5), .val (.ref b1), .val (.ref b3), .val (.int c1_8), .val (.int v9), .val (.int v10), .val (.int (1 : Int32)), .unset] [])) (fun t k => XS.icmpNo X15.here hx rfl (hb hby at_137) rfl (teq heq16).2 k) ?_
  refine own_step (T' := T15) (g' := (mkF m 141 #[.val (.int p0), .val (.int p1), .val (.int p2), .val (.int p3), .val (.int p4), .val (.int p5), .val (.ref b1), .val (.ref b3), .val (.int c1_8), .val (.int v9), .val (.int v10), .val (.int (1 : Int32)), .unset] [(.int (1 : Int32))])) (fun t k => XS.iconst X15.here hx rfl (hb hby at_140) k) ?_
  refine own_step (T' := T15) (g' := (mkF m 145 #[.val (.int p0), .val (.int p1), .val (.int p2), .val (.int p3), .val (.int p4), .val (.int p5), .val (.ref b1), .val (.ref b3), .val (.int c1_8), .val (.int v9), .val (.int v10), .val (.int (1 : Int32)), .unset] [(.int (1 : Int32))])) (fun t k => XS.goto X15.here hx rfl (pc0 := 141) (pc' := 145) rfl (hb hby at_141) (by decide) (by decide) k) ?_
  refine own_step (T' := T15) (g' := (mkF m 147 #[.val (.int p0), .val (.int p1), .val (.int p2), .val (.int p3), .val (.int p4), .val (.int p5), .val (.ref b1), .val (.ref b3), .val (.int c1_8), .val (.int v9), .val (.int v10), .val (.int (1 : Int32)), .val (.int (1 : Int32))] [])) (fun t k => XS.istore X15.here hx rfl (hb hby at_145) rfl (l' := #[.val (.int p0), .val (.int p1), .val (.int p2), .val (.int p3), .val (.int p4), .val (.int p5), .val (.ref b1), .val (.ref b3), .val (.int c1_8), .val (.int v9), .val (.int v10), .val (.int (1 : Int32)), .val (.int (1 : Int32))]) rfl k) ?_
  refine own_step (T' := T15) (g' := (mkF m 149 #[.val (.int p0), .val (.int p1), .val (.int p2), .val (.int p3), .val (.int p4), .val (.int p5), .val (.ref b1), .val (.ref b3), .val (.int c1_8), .val (.int v9), .val (.int v10), .val (.int (1 : Int32)), .val (.int (1 : Int32))] [(.int (1 : Int32))])) (fun t k => XS.iload X15.here hx rfl (hb hby at_147) rfl k) ?_
  refine own_step (T' := T15) (g' := (mkF m 152 #[.val (.int p0), .val (.int p1), .val (.int p2), .val (.int p3), .val (.int p4), .val (.int p5), .val (.ref b1), .val (.ref b3), .val (.int c1_8), .val (.int v9), .val (.int v10), .val (.int (1 : Int32)), .val (.int (1 : Int32))] [])) (fun t k => XS.ifNo X15.here hx rfl (hb hby at_149) rfl ((if0 _ _).trans (feq (by decide : ¬ ((1 : Int32) = (0 : Int32)))).1) k) ?_
  refine own_step (T' := T15) (g' := (mkF m 154 #[.val (.int p0), .val (.int p1), .val (.int p2), .val (.int p3), .val (.int p4), .val (.int p5), .val (.ref b1), .val (.ref b3), .val (.int c1_8), .val (.int v9), .val (.int v10), .val (.int (1 : Int32)), .val (.int (1 : Int32))] [(.int (1 : Int32))])) (fun t k => XS.iload X15.here hx rfl (hb hby at_152) rfl k) ?_
  refine own_step (T' := T15) (g' := (mkF m 157 #[.val (.int p0), .val (.int p1), .val (.int p2), .val (.int p3), .val (.int p4), .val (.int p5), .val (.ref b1), .val (.ref b3), .val (.int c1_8), .val (.int v9), .val (.int v10), .val (.int (1 : Int32)), .val (.int (1 : Int32))] [])) (fun t k => XS.ifNo X15.here hx rfl (hb hby at_154) rfl ((if0 _ _).trans (feq (by decide : ¬ ((1 : Int32) = (0 : Int32)))).1) k) ?_
  refine own_step (T' := T15) (g' := (mkF m 158 #[.val (.int p0), .val (.int p1), .val (.int p2), .val (.int p3), .val (.int p4), .val (.int p5), .val (.ref b1), .val (.ref b3), .val (.int c1_8), .val (.int v9), .val (.int v10), .val (.int (1 : Int32)), .val (.int (1 : Int32))] [(.int (1 : Int32))])) (fun t k => XS.iconst X15.here hx rfl (hb hby at_157) k) ?_
  refine own_step (T' := T15) (g' := (mkF m 162 #[.val (.int p0), .val (.int p1), .val (.int p2), .val (.int p3), .val (.int p4), .val (.int p5), .val (.ref b1), .val (.ref b3), .val (.int c1_8), .val (.int v9), .val (.int v10), .val (.int (1 : Int32)), .val (.int (1 : Int32))] [(.int (1 : Int32))])) (fun t k => XS.goto X15.here hx rfl (pc0 := 158) (pc' := 162) rfl (hb hby at_158) (by decide) (by decide) k) ?_
  refine own_retN X15 hx hlk (t := .boolean) (w := (1 : Int32)) Bd.returns (by simp) (hb hby at_162) rfl (by decide) (by decide) ?_
  exact ⟨rfl, N15⟩
set_option maxRecDepth 65536 in
set_option maxHeartbeats 40000000 in
theorem comes_1 {Post : Tables → Env → Array Value → State → Outcome → State → Prop} (hpost : ∀ tb e args s v u, (limb_1_1.after args s (.returned v) u = true ∧ limb_1_2.after args s (.returned v) u = true ∧ True) → FrameEnd s (.returned v) u (Jvm.fieldLocs frame_1_writes args s ++ Jvm.arrayLocs frame_1_arrays args s ++ Jvm.staticLocs frame_1_statics s) 16 128 → Post tb e args s (.returned v) u) :
    ArmFor flags0 classFile x code maxLocals ret World_1 tables_1 room_1 Calls_1 rest_1 Pre_1 Post := by
  intro l hfl _ _ p e ha hc hk s m args below hf hA hF happ hP
  obtain ⟨hcalls, hrest, hpre⟩ := hP
  obtain ⟨-, -, -, hnamed, -, -, -, hat⟩ := (Spec.applies_iff hf).mp happ
  obtain ⟨hg, hn⟩ := and_e (Cond.before_iff.mp (show (Jvm.Cond.and given_1 narrow_1).before args s = true from hpre))
  obtain ⟨g0, r0⟩ := and_e hg
  obtain ⟨g1, r1⟩ := and_e r0
  obtain ⟨g2, r2⟩ := and_e r1
  obtain ⟨g3, r3⟩ := and_e r2
  obtain ⟨g4, r4⟩ := and_e r3
  obtain ⟨g5, r5⟩ := and_e r4
  obtain ⟨w0, w1, w2, w3, w4, w5, rfl⟩ : ∃ w0 w1 w2 w3 w4 w5 : Value, args = #[w0, w1, w2, w3, w4, w5] := by
    have hs : args.size = 6 := by simpa [Cond.value, given_1] using g0
    obtain ⟨L⟩ := args
    match L, hs with
    | [w0, w1, w2, w3, w4, w5], _ => exact ⟨w0, w1, w2, w3, w4, w5, rfl⟩
  have hw := fun d (hd : d ∈ tables_1) => atoms_spec (ws := Jvm.Cond.code x code maxLocals ret :: tables_1) hat d (List.mem_cons_of_mem _ hd)
  have hfit : Fit s := fun {y c} hc i hi => by
    obtain ⟨ha, rfl⟩ := Array.getElem?_eq_some_iff.mp hc
    have q := List.all_eq_true.mp ((Array.all_eq_true_iff_forall_mem.mp hF) _ (Array.getElem_mem ha)) i (List.mem_range.mpr hi)
    simpa [Array.getElem?_eq_getElem hi] using q
  obtain ⟨i0, ei0⟩ := is_v g1
  obtain rfl : w0 = (.int i0) := Option.some.inj ei0
  obtain ⟨i1, ei1⟩ := is_v g2
  obtain rfl : w1 = (.int i1) := Option.some.inj ei1
  obtain ⟨i2, ei2⟩ := is_v g3
  obtain rfl : w2 = (.int i2) := Option.some.inj ei2
  obtain ⟨i3, ei3⟩ := is_v g4
  obtain rfl : w3 = (.int i3) := Option.some.inj ei3
  obtain ⟨i4, ei4⟩ := is_v g5
  obtain rfl : w4 = (.int i4) := Option.some.inj ei4
  obtain ⟨i5, ei5⟩ := is_v r5
  obtain rfl : w5 = (.int i5) := Option.some.inj ei5
  obtain ⟨q0, m0⟩ := and_e hn
  obtain ⟨q1, m1⟩ := and_e m0
  obtain ⟨q2, m2⟩ := and_e m1
  obtain ⟨q3, m3⟩ := and_e m2
  obtain ⟨q4, m4⟩ := and_e m3
  obtain ⟨q5, m5⟩ := and_e m4
  obtain ⟨q6, m6⟩ := and_e m5
  obtain ⟨q7, m7⟩ := and_e m6
  obtain ⟨q8, m8⟩ := and_e m7
  obtain ⟨a_LINES, ev_a_LINES⟩ := arr_v q0
  have S_a_LINES : Sta s s.heap "com/example/tilescript/tilescript/TicTacToe" "LINES" "[I" (.ref a_LINES) := Sta.start ev_a_LINES (Or.inr ⟨(hw _ (List.mem_of_getElem? (i := 2) rfl)), (hw _ (List.mem_of_getElem? (i := 46) rfl))⟩)
  obtain ⟨c_a_LINES, Ar_a_LINES⟩ := Arr.start ev_a_LINES q0
  have V_a_LINES := own_arv hfit Ar_a_LINES ev_a_LINES (own_eqI q1) (vs := [(.int (7 : Int32)), (.int (56 : Int32)), (.int (448 : Int32)), (.int (73 : Int32)), (.int (146 : Int32)), (.int (292 : Int32)), (.int (273 : Int32)), (.int (84 : Int32))]) (dv := (.int (0 : Int32))) (by decide) rfl ⟨own_el Ar_a_LINES ev_a_LINES (own_eqI q2) 0 (by decide), own_el Ar_a_LINES ev_a_LINES (own_eqI q3) 1 (by decide), own_el Ar_a_LINES ev_a_LINES (own_eqI q4) 2 (by decide), own_el Ar_a_LINES ev_a_LINES (own_eqI q5) 3 (by decide), own_el Ar_a_LINES ev_a_LINES (own_eqI q6) 4 (by decide), own_el Ar_a_LINES ev_a_LINES (own_eqI q7) 5 (by decide), own_el Ar_a_LINES ev_a_LINES (own_eqI q8) 6 (by decide), own_el Ar_a_LINES ev_a_LINES (own_eqI m8) 7 (by decide), trivial⟩
  obtain ⟨n, o, h1, h2, h3, _, L, rfl, ⟨rfl, N⟩, hq⟩ := rm0 l s _ hw tables_1 i0 i1 i2 i3 i4 i5 a_LINES c_a_LINES.cls s.heap s.heap.size (Nat.le_refl _) S_a_LINES V_a_LINES p e ha hc hk s m _ below hf ((Spec.applies_iff_loose hf).mp happ).1 ⟨rfl, State.Warmed39.refl s, rfl⟩ trivial
  refine ⟨n, _, h1, h2, h3, hpost _ _ _ _ _ _ ⟨Cond.after_iff.mpr rfl, Cond.after_iff.mpr (eq_i res_at (Term.int_eval (1)) rfl), trivial⟩ ⟨hq.1, hq.2.1, (hq.2.2.sift fun y hy => Or.inr (N y hy)).mono (by decide) (by decide)⟩⟩
theorem main_1_1 : Claimed_1_1 := comes_1 fun _ _ _ _ _ _ h hF => ⟨h.1, hF⟩
theorem main_1_2 : Claimed_1_2 := comes_1 fun _ _ _ _ _ _ h hF => ⟨h.2.1, hF⟩
end Jvm.Pilot.@@N@@
namespace Jvm.Pilot.@@N@@
open Jvm Jvm.ClassFile Sem Op Lib Jvm.Free Jvm.Stand Jvm.Pilot.@@N@@.Jvm.D
/-! MADE BY PROGRAM (witnessworld.py) out of the Statement's table words and the real class files: 11 classes; the members and pool entries that the words name. The judged class is class 1, her method 3. -/
namespace start1
open Jvm.ClassFile
def u (s : String) : CpInfo := .utf8 (stringToUtf16 s)
/-- a pool by its gaps: so many unusable entries, then the entry; so many at the end -/
def gap : Nat → List CpInfo → List CpInfo
  | 0, r => r
  | n + 1, r => .unusable :: gap n r
def poolList (es : List (Nat × CpInfo)) (last : Nat) : List CpInfo := es.foldr (fun e r => gap e.1 (e.2 :: r)) (gap last [])
def pool (es : List (Nat × CpInfo)) (last : Nat) : Array CpInfo := ⟨poolList es last⟩
def fileOf (pool : Array CpInfo) (this : Nat) (attrs : Array Attribute := #[]) (ms : Array MethodInfo := #[]) (fl : Nat := 33) (sup : Nat := 0) (ifs : Array Nat := #[]) (fds : Array FieldInfo := #[]) : ClassFile where
  minorVersion := 0
  majorVersion := 65
  constantPool := pool
  accessFlags := fl
  thisClass := this
  superClass := sup
  interfaces := ifs
  fields := fds
  methods := ms
  attributes := attrs
def plain (name : String) (sup : Option ClassId) : Class where
  name := name
  kind := .ordinary
  loader := none
  accessFlags := 33
  super := sup
  interfaces := #[]
  cf := none
  fields := #[]
  methods := #[]
  instanceTypes := #[]
  staticTypes := #[]
  resolved := #[]
  callSites := []
  init := .initialized
  statics := none
  mirror := none

def pool0 : Array CpInfo := pool [(5, u "<init>"), (0, u "()V"), (1, .class_ 10), (1, u "java/lang/Object")] 113

def k0c0 : Code := { maxStack := 0, maxLocals := 1, code := object_method_1_code, exceptionTable := #[], attributes := #[] }
def k0m0 : Method := { name := "<init>", desc := "()V", sig := { parameters := [], returnType := none }, accessFlags := 1, code := some k0c0 }
/-- java/lang/Object -/
def k0 : Class := { plain "java/lang/Object" none with
  accessFlags := 33
  interfaces := #[]
  cf := some (fileOf pool0 8 #[] #[{ accessFlags := 1, nameIndex := 5, descriptorIndex := 6, attributes := #[] }] 33 0 #[] #[])
  fields := #[]
  methods := #[k0m0]
  instanceTypes := #[]
  staticTypes := #[]
  resolved := Array.replicate 124 none
  statics := none }

def pool1 : Array CpInfo := pool [(2, .class_ 4), (0, .nameAndType 5 6), (0, u "java/lang/Object"), (0, u "<init>"), (0, u "()V"), (0, .integer 2147483647), (0, .methodref 9 10), (0, .class_ 11), (0, .nameAndType 12 13), (0, u "com/example/tilescript/tilescript/TicTacToe"), (0, u "play"), (0, u "(I)V"), (0, .methodref 9 3), (0, .methodref 16 17), (0, .class_ 18), (0, .nameAndType 19 20), (0, u "com/example/tilescript/tilescript/TicTacToeAtPinLaw"), (0, u "step"), (0, u "(Lcom/example/tilescript/tilescript/TicTacToe;[CII)I"), (0, .integer 65535), (0, .methodref 9 23), (0, .nameAndType 24 25), (0, u "at"), (0, u "(I)C"), (0, .methodref 16 27), (0, .nameAndType 28 29), (0, u "expected"), (0, u "([CI)C"), (5, u "law"), (0, u "(IIIIII)Z")] 2

def k1m0 : Method := { name := "<init>", desc := "()V", sig := { parameters := [], returnType := none }, accessFlags := 1, code := none }
def k1c1 : Code := { maxStack := 4, maxLocals := 5, code := method_2_code, exceptionTable := #[], attributes := #[] }
def k1m1 : Method := { name := "step", desc := "(Lcom/example/tilescript/tilescript/TicTacToe;[CII)I", sig := { parameters := [(.object "com/example/tilescript/tilescript/TicTacToe"), (.array .char), .int, .int], returnType := some .int }, accessFlags := 10, code := some k1c1 }
def k1c2 : Code := { maxStack := 2, maxLocals := 2, code := method_3_code, exceptionTable := #[], attributes := #[] }
def k1m2 : Method := { name := "expected", desc := "([CI)C", sig := { parameters := [(.array .char), .int], returnType := some .char }, accessFlags := 10, code := some k1c2 }
def k1c3 : Code := { maxStack := 4, maxLocals := 13, code := code, exceptionTable := #[], attributes := #[] }
def k1m3 : Method := { name := "law", desc := "(IIIIII)Z", sig := { parameters := [.int, .int, .int, .int, .int, .int], returnType := some .boolean }, accessFlags := 9, code := some k1c3 }
/-- com/example/tilescript/tilescript/TicTacToeAtPinLaw -/
def k1 : Class := { plain "com/example/tilescript/tilescript/TicTacToeAtPinLaw" (some 0) with
  accessFlags := 49
  interfaces := #[]
  cf := some (fileOf pool1 16 #[] #[{ accessFlags := 1, nameIndex := 5, descriptorIndex := 6, attributes := #[] }, { accessFlags := 10, nameIndex := 19, descriptorIndex := 20, attributes := #[] }, { accessFlags := 10, nameIndex := 28, descriptorIndex := 29, attributes := #[] }, { accessFlags := 9, nameIndex := 35, descriptorIndex := 36, attributes := #[] }] 49 2 #[] #[])
  fields := #[]
  methods := #[k1m0, k1m1, k1m2, k1m3]
  instanceTypes := #[]
  staticTypes := #[]
  resolved := Array.replicate 39 none
  statics := none }

def pool2 : Array CpInfo := pool [(1, .methodref 2 3), (0, .class_ 4), (0, .nameAndType 5 6), (0, u "java/lang/Object"), (0, u "<init>"), (0, u "()V"), (0, .fieldref 8 9), (0, .class_ 10), (0, .nameAndType 11 12), (0, u "com/example/tilescript/tilescript/TicTacToe"), (0, u "lastMove"), (0, u "I"), (0, .fieldref 8 14), (0, .nameAndType 15 16), (0, u "winner"), (0, u "C"), (0, .fieldref 8 18), (0, .nameAndType 19 12), (0, u "marks"), (0, .fieldref 8 21), (0, .nameAndType 22 12), (0, u "xCells"), (0, .fieldref 8 24), (0, .nameAndType 25 12), (0, u "oCells"), (0, .methodref 8 27), (0, .nameAndType 28 29), (0, u "isOver"), (0, u "()Z"), (0, .methodref 8 31), (0, .nameAndType 32 33), (0, u "isLegal"), (0, u "(I)Z"), (15, .methodref 8 50), (0, .nameAndType 51 52), (0, u "token"), (0, u "()C"), (0, .fieldref 8 54), (0, .nameAndType 55 56), (0, u "LINES"), (0, u "[I"), (23, u "(I)V"), (2, u "at"), (0, u "(I)C"), (8, u "CELLS"), (2, u "EMPTY"), (1, u "ALL_CELLS"), (5, u "play")] 21

def k2c0 : Code := { maxStack := 2, maxLocals := 1, code := prog_19_method_1_code, exceptionTable := #[], attributes := #[] }
def k2m0 : Method := { name := "<init>", desc := "()V", sig := { parameters := [], returnType := none }, accessFlags := 0, code := some k2c0 }
def k2c1 : Code := { maxStack := 2, maxLocals := 1, code := prog_19_method_2_code, exceptionTable := #[], attributes := #[] }
def k2m1 : Method := { name := "token", desc := "()C", sig := { parameters := [], returnType := some .char }, accessFlags := 0, code := some k2c1 }
def k2c2 : Code := { maxStack := 2, maxLocals := 3, code := prog_19_method_3_code, exceptionTable := #[], attributes := #[] }
def k2m2 : Method := { name := "at", desc := "(I)C", sig := { parameters := [.int], returnType := some .char }, accessFlags := 0, code := some k2c2 }
def k2c3 : Code := { maxStack := 2, maxLocals := 1, code := prog_19_method_5_code, exceptionTable := #[], attributes := #[] }
def k2m3 : Method := { name := "isOver", desc := "()Z", sig := { parameters := [], returnType := some .boolean }, accessFlags := 0, code := some k2c3 }
def k2c4 : Code := { maxStack := 3, maxLocals := 2, code := prog_19_method_7_code, exceptionTable := #[], attributes := #[] }
def k2m4 : Method := { name := "isLegal", desc := "(I)Z", sig := { parameters := [.int], returnType := some .boolean }, accessFlags := 0, code := some k2c4 }
def k2c5 : Code := { maxStack := 4, maxLocals := 8, code := prog_19_method_8_code, exceptionTable := #[], attributes := #[] }
def k2m5 : Method := { name := "play", desc := "(I)V", sig := { parameters := [.int], returnType := none }, accessFlags := 0, code := some k2c5 }
/-- com/example/tilescript/tilescript/TicTacToe -/
def k2 : Class := { plain "com/example/tilescript/tilescript/TicTacToe" (some 0) with
  accessFlags := 48
  interfaces := #[]
  cf := some (fileOf pool2 8 #[] #[{ accessFlags := 0, nameIndex := 5, descriptorIndex := 6, attributes := #[] }, { accessFlags := 0, nameIndex := 51, descriptorIndex := 52, attributes := #[] }, { accessFlags := 0, nameIndex := 83, descriptorIndex := 84, attributes := #[] }, { accessFlags := 0, nameIndex := 28, descriptorIndex := 29, attributes := #[] }, { accessFlags := 0, nameIndex := 32, descriptorIndex := 33, attributes := #[] }, { accessFlags := 0, nameIndex := 104, descriptorIndex := 80, attributes := #[] }] 48 2 #[] #[{ accessFlags := 24, nameIndex := 93, descriptorIndex := 12, attributes := #[] }, { accessFlags := 24, nameIndex := 96, descriptorIndex := 16, attributes := #[] }, { accessFlags := 26, nameIndex := 98, descriptorIndex := 12, attributes := #[] }, { accessFlags := 26, nameIndex := 55, descriptorIndex := 56, attributes := #[] }, { accessFlags := 2, nameIndex := 22, descriptorIndex := 12, attributes := #[] }, { accessFlags := 2, nameIndex := 25, descriptorIndex := 12, attributes := #[] }, { accessFlags := 2, nameIndex := 19, descriptorIndex := 12, attributes := #[] }, { accessFlags := 2, nameIndex := 11, descriptorIndex := 12, attributes := #[] }, { accessFlags := 2, nameIndex := 15, descriptorIndex := 16, attributes := #[] }])
  fields := #[{ name := "CELLS", type := .int, accessFlags := 24, slot := 0, constantValue := 0 }, { name := "EMPTY", type := .char, accessFlags := 24, slot := 1, constantValue := 0 }, { name := "ALL_CELLS", type := .int, accessFlags := 26, slot := 2, constantValue := 0 }, { name := "LINES", type := (.array .int), accessFlags := 26, slot := 3, constantValue := 0 }, { name := "xCells", type := .int, accessFlags := 2, slot := 0, constantValue := 0 }, { name := "oCells", type := .int, accessFlags := 2, slot := 1, constantValue := 0 }, { name := "marks", type := .int, accessFlags := 2, slot := 2, constantValue := 0 }, { name := "lastMove", type := .int, accessFlags := 2, slot := 3, constantValue := 0 }, { name := "winner", type := .char, accessFlags := 2, slot := 4, constantValue := 0 }]
  methods := #[k2m0, k2m1, k2m2, k2m3, k2m4, k2m5]
  instanceTypes := #[.int, .int, .int, .int, .char]
  staticTypes := #[.int, .char, .int, (.array .int)]
  resolved := Array.replicate 126 none
  statics := some 0 }

def pool3 : Array CpInfo := pool [(1, u "java/lang/Cloneable"), (0, .class_ 1), (0, u "java/lang/Object"), (0, .class_ 3)] 3

/-- java/lang/Cloneable -/
def k3 : Class := { plain "java/lang/Cloneable" (some 0) with
  accessFlags := 1537
  interfaces := #[]
  cf := some (fileOf pool3 2 #[] #[] 1537 4 #[] #[])
  fields := #[]
  methods := #[]
  instanceTypes := #[]
  staticTypes := #[]
  resolved := Array.replicate 8 none
  statics := none }

def pool4 : Array CpInfo := pool [(1, u "java/io/Serializable"), (0, .class_ 1), (0, u "java/lang/Object"), (0, .class_ 3)] 3

/-- java/io/Serializable -/
def k4 : Class := { plain "java/io/Serializable" (some 0) with
  accessFlags := 1537
  interfaces := #[]
  cf := some (fileOf pool4 2 #[] #[] 1537 4 #[] #[])
  fields := #[]
  methods := #[]
  instanceTypes := #[]
  staticTypes := #[]
  resolved := Array.replicate 8 none
  statics := none }

/-- the primitive byte -/
def k5 : Class := { plain "byte" none with kind := .primitive 'B', accessFlags := 0x411 }
/-- [B -/
def k6 : Class := { plain "[B" (some 0) with kind := .array 5 .byte, interfaces := #[3, 4], accessFlags := 1041 }

/-- the primitive char -/
def k7 : Class := { plain "char" none with kind := .primitive 'C', accessFlags := 0x411 }
/-- [C -/
def k8 : Class := { plain "[C" (some 0) with kind := .array 7 .char, interfaces := #[3, 4], accessFlags := 1041 }

/-- the primitive int -/
def k9 : Class := { plain "int" none with kind := .primitive 'I', accessFlags := 0x411 }
/-- [I -/
def k10 : Class := { plain "[I" (some 0) with kind := .array 9 .int, interfaces := #[3, 4], accessFlags := 1041 }

def heap : Heap := #[{ cls := 2, slots := #[.int 0, .int 0, .int 0, .ref 1], vm := .statics 2 },
  { cls := 10, slots := #[.int 7, .int 56, .int 448, .int 73, .int 146, .int 292, .int 273, .int 84], vm := .none }]
def classes : Array Class := #[k0, k1, k2, k3, k4, k5, k6, k7, k8, k9, k10]
def interned : List (Array UInt16 × Addr) := []
def slotsUsed : Nat := 12
def theMethod : MethodId := ⟨1, 3⟩
def args0 : Array Value := #[.int 5, .int 5, .int 5, .int 5, .int 5, .int 5]
def aboutOver (below : List Frame) : State where
  vm := { classes := classes, interned := interned.toArray }
  heap := heap
  slotsUsed := slotsUsed
  threads := #[{ frames := .invoking theMethod args0 :: below }]
def below0 : List Frame := [.native { method := ⟨0, 0⟩, args := #[] }]
def about1 : State := aboutOver below0
def p0 : Program := .bare "" "" ""
def e0 : Env := launch0.env 0 0 0
theorem w_frames : about1.frames = Frame.invoking theMethod args0 :: below0 := rfl
set_option maxRecDepth 65536 in
theorem w_args : argsFit about1.vm theMethod args0 = true := by decide +kernel
set_option maxRecDepth 65536 in
theorem w_heap : heapFits about1 = true := by decide +kernel
set_option maxRecDepth 65536 in
theorem w_runnable : about1.curStatus? = some .runnable := by decide +kernel
set_option maxRecDepth 65536 in
theorem w_alone : about1.alone = true := by decide +kernel
set_option maxRecDepth 65536 in
theorem w_named : about1.methodNamed? x = some theMethod := by decide +kernel
set_option maxRecDepth 65536 in
theorem w_hears : about1.hears theMethod below0 = true := by decide +kernel
set_option maxRecDepth 65536 in
theorem w_ripe : about1.ripe theMethod args0 below0 = true := by decide +kernel
theorem w_running : about1.status = .running := rfl
set_option maxRecDepth 65536 in
theorem w_room : about1.hasRoom e0.platform room_1 = true :=
  launch0.hasRoom_least _ room_1 (by decide +kernel) (by decide +kernel) (by decide +kernel) (by decide +kernel) (by decide +kernel) (by decide +kernel)
theorem allAtoms_all (ts : List Jvm.Cond) (a : Array Jvm.Value) (st : Jvm.State) : (allAtoms ts).before a st = ts.all (fun c => c.before a st) := by
  induction ts with
  | nil => rfl
  | cons c t ih =>
    show (Jvm.Cond.and c (allAtoms t)).before a st = _
    rw [Jvm.Cond.before_and, ih, List.all_cons]
def words1 : List Jvm.Cond := Jvm.Cond.code x code maxLocals ret :: tables_1
/-- a 'code' word, met by the world's own term for the bytes: nothing is compared byte by byte -/
theorem code_word {y : MethodName} {bytes : ByteArray} {mx : Nat} {rt : Option FieldType} {a : Array Value} {s : State} {m : MethodId} {meth : Method} {c : Code} (h1 : s.methodNamed? y = some m) (h2 : s.vm.method? m = some meth) (h3 : meth.code = some c) (h4 : c.code = bytes)
    (h5 : (c.maxLocals == mx && c.exceptionTable.isEmpty && decide (c.maxStack ≤ mostOperands) && decide (meth.sig.returnType = rt) && !meth.locks && decide (parseMethodDescriptor y.desc = some meth.sig)) = true) : (Jvm.Cond.code y bytes mx rt).before a s = true := by
  simp only [Bool.and_eq_true, beq_iff_eq, Bool.not_eq_true', decide_eq_true_eq] at h5
  obtain ⟨⟨⟨⟨⟨g1, g2⟩, g3⟩, g4⟩, g5⟩, g6⟩ := h5
  simp [Cond.before, Cond.holds, Cond.value, h1, h2, h3, h4, g1, g2, g3, g4, g5, g6]
def isCode : Jvm.Cond → Bool
  | .code _ _ _ _ => true
  | _ => false
theorem all_split {L : List Jvm.Cond} {P : Jvm.Cond → Bool} (h1 : L.all (fun c => isCode c || P c) = true) (h2 : ∀ c ∈ L.filter isCode, P c = true) : L.all P = true := by
  refine List.all_eq_true.mpr fun c hc => ?_
  have h := List.all_eq_true.mp h1 c hc
  rcases Bool.eq_false_or_eq_true (isCode c) with hi | hi
  · exact h2 c (List.mem_filter.mpr ⟨hc, hi⟩)
  · simpa [hi] using h
set_option maxRecDepth 65536 in
theorem w_c0 : (Jvm.Cond.code x code maxLocals ret).before args0 about1 = true := code_word (m := ⟨1, 3⟩) (meth := k1m3) (c := k1c3) (by decide +kernel) rfl rfl rfl (by decide +kernel)
set_option maxRecDepth 65536 in
theorem w_c1 : (Jvm.Cond.code ({ cls := "com/example/tilescript/tilescript/TicTacToe", name := "<init>", desc := "()V" } : Jvm.MethodName) prog_19_method_1_code (1 : Nat) (Option.none : Option Jvm.ClassFile.FieldType)).before args0 about1 = true := code_word (m := ⟨2, 0⟩) (meth := k2m0) (c := k2c0) (by decide +kernel) rfl rfl rfl (by decide +kernel)
set_option maxRecDepth 65536 in
theorem w_c2 : (Jvm.Cond.code ({ cls := "java/lang/Object", name := "<init>", desc := "()V" } : Jvm.MethodName) object_method_1_code (1 : Nat) (Option.none : Option Jvm.ClassFile.FieldType)).before args0 about1 = true := code_word (m := ⟨0, 0⟩) (meth := k0m0) (c := k0c0) (by decide +kernel) rfl rfl rfl (by decide +kernel)
set_option maxRecDepth 65536 in
theorem w_c3 : (Jvm.Cond.code ({ cls := "com/example/tilescript/tilescript/TicTacToeAtPinLaw", name := "step", desc := "(Lcom/example/tilescript/tilescript/TicTacToe;[CII)I" } : Jvm.MethodName) method_2_code (5 : Nat) (Option.some Jvm.ClassFile.FieldType.int)).before args0 about1 = true := code_word (m := ⟨1, 1⟩) (meth := k1m1) (c := k1c1) (by decide +kernel) rfl rfl rfl (by decide +kernel)
set_option maxRecDepth 65536 in
theorem w_c4 : (Jvm.Cond.code ({ cls := "com/example/tilescript/tilescript/TicTacToe", name := "play", desc := "(I)V" } : Jvm.MethodName) prog_19_method_8_code (8 : Nat) (Option.none : Option Jvm.ClassFile.FieldType)).before args0 about1 = true := code_word (m := ⟨2, 5⟩) (meth := k2m5) (c := k2c5) (by decide +kernel) rfl rfl rfl (by decide +kernel)
set_option maxRecDepth 65536 in
theorem w_c5 : (Jvm.Cond.code ({ cls := "com/example/tilescript/tilescript/TicTacToe", name := "isLegal", desc := "(I)Z" } : Jvm.MethodName) prog_19_method_7_code (2 : Nat) (Option.some Jvm.ClassFile.FieldType.boolean)).before args0 about1 = true := code_word (m := ⟨2, 4⟩) (meth := k2m4) (c := k2c4) (by decide +kernel) rfl rfl rfl (by decide +kernel)
set_option maxRecDepth 65536 in
theorem w_c6 : (Jvm.Cond.code ({ cls := "com/example/tilescript/tilescript/TicTacToe", name := "isOver", desc := "()Z" } : Jvm.MethodName) prog_19_method_5_code (1 : Nat) (Option.some Jvm.ClassFile.FieldType.boolean)).before args0 about1 = true := code_word (m := ⟨2, 3⟩) (meth := k2m3) (c := k2c3) (by decide +kernel) rfl rfl rfl (by decide +kernel)
set_option maxRecDepth 65536 in
theorem w_c7 : (Jvm.Cond.code ({ cls := "com/example/tilescript/tilescript/TicTacToe", name := "token", desc := "()C" } : Jvm.MethodName) prog_19_method_2_code (1 : Nat) (Option.some Jvm.ClassFile.FieldType.char)).before args0 about1 = true := code_word (m := ⟨2, 1⟩) (meth := k2m1) (c := k2c1) (by decide +kernel) rfl rfl rfl (by decide +kernel)
set_option maxRecDepth 65536 in
theorem w_c8 : (Jvm.Cond.code ({ cls := "com/example/tilescript/tilescript/TicTacToe", name := "at", desc := "(I)C" } : Jvm.MethodName) prog_19_method_3_code (3 : Nat) (Option.some Jvm.ClassFile.FieldType.char)).before args0 about1 = true := code_word (m := ⟨2, 2⟩) (meth := k2m2) (c := k2c2) (by decide +kernel) rfl rfl rfl (by decide +kernel)
set_option maxRecDepth 65536 in
theorem w_c9 : (Jvm.Cond.code ({ cls := "com/example/tilescript/tilescript/TicTacToeAtPinLaw", name := "expected", desc := "([CI)C" } : Jvm.MethodName) method_3_code (2 : Nat) (Option.some Jvm.ClassFile.FieldType.char)).before args0 about1 = true := code_word (m := ⟨1, 2⟩) (meth := k1m2) (c := k1c2) (by decide +kernel) rfl rfl rfl (by decide +kernel)
def codes1 : List Jvm.Cond := [Jvm.Cond.code x code maxLocals ret, Jvm.Cond.code ({ cls := "com/example/tilescript/tilescript/TicTacToe", name := "<init>", desc := "()V" } : Jvm.MethodName) prog_19_method_1_code (1 : Nat) (Option.none : Option Jvm.ClassFile.FieldType), Jvm.Cond.code ({ cls := "java/lang/Object", name := "<init>", desc := "()V" } : Jvm.MethodName) object_method_1_code (1 : Nat) (Option.none : Option Jvm.ClassFile.FieldType), Jvm.Cond.code ({ cls := "com/example/tilescript/tilescript/TicTacToeAtPinLaw", name := "step", desc := "(Lcom/example/tilescript/tilescript/TicTacToe;[CII)I" } : Jvm.MethodName) method_2_code (5 : Nat) (Option.some Jvm.ClassFile.FieldType.int), Jvm.Cond.code ({ cls := "com/example/tilescript/tilescript/TicTacToe", name := "play", desc := "(I)V" } : Jvm.MethodName) prog_19_method_8_code (8 : Nat) (Option.none : Option Jvm.ClassFile.FieldType), Jvm.Cond.code ({ cls := "com/example/tilescript/tilescript/TicTacToe", name := "isLegal", desc := "(I)Z" } : Jvm.MethodName) prog_19_method_7_code (2 : Nat) (Option.some Jvm.ClassFile.FieldType.boolean), Jvm.Cond.code ({ cls := "com/example/tilescript/tilescript/TicTacToe", name := "isOver", desc := "()Z" } : Jvm.MethodName) prog_19_method_5_code (1 : Nat) (Option.some Jvm.ClassFile.FieldType.boolean), Jvm.Cond.code ({ cls := "com/example/tilescript/tilescript/TicTacToe", name := "token", desc := "()C" } : Jvm.MethodName) prog_19_method_2_code (1 : Nat) (Option.some Jvm.ClassFile.FieldType.char), Jvm.Cond.code ({ cls := "com/example/tilescript/tilescript/TicTacToe", name := "at", desc := "(I)C" } : Jvm.MethodName) prog_19_method_3_code (3 : Nat) (Option.some Jvm.ClassFile.FieldType.char), Jvm.Cond.code ({ cls := "com/example/tilescript/tilescript/TicTacToeAtPinLaw", name := "expected", desc := "([CI)C" } : Jvm.MethodName) method_3_code (2 : Nat) (Option.some Jvm.ClassFile.FieldType.char)]
set_option maxRecDepth 65536 in
theorem codes_eq : words1.filter isCode = codes1 := rfl
theorem w_codes : ∀ c ∈ words1.filter isCode, c.before args0 about1 = true := by
  rw [codes_eq]
  intro c hc
  simp only [codes1, List.mem_cons, List.not_mem_nil, or_false] at hc
  rcases hc with rfl | rfl | rfl | rfl | rfl | rfl | rfl | rfl | rfl | rfl
  · exact w_c0
  · exact w_c1
  · exact w_c2
  · exact w_c3
  · exact w_c4
  · exact w_c5
  · exact w_c6
  · exact w_c7
  · exact w_c8
  · exact w_c9
set_option maxRecDepth 65536 in
theorem w_t1 : (words1.take 24).all (fun c => isCode c || c.before args0 about1) = true := by decide +kernel
set_option maxRecDepth 65536 in
theorem w_t2 : ((words1.drop 24).take 24).all (fun c => isCode c || c.before args0 about1) = true := by decide +kernel
set_option maxRecDepth 65536 in
theorem w_t3 : ((words1.drop 24).drop 24).all (fun c => isCode c || c.before args0 about1) = true := by decide +kernel
theorem w_tables : (allAtoms (Jvm.Cond.code x code maxLocals ret :: tables_1)).before args0 about1 = true := by
  rw [allAtoms_all]
  show words1.all (fun c => c.before args0 about1) = true
  refine all_split ?_ w_codes
  rw [← List.take_append_drop 24 words1, List.all_append, w_t1, ← List.take_append_drop 24 (words1.drop 24), List.all_append, w_t2, w_t3]
  rfl
set_option maxRecDepth 65536 in
theorem w_case : (Jvm.Cond.and given_1 narrow_1).before args0 about1 = true := by decide +kernel
theorem w_applies : (headSpec (Jvm.Cond.code x code maxLocals ret :: tables_1) room_1).applies x e0.platform about1 = true :=
  (Spec.applies_iff w_frames).mpr ⟨w_running, w_runnable, w_alone, w_named, w_hears, w_ripe, w_room, w_tables⟩
theorem atStart : AtStart classFile x code maxLocals ret World_1 tables_1 room_1 Calls_1 rest_1 Pre_1 launch0 p0 e0 about1 theMethod args0 below0 :=
  ⟨lists_1, trivial, launch0.admits_env _ _ _, launch0.least_env, fairChoices_fair.cas, fairChoices_fair.clock, w_frames, w_args, w_heap, w_applies, trivial, trivial, w_case⟩
end start1
theorem witness_1 : WitnessClaimed_1 := ⟨start1.p0, start1.e0, start1.about1, start1.theMethod, start1.args0, start1.below0, start1.atStart⟩
end Jvm.Pilot.@@N@@
