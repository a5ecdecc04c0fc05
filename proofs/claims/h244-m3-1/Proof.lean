import JvmDerived
import JvmDerived.Pilot.@@N@@Statement
import JvmDerived.Pilot.@@N@@Code
set_option linter.unusedVariables false
set_option linter.unusedSimpArgs false
@@BLOCK:NumsL.lean.txt@@
namespace Jvm.Pilot.@@N@@
open Jvm Jvm.ClassFile Sem Op Lib Jvm.Free Jvm.Stand Jvm.LawKit Jvm.RoadKit Bundle Jvm.Pilot.@@N@@.Jvm.D

section OwnKit
variable {p : Program} {l : Launch} {e : Env} {R : Room} {s : State} {m : MethodId} {args : Array Value} {below : List Frame} {meth : Method} {c : Code} {T T' : State} {locs : List Loc} {cells slots : Nat} {Z : State} {h h' : Heap}
/-- from the state T with the frame g on top the run ends well -/
def own_G (p : Program) (e : Env) (below : List Frame) (s : State) (kc ks : Nat) (Q : Option Value → Heap → List Loc → Prop) (T : State) (g : JFrame) : Prop :=
  ∃ (U : State) (o : Outcome), Steps p.tables e below (T.setTop g) U ∧ U.status = .running ∧ Ended U below o ∧ ∃ v L, o = .returned v ∧ Q v U.heap L ∧ FrameEnd s o U L kc ks
variable {kc ks : Nat} {Q : Option Value → Heap → List Loc → Prop}
theorem own_step {g g' : JFrame} (k : ∀ t, Steps p.tables e below (T'.setTop g') t → Steps p.tables e below (T.setTop g) t) (hh : own_G p e below s kc ks Q T' g') : own_G p e below s kc ks Q T g := by
  obtain ⟨U, o, h1, h2⟩ := hh
  exact ⟨U, o, k _ h1, h2⟩
theorem own_retN (X : Stand p l e R s m args below meth c T locs cells slots) (hx : p.tables.exec = Jvm.exec) (hlk : meth.locks = false) {pc : Nat} {Ls : Array Slot} {z w : Int32} {t : FieldType} {rest : List Value} (hret : meth.sig.returnType = some t) (ht : t = .boolean ∨ t = .byte ∨ t = .char ∨ t = .short) (hd : decode c.code pc = .ok (.ireturn, 1)) (hw : nar t z = w) (hc : cells ≤ kc) (hs : slots ≤ ks) (hQ : Q (some (.int w)) T.heap locs) :
    own_G p e below s kc ks Q T (mkF m pc Ls (.int z :: rest)) := by
  subst hw
  obtain ⟨fs, hr, hrun, hended, hW, hsame⟩ := X.leave (v := some (.int (nar t z))) (fun q => by rw [hret] at q; cases q) hlk
  exact ⟨_, _, retN X hx hret ht hd hr, hrun, hended, _, _, rfl, hQ, ⟨_, rfl⟩, hW, hsame.mono hc hs⟩
theorem own_retI (X : Stand p l e R s m args below meth c T locs cells slots) (hx : p.tables.exec = Jvm.exec) (hlk : meth.locks = false) {pc : Nat} {Ls : Array Slot} {z : Int32} {rest : List Value} (hret : meth.sig.returnType = some .int) (hd : decode c.code pc = .ok (.ireturn, 1)) (hc : cells ≤ kc) (hs : slots ≤ ks) (hQ : Q (some (.int z)) T.heap locs) :
    own_G p e below s kc ks Q T (mkF m pc Ls (.int z :: rest)) := by
  obtain ⟨fs, hr, hrun, hended, hW, hsame⟩ := X.leave (v := some (.int z)) (fun q => by rw [hret] at q; cases q) hlk
  exact ⟨_, _, retOut X hx hret rfl (Or.inl ⟨rfl, Or.inl rfl, z, rfl⟩) hd hr, hrun, hended, _, _, rfl, hQ, ⟨_, rfl⟩, hW, hsame.mono hc hs⟩
theorem own_retJ (X : Stand p l e R s m args below meth c T locs cells slots) (hx : p.tables.exec = Jvm.exec) (hlk : meth.locks = false) {pc : Nat} {Ls : Array Slot} {z : Int64} {rest : List Value} (hret : meth.sig.returnType = some .long) (hd : decode c.code pc = .ok (.lreturn, 1)) (hc : cells ≤ kc) (hs : slots ≤ ks) (hQ : Q (some (.long z)) T.heap locs) :
    own_G p e below s kc ks Q T (mkF m pc Ls (.long z :: rest)) := by
  obtain ⟨fs, hr, hrun, hended, hW, hsame⟩ := X.leave (v := some (.long z)) (fun q => by rw [hret] at q; cases q) hlk
  exact ⟨_, _, retOut X hx hret rfl (Or.inr (Or.inl ⟨rfl, rfl, z, rfl⟩)) hd hr, hrun, hended, _, _, rfl, hQ, ⟨_, rfl⟩, hW, hsame.mono hc hs⟩
theorem own_retR (X : Stand p l e R s m args below meth c T locs cells slots) (hx : p.tables.exec = Jvm.exec) (hlk : meth.locks = false) {pc : Nat} {Ls : Array Slot} {w : Value} {t : FieldType} {rest : List Value} (hret : meth.sig.returnType = some t) (ht : t.isReference = true) (hw : w.isRef = true) (hd : decode c.code pc = .ok (.areturn, 1)) (hc : cells ≤ kc) (hs : slots ≤ ks) (hQ : Q (some w) T.heap locs) :
    own_G p e below s kc ks Q T (mkF m pc Ls (w :: rest)) := by
  obtain ⟨fs, hr, hrun, hended, hW, hsame⟩ := X.leave (v := some w) (fun q => by rw [hret] at q; cases q) hlk
  have hn : narrow t w = w := by cases w <;> cases t <;> first | rfl | (cases hw; done) | (cases ht; done)
  exact ⟨_, _, retOut X hx hret hn (Or.inr (Or.inr (Or.inr (Or.inr ⟨rfl, ht, hw⟩)))) hd hr, hrun, hended, _, _, rfl, hQ, ⟨_, rfl⟩, hW, hsame.mono hc hs⟩
theorem own_retV (X : Stand p l e R s m args below meth c T locs cells slots) (hx : p.tables.exec = Jvm.exec) (hlk : meth.locks = false) {pc : Nat} {Ls : Array Slot} (hret : meth.sig.returnType = none) (hd : decode c.code pc = .ok (.return_, 1)) (hc : cells ≤ kc) (hs : slots ≤ ks) (hQ : Q none T.heap locs) :
    own_G p e below s kc ks Q T (mkF m pc Ls []) := by
  obtain ⟨fs, hr, hrun, hended, hW, hsame⟩ := X.leave (v := none) (fun _ => rfl) hlk
  exact ⟨_, _, X.returnOut hx hret hd hr, hrun, hended, _, _, rfl, hQ, ⟨_, rfl⟩, hW, hsame.mono hc hs⟩
theorem own_lksw (X : Stand p l e R s m args below meth c T locs cells slots) (hx : p.tables.exec = Jvm.exec) {g : JFrame} (hg : g.method = m) {d : Int} {prs : Array (Int × Int)} {len : Nat} (hd : decode c.code g.pc = .ok (.lookupswitch d prs, len)) {x : Int32} {rest : List Value} (hs : g.stack = .int x :: rest) (hp : (prs.toList.zip (prs.toList.drop 1)).all (fun (a, next) => a.1 < next.1) = true)
    {o : Int} (ho : lookupswitch.offset prs.toList d x.toInt = o) {pc0 pc' : Nat} (hpc : g.pc = pc0) (h0 : 0 ≤ (pc0 : Int) + o) (hq : ((pc0 : Int) + o).toNat = pc') {target : State}
    (k : Steps p.tables e below (T.setTop { g with pc := pc', stack := rest }) target) : Steps p.tables e below (T.setTop g) target := by
  subst hg hpc hq ho
  jvm_step X.here [X.here.top, hx, hd, hs, lookupswitch.wp_chain, hp, h0]
  exact ⟨by simpa using hp, k⟩
theorem own_sta_keep {C n d : String} {v : Value} {ws : List Addr} (F : Sta Z h C n d v) (K : Keep h h' ws) (q : ∀ a ∈ ws, ∀ cell : Cell, h[a]? = some cell → cell.vm.isStatics = false) : Sta Z h' C n d v := by
  obtain ⟨cf, i, k, f, st, cell, h1, h2, h3, h4, h5, h6, h7⟩ := F
  exact ⟨cf, i, k, f, st, cell, h1, h2, h3, h4, K.2.1 st cell h5 (fun hm => by rw [q st hm cell h5] at h6; cases h6), h6, h7⟩
end OwnKit
theorem pd_0 : parseMethodDescriptor "()V" = some ⟨[], none⟩ := by decide +kernel
theorem pd_1 : parseMethodDescriptor "(JI)I" = some ⟨[.long, .int], some .int⟩ := by decide +kernel
theorem pd_2 : parseMethodDescriptor "(Lcom/example/tilescript/tilescript/TicTacToe;[II)V" = some ⟨[(.object "com/example/tilescript/tilescript/TicTacToe"), (.array .int), .int], none⟩ := by decide +kernel
theorem pd_3 : parseMethodDescriptor "([I)Z" = some ⟨[(.array .int)], some .boolean⟩ := by decide +kernel
theorem pd_4 : parseMethodDescriptor "(I)Z" = some ⟨[.int], some .boolean⟩ := by decide +kernel
theorem pd_5 : parseMethodDescriptor "(I)V" = some ⟨[.int], none⟩ := by decide +kernel
theorem pd_6 : parseMethodDescriptor "()Z" = some ⟨[], some .boolean⟩ := by decide +kernel
theorem pd_7 : parseMethodDescriptor "()C" = some ⟨[], some .char⟩ := by decide +kernel
theorem pn_0 : plainName "com/example/tilescript/tilescript/TicTacToeIsOverPinLaw" = true := by first | (simp [plainName, overriddenIn]; done) | decide +kernel
theorem d1_0 : decode prog_19_method_1_code 0 = .ok (.aload_n 0, 1) := by decide +kernel
theorem d1_1 : decode prog_19_method_1_code 1 = .ok (.invokespecial 1, 3) := by decide +kernel
theorem d1_4 : decode prog_19_method_1_code 4 = .ok (.aload_n 0, 1) := by decide +kernel
theorem d1_5 : decode prog_19_method_1_code 5 = .ok (.iconst (-1), 1) := by decide +kernel
theorem d1_6 : decode prog_19_method_1_code 6 = .ok (.putfield 7, 3) := by decide +kernel
theorem d1_9 : decode prog_19_method_1_code 9 = .ok (.aload_n 0, 1) := by decide +kernel
theorem d1_10 : decode prog_19_method_1_code 10 = .ok (.bipush 45, 2) := by decide +kernel
theorem d1_12 : decode prog_19_method_1_code 12 = .ok (.putfield 13, 3) := by decide +kernel
theorem d1_15 : decode prog_19_method_1_code 15 = .ok (.return_, 1) := by decide +kernel
theorem pn_1 : plainName "com/example/tilescript/tilescript/TicTacToe" = true := by first | (simp [plainName, overriddenIn]; done) | decide +kernel
theorem d3_0 : decode method_4_code 0 = .ok (.lload_n 0, 1) := by decide +kernel
theorem d3_1 : decode method_4_code 1 = .ok (.iconst 4, 1) := by decide +kernel
theorem d3_2 : decode method_4_code 2 = .ok (.iload_n 2, 1) := by decide +kernel
theorem d3_3 : decode method_4_code 3 = .ok (.imul, 1) := by decide +kernel
theorem d3_4 : decode method_4_code 4 = .ok (.lushr, 1) := by decide +kernel
theorem d3_5 : decode method_4_code 5 = .ok (.ldc2_w 13, 3) := by decide +kernel
theorem d3_8 : decode method_4_code 8 = .ok (.land, 1) := by decide +kernel
theorem d3_9 : decode method_4_code 9 = .ok (.l2i, 1) := by decide +kernel
theorem d3_10 : decode method_4_code 10 = .ok (.bipush 9, 2) := by decide +kernel
theorem d3_12 : decode method_4_code 12 = .ok (.irem, 1) := by decide +kernel
theorem d3_13 : decode method_4_code 13 = .ok (.ireturn, 1) := by decide +kernel
theorem pn_3 : plainName "com/example/tilescript/tilescript/TicTacToeIsOverPinLaw" = true := by first | (simp [plainName, overriddenIn]; done) | decide +kernel
theorem d4_0 : decode method_5_code 0 = .ok (.aload_n 1, 1) := by decide +kernel
theorem d4_1 : decode method_5_code 1 = .ok (.invokestatic 15, 3) := by decide +kernel
theorem d4_4 : decode method_5_code 4 = .ok (.ifCond .eq 4, 3) := by decide +kernel
theorem d4_7 : decode method_5_code 7 = .ok (.return_, 1) := by decide +kernel
theorem d4_8 : decode method_5_code 8 = .ok (.iconst 1, 1) := by decide +kernel
theorem d4_9 : decode method_5_code 9 = .ok (.iload_n 2, 1) := by decide +kernel
theorem d4_10 : decode method_5_code 10 = .ok (.ishl, 1) := by decide +kernel
theorem d4_11 : decode method_5_code 11 = .ok (.istore_n 3, 1) := by decide +kernel
theorem d4_12 : decode method_5_code 12 = .ok (.aload_n 1, 1) := by decide +kernel
theorem d4_13 : decode method_5_code 13 = .ok (.iconst 0, 1) := by decide +kernel
theorem d4_14 : decode method_5_code 14 = .ok (.iaload, 1) := by decide +kernel
theorem d4_15 : decode method_5_code 15 = .ok (.aload_n 1, 1) := by decide +kernel
theorem d4_16 : decode method_5_code 16 = .ok (.iconst 1, 1) := by decide +kernel
theorem d4_17 : decode method_5_code 17 = .ok (.iaload, 1) := by decide +kernel
theorem d4_18 : decode method_5_code 18 = .ok (.ior, 1) := by decide +kernel
theorem d4_19 : decode method_5_code 19 = .ok (.iload_n 3, 1) := by decide +kernel
theorem d4_20 : decode method_5_code 20 = .ok (.iand, 1) := by decide +kernel
theorem d4_21 : decode method_5_code 21 = .ok (.ifCond .eq 4, 3) := by decide +kernel
theorem d4_24 : decode method_5_code 24 = .ok (.return_, 1) := by decide +kernel
theorem d4_25 : decode method_5_code 25 = .ok (.aload_n 0, 1) := by decide +kernel
theorem d4_26 : decode method_5_code 26 = .ok (.iload_n 2, 1) := by decide +kernel
theorem d4_27 : decode method_5_code 27 = .ok (.invokevirtual 19, 3) := by decide +kernel
theorem d4_30 : decode method_5_code 30 = .ok (.aload_n 1, 1) := by decide +kernel
theorem d4_31 : decode method_5_code 31 = .ok (.iconst 2, 1) := by decide +kernel
theorem d4_32 : decode method_5_code 32 = .ok (.iaload, 1) := by decide +kernel
theorem d4_33 : decode method_5_code 33 = .ok (.iconst 2, 1) := by decide +kernel
theorem d4_34 : decode method_5_code 34 = .ok (.irem, 1) := by decide +kernel
theorem d4_35 : decode method_5_code 35 = .ok (.ifCond .ne 14, 3) := by decide +kernel
theorem d4_38 : decode method_5_code 38 = .ok (.aload_n 1, 1) := by decide +kernel
theorem d4_39 : decode method_5_code 39 = .ok (.iconst 0, 1) := by decide +kernel
theorem d4_40 : decode method_5_code 40 = .ok (.aload_n 1, 1) := by decide +kernel
theorem d4_41 : decode method_5_code 41 = .ok (.iconst 0, 1) := by decide +kernel
theorem d4_42 : decode method_5_code 42 = .ok (.iaload, 1) := by decide +kernel
theorem d4_43 : decode method_5_code 43 = .ok (.iload_n 3, 1) := by decide +kernel
theorem d4_44 : decode method_5_code 44 = .ok (.ior, 1) := by decide +kernel
theorem d4_45 : decode method_5_code 45 = .ok (.iastore, 1) := by decide +kernel
theorem d4_46 : decode method_5_code 46 = .ok (.goto 11, 3) := by decide +kernel
theorem d4_49 : decode method_5_code 49 = .ok (.aload_n 1, 1) := by decide +kernel
theorem d4_50 : decode method_5_code 50 = .ok (.iconst 1, 1) := by decide +kernel
theorem d4_51 : decode method_5_code 51 = .ok (.aload_n 1, 1) := by decide +kernel
theorem d4_52 : decode method_5_code 52 = .ok (.iconst 1, 1) := by decide +kernel
theorem d4_53 : decode method_5_code 53 = .ok (.iaload, 1) := by decide +kernel
theorem d4_54 : decode method_5_code 54 = .ok (.iload_n 3, 1) := by decide +kernel
theorem d4_55 : decode method_5_code 55 = .ok (.ior, 1) := by decide +kernel
theorem d4_56 : decode method_5_code 56 = .ok (.iastore, 1) := by decide +kernel
theorem d4_57 : decode method_5_code 57 = .ok (.aload_n 1, 1) := by decide +kernel
theorem d4_58 : decode method_5_code 58 = .ok (.iconst 2, 1) := by decide +kernel
theorem d4_59 : decode method_5_code 59 = .ok (.aload_n 1, 1) := by decide +kernel
theorem d4_60 : decode method_5_code 60 = .ok (.iconst 2, 1) := by decide +kernel
theorem d4_61 : decode method_5_code 61 = .ok (.iaload, 1) := by decide +kernel
theorem d4_62 : decode method_5_code 62 = .ok (.iconst 1, 1) := by decide +kernel
theorem d4_63 : decode method_5_code 63 = .ok (.iadd, 1) := by decide +kernel
theorem d4_64 : decode method_5_code 64 = .ok (.iastore, 1) := by decide +kernel
theorem d4_65 : decode method_5_code 65 = .ok (.return_, 1) := by decide +kernel
theorem pn_4 : plainName "com/example/tilescript/tilescript/TicTacToeIsOverPinLaw" = true := by first | (simp [plainName, overriddenIn]; done) | decide +kernel
theorem d5_0 : decode method_3_code 0 = .ok (.aload_n 0, 1) := by decide +kernel
theorem d5_1 : decode method_3_code 1 = .ok (.iconst 0, 1) := by decide +kernel
theorem d5_2 : decode method_3_code 2 = .ok (.iaload, 1) := by decide +kernel
theorem d5_3 : decode method_3_code 3 = .ok (.invokestatic 7, 3) := by decide +kernel
theorem d5_6 : decode method_3_code 6 = .ok (.ifCond .ne 25, 3) := by decide +kernel
theorem d5_9 : decode method_3_code 9 = .ok (.aload_n 0, 1) := by decide +kernel
theorem d5_10 : decode method_3_code 10 = .ok (.iconst 1, 1) := by decide +kernel
theorem d5_11 : decode method_3_code 11 = .ok (.iaload, 1) := by decide +kernel
theorem d5_12 : decode method_3_code 12 = .ok (.invokestatic 7, 3) := by decide +kernel
theorem d5_15 : decode method_3_code 15 = .ok (.ifCond .ne 16, 3) := by decide +kernel
theorem d5_18 : decode method_3_code 18 = .ok (.aload_n 0, 1) := by decide +kernel
theorem d5_19 : decode method_3_code 19 = .ok (.iconst 0, 1) := by decide +kernel
theorem d5_20 : decode method_3_code 20 = .ok (.iaload, 1) := by decide +kernel
theorem d5_21 : decode method_3_code 21 = .ok (.aload_n 0, 1) := by decide +kernel
theorem d5_22 : decode method_3_code 22 = .ok (.iconst 1, 1) := by decide +kernel
theorem d5_23 : decode method_3_code 23 = .ok (.iaload, 1) := by decide +kernel
theorem d5_24 : decode method_3_code 24 = .ok (.ior, 1) := by decide +kernel
theorem d5_25 : decode method_3_code 25 = .ok (.sipush 511, 3) := by decide +kernel
theorem d5_28 : decode method_3_code 28 = .ok (.if_icmp .ne 7, 3) := by decide +kernel
theorem d5_31 : decode method_3_code 31 = .ok (.iconst 1, 1) := by decide +kernel
theorem d5_32 : decode method_3_code 32 = .ok (.goto 4, 3) := by decide +kernel
theorem d5_35 : decode method_3_code 35 = .ok (.iconst 0, 1) := by decide +kernel
theorem d5_36 : decode method_3_code 36 = .ok (.ireturn, 1) := by decide +kernel
theorem pn_5 : plainName "com/example/tilescript/tilescript/TicTacToeIsOverPinLaw" = true := by first | (simp [plainName, overriddenIn]; done) | decide +kernel
theorem d6_0 : decode method_2_code 0 = .ok (.iload_n 0, 1) := by decide +kernel
theorem d6_1 : decode method_2_code 1 = .ok (.bipush 7, 2) := by decide +kernel
theorem d6_3 : decode method_2_code 3 = .ok (.iand, 1) := by decide +kernel
theorem d6_4 : decode method_2_code 4 = .ok (.bipush 7, 2) := by decide +kernel
theorem d6_6 : decode method_2_code 6 = .ok (.if_icmp .eq 74, 3) := by decide +kernel
theorem d6_9 : decode method_2_code 9 = .ok (.iload_n 0, 1) := by decide +kernel
theorem d6_10 : decode method_2_code 10 = .ok (.bipush 56, 2) := by decide +kernel
theorem d6_12 : decode method_2_code 12 = .ok (.iand, 1) := by decide +kernel
theorem d6_13 : decode method_2_code 13 = .ok (.bipush 56, 2) := by decide +kernel
theorem d6_15 : decode method_2_code 15 = .ok (.if_icmp .eq 65, 3) := by decide +kernel
theorem d6_18 : decode method_2_code 18 = .ok (.iload_n 0, 1) := by decide +kernel
theorem d6_19 : decode method_2_code 19 = .ok (.sipush 448, 3) := by decide +kernel
theorem d6_22 : decode method_2_code 22 = .ok (.iand, 1) := by decide +kernel
theorem d6_23 : decode method_2_code 23 = .ok (.sipush 448, 3) := by decide +kernel
theorem d6_26 : decode method_2_code 26 = .ok (.if_icmp .eq 54, 3) := by decide +kernel
theorem d6_29 : decode method_2_code 29 = .ok (.iload_n 0, 1) := by decide +kernel
theorem d6_30 : decode method_2_code 30 = .ok (.bipush 73, 2) := by decide +kernel
theorem d6_32 : decode method_2_code 32 = .ok (.iand, 1) := by decide +kernel
theorem d6_33 : decode method_2_code 33 = .ok (.bipush 73, 2) := by decide +kernel
theorem d6_35 : decode method_2_code 35 = .ok (.if_icmp .eq 45, 3) := by decide +kernel
theorem d6_38 : decode method_2_code 38 = .ok (.iload_n 0, 1) := by decide +kernel
theorem d6_39 : decode method_2_code 39 = .ok (.sipush 146, 3) := by decide +kernel
theorem d6_42 : decode method_2_code 42 = .ok (.iand, 1) := by decide +kernel
theorem d6_43 : decode method_2_code 43 = .ok (.sipush 146, 3) := by decide +kernel
theorem d6_46 : decode method_2_code 46 = .ok (.if_icmp .eq 34, 3) := by decide +kernel
theorem d6_49 : decode method_2_code 49 = .ok (.iload_n 0, 1) := by decide +kernel
theorem d6_50 : decode method_2_code 50 = .ok (.sipush 292, 3) := by decide +kernel
theorem d6_53 : decode method_2_code 53 = .ok (.iand, 1) := by decide +kernel
theorem d6_54 : decode method_2_code 54 = .ok (.sipush 292, 3) := by decide +kernel
theorem d6_57 : decode method_2_code 57 = .ok (.if_icmp .eq 23, 3) := by decide +kernel
theorem d6_60 : decode method_2_code 60 = .ok (.iload_n 0, 1) := by decide +kernel
theorem d6_61 : decode method_2_code 61 = .ok (.sipush 273, 3) := by decide +kernel
theorem d6_64 : decode method_2_code 64 = .ok (.iand, 1) := by decide +kernel
theorem d6_65 : decode method_2_code 65 = .ok (.sipush 273, 3) := by decide +kernel
theorem d6_68 : decode method_2_code 68 = .ok (.if_icmp .eq 12, 3) := by decide +kernel
theorem d6_71 : decode method_2_code 71 = .ok (.iload_n 0, 1) := by decide +kernel
theorem d6_72 : decode method_2_code 72 = .ok (.bipush 84, 2) := by decide +kernel
theorem d6_74 : decode method_2_code 74 = .ok (.iand, 1) := by decide +kernel
theorem d6_75 : decode method_2_code 75 = .ok (.bipush 84, 2) := by decide +kernel
theorem d6_77 : decode method_2_code 77 = .ok (.if_icmp .ne 7, 3) := by decide +kernel
theorem d6_80 : decode method_2_code 80 = .ok (.iconst 1, 1) := by decide +kernel
theorem d6_81 : decode method_2_code 81 = .ok (.goto 4, 3) := by decide +kernel
theorem d6_84 : decode method_2_code 84 = .ok (.iconst 0, 1) := by decide +kernel
theorem d6_85 : decode method_2_code 85 = .ok (.ireturn, 1) := by decide +kernel
theorem pn_6 : plainName "com/example/tilescript/tilescript/TicTacToeIsOverPinLaw" = true := by first | (simp [plainName, overriddenIn]; done) | decide +kernel
theorem d7_0 : decode prog_19_method_8_code 0 = .ok (.aload_n 0, 1) := by decide +kernel
theorem d7_1 : decode prog_19_method_8_code 1 = .ok (.iload_n 1, 1) := by decide +kernel
theorem d7_2 : decode prog_19_method_8_code 2 = .ok (.invokevirtual 30, 3) := by decide +kernel
theorem d7_5 : decode prog_19_method_8_code 5 = .ok (.ifCond .ne 21, 3) := by decide +kernel
theorem d7_8 : decode prog_19_method_8_code 8 = .ok (.new 34, 3) := by decide +kernel
theorem d7_11 : decode prog_19_method_8_code 11 = .ok (.dup, 1) := by decide +kernel
theorem d7_12 : decode prog_19_method_8_code 12 = .ok (.iload_n 1, 1) := by decide +kernel
theorem d7_13 : decode prog_19_method_8_code 13 = .ok (.aload_n 0, 1) := by decide +kernel
theorem d7_14 : decode prog_19_method_8_code 14 = .ok (.invokestatic 36, 3) := by decide +kernel
theorem d7_22 : decode prog_19_method_8_code 22 = .ok (.invokespecial 46, 3) := by decide +kernel
theorem d7_25 : decode prog_19_method_8_code 25 = .ok (.athrow, 1) := by decide +kernel
theorem d7_26 : decode prog_19_method_8_code 26 = .ok (.aload_n 0, 1) := by decide +kernel
theorem d7_27 : decode prog_19_method_8_code 27 = .ok (.invokevirtual 49, 3) := by decide +kernel
theorem d7_30 : decode prog_19_method_8_code 30 = .ok (.istore_n 2, 1) := by decide +kernel
theorem d7_31 : decode prog_19_method_8_code 31 = .ok (.iload_n 2, 1) := by decide +kernel
theorem d7_32 : decode prog_19_method_8_code 32 = .ok (.bipush 88, 2) := by decide +kernel
theorem d7_34 : decode prog_19_method_8_code 34 = .ok (.if_icmp .ne 23, 3) := by decide +kernel
theorem d7_37 : decode prog_19_method_8_code 37 = .ok (.aload_n 0, 1) := by decide +kernel
theorem d7_38 : decode prog_19_method_8_code 38 = .ok (.dup, 1) := by decide +kernel
theorem d7_39 : decode prog_19_method_8_code 39 = .ok (.getfield 20, 3) := by decide +kernel
theorem d7_42 : decode prog_19_method_8_code 42 = .ok (.iconst 1, 1) := by decide +kernel
theorem d7_43 : decode prog_19_method_8_code 43 = .ok (.iload_n 1, 1) := by decide +kernel
theorem d7_44 : decode prog_19_method_8_code 44 = .ok (.ishl, 1) := by decide +kernel
theorem d7_45 : decode prog_19_method_8_code 45 = .ok (.ior, 1) := by decide +kernel
theorem d7_46 : decode prog_19_method_8_code 46 = .ok (.putfield 20, 3) := by decide +kernel
theorem d7_49 : decode prog_19_method_8_code 49 = .ok (.aload_n 0, 1) := by decide +kernel
theorem d7_50 : decode prog_19_method_8_code 50 = .ok (.getfield 20, 3) := by decide +kernel
theorem d7_53 : decode prog_19_method_8_code 53 = .ok (.istore_n 3, 1) := by decide +kernel
theorem d7_54 : decode prog_19_method_8_code 54 = .ok (.goto 20, 3) := by decide +kernel
theorem d7_57 : decode prog_19_method_8_code 57 = .ok (.aload_n 0, 1) := by decide +kernel
theorem d7_58 : decode prog_19_method_8_code 58 = .ok (.dup, 1) := by decide +kernel
theorem d7_59 : decode prog_19_method_8_code 59 = .ok (.getfield 23, 3) := by decide +kernel
theorem d7_62 : decode prog_19_method_8_code 62 = .ok (.iconst 1, 1) := by decide +kernel
theorem d7_63 : decode prog_19_method_8_code 63 = .ok (.iload_n 1, 1) := by decide +kernel
theorem d7_64 : decode prog_19_method_8_code 64 = .ok (.ishl, 1) := by decide +kernel
theorem d7_65 : decode prog_19_method_8_code 65 = .ok (.ior, 1) := by decide +kernel
theorem d7_66 : decode prog_19_method_8_code 66 = .ok (.putfield 23, 3) := by decide +kernel
theorem d7_69 : decode prog_19_method_8_code 69 = .ok (.aload_n 0, 1) := by decide +kernel
theorem d7_70 : decode prog_19_method_8_code 70 = .ok (.getfield 23, 3) := by decide +kernel
theorem d7_73 : decode prog_19_method_8_code 73 = .ok (.istore_n 3, 1) := by decide +kernel
theorem d7_74 : decode prog_19_method_8_code 74 = .ok (.aload_n 0, 1) := by decide +kernel
theorem d7_75 : decode prog_19_method_8_code 75 = .ok (.dup, 1) := by decide +kernel
theorem d7_76 : decode prog_19_method_8_code 76 = .ok (.getfield 17, 3) := by decide +kernel
theorem d7_79 : decode prog_19_method_8_code 79 = .ok (.iconst 1, 1) := by decide +kernel
theorem d7_80 : decode prog_19_method_8_code 80 = .ok (.iadd, 1) := by decide +kernel
theorem d7_81 : decode prog_19_method_8_code 81 = .ok (.putfield 17, 3) := by decide +kernel
theorem d7_84 : decode prog_19_method_8_code 84 = .ok (.aload_n 0, 1) := by decide +kernel
theorem d7_85 : decode prog_19_method_8_code 85 = .ok (.iload_n 1, 1) := by decide +kernel
theorem d7_86 : decode prog_19_method_8_code 86 = .ok (.putfield 7, 3) := by decide +kernel
theorem d7_89 : decode prog_19_method_8_code 89 = .ok (.getstatic 53, 3) := by decide +kernel
theorem d7_92 : decode prog_19_method_8_code 92 = .ok (.astore 4, 2) := by decide +kernel
theorem d7_94 : decode prog_19_method_8_code 94 = .ok (.aload 4, 2) := by decide +kernel
theorem d7_96 : decode prog_19_method_8_code 96 = .ok (.arraylength, 1) := by decide +kernel
theorem d7_97 : decode prog_19_method_8_code 97 = .ok (.istore 5, 2) := by decide +kernel
theorem d7_99 : decode prog_19_method_8_code 99 = .ok (.iconst 0, 1) := by decide +kernel
theorem d7_100 : decode prog_19_method_8_code 100 = .ok (.istore 6, 2) := by decide +kernel
theorem d7_102 : decode prog_19_method_8_code 102 = .ok (.iload 6, 2) := by decide +kernel
theorem d7_104 : decode prog_19_method_8_code 104 = .ok (.iload 5, 2) := by decide +kernel
theorem d7_106 : decode prog_19_method_8_code 106 = .ok (.if_icmp .ge 31, 3) := by decide +kernel
theorem d7_109 : decode prog_19_method_8_code 109 = .ok (.aload 4, 2) := by decide +kernel
theorem d7_111 : decode prog_19_method_8_code 111 = .ok (.iload 6, 2) := by decide +kernel
theorem d7_113 : decode prog_19_method_8_code 113 = .ok (.iaload, 1) := by decide +kernel
theorem d7_114 : decode prog_19_method_8_code 114 = .ok (.istore 7, 2) := by decide +kernel
theorem d7_116 : decode prog_19_method_8_code 116 = .ok (.iload_n 3, 1) := by decide +kernel
theorem d7_117 : decode prog_19_method_8_code 117 = .ok (.iload 7, 2) := by decide +kernel
theorem d7_119 : decode prog_19_method_8_code 119 = .ok (.iand, 1) := by decide +kernel
theorem d7_120 : decode prog_19_method_8_code 120 = .ok (.iload 7, 2) := by decide +kernel
theorem d7_122 : decode prog_19_method_8_code 122 = .ok (.if_icmp .ne 9, 3) := by decide +kernel
theorem d7_125 : decode prog_19_method_8_code 125 = .ok (.aload_n 0, 1) := by decide +kernel
theorem d7_126 : decode prog_19_method_8_code 126 = .ok (.iload_n 2, 1) := by decide +kernel
theorem d7_127 : decode prog_19_method_8_code 127 = .ok (.putfield 13, 3) := by decide +kernel
theorem d7_130 : decode prog_19_method_8_code 130 = .ok (.return_, 1) := by decide +kernel
theorem d7_131 : decode prog_19_method_8_code 131 = .ok (.iinc 6 1, 3) := by decide +kernel
theorem d7_134 : decode prog_19_method_8_code 134 = .ok (.goto (-32), 3) := by decide +kernel
theorem d7_137 : decode prog_19_method_8_code 137 = .ok (.return_, 1) := by decide +kernel
theorem pn_7 : plainName "com/example/tilescript/tilescript/TicTacToe" = true := by first | (simp [plainName, overriddenIn]; done) | decide +kernel
theorem d8_0 : decode prog_19_method_7_code 0 = .ok (.aload_n 0, 1) := by decide +kernel
theorem d8_1 : decode prog_19_method_7_code 1 = .ok (.invokevirtual 26, 3) := by decide +kernel
theorem d8_4 : decode prog_19_method_7_code 4 = .ok (.ifCond .ne 33, 3) := by decide +kernel
theorem d8_7 : decode prog_19_method_7_code 7 = .ok (.iload_n 1, 1) := by decide +kernel
theorem d8_8 : decode prog_19_method_7_code 8 = .ok (.ifCond .lt 29, 3) := by decide +kernel
theorem d8_11 : decode prog_19_method_7_code 11 = .ok (.iload_n 1, 1) := by decide +kernel
theorem d8_12 : decode prog_19_method_7_code 12 = .ok (.bipush 9, 2) := by decide +kernel
theorem d8_14 : decode prog_19_method_7_code 14 = .ok (.if_icmp .ge 23, 3) := by decide +kernel
theorem d8_17 : decode prog_19_method_7_code 17 = .ok (.aload_n 0, 1) := by decide +kernel
theorem d8_18 : decode prog_19_method_7_code 18 = .ok (.getfield 20, 3) := by decide +kernel
theorem d8_21 : decode prog_19_method_7_code 21 = .ok (.aload_n 0, 1) := by decide +kernel
theorem d8_22 : decode prog_19_method_7_code 22 = .ok (.getfield 23, 3) := by decide +kernel
theorem d8_25 : decode prog_19_method_7_code 25 = .ok (.ior, 1) := by decide +kernel
theorem d8_26 : decode prog_19_method_7_code 26 = .ok (.iconst 1, 1) := by decide +kernel
theorem d8_27 : decode prog_19_method_7_code 27 = .ok (.iload_n 1, 1) := by decide +kernel
theorem d8_28 : decode prog_19_method_7_code 28 = .ok (.ishl, 1) := by decide +kernel
theorem d8_29 : decode prog_19_method_7_code 29 = .ok (.iand, 1) := by decide +kernel
theorem d8_30 : decode prog_19_method_7_code 30 = .ok (.ifCond .ne 7, 3) := by decide +kernel
theorem d8_33 : decode prog_19_method_7_code 33 = .ok (.iconst 1, 1) := by decide +kernel
theorem d8_34 : decode prog_19_method_7_code 34 = .ok (.goto 4, 3) := by decide +kernel
theorem d8_37 : decode prog_19_method_7_code 37 = .ok (.iconst 0, 1) := by decide +kernel
theorem d8_38 : decode prog_19_method_7_code 38 = .ok (.ireturn, 1) := by decide +kernel
theorem pn_8 : plainName "com/example/tilescript/tilescript/TicTacToe" = true := by first | (simp [plainName, overriddenIn]; done) | decide +kernel
theorem d9_0 : decode prog_19_method_5_code 0 = .ok (.aload_n 0, 1) := by decide +kernel
theorem d9_1 : decode prog_19_method_5_code 1 = .ok (.getfield 13, 3) := by decide +kernel
theorem d9_4 : decode prog_19_method_5_code 4 = .ok (.bipush 45, 2) := by decide +kernel
theorem d9_6 : decode prog_19_method_5_code 6 = .ok (.if_icmp .ne 12, 3) := by decide +kernel
theorem d9_9 : decode prog_19_method_5_code 9 = .ok (.aload_n 0, 1) := by decide +kernel
theorem d9_10 : decode prog_19_method_5_code 10 = .ok (.getfield 17, 3) := by decide +kernel
theorem d9_13 : decode prog_19_method_5_code 13 = .ok (.bipush 9, 2) := by decide +kernel
theorem d9_15 : decode prog_19_method_5_code 15 = .ok (.if_icmp .ne 7, 3) := by decide +kernel
theorem d9_18 : decode prog_19_method_5_code 18 = .ok (.iconst 1, 1) := by decide +kernel
theorem d9_19 : decode prog_19_method_5_code 19 = .ok (.goto 4, 3) := by decide +kernel
theorem d9_22 : decode prog_19_method_5_code 22 = .ok (.iconst 0, 1) := by decide +kernel
theorem d9_23 : decode prog_19_method_5_code 23 = .ok (.ireturn, 1) := by decide +kernel
theorem pn_9 : plainName "com/example/tilescript/tilescript/TicTacToe" = true := by first | (simp [plainName, overriddenIn]; done) | decide +kernel
theorem d10_0 : decode prog_19_method_2_code 0 = .ok (.aload_n 0, 1) := by decide +kernel
theorem d10_1 : decode prog_19_method_2_code 1 = .ok (.getfield 17, 3) := by decide +kernel
theorem d10_4 : decode prog_19_method_2_code 4 = .ok (.iconst 2, 1) := by decide +kernel
theorem d10_5 : decode prog_19_method_2_code 5 = .ok (.irem, 1) := by decide +kernel
theorem d10_6 : decode prog_19_method_2_code 6 = .ok (.ifCond .ne 8, 3) := by decide +kernel
theorem d10_9 : decode prog_19_method_2_code 9 = .ok (.bipush 88, 2) := by decide +kernel
theorem d10_11 : decode prog_19_method_2_code 11 = .ok (.goto 5, 3) := by decide +kernel
theorem d10_14 : decode prog_19_method_2_code 14 = .ok (.bipush 79, 2) := by decide +kernel
theorem d10_16 : decode prog_19_method_2_code 16 = .ok (.ireturn, 1) := by decide +kernel
theorem pn_10 : plainName "com/example/tilescript/tilescript/TicTacToe" = true := by first | (simp [plainName, overriddenIn]; done) | decide +kernel

theorem own_eqI {args : Array Value} {first s : State} {o : Option Outcome} {idx : List Nat} {t : Term} {n : Int32} (h : (Cond.eq t (.int n)).value args first o s idx = some true) : t.eval args first o idx s = some (.int n) := by
  simp only [Cond.value, Term.eval] at h
  cases ht : t.eval args first o idx s with
  | none => simp [ht] at h
  | some x => cases x <;> simp [ht] at h ⊢; exact h
theorem own_eqR {args : Array Value} {first s : State} {o : Option Outcome} {idx : List Nat} {t u : Term} {a : Addr} (hu : u.eval args first o idx s = some (.ref a)) (h : (Cond.eq t u).value args first o s idx = some true) : t.eval args first o idx s = some (.ref a) := by
  simp only [Cond.value, hu] at h
  cases ht : t.eval args first o idx s with
  | none => simp [ht] at h
  | some x => cases x <;> simp [ht] at h ⊢; exact h
theorem own_el {args : Array Value} {s : State} {t : Term} {a : Addr} {c : Cell} {ty : FieldType} {i : Int32} {v : Value} (A : Arr s s.heap a c ty) (ev : t.eval args s none [] s = some (.ref a)) (he : (Term.elem t (.int i)).eval args s none [] s = some v) (k : Nat) (hk : i.toNatClampNeg = k) : c.slots[k]? = some v := by
  subst hk
  exact (elem_in he ev rfl A.1).2
theorem own_arv {args : Array Value} {s : State} {t : Term} {a : Addr} {c : Cell} {ty : FieldType} {z : Int32} {vs : List Value} {dv : Value} (hf : Fit s) (A : Arr s s.heap a c ty) (ev : t.eval args s none [] s = some (.ref a)) (hl : (Term.length t).eval args s none [] s = some (.int z)) (hz : ¬ z < 0) (hle : z.toNatClampNeg = vs.length) (H : HasL c 0 vs) : Arv s s.heap a c.cls ty z vs dv := by
  have hA := A.fin (Vm.Alike.refl _)
  by_cases q : c.slots.size < 2 ^ 31
  · have e := (len_f ev hA q).symm.trans hl
    injection e with e
    injection e with e
    exact Arv.start hf A q e hz hle H
  · simp [Term.eval, ev, hA, q] at hl
theorem ef_rm1 (m : MethodId) (x0 : Addr) : entryFrame m #[(.ref x0)] 1 = mkF m 0 #[.val (.ref x0)] [] := by first | (simp [entryFrame, mkF, argsToLocals, Value.category]; done) | rfl
def Qrm1 (Z : State) (p0 : Addr) (h0 : Heap) (n0 : Nat) (v : Option Value) (h : Heap) (L : List Loc) : Prop := v = none ∧ Fr n0 L ∧ Keep h0 h [p0] ∧ Fld Z h p0 "com/example/tilescript/tilescript/TicTacToe" "lastMove" "I" (.int (-1 : Int32)) ∧ Fld Z h p0 "com/example/tilescript/tilescript/TicTacToe" "winner" "C" (.int (45 : Int32)) ∧ Fld Z h p0 "com/example/tilescript/tilescript/TicTacToe" "xCells" "I" (.int (0 : Int32)) ∧ Fld Z h p0 "com/example/tilescript/tilescript/TicTacToe" "oCells" "I" (.int (0 : Int32)) ∧ Fld Z h p0 "com/example/tilescript/tilescript/TicTacToe" "marks" "I" (.int (0 : Int32))
set_option maxRecDepth 65536 in
set_option maxHeartbeats 40000000 in
theorem rm1 (l : Launch) (Z : State) (a0 : Array Value) (hw : ∀ d ∈ tables_1, d.before a0 Z = true) (ws : List Jvm.Cond) (p0 : Addr) (h0 : Heap) (n0 : Nat) (Z0 : n0 ≤ h0.size) (E_p0 : Exa Z h0 p0 "com/example/tilescript/tilescript/TicTacToe") (F_lastMove_p0 : Fld Z h0 p0 "com/example/tilescript/tilescript/TicTacToe" "lastMove" "I" (.int (0 : Int32))) (F_winner_p0 : Fld Z h0 p0 "com/example/tilescript/tilescript/TicTacToe" "winner" "C" (.int (0 : Int32))) (F_xCells_p0 : Fld Z h0 p0 "com/example/tilescript/tilescript/TicTacToe" "xCells" "I" (.int (0 : Int32))) (F_oCells_p0 : Fld Z h0 p0 "com/example/tilescript/tilescript/TicTacToe" "oCells" "I" (.int (0 : Int32))) (F_marks_p0 : Fld Z h0 p0 "com/example/tilescript/tilescript/TicTacToe" "marks" "I" (.int (0 : Int32))) (g_p0 : n0 ≤ p0) :
    MetFree l (⟨"com/example/tilescript/tilescript/TicTacToe", "<init>", "()V"⟩ : MethodName) (head1 (Jvm.Cond.code (⟨"com/example/tilescript/tilescript/TicTacToe", "<init>", "()V"⟩ : MethodName) prog_19_method_1_code 1 none :: ws) ({ frames := 1, cells := 0, slots := 0, locals := 12 } : Room)) (fun a U => a = #[(.ref p0)] ∧ Z.Warmed39 U.vm ∧ U.heap = h0) (fun _ _ _ _ _ => True) (fun _ U o U' => ∃ v L, o = .returned v ∧ Qrm1 Z p0 h0 n0 v U'.heap L ∧ FrameEnd U o U' L ({ frames := 1, cells := 0, slots := 0, locals := 12 } : Room).cells ({ frames := 1, cells := 0, slots := 0, locals := 12 } : Room).slots) := by
  refine MetFree.of_bodySF (plainFor_of_name pn_1) hisR ?_
  intro p e s m args below meth c s₁ Bd hml0 hP hK
  obtain ⟨rfl, hZ, hh⟩ := hP
  have hx := Bd.exec
  have hby := Bd.bytes
  have hlk : meth.locks = false := BodyLoose.notSynchronized Bd
  have hml : c.maxLocals = 1 := hml0
  have hown : s.vm.findClass "com/example/tilescript/tilescript/TicTacToe" = some m.cls := findClass_of_methodNamed Bd.named
  have hnm := (name_of_methodNamed Bd.named Bd.method).1
  have X0 : Stand p l e ({ frames := 1, cells := 0, slots := 0, locals := 12 } : Room) s m #[(.ref p0)] below meth c s₁ [] 0 0 := Stand.of_body Bd
  have e0 : s₁.heap = h0 := by rw [← hh, Bd.state]; rfl
  have N0 := Fr.nil n0
  have K0 : Keep h0 h0 [p0] := Keep.refl h0 [p0]
  show own_G p e below s 0 0 (Qrm1 Z p0 h0 n0) s₁ (entryFrame m #[(.ref p0)] 1)
  rw [ef_rm1 m p0]
  refine own_step (T' := s₁) (g' := (mkF m 1 #[.val (.ref p0)] [(.ref p0)])) (fun t k => XS.aloadN X0.here hx rfl (hb hby d1_0) rfl rfl k) ?_
  obtain ⟨T1, X1, e1, st1⟩ := initO X0 hx hZ hown (hw _ (List.mem_of_getElem? (i := 7) rfl)) (hw _ (List.mem_of_getElem? (i := 8) rfl)) (hw _ (List.mem_of_getElem? (i := 9) rfl)) e0 (g := (mkF m 1 #[.val (.ref p0)] [(.ref p0)])) rfl (by rw [hml]; rfl) rfl (hb hby d1_1) (by decide) (W := 0) (by show 2 * 0 + _ ≤ _; exact Nat.le_of_eq rfl) (by decide)
  refine own_step (T' := T1) (g' := (mkF m 4 #[.val (.ref p0)] [])) st1 ?_
  refine own_step (T' := T1) (g' := (mkF m 5 #[.val (.ref p0)] [(.ref p0)])) (fun t k => XS.aloadN X1.here hx rfl (hb hby d1_4) rfl rfl k) ?_
  refine own_step (T' := T1) (g' := (mkF m 6 #[.val (.ref p0)] [(.int (-1 : Int32)), (.ref p0)])) (fun t k => XS.iconst X1.here hx rfl (hb hby d1_5) k) ?_
  obtain ⟨T2, h2, X2, e2, W2, st2⟩ := putF X1 hx hZ hown (host := "") (Or.inl (hw _ (List.mem_of_getElem? (i := 10) rfl))) Via.refl e1 F_lastMove_p0 E_p0 (Or.inl (hw _ (List.mem_of_getElem? (i := 11) rfl))) (hw _ (List.mem_of_getElem? (i := 2) rfl)) (ty := .int) (by decide) rfl rfl (g := (mkF m 6 #[.val (.ref p0)] [(.int (-1 : Int32)), (.ref p0)])) rfl rfl (hb hby d1_6)
  have E_p0_2 : Exa Z h2 p0 "com/example/tilescript/tilescript/TicTacToe" := E_p0.wr W2
  have F_winner_p0_2 : Fld Z h2 p0 "com/example/tilescript/tilescript/TicTacToe" "winner" "C" (.int (0 : Int32)) := F_winner_p0.other W2 (Or.inr (slot_ne (Or.inl (hw _ (List.mem_of_getElem? (i := 13) rfl))) (Or.inl (hw _ (List.mem_of_getElem? (i := 11) rfl))) (by decide) (t := .char) (t' := .int) (by decide) (by decide)))
  have F_xCells_p0_2 : Fld Z h2 p0 "com/example/tilescript/tilescript/TicTacToe" "xCells" "I" (.int (0 : Int32)) := F_xCells_p0.other W2 (Or.inr (slot_ne (Or.inl (hw _ (List.mem_of_getElem? (i := 47) rfl))) (Or.inl (hw _ (List.mem_of_getElem? (i := 11) rfl))) (by decide) (t := .int) (t' := .int) (by decide) (by decide)))
  have F_oCells_p0_2 : Fld Z h2 p0 "com/example/tilescript/tilescript/TicTacToe" "oCells" "I" (.int (0 : Int32)) := F_oCells_p0.other W2 (Or.inr (slot_ne (Or.inl (hw _ (List.mem_of_getElem? (i := 49) rfl))) (Or.inl (hw _ (List.mem_of_getElem? (i := 11) rfl))) (by decide) (t := .int) (t' := .int) (by decide) (by decide)))
  have F_marks_p0_2 : Fld Z h2 p0 "com/example/tilescript/tilescript/TicTacToe" "marks" "I" (.int (0 : Int32)) := F_marks_p0.other W2 (Or.inr (slot_ne (Or.inl (hw _ (List.mem_of_getElem? (i := 45) rfl))) (Or.inl (hw _ (List.mem_of_getElem? (i := 11) rfl))) (by decide) (t := .int) (t' := .int) (by decide) (by decide)))
  have K_2 : Keep h0 h2 [p0] := K0.wr W2 (Or.inl (List.mem_of_getElem? (i := 0) rfl))
  have N2 := Fr.snoc X2 N0 g_p0
  have F_lastMove_p0_2 : Fld Z h2 p0 "com/example/tilescript/tilescript/TicTacToe" "lastMove" "I" (.int (-1 : Int32)) := F_lastMove_p0.same W2
  refine own_step (T' := T2) (g' := (mkF m 9 #[.val (.ref p0)] [])) st2 ?_
  refine own_step (T' := T2) (g' := (mkF m 10 #[.val (.ref p0)] [(.ref p0)])) (fun t k => XS.aloadN X2.here hx rfl (hb hby d1_9) rfl rfl k) ?_
  refine own_step (T' := T2) (g' := (mkF m 12 #[.val (.ref p0)] [(.int (45 : Int32)), (.ref p0)])) (fun t k => XS.bipush X2.here hx rfl (hb hby d1_10) k) ?_
  obtain ⟨T3, h3, X3, e3, W3, st3⟩ := putFN X2 hx hZ hown (hw _ (List.mem_of_getElem? (i := 12) rfl)) Via.refl e2 F_winner_p0_2 E_p0_2 (Or.inl (hw _ (List.mem_of_getElem? (i := 13) rfl))) (hw _ (List.mem_of_getElem? (i := 2) rfl)) (ty := .char) (v' := (.int (45 : Int32))) (by decide) rfl (fits_nar_char (45 : Int32)) (g := (mkF m 12 #[.val (.ref p0)] [(.int (45 : Int32)), (.ref p0)])) rfl rfl (hb hby d1_12)
  have E_p0_3 : Exa Z h3 p0 "com/example/tilescript/tilescript/TicTacToe" := E_p0_2.wr W3
  have F_xCells_p0_3 : Fld Z h3 p0 "com/example/tilescript/tilescript/TicTacToe" "xCells" "I" (.int (0 : Int32)) := F_xCells_p0_2.other W3 (Or.inr (slot_ne (Or.inl (hw _ (List.mem_of_getElem? (i := 47) rfl))) (Or.inl (hw _ (List.mem_of_getElem? (i := 13) rfl))) (by decide) (t := .int) (t' := .char) (by decide) (by decide)))
  have F_oCells_p0_3 : Fld Z h3 p0 "com/example/tilescript/tilescript/TicTacToe" "oCells" "I" (.int (0 : Int32)) := F_oCells_p0_2.other W3 (Or.inr (slot_ne (Or.inl (hw _ (List.mem_of_getElem? (i := 49) rfl))) (Or.inl (hw _ (List.mem_of_getElem? (i := 13) rfl))) (by decide) (t := .int) (t' := .char) (by decide) (by decide)))
  have F_marks_p0_3 : Fld Z h3 p0 "com/example/tilescript/tilescript/TicTacToe" "marks" "I" (.int (0 : Int32)) := F_marks_p0_2.other W3 (Or.inr (slot_ne (Or.inl (hw _ (List.mem_of_getElem? (i := 45) rfl))) (Or.inl (hw _ (List.mem_of_getElem? (i := 13) rfl))) (by decide) (t := .int) (t' := .char) (by decide) (by decide)))
  have F_lastMove_p0_3 : Fld Z h3 p0 "com/example/tilescript/tilescript/TicTacToe" "lastMove" "I" (.int (-1 : Int32)) := F_lastMove_p0_2.other W3 (Or.inr (slot_ne (Or.inl (hw _ (List.mem_of_getElem? (i := 11) rfl))) (Or.inl (hw _ (List.mem_of_getElem? (i := 13) rfl))) (by decide) (t := .int) (t' := .char) (by decide) (by decide)))
  have K_3 : Keep h0 h3 [p0] := K_2.wr W3 (Or.inl (List.mem_of_getElem? (i := 0) rfl))
  have N3 := Fr.snoc X3 N2 g_p0
  have F_winner_p0_3 : Fld Z h3 p0 "com/example/tilescript/tilescript/TicTacToe" "winner" "C" (.int (45 : Int32)) := F_winner_p0_2.same W3
  refine own_step (T' := T3) (g' := (mkF m 15 #[.val (.ref p0)] [])) st3 ?_
  refine own_retV X3 hx hlk Bd.returns (hb hby d1_15) (by decide) (by decide) ?_
  rw [e3]
  exact ⟨rfl, N3, K_3, F_lastMove_p0_3, F_winner_p0_3, F_xCells_p0_3, F_oCells_p0_3, F_marks_p0_3⟩
def fnOver (ww : Int32) (wm : Int32) : Int32 := if ww = (45 : Int32) then if wm = (9 : Int32) then (1 : Int32) else (0 : Int32) else (1 : Int32)
theorem ef_rm9 (m : MethodId) (x0 : Addr) : entryFrame m #[(.ref x0)] 1 = mkF m 0 #[.val (.ref x0)] [] := by first | (simp [entryFrame, mkF, argsToLocals, Value.category]; done) | rfl
def Qrm9 (Z : State) (p0 : Addr) (ww : Int32) (wm : Int32) (h0 : Heap) (n0 : Nat) (v : Option Value) (h : Heap) (L : List Loc) : Prop := v = some (.int (fnOver ww wm)) ∧ Fr n0 L ∧ h = h0
set_option maxRecDepth 65536 in
set_option maxHeartbeats 40000000 in
theorem rm9 (l : Launch) (Z : State) (a0 : Array Value) (hw : ∀ d ∈ tables_1, d.before a0 Z = true) (ws : List Jvm.Cond) (p0 : Addr) (ww : Int32) (wm : Int32) (h0 : Heap) (n0 : Nat) (Z0 : n0 ≤ h0.size) (F_winner_p0 : Fld Z h0 p0 "com/example/tilescript/tilescript/TicTacToe" "winner" "C" (.int ww)) (F_marks_p0 : Fld Z h0 p0 "com/example/tilescript/tilescript/TicTacToe" "marks" "I" (.int wm)) :
    MetFree l (⟨"com/example/tilescript/tilescript/TicTacToe", "isOver", "()Z"⟩ : MethodName) (head1 (Jvm.Cond.code (⟨"com/example/tilescript/tilescript/TicTacToe", "isOver", "()Z"⟩ : MethodName) prog_19_method_5_code 1 (some .boolean) :: ws) ({ frames := 0, cells := 0, slots := 0, locals := 0 } : Room)) (fun a U => a = #[(.ref p0)] ∧ Z.Warmed39 U.vm ∧ U.heap = h0) (fun _ _ _ _ _ => True) (fun _ U o U' => ∃ v L, o = .returned v ∧ Qrm9 Z p0 ww wm h0 n0 v U'.heap L ∧ FrameEnd U o U' L ({ frames := 0, cells := 0, slots := 0, locals := 0 } : Room).cells ({ frames := 0, cells := 0, slots := 0, locals := 0 } : Room).slots) := by
  refine MetFree.of_bodySF (plainFor_of_name pn_9) hisR ?_
  intro p e s m args below meth c s₁ Bd hml0 hP hK
  obtain ⟨rfl, hZ, hh⟩ := hP
  have hx := Bd.exec
  have hby := Bd.bytes
  have hlk : meth.locks = false := BodyLoose.notSynchronized Bd
  have hml : c.maxLocals = 1 := hml0
  have hown : s.vm.findClass "com/example/tilescript/tilescript/TicTacToe" = some m.cls := findClass_of_methodNamed Bd.named
  have hnm := (name_of_methodNamed Bd.named Bd.method).1
  have X0 : Stand p l e ({ frames := 0, cells := 0, slots := 0, locals := 0 } : Room) s m #[(.ref p0)] below meth c s₁ [] 0 0 := Stand.of_body Bd
  have e0 : s₁.heap = h0 := by rw [← hh, Bd.state]; rfl
  have N0 := Fr.nil n0
  have K0 : Keep h0 h0 [] := Keep.refl h0 []
  show own_G p e below s 0 0 (Qrm9 Z p0 ww wm h0 n0) s₁ (entryFrame m #[(.ref p0)] 1)
  rw [ef_rm9 m p0]
  refine own_step (T' := s₁) (g' := (mkF m 1 #[.val (.ref p0)] [(.ref p0)])) (fun t k => XS.aloadN X0.here hx rfl (hb hby d9_0) rfl rfl k) ?_
  obtain ⟨T1, X1, e1, st1⟩ := getF X0 hx hZ hown (host := "") (Or.inl (hw _ (List.mem_of_getElem? (i := 12) rfl))) Via.refl e0 F_winner_p0 (g := (mkF m 1 #[.val (.ref p0)] [(.ref p0)])) rfl rfl (hb hby d9_1)
  refine own_step (T' := T1) (g' := (mkF m 4 #[.val (.ref p0)] [(.int ww)])) st1 ?_
  refine own_step (T' := T1) (g' := (mkF m 6 #[.val (.ref p0)] [(.int (45 : Int32)), (.int ww)])) (fun t k => XS.bipush X1.here hx rfl (hb hby d9_4) k) ?_
  by_cases hc6_2 : ww = (45 : Int32)
  · refine own_step (T' := T1) (g' := (mkF m 9 #[.val (.ref p0)] [])) (fun t k => XS.icmpNo X1.here hx rfl (hb hby d9_6) rfl (teq hc6_2).2 k) ?_
    refine own_step (T' := T1) (g' := (mkF m 10 #[.val (.ref p0)] [(.ref p0)])) (fun t k => XS.aloadN X1.here hx rfl (hb hby d9_9) rfl rfl k) ?_
    obtain ⟨T3, X3, e3, st3⟩ := getF X1 hx hZ hown (host := "") (Or.inl (hw _ (List.mem_of_getElem? (i := 44) rfl))) Via.refl e1 F_marks_p0 (g := (mkF m 10 #[.val (.ref p0)] [(.ref p0)])) rfl rfl (hb hby d9_10)
    refine own_step (T' := T3) (g' := (mkF m 13 #[.val (.ref p0)] [(.int wm)])) st3 ?_
    refine own_step (T' := T3) (g' := (mkF m 15 #[.val (.ref p0)] [(.int (9 : Int32)), (.int wm)])) (fun t k => XS.bipush X3.here hx rfl (hb hby d9_13) k) ?_
    by_cases hc15_4 : wm = (9 : Int32)
    · refine own_step (T' := T3) (g' := (mkF m 18 #[.val (.ref p0)] [])) (fun t k => XS.icmpNo X3.here hx rfl (hb hby d9_15) rfl (teq hc15_4).2 k) ?_
      refine own_step (T' := T3) (g' := (mkF m 19 #[.val (.ref p0)] [(.int (1 : Int32))])) (fun t k => XS.iconst X3.here hx rfl (hb hby d9_18) k) ?_
      refine own_step (T' := T3) (g' := (mkF m 23 #[.val (.ref p0)] [(.int (1 : Int32))])) (fun t k => XS.goto X3.here hx rfl (pc0 := 19) (pc' := 23) rfl (hb hby d9_19) (by decide) (by decide) k) ?_
      refine own_retN X3 hx hlk (t := .boolean) (w := (1 : Int32)) Bd.returns (by simp) (hb hby d9_23) rfl (by decide) (by decide) ?_
      exact ⟨congrArg some (congrArg Value.int (show (1 : Int32) = (fnOver ww wm) from by unfold fnOver; rw [if_pos hc6_2, if_pos hc15_4])), N0, e3⟩
    · refine own_step (T' := T3) (g' := (mkF m 22 #[.val (.ref p0)] [])) (fun t k => XS.icmpYes X3.here hx rfl (pc0 := 15) (pc' := 22) rfl (hb hby d9_15) rfl (feq hc15_4).2 (by decide) (by decide) k) ?_
      refine own_step (T' := T3) (g' := (mkF m 23 #[.val (.ref p0)] [(.int (0 : Int32))])) (fun t k => XS.iconst X3.here hx rfl (hb hby d9_22) k) ?_
      refine own_retN X3 hx hlk (t := .boolean) (w := (0 : Int32)) Bd.returns (by simp) (hb hby d9_23) rfl (by decide) (by decide) ?_
      exact ⟨congrArg some (congrArg Value.int (show (0 : Int32) = (fnOver ww wm) from by unfold fnOver; rw [if_pos hc6_2, if_neg hc15_4])), N0, e3⟩
  · refine own_step (T' := T1) (g' := (mkF m 18 #[.val (.ref p0)] [])) (fun t k => XS.icmpYes X1.here hx rfl (pc0 := 6) (pc' := 18) rfl (hb hby d9_6) rfl (feq hc6_2).2 (by decide) (by decide) k) ?_
    refine own_step (T' := T1) (g' := (mkF m 19 #[.val (.ref p0)] [(.int (1 : Int32))])) (fun t k => XS.iconst X1.here hx rfl (hb hby d9_18) k) ?_
    refine own_step (T' := T1) (g' := (mkF m 23 #[.val (.ref p0)] [(.int (1 : Int32))])) (fun t k => XS.goto X1.here hx rfl (pc0 := 19) (pc' := 23) rfl (hb hby d9_19) (by decide) (by decide) k) ?_
    refine own_retN X1 hx hlk (t := .boolean) (w := (1 : Int32)) Bd.returns (by simp) (hb hby d9_23) rfl (by decide) (by decide) ?_
    exact ⟨congrArg some (congrArg Value.int (show (1 : Int32) = (fnOver ww wm) from by unfold fnOver; rw [if_neg hc6_2])), N0, e1⟩
def fnLegal (p1 : Int32) (ww : Int32) (wm : Int32) (wx : Int32) (wo : Int32) : Int32 := if (fnOver ww wm) = (0 : Int32) then if p1 < (0 : Int32) then (0 : Int32) else if p1 < (9 : Int32) then if ((wx ||| wo) &&& ((1 : Int32) <<< (p1 &&& 31))) = (0 : Int32) then (1 : Int32) else (0 : Int32) else (0 : Int32) else (0 : Int32)
theorem ef_rm8 (m : MethodId) (x0 : Addr) (x1 : Int32) : entryFrame m #[(.ref x0), (.int x1)] 2 = mkF m 0 #[.val (.ref x0), .val (.int x1)] [] := by first | (simp [entryFrame, mkF, argsToLocals, Value.category]; done) | rfl
def Qrm8 (Z : State) (p0 : Addr) (p1 : Int32) (ww : Int32) (wm : Int32) (wx : Int32) (wo : Int32) (h0 : Heap) (n0 : Nat) (v : Option Value) (h : Heap) (L : List Loc) : Prop := v = some (.int (fnLegal p1 ww wm wx wo)) ∧ Fr n0 L ∧ h = h0
set_option maxRecDepth 65536 in
set_option maxHeartbeats 40000000 in
theorem rm8 (l : Launch) (Z : State) (a0 : Array Value) (hw : ∀ d ∈ tables_1, d.before a0 Z = true) (ws : List Jvm.Cond) (p0 : Addr) (p1 : Int32) (ww : Int32) (wm : Int32) (wx : Int32) (wo : Int32) (h0 : Heap) (n0 : Nat) (Z0 : n0 ≤ h0.size) (E_p0 : Exa Z h0 p0 "com/example/tilescript/tilescript/TicTacToe") (F_winner_p0 : Fld Z h0 p0 "com/example/tilescript/tilescript/TicTacToe" "winner" "C" (.int ww)) (F_marks_p0 : Fld Z h0 p0 "com/example/tilescript/tilescript/TicTacToe" "marks" "I" (.int wm)) (F_xCells_p0 : Fld Z h0 p0 "com/example/tilescript/tilescript/TicTacToe" "xCells" "I" (.int wx)) (F_oCells_p0 : Fld Z h0 p0 "com/example/tilescript/tilescript/TicTacToe" "oCells" "I" (.int wo)) :
    MetFree l (⟨"com/example/tilescript/tilescript/TicTacToe", "isLegal", "(I)Z"⟩ : MethodName) (head1 (Jvm.Cond.code (⟨"com/example/tilescript/tilescript/TicTacToe", "isLegal", "(I)Z"⟩ : MethodName) prog_19_method_7_code 2 (some .boolean) :: ws) ({ frames := 1, cells := 0, slots := 0, locals := 12 } : Room)) (fun a U => a = #[(.ref p0), (.int p1)] ∧ Z.Warmed39 U.vm ∧ U.heap = h0) (fun _ _ _ _ _ => True) (fun _ U o U' => ∃ v L, o = .returned v ∧ Qrm8 Z p0 p1 ww wm wx wo h0 n0 v U'.heap L ∧ FrameEnd U o U' L ({ frames := 1, cells := 0, slots := 0, locals := 12 } : Room).cells ({ frames := 1, cells := 0, slots := 0, locals := 12 } : Room).slots) := by
  refine MetFree.of_bodySF (plainFor_of_name pn_8) hisR ?_
  intro p e s m args below meth c s₁ Bd hml0 hP hK
  obtain ⟨rfl, hZ, hh⟩ := hP
  have hx := Bd.exec
  have hby := Bd.bytes
  have hlk : meth.locks = false := BodyLoose.notSynchronized Bd
  have hml : c.maxLocals = 2 := hml0
  have hown : s.vm.findClass "com/example/tilescript/tilescript/TicTacToe" = some m.cls := findClass_of_methodNamed Bd.named
  have hnm := (name_of_methodNamed Bd.named Bd.method).1
  have X0 : Stand p l e ({ frames := 1, cells := 0, slots := 0, locals := 12 } : Room) s m #[(.ref p0), (.int p1)] below meth c s₁ [] 0 0 := Stand.of_body Bd
  have e0 : s₁.heap = h0 := by rw [← hh, Bd.state]; rfl
  have N0 := Fr.nil n0
  have K0 : Keep h0 h0 [] := Keep.refl h0 []
  show own_G p e below s 0 0 (Qrm8 Z p0 p1 ww wm wx wo h0 n0) s₁ (entryFrame m #[(.ref p0), (.int p1)] 2)
  rw [ef_rm8 m p0 p1]
  refine own_step (T' := s₁) (g' := (mkF m 1 #[.val (.ref p0), .val (.int p1)] [(.ref p0)])) (fun t k => XS.aloadN X0.here hx rfl (hb hby d8_0) rfl rfl k) ?_
  obtain ⟨cq1, kq1, qq1a, qq1b, qq1c⟩ := isOf hZ e0 E_p0
  obtain ⟨_, _, ⟨T1, L1, kk1, nn1⟩, -, X1, ⟨Lc1, hQ1, l1, y1, z1⟩, st1⟩ := X0.virtualBack hx (y := (⟨"com/example/tilescript/tilescript/TicTacToe", "isOver", "()Z"⟩ : MethodName)) (z := (⟨"com/example/tilescript/tilescript/TicTacToe", "isOver", "()Z"⟩ : MethodName)) hown (mvT hZ (hw _ (List.mem_of_getElem? (i := 39) rfl))) (mvT hZ (hw _ (List.mem_of_getElem? (i := 40) rfl))) (notFace_of_selects (args := #[]) (mvT hZ (hw _ (List.mem_of_getElem? (i := 42) rfl)))) (mvT hZ (hw _ (List.mem_of_getElem? (i := 42) rfl))) (mvT hZ (hw _ (List.mem_of_getElem? (i := 41) rfl))) (by decide) (backOf (W := 0) (rm9 l Z a0 hw [] p0 ww wm h0 n0 (Nat.le_trans Z0 K0.1) F_winner_p0 F_marks_p0) hZ (hw _ (List.mem_of_getElem? (i := 43) rfl)) (hw _ (List.mem_of_getElem? (i := 3) rfl)) (by decide) (by decide)) qq1a qq1c (g := (mkF m 1 #[.val (.ref p0), .val (.int p1)] [(.ref p0)])) rfl (by rw [hml]; rfl) (Steps.refl _) (argsL := []) (rest := []) (lenOf pd_6 rfl) rfl (by show 2 * 0 + _ ≤ _; exact Nat.le_of_eq rfl) (hb hby d8_1) (fun _ _ => ⟨rfl, e0, (by decide : 0 + 0 ≤ _), (by decide : 0 + 0 ≤ _)⟩)
  dsimp only [Pt.U, Pt.locs, Pt.cells, Pt.slots] at X1 l1 y1 z1 st1 hQ1
  subst l1 y1 z1
  obtain ⟨rfl, N1q, eq1⟩ := hQ1
  have N1 := Fr.app N0 N1q
  refine own_step (T' := T1) (g' := (mkF m 4 #[.val (.ref p0), .val (.int p1)] [(.int (fnOver ww wm))])) (fun t k => st1.trans k) ?_
  by_cases hc4_2 : (fnOver ww wm) = (0 : Int32)
  · refine own_step (T' := T1) (g' := (mkF m 7 #[.val (.ref p0), .val (.int p1)] [])) (fun t k => XS.ifNo X1.here hx rfl (hb hby d8_4) rfl ((if0 _ _).trans (teq hc4_2).2) k) ?_
    refine own_step (T' := T1) (g' := (mkF m 8 #[.val (.ref p0), .val (.int p1)] [(.int p1)])) (fun t k => XS.iloadN X1.here hx rfl (hb hby d8_7) rfl k) ?_
    by_cases hc8_3 : p1 < (0 : Int32)
    · refine own_step (T' := T1) (g' := (mkF m 37 #[.val (.ref p0), .val (.int p1)] [])) (fun t k => XS.ifYes X1.here hx rfl (pc0 := 8) (pc' := 37) rfl (hb hby d8_8) rfl ((if0 _ _).trans (tlt hc8_3).1) (by decide) (by decide) k) ?_
      refine own_step (T' := T1) (g' := (mkF m 38 #[.val (.ref p0), .val (.int p1)] [(.int (0 : Int32))])) (fun t k => XS.iconst X1.here hx rfl (hb hby d8_37) k) ?_
      refine own_retN X1 hx hlk (t := .boolean) (w := (0 : Int32)) Bd.returns (by simp) (hb hby d8_38) rfl (by decide) (by decide) ?_
      exact ⟨congrArg some (congrArg Value.int (show (0 : Int32) = (fnLegal p1 ww wm wx wo) from by unfold fnLegal; rw [if_pos hc4_2, if_pos hc8_3])), N1, eq1⟩
    · refine own_step (T' := T1) (g' := (mkF m 11 #[.val (.ref p0), .val (.int p1)] [])) (fun t k => XS.ifNo X1.here hx rfl (hb hby d8_8) rfl ((if0 _ _).trans (flt hc8_3).1) k) ?_
      refine own_step (T' := T1) (g' := (mkF m 12 #[.val (.ref p0), .val (.int p1)] [(.int p1)])) (fun t k => XS.iloadN X1.here hx rfl (hb hby d8_11) rfl k) ?_
      refine own_step (T' := T1) (g' := (mkF m 14 #[.val (.ref p0), .val (.int p1)] [(.int (9 : Int32)), (.int p1)])) (fun t k => XS.bipush X1.here hx rfl (hb hby d8_12) k) ?_
      by_cases hc14_5 : p1 < (9 : Int32)
      · refine own_step (T' := T1) (g' := (mkF m 17 #[.val (.ref p0), .val (.int p1)] [])) (fun t k => XS.icmpNo X1.here hx rfl (hb hby d8_14) rfl (tlt hc14_5).2.1 k) ?_
        refine own_step (T' := T1) (g' := (mkF m 18 #[.val (.ref p0), .val (.int p1)] [(.ref p0)])) (fun t k => XS.aloadN X1.here hx rfl (hb hby d8_17) rfl rfl k) ?_
        obtain ⟨T6, X6, e6, st6⟩ := getF X1 hx hZ hown (host := "") (Or.inl (hw _ (List.mem_of_getElem? (i := 46) rfl))) Via.refl eq1 F_xCells_p0 (g := (mkF m 18 #[.val (.ref p0), .val (.int p1)] [(.ref p0)])) rfl rfl (hb hby d8_18)
        refine own_step (T' := T6) (g' := (mkF m 21 #[.val (.ref p0), .val (.int p1)] [(.int wx)])) st6 ?_
        refine own_step (T' := T6) (g' := (mkF m 22 #[.val (.ref p0), .val (.int p1)] [(.ref p0), (.int wx)])) (fun t k => XS.aloadN X6.here hx rfl (hb hby d8_21) rfl rfl k) ?_
        obtain ⟨T7, X7, e7, st7⟩ := getF X6 hx hZ hown (host := "") (Or.inl (hw _ (List.mem_of_getElem? (i := 48) rfl))) Via.refl e6 F_oCells_p0 (g := (mkF m 22 #[.val (.ref p0), .val (.int p1)] [(.ref p0), (.int wx)])) rfl rfl (hb hby d8_22)
        refine own_step (T' := T7) (g' := (mkF m 25 #[.val (.ref p0), .val (.int p1)] [(.int wo), (.int wx)])) st7 ?_
        refine own_step (T' := T7) (g' := (mkF m 26 #[.val (.ref p0), .val (.int p1)] [(.int (wx ||| wo))])) (fun t k => XS.ior X7.here hx rfl (hb hby d8_25) rfl k) ?_
        refine own_step (T' := T7) (g' := (mkF m 27 #[.val (.ref p0), .val (.int p1)] [(.int (1 : Int32)), (.int (wx ||| wo))])) (fun t k => XS.iconst X7.here hx rfl (hb hby d8_26) k) ?_
        refine own_step (T' := T7) (g' := (mkF m 28 #[.val (.ref p0), .val (.int p1)] [(.int p1), (.int (1 : Int32)), (.int (wx ||| wo))])) (fun t k => XS.iloadN X7.here hx rfl (hb hby d8_27) rfl k) ?_
        refine own_step (T' := T7) (g' := (mkF m 29 #[.val (.ref p0), .val (.int p1)] [(.int ((1 : Int32) <<< (p1 &&& 31))), (.int (wx ||| wo))])) (fun t k => XS.ishl X7.here hx rfl (hb hby d8_28) rfl k) ?_
        refine own_step (T' := T7) (g' := (mkF m 30 #[.val (.ref p0), .val (.int p1)] [(.int ((wx ||| wo) &&& ((1 : Int32) <<< (p1 &&& 31))))])) (fun t k => XS.iand X7.here hx rfl (hb hby d8_29) rfl k) ?_
        by_cases hc30_8 : ((wx ||| wo) &&& ((1 : Int32) <<< (p1 &&& 31))) = (0 : Int32)
        · refine own_step (T' := T7) (g' := (mkF m 33 #[.val (.ref p0), .val (.int p1)] [])) (fun t k => XS.ifNo X7.here hx rfl (hb hby d8_30) rfl ((if0 _ _).trans (teq hc30_8).2) k) ?_
          refine own_step (T' := T7) (g' := (mkF m 34 #[.val (.ref p0), .val (.int p1)] [(.int (1 : Int32))])) (fun t k => XS.iconst X7.here hx rfl (hb hby d8_33) k) ?_
          refine own_step (T' := T7) (g' := (mkF m 38 #[.val (.ref p0), .val (.int p1)] [(.int (1 : Int32))])) (fun t k => XS.goto X7.here hx rfl (pc0 := 34) (pc' := 38) rfl (hb hby d8_34) (by decide) (by decide) k) ?_
          refine own_retN X7 hx hlk (t := .boolean) (w := (1 : Int32)) Bd.returns (by simp) (hb hby d8_38) rfl (by decide) (by decide) ?_
          exact ⟨congrArg some (congrArg Value.int (show (1 : Int32) = (fnLegal p1 ww wm wx wo) from by unfold fnLegal; rw [if_pos hc4_2, if_neg hc8_3, if_pos hc14_5, if_pos hc30_8])), N1, e7⟩
        · refine own_step (T' := T7) (g' := (mkF m 37 #[.val (.ref p0), .val (.int p1)] [])) (fun t k => XS.ifYes X7.here hx rfl (pc0 := 30) (pc' := 37) rfl (hb hby d8_30) rfl ((if0 _ _).trans (feq hc30_8).2) (by decide) (by decide) k) ?_
          refine own_step (T' := T7) (g' := (mkF m 38 #[.val (.ref p0), .val (.int p1)] [(.int (0 : Int32))])) (fun t k => XS.iconst X7.here hx rfl (hb hby d8_37) k) ?_
          refine own_retN X7 hx hlk (t := .boolean) (w := (0 : Int32)) Bd.returns (by simp) (hb hby d8_38) rfl (by decide) (by decide) ?_
          exact ⟨congrArg some (congrArg Value.int (show (0 : Int32) = (fnLegal p1 ww wm wx wo) from by unfold fnLegal; rw [if_pos hc4_2, if_neg hc8_3, if_pos hc14_5, if_neg hc30_8])), N1, e7⟩
      · refine own_step (T' := T1) (g' := (mkF m 37 #[.val (.ref p0), .val (.int p1)] [])) (fun t k => XS.icmpYes X1.here hx rfl (pc0 := 14) (pc' := 37) rfl (hb hby d8_14) rfl (flt hc14_5).2.1 (by decide) (by decide) k) ?_
        refine own_step (T' := T1) (g' := (mkF m 38 #[.val (.ref p0), .val (.int p1)] [(.int (0 : Int32))])) (fun t k => XS.iconst X1.here hx rfl (hb hby d8_37) k) ?_
        refine own_retN X1 hx hlk (t := .boolean) (w := (0 : Int32)) Bd.returns (by simp) (hb hby d8_38) rfl (by decide) (by decide) ?_
        exact ⟨congrArg some (congrArg Value.int (show (0 : Int32) = (fnLegal p1 ww wm wx wo) from by unfold fnLegal; rw [if_pos hc4_2, if_neg hc8_3, if_neg hc14_5])), N1, eq1⟩
  · refine own_step (T' := T1) (g' := (mkF m 37 #[.val (.ref p0), .val (.int p1)] [])) (fun t k => XS.ifYes X1.here hx rfl (pc0 := 4) (pc' := 37) rfl (hb hby d8_4) rfl ((if0 _ _).trans (feq hc4_2).2) (by decide) (by decide) k) ?_
    refine own_step (T' := T1) (g' := (mkF m 38 #[.val (.ref p0), .val (.int p1)] [(.int (0 : Int32))])) (fun t k => XS.iconst X1.here hx rfl (hb hby d8_37) k) ?_
    refine own_retN X1 hx hlk (t := .boolean) (w := (0 : Int32)) Bd.returns (by simp) (hb hby d8_38) rfl (by decide) (by decide) ?_
    exact ⟨congrArg some (congrArg Value.int (show (0 : Int32) = (fnLegal p1 ww wm wx wo) from by unfold fnLegal; rw [if_neg hc4_2])), N1, eq1⟩
def fnTok (wm : Int32) : Int32 := if (wm % (2 : Int32)) = (0 : Int32) then (88 : Int32) else (79 : Int32)
theorem ef_rm10 (m : MethodId) (x0 : Addr) : entryFrame m #[(.ref x0)] 1 = mkF m 0 #[.val (.ref x0)] [] := by first | (simp [entryFrame, mkF, argsToLocals, Value.category]; done) | rfl
def Qrm10 (Z : State) (p0 : Addr) (wm : Int32) (h0 : Heap) (n0 : Nat) (v : Option Value) (h : Heap) (L : List Loc) : Prop := v = some (.int (fnTok wm)) ∧ Fr n0 L ∧ h = h0
set_option maxRecDepth 65536 in
set_option maxHeartbeats 40000000 in
theorem rm10 (l : Launch) (Z : State) (a0 : Array Value) (hw : ∀ d ∈ tables_1, d.before a0 Z = true) (ws : List Jvm.Cond) (p0 : Addr) (wm : Int32) (h0 : Heap) (n0 : Nat) (Z0 : n0 ≤ h0.size) (F_marks_p0 : Fld Z h0 p0 "com/example/tilescript/tilescript/TicTacToe" "marks" "I" (.int wm)) :
    MetFree l (⟨"com/example/tilescript/tilescript/TicTacToe", "token", "()C"⟩ : MethodName) (head1 (Jvm.Cond.code (⟨"com/example/tilescript/tilescript/TicTacToe", "token", "()C"⟩ : MethodName) prog_19_method_2_code 1 (some .char) :: ws) ({ frames := 0, cells := 0, slots := 0, locals := 0 } : Room)) (fun a U => a = #[(.ref p0)] ∧ Z.Warmed39 U.vm ∧ U.heap = h0) (fun _ _ _ _ _ => True) (fun _ U o U' => ∃ v L, o = .returned v ∧ Qrm10 Z p0 wm h0 n0 v U'.heap L ∧ FrameEnd U o U' L ({ frames := 0, cells := 0, slots := 0, locals := 0 } : Room).cells ({ frames := 0, cells := 0, slots := 0, locals := 0 } : Room).slots) := by
  refine MetFree.of_bodySF (plainFor_of_name pn_10) hisR ?_
  intro p e s m args below meth c s₁ Bd hml0 hP hK
  obtain ⟨rfl, hZ, hh⟩ := hP
  have hx := Bd.exec
  have hby := Bd.bytes
  have hlk : meth.locks = false := BodyLoose.notSynchronized Bd
  have hml : c.maxLocals = 1 := hml0
  have hown : s.vm.findClass "com/example/tilescript/tilescript/TicTacToe" = some m.cls := findClass_of_methodNamed Bd.named
  have hnm := (name_of_methodNamed Bd.named Bd.method).1
  have X0 : Stand p l e ({ frames := 0, cells := 0, slots := 0, locals := 0 } : Room) s m #[(.ref p0)] below meth c s₁ [] 0 0 := Stand.of_body Bd
  have e0 : s₁.heap = h0 := by rw [← hh, Bd.state]; rfl
  have N0 := Fr.nil n0
  have K0 : Keep h0 h0 [] := Keep.refl h0 []
  show own_G p e below s 0 0 (Qrm10 Z p0 wm h0 n0) s₁ (entryFrame m #[(.ref p0)] 1)
  rw [ef_rm10 m p0]
  refine own_step (T' := s₁) (g' := (mkF m 1 #[.val (.ref p0)] [(.ref p0)])) (fun t k => XS.aloadN X0.here hx rfl (hb hby d10_0) rfl rfl k) ?_
  obtain ⟨T1, X1, e1, st1⟩ := getF X0 hx hZ hown (host := "") (Or.inl (hw _ (List.mem_of_getElem? (i := 44) rfl))) Via.refl e0 F_marks_p0 (g := (mkF m 1 #[.val (.ref p0)] [(.ref p0)])) rfl rfl (hb hby d10_1)
  refine own_step (T' := T1) (g' := (mkF m 4 #[.val (.ref p0)] [(.int wm)])) st1 ?_
  refine own_step (T' := T1) (g' := (mkF m 5 #[.val (.ref p0)] [(.int (2 : Int32)), (.int wm)])) (fun t k => XS.iconst X1.here hx rfl (hb hby d10_4) k) ?_
  refine own_step (T' := T1) (g' := (mkF m 6 #[.val (.ref p0)] [(.int (wm % (2 : Int32)))])) (fun t k => Jvm.RoadKit.iremM X1 hx rfl (hb hby d10_5) rfl (by decide) k) ?_
  by_cases hc6_2 : (wm % (2 : Int32)) = (0 : Int32)
  · refine own_step (T' := T1) (g' := (mkF m 9 #[.val (.ref p0)] [])) (fun t k => XS.ifNo X1.here hx rfl (hb hby d10_6) rfl ((if0 _ _).trans (teq hc6_2).2) k) ?_
    refine own_step (T' := T1) (g' := (mkF m 11 #[.val (.ref p0)] [(.int (88 : Int32))])) (fun t k => XS.bipush X1.here hx rfl (hb hby d10_9) k) ?_
    refine own_step (T' := T1) (g' := (mkF m 16 #[.val (.ref p0)] [(.int (88 : Int32))])) (fun t k => XS.goto X1.here hx rfl (pc0 := 11) (pc' := 16) rfl (hb hby d10_11) (by decide) (by decide) k) ?_
    refine own_retN X1 hx hlk (t := .char) (w := (88 : Int32)) Bd.returns (by simp) (hb hby d10_16) rfl (by decide) (by decide) ?_
    exact ⟨congrArg some (congrArg Value.int (show (88 : Int32) = (fnTok wm) from by unfold fnTok; rw [if_pos hc6_2])), N0, e1⟩
  · refine own_step (T' := T1) (g' := (mkF m 14 #[.val (.ref p0)] [])) (fun t k => XS.ifYes X1.here hx rfl (pc0 := 6) (pc' := 14) rfl (hb hby d10_6) rfl ((if0 _ _).trans (feq hc6_2).2) (by decide) (by decide) k) ?_
    refine own_step (T' := T1) (g' := (mkF m 16 #[.val (.ref p0)] [(.int (79 : Int32))])) (fun t k => XS.bipush X1.here hx rfl (hb hby d10_14) k) ?_
    refine own_retN X1 hx hlk (t := .char) (w := (79 : Int32)) Bd.returns (by simp) (hb hby d10_16) rfl (by decide) (by decide) ?_
    exact ⟨congrArg some (congrArg Value.int (show (79 : Int32) = (fnTok wm) from by unfold fnTok; rw [if_neg hc6_2])), N0, e1⟩
def own_wn (c t w : Int32) : Int32 := if (c &&& (7 : Int32)) = (7 : Int32) then t else if (c &&& (56 : Int32)) = (56 : Int32) then t else if (c &&& (448 : Int32)) = (448 : Int32) then t else if (c &&& (73 : Int32)) = (73 : Int32) then t else if (c &&& (146 : Int32)) = (146 : Int32) then t else if (c &&& (292 : Int32)) = (292 : Int32) then t else if (c &&& (273 : Int32)) = (273 : Int32) then t else if (c &&& (84 : Int32)) = (84 : Int32) then t else w
def own_play (c x o m w x1 o1 w1 : Int32) : Prop := (fnTok m = 88 ∧ x1 = (x ||| ((1 : Int32) <<< (c &&& 31))) ∧ o1 = o ∧ w1 = own_wn x1 (nar .char (fnTok m)) w) ∨ (¬ fnTok m = 88 ∧ x1 = x ∧ o1 = (o ||| ((1 : Int32) <<< (c &&& 31))) ∧ w1 = own_wn o1 (nar .char (fnTok m)) w)
theorem ef_rm7 (m : MethodId) (x0 : Addr) (x1 : Int32) : entryFrame m #[(.ref x0), (.int x1)] 8 = mkF m 0 #[.val (.ref x0), .val (.int x1), .unset, .unset, .unset, .unset, .unset, .unset] [] := by first | (simp [entryFrame, mkF, argsToLocals, Value.category]; done) | rfl
def Qrm7 (Z : State) (p0 : Addr) (p1 : Int32) (wx : Int32) (wo : Int32) (wm : Int32) (ww : Int32) (wl : Int32) (aL : Addr) (kL : ClassId) (h0 : Heap) (n0 : Nat) (v : Option Value) (h : Heap) (L : List Loc) : Prop := ∃ (x1 : Int32) (o1 : Int32) (w1 : Int32), v = none ∧ Fr n0 L ∧ Keep h0 h [p0] ∧ Fld Z h p0 "com/example/tilescript/tilescript/TicTacToe" "xCells" "I" (.int x1) ∧ Fld Z h p0 "com/example/tilescript/tilescript/TicTacToe" "oCells" "I" (.int o1) ∧ Fld Z h p0 "com/example/tilescript/tilescript/TicTacToe" "marks" "I" (.int (wm + (1 : Int32))) ∧ Fld Z h p0 "com/example/tilescript/tilescript/TicTacToe" "winner" "C" (.int w1) ∧ Fld Z h p0 "com/example/tilescript/tilescript/TicTacToe" "lastMove" "I" (.int p1) ∧ own_play p1 wx wo wm ww x1 o1 w1
set_option maxRecDepth 65536 in
set_option maxHeartbeats 40000000 in
theorem rm7 (l : Launch) (Z : State) (a0 : Array Value) (hw : ∀ d ∈ tables_1, d.before a0 Z = true) (ws : List Jvm.Cond) (p0 : Addr) (p1 : Int32) (wx : Int32) (wo : Int32) (wm : Int32) (ww : Int32) (wl : Int32) (aL : Addr) (kL : ClassId) (h0 : Heap) (n0 : Nat) (Z0 : n0 ≤ h0.size) (E_p0 : Exa Z h0 p0 "com/example/tilescript/tilescript/TicTacToe") (F_xCells_p0 : Fld Z h0 p0 "com/example/tilescript/tilescript/TicTacToe" "xCells" "I" (.int wx)) (F_oCells_p0 : Fld Z h0 p0 "com/example/tilescript/tilescript/TicTacToe" "oCells" "I" (.int wo)) (F_marks_p0 : Fld Z h0 p0 "com/example/tilescript/tilescript/TicTacToe" "marks" "I" (.int wm)) (F_winner_p0 : Fld Z h0 p0 "com/example/tilescript/tilescript/TicTacToe" "winner" "C" (.int ww)) (F_lastMove_p0 : Fld Z h0 p0 "com/example/tilescript/tilescript/TicTacToe" "lastMove" "I" (.int wl)) (g_p0 : n0 ≤ p0) (S_LINES : Sta Z h0 "com/example/tilescript/tilescript/TicTacToe" "LINES" "[I" (.ref aL)) (V_aL : Arv Z h0 aL kL .int (8 : Int32) [(.int (7 : Int32)), (.int (56 : Int32)), (.int (448 : Int32)), (.int (73 : Int32)), (.int (146 : Int32)), (.int (292 : Int32)), (.int (273 : Int32)), (.int (84 : Int32))] (.int (0 : Int32))) (neL : aL ≠ p0) (hleg : ¬ ((fnLegal p1 ww wm wx wo) = (0 : Int32))) :
    MetFree l (⟨"com/example/tilescript/tilescript/TicTacToe", "play", "(I)V"⟩ : MethodName) (head1 (Jvm.Cond.code (⟨"com/example/tilescript/tilescript/TicTacToe", "play", "(I)V"⟩ : MethodName) prog_19_method_8_code 8 none :: ws) ({ frames := 2, cells := 0, slots := 0, locals := 25 } : Room)) (fun a U => a = #[(.ref p0), (.int p1)] ∧ Z.Warmed39 U.vm ∧ U.heap = h0) (fun _ _ _ _ _ => True) (fun _ U o U' => ∃ v L, o = .returned v ∧ Qrm7 Z p0 p1 wx wo wm ww wl aL kL h0 n0 v U'.heap L ∧ FrameEnd U o U' L ({ frames := 2, cells := 0, slots := 0, locals := 25 } : Room).cells ({ frames := 2, cells := 0, slots := 0, locals := 25 } : Room).slots) := by
  refine MetFree.of_bodySF (plainFor_of_name pn_7) hisR ?_
  intro p e s m args below meth c s₁ Bd hml0 hP hK
  obtain ⟨rfl, hZ, hh⟩ := hP
  have hx := Bd.exec
  have hby := Bd.bytes
  have hlk : meth.locks = false := BodyLoose.notSynchronized Bd
  have hml : c.maxLocals = 8 := hml0
  have hown : s.vm.findClass "com/example/tilescript/tilescript/TicTacToe" = some m.cls := findClass_of_methodNamed Bd.named
  have hnm := (name_of_methodNamed Bd.named Bd.method).1
  have X0 : Stand p l e ({ frames := 2, cells := 0, slots := 0, locals := 25 } : Room) s m #[(.ref p0), (.int p1)] below meth c s₁ [] 0 0 := Stand.of_body Bd
  have e0 : s₁.heap = h0 := by rw [← hh, Bd.state]; rfl
  have N0 := Fr.nil n0
  have K0 : Keep h0 h0 [p0] := Keep.refl h0 [p0]
  show own_G p e below s 0 0 (Qrm7 Z p0 p1 wx wo wm ww wl aL kL h0 n0) s₁ (entryFrame m #[(.ref p0), (.int p1)] 8)
  rw [ef_rm7 m p0 p1]
  refine own_step (T' := s₁) (g' := (mkF m 1 #[.val (.ref p0), .val (.int p1), .unset, .unset, .unset, .unset, .unset, .unset] [(.ref p0)])) (fun t k => XS.aloadN X0.here hx rfl (hb hby d7_0) rfl rfl k) ?_
  refine own_step (T' := s₁) (g' := (mkF m 2 #[.val (.ref p0), .val (.int p1), .unset, .unset, .unset, .unset, .unset, .unset] [(.int p1), (.ref p0)])) (fun t k => XS.iloadN X0.here hx rfl (hb hby d7_1) rfl k) ?_
  obtain ⟨cq1, kq1, qq1a, qq1b, qq1c⟩ := isOf hZ e0 E_p0
  obtain ⟨_, _, ⟨T1, L1, kk1, nn1⟩, -, X1, ⟨Lc1, hQ1, l1, y1, z1⟩, st1⟩ := X0.virtualBack hx (y := (⟨"com/example/tilescript/tilescript/TicTacToe", "isLegal", "(I)Z"⟩ : MethodName)) (z := (⟨"com/example/tilescript/tilescript/TicTacToe", "isLegal", "(I)Z"⟩ : MethodName)) hown (mvT hZ (hw _ (List.mem_of_getElem? (i := 34) rfl))) (mvT hZ (hw _ (List.mem_of_getElem? (i := 35) rfl))) (notFace_of_selects (args := #[]) (mvT hZ (hw _ (List.mem_of_getElem? (i := 37) rfl)))) (mvT hZ (hw _ (List.mem_of_getElem? (i := 37) rfl))) (mvT hZ (hw _ (List.mem_of_getElem? (i := 36) rfl))) (by decide) (backOf (W := 0) (rm8 l Z a0 hw [] p0 p1 ww wm wx wo h0 n0 (Nat.le_trans Z0 K0.1) E_p0 F_winner_p0 F_marks_p0 F_xCells_p0 F_oCells_p0) hZ (hw _ (List.mem_of_getElem? (i := 38) rfl)) (hw _ (List.mem_of_getElem? (i := 3) rfl)) (by decide) (by decide)) qq1a qq1c (g := (mkF m 2 #[.val (.ref p0), .val (.int p1), .unset, .unset, .unset, .unset, .unset, .unset] [(.int p1), (.ref p0)])) rfl (by rw [hml]; rfl) (Steps.refl _) (argsL := [(.int p1)]) (rest := []) (lenOf pd_4 rfl) rfl (by show 2 * 0 + _ ≤ _; exact Nat.le_of_eq rfl) (hb hby d7_2) (fun _ _ => ⟨rfl, e0, (by decide : 0 + 0 ≤ _), (by decide : 0 + 0 ≤ _)⟩)
  dsimp only [Pt.U, Pt.locs, Pt.cells, Pt.slots] at X1 l1 y1 z1 st1 hQ1
  subst l1 y1 z1
  obtain ⟨rfl, N1q, eq1⟩ := hQ1
  have N1 := Fr.app N0 N1q
  refine own_step (T' := T1) (g' := (mkF m 5 #[.val (.ref p0), .val (.int p1), .unset, .unset, .unset, .unset, .unset, .unset] [(.int (fnLegal p1 ww wm wx wo))])) (fun t k => st1.trans k) ?_
  refine own_step (T' := T1) (g' := (mkF m 26 #[.val (.ref p0), .val (.int p1), .unset, .unset, .unset, .unset, .unset, .unset] [])) (fun t k => XS.ifYes X1.here hx rfl (pc0 := 5) (pc' := 26) rfl (hb hby d7_5) rfl ((if0 _ _).trans (feq hleg).2) (by decide) (by decide) k) ?_
  refine own_step (T' := T1) (g' := (mkF m 27 #[.val (.ref p0), .val (.int p1), .unset, .unset, .unset, .unset, .unset, .unset] [(.ref p0)])) (fun t k => XS.aloadN X1.here hx rfl (hb hby d7_26) rfl rfl k) ?_
  obtain ⟨cq2, kq2, qq2a, qq2b, qq2c⟩ := isOf hZ eq1 E_p0
  obtain ⟨_, _, ⟨T2, L2, kk2, nn2⟩, -, X2, ⟨Lc2, hQ2, l2, y2, z2⟩, st2⟩ := X1.virtualBack hx (y := (⟨"com/example/tilescript/tilescript/TicTacToe", "token", "()C"⟩ : MethodName)) (z := (⟨"com/example/tilescript/tilescript/TicTacToe", "token", "()C"⟩ : MethodName)) hown (mvT hZ (hw _ (List.mem_of_getElem? (i := 50) rfl))) (mvT hZ (hw _ (List.mem_of_getElem? (i := 51) rfl))) (notFace_of_selects (args := #[]) (mvT hZ (hw _ (List.mem_of_getElem? (i := 53) rfl)))) (mvT hZ (hw _ (List.mem_of_getElem? (i := 53) rfl))) (mvT hZ (hw _ (List.mem_of_getElem? (i := 52) rfl))) (by decide) (backOf (W := 0) (rm10 l Z a0 hw [] p0 wm h0 n0 (Nat.le_trans Z0 K0.1) F_marks_p0) hZ (hw _ (List.mem_of_getElem? (i := 54) rfl)) (hw _ (List.mem_of_getElem? (i := 3) rfl)) (by decide) (by decide)) qq2a qq2c (g := (mkF m 27 #[.val (.ref p0), .val (.int p1), .unset, .unset, .unset, .unset, .unset, .unset] [(.ref p0)])) rfl (by rw [hml]; rfl) (Steps.refl _) (argsL := []) (rest := []) (lenOf pd_7 rfl) rfl (by show 2 * 0 + _ ≤ _; exact Nat.le_of_eq rfl) (hb hby d7_27) (fun _ _ => ⟨rfl, eq1, (by decide : 0 + 0 ≤ _), (by decide : 0 + 0 ≤ _)⟩)
  dsimp only [Pt.U, Pt.locs, Pt.cells, Pt.slots] at X2 l2 y2 z2 st2 hQ2
  subst l2 y2 z2
  obtain ⟨rfl, N2q, eq2⟩ := hQ2
  have N2 := Fr.app N1 N2q
  refine own_step (T' := T2) (g' := (mkF m 30 #[.val (.ref p0), .val (.int p1), .unset, .unset, .unset, .unset, .unset, .unset] [(.int (fnTok wm))])) (fun t k => st2.trans k) ?_
  refine own_step (T' := T2) (g' := (mkF m 31 #[.val (.ref p0), .val (.int p1), .val (.int (fnTok wm)), .unset, .unset, .unset, .unset, .unset] [])) (fun t k => XS.istoreN X2.here hx rfl (hb hby d7_30) rfl (l' := #[.val (.ref p0), .val (.int p1), .val (.int (fnTok wm)), .unset, .unset, .unset, .unset, .unset]) rfl k) ?_
  refine own_step (T' := T2) (g' := (mkF m 32 #[.val (.ref p0), .val (.int p1), .val (.int (fnTok wm)), .unset, .unset, .unset, .unset, .unset] [(.int (fnTok wm))])) (fun t k => XS.iloadN X2.here hx rfl (hb hby d7_31) rfl k) ?_
  refine own_step (T' := T2) (g' := (mkF m 34 #[.val (.ref p0), .val (.int p1), .val (.int (fnTok wm)), .unset, .unset, .unset, .unset, .unset] [(.int (88 : Int32)), (.int (fnTok wm))])) (fun t k => XS.bipush X2.here hx rfl (hb hby d7_32) k) ?_
  by_cases hc34_3 : (fnTok wm) = (88 : Int32)
  · refine own_step (T' := T2) (g' := (mkF m 37 #[.val (.ref p0), .val (.int p1), .val (.int (fnTok wm)), .unset, .unset, .unset, .unset, .unset] [])) (fun t k => XS.icmpNo X2.here hx rfl (hb hby d7_34) rfl (teq hc34_3).2 k) ?_
    refine own_step (T' := T2) (g' := (mkF m 38 #[.val (.ref p0), .val (.int p1), .val (.int (fnTok wm)), .unset, .unset, .unset, .unset, .unset] [(.ref p0)])) (fun t k => XS.aloadN X2.here hx rfl (hb hby d7_37) rfl rfl k) ?_
    refine own_step (T' := T2) (g' := (mkF m 39 #[.val (.ref p0), .val (.int p1), .val (.int (fnTok wm)), .unset, .unset, .unset, .unset, .unset] [(.ref p0), (.ref p0)])) (fun t k => XS.dup X2.here hx rfl (hb hby d7_38) rfl rfl k) ?_
    obtain ⟨T4, X4, e4, st4⟩ := getF X2 hx hZ hown (host := "") (Or.inl (hw _ (List.mem_of_getElem? (i := 46) rfl))) Via.refl eq2 F_xCells_p0 (g := (mkF m 39 #[.val (.ref p0), .val (.int p1), .val (.int (fnTok wm)), .unset, .unset, .unset, .unset, .unset] [(.ref p0), (.ref p0)])) rfl rfl (hb hby d7_39)
    refine own_step (T' := T4) (g' := (mkF m 42 #[.val (.ref p0), .val (.int p1), .val (.int (fnTok wm)), .unset, .unset, .unset, .unset, .unset] [(.int wx), (.ref p0)])) st4 ?_
    refine own_step (T' := T4) (g' := (mkF m 43 #[.val (.ref p0), .val (.int p1), .val (.int (fnTok wm)), .unset, .unset, .unset, .unset, .unset] [(.int (1 : Int32)), (.int wx), (.ref p0)])) (fun t k => XS.iconst X4.here hx rfl (hb hby d7_42) k) ?_
    refine own_step (T' := T4) (g' := (mkF m 44 #[.val (.ref p0), .val (.int p1), .val (.int (fnTok wm)), .unset, .unset, .unset, .unset, .unset] [(.int p1), (.int (1 : Int32)), (.int wx), (.ref p0)])) (fun t k => XS.iloadN X4.here hx rfl (hb hby d7_43) rfl k) ?_
    refine own_step (T' := T4) (g' := (mkF m 45 #[.val (.ref p0), .val (.int p1), .val (.int (fnTok wm)), .unset, .unset, .unset, .unset, .unset] [(.int ((1 : Int32) <<< (p1 &&& 31))), (.int wx), (.ref p0)])) (fun t k => XS.ishl X4.here hx rfl (hb hby d7_44) rfl k) ?_
    refine own_step (T' := T4) (g' := (mkF m 46 #[.val (.ref p0), .val (.int p1), .val (.int (fnTok wm)), .unset, .unset, .unset, .unset, .unset] [(.int (wx ||| ((1 : Int32) <<< (p1 &&& 31)))), (.ref p0)])) (fun t k => XS.ior X4.here hx rfl (hb hby d7_45) rfl k) ?_
    obtain ⟨T5, h5, X5, e5, W5, st5⟩ := putF X4 hx hZ hown (host := "") (Or.inl (hw _ (List.mem_of_getElem? (i := 46) rfl))) Via.refl e4 F_xCells_p0 E_p0 (Or.inl (hw _ (List.mem_of_getElem? (i := 47) rfl))) (hw _ (List.mem_of_getElem? (i := 2) rfl)) (ty := .int) (by decide) rfl rfl (g := (mkF m 46 #[.val (.ref p0), .val (.int p1), .val (.int (fnTok wm)), .unset, .unset, .unset, .unset, .unset] [(.int (wx ||| ((1 : Int32) <<< (p1 &&& 31)))), (.ref p0)])) rfl rfl (hb hby d7_46)
    have E_p0_5 : Exa Z h5 p0 "com/example/tilescript/tilescript/TicTacToe" := E_p0.wr W5
    have F_oCells_p0_5 : Fld Z h5 p0 "com/example/tilescript/tilescript/TicTacToe" "oCells" "I" (.int wo) := F_oCells_p0.other W5 (Or.inr (slot_ne (Or.inl (hw _ (List.mem_of_getElem? (i := 49) rfl))) (Or.inl (hw _ (List.mem_of_getElem? (i := 47) rfl))) (by decide) (t := .int) (t' := .int) (by decide) (by decide)))
    have F_marks_p0_5 : Fld Z h5 p0 "com/example/tilescript/tilescript/TicTacToe" "marks" "I" (.int wm) := F_marks_p0.other W5 (Or.inr (slot_ne (Or.inl (hw _ (List.mem_of_getElem? (i := 45) rfl))) (Or.inl (hw _ (List.mem_of_getElem? (i := 47) rfl))) (by decide) (t := .int) (t' := .int) (by decide) (by decide)))
    have F_winner_p0_5 : Fld Z h5 p0 "com/example/tilescript/tilescript/TicTacToe" "winner" "C" (.int ww) := F_winner_p0.other W5 (Or.inr (slot_ne (Or.inl (hw _ (List.mem_of_getElem? (i := 13) rfl))) (Or.inl (hw _ (List.mem_of_getElem? (i := 47) rfl))) (by decide) (t := .char) (t' := .int) (by decide) (by decide)))
    have F_lastMove_p0_5 : Fld Z h5 p0 "com/example/tilescript/tilescript/TicTacToe" "lastMove" "I" (.int wl) := F_lastMove_p0.other W5 (Or.inr (slot_ne (Or.inl (hw _ (List.mem_of_getElem? (i := 11) rfl))) (Or.inl (hw _ (List.mem_of_getElem? (i := 47) rfl))) (by decide) (t := .int) (t' := .int) (by decide) (by decide)))
    have S_LINES_5 : Sta Z h5 "com/example/tilescript/tilescript/TicTacToe" "LINES" "[I" (.ref aL) := S_LINES.wr W5
    have V_aL_5 : Arv Z h5 aL kL .int (8 : Int32) [(.int (7 : Int32)), (.int (56 : Int32)), (.int (448 : Int32)), (.int (73 : Int32)), (.int (146 : Int32)), (.int (292 : Int32)), (.int (273 : Int32)), (.int (84 : Int32))] (.int (0 : Int32)) := V_aL.other W5 neL
    have K_5 : Keep h0 h5 [p0] := K0.wr W5 (Or.inl (List.mem_of_getElem? (i := 0) rfl))
    have N5 := Fr.snoc X5 N2 g_p0
    have F_xCells_p0_5 : Fld Z h5 p0 "com/example/tilescript/tilescript/TicTacToe" "xCells" "I" (.int (wx ||| ((1 : Int32) <<< (p1 &&& 31)))) := F_xCells_p0.same W5
    refine own_step (T' := T5) (g' := (mkF m 49 #[.val (.ref p0), .val (.int p1), .val (.int (fnTok wm)), .unset, .unset, .unset, .unset, .unset] [])) st5 ?_
    refine own_step (T' := T5) (g' := (mkF m 50 #[.val (.ref p0), .val (.int p1), .val (.int (fnTok wm)), .unset, .unset, .unset, .unset, .unset] [(.ref p0)])) (fun t k => XS.aloadN X5.here hx rfl (hb hby d7_49) rfl rfl k) ?_
    obtain ⟨T6, X6, e6, st6⟩ := getF X5 hx hZ hown (host := "") (Or.inl (hw _ (List.mem_of_getElem? (i := 46) rfl))) Via.refl e5 F_xCells_p0_5 (g := (mkF m 50 #[.val (.ref p0), .val (.int p1), .val (.int (fnTok wm)), .unset, .unset, .unset, .unset, .unset] [(.ref p0)])) rfl rfl (hb hby d7_50)
    refine own_step (T' := T6) (g' := (mkF m 53 #[.val (.ref p0), .val (.int p1), .val (.int (fnTok wm)), .unset, .unset, .unset, .unset, .unset] [(.int (wx ||| ((1 : Int32) <<< (p1 &&& 31))))])) st6 ?_
    refine own_step (T' := T6) (g' := (mkF m 54 #[.val (.ref p0), .val (.int p1), .val (.int (fnTok wm)), .val (.int (wx ||| ((1 : Int32) <<< (p1 &&& 31)))), .unset, .unset, .unset, .unset] [])) (fun t k => XS.istoreN X6.here hx rfl (hb hby d7_53) rfl (l' := #[.val (.ref p0), .val (.int p1), .val (.int (fnTok wm)), .val (.int (wx ||| ((1 : Int32) <<< (p1 &&& 31)))), .unset, .unset, .unset, .unset]) rfl k) ?_
    refine own_step (T' := T6) (g' := (mkF m 74 #[.val (.ref p0), .val (.int p1), .val (.int (fnTok wm)), .val (.int (wx ||| ((1 : Int32) <<< (p1 &&& 31)))), .unset, .unset, .unset, .unset] [])) (fun t k => XS.goto X6.here hx rfl (pc0 := 54) (pc' := 74) rfl (hb hby d7_54) (by decide) (by decide) k) ?_
    refine own_step (T' := T6) (g' := (mkF m 75 #[.val (.ref p0), .val (.int p1), .val (.int (fnTok wm)), .val (.int (wx ||| ((1 : Int32) <<< (p1 &&& 31)))), .unset, .unset, .unset, .unset] [(.ref p0)])) (fun t k => XS.aloadN X6.here hx rfl (hb hby d7_74) rfl rfl k) ?_
    refine own_step (T' := T6) (g' := (mkF m 76 #[.val (.ref p0), .val (.int p1), .val (.int (fnTok wm)), .val (.int (wx ||| ((1 : Int32) <<< (p1 &&& 31)))), .unset, .unset, .unset, .unset] [(.ref p0), (.ref p0)])) (fun t k => XS.dup X6.here hx rfl (hb hby d7_75) rfl rfl k) ?_
    obtain ⟨T7, X7, e7, st7⟩ := getF X6 hx hZ hown (host := "") (Or.inl (hw _ (List.mem_of_getElem? (i := 44) rfl))) Via.refl e6 F_marks_p0_5 (g := (mkF m 76 #[.val (.ref p0), .val (.int p1), .val (.int (fnTok wm)), .val (.int (wx ||| ((1 : Int32) <<< (p1 &&& 31)))), .unset, .unset, .unset, .unset] [(.ref p0), (.ref p0)])) rfl rfl (hb hby d7_76)
    refine own_step (T' := T7) (g' := (mkF m 79 #[.val (.ref p0), .val (.int p1), .val (.int (fnTok wm)), .val (.int (wx ||| ((1 : Int32) <<< (p1 &&& 31)))), .unset, .unset, .unset, .unset] [(.int wm), (.ref p0)])) st7 ?_
    refine own_step (T' := T7) (g' := (mkF m 80 #[.val (.ref p0), .val (.int p1), .val (.int (fnTok wm)), .val (.int (wx ||| ((1 : Int32) <<< (p1 &&& 31)))), .unset, .unset, .unset, .unset] [(.int (1 : Int32)), (.int wm), (.ref p0)])) (fun t k => XS.iconst X7.here hx rfl (hb hby d7_79) k) ?_
    refine own_step (T' := T7) (g' := (mkF m 81 #[.val (.ref p0), .val (.int p1), .val (.int (fnTok wm)), .val (.int (wx ||| ((1 : Int32) <<< (p1 &&& 31)))), .unset, .unset, .unset, .unset] [(.int (wm + (1 : Int32))), (.ref p0)])) (fun t k => XS.iadd X7.here hx rfl (hb hby d7_80) rfl k) ?_
    obtain ⟨T8, h8, X8, e8, W8, st8⟩ := putF X7 hx hZ hown (host := "") (Or.inl (hw _ (List.mem_of_getElem? (i := 44) rfl))) Via.refl e7 F_marks_p0_5 E_p0_5 (Or.inl (hw _ (List.mem_of_getElem? (i := 45) rfl))) (hw _ (List.mem_of_getElem? (i := 2) rfl)) (ty := .int) (by decide) rfl rfl (g := (mkF m 81 #[.val (.ref p0), .val (.int p1), .val (.int (fnTok wm)), .val (.int (wx ||| ((1 : Int32) <<< (p1 &&& 31)))), .unset, .unset, .unset, .unset] [(.int (wm + (1 : Int32))), (.ref p0)])) rfl rfl (hb hby d7_81)
    have E_p0_8 : Exa Z h8 p0 "com/example/tilescript/tilescript/TicTacToe" := E_p0_5.wr W8
    have F_oCells_p0_8 : Fld Z h8 p0 "com/example/tilescript/tilescript/TicTacToe" "oCells" "I" (.int wo) := F_oCells_p0_5.other W8 (Or.inr (slot_ne (Or.inl (hw _ (List.mem_of_getElem? (i := 49) rfl))) (Or.inl (hw _ (List.mem_of_getElem? (i := 45) rfl))) (by decide) (t := .int) (t' := .int) (by decide) (by decide)))
    have F_winner_p0_8 : Fld Z h8 p0 "com/example/tilescript/tilescript/TicTacToe" "winner" "C" (.int ww) := F_winner_p0_5.other W8 (Or.inr (slot_ne (Or.inl (hw _ (List.mem_of_getElem? (i := 13) rfl))) (Or.inl (hw _ (List.mem_of_getElem? (i := 45) rfl))) (by decide) (t := .char) (t' := .int) (by decide) (by decide)))
    have F_lastMove_p0_8 : Fld Z h8 p0 "com/example/tilescript/tilescript/TicTacToe" "lastMove" "I" (.int wl) := F_lastMove_p0_5.other W8 (Or.inr (slot_ne (Or.inl (hw _ (List.mem_of_getElem? (i := 11) rfl))) (Or.inl (hw _ (List.mem_of_getElem? (i := 45) rfl))) (by decide) (t := .int) (t' := .int) (by decide) (by decide)))
    have S_LINES_8 : Sta Z h8 "com/example/tilescript/tilescript/TicTacToe" "LINES" "[I" (.ref aL) := S_LINES_5.wr W8
    have V_aL_8 : Arv Z h8 aL kL .int (8 : Int32) [(.int (7 : Int32)), (.int (56 : Int32)), (.int (448 : Int32)), (.int (73 : Int32)), (.int (146 : Int32)), (.int (292 : Int32)), (.int (273 : Int32)), (.int (84 : Int32))] (.int (0 : Int32)) := V_aL_5.other W8 neL
    have F_xCells_p0_8 : Fld Z h8 p0 "com/example/tilescript/tilescript/TicTacToe" "xCells" "I" (.int (wx ||| ((1 : Int32) <<< (p1 &&& 31)))) := F_xCells_p0_5.other W8 (Or.inr (slot_ne (Or.inl (hw _ (List.mem_of_getElem? (i := 47) rfl))) (Or.inl (hw _ (List.mem_of_getElem? (i := 45) rfl))) (by decide) (t := .int) (t' := .int) (by decide) (by decide)))
    have K_8 : Keep h0 h8 [p0] := K_5.wr W8 (Or.inl (List.mem_of_getElem? (i := 0) rfl))
    have N8 := Fr.snoc X8 N5 g_p0
    have F_marks_p0_8 : Fld Z h8 p0 "com/example/tilescript/tilescript/TicTacToe" "marks" "I" (.int (wm + (1 : Int32))) := F_marks_p0_5.same W8
    refine own_step (T' := T8) (g' := (mkF m 84 #[.val (.ref p0), .val (.int p1), .val (.int (fnTok wm)), .val (.int (wx ||| ((1 : Int32) <<< (p1 &&& 31)))), .unset, .unset, .unset, .unset] [])) st8 ?_
    refine own_step (T' := T8) (g' := (mkF m 85 #[.val (.ref p0), .val (.int p1), .val (.int (fnTok wm)), .val (.int (wx ||| ((1 : Int32) <<< (p1 &&& 31)))), .unset, .unset, .unset, .unset] [(.ref p0)])) (fun t k => XS.aloadN X8.here hx rfl (hb hby d7_84) rfl rfl k) ?_
    refine own_step (T' := T8) (g' := (mkF m 86 #[.val (.ref p0), .val (.int p1), .val (.int (fnTok wm)), .val (.int (wx ||| ((1 : Int32) <<< (p1 &&& 31)))), .unset, .unset, .unset, .unset] [(.int p1), (.ref p0)])) (fun t k => XS.iloadN X8.here hx rfl (hb hby d7_85) rfl k) ?_
    obtain ⟨T9, h9, X9, e9, W9, st9⟩ := putF X8 hx hZ hown (host := "") (Or.inl (hw _ (List.mem_of_getElem? (i := 10) rfl))) Via.refl e8 F_lastMove_p0_8 E_p0_8 (Or.inl (hw _ (List.mem_of_getElem? (i := 11) rfl))) (hw _ (List.mem_of_getElem? (i := 2) rfl)) (ty := .int) (by decide) rfl rfl (g := (mkF m 86 #[.val (.ref p0), .val (.int p1), .val (.int (fnTok wm)), .val (.int (wx ||| ((1 : Int32) <<< (p1 &&& 31)))), .unset, .unset, .unset, .unset] [(.int p1), (.ref p0)])) rfl rfl (hb hby d7_86)
    have E_p0_9 : Exa Z h9 p0 "com/example/tilescript/tilescript/TicTacToe" := E_p0_8.wr W9
    have F_oCells_p0_9 : Fld Z h9 p0 "com/example/tilescript/tilescript/TicTacToe" "oCells" "I" (.int wo) := F_oCells_p0_8.other W9 (Or.inr (slot_ne (Or.inl (hw _ (List.mem_of_getElem? (i := 49) rfl))) (Or.inl (hw _ (List.mem_of_getElem? (i := 11) rfl))) (by decide) (t := .int) (t' := .int) (by decide) (by decide)))
    have F_winner_p0_9 : Fld Z h9 p0 "com/example/tilescript/tilescript/TicTacToe" "winner" "C" (.int ww) := F_winner_p0_8.other W9 (Or.inr (slot_ne (Or.inl (hw _ (List.mem_of_getElem? (i := 13) rfl))) (Or.inl (hw _ (List.mem_of_getElem? (i := 11) rfl))) (by decide) (t := .char) (t' := .int) (by decide) (by decide)))
    have S_LINES_9 : Sta Z h9 "com/example/tilescript/tilescript/TicTacToe" "LINES" "[I" (.ref aL) := S_LINES_8.wr W9
    have V_aL_9 : Arv Z h9 aL kL .int (8 : Int32) [(.int (7 : Int32)), (.int (56 : Int32)), (.int (448 : Int32)), (.int (73 : Int32)), (.int (146 : Int32)), (.int (292 : Int32)), (.int (273 : Int32)), (.int (84 : Int32))] (.int (0 : Int32)) := V_aL_8.other W9 neL
    have F_xCells_p0_9 : Fld Z h9 p0 "com/example/tilescript/tilescript/TicTacToe" "xCells" "I" (.int (wx ||| ((1 : Int32) <<< (p1 &&& 31)))) := F_xCells_p0_8.other W9 (Or.inr (slot_ne (Or.inl (hw _ (List.mem_of_getElem? (i := 47) rfl))) (Or.inl (hw _ (List.mem_of_getElem? (i := 11) rfl))) (by decide) (t := .int) (t' := .int) (by decide) (by decide)))
    have F_marks_p0_9 : Fld Z h9 p0 "com/example/tilescript/tilescript/TicTacToe" "marks" "I" (.int (wm + (1 : Int32))) := F_marks_p0_8.other W9 (Or.inr (slot_ne (Or.inl (hw _ (List.mem_of_getElem? (i := 45) rfl))) (Or.inl (hw _ (List.mem_of_getElem? (i := 11) rfl))) (by decide) (t := .int) (t' := .int) (by decide) (by decide)))
    have K_9 : Keep h0 h9 [p0] := K_8.wr W9 (Or.inl (List.mem_of_getElem? (i := 0) rfl))
    have N9 := Fr.snoc X9 N8 g_p0
    have F_lastMove_p0_9 : Fld Z h9 p0 "com/example/tilescript/tilescript/TicTacToe" "lastMove" "I" (.int p1) := F_lastMove_p0_8.same W9
    refine own_step (T' := T9) (g' := (mkF m 89 #[.val (.ref p0), .val (.int p1), .val (.int (fnTok wm)), .val (.int (wx ||| ((1 : Int32) <<< (p1 &&& 31)))), .unset, .unset, .unset, .unset] [])) st9 ?_
    obtain ⟨T10, X10, e10, st10⟩ := getS2 X9 hx hZ hown (host := "") (Or.inl (hw _ (List.mem_of_getElem? (i := 55) rfl))) Via.refl e9 S_LINES_9 (g := (mkF m 89 #[.val (.ref p0), .val (.int p1), .val (.int (fnTok wm)), .val (.int (wx ||| ((1 : Int32) <<< (p1 &&& 31)))), .unset, .unset, .unset, .unset] [])) rfl (hb hby d7_89)
    refine own_step (T' := T10) (g' := (mkF m 92 #[.val (.ref p0), .val (.int p1), .val (.int (fnTok wm)), .val (.int (wx ||| ((1 : Int32) <<< (p1 &&& 31)))), .unset, .unset, .unset, .unset] [(.ref aL)])) st10 ?_
    refine own_step (T' := T10) (g' := (mkF m 94 #[.val (.ref p0), .val (.int p1), .val (.int (fnTok wm)), .val (.int (wx ||| ((1 : Int32) <<< (p1 &&& 31)))), .val (.ref aL), .unset, .unset, .unset] [])) (fun t k => XS.astore X10.here hx rfl (hb hby d7_92) rfl rfl (l' := #[.val (.ref p0), .val (.int p1), .val (.int (fnTok wm)), .val (.int (wx ||| ((1 : Int32) <<< (p1 &&& 31)))), .val (.ref aL), .unset, .unset, .unset]) rfl k) ?_
    refine own_step (T' := T10) (g' := (mkF m 96 #[.val (.ref p0), .val (.int p1), .val (.int (fnTok wm)), .val (.int (wx ||| ((1 : Int32) <<< (p1 &&& 31)))), .val (.ref aL), .unset, .unset, .unset] [(.ref aL)])) (fun t k => XS.aload X10.here hx rfl (hb hby d7_94) rfl rfl k) ?_
    obtain ⟨cl11, Ar11, q11, Sz11, Nn11, Hh11, Gg11⟩ := id V_aL_9
    refine own_step (T' := T10) (g' := (mkF m 97 #[.val (.ref p0), .val (.int p1), .val (.int (fnTok wm)), .val (.int (wx ||| ((1 : Int32) <<< (p1 &&& 31)))), .val (.ref aL), .unset, .unset, .unset] [(.int (8 : Int32))])) (fun t k => X10.arraylength hx (by rw [e10]; exact Ar11.1) (State.isArrayOf_alike hZ.alike Ar11.2.1) (g := (mkF m 96 #[.val (.ref p0), .val (.int p1), .val (.int (fnTok wm)), .val (.int (wx ||| ((1 : Int32) <<< (p1 &&& 31)))), .val (.ref aL), .unset, .unset, .unset] [(.ref aL)])) rfl rfl (hb hby d7_96) t (by rw [len_of Sz11 Nn11]; exact k)) ?_
    refine own_step (T' := T10) (g' := (mkF m 99 #[.val (.ref p0), .val (.int p1), .val (.int (fnTok wm)), .val (.int (wx ||| ((1 : Int32) <<< (p1 &&& 31)))), .val (.ref aL), .val (.int (8 : Int32)), .unset, .unset] [])) (fun t k => XS.istore X10.here hx rfl (hb hby d7_97) rfl (l' := #[.val (.ref p0), .val (.int p1), .val (.int (fnTok wm)), .val (.int (wx ||| ((1 : Int32) <<< (p1 &&& 31)))), .val (.ref aL), .val (.int (8 : Int32)), .unset, .unset]) rfl k) ?_
    refine own_step (T' := T10) (g' := (mkF m 100 #[.val (.ref p0), .val (.int p1), .val (.int (fnTok wm)), .val (.int (wx ||| ((1 : Int32) <<< (p1 &&& 31)))), .val (.ref aL), .val (.int (8 : Int32)), .unset, .unset] [(.int (0 : Int32))])) (fun t k => XS.iconst X10.here hx rfl (hb hby d7_99) k) ?_
    refine own_step (T' := T10) (g' := (mkF m 102 #[.val (.ref p0), .val (.int p1), .val (.int (fnTok wm)), .val (.int (wx ||| ((1 : Int32) <<< (p1 &&& 31)))), .val (.ref aL), .val (.int (8 : Int32)), .val (.int (0 : Int32)), .unset] [])) (fun t k => XS.istore X10.here hx rfl (hb hby d7_100) rfl (l' := #[.val (.ref p0), .val (.int p1), .val (.int (fnTok wm)), .val (.int (wx ||| ((1 : Int32) <<< (p1 &&& 31)))), .val (.ref aL), .val (.int (8 : Int32)), .val (.int (0 : Int32)), .unset]) rfl k) ?_
    refine own_step (T' := T10) (g' := (mkF m 104 #[.val (.ref p0), .val (.int p1), .val (.int (fnTok wm)), .val (.int (wx ||| ((1 : Int32) <<< (p1 &&& 31)))), .val (.ref aL), .val (.int (8 : Int32)), .val (.int (0 : Int32)), .unset] [(.int (0 : Int32))])) (fun t k => XS.iload X10.here hx rfl (hb hby d7_102) rfl k) ?_
    refine own_step (T' := T10) (g' := (mkF m 106 #[.val (.ref p0), .val (.int p1), .val (.int (fnTok wm)), .val (.int (wx ||| ((1 : Int32) <<< (p1 &&& 31)))), .val (.ref aL), .val (.int (8 : Int32)), .val (.int (0 : Int32)), .unset] [(.int (8 : Int32)), (.int (0 : Int32))])) (fun t k => XS.iload X10.here hx rfl (hb hby d7_104) rfl k) ?_
    refine own_step (T' := T10) (g' := (mkF m 109 #[.val (.ref p0), .val (.int p1), .val (.int (fnTok wm)), .val (.int (wx ||| ((1 : Int32) <<< (p1 &&& 31)))), .val (.ref aL), .val (.int (8 : Int32)), .val (.int (0 : Int32)), .unset] [])) (fun t k => XS.icmpNo X10.here hx rfl (hb hby d7_106) rfl (tlt (by decide : (0 : Int32) < (8 : Int32))).2.1 k) ?_
    refine own_step (T' := T10) (g' := (mkF m 111 #[.val (.ref p0), .val (.int p1), .val (.int (fnTok wm)), .val (.int (wx ||| ((1 : Int32) <<< (p1 &&& 31)))), .val (.ref aL), .val (.int (8 : Int32)), .val (.int (0 : Int32)), .unset] [(.ref aL)])) (fun t k => XS.aload X10.here hx rfl (hb hby d7_109) rfl rfl k) ?_
    refine own_step (T' := T10) (g' := (mkF m 113 #[.val (.ref p0), .val (.int p1), .val (.int (fnTok wm)), .val (.int (wx ||| ((1 : Int32) <<< (p1 &&& 31)))), .val (.ref aL), .val (.int (8 : Int32)), .val (.int (0 : Int32)), .unset] [(.int (0 : Int32)), (.ref aL)])) (fun t k => XS.iload X10.here hx rfl (hb hby d7_111) rfl k) ?_
    obtain ⟨cl12, Ar12, q12, Sz12, Nn12, Hh12, Gg12⟩ := id V_aL_9
    have hin12 : ¬ ((0 : Int32) < 0 ∨ cl12.slots.size ≤ ((0 : Int32)).toNatClampNeg) := inb_of Sz12 ⟨by decide, by decide⟩
    refine own_step (T' := T10) (g' := (mkF m 114 #[.val (.ref p0), .val (.int p1), .val (.int (fnTok wm)), .val (.int (wx ||| ((1 : Int32) <<< (p1 &&& 31)))), .val (.ref aL), .val (.int (8 : Int32)), .val (.int (0 : Int32)), .unset] [(.int (7 : Int32))])) (fun t k => X10.iaload hx (j := (0 : Int32)) (v := (.int (7 : Int32))) (by rw [e10]; exact Ar12.1) (State.isArrayOf_alike hZ.alike Ar12.2.1) Ar12.2.2 hin12 (Has.at Hh12 hin12 rfl) (g := (mkF m 113 #[.val (.ref p0), .val (.int p1), .val (.int (fnTok wm)), .val (.int (wx ||| ((1 : Int32) <<< (p1 &&& 31)))), .val (.ref aL), .val (.int (8 : Int32)), .val (.int (0 : Int32)), .unset] [(.int (0 : Int32)), (.ref aL)])) rfl rfl (hb hby d7_113) t k) ?_
    refine own_step (T' := T10) (g' := (mkF m 116 #[.val (.ref p0), .val (.int p1), .val (.int (fnTok wm)), .val (.int (wx ||| ((1 : Int32) <<< (p1 &&& 31)))), .val (.ref aL), .val (.int (8 : Int32)), .val (.int (0 : Int32)), .val (.int (7 : Int32))] [])) (fun t k => XS.istore X10.here hx rfl (hb hby d7_114) rfl (l' := #[.val (.ref p0), .val (.int p1), .val (.int (fnTok wm)), .val (.int (wx ||| ((1 : Int32) <<< (p1 &&& 31)))), .val (.ref aL), .val (.int (8 : Int32)), .val (.int (0 : Int32)), .val (.int (7 : Int32))]) rfl k) ?_
    refine own_step (T' := T10) (g' := (mkF m 117 #[.val (.ref p0), .val (.int p1), .val (.int (fnTok wm)), .val (.int (wx ||| ((1 : Int32) <<< (p1 &&& 31)))), .val (.ref aL), .val (.int (8 : Int32)), .val (.int (0 : Int32)), .val (.int (7 : Int32))] [(.int (wx ||| ((1 : Int32) <<< (p1 &&& 31))))])) (fun t k => XS.iloadN X10.here hx rfl (hb hby d7_116) rfl k) ?_
    refine own_step (T' := T10) (g' := (mkF m 119 #[.val (.ref p0), .val (.int p1), .val (.int (fnTok wm)), .val (.int (wx ||| ((1 : Int32) <<< (p1 &&& 31)))), .val (.ref aL), .val (.int (8 : Int32)), .val (.int (0 : Int32)), .val (.int (7 : Int32))] [(.int (7 : Int32)), (.int (wx ||| ((1 : Int32) <<< (p1 &&& 31))))])) (fun t k => XS.iload X10.here hx rfl (hb hby d7_117) rfl k) ?_
    refine own_step (T' := T10) (g' := (mkF m 120 #[.val (.ref p0), .val (.int p1), .val (.int (fnTok wm)), .val (.int (wx ||| ((1 : Int32) <<< (p1 &&& 31)))), .val (.ref aL), .val (.int (8 : Int32)), .val (.int (0 : Int32)), .val (.int (7 : Int32))] [(.int ((wx ||| ((1 : Int32) <<< (p1 &&& 31))) &&& (7 : Int32)))])) (fun t k => XS.iand X10.here hx rfl (hb hby d7_119) rfl k) ?_
    refine own_step (T' := T10) (g' := (mkF m 122 #[.val (.ref p0), .val (.int p1), .val (.int (fnTok wm)), .val (.int (wx ||| ((1 : Int32) <<< (p1 &&& 31)))), .val (.ref aL), .val (.int (8 : Int32)), .val (.int (0 : Int32)), .val (.int (7 : Int32))] [(.int (7 : Int32)), (.int ((wx ||| ((1 : Int32) <<< (p1 &&& 31))) &&& (7 : Int32)))])) (fun t k => XS.iload X10.here hx rfl (hb hby d7_120) rfl k) ?_
    by_cases hc122_13 : ((wx ||| ((1 : Int32) <<< (p1 &&& 31))) &&& (7 : Int32)) = (7 : Int32)
    · refine own_step (T' := T10) (g' := (mkF m 125 #[.val (.ref p0), .val (.int p1), .val (.int (fnTok wm)), .val (.int (wx ||| ((1 : Int32) <<< (p1 &&& 31)))), .val (.ref aL), .val (.int (8 : Int32)), .val (.int (0 : Int32)), .val (.int (7 : Int32))] [])) (fun t k => XS.icmpNo X10.here hx rfl (hb hby d7_122) rfl (teq hc122_13).2 k) ?_
      refine own_step (T' := T10) (g' := (mkF m 126 #[.val (.ref p0), .val (.int p1), .val (.int (fnTok wm)), .val (.int (wx ||| ((1 : Int32) <<< (p1 &&& 31)))), .val (.ref aL), .val (.int (8 : Int32)), .val (.int (0 : Int32)), .val (.int (7 : Int32))] [(.ref p0)])) (fun t k => XS.aloadN X10.here hx rfl (hb hby d7_125) rfl rfl k) ?_
      refine own_step (T' := T10) (g' := (mkF m 127 #[.val (.ref p0), .val (.int p1), .val (.int (fnTok wm)), .val (.int (wx ||| ((1 : Int32) <<< (p1 &&& 31)))), .val (.ref aL), .val (.int (8 : Int32)), .val (.int (0 : Int32)), .val (.int (7 : Int32))] [(.int (fnTok wm)), (.ref p0)])) (fun t k => XS.iloadN X10.here hx rfl (hb hby d7_126) rfl k) ?_
      obtain ⟨T14, h14, X14, e14, W14, st14⟩ := putFN X10 hx hZ hown (hw _ (List.mem_of_getElem? (i := 12) rfl)) Via.refl e10 F_winner_p0_9 E_p0_9 (Or.inl (hw _ (List.mem_of_getElem? (i := 13) rfl))) (hw _ (List.mem_of_getElem? (i := 2) rfl)) (ty := .char) (v' := (.int (nar .char (fnTok wm)))) (by decide) rfl (fits_nar_char (fnTok wm)) (g := (mkF m 127 #[.val (.ref p0), .val (.int p1), .val (.int (fnTok wm)), .val (.int (wx ||| ((1 : Int32) <<< (p1 &&& 31)))), .val (.ref aL), .val (.int (8 : Int32)), .val (.int (0 : Int32)), .val (.int (7 : Int32))] [(.int (fnTok wm)), (.ref p0)])) rfl rfl (hb hby d7_127)
      have E_p0_14 : Exa Z h14 p0 "com/example/tilescript/tilescript/TicTacToe" := E_p0_9.wr W14
      have F_oCells_p0_14 : Fld Z h14 p0 "com/example/tilescript/tilescript/TicTacToe" "oCells" "I" (.int wo) := F_oCells_p0_9.other W14 (Or.inr (slot_ne (Or.inl (hw _ (List.mem_of_getElem? (i := 49) rfl))) (Or.inl (hw _ (List.mem_of_getElem? (i := 13) rfl))) (by decide) (t := .int) (t' := .char) (by decide) (by decide)))
      have S_LINES_14 : Sta Z h14 "com/example/tilescript/tilescript/TicTacToe" "LINES" "[I" (.ref aL) := S_LINES_9.wr W14
      have V_aL_14 : Arv Z h14 aL kL .int (8 : Int32) [(.int (7 : Int32)), (.int (56 : Int32)), (.int (448 : Int32)), (.int (73 : Int32)), (.int (146 : Int32)), (.int (292 : Int32)), (.int (273 : Int32)), (.int (84 : Int32))] (.int (0 : Int32)) := V_aL_9.other W14 neL
      have F_xCells_p0_14 : Fld Z h14 p0 "com/example/tilescript/tilescript/TicTacToe" "xCells" "I" (.int (wx ||| ((1 : Int32) <<< (p1 &&& 31)))) := F_xCells_p0_9.other W14 (Or.inr (slot_ne (Or.inl (hw _ (List.mem_of_getElem? (i := 47) rfl))) (Or.inl (hw _ (List.mem_of_getElem? (i := 13) rfl))) (by decide) (t := .int) (t' := .char) (by decide) (by decide)))
      have F_marks_p0_14 : Fld Z h14 p0 "com/example/tilescript/tilescript/TicTacToe" "marks" "I" (.int (wm + (1 : Int32))) := F_marks_p0_9.other W14 (Or.inr (slot_ne (Or.inl (hw _ (List.mem_of_getElem? (i := 45) rfl))) (Or.inl (hw _ (List.mem_of_getElem? (i := 13) rfl))) (by decide) (t := .int) (t' := .char) (by decide) (by decide)))
      have F_lastMove_p0_14 : Fld Z h14 p0 "com/example/tilescript/tilescript/TicTacToe" "lastMove" "I" (.int p1) := F_lastMove_p0_9.other W14 (Or.inr (slot_ne (Or.inl (hw _ (List.mem_of_getElem? (i := 11) rfl))) (Or.inl (hw _ (List.mem_of_getElem? (i := 13) rfl))) (by decide) (t := .int) (t' := .char) (by decide) (by decide)))
      have K_14 : Keep h0 h14 [p0] := K_9.wr W14 (Or.inl (List.mem_of_getElem? (i := 0) rfl))
      have N14 := Fr.snoc X14 N9 g_p0
      have F_winner_p0_14 : Fld Z h14 p0 "com/example/tilescript/tilescript/TicTacToe" "winner" "C" (.int (nar .char (fnTok wm))) := F_winner_p0_9.same W14
      refine own_step (T' := T14) (g' := (mkF m 130 #[.val (.ref p0), .val (.int p1), .val (.int (fnTok wm)), .val (.int (wx ||| ((1 : Int32) <<< (p1 &&& 31)))), .val (.ref aL), .val (.int (8 : Int32)), .val (.int (0 : Int32)), .val (.int (7 : Int32))] [])) st14 ?_
      refine own_retV X14 hx hlk Bd.returns (hb hby d7_130) (by decide) (by decide) ?_
      rw [e14]
      exact ⟨(wx ||| ((1 : Int32) <<< (p1 &&& 31))), wo, (nar .char (fnTok wm)), rfl, N14, K_14, F_xCells_p0_14, F_oCells_p0_14, F_marks_p0_14, F_winner_p0_14, F_lastMove_p0_14, Or.inl ⟨hc34_3, rfl, rfl, (by unfold own_wn; rw [if_pos hc122_13])⟩⟩
    · refine own_step (T' := T10) (g' := (mkF m 131 #[.val (.ref p0), .val (.int p1), .val (.int (fnTok wm)), .val (.int (wx ||| ((1 : Int32) <<< (p1 &&& 31)))), .val (.ref aL), .val (.int (8 : Int32)), .val (.int (0 : Int32)), .val (.int (7 : Int32))] [])) (fun t k => XS.icmpYes X10.here hx rfl (pc0 := 122) (pc' := 131) rfl (hb hby d7_122) rfl (feq hc122_13).2 (by decide) (by decide) k) ?_
      refine own_step (T' := T10) (g' := (mkF m 134 #[.val (.ref p0), .val (.int p1), .val (.int (fnTok wm)), .val (.int (wx ||| ((1 : Int32) <<< (p1 &&& 31)))), .val (.ref aL), .val (.int (8 : Int32)), .val (.int (1 : Int32)), .val (.int (7 : Int32))] [])) (fun t k => XS.iinc X10.here hx rfl (hb hby d7_131) rfl (l' := #[.val (.ref p0), .val (.int p1), .val (.int (fnTok wm)), .val (.int (wx ||| ((1 : Int32) <<< (p1 &&& 31)))), .val (.ref aL), .val (.int (8 : Int32)), .val (.int (1 : Int32)), .val (.int (7 : Int32))]) rfl k) ?_
      refine own_step (T' := T10) (g' := (mkF m 102 #[.val (.ref p0), .val (.int p1), .val (.int (fnTok wm)), .val (.int (wx ||| ((1 : Int32) <<< (p1 &&& 31)))), .val (.ref aL), .val (.int (8 : Int32)), .val (.int (1 : Int32)), .val (.int (7 : Int32))] [])) (fun t k => XS.goto X10.here hx rfl (pc0 := 134) (pc' := 102) rfl (hb hby d7_134) (by decide) (by decide) k) ?_
      refine own_step (T' := T10) (g' := (mkF m 104 #[.val (.ref p0), .val (.int p1), .val (.int (fnTok wm)), .val (.int (wx ||| ((1 : Int32) <<< (p1 &&& 31)))), .val (.ref aL), .val (.int (8 : Int32)), .val (.int (1 : Int32)), .val (.int (7 : Int32))] [(.int (1 : Int32))])) (fun t k => XS.iload X10.here hx rfl (hb hby d7_102) rfl k) ?_
      refine own_step (T' := T10) (g' := (mkF m 106 #[.val (.ref p0), .val (.int p1), .val (.int (fnTok wm)), .val (.int (wx ||| ((1 : Int32) <<< (p1 &&& 31)))), .val (.ref aL), .val (.int (8 : Int32)), .val (.int (1 : Int32)), .val (.int (7 : Int32))] [(.int (8 : Int32)), (.int (1 : Int32))])) (fun t k => XS.iload X10.here hx rfl (hb hby d7_104) rfl k) ?_
      refine own_step (T' := T10) (g' := (mkF m 109 #[.val (.ref p0), .val (.int p1), .val (.int (fnTok wm)), .val (.int (wx ||| ((1 : Int32) <<< (p1 &&& 31)))), .val (.ref aL), .val (.int (8 : Int32)), .val (.int (1 : Int32)), .val (.int (7 : Int32))] [])) (fun t k => XS.icmpNo X10.here hx rfl (hb hby d7_106) rfl (tlt (by decide : (1 : Int32) < (8 : Int32))).2.1 k) ?_
      refine own_step (T' := T10) (g' := (mkF m 111 #[.val (.ref p0), .val (.int p1), .val (.int (fnTok wm)), .val (.int (wx ||| ((1 : Int32) <<< (p1 &&& 31)))), .val (.ref aL), .val (.int (8 : Int32)), .val (.int (1 : Int32)), .val (.int (7 : Int32))] [(.ref aL)])) (fun t k => XS.aload X10.here hx rfl (hb hby d7_109) rfl rfl k) ?_
      refine own_step (T' := T10) (g' := (mkF m 113 #[.val (.ref p0), .val (.int p1), .val (.int (fnTok wm)), .val (.int (wx ||| ((1 : Int32) <<< (p1 &&& 31)))), .val (.ref aL), .val (.int (8 : Int32)), .val (.int (1 : Int32)), .val (.int (7 : Int32))] [(.int (1 : Int32)), (.ref aL)])) (fun t k => XS.iload X10.here hx rfl (hb hby d7_111) rfl k) ?_
      obtain ⟨cl16, Ar16, q16, Sz16, Nn16, Hh16, Gg16⟩ := id V_aL_9
      have hin16 : ¬ ((1 : Int32) < 0 ∨ cl16.slots.size ≤ ((1 : Int32)).toNatClampNeg) := inb_of Sz16 ⟨by decide, by decide⟩
      refine own_step (T' := T10) (g' := (mkF m 114 #[.val (.ref p0), .val (.int p1), .val (.int (fnTok wm)), .val (.int (wx ||| ((1 : Int32) <<< (p1 &&& 31)))), .val (.ref aL), .val (.int (8 : Int32)), .val (.int (1 : Int32)), .val (.int (7 : Int32))] [(.int (56 : Int32))])) (fun t k => X10.iaload hx (j := (1 : Int32)) (v := (.int (56 : Int32))) (by rw [e10]; exact Ar16.1) (State.isArrayOf_alike hZ.alike Ar16.2.1) Ar16.2.2 hin16 (Has.at Hh16 hin16 rfl) (g := (mkF m 113 #[.val (.ref p0), .val (.int p1), .val (.int (fnTok wm)), .val (.int (wx ||| ((1 : Int32) <<< (p1 &&& 31)))), .val (.ref aL), .val (.int (8 : Int32)), .val (.int (1 : Int32)), .val (.int (7 : Int32))] [(.int (1 : Int32)), (.ref aL)])) rfl rfl (hb hby d7_113) t k) ?_
      refine own_step (T' := T10) (g' := (mkF m 116 #[.val (.ref p0), .val (.int p1), .val (.int (fnTok wm)), .val (.int (wx ||| ((1 : Int32) <<< (p1 &&& 31)))), .val (.ref aL), .val (.int (8 : Int32)), .val (.int (1 : Int32)), .val (.int (56 : Int32))] [])) (fun t k => XS.istore X10.here hx rfl (hb hby d7_114) rfl (l' := #[.val (.ref p0), .val (.int p1), .val (.int (fnTok wm)), .val (.int (wx ||| ((1 : Int32) <<< (p1 &&& 31)))), .val (.ref aL), .val (.int (8 : Int32)), .val (.int (1 : Int32)), .val (.int (56 : Int32))]) rfl k) ?_
      refine own_step (T' := T10) (g' := (mkF m 117 #[.val (.ref p0), .val (.int p1), .val (.int (fnTok wm)), .val (.int (wx ||| ((1 : Int32) <<< (p1 &&& 31)))), .val (.ref aL), .val (.int (8 : Int32)), .val (.int (1 : Int32)), .val (.int (56 : Int32))] [(.int (wx ||| ((1 : Int32) <<< (p1 &&& 31))))])) (fun t k => XS.iloadN X10.here hx rfl (hb hby d7_116) rfl k) ?_
      refine own_step (T' := T10) (g' := (mkF m 119 #[.val (.ref p0), .val (.int p1), .val (.int (fnTok wm)), .val (.int (wx ||| ((1 : Int32) <<< (p1 &&& 31)))), .val (.ref aL), .val (.int (8 : Int32)), .val (.int (1 : Int32)), .val (.int (56 : Int32))] [(.int (56 : Int32)), (.int (wx ||| ((1 : Int32) <<< (p1 &&& 31))))])) (fun t k => XS.iload X10.here hx rfl (hb hby d7_117) rfl k) ?_
      refine own_step (T' := T10) (g' := (mkF m 120 #[.val (.ref p0), .val (.int p1), .val (.int (fnTok wm)), .val (.int (wx ||| ((1 : Int32) <<< (p1 &&& 31)))), .val (.ref aL), .val (.int (8 : Int32)), .val (.int (1 : Int32)), .val (.int (56 : Int32))] [(.int ((wx ||| ((1 : Int32) <<< (p1 &&& 31))) &&& (56 : Int32)))])) (fun t k => XS.iand X10.here hx rfl (hb hby d7_119) rfl k) ?_
      refine own_step (T' := T10) (g' := (mkF m 122 #[.val (.ref p0), .val (.int p1), .val (.int (fnTok wm)), .val (.int (wx ||| ((1 : Int32) <<< (p1 &&& 31)))), .val (.ref aL), .val (.int (8 : Int32)), .val (.int (1 : Int32)), .val (.int (56 : Int32))] [(.int (56 : Int32)), (.int ((wx ||| ((1 : Int32) <<< (p1 &&& 31))) &&& (56 : Int32)))])) (fun t k => XS.iload X10.here hx rfl (hb hby d7_120) rfl k) ?_
      by_cases hc122_17 : ((wx ||| ((1 : Int32) <<< (p1 &&& 31))) &&& (56 : Int32)) = (56 : Int32)
      · refine own_step (T' := T10) (g' := (mkF m 125 #[.val (.ref p0), .val (.int p1), .val (.int (fnTok wm)), .val (.int (wx ||| ((1 : Int32) <<< (p1 &&& 31)))), .val (.ref aL), .val (.int (8 : Int32)), .val (.int (1 : Int32)), .val (.int (56 : Int32))] [])) (fun t k => XS.icmpNo X10.here hx rfl (hb hby d7_122) rfl (teq hc122_17).2 k) ?_
        refine own_step (T' := T10) (g' := (mkF m 126 #[.val (.ref p0), .val (.int p1), .val (.int (fnTok wm)), .val (.int (wx ||| ((1 : Int32) <<< (p1 &&& 31)))), .val (.ref aL), .val (.int (8 : Int32)), .val (.int (1 : Int32)), .val (.int (56 : Int32))] [(.ref p0)])) (fun t k => XS.aloadN X10.here hx rfl (hb hby d7_125) rfl rfl k) ?_
        refine own_step (T' := T10) (g' := (mkF m 127 #[.val (.ref p0), .val (.int p1), .val (.int (fnTok wm)), .val (.int (wx ||| ((1 : Int32) <<< (p1 &&& 31)))), .val (.ref aL), .val (.int (8 : Int32)), .val (.int (1 : Int32)), .val (.int (56 : Int32))] [(.int (fnTok wm)), (.ref p0)])) (fun t k => XS.iloadN X10.here hx rfl (hb hby d7_126) rfl k) ?_
        obtain ⟨T18, h18, X18, e18, W18, st18⟩ := putFN X10 hx hZ hown (hw _ (List.mem_of_getElem? (i := 12) rfl)) Via.refl e10 F_winner_p0_9 E_p0_9 (Or.inl (hw _ (List.mem_of_getElem? (i := 13) rfl))) (hw _ (List.mem_of_getElem? (i := 2) rfl)) (ty := .char) (v' := (.int (nar .char (fnTok wm)))) (by decide) rfl (fits_nar_char (fnTok wm)) (g := (mkF m 127 #[.val (.ref p0), .val (.int p1), .val (.int (fnTok wm)), .val (.int (wx ||| ((1 : Int32) <<< (p1 &&& 31)))), .val (.ref aL), .val (.int (8 : Int32)), .val (.int (1 : Int32)), .val (.int (56 : Int32))] [(.int (fnTok wm)), (.ref p0)])) rfl rfl (hb hby d7_127)
        have E_p0_18 : Exa Z h18 p0 "com/example/tilescript/tilescript/TicTacToe" := E_p0_9.wr W18
        have F_oCells_p0_18 : Fld Z h18 p0 "com/example/tilescript/tilescript/TicTacToe" "oCells" "I" (.int wo) := F_oCells_p0_9.other W18 (Or.inr (slot_ne (Or.inl (hw _ (List.mem_of_getElem? (i := 49) rfl))) (Or.inl (hw _ (List.mem_of_getElem? (i := 13) rfl))) (by decide) (t := .int) (t' := .char) (by decide) (by decide)))
        have S_LINES_18 : Sta Z h18 "com/example/tilescript/tilescript/TicTacToe" "LINES" "[I" (.ref aL) := S_LINES_9.wr W18
        have V_aL_18 : Arv Z h18 aL kL .int (8 : Int32) [(.int (7 : Int32)), (.int (56 : Int32)), (.int (448 : Int32)), (.int (73 : Int32)), (.int (146 : Int32)), (.int (292 : Int32)), (.int (273 : Int32)), (.int (84 : Int32))] (.int (0 : Int32)) := V_aL_9.other W18 neL
        have F_xCells_p0_18 : Fld Z h18 p0 "com/example/tilescript/tilescript/TicTacToe" "xCells" "I" (.int (wx ||| ((1 : Int32) <<< (p1 &&& 31)))) := F_xCells_p0_9.other W18 (Or.inr (slot_ne (Or.inl (hw _ (List.mem_of_getElem? (i := 47) rfl))) (Or.inl (hw _ (List.mem_of_getElem? (i := 13) rfl))) (by decide) (t := .int) (t' := .char) (by decide) (by decide)))
        have F_marks_p0_18 : Fld Z h18 p0 "com/example/tilescript/tilescript/TicTacToe" "marks" "I" (.int (wm + (1 : Int32))) := F_marks_p0_9.other W18 (Or.inr (slot_ne (Or.inl (hw _ (List.mem_of_getElem? (i := 45) rfl))) (Or.inl (hw _ (List.mem_of_getElem? (i := 13) rfl))) (by decide) (t := .int) (t' := .char) (by decide) (by decide)))
        have F_lastMove_p0_18 : Fld Z h18 p0 "com/example/tilescript/tilescript/TicTacToe" "lastMove" "I" (.int p1) := F_lastMove_p0_9.other W18 (Or.inr (slot_ne (Or.inl (hw _ (List.mem_of_getElem? (i := 11) rfl))) (Or.inl (hw _ (List.mem_of_getElem? (i := 13) rfl))) (by decide) (t := .int) (t' := .char) (by decide) (by decide)))
        have K_18 : Keep h0 h18 [p0] := K_9.wr W18 (Or.inl (List.mem_of_getElem? (i := 0) rfl))
        have N18 := Fr.snoc X18 N9 g_p0
        have F_winner_p0_18 : Fld Z h18 p0 "com/example/tilescript/tilescript/TicTacToe" "winner" "C" (.int (nar .char (fnTok wm))) := F_winner_p0_9.same W18
        refine own_step (T' := T18) (g' := (mkF m 130 #[.val (.ref p0), .val (.int p1), .val (.int (fnTok wm)), .val (.int (wx ||| ((1 : Int32) <<< (p1 &&& 31)))), .val (.ref aL), .val (.int (8 : Int32)), .val (.int (1 : Int32)), .val (.int (56 : Int32))] [])) st18 ?_
        refine own_retV X18 hx hlk Bd.returns (hb hby d7_130) (by decide) (by decide) ?_
        rw [e18]
        exact ⟨(wx ||| ((1 : Int32) <<< (p1 &&& 31))), wo, (nar .char (fnTok wm)), rfl, N18, K_18, F_xCells_p0_18, F_oCells_p0_18, F_marks_p0_18, F_winner_p0_18, F_lastMove_p0_18, Or.inl ⟨hc34_3, rfl, rfl, (by unfold own_wn; rw [if_neg hc122_13, if_pos hc122_17])⟩⟩
      · refine own_step (T' := T10) (g' := (mkF m 131 #[.val (.ref p0), .val (.int p1), .val (.int (fnTok wm)), .val (.int (wx ||| ((1 : Int32) <<< (p1 &&& 31)))), .val (.ref aL), .val (.int (8 : Int32)), .val (.int (1 : Int32)), .val (.int (56 : Int32))] [])) (fun t k => XS.icmpYes X10.here hx rfl (pc0 := 122) (pc' := 131) rfl (hb hby d7_122) rfl (feq hc122_17).2 (by decide) (by decide) k) ?_
        refine own_step (T' := T10) (g' := (mkF m 134 #[.val (.ref p0), .val (.int p1), .val (.int (fnTok wm)), .val (.int (wx ||| ((1 : Int32) <<< (p1 &&& 31)))), .val (.ref aL), .val (.int (8 : Int32)), .val (.int (2 : Int32)), .val (.int (56 : Int32))] [])) (fun t k => XS.iinc X10.here hx rfl (hb hby d7_131) rfl (l' := #[.val (.ref p0), .val (.int p1), .val (.int (fnTok wm)), .val (.int (wx ||| ((1 : Int32) <<< (p1 &&& 31)))), .val (.ref aL), .val (.int (8 : Int32)), .val (.int (2 : Int32)), .val (.int (56 : Int32))]) rfl k) ?_
        refine own_step (T' := T10) (g' := (mkF m 102 #[.val (.ref p0), .val (.int p1), .val (.int (fnTok wm)), .val (.int (wx ||| ((1 : Int32) <<< (p1 &&& 31)))), .val (.ref aL), .val (.int (8 : Int32)), .val (.int (2 : Int32)), .val (.int (56 : Int32))] [])) (fun t k => XS.goto X10.here hx rfl (pc0 := 134) (pc' := 102) rfl (hb hby d7_134) (by decide) (by decide) k) ?_
        refine own_step (T' := T10) (g' := (mkF m 104 #[.val (.ref p0), .val (.int p1), .val (.int (fnTok wm)), .val (.int (wx ||| ((1 : Int32) <<< (p1 &&& 31)))), .val (.ref aL), .val (.int (8 : Int32)), .val (.int (2 : Int32)), .val (.int (56 : Int32))] [(.int (2 : Int32))])) (fun t k => XS.iload X10.here hx rfl (hb hby d7_102) rfl k) ?_
        refine own_step (T' := T10) (g' := (mkF m 106 #[.val (.ref p0), .val (.int p1), .val (.int (fnTok wm)), .val (.int (wx ||| ((1 : Int32) <<< (p1 &&& 31)))), .val (.ref aL), .val (.int (8 : Int32)), .val (.int (2 : Int32)), .val (.int (56 : Int32))] [(.int (8 : Int32)), (.int (2 : Int32))])) (fun t k => XS.iload X10.here hx rfl (hb hby d7_104) rfl k) ?_
        refine own_step (T' := T10) (g' := (mkF m 109 #[.val (.ref p0), .val (.int p1), .val (.int (fnTok wm)), .val (.int (wx ||| ((1 : Int32) <<< (p1 &&& 31)))), .val (.ref aL), .val (.int (8 : Int32)), .val (.int (2 : Int32)), .val (.int (56 : Int32))] [])) (fun t k => XS.icmpNo X10.here hx rfl (hb hby d7_106) rfl (tlt (by decide : (2 : Int32) < (8 : Int32))).2.1 k) ?_
        refine own_step (T' := T10) (g' := (mkF m 111 #[.val (.ref p0), .val (.int p1), .val (.int (fnTok wm)), .val (.int (wx ||| ((1 : Int32) <<< (p1 &&& 31)))), .val (.ref aL), .val (.int (8 : Int32)), .val (.int (2 : Int32)), .val (.int (56 : Int32))] [(.ref aL)])) (fun t k => XS.aload X10.here hx rfl (hb hby d7_109) rfl rfl k) ?_
        refine own_step (T' := T10) (g' := (mkF m 113 #[.val (.ref p0), .val (.int p1), .val (.int (fnTok wm)), .val (.int (wx ||| ((1 : Int32) <<< (p1 &&& 31)))), .val (.ref aL), .val (.int (8 : Int32)), .val (.int (2 : Int32)), .val (.int (56 : Int32))] [(.int (2 : Int32)), (.ref aL)])) (fun t k => XS.iload X10.here hx rfl (hb hby d7_111) rfl k) ?_
        obtain ⟨cl20, Ar20, q20, Sz20, Nn20, Hh20, Gg20⟩ := id V_aL_9
        have hin20 : ¬ ((2 : Int32) < 0 ∨ cl20.slots.size ≤ ((2 : Int32)).toNatClampNeg) := inb_of Sz20 ⟨by decide, by decide⟩
        refine own_step (T' := T10) (g' := (mkF m 114 #[.val (.ref p0), .val (.int p1), .val (.int (fnTok wm)), .val (.int (wx ||| ((1 : Int32) <<< (p1 &&& 31)))), .val (.ref aL), .val (.int (8 : Int32)), .val (.int (2 : Int32)), .val (.int (56 : Int32))] [(.int (448 : Int32))])) (fun t k => X10.iaload hx (j := (2 : Int32)) (v := (.int (448 : Int32))) (by rw [e10]; exact Ar20.1) (State.isArrayOf_alike hZ.alike Ar20.2.1) Ar20.2.2 hin20 (Has.at Hh20 hin20 rfl) (g := (mkF m 113 #[.val (.ref p0), .val (.int p1), .val (.int (fnTok wm)), .val (.int (wx ||| ((1 : Int32) <<< (p1 &&& 31)))), .val (.ref aL), .val (.int (8 : Int32)), .val (.int (2 : Int32)), .val (.int (56 : Int32))] [(.int (2 : Int32)), (.ref aL)])) rfl rfl (hb hby d7_113) t k) ?_
        refine own_step (T' := T10) (g' := (mkF m 116 #[.val (.ref p0), .val (.int p1), .val (.int (fnTok wm)), .val (.int (wx ||| ((1 : Int32) <<< (p1 &&& 31)))), .val (.ref aL), .val (.int (8 : Int32)), .val (.int (2 : Int32)), .val (.int (448 : Int32))] [])) (fun t k => XS.istore X10.here hx rfl (hb hby d7_114) rfl (l' := #[.val (.ref p0), .val (.int p1), .val (.int (fnTok wm)), .val (.int (wx ||| ((1 : Int32) <<< (p1 &&& 31)))), .val (.ref aL), .val (.int (8 : Int32)), .val (.int (2 : Int32)), .val (.int (448 : Int32))]) rfl k) ?_
        refine own_step (T' := T10) (g' := (mkF m 117 #[.val (.ref p0), .val (.int p1), .val (.int (fnTok wm)), .val (.int (wx ||| ((1 : Int32) <<< (p1 &&& 31)))), .val (.ref aL), .val (.int (8 : Int32)), .val (.int (2 : Int32)), .val (.int (448 : Int32))] [(.int (wx ||| ((1 : Int32) <<< (p1 &&& 31))))])) (fun t k => XS.iloadN X10.here hx rfl (hb hby d7_116) rfl k) ?_
        refine own_step (T' := T10) (g' := (mkF m 119 #[.val (.ref p0), .val (.int p1), .val (.int (fnTok wm)), .val (.int (wx ||| ((1 : Int32) <<< (p1 &&& 31)))), .val (.ref aL), .val (.int (8 : Int32)), .val (.int (2 : Int32)), .val (.int (448 : Int32))] [(.int (448 : Int32)), (.int (wx ||| ((1 : Int32) <<< (p1 &&& 31))))])) (fun t k => XS.iload X10.here hx rfl (hb hby d7_117) rfl k) ?_
        refine own_step (T' := T10) (g' := (mkF m 120 #[.val (.ref p0), .val (.int p1), .val (.int (fnTok wm)), .val (.int (wx ||| ((1 : Int32) <<< (p1 &&& 31)))), .val (.ref aL), .val (.int (8 : Int32)), .val (.int (2 : Int32)), .val (.int (448 : Int32))] [(.int ((wx ||| ((1 : Int32) <<< (p1 &&& 31))) &&& (448 : Int32)))])) (fun t k => XS.iand X10.here hx rfl (hb hby d7_119) rfl k) ?_
        refine own_step (T' := T10) (g' := (mkF m 122 #[.val (.ref p0), .val (.int p1), .val (.int (fnTok wm)), .val (.int (wx ||| ((1 : Int32) <<< (p1 &&& 31)))), .val (.ref aL), .val (.int (8 : Int32)), .val (.int (2 : Int32)), .val (.int (448 : Int32))] [(.int (448 : Int32)), (.int ((wx ||| ((1 : Int32) <<< (p1 &&& 31))) &&& (448 : Int32)))])) (fun t k => XS.iload X10.here hx rfl (hb hby d7_120) rfl k) ?_
        by_cases hc122_21 : ((wx ||| ((1 : Int32) <<< (p1 &&& 31))) &&& (448 : Int32)) = (448 : Int32)
        · refine own_step (T' := T10) (g' := (mkF m 125 #[.val (.ref p0), .val (.int p1), .val (.int (fnTok wm)), .val (.int (wx ||| ((1 : Int32) <<< (p1 &&& 31)))), .val (.ref aL), .val (.int (8 : Int32)), .val (.int (2 : Int32)), .val (.int (448 : Int32))] [])) (fun t k => XS.icmpNo X10.here hx rfl (hb hby d7_122) rfl (teq hc122_21).2 k) ?_
          refine own_step (T' := T10) (g' := (mkF m 126 #[.val (.ref p0), .val (.int p1), .val (.int (fnTok wm)), .val (.int (wx ||| ((1 : Int32) <<< (p1 &&& 31)))), .val (.ref aL), .val (.int (8 : Int32)), .val (.int (2 : Int32)), .val (.int (448 : Int32))] [(.ref p0)])) (fun t k => XS.aloadN X10.here hx rfl (hb hby d7_125) rfl rfl k) ?_
          refine own_step (T' := T10) (g' := (mkF m 127 #[.val (.ref p0), .val (.int p1), .val (.int (fnTok wm)), .val (.int (wx ||| ((1 : Int32) <<< (p1 &&& 31)))), .val (.ref aL), .val (.int (8 : Int32)), .val (.int (2 : Int32)), .val (.int (448 : Int32))] [(.int (fnTok wm)), (.ref p0)])) (fun t k => XS.iloadN X10.here hx rfl (hb hby d7_126) rfl k) ?_
          obtain ⟨T22, h22, X22, e22, W22, st22⟩ := putFN X10 hx hZ hown (hw _ (List.mem_of_getElem? (i := 12) rfl)) Via.refl e10 F_winner_p0_9 E_p0_9 (Or.inl (hw _ (List.mem_of_getElem? (i := 13) rfl))) (hw _ (List.mem_of_getElem? (i := 2) rfl)) (ty := .char) (v' := (.int (nar .char (fnTok wm)))) (by decide) rfl (fits_nar_char (fnTok wm)) (g := (mkF m 127 #[.val (.ref p0), .val (.int p1), .val (.int (fnTok wm)), .val (.int (wx ||| ((1 : Int32) <<< (p1 &&& 31)))), .val (.ref aL), .val (.int (8 : Int32)), .val (.int (2 : Int32)), .val (.int (448 : Int32))] [(.int (fnTok wm)), (.ref p0)])) rfl rfl (hb hby d7_127)
          have E_p0_22 : Exa Z h22 p0 "com/example/tilescript/tilescript/TicTacToe" := E_p0_9.wr W22
          have F_oCells_p0_22 : Fld Z h22 p0 "com/example/tilescript/tilescript/TicTacToe" "oCells" "I" (.int wo) := F_oCells_p0_9.other W22 (Or.inr (slot_ne (Or.inl (hw _ (List.mem_of_getElem? (i := 49) rfl))) (Or.inl (hw _ (List.mem_of_getElem? (i := 13) rfl))) (by decide) (t := .int) (t' := .char) (by decide) (by decide)))
          have S_LINES_22 : Sta Z h22 "com/example/tilescript/tilescript/TicTacToe" "LINES" "[I" (.ref aL) := S_LINES_9.wr W22
          have V_aL_22 : Arv Z h22 aL kL .int (8 : Int32) [(.int (7 : Int32)), (.int (56 : Int32)), (.int (448 : Int32)), (.int (73 : Int32)), (.int (146 : Int32)), (.int (292 : Int32)), (.int (273 : Int32)), (.int (84 : Int32))] (.int (0 : Int32)) := V_aL_9.other W22 neL
          have F_xCells_p0_22 : Fld Z h22 p0 "com/example/tilescript/tilescript/TicTacToe" "xCells" "I" (.int (wx ||| ((1 : Int32) <<< (p1 &&& 31)))) := F_xCells_p0_9.other W22 (Or.inr (slot_ne (Or.inl (hw _ (List.mem_of_getElem? (i := 47) rfl))) (Or.inl (hw _ (List.mem_of_getElem? (i := 13) rfl))) (by decide) (t := .int) (t' := .char) (by decide) (by decide)))
          have F_marks_p0_22 : Fld Z h22 p0 "com/example/tilescript/tilescript/TicTacToe" "marks" "I" (.int (wm + (1 : Int32))) := F_marks_p0_9.other W22 (Or.inr (slot_ne (Or.inl (hw _ (List.mem_of_getElem? (i := 45) rfl))) (Or.inl (hw _ (List.mem_of_getElem? (i := 13) rfl))) (by decide) (t := .int) (t' := .char) (by decide) (by decide)))
          have F_lastMove_p0_22 : Fld Z h22 p0 "com/example/tilescript/tilescript/TicTacToe" "lastMove" "I" (.int p1) := F_lastMove_p0_9.other W22 (Or.inr (slot_ne (Or.inl (hw _ (List.mem_of_getElem? (i := 11) rfl))) (Or.inl (hw _ (List.mem_of_getElem? (i := 13) rfl))) (by decide) (t := .int) (t' := .char) (by decide) (by decide)))
          have K_22 : Keep h0 h22 [p0] := K_9.wr W22 (Or.inl (List.mem_of_getElem? (i := 0) rfl))
          have N22 := Fr.snoc X22 N9 g_p0
          have F_winner_p0_22 : Fld Z h22 p0 "com/example/tilescript/tilescript/TicTacToe" "winner" "C" (.int (nar .char (fnTok wm))) := F_winner_p0_9.same W22
          refine own_step (T' := T22) (g' := (mkF m 130 #[.val (.ref p0), .val (.int p1), .val (.int (fnTok wm)), .val (.int (wx ||| ((1 : Int32) <<< (p1 &&& 31)))), .val (.ref aL), .val (.int (8 : Int32)), .val (.int (2 : Int32)), .val (.int (448 : Int32))] [])) st22 ?_
          refine own_retV X22 hx hlk Bd.returns (hb hby d7_130) (by decide) (by decide) ?_
          rw [e22]
          exact ⟨(wx ||| ((1 : Int32) <<< (p1 &&& 31))), wo, (nar .char (fnTok wm)), rfl, N22, K_22, F_xCells_p0_22, F_oCells_p0_22, F_marks_p0_22, F_winner_p0_22, F_lastMove_p0_22, Or.inl ⟨hc34_3, rfl, rfl, (by unfold own_wn; rw [if_neg hc122_13, if_neg hc122_17, if_pos hc122_21])⟩⟩
        · refine own_step (T' := T10) (g' := (mkF m 131 #[.val (.ref p0), .val (.int p1), .val (.int (fnTok wm)), .val (.int (wx ||| ((1 : Int32) <<< (p1 &&& 31)))), .val (.ref aL), .val (.int (8 : Int32)), .val (.int (2 : Int32)), .val (.int (448 : Int32))] [])) (fun t k => XS.icmpYes X10.here hx rfl (pc0 := 122) (pc' := 131) rfl (hb hby d7_122) rfl (feq hc122_21).2 (by decide) (by decide) k) ?_
          refine own_step (T' := T10) (g' := (mkF m 134 #[.val (.ref p0), .val (.int p1), .val (.int (fnTok wm)), .val (.int (wx ||| ((1 : Int32) <<< (p1 &&& 31)))), .val (.ref aL), .val (.int (8 : Int32)), .val (.int (3 : Int32)), .val (.int (448 : Int32))] [])) (fun t k => XS.iinc X10.here hx rfl (hb hby d7_131) rfl (l' := #[.val (.ref p0), .val (.int p1), .val (.int (fnTok wm)), .val (.int (wx ||| ((1 : Int32) <<< (p1 &&& 31)))), .val (.ref aL), .val (.int (8 : Int32)), .val (.int (3 : Int32)), .val (.int (448 : Int32))]) rfl k) ?_
          refine own_step (T' := T10) (g' := (mkF m 102 #[.val (.ref p0), .val (.int p1), .val (.int (fnTok wm)), .val (.int (wx ||| ((1 : Int32) <<< (p1 &&& 31)))), .val (.ref aL), .val (.int (8 : Int32)), .val (.int (3 : Int32)), .val (.int (448 : Int32))] [])) (fun t k => XS.goto X10.here hx rfl (pc0 := 134) (pc' := 102) rfl (hb hby d7_134) (by decide) (by decide) k) ?_
          refine own_step (T' := T10) (g' := (mkF m 104 #[.val (.ref p0), .val (.int p1), .val (.int (fnTok wm)), .val (.int (wx ||| ((1 : Int32) <<< (p1 &&& 31)))), .val (.ref aL), .val (.int (8 : Int32)), .val (.int (3 : Int32)), .val (.int (448 : Int32))] [(.int (3 : Int32))])) (fun t k => XS.iload X10.here hx rfl (hb hby d7_102) rfl k) ?_
          refine own_step (T' := T10) (g' := (mkF m 106 #[.val (.ref p0), .val (.int p1), .val (.int (fnTok wm)), .val (.int (wx ||| ((1 : Int32) <<< (p1 &&& 31)))), .val (.ref aL), .val (.int (8 : Int32)), .val (.int (3 : Int32)), .val (.int (448 : Int32))] [(.int (8 : Int32)), (.int (3 : Int32))])) (fun t k => XS.iload X10.here hx rfl (hb hby d7_104) rfl k) ?_
          refine own_step (T' := T10) (g' := (mkF m 109 #[.val (.ref p0), .val (.int p1), .val (.int (fnTok wm)), .val (.int (wx ||| ((1 : Int32) <<< (p1 &&& 31)))), .val (.ref aL), .val (.int (8 : Int32)), .val (.int (3 : Int32)), .val (.int (448 : Int32))] [])) (fun t k => XS.icmpNo X10.here hx rfl (hb hby d7_106) rfl (tlt (by decide : (3 : Int32) < (8 : Int32))).2.1 k) ?_
          refine own_step (T' := T10) (g' := (mkF m 111 #[.val (.ref p0), .val (.int p1), .val (.int (fnTok wm)), .val (.int (wx ||| ((1 : Int32) <<< (p1 &&& 31)))), .val (.ref aL), .val (.int (8 : Int32)), .val (.int (3 : Int32)), .val (.int (448 : Int32))] [(.ref aL)])) (fun t k => XS.aload X10.here hx rfl (hb hby d7_109) rfl rfl k) ?_
          refine own_step (T' := T10) (g' := (mkF m 113 #[.val (.ref p0), .val (.int p1), .val (.int (fnTok wm)), .val (.int (wx ||| ((1 : Int32) <<< (p1 &&& 31)))), .val (.ref aL), .val (.int (8 : Int32)), .val (.int (3 : Int32)), .val (.int (448 : Int32))] [(.int (3 : Int32)), (.ref aL)])) (fun t k => XS.iload X10.here hx rfl (hb hby d7_111) rfl k) ?_
          obtain ⟨cl24, Ar24, q24, Sz24, Nn24, Hh24, Gg24⟩ := id V_aL_9
          have hin24 : ¬ ((3 : Int32) < 0 ∨ cl24.slots.size ≤ ((3 : Int32)).toNatClampNeg) := inb_of Sz24 ⟨by decide, by decide⟩
          refine own_step (T' := T10) (g' := (mkF m 114 #[.val (.ref p0), .val (.int p1), .val (.int (fnTok wm)), .val (.int (wx ||| ((1 : Int32) <<< (p1 &&& 31)))), .val (.ref aL), .val (.int (8 : Int32)), .val (.int (3 : Int32)), .val (.int (448 : Int32))] [(.int (73 : Int32))])) (fun t k => X10.iaload hx (j := (3 : Int32)) (v := (.int (73 : Int32))) (by rw [e10]; exact Ar24.1) (State.isArrayOf_alike hZ.alike Ar24.2.1) Ar24.2.2 hin24 (Has.at Hh24 hin24 rfl) (g := (mkF m 113 #[.val (.ref p0), .val (.int p1), .val (.int (fnTok wm)), .val (.int (wx ||| ((1 : Int32) <<< (p1 &&& 31)))), .val (.ref aL), .val (.int (8 : Int32)), .val (.int (3 : Int32)), .val (.int (448 : Int32))] [(.int (3 : Int32)), (.ref aL)])) rfl rfl (hb hby d7_113) t k) ?_
          refine own_step (T' := T10) (g' := (mkF m 116 #[.val (.ref p0), .val (.int p1), .val (.int (fnTok wm)), .val (.int (wx ||| ((1 : Int32) <<< (p1 &&& 31)))), .val (.ref aL), .val (.int (8 : Int32)), .val (.int (3 : Int32)), .val (.int (73 : Int32))] [])) (fun t k => XS.istore X10.here hx rfl (hb hby d7_114) rfl (l' := #[.val (.ref p0), .val (.int p1), .val (.int (fnTok wm)), .val (.int (wx ||| ((1 : Int32) <<< (p1 &&& 31)))), .val (.ref aL), .val (.int (8 : Int32)), .val (.int (3 : Int32)), .val (.int (73 : Int32))]) rfl k) ?_
          refine own_step (T' := T10) (g' := (mkF m 117 #[.val (.ref p0), .val (.int p1), .val (.int (fnTok wm)), .val (.int (wx ||| ((1 : Int32) <<< (p1 &&& 31)))), .val (.ref aL), .val (.int (8 : Int32)), .val (.int (3 : Int32)), .val (.int (73 : Int32))] [(.int (wx ||| ((1 : Int32) <<< (p1 &&& 31))))])) (fun t k => XS.iloadN X10.here hx rfl (hb hby d7_116) rfl k) ?_
          refine own_step (T' := T10) (g' := (mkF m 119 #[.val (.ref p0), .val (.int p1), .val (.int (fnTok wm)), .val (.int (wx ||| ((1 : Int32) <<< (p1 &&& 31)))), .val (.ref aL), .val (.int (8 : Int32)), .val (.int (3 : Int32)), .val (.int (73 : Int32))] [(.int (73 : Int32)), (.int (wx ||| ((1 : Int32) <<< (p1 &&& 31))))])) (fun t k => XS.iload X10.here hx rfl (hb hby d7_117) rfl k) ?_
          refine own_step (T' := T10) (g' := (mkF m 120 #[.val (.ref p0), .val (.int p1), .val (.int (fnTok wm)), .val (.int (wx ||| ((1 : Int32) <<< (p1 &&& 31)))), .val (.ref aL), .val (.int (8 : Int32)), .val (.int (3 : Int32)), .val (.int (73 : Int32))] [(.int ((wx ||| ((1 : Int32) <<< (p1 &&& 31))) &&& (73 : Int32)))])) (fun t k => XS.iand X10.here hx rfl (hb hby d7_119) rfl k) ?_
          refine own_step (T' := T10) (g' := (mkF m 122 #[.val (.ref p0), .val (.int p1), .val (.int (fnTok wm)), .val (.int (wx ||| ((1 : Int32) <<< (p1 &&& 31)))), .val (.ref aL), .val (.int (8 : Int32)), .val (.int (3 : Int32)), .val (.int (73 : Int32))] [(.int (73 : Int32)), (.int ((wx ||| ((1 : Int32) <<< (p1 &&& 31))) &&& (73 : Int32)))])) (fun t k => XS.iload X10.here hx rfl (hb hby d7_120) rfl k) ?_
          by_cases hc122_25 : ((wx ||| ((1 : Int32) <<< (p1 &&& 31))) &&& (73 : Int32)) = (73 : Int32)
          · refine own_step (T' := T10) (g' := (mkF m 125 #[.val (.ref p0), .val (.int p1), .val (.int (fnTok wm)), .val (.int (wx ||| ((1 : Int32) <<< (p1 &&& 31)))), .val (.ref aL), .val (.int (8 : Int32)), .val (.int (3 : Int32)), .val (.int (73 : Int32))] [])) (fun t k => XS.icmpNo X10.here hx rfl (hb hby d7_122) rfl (teq hc122_25).2 k) ?_
            refine own_step (T' := T10) (g' := (mkF m 126 #[.val (.ref p0), .val (.int p1), .val (.int (fnTok wm)), .val (.int (wx ||| ((1 : Int32) <<< (p1 &&& 31)))), .val (.ref aL), .val (.int (8 : Int32)), .val (.int (3 : Int32)), .val (.int (73 : Int32))] [(.ref p0)])) (fun t k => XS.aloadN X10.here hx rfl (hb hby d7_125) rfl rfl k) ?_
            refine own_step (T' := T10) (g' := (mkF m 127 #[.val (.ref p0), .val (.int p1), .val (.int (fnTok wm)), .val (.int (wx ||| ((1 : Int32) <<< (p1 &&& 31)))), .val (.ref aL), .val (.int (8 : Int32)), .val (.int (3 : Int32)), .val (.int (73 : Int32))] [(.int (fnTok wm)), (.ref p0)])) (fun t k => XS.iloadN X10.here hx rfl (hb hby d7_126) rfl k) ?_
            obtain ⟨T26, h26, X26, e26, W26, st26⟩ := putFN X10 hx hZ hown (hw _ (List.mem_of_getElem? (i := 12) rfl)) Via.refl e10 F_winner_p0_9 E_p0_9 (Or.inl (hw _ (List.mem_of_getElem? (i := 13) rfl))) (hw _ (List.mem_of_getElem? (i := 2) rfl)) (ty := .char) (v' := (.int (nar .char (fnTok wm)))) (by decide) rfl (fits_nar_char (fnTok wm)) (g := (mkF m 127 #[.val (.ref p0), .val (.int p1), .val (.int (fnTok wm)), .val (.int (wx ||| ((1 : Int32) <<< (p1 &&& 31)))), .val (.ref aL), .val (.int (8 : Int32)), .val (.int (3 : Int32)), .val (.int (73 : Int32))] [(.int (fnTok wm)), (.ref p0)])) rfl rfl (hb hby d7_127)
            have E_p0_26 : Exa Z h26 p0 "com/example/tilescript/tilescript/TicTacToe" := E_p0_9.wr W26
            have F_oCells_p0_26 : Fld Z h26 p0 "com/example/tilescript/tilescript/TicTacToe" "oCells" "I" (.int wo) := F_oCells_p0_9.other W26 (Or.inr (slot_ne (Or.inl (hw _ (List.mem_of_getElem? (i := 49) rfl))) (Or.inl (hw _ (List.mem_of_getElem? (i := 13) rfl))) (by decide) (t := .int) (t' := .char) (by decide) (by decide)))
            have S_LINES_26 : Sta Z h26 "com/example/tilescript/tilescript/TicTacToe" "LINES" "[I" (.ref aL) := S_LINES_9.wr W26
            have V_aL_26 : Arv Z h26 aL kL .int (8 : Int32) [(.int (7 : Int32)), (.int (56 : Int32)), (.int (448 : Int32)), (.int (73 : Int32)), (.int (146 : Int32)), (.int (292 : Int32)), (.int (273 : Int32)), (.int (84 : Int32))] (.int (0 : Int32)) := V_aL_9.other W26 neL
            have F_xCells_p0_26 : Fld Z h26 p0 "com/example/tilescript/tilescript/TicTacToe" "xCells" "I" (.int (wx ||| ((1 : Int32) <<< (p1 &&& 31)))) := F_xCells_p0_9.other W26 (Or.inr (slot_ne (Or.inl (hw _ (List.mem_of_getElem? (i := 47) rfl))) (Or.inl (hw _ (List.mem_of_getElem? (i := 13) rfl))) (by decide) (t := .int) (t' := .char) (by decide) (by decide)))
            have F_marks_p0_26 : Fld Z h26 p0 "com/example/tilescript/tilescript/TicTacToe" "marks" "I" (.int (wm + (1 : Int32))) := F_marks_p0_9.other W26 (Or.inr (slot_ne (Or.inl (hw _ (List.mem_of_getElem? (i := 45) rfl))) (Or.inl (hw _ (List.mem_of_getElem? (i := 13) rfl))) (by decide) (t := .int) (t' := .char) (by decide) (by decide)))
            have F_lastMove_p0_26 : Fld Z h26 p0 "com/example/tilescript/tilescript/TicTacToe" "lastMove" "I" (.int p1) := F_lastMove_p0_9.other W26 (Or.inr (slot_ne (Or.inl (hw _ (List.mem_of_getElem? (i := 11) rfl))) (Or.inl (hw _ (List.mem_of_getElem? (i := 13) rfl))) (by decide) (t := .int) (t' := .char) (by decide) (by decide)))
            have K_26 : Keep h0 h26 [p0] := K_9.wr W26 (Or.inl (List.mem_of_getElem? (i := 0) rfl))
            have N26 := Fr.snoc X26 N9 g_p0
            have F_winner_p0_26 : Fld Z h26 p0 "com/example/tilescript/tilescript/TicTacToe" "winner" "C" (.int (nar .char (fnTok wm))) := F_winner_p0_9.same W26
            refine own_step (T' := T26) (g' := (mkF m 130 #[.val (.ref p0), .val (.int p1), .val (.int (fnTok wm)), .val (.int (wx ||| ((1 : Int32) <<< (p1 &&& 31)))), .val (.ref aL), .val (.int (8 : Int32)), .val (.int (3 : Int32)), .val (.int (73 : Int32))] [])) st26 ?_
            refine own_retV X26 hx hlk Bd.returns (hb hby d7_130) (by decide) (by decide) ?_
            rw [e26]
            exact ⟨(wx ||| ((1 : Int32) <<< (p1 &&& 31))), wo, (nar .char (fnTok wm)), rfl, N26, K_26, F_xCells_p0_26, F_oCells_p0_26, F_marks_p0_26, F_winner_p0_26, F_lastMove_p0_26, Or.inl ⟨hc34_3, rfl, rfl, (by unfold own_wn; rw [if_neg hc122_13, if_neg hc122_17, if_neg hc122_21, if_pos hc122_25])⟩⟩
          · refine own_step (T' := T10) (g' := (mkF m 131 #[.val (.ref p0), .val (.int p1), .val (.int (fnTok wm)), .val (.int (wx ||| ((1 : Int32) <<< (p1 &&& 31)))), .val (.ref aL), .val (.int (8 : Int32)), .val (.int (3 : Int32)), .val (.int (73 : Int32))] [])) (fun t k => XS.icmpYes X10.here hx rfl (pc0 := 122) (pc' := 131) rfl (hb hby d7_122) rfl (feq hc122_25).2 (by decide) (by decide) k) ?_
            refine own_step (T' := T10) (g' := (mkF m 134 #[.val (.ref p0), .val (.int p1), .val (.int (fnTok wm)), .val (.int (wx ||| ((1 : Int32) <<< (p1 &&& 31)))), .val (.ref aL), .val (.int (8 : Int32)), .val (.int (4 : Int32)), .val (.int (73 : Int32))] [])) (fun t k => XS.iinc X10.here hx rfl (hb hby d7_131) rfl (l' := #[.val (.ref p0), .val (.int p1), .val (.int (fnTok wm)), .val (.int (wx ||| ((1 : Int32) <<< (p1 &&& 31)))), .val (.ref aL), .val (.int (8 : Int32)), .val (.int (4 : Int32)), .val (.int (73 : Int32))]) rfl k) ?_
            refine own_step (T' := T10) (g' := (mkF m 102 #[.val (.ref p0), .val (.int p1), .val (.int (fnTok wm)), .val (.int (wx ||| ((1 : Int32) <<< (p1 &&& 31)))), .val (.ref aL), .val (.int (8 : Int32)), .val (.int (4 : Int32)), .val (.int (73 : Int32))] [])) (fun t k => XS.goto X10.here hx rfl (pc0 := 134) (pc' := 102) rfl (hb hby d7_134) (by decide) (by decide) k) ?_
            refine own_step (T' := T10) (g' := (mkF m 104 #[.val (.ref p0), .val (.int p1), .val (.int (fnTok wm)), .val (.int (wx ||| ((1 : Int32) <<< (p1 &&& 31)))), .val (.ref aL), .val (.int (8 : Int32)), .val (.int (4 : Int32)), .val (.int (73 : Int32))] [(.int (4 : Int32))])) (fun t k => XS.iload X10.here hx rfl (hb hby d7_102) rfl k) ?_
            refine own_step (T' := T10) (g' := (mkF m 106 #[.val (.ref p0), .val (.int p1), .val (.int (fnTok wm)), .val (.int (wx ||| ((1 : Int32) <<< (p1 &&& 31)))), .val (.ref aL), .val (.int (8 : Int32)), .val (.int (4 : Int32)), .val (.int (73 : Int32))] [(.int (8 : Int32)), (.int (4 : Int32))])) (fun t k => XS.iload X10.here hx rfl (hb hby d7_104) rfl k) ?_
            refine own_step (T' := T10) (g' := (mkF m 109 #[.val (.ref p0), .val (.int p1), .val (.int (fnTok wm)), .val (.int (wx ||| ((1 : Int32) <<< (p1 &&& 31)))), .val (.ref aL), .val (.int (8 : Int32)), .val (.int (4 : Int32)), .val (.int (73 : Int32))] [])) (fun t k => XS.icmpNo X10.here hx rfl (hb hby d7_106) rfl (tlt (by decide : (4 : Int32) < (8 : Int32))).2.1 k) ?_
            refine own_step (T' := T10) (g' := (mkF m 111 #[.val (.ref p0), .val (.int p1), .val (.int (fnTok wm)), .val (.int (wx ||| ((1 : Int32) <<< (p1 &&& 31)))), .val (.ref aL), .val (.int (8 : Int32)), .val (.int (4 : Int32)), .val (.int (73 : Int32))] [(.ref aL)])) (fun t k => XS.aload X10.here hx rfl (hb hby d7_109) rfl rfl k) ?_
            refine own_step (T' := T10) (g' := (mkF m 113 #[.val (.ref p0), .val (.int p1), .val (.int (fnTok wm)), .val (.int (wx ||| ((1 : Int32) <<< (p1 &&& 31)))), .val (.ref aL), .val (.int (8 : Int32)), .val (.int (4 : Int32)), .val (.int (73 : Int32))] [(.int (4 : Int32)), (.ref aL)])) (fun t k => XS.iload X10.here hx rfl (hb hby d7_111) rfl k) ?_
            obtain ⟨cl28, Ar28, q28, Sz28, Nn28, Hh28, Gg28⟩ := id V_aL_9
            have hin28 : ¬ ((4 : Int32) < 0 ∨ cl28.slots.size ≤ ((4 : Int32)).toNatClampNeg) := inb_of Sz28 ⟨by decide, by decide⟩
            refine own_step (T' := T10) (g' := (mkF m 114 #[.val (.ref p0), .val (.int p1), .val (.int (fnTok wm)), .val (.int (wx ||| ((1 : Int32) <<< (p1 &&& 31)))), .val (.ref aL), .val (.int (8 : Int32)), .val (.int (4 : Int32)), .val (.int (73 : Int32))] [(.int (146 : Int32))])) (fun t k => X10.iaload hx (j := (4 : Int32)) (v := (.int (146 : Int32))) (by rw [e10]; exact Ar28.1) (State.isArrayOf_alike hZ.alike Ar28.2.1) Ar28.2.2 hin28 (Has.at Hh28 hin28 rfl) (g := (mkF m 113 #[.val (.ref p0), .val (.int p1), .val (.int (fnTok wm)), .val (.int (wx ||| ((1 : Int32) <<< (p1 &&& 31)))), .val (.ref aL), .val (.int (8 : Int32)), .val (.int (4 : Int32)), .val (.int (73 : Int32))] [(.int (4 : Int32)), (.ref aL)])) rfl rfl (hb hby d7_113) t k) ?_
            refine own_step (T' := T10) (g' := (mkF m 116 #[.val (.ref p0), .val (.int p1), .val (.int (fnTok wm)), .val (.int (wx ||| ((1 : Int32) <<< (p1 &&& 31)))), .val (.ref aL), .val (.int (8 : Int32)), .val (.int (4 : Int32)), .val (.int (146 : Int32))] [])) (fun t k => XS.istore X10.here hx rfl (hb hby d7_114) rfl (l' := #[.val (.ref p0), .val (.int p1), .val (.int (fnTok wm)), .val (.int (wx ||| ((1 : Int32) <<< (p1 &&& 31)))), .val (.ref aL), .val (.int (8 : Int32)), .val (.int (4 : Int32)), .val (.int (146 : Int32))]) rfl k) ?_
            refine own_step (T' := T10) (g' := (mkF m 117 #[.val (.ref p0), .val (.int p1), .val (.int (fnTok wm)), .val (.int (wx ||| ((1 : Int32) <<< (p1 &&& 31)))), .val (.ref aL), .val (.int (8 : Int32)), .val (.int (4 : Int32)), .val (.int (146 : Int32))] [(.int (wx ||| ((1 : Int32) <<< (p1 &&& 31))))])) (fun t k => XS.iloadN X10.here hx rfl (hb hby d7_116) rfl k) ?_
            refine own_step (T' := T10) (g' := (mkF m 119 #[.val (.ref p0), .val (.int p1), .val (.int (fnTok wm)), .val (.int (wx ||| ((1 : Int32) <<< (p1 &&& 31)))), .val (.ref aL), .val (.int (8 : Int32)), .val (.int (4 : Int32)), .val (.int (146 : Int32))] [(.int (146 : Int32)), (.int (wx ||| ((1 : Int32) <<< (p1 &&& 31))))])) (fun t k => XS.iload X10.here hx rfl (hb hby d7_117) rfl k) ?_
            refine own_step (T' := T10) (g' := (mkF m 120 #[.val (.ref p0), .val (.int p1), .val (.int (fnTok wm)), .val (.int (wx ||| ((1 : Int32) <<< (p1 &&& 31)))), .val (.ref aL), .val (.int (8 : Int32)), .val (.int (4 : Int32)), .val (.int (146 : Int32))] [(.int ((wx ||| ((1 : Int32) <<< (p1 &&& 31))) &&& (146 : Int32)))])) (fun t k => XS.iand X10.here hx rfl (hb hby d7_119) rfl k) ?_
            refine own_step (T' := T10) (g' := (mkF m 122 #[.val (.ref p0), .val (.int p1), .val (.int (fnTok wm)), .val (.int (wx ||| ((1 : Int32) <<< (p1 &&& 31)))), .val (.ref aL), .val (.int (8 : Int32)), .val (.int (4 : Int32)), .val (.int (146 : Int32))] [(.int (146 : Int32)), (.int ((wx ||| ((1 : Int32) <<< (p1 &&& 31))) &&& (146 : Int32)))])) (fun t k => XS.iload X10.here hx rfl (hb hby d7_120) rfl k) ?_
            by_cases hc122_29 : ((wx ||| ((1 : Int32) <<< (p1 &&& 31))) &&& (146 : Int32)) = (146 : Int32)
            · refine own_step (T' := T10) (g' := (mkF m 125 #[.val (.ref p0), .val (.int p1), .val (.int (fnTok wm)), .val (.int (wx ||| ((1 : Int32) <<< (p1 &&& 31)))), .val (.ref aL), .val (.int (8 : Int32)), .val (.int (4 : Int32)), .val (.int (146 : Int32))] [])) (fun t k => XS.icmpNo X10.here hx rfl (hb hby d7_122) rfl (teq hc122_29).2 k) ?_
              refine own_step (T' := T10) (g' := (mkF m 126 #[.val (.ref p0), .val (.int p1), .val (.int (fnTok wm)), .val (.int (wx ||| ((1 : Int32) <<< (p1 &&& 31)))), .val (.ref aL), .val (.int (8 : Int32)), .val (.int (4 : Int32)), .val (.int (146 : Int32))] [(.ref p0)])) (fun t k => XS.aloadN X10.here hx rfl (hb hby d7_125) rfl rfl k) ?_
              refine own_step (T' := T10) (g' := (mkF m 127 #[.val (.ref p0), .val (.int p1), .val (.int (fnTok wm)), .val (.int (wx ||| ((1 : Int32) <<< (p1 &&& 31)))), .val (.ref aL), .val (.int (8 : Int32)), .val (.int (4 : Int32)), .val (.int (146 : Int32))] [(.int (fnTok wm)), (.ref p0)])) (fun t k => XS.iloadN X10.here hx rfl (hb hby d7_126) rfl k) ?_
              obtain ⟨T30, h30, X30, e30, W30, st30⟩ := putFN X10 hx hZ hown (hw _ (List.mem_of_getElem? (i := 12) rfl)) Via.refl e10 F_winner_p0_9 E_p0_9 (Or.inl (hw _ (List.mem_of_getElem? (i := 13) rfl))) (hw _ (List.mem_of_getElem? (i := 2) rfl)) (ty := .char) (v' := (.int (nar .char (fnTok wm)))) (by decide) rfl (fits_nar_char (fnTok wm)) (g := (mkF m 127 #[.val (.ref p0), .val (.int p1), .val (.int (fnTok wm)), .val (.int (wx ||| ((1 : Int32) <<< (p1 &&& 31)))), .val (.ref aL), .val (.int (8 : Int32)), .val (.int (4 : Int32)), .val (.int (146 : Int32))] [(.int (fnTok wm)), (.ref p0)])) rfl rfl (hb hby d7_127)
              have E_p0_30 : Exa Z h30 p0 "com/example/tilescript/tilescript/TicTacToe" := E_p0_9.wr W30
              have F_oCells_p0_30 : Fld Z h30 p0 "com/example/tilescript/tilescript/TicTacToe" "oCells" "I" (.int wo) := F_oCells_p0_9.other W30 (Or.inr (slot_ne (Or.inl (hw _ (List.mem_of_getElem? (i := 49) rfl))) (Or.inl (hw _ (List.mem_of_getElem? (i := 13) rfl))) (by decide) (t := .int) (t' := .char) (by decide) (by decide)))
              have S_LINES_30 : Sta Z h30 "com/example/tilescript/tilescript/TicTacToe" "LINES" "[I" (.ref aL) := S_LINES_9.wr W30
              have V_aL_30 : Arv Z h30 aL kL .int (8 : Int32) [(.int (7 : Int32)), (.int (56 : Int32)), (.int (448 : Int32)), (.int (73 : Int32)), (.int (146 : Int32)), (.int (292 : Int32)), (.int (273 : Int32)), (.int (84 : Int32))] (.int (0 : Int32)) := V_aL_9.other W30 neL
              have F_xCells_p0_30 : Fld Z h30 p0 "com/example/tilescript/tilescript/TicTacToe" "xCells" "I" (.int (wx ||| ((1 : Int32) <<< (p1 &&& 31)))) := F_xCells_p0_9.other W30 (Or.inr (slot_ne (Or.inl (hw _ (List.mem_of_getElem? (i := 47) rfl))) (Or.inl (hw _ (List.mem_of_getElem? (i := 13) rfl))) (by decide) (t := .int) (t' := .char) (by decide) (by decide)))
              have F_marks_p0_30 : Fld Z h30 p0 "com/example/tilescript/tilescript/TicTacToe" "marks" "I" (.int (wm + (1 : Int32))) := F_marks_p0_9.other W30 (Or.inr (slot_ne (Or.inl (hw _ (List.mem_of_getElem? (i := 45) rfl))) (Or.inl (hw _ (List.mem_of_getElem? (i := 13) rfl))) (by decide) (t := .int) (t' := .char) (by decide) (by decide)))
              have F_lastMove_p0_30 : Fld Z h30 p0 "com/example/tilescript/tilescript/TicTacToe" "lastMove" "I" (.int p1) := F_lastMove_p0_9.other W30 (Or.inr (slot_ne (Or.inl (hw _ (List.mem_of_getElem? (i := 11) rfl))) (Or.inl (hw _ (List.mem_of_getElem? (i := 13) rfl))) (by decide) (t := .int) (t' := .char) (by decide) (by decide)))
              have K_30 : Keep h0 h30 [p0] := K_9.wr W30 (Or.inl (List.mem_of_getElem? (i := 0) rfl))
              have N30 := Fr.snoc X30 N9 g_p0
              have F_winner_p0_30 : Fld Z h30 p0 "com/example/tilescript/tilescript/TicTacToe" "winner" "C" (.int (nar .char (fnTok wm))) := F_winner_p0_9.same W30
              refine own_step (T' := T30) (g' := (mkF m 130 #[.val (.ref p0), .val (.int p1), .val (.int (fnTok wm)), .val (.int (wx ||| ((1 : Int32) <<< (p1 &&& 31)))), .val (.ref aL), .val (.int (8 : Int32)), .val (.int (4 : Int32)), .val (.int (146 : Int32))] [])) st30 ?_
              refine own_retV X30 hx hlk Bd.returns (hb hby d7_130) (by decide) (by decide) ?_
              rw [e30]
              exact ⟨(wx ||| ((1 : Int32) <<< (p1 &&& 31))), wo, (nar .char (fnTok wm)), rfl, N30, K_30, F_xCells_p0_30, F_oCells_p0_30, F_marks_p0_30, F_winner_p0_30, F_lastMove_p0_30, Or.inl ⟨hc34_3, rfl, rfl, (by unfold own_wn; rw [if_neg hc122_13, if_neg hc122_17, if_neg hc122_21, if_neg hc122_25, if_pos hc122_29])⟩⟩
            · refine own_step (T' := T10) (g' := (mkF m 131 #[.val (.ref p0), .val (.int p1), .val (.int (fnTok wm)), .val (.int (wx ||| ((1 : Int32) <<< (p1 &&& 31)))), .val (.ref aL), .val (.int (8 : Int32)), .val (.int (4 : Int32)), .val (.int (146 : Int32))] [])) (fun t k => XS.icmpYes X10.here hx rfl (pc0 := 122) (pc' := 131) rfl (hb hby d7_122) rfl (feq hc122_29).2 (by decide) (by decide) k) ?_
              refine own_step (T' := T10) (g' := (mkF m 134 #[.val (.ref p0), .val (.int p1), .val (.int (fnTok wm)), .val (.int (wx ||| ((1 : Int32) <<< (p1 &&& 31)))), .val (.ref aL), .val (.int (8 : Int32)), .val (.int (5 : Int32)), .val (.int (146 : Int32))] [])) (fun t k => XS.iinc X10.here hx rfl (hb hby d7_131) rfl (l' := #[.val (.ref p0), .val (.int p1), .val (.int (fnTok wm)), .val (.int (wx ||| ((1 : Int32) <<< (p1 &&& 31)))), .val (.ref aL), .val (.int (8 : Int32)), .val (.int (5 : Int32)), .val (.int (146 : Int32))]) rfl k) ?_
              refine own_step (T' := T10) (g' := (mkF m 102 #[.val (.ref p0), .val (.int p1), .val (.int (fnTok wm)), .val (.int (wx ||| ((1 : Int32) <<< (p1 &&& 31)))), .val (.ref aL), .val (.int (8 : Int32)), .val (.int (5 : Int32)), .val (.int (146 : Int32))] [])) (fun t k => XS.goto X10.here hx rfl (pc0 := 134) (pc' := 102) rfl (hb hby d7_134) (by decide) (by decide) k) ?_
              refine own_step (T' := T10) (g' := (mkF m 104 #[.val (.ref p0), .val (.int p1), .val (.int (fnTok wm)), .val (.int (wx ||| ((1 : Int32) <<< (p1 &&& 31)))), .val (.ref aL), .val (.int (8 : Int32)), .val (.int (5 : Int32)), .val (.int (146 : Int32))] [(.int (5 : Int32))])) (fun t k => XS.iload X10.here hx rfl (hb hby d7_102) rfl k) ?_
              refine own_step (T' := T10) (g' := (mkF m 106 #[.val (.ref p0), .val (.int p1), .val (.int (fnTok wm)), .val (.int (wx ||| ((1 : Int32) <<< (p1 &&& 31)))), .val (.ref aL), .val (.int (8 : Int32)), .val (.int (5 : Int32)), .val (.int (146 : Int32))] [(.int (8 : Int32)), (.int (5 : Int32))])) (fun t k => XS.iload X10.here hx rfl (hb hby d7_104) rfl k) ?_
              refine own_step (T' := T10) (g' := (mkF m 109 #[.val (.ref p0), .val (.int p1), .val (.int (fnTok wm)), .val (.int (wx ||| ((1 : Int32) <<< (p1 &&& 31)))), .val (.ref aL), .val (.int (8 : Int32)), .val (.int (5 : Int32)), .val (.int (146 : Int32))] [])) (fun t k => XS.icmpNo X10.here hx rfl (hb hby d7_106) rfl (tlt (by decide : (5 : Int32) < (8 : Int32))).2.1 k) ?_
              refine own_step (T' := T10) (g' := (mkF m 111 #[.val (.ref p0), .val (.int p1), .val (.int (fnTok wm)), .val (.int (wx ||| ((1 : Int32) <<< (p1 &&& 31)))), .val (.ref aL), .val (.int (8 : Int32)), .val (.int (5 : Int32)), .val (.int (146 : Int32))] [(.ref aL)])) (fun t k => XS.aload X10.here hx rfl (hb hby d7_109) rfl rfl k) ?_
              refine own_step (T' := T10) (g' := (mkF m 113 #[.val (.ref p0), .val (.int p1), .val (.int (fnTok wm)), .val (.int (wx ||| ((1 : Int32) <<< (p1 &&& 31)))), .val (.ref aL), .val (.int (8 : Int32)), .val (.int (5 : Int32)), .val (.int (146 : Int32))] [(.int (5 : Int32)), (.ref aL)])) (fun t k => XS.iload X10.here hx rfl (hb hby d7_111) rfl k) ?_
              obtain ⟨cl32, Ar32, q32, Sz32, Nn32, Hh32, Gg32⟩ := id V_aL_9
              have hin32 : ¬ ((5 : Int32) < 0 ∨ cl32.slots.size ≤ ((5 : Int32)).toNatClampNeg) := inb_of Sz32 ⟨by decide, by decide⟩
              refine own_step (T' := T10) (g' := (mkF m 114 #[.val (.ref p0), .val (.int p1), .val (.int (fnTok wm)), .val (.int (wx ||| ((1 : Int32) <<< (p1 &&& 31)))), .val (.ref aL), .val (.int (8 : Int32)), .val (.int (5 : Int32)), .val (.int (146 : Int32))] [(.int (292 : Int32))])) (fun t k => X10.iaload hx (j := (5 : Int32)) (v := (.int (292 : Int32))) (by rw [e10]; exact Ar32.1) (State.isArrayOf_alike hZ.alike Ar32.2.1) Ar32.2.2 hin32 (Has.at Hh32 hin32 rfl) (g := (mkF m 113 #[.val (.ref p0), .val (.int p1), .val (.int (fnTok wm)), .val (.int (wx ||| ((1 : Int32) <<< (p1 &&& 31)))), .val (.ref aL), .val (.int (8 : Int32)), .val (.int (5 : Int32)), .val (.int (146 : Int32))] [(.int (5 : Int32)), (.ref aL)])) rfl rfl (hb hby d7_113) t k) ?_
              refine own_step (T' := T10) (g' := (mkF m 116 #[.val (.ref p0), .val (.int p1), .val (.int (fnTok wm)), .val (.int (wx ||| ((1 : Int32) <<< (p1 &&& 31)))), .val (.ref aL), .val (.int (8 : Int32)), .val (.int (5 : Int32)), .val (.int (292 : Int32))] [])) (fun t k => XS.istore X10.here hx rfl (hb hby d7_114) rfl (l' := #[.val (.ref p0), .val (.int p1), .val (.int (fnTok wm)), .val (.int (wx ||| ((1 : Int32) <<< (p1 &&& 31)))), .val (.ref aL), .val (.int (8 : Int32)), .val (.int (5 : Int32)), .val (.int (292 : Int32))]) rfl k) ?_
              refine own_step (T' := T10) (g' := (mkF m 117 #[.val (.ref p0), .val (.int p1), .val (.int (fnTok wm)), .val (.int (wx ||| ((1 : Int32) <<< (p1 &&& 31)))), .val (.ref aL), .val (.int (8 : Int32)), .val (.int (5 : Int32)), .val (.int (292 : Int32))] [(.int (wx ||| ((1 : Int32) <<< (p1 &&& 31))))])) (fun t k => XS.iloadN X10.here hx rfl (hb hby d7_116) rfl k) ?_
              refine own_step (T' := T10) (g' := (mkF m 119 #[.val (.ref p0), .val (.int p1), .val (.int (fnTok wm)), .val (.int (wx ||| ((1 : Int32) <<< (p1 &&& 31)))), .val (.ref aL), .val (.int (8 : Int32)), .val (.int (5 : Int32)), .val (.int (292 : Int32))] [(.int (292 : Int32)), (.int (wx ||| ((1 : Int32) <<< (p1 &&& 31))))])) (fun t k => XS.iload X10.here hx rfl (hb hby d7_117) rfl k) ?_
              refine own_step (T' := T10) (g' := (mkF m 120 #[.val (.ref p0), .val (.int p1), .val (.int (fnTok wm)), .val (.int (wx ||| ((1 : Int32) <<< (p1 &&& 31)))), .val (.ref aL), .val (.int (8 : Int32)), .val (.int (5 : Int32)), .val (.int (292 : Int32))] [(.int ((wx ||| ((1 : Int32) <<< (p1 &&& 31))) &&& (292 : Int32)))])) (fun t k => XS.iand X10.here hx rfl (hb hby d7_119) rfl k) ?_
              refine own_step (T' := T10) (g' := (mkF m 122 #[.val (.ref p0), .val (.int p1), .val (.int (fnTok wm)), .val (.int (wx ||| ((1 : Int32) <<< (p1 &&& 31)))), .val (.ref aL), .val (.int (8 : Int32)), .val (.int (5 : Int32)), .val (.int (292 : Int32))] [(.int (292 : Int32)), (.int ((wx ||| ((1 : Int32) <<< (p1 &&& 31))) &&& (292 : Int32)))])) (fun t k => XS.iload X10.here hx rfl (hb hby d7_120) rfl k) ?_
              by_cases hc122_33 : ((wx ||| ((1 : Int32) <<< (p1 &&& 31))) &&& (292 : Int32)) = (292 : Int32)
              · refine own_step (T' := T10) (g' := (mkF m 125 #[.val (.ref p0), .val (.int p1), .val (.int (fnTok wm)), .val (.int (wx ||| ((1 : Int32) <<< (p1 &&& 31)))), .val (.ref aL), .val (.int (8 : Int32)), .val (.int (5 : Int32)), .val (.int (292 : Int32))] [])) (fun t k => XS.icmpNo X10.here hx rfl (hb hby d7_122) rfl (teq hc122_33).2 k) ?_
                refine own_step (T' := T10) (g' := (mkF m 126 #[.val (.ref p0), .val (.int p1), .val (.int (fnTok wm)), .val (.int (wx ||| ((1 : Int32) <<< (p1 &&& 31)))), .val (.ref aL), .val (.int (8 : Int32)), .val (.int (5 : Int32)), .val (.int (292 : Int32))] [(.ref p0)])) (fun t k => XS.aloadN X10.here hx rfl (hb hby d7_125) rfl rfl k) ?_
                refine own_step (T' := T10) (g' := (mkF m 127 #[.val (.ref p0), .val (.int p1), .val (.int (fnTok wm)), .val (.int (wx ||| ((1 : Int32) <<< (p1 &&& 31)))), .val (.ref aL), .val (.int (8 : Int32)), .val (.int (5 : Int32)), .val (.int (292 : Int32))] [(.int (fnTok wm)), (.ref p0)])) (fun t k => XS.iloadN X10.here hx rfl (hb hby d7_126) rfl k) ?_
                obtain ⟨T34, h34, X34, e34, W34, st34⟩ := putFN X10 hx hZ hown (hw _ (List.mem_of_getElem? (i := 12) rfl)) Via.refl e10 F_winner_p0_9 E_p0_9 (Or.inl (hw _ (List.mem_of_getElem? (i := 13) rfl))) (hw _ (List.mem_of_getElem? (i := 2) rfl)) (ty := .char) (v' := (.int (nar .char (fnTok wm)))) (by decide) rfl (fits_nar_char (fnTok wm)) (g := (mkF m 127 #[.val (.ref p0), .val (.int p1), .val (.int (fnTok wm)), .val (.int (wx ||| ((1 : Int32) <<< (p1 &&& 31)))), .val (.ref aL), .val (.int (8 : Int32)), .val (.int (5 : Int32)), .val (.int (292 : Int32))] [(.int (fnTok wm)), (.ref p0)])) rfl rfl (hb hby d7_127)
                have E_p0_34 : Exa Z h34 p0 "com/example/tilescript/tilescript/TicTacToe" := E_p0_9.wr W34
                have F_oCells_p0_34 : Fld Z h34 p0 "com/example/tilescript/tilescript/TicTacToe" "oCells" "I" (.int wo) := F_oCells_p0_9.other W34 (Or.inr (slot_ne (Or.inl (hw _ (List.mem_of_getElem? (i := 49) rfl))) (Or.inl (hw _ (List.mem_of_getElem? (i := 13) rfl))) (by decide) (t := .int) (t' := .char) (by decide) (by decide)))
                have S_LINES_34 : Sta Z h34 "com/example/tilescript/tilescript/TicTacToe" "LINES" "[I" (.ref aL) := S_LINES_9.wr W34
                have V_aL_34 : Arv Z h34 aL kL .int (8 : Int32) [(.int (7 : Int32)), (.int (56 : Int32)), (.int (448 : Int32)), (.int (73 : Int32)), (.int (146 : Int32)), (.int (292 : Int32)), (.int (273 : Int32)), (.int (84 : Int32))] (.int (0 : Int32)) := V_aL_9.other W34 neL
                have F_xCells_p0_34 : Fld Z h34 p0 "com/example/tilescript/tilescript/TicTacToe" "xCells" "I" (.int (wx ||| ((1 : Int32) <<< (p1 &&& 31)))) := F_xCells_p0_9.other W34 (Or.inr (slot_ne (Or.inl (hw _ (List.mem_of_getElem? (i := 47) rfl))) (Or.inl (hw _ (List.mem_of_getElem? (i := 13) rfl))) (by decide) (t := .int) (t' := .char) (by decide) (by decide)))
                have F_marks_p0_34 : Fld Z h34 p0 "com/example/tilescript/tilescript/TicTacToe" "marks" "I" (.int (wm + (1 : Int32))) := F_marks_p0_9.other W34 (Or.inr (slot_ne (Or.inl (hw _ (List.mem_of_getElem? (i := 45) rfl))) (Or.inl (hw _ (List.mem_of_getElem? (i := 13) rfl))) (by decide) (t := .int) (t' := .char) (by decide) (by decide)))
                have F_lastMove_p0_34 : Fld Z h34 p0 "com/example/tilescript/tilescript/TicTacToe" "lastMove" "I" (.int p1) := F_lastMove_p0_9.other W34 (Or.inr (slot_ne (Or.inl (hw _ (List.mem_of_getElem? (i := 11) rfl))) (Or.inl (hw _ (List.mem_of_getElem? (i := 13) rfl))) (by decide) (t := .int) (t' := .char) (by decide) (by decide)))
                have K_34 : Keep h0 h34 [p0] := K_9.wr W34 (Or.inl (List.mem_of_getElem? (i := 0) rfl))
                have N34 := Fr.snoc X34 N9 g_p0
                have F_winner_p0_34 : Fld Z h34 p0 "com/example/tilescript/tilescript/TicTacToe" "winner" "C" (.int (nar .char (fnTok wm))) := F_winner_p0_9.same W34
                refine own_step (T' := T34) (g' := (mkF m 130 #[.val (.ref p0), .val (.int p1), .val (.int (fnTok wm)), .val (.int (wx ||| ((1 : Int32) <<< (p1 &&& 31)))), .val (.ref aL), .val (.int (8 : Int32)), .val (.int (5 : Int32)), .val (.int (292 : Int32))] [])) st34 ?_
                refine own_retV X34 hx hlk Bd.returns (hb hby d7_130) (by decide) (by decide) ?_
                rw [e34]
                exact ⟨(wx ||| ((1 : Int32) <<< (p1 &&& 31))), wo, (nar .char (fnTok wm)), rfl, N34, K_34, F_xCells_p0_34, F_oCells_p0_34, F_marks_p0_34, F_winner_p0_34, F_lastMove_p0_34, Or.inl ⟨hc34_3, rfl, rfl, (by unfold own_wn; rw [if_neg hc122_13, if_neg hc122_17, if_neg hc122_21, if_neg hc122_25, if_neg hc122_29, if_pos hc122_33])⟩⟩
              · refine own_step (T' := T10) (g' := (mkF m 131 #[.val (.ref p0), .val (.int p1), .val (.int (fnTok wm)), .val (.int (wx ||| ((1 : Int32) <<< (p1 &&& 31)))), .val (.ref aL), .val (.int (8 : Int32)), .val (.int (5 : Int32)), .val (.int (292 : Int32))] [])) (fun t k => XS.icmpYes X10.here hx rfl (pc0 := 122) (pc' := 131) rfl (hb hby d7_122) rfl (feq hc122_33).2 (by decide) (by decide) k) ?_
                refine own_step (T' := T10) (g' := (mkF m 134 #[.val (.ref p0), .val (.int p1), .val (.int (fnTok wm)), .val (.int (wx ||| ((1 : Int32) <<< (p1 &&& 31)))), .val (.ref aL), .val (.int (8 : Int32)), .val (.int (6 : Int32)), .val (.int (292 : Int32))] [])) (fun t k => XS.iinc X10.here hx rfl (hb hby d7_131) rfl (l' := #[.val (.ref p0), .val (.int p1), .val (.int (fnTok wm)), .val (.int (wx ||| ((1 : Int32) <<< (p1 &&& 31)))), .val (.ref aL), .val (.int (8 : Int32)), .val (.int (6 : Int32)), .val (.int (292 : Int32))]) rfl k) ?_
                refine own_step (T' := T10) (g' := (mkF m 102 #[.val (.ref p0), .val (.int p1), .val (.int (fnTok wm)), .val (.int (wx ||| ((1 : Int32) <<< (p1 &&& 31)))), .val (.ref aL), .val (.int (8 : Int32)), .val (.int (6 : Int32)), .val (.int (292 : Int32))] [])) (fun t k => XS.goto X10.here hx rfl (pc0 := 134) (pc' := 102) rfl (hb hby d7_134) (by decide) (by decide) k) ?_
                refine own_step (T' := T10) (g' := (mkF m 104 #[.val (.ref p0), .val (.int p1), .val (.int (fnTok wm)), .val (.int (wx ||| ((1 : Int32) <<< (p1 &&& 31)))), .val (.ref aL), .val (.int (8 : Int32)), .val (.int (6 : Int32)), .val (.int (292 : Int32))] [(.int (6 : Int32))])) (fun t k => XS.iload X10.here hx rfl (hb hby d7_102) rfl k) ?_
                refine own_step (T' := T10) (g' := (mkF m 106 #[.val (.ref p0), .val (.int p1), .val (.int (fnTok wm)), .val (.int (wx ||| ((1 : Int32) <<< (p1 &&& 31)))), .val (.ref aL), .val (.int (8 : Int32)), .val (.int (6 : Int32)), .val (.int (292 : Int32))] [(.int (8 : Int32)), (.int (6 : Int32))])) (fun t k => XS.iload X10.here hx rfl (hb hby d7_104) rfl k) ?_
                refine own_step (T' := T10) (g' := (mkF m 109 #[.val (.ref p0), .val (.int p1), .val (.int (fnTok wm)), .val (.int (wx ||| ((1 : Int32) <<< (p1 &&& 31)))), .val (.ref aL), .val (.int (8 : Int32)), .val (.int (6 : Int32)), .val (.int (292 : Int32))] [])) (fun t k => XS.icmpNo X10.here hx rfl (hb hby d7_106) rfl (tlt (by decide : (6 : Int32) < (8 : Int32))).2.1 k) ?_
                refine own_step (T' := T10) (g' := (mkF m 111 #[.val (.ref p0), .val (.int p1), .val (.int (fnTok wm)), .val (.int (wx ||| ((1 : Int32) <<< (p1 &&& 31)))), .val (.ref aL), .val (.int (8 : Int32)), .val (.int (6 : Int32)), .val (.int (292 : Int32))] [(.ref aL)])) (fun t k => XS.aload X10.here hx rfl (hb hby d7_109) rfl rfl k) ?_
                refine own_step (T' := T10) (g' := (mkF m 113 #[.val (.ref p0), .val (.int p1), .val (.int (fnTok wm)), .val (.int (wx ||| ((1 : Int32) <<< (p1 &&& 31)))), .val (.ref aL), .val (.int (8 : Int32)), .val (.int (6 : Int32)), .val (.int (292 : Int32))] [(.int (6 : Int32)), (.ref aL)])) (fun t k => XS.iload X10.here hx rfl (hb hby d7_111) rfl k) ?_
                obtain ⟨cl36, Ar36, q36, Sz36, Nn36, Hh36, Gg36⟩ := id V_aL_9
                have hin36 : ¬ ((6 : Int32) < 0 ∨ cl36.slots.size ≤ ((6 : Int32)).toNatClampNeg) := inb_of Sz36 ⟨by decide, by decide⟩
                refine own_step (T' := T10) (g' := (mkF m 114 #[.val (.ref p0), .val (.int p1), .val (.int (fnTok wm)), .val (.int (wx ||| ((1 : Int32) <<< (p1 &&& 31)))), .val (.ref aL), .val (.int (8 : Int32)), .val (.int (6 : Int32)), .val (.int (292 : Int32))] [(.int (273 : Int32))])) (fun t k => X10.iaload hx (j := (6 : Int32)) (v := (.int (273 : Int32))) (by rw [e10]; exact Ar36.1) (State.isArrayOf_alike hZ.alike Ar36.2.1) Ar36.2.2 hin36 (Has.at Hh36 hin36 rfl) (g := (mkF m 113 #[.val (.ref p0), .val (.int p1), .val (.int (fnTok wm)), .val (.int (wx ||| ((1 : Int32) <<< (p1 &&& 31)))), .val (.ref aL), .val (.int (8 : Int32)), .val (.int (6 : Int32)), .val (.int (292 : Int32))] [(.int (6 : Int32)), (.ref aL)])) rfl rfl (hb hby d7_113) t k) ?_
                refine own_step (T' := T10) (g' := (mkF m 116 #[.val (.ref p0), .val (.int p1), .val (.int (fnTok wm)), .val (.int (wx ||| ((1 : Int32) <<< (p1 &&& 31)))), .val (.ref aL), .val (.int (8 : Int32)), .val (.int (6 : Int32)), .val (.int (273 : Int32))] [])) (fun t k => XS.istore X10.here hx rfl (hb hby d7_114) rfl (l' := #[.val (.ref p0), .val (.int p1), .val (.int (fnTok wm)), .val (.int (wx ||| ((1 : Int32) <<< (p1 &&& 31)))), .val (.ref aL), .val (.int (8 : Int32)), .val (.int (6 : Int32)), .val (.int (273 : Int32))]) rfl k) ?_
                refine own_step (T' := T10) (g' := (mkF m 117 #[.val (.ref p0), .val (.int p1), .val (.int (fnTok wm)), .val (.int (wx ||| ((1 : Int32) <<< (p1 &&& 31)))), .val (.ref aL), .val (.int (8 : Int32)), .val (.int (6 : Int32)), .val (.int (273 : Int32))] [(.int (wx ||| ((1 : Int32) <<< (p1 &&& 31))))])) (fun t k => XS.iloadN X10.here hx rfl (hb hby d7_116) rfl k) ?_
                refine own_step (T' := T10) (g' := (mkF m 119 #[.val (.ref p0), .val (.int p1), .val (.int (fnTok wm)), .val (.int (wx ||| ((1 : Int32) <<< (p1 &&& 31)))), .val (.ref aL), .val (.int (8 : Int32)), .val (.int (6 : Int32)), .val (.int (273 : Int32))] [(.int (273 : Int32)), (.int (wx ||| ((1 : Int32) <<< (p1 &&& 31))))])) (fun t k => XS.iload X10.here hx rfl (hb hby d7_117) rfl k) ?_
                refine own_step (T' := T10) (g' := (mkF m 120 #[.val (.ref p0), .val (.int p1), .val (.int (fnTok wm)), .val (.int (wx ||| ((1 : Int32) <<< (p1 &&& 31)))), .val (.ref aL), .val (.int (8 : Int32)), .val (.int (6 : Int32)), .val (.int (273 : Int32))] [(.int ((wx ||| ((1 : Int32) <<< (p1 &&& 31))) &&& (273 : Int32)))])) (fun t k => XS.iand X10.here hx rfl (hb hby d7_119) rfl k) ?_
                refine own_step (T' := T10) (g' := (mkF m 122 #[.val (.ref p0), .val (.int p1), .val (.int (fnTok wm)), .val (.int (wx ||| ((1 : Int32) <<< (p1 &&& 31)))), .val (.ref aL), .val (.int (8 : Int32)), .val (.int (6 : Int32)), .val (.int (273 : Int32))] [(.int (273 : Int32)), (.int ((wx ||| ((1 : Int32) <<< (p1 &&& 31))) &&& (273 : Int32)))])) (fun t k => XS.iload X10.here hx rfl (hb hby d7_120) rfl k) ?_
                by_cases hc122_37 : ((wx ||| ((1 : Int32) <<< (p1 &&& 31))) &&& (273 : Int32)) = (273 : Int32)
                · refine own_step (T' := T10) (g' := (mkF m 125 #[.val (.ref p0), .val (.int p1), .val (.int (fnTok wm)), .val (.int (wx ||| ((1 : Int32) <<< (p1 &&& 31)))), .val (.ref aL), .val (.int (8 : Int32)), .val (.int (6 : Int32)), .val (.int (273 : Int32))] [])) (fun t k => XS.icmpNo X10.here hx rfl (hb hby d7_122) rfl (teq hc122_37).2 k) ?_
                  refine own_step (T' := T10) (g' := (mkF m 126 #[.val (.ref p0), .val (.int p1), .val (.int (fnTok wm)), .val (.int (wx ||| ((1 : Int32) <<< (p1 &&& 31)))), .val (.ref aL), .val (.int (8 : Int32)), .val (.int (6 : Int32)), .val (.int (273 : Int32))] [(.ref p0)])) (fun t k => XS.aloadN X10.here hx rfl (hb hby d7_125) rfl rfl k) ?_
                  refine own_step (T' := T10) (g' := (mkF m 127 #[.val (.ref p0), .val (.int p1), .val (.int (fnTok wm)), .val (.int (wx ||| ((1 : Int32) <<< (p1 &&& 31)))), .val (.ref aL), .val (.int (8 : Int32)), .val (.int (6 : Int32)), .val (.int (273 : Int32))] [(.int (fnTok wm)), (.ref p0)])) (fun t k => XS.iloadN X10.here hx rfl (hb hby d7_126) rfl k) ?_
                  obtain ⟨T38, h38, X38, e38, W38, st38⟩ := putFN X10 hx hZ hown (hw _ (List.mem_of_getElem? (i := 12) rfl)) Via.refl e10 F_winner_p0_9 E_p0_9 (Or.inl (hw _ (List.mem_of_getElem? (i := 13) rfl))) (hw _ (List.mem_of_getElem? (i := 2) rfl)) (ty := .char) (v' := (.int (nar .char (fnTok wm)))) (by decide) rfl (fits_nar_char (fnTok wm)) (g := (mkF m 127 #[.val (.ref p0), .val (.int p1), .val (.int (fnTok wm)), .val (.int (wx ||| ((1 : Int32) <<< (p1 &&& 31)))), .val (.ref aL), .val (.int (8 : Int32)), .val (.int (6 : Int32)), .val (.int (273 : Int32))] [(.int (fnTok wm)), (.ref p0)])) rfl rfl (hb hby d7_127)
                  have E_p0_38 : Exa Z h38 p0 "com/example/tilescript/tilescript/TicTacToe" := E_p0_9.wr W38
                  have F_oCells_p0_38 : Fld Z h38 p0 "com/example/tilescript/tilescript/TicTacToe" "oCells" "I" (.int wo) := F_oCells_p0_9.other W38 (Or.inr (slot_ne (Or.inl (hw _ (List.mem_of_getElem? (i := 49) rfl))) (Or.inl (hw _ (List.mem_of_getElem? (i := 13) rfl))) (by decide) (t := .int) (t' := .char) (by decide) (by decide)))
                  have S_LINES_38 : Sta Z h38 "com/example/tilescript/tilescript/TicTacToe" "LINES" "[I" (.ref aL) := S_LINES_9.wr W38
                  have V_aL_38 : Arv Z h38 aL kL .int (8 : Int32) [(.int (7 : Int32)), (.int (56 : Int32)), (.int (448 : Int32)), (.int (73 : Int32)), (.int (146 : Int32)), (.int (292 : Int32)), (.int (273 : Int32)), (.int (84 : Int32))] (.int (0 : Int32)) := V_aL_9.other W38 neL
                  have F_xCells_p0_38 : Fld Z h38 p0 "com/example/tilescript/tilescript/TicTacToe" "xCells" "I" (.int (wx ||| ((1 : Int32) <<< (p1 &&& 31)))) := F_xCells_p0_9.other W38 (Or.inr (slot_ne (Or.inl (hw _ (List.mem_of_getElem? (i := 47) rfl))) (Or.inl (hw _ (List.mem_of_getElem? (i := 13) rfl))) (by decide) (t := .int) (t' := .char) (by decide) (by decide)))
                  have F_marks_p0_38 : Fld Z h38 p0 "com/example/tilescript/tilescript/TicTacToe" "marks" "I" (.int (wm + (1 : Int32))) := F_marks_p0_9.other W38 (Or.inr (slot_ne (Or.inl (hw _ (List.mem_of_getElem? (i := 45) rfl))) (Or.inl (hw _ (List.mem_of_getElem? (i := 13) rfl))) (by decide) (t := .int) (t' := .char) (by decide) (by decide)))
                  have F_lastMove_p0_38 : Fld Z h38 p0 "com/example/tilescript/tilescript/TicTacToe" "lastMove" "I" (.int p1) := F_lastMove_p0_9.other W38 (Or.inr (slot_ne (Or.inl (hw _ (List.mem_of_getElem? (i := 11) rfl))) (Or.inl (hw _ (List.mem_of_getElem? (i := 13) rfl))) (by decide) (t := .int) (t' := .char) (by decide) (by decide)))
                  have K_38 : Keep h0 h38 [p0] := K_9.wr W38 (Or.inl (List.mem_of_getElem? (i := 0) rfl))
                  have N38 := Fr.snoc X38 N9 g_p0
                  have F_winner_p0_38 : Fld Z h38 p0 "com/example/tilescript/tilescript/TicTacToe" "winner" "C" (.int (nar .char (fnTok wm))) := F_winner_p0_9.same W38
                  refine own_step (T' := T38) (g' := (mkF m 130 #[.val (.ref p0), .val (.int p1), .val (.int (fnTok wm)), .val (.int (wx ||| ((1 : Int32) <<< (p1 &&& 31)))), .val (.ref aL), .val (.int (8 : Int32)), .val (.int (6 : Int32)), .val (.int (273 : Int32))] [])) st38 ?_
                  refine own_retV X38 hx hlk Bd.returns (hb hby d7_130) (by decide) (by decide) ?_
                  rw [e38]
                  exact ⟨(wx ||| ((1 : Int32) <<< (p1 &&& 31))), wo, (nar .char (fnTok wm)), rfl, N38, K_38, F_xCells_p0_38, F_oCells_p0_38, F_marks_p0_38, F_winner_p0_38, F_lastMove_p0_38, Or.inl ⟨hc34_3, rfl, rfl, (by unfold own_wn; rw [if_neg hc122_13, if_neg hc122_17, if_neg hc122_21, if_neg hc122_25, if_neg hc122_29, if_neg hc122_33, if_pos hc122_37])⟩⟩
                · refine own_step (T' := T10) (g' := (mkF m 131 #[.val (.ref p0), .val (.int p1), .val (.int (fnTok wm)), .val (.int (wx ||| ((1 : Int32) <<< (p1 &&& 31)))), .val (.ref aL), .val (.int (8 : Int32)), .val (.int (6 : Int32)), .val (.int (273 : Int32))] [])) (fun t k => XS.icmpYes X10.here hx rfl (pc0 := 122) (pc' := 131) rfl (hb hby d7_122) rfl (feq hc122_37).2 (by decide) (by decide) k) ?_
                  refine own_step (T' := T10) (g' := (mkF m 134 #[.val (.ref p0), .val (.int p1), .val (.int (fnTok wm)), .val (.int (wx ||| ((1 : Int32) <<< (p1 &&& 31)))), .val (.ref aL), .val (.int (8 : Int32)), .val (.int (7 : Int32)), .val (.int (273 : Int32))] [])) (fun t k => XS.iinc X10.here hx rfl (hb hby d7_131) rfl (l' := #[.val (.ref p0), .val (.int p1), .val (.int (fnTok wm)), .val (.int (wx ||| ((1 : Int32) <<< (p1 &&& 31)))), .val (.ref aL), .val (.int (8 : Int32)), .val (.int (7 : Int32)), .val (.int (273 : Int32))]) rfl k) ?_
                  refine own_step (T' := T10) (g' := (mkF m 102 #[.val (.ref p0), .val (.int p1), .val (.int (fnTok wm)), .val (.int (wx ||| ((1 : Int32) <<< (p1 &&& 31)))), .val (.ref aL), .val (.int (8 : Int32)), .val (.int (7 : Int32)), .val (.int (273 : Int32))] [])) (fun t k => XS.goto X10.here hx rfl (pc0 := 134) (pc' := 102) rfl (hb hby d7_134) (by decide) (by decide) k) ?_
                  refine own_step (T' := T10) (g' := (mkF m 104 #[.val (.ref p0), .val (.int p1), .val (.int (fnTok wm)), .val (.int (wx ||| ((1 : Int32) <<< (p1 &&& 31)))), .val (.ref aL), .val (.int (8 : Int32)), .val (.int (7 : Int32)), .val (.int (273 : Int32))] [(.int (7 : Int32))])) (fun t k => XS.iload X10.here hx rfl (hb hby d7_102) rfl k) ?_
                  refine own_step (T' := T10) (g' := (mkF m 106 #[.val (.ref p0), .val (.int p1), .val (.int (fnTok wm)), .val (.int (wx ||| ((1 : Int32) <<< (p1 &&& 31)))), .val (.ref aL), .val (.int (8 : Int32)), .val (.int (7 : Int32)), .val (.int (273 : Int32))] [(.int (8 : Int32)), (.int (7 : Int32))])) (fun t k => XS.iload X10.here hx rfl (hb hby d7_104) rfl k) ?_
                  refine own_step (T' := T10) (g' := (mkF m 109 #[.val (.ref p0), .val (.int p1), .val (.int (fnTok wm)), .val (.int (wx ||| ((1 : Int32) <<< (p1 &&& 31)))), .val (.ref aL), .val (.int (8 : Int32)), .val (.int (7 : Int32)), .val (.int (273 : Int32))] [])) (fun t k => XS.icmpNo X10.here hx rfl (hb hby d7_106) rfl (tlt (by decide : (7 : Int32) < (8 : Int32))).2.1 k) ?_
                  refine own_step (T' := T10) (g' := (mkF m 111 #[.val (.ref p0), .val (.int p1), .val (.int (fnTok wm)), .val (.int (wx ||| ((1 : Int32) <<< (p1 &&& 31)))), .val (.ref aL), .val (.int (8 : Int32)), .val (.int (7 : Int32)), .val (.int (273 : Int32))] [(.ref aL)])) (fun t k => XS.aload X10.here hx rfl (hb hby d7_109) rfl rfl k) ?_
                  refine own_step (T' := T10) (g' := (mkF m 113 #[.val (.ref p0), .val (.int p1), .val (.int (fnTok wm)), .val (.int (wx ||| ((1 : Int32) <<< (p1 &&& 31)))), .val (.ref aL), .val (.int (8 : Int32)), .val (.int (7 : Int32)), .val (.int (273 : Int32))] [(.int (7 : Int32)), (.ref aL)])) (fun t k => XS.iload X10.here hx rfl (hb hby d7_111) rfl k) ?_
                  obtain ⟨cl40, Ar40, q40, Sz40, Nn40, Hh40, Gg40⟩ := id V_aL_9
                  have hin40 : ¬ ((7 : Int32) < 0 ∨ cl40.slots.size ≤ ((7 : Int32)).toNatClampNeg) := inb_of Sz40 ⟨by decide, by decide⟩
                  refine own_step (T' := T10) (g' := (mkF m 114 #[.val (.ref p0), .val (.int p1), .val (.int (fnTok wm)), .val (.int (wx ||| ((1 : Int32) <<< (p1 &&& 31)))), .val (.ref aL), .val (.int (8 : Int32)), .val (.int (7 : Int32)), .val (.int (273 : Int32))] [(.int (84 : Int32))])) (fun t k => X10.iaload hx (j := (7 : Int32)) (v := (.int (84 : Int32))) (by rw [e10]; exact Ar40.1) (State.isArrayOf_alike hZ.alike Ar40.2.1) Ar40.2.2 hin40 (Has.at Hh40 hin40 rfl) (g := (mkF m 113 #[.val (.ref p0), .val (.int p1), .val (.int (fnTok wm)), .val (.int (wx ||| ((1 : Int32) <<< (p1 &&& 31)))), .val (.ref aL), .val (.int (8 : Int32)), .val (.int (7 : Int32)), .val (.int (273 : Int32))] [(.int (7 : Int32)), (.ref aL)])) rfl rfl (hb hby d7_113) t k) ?_
                  refine own_step (T' := T10) (g' := (mkF m 116 #[.val (.ref p0), .val (.int p1), .val (.int (fnTok wm)), .val (.int (wx ||| ((1 : Int32) <<< (p1 &&& 31)))), .val (.ref aL), .val (.int (8 : Int32)), .val (.int (7 : Int32)), .val (.int (84 : Int32))] [])) (fun t k => XS.istore X10.here hx rfl (hb hby d7_114) rfl (l' := #[.val (.ref p0), .val (.int p1), .val (.int (fnTok wm)), .val (.int (wx ||| ((1 : Int32) <<< (p1 &&& 31)))), .val (.ref aL), .val (.int (8 : Int32)), .val (.int (7 : Int32)), .val (.int (84 : Int32))]) rfl k) ?_
                  refine own_step (T' := T10) (g' := (mkF m 117 #[.val (.ref p0), .val (.int p1), .val (.int (fnTok wm)), .val (.int (wx ||| ((1 : Int32) <<< (p1 &&& 31)))), .val (.ref aL), .val (.int (8 : Int32)), .val (.int (7 : Int32)), .val (.int (84 : Int32))] [(.int (wx ||| ((1 : Int32) <<< (p1 &&& 31))))])) (fun t k => XS.iloadN X10.here hx rfl (hb hby d7_116) rfl k) ?_
                  refine own_step (T' := T10) (g' := (mkF m 119 #[.val (.ref p0), .val (.int p1), .val (.int (fnTok wm)), .val (.int (wx ||| ((1 : Int32) <<< (p1 &&& 31)))), .val (.ref aL), .val (.int (8 : Int32)), .val (.int (7 : Int32)), .val (.int (84 : Int32))] [(.int (84 : Int32)), (.int (wx ||| ((1 : Int32) <<< (p1 &&& 31))))])) (fun t k => XS.iload X10.here hx rfl (hb hby d7_117) rfl k) ?_
                  refine own_step (T' := T10) (g' := (mkF m 120 #[.val (.ref p0), .val (.int p1), .val (.int (fnTok wm)), .val (.int (wx ||| ((1 : Int32) <<< (p1 &&& 31)))), .val (.ref aL), .val (.int (8 : Int32)), .val (.int (7 : Int32)), .val (.int (84 : Int32))] [(.int ((wx ||| ((1 : Int32) <<< (p1 &&& 31))) &&& (84 : Int32)))])) (fun t k => XS.iand X10.here hx rfl (hb hby d7_119) rfl k) ?_
                  refine own_step (T' := T10) (g' := (mkF m 122 #[.val (.ref p0), .val (.int p1), .val (.int (fnTok wm)), .val (.int (wx ||| ((1 : Int32) <<< (p1 &&& 31)))), .val (.ref aL), .val (.int (8 : Int32)), .val (.int (7 : Int32)), .val (.int (84 : Int32))] [(.int (84 : Int32)), (.int ((wx ||| ((1 : Int32) <<< (p1 &&& 31))) &&& (84 : Int32)))])) (fun t k => XS.iload X10.here hx rfl (hb hby d7_120) rfl k) ?_
                  by_cases hc122_41 : ((wx ||| ((1 : Int32) <<< (p1 &&& 31))) &&& (84 : Int32)) = (84 : Int32)
                  · refine own_step (T' := T10) (g' := (mkF m 125 #[.val (.ref p0), .val (.int p1), .val (.int (fnTok wm)), .val (.int (wx ||| ((1 : Int32) <<< (p1 &&& 31)))), .val (.ref aL), .val (.int (8 : Int32)), .val (.int (7 : Int32)), .val (.int (84 : Int32))] [])) (fun t k => XS.icmpNo X10.here hx rfl (hb hby d7_122) rfl (teq hc122_41).2 k) ?_
                    refine own_step (T' := T10) (g' := (mkF m 126 #[.val (.ref p0), .val (.int p1), .val (.int (fnTok wm)), .val (.int (wx ||| ((1 : Int32) <<< (p1 &&& 31)))), .val (.ref aL), .val (.int (8 : Int32)), .val (.int (7 : Int32)), .val (.int (84 : Int32))] [(.ref p0)])) (fun t k => XS.aloadN X10.here hx rfl (hb hby d7_125) rfl rfl k) ?_
                    refine own_step (T' := T10) (g' := (mkF m 127 #[.val (.ref p0), .val (.int p1), .val (.int (fnTok wm)), .val (.int (wx ||| ((1 : Int32) <<< (p1 &&& 31)))), .val (.ref aL), .val (.int (8 : Int32)), .val (.int (7 : Int32)), .val (.int (84 : Int32))] [(.int (fnTok wm)), (.ref p0)])) (fun t k => XS.iloadN X10.here hx rfl (hb hby d7_126) rfl k) ?_
                    obtain ⟨T42, h42, X42, e42, W42, st42⟩ := putFN X10 hx hZ hown (hw _ (List.mem_of_getElem? (i := 12) rfl)) Via.refl e10 F_winner_p0_9 E_p0_9 (Or.inl (hw _ (List.mem_of_getElem? (i := 13) rfl))) (hw _ (List.mem_of_getElem? (i := 2) rfl)) (ty := .char) (v' := (.int (nar .char (fnTok wm)))) (by decide) rfl (fits_nar_char (fnTok wm)) (g := (mkF m 127 #[.val (.ref p0), .val (.int p1), .val (.int (fnTok wm)), .val (.int (wx ||| ((1 : Int32) <<< (p1 &&& 31)))), .val (.ref aL), .val (.int (8 : Int32)), .val (.int (7 : Int32)), .val (.int (84 : Int32))] [(.int (fnTok wm)), (.ref p0)])) rfl rfl (hb hby d7_127)
                    have E_p0_42 : Exa Z h42 p0 "com/example/tilescript/tilescript/TicTacToe" := E_p0_9.wr W42
                    have F_oCells_p0_42 : Fld Z h42 p0 "com/example/tilescript/tilescript/TicTacToe" "oCells" "I" (.int wo) := F_oCells_p0_9.other W42 (Or.inr (slot_ne (Or.inl (hw _ (List.mem_of_getElem? (i := 49) rfl))) (Or.inl (hw _ (List.mem_of_getElem? (i := 13) rfl))) (by decide) (t := .int) (t' := .char) (by decide) (by decide)))
                    have S_LINES_42 : Sta Z h42 "com/example/tilescript/tilescript/TicTacToe" "LINES" "[I" (.ref aL) := S_LINES_9.wr W42
                    have V_aL_42 : Arv Z h42 aL kL .int (8 : Int32) [(.int (7 : Int32)), (.int (56 : Int32)), (.int (448 : Int32)), (.int (73 : Int32)), (.int (146 : Int32)), (.int (292 : Int32)), (.int (273 : Int32)), (.int (84 : Int32))] (.int (0 : Int32)) := V_aL_9.other W42 neL
                    have F_xCells_p0_42 : Fld Z h42 p0 "com/example/tilescript/tilescript/TicTacToe" "xCells" "I" (.int (wx ||| ((1 : Int32) <<< (p1 &&& 31)))) := F_xCells_p0_9.other W42 (Or.inr (slot_ne (Or.inl (hw _ (List.mem_of_getElem? (i := 47) rfl))) (Or.inl (hw _ (List.mem_of_getElem? (i := 13) rfl))) (by decide) (t := .int) (t' := .char) (by decide) (by decide)))
                    have F_marks_p0_42 : Fld Z h42 p0 "com/example/tilescript/tilescript/TicTacToe" "marks" "I" (.int (wm + (1 : Int32))) := F_marks_p0_9.other W42 (Or.inr (slot_ne (Or.inl (hw _ (List.mem_of_getElem? (i := 45) rfl))) (Or.inl (hw _ (List.mem_of_getElem? (i := 13) rfl))) (by decide) (t := .int) (t' := .char) (by decide) (by decide)))
                    have F_lastMove_p0_42 : Fld Z h42 p0 "com/example/tilescript/tilescript/TicTacToe" "lastMove" "I" (.int p1) := F_lastMove_p0_9.other W42 (Or.inr (slot_ne (Or.inl (hw _ (List.mem_of_getElem? (i := 11) rfl))) (Or.inl (hw _ (List.mem_of_getElem? (i := 13) rfl))) (by decide) (t := .int) (t' := .char) (by decide) (by decide)))
                    have K_42 : Keep h0 h42 [p0] := K_9.wr W42 (Or.inl (List.mem_of_getElem? (i := 0) rfl))
                    have N42 := Fr.snoc X42 N9 g_p0
                    have F_winner_p0_42 : Fld Z h42 p0 "com/example/tilescript/tilescript/TicTacToe" "winner" "C" (.int (nar .char (fnTok wm))) := F_winner_p0_9.same W42
                    refine own_step (T' := T42) (g' := (mkF m 130 #[.val (.ref p0), .val (.int p1), .val (.int (fnTok wm)), .val (.int (wx ||| ((1 : Int32) <<< (p1 &&& 31)))), .val (.ref aL), .val (.int (8 : Int32)), .val (.int (7 : Int32)), .val (.int (84 : Int32))] [])) st42 ?_
                    refine own_retV X42 hx hlk Bd.returns (hb hby d7_130) (by decide) (by decide) ?_
                    rw [e42]
                    exact ⟨(wx ||| ((1 : Int32) <<< (p1 &&& 31))), wo, (nar .char (fnTok wm)), rfl, N42, K_42, F_xCells_p0_42, F_oCells_p0_42, F_marks_p0_42, F_winner_p0_42, F_lastMove_p0_42, Or.inl ⟨hc34_3, rfl, rfl, (by unfold own_wn; rw [if_neg hc122_13, if_neg hc122_17, if_neg hc122_21, if_neg hc122_25, if_neg hc122_29, if_neg hc122_33, if_neg hc122_37, if_pos hc122_41])⟩⟩
                  · refine own_step (T' := T10) (g' := (mkF m 131 #[.val (.ref p0), .val (.int p1), .val (.int (fnTok wm)), .val (.int (wx ||| ((1 : Int32) <<< (p1 &&& 31)))), .val (.ref aL), .val (.int (8 : Int32)), .val (.int (7 : Int32)), .val (.int (84 : Int32))] [])) (fun t k => XS.icmpYes X10.here hx rfl (pc0 := 122) (pc' := 131) rfl (hb hby d7_122) rfl (feq hc122_41).2 (by decide) (by decide) k) ?_
                    refine own_step (T' := T10) (g' := (mkF m 134 #[.val (.ref p0), .val (.int p1), .val (.int (fnTok wm)), .val (.int (wx ||| ((1 : Int32) <<< (p1 &&& 31)))), .val (.ref aL), .val (.int (8 : Int32)), .val (.int (8 : Int32)), .val (.int (84 : Int32))] [])) (fun t k => XS.iinc X10.here hx rfl (hb hby d7_131) rfl (l' := #[.val (.ref p0), .val (.int p1), .val (.int (fnTok wm)), .val (.int (wx ||| ((1 : Int32) <<< (p1 &&& 31)))), .val (.ref aL), .val (.int (8 : Int32)), .val (.int (8 : Int32)), .val (.int (84 : Int32))]) rfl k) ?_
                    refine own_step (T' := T10) (g' := (mkF m 102 #[.val (.ref p0), .val (.int p1), .val (.int (fnTok wm)), .val (.int (wx ||| ((1 : Int32) <<< (p1 &&& 31)))), .val (.ref aL), .val (.int (8 : Int32)), .val (.int (8 : Int32)), .val (.int (84 : Int32))] [])) (fun t k => XS.goto X10.here hx rfl (pc0 := 134) (pc' := 102) rfl (hb hby d7_134) (by decide) (by decide) k) ?_
                    refine own_step (T' := T10) (g' := (mkF m 104 #[.val (.ref p0), .val (.int p1), .val (.int (fnTok wm)), .val (.int (wx ||| ((1 : Int32) <<< (p1 &&& 31)))), .val (.ref aL), .val (.int (8 : Int32)), .val (.int (8 : Int32)), .val (.int (84 : Int32))] [(.int (8 : Int32))])) (fun t k => XS.iload X10.here hx rfl (hb hby d7_102) rfl k) ?_
                    refine own_step (T' := T10) (g' := (mkF m 106 #[.val (.ref p0), .val (.int p1), .val (.int (fnTok wm)), .val (.int (wx ||| ((1 : Int32) <<< (p1 &&& 31)))), .val (.ref aL), .val (.int (8 : Int32)), .val (.int (8 : Int32)), .val (.int (84 : Int32))] [(.int (8 : Int32)), (.int (8 : Int32))])) (fun t k => XS.iload X10.here hx rfl (hb hby d7_104) rfl k) ?_
                    refine own_step (T' := T10) (g' := (mkF m 137 #[.val (.ref p0), .val (.int p1), .val (.int (fnTok wm)), .val (.int (wx ||| ((1 : Int32) <<< (p1 &&& 31)))), .val (.ref aL), .val (.int (8 : Int32)), .val (.int (8 : Int32)), .val (.int (84 : Int32))] [])) (fun t k => XS.icmpYes X10.here hx rfl (pc0 := 106) (pc' := 137) rfl (hb hby d7_106) rfl (flt (by decide : ¬ ((8 : Int32) < (8 : Int32)))).2.1 (by decide) (by decide) k) ?_
                    refine own_retV X10 hx hlk Bd.returns (hb hby d7_137) (by decide) (by decide) ?_
                    rw [e10]
                    exact ⟨(wx ||| ((1 : Int32) <<< (p1 &&& 31))), wo, ww, rfl, N9, K_9, F_xCells_p0_9, F_oCells_p0_9, F_marks_p0_9, F_winner_p0_9, F_lastMove_p0_9, Or.inl ⟨hc34_3, rfl, rfl, (by unfold own_wn; rw [if_neg hc122_13, if_neg hc122_17, if_neg hc122_21, if_neg hc122_25, if_neg hc122_29, if_neg hc122_33, if_neg hc122_37, if_neg hc122_41])⟩⟩
  · refine own_step (T' := T2) (g' := (mkF m 57 #[.val (.ref p0), .val (.int p1), .val (.int (fnTok wm)), .unset, .unset, .unset, .unset, .unset] [])) (fun t k => XS.icmpYes X2.here hx rfl (pc0 := 34) (pc' := 57) rfl (hb hby d7_34) rfl (feq hc34_3).2 (by decide) (by decide) k) ?_
    refine own_step (T' := T2) (g' := (mkF m 58 #[.val (.ref p0), .val (.int p1), .val (.int (fnTok wm)), .unset, .unset, .unset, .unset, .unset] [(.ref p0)])) (fun t k => XS.aloadN X2.here hx rfl (hb hby d7_57) rfl rfl k) ?_
    refine own_step (T' := T2) (g' := (mkF m 59 #[.val (.ref p0), .val (.int p1), .val (.int (fnTok wm)), .unset, .unset, .unset, .unset, .unset] [(.ref p0), (.ref p0)])) (fun t k => XS.dup X2.here hx rfl (hb hby d7_58) rfl rfl k) ?_
    obtain ⟨T45, X45, e45, st45⟩ := getF X2 hx hZ hown (host := "") (Or.inl (hw _ (List.mem_of_getElem? (i := 48) rfl))) Via.refl eq2 F_oCells_p0 (g := (mkF m 59 #[.val (.ref p0), .val (.int p1), .val (.int (fnTok wm)), .unset, .unset, .unset, .unset, .unset] [(.ref p0), (.ref p0)])) rfl rfl (hb hby d7_59)
    refine own_step (T' := T45) (g' := (mkF m 62 #[.val (.ref p0), .val (.int p1), .val (.int (fnTok wm)), .unset, .unset, .unset, .unset, .unset] [(.int wo), (.ref p0)])) st45 ?_
    refine own_step (T' := T45) (g' := (mkF m 63 #[.val (.ref p0), .val (.int p1), .val (.int (fnTok wm)), .unset, .unset, .unset, .unset, .unset] [(.int (1 : Int32)), (.int wo), (.ref p0)])) (fun t k => XS.iconst X45.here hx rfl (hb hby d7_62) k) ?_
    refine own_step (T' := T45) (g' := (mkF m 64 #[.val (.ref p0), .val (.int p1), .val (.int (fnTok wm)), .unset, .unset, .unset, .unset, .unset] [(.int p1), (.int (1 : Int32)), (.int wo), (.ref p0)])) (fun t k => XS.iloadN X45.here hx rfl (hb hby d7_63) rfl k) ?_
    refine own_step (T' := T45) (g' := (mkF m 65 #[.val (.ref p0), .val (.int p1), .val (.int (fnTok wm)), .unset, .unset, .unset, .unset, .unset] [(.int ((1 : Int32) <<< (p1 &&& 31))), (.int wo), (.ref p0)])) (fun t k => XS.ishl X45.here hx rfl (hb hby d7_64) rfl k) ?_
    refine own_step (T' := T45) (g' := (mkF m 66 #[.val (.ref p0), .val (.int p1), .val (.int (fnTok wm)), .unset, .unset, .unset, .unset, .unset] [(.int (wo ||| ((1 : Int32) <<< (p1 &&& 31)))), (.ref p0)])) (fun t k => XS.ior X45.here hx rfl (hb hby d7_65) rfl k) ?_
    obtain ⟨T46, h46, X46, e46, W46, st46⟩ := putF X45 hx hZ hown (host := "") (Or.inl (hw _ (List.mem_of_getElem? (i := 48) rfl))) Via.refl e45 F_oCells_p0 E_p0 (Or.inl (hw _ (List.mem_of_getElem? (i := 49) rfl))) (hw _ (List.mem_of_getElem? (i := 2) rfl)) (ty := .int) (by decide) rfl rfl (g := (mkF m 66 #[.val (.ref p0), .val (.int p1), .val (.int (fnTok wm)), .unset, .unset, .unset, .unset, .unset] [(.int (wo ||| ((1 : Int32) <<< (p1 &&& 31)))), (.ref p0)])) rfl rfl (hb hby d7_66)
    have E_p0_46 : Exa Z h46 p0 "com/example/tilescript/tilescript/TicTacToe" := E_p0.wr W46
    have F_xCells_p0_46 : Fld Z h46 p0 "com/example/tilescript/tilescript/TicTacToe" "xCells" "I" (.int wx) := F_xCells_p0.other W46 (Or.inr (slot_ne (Or.inl (hw _ (List.mem_of_getElem? (i := 47) rfl))) (Or.inl (hw _ (List.mem_of_getElem? (i := 49) rfl))) (by decide) (t := .int) (t' := .int) (by decide) (by decide)))
    have F_marks_p0_46 : Fld Z h46 p0 "com/example/tilescript/tilescript/TicTacToe" "marks" "I" (.int wm) := F_marks_p0.other W46 (Or.inr (slot_ne (Or.inl (hw _ (List.mem_of_getElem? (i := 45) rfl))) (Or.inl (hw _ (List.mem_of_getElem? (i := 49) rfl))) (by decide) (t := .int) (t' := .int) (by decide) (by decide)))
    have F_winner_p0_46 : Fld Z h46 p0 "com/example/tilescript/tilescript/TicTacToe" "winner" "C" (.int ww) := F_winner_p0.other W46 (Or.inr (slot_ne (Or.inl (hw _ (List.mem_of_getElem? (i := 13) rfl))) (Or.inl (hw _ (List.mem_of_getElem? (i := 49) rfl))) (by decide) (t := .char) (t' := .int) (by decide) (by decide)))
    have F_lastMove_p0_46 : Fld Z h46 p0 "com/example/tilescript/tilescript/TicTacToe" "lastMove" "I" (.int wl) := F_lastMove_p0.other W46 (Or.inr (slot_ne (Or.inl (hw _ (List.mem_of_getElem? (i := 11) rfl))) (Or.inl (hw _ (List.mem_of_getElem? (i := 49) rfl))) (by decide) (t := .int) (t' := .int) (by decide) (by decide)))
    have S_LINES_46 : Sta Z h46 "com/example/tilescript/tilescript/TicTacToe" "LINES" "[I" (.ref aL) := S_LINES.wr W46
    have V_aL_46 : Arv Z h46 aL kL .int (8 : Int32) [(.int (7 : Int32)), (.int (56 : Int32)), (.int (448 : Int32)), (.int (73 : Int32)), (.int (146 : Int32)), (.int (292 : Int32)), (.int (273 : Int32)), (.int (84 : Int32))] (.int (0 : Int32)) := V_aL.other W46 neL
    have K_46 : Keep h0 h46 [p0] := K0.wr W46 (Or.inl (List.mem_of_getElem? (i := 0) rfl))
    have N46 := Fr.snoc X46 N2 g_p0
    have F_oCells_p0_46 : Fld Z h46 p0 "com/example/tilescript/tilescript/TicTacToe" "oCells" "I" (.int (wo ||| ((1 : Int32) <<< (p1 &&& 31)))) := F_oCells_p0.same W46
    refine own_step (T' := T46) (g' := (mkF m 69 #[.val (.ref p0), .val (.int p1), .val (.int (fnTok wm)), .unset, .unset, .unset, .unset, .unset] [])) st46 ?_
    refine own_step (T' := T46) (g' := (mkF m 70 #[.val (.ref p0), .val (.int p1), .val (.int (fnTok wm)), .unset, .unset, .unset, .unset, .unset] [(.ref p0)])) (fun t k => XS.aloadN X46.here hx rfl (hb hby d7_69) rfl rfl k) ?_
    obtain ⟨T47, X47, e47, st47⟩ := getF X46 hx hZ hown (host := "") (Or.inl (hw _ (List.mem_of_getElem? (i := 48) rfl))) Via.refl e46 F_oCells_p0_46 (g := (mkF m 70 #[.val (.ref p0), .val (.int p1), .val (.int (fnTok wm)), .unset, .unset, .unset, .unset, .unset] [(.ref p0)])) rfl rfl (hb hby d7_70)
    refine own_step (T' := T47) (g' := (mkF m 73 #[.val (.ref p0), .val (.int p1), .val (.int (fnTok wm)), .unset, .unset, .unset, .unset, .unset] [(.int (wo ||| ((1 : Int32) <<< (p1 &&& 31))))])) st47 ?_
    refine own_step (T' := T47) (g' := (mkF m 74 #[.val (.ref p0), .val (.int p1), .val (.int (fnTok wm)), .val (.int (wo ||| ((1 : Int32) <<< (p1 &&& 31)))), .unset, .unset, .unset, .unset] [])) (fun t k => XS.istoreN X47.here hx rfl (hb hby d7_73) rfl (l' := #[.val (.ref p0), .val (.int p1), .val (.int (fnTok wm)), .val (.int (wo ||| ((1 : Int32) <<< (p1 &&& 31)))), .unset, .unset, .unset, .unset]) rfl k) ?_
    refine own_step (T' := T47) (g' := (mkF m 75 #[.val (.ref p0), .val (.int p1), .val (.int (fnTok wm)), .val (.int (wo ||| ((1 : Int32) <<< (p1 &&& 31)))), .unset, .unset, .unset, .unset] [(.ref p0)])) (fun t k => XS.aloadN X47.here hx rfl (hb hby d7_74) rfl rfl k) ?_
    refine own_step (T' := T47) (g' := (mkF m 76 #[.val (.ref p0), .val (.int p1), .val (.int (fnTok wm)), .val (.int (wo ||| ((1 : Int32) <<< (p1 &&& 31)))), .unset, .unset, .unset, .unset] [(.ref p0), (.ref p0)])) (fun t k => XS.dup X47.here hx rfl (hb hby d7_75) rfl rfl k) ?_
    obtain ⟨T48, X48, e48, st48⟩ := getF X47 hx hZ hown (host := "") (Or.inl (hw _ (List.mem_of_getElem? (i := 44) rfl))) Via.refl e47 F_marks_p0_46 (g := (mkF m 76 #[.val (.ref p0), .val (.int p1), .val (.int (fnTok wm)), .val (.int (wo ||| ((1 : Int32) <<< (p1 &&& 31)))), .unset, .unset, .unset, .unset] [(.ref p0), (.ref p0)])) rfl rfl (hb hby d7_76)
    refine own_step (T' := T48) (g' := (mkF m 79 #[.val (.ref p0), .val (.int p1), .val (.int (fnTok wm)), .val (.int (wo ||| ((1 : Int32) <<< (p1 &&& 31)))), .unset, .unset, .unset, .unset] [(.int wm), (.ref p0)])) st48 ?_
    refine own_step (T' := T48) (g' := (mkF m 80 #[.val (.ref p0), .val (.int p1), .val (.int (fnTok wm)), .val (.int (wo ||| ((1 : Int32) <<< (p1 &&& 31)))), .unset, .unset, .unset, .unset] [(.int (1 : Int32)), (.int wm), (.ref p0)])) (fun t k => XS.iconst X48.here hx rfl (hb hby d7_79) k) ?_
    refine own_step (T' := T48) (g' := (mkF m 81 #[.val (.ref p0), .val (.int p1), .val (.int (fnTok wm)), .val (.int (wo ||| ((1 : Int32) <<< (p1 &&& 31)))), .unset, .unset, .unset, .unset] [(.int (wm + (1 : Int32))), (.ref p0)])) (fun t k => XS.iadd X48.here hx rfl (hb hby d7_80) rfl k) ?_
    obtain ⟨T49, h49, X49, e49, W49, st49⟩ := putF X48 hx hZ hown (host := "") (Or.inl (hw _ (List.mem_of_getElem? (i := 44) rfl))) Via.refl e48 F_marks_p0_46 E_p0_46 (Or.inl (hw _ (List.mem_of_getElem? (i := 45) rfl))) (hw _ (List.mem_of_getElem? (i := 2) rfl)) (ty := .int) (by decide) rfl rfl (g := (mkF m 81 #[.val (.ref p0), .val (.int p1), .val (.int (fnTok wm)), .val (.int (wo ||| ((1 : Int32) <<< (p1 &&& 31)))), .unset, .unset, .unset, .unset] [(.int (wm + (1 : Int32))), (.ref p0)])) rfl rfl (hb hby d7_81)
    have E_p0_49 : Exa Z h49 p0 "com/example/tilescript/tilescript/TicTacToe" := E_p0_46.wr W49
    have F_xCells_p0_49 : Fld Z h49 p0 "com/example/tilescript/tilescript/TicTacToe" "xCells" "I" (.int wx) := F_xCells_p0_46.other W49 (Or.inr (slot_ne (Or.inl (hw _ (List.mem_of_getElem? (i := 47) rfl))) (Or.inl (hw _ (List.mem_of_getElem? (i := 45) rfl))) (by decide) (t := .int) (t' := .int) (by decide) (by decide)))
    have F_winner_p0_49 : Fld Z h49 p0 "com/example/tilescript/tilescript/TicTacToe" "winner" "C" (.int ww) := F_winner_p0_46.other W49 (Or.inr (slot_ne (Or.inl (hw _ (List.mem_of_getElem? (i := 13) rfl))) (Or.inl (hw _ (List.mem_of_getElem? (i := 45) rfl))) (by decide) (t := .char) (t' := .int) (by decide) (by decide)))
    have F_lastMove_p0_49 : Fld Z h49 p0 "com/example/tilescript/tilescript/TicTacToe" "lastMove" "I" (.int wl) := F_lastMove_p0_46.other W49 (Or.inr (slot_ne (Or.inl (hw _ (List.mem_of_getElem? (i := 11) rfl))) (Or.inl (hw _ (List.mem_of_getElem? (i := 45) rfl))) (by decide) (t := .int) (t' := .int) (by decide) (by decide)))
    have S_LINES_49 : Sta Z h49 "com/example/tilescript/tilescript/TicTacToe" "LINES" "[I" (.ref aL) := S_LINES_46.wr W49
    have V_aL_49 : Arv Z h49 aL kL .int (8 : Int32) [(.int (7 : Int32)), (.int (56 : Int32)), (.int (448 : Int32)), (.int (73 : Int32)), (.int (146 : Int32)), (.int (292 : Int32)), (.int (273 : Int32)), (.int (84 : Int32))] (.int (0 : Int32)) := V_aL_46.other W49 neL
    have F_oCells_p0_49 : Fld Z h49 p0 "com/example/tilescript/tilescript/TicTacToe" "oCells" "I" (.int (wo ||| ((1 : Int32) <<< (p1 &&& 31)))) := F_oCells_p0_46.other W49 (Or.inr (slot_ne (Or.inl (hw _ (List.mem_of_getElem? (i := 49) rfl))) (Or.inl (hw _ (List.mem_of_getElem? (i := 45) rfl))) (by decide) (t := .int) (t' := .int) (by decide) (by decide)))
    have K_49 : Keep h0 h49 [p0] := K_46.wr W49 (Or.inl (List.mem_of_getElem? (i := 0) rfl))
    have N49 := Fr.snoc X49 N46 g_p0
    have F_marks_p0_49 : Fld Z h49 p0 "com/example/tilescript/tilescript/TicTacToe" "marks" "I" (.int (wm + (1 : Int32))) := F_marks_p0_46.same W49
    refine own_step (T' := T49) (g' := (mkF m 84 #[.val (.ref p0), .val (.int p1), .val (.int (fnTok wm)), .val (.int (wo ||| ((1 : Int32) <<< (p1 &&& 31)))), .unset, .unset, .unset, .unset] [])) st49 ?_
    refine own_step (T' := T49) (g' := (mkF m 85 #[.val (.ref p0), .val (.int p1), .val (.int (fnTok wm)), .val (.int (wo ||| ((1 : Int32) <<< (p1 &&& 31)))), .unset, .unset, .unset, .unset] [(.ref p0)])) (fun t k => XS.aloadN X49.here hx rfl (hb hby d7_84) rfl rfl k) ?_
    refine own_step (T' := T49) (g' := (mkF m 86 #[.val (.ref p0), .val (.int p1), .val (.int (fnTok wm)), .val (.int (wo ||| ((1 : Int32) <<< (p1 &&& 31)))), .unset, .unset, .unset, .unset] [(.int p1), (.ref p0)])) (fun t k => XS.iloadN X49.here hx rfl (hb hby d7_85) rfl k) ?_
    obtain ⟨T50, h50, X50, e50, W50, st50⟩ := putF X49 hx hZ hown (host := "") (Or.inl (hw _ (List.mem_of_getElem? (i := 10) rfl))) Via.refl e49 F_lastMove_p0_49 E_p0_49 (Or.inl (hw _ (List.mem_of_getElem? (i := 11) rfl))) (hw _ (List.mem_of_getElem? (i := 2) rfl)) (ty := .int) (by decide) rfl rfl (g := (mkF m 86 #[.val (.ref p0), .val (.int p1), .val (.int (fnTok wm)), .val (.int (wo ||| ((1 : Int32) <<< (p1 &&& 31)))), .unset, .unset, .unset, .unset] [(.int p1), (.ref p0)])) rfl rfl (hb hby d7_86)
    have E_p0_50 : Exa Z h50 p0 "com/example/tilescript/tilescript/TicTacToe" := E_p0_49.wr W50
    have F_xCells_p0_50 : Fld Z h50 p0 "com/example/tilescript/tilescript/TicTacToe" "xCells" "I" (.int wx) := F_xCells_p0_49.other W50 (Or.inr (slot_ne (Or.inl (hw _ (List.mem_of_getElem? (i := 47) rfl))) (Or.inl (hw _ (List.mem_of_getElem? (i := 11) rfl))) (by decide) (t := .int) (t' := .int) (by decide) (by decide)))
    have F_winner_p0_50 : Fld Z h50 p0 "com/example/tilescript/tilescript/TicTacToe" "winner" "C" (.int ww) := F_winner_p0_49.other W50 (Or.inr (slot_ne (Or.inl (hw _ (List.mem_of_getElem? (i := 13) rfl))) (Or.inl (hw _ (List.mem_of_getElem? (i := 11) rfl))) (by decide) (t := .char) (t' := .int) (by decide) (by decide)))
    have S_LINES_50 : Sta Z h50 "com/example/tilescript/tilescript/TicTacToe" "LINES" "[I" (.ref aL) := S_LINES_49.wr W50
    have V_aL_50 : Arv Z h50 aL kL .int (8 : Int32) [(.int (7 : Int32)), (.int (56 : Int32)), (.int (448 : Int32)), (.int (73 : Int32)), (.int (146 : Int32)), (.int (292 : Int32)), (.int (273 : Int32)), (.int (84 : Int32))] (.int (0 : Int32)) := V_aL_49.other W50 neL
    have F_oCells_p0_50 : Fld Z h50 p0 "com/example/tilescript/tilescript/TicTacToe" "oCells" "I" (.int (wo ||| ((1 : Int32) <<< (p1 &&& 31)))) := F_oCells_p0_49.other W50 (Or.inr (slot_ne (Or.inl (hw _ (List.mem_of_getElem? (i := 49) rfl))) (Or.inl (hw _ (List.mem_of_getElem? (i := 11) rfl))) (by decide) (t := .int) (t' := .int) (by decide) (by decide)))
    have F_marks_p0_50 : Fld Z h50 p0 "com/example/tilescript/tilescript/TicTacToe" "marks" "I" (.int (wm + (1 : Int32))) := F_marks_p0_49.other W50 (Or.inr (slot_ne (Or.inl (hw _ (List.mem_of_getElem? (i := 45) rfl))) (Or.inl (hw _ (List.mem_of_getElem? (i := 11) rfl))) (by decide) (t := .int) (t' := .int) (by decide) (by decide)))
    have K_50 : Keep h0 h50 [p0] := K_49.wr W50 (Or.inl (List.mem_of_getElem? (i := 0) rfl))
    have N50 := Fr.snoc X50 N49 g_p0
    have F_lastMove_p0_50 : Fld Z h50 p0 "com/example/tilescript/tilescript/TicTacToe" "lastMove" "I" (.int p1) := F_lastMove_p0_49.same W50
    refine own_step (T' := T50) (g' := (mkF m 89 #[.val (.ref p0), .val (.int p1), .val (.int (fnTok wm)), .val (.int (wo ||| ((1 : Int32) <<< (p1 &&& 31)))), .unset, .unset, .unset, .unset] [])) st50 ?_
    obtain ⟨T51, X51, e51, st51⟩ := getS2 X50 hx hZ hown (host := "") (Or.inl (hw _ (List.mem_of_getElem? (i := 55) rfl))) Via.refl e50 S_LINES_50 (g := (mkF m 89 #[.val (.ref p0), .val (.int p1), .val (.int (fnTok wm)), .val (.int (wo ||| ((1 : Int32) <<< (p1 &&& 31)))), .unset, .unset, .unset, .unset] [])) rfl (hb hby d7_89)
    refine own_step (T' := T51) (g' := (mkF m 92 #[.val (.ref p0), .val (.int p1), .val (.int (fnTok wm)), .val (.int (wo ||| ((1 : Int32) <<< (p1 &&& 31)))), .unset, .unset, .unset, .unset] [(.ref aL)])) st51 ?_
    refine own_step (T' := T51) (g' := (mkF m 94 #[.val (.ref p0), .val (.int p1), .val (.int (fnTok wm)), .val (.int (wo ||| ((1 : Int32) <<< (p1 &&& 31)))), .val (.ref aL), .unset, .unset, .unset] [])) (fun t k => XS.astore X51.here hx rfl (hb hby d7_92) rfl rfl (l' := #[.val (.ref p0), .val (.int p1), .val (.int (fnTok wm)), .val (.int (wo ||| ((1 : Int32) <<< (p1 &&& 31)))), .val (.ref aL), .unset, .unset, .unset]) rfl k) ?_
    refine own_step (T' := T51) (g' := (mkF m 96 #[.val (.ref p0), .val (.int p1), .val (.int (fnTok wm)), .val (.int (wo ||| ((1 : Int32) <<< (p1 &&& 31)))), .val (.ref aL), .unset, .unset, .unset] [(.ref aL)])) (fun t k => XS.aload X51.here hx rfl (hb hby d7_94) rfl rfl k) ?_
    obtain ⟨cl52, Ar52, q52, Sz52, Nn52, Hh52, Gg52⟩ := id V_aL_50
    refine own_step (T' := T51) (g' := (mkF m 97 #[.val (.ref p0), .val (.int p1), .val (.int (fnTok wm)), .val (.int (wo ||| ((1 : Int32) <<< (p1 &&& 31)))), .val (.ref aL), .unset, .unset, .unset] [(.int (8 : Int32))])) (fun t k => X51.arraylength hx (by rw [e51]; exact Ar52.1) (State.isArrayOf_alike hZ.alike Ar52.2.1) (g := (mkF m 96 #[.val (.ref p0), .val (.int p1), .val (.int (fnTok wm)), .val (.int (wo ||| ((1 : Int32) <<< (p1 &&& 31)))), .val (.ref aL), .unset, .unset, .unset] [(.ref aL)])) rfl rfl (hb hby d7_96) t (by rw [len_of Sz52 Nn52]; exact k)) ?_
    refine own_step (T' := T51) (g' := (mkF m 99 #[.val (.ref p0), .val (.int p1), .val (.int (fnTok wm)), .val (.int (wo ||| ((1 : Int32) <<< (p1 &&& 31)))), .val (.ref aL), .val (.int (8 : Int32)), .unset, .unset] [])) (fun t k => XS.istore X51.here hx rfl (hb hby d7_97) rfl (l' := #[.val (.ref p0), .val (.int p1), .val (.int (fnTok wm)), .val (.int (wo ||| ((1 : Int32) <<< (p1 &&& 31)))), .val (.ref aL), .val (.int (8 : Int32)), .unset, .unset]) rfl k) ?_
    refine own_step (T' := T51) (g' := (mkF m 100 #[.val (.ref p0), .val (.int p1), .val (.int (fnTok wm)), .val (.int (wo ||| ((1 : Int32) <<< (p1 &&& 31)))), .val (.ref aL), .val (.int (8 : Int32)), .unset, .unset] [(.int (0 : Int32))])) (fun t k => XS.iconst X51.here hx rfl (hb hby d7_99) k) ?_
    refine own_step (T' := T51) (g' := (mkF m 102 #[.val (.ref p0), .val (.int p1), .val (.int (fnTok wm)), .val (.int (wo ||| ((1 : Int32) <<< (p1 &&& 31)))), .val (.ref aL), .val (.int (8 : Int32)), .val (.int (0 : Int32)), .unset] [])) (fun t k => XS.istore X51.here hx rfl (hb hby d7_100) rfl (l' := #[.val (.ref p0), .val (.int p1), .val (.int (fnTok wm)), .val (.int (wo ||| ((1 : Int32) <<< (p1 &&& 31)))), .val (.ref aL), .val (.int (8 : Int32)), .val (.int (0 : Int32)), .unset]) rfl k) ?_
    refine own_step (T' := T51) (g' := (mkF m 104 #[.val (.ref p0), .val (.int p1), .val (.int (fnTok wm)), .val (.int (wo ||| ((1 : Int32) <<< (p1 &&& 31)))), .val (.ref aL), .val (.int (8 : Int32)), .val (.int (0 : Int32)), .unset] [(.int (0 : Int32))])) (fun t k => XS.iload X51.here hx rfl (hb hby d7_102) rfl k) ?_
    refine own_step (T' := T51) (g' := (mkF m 106 #[.val (.ref p0), .val (.int p1), .val (.int (fnTok wm)), .val (.int (wo ||| ((1 : Int32) <<< (p1 &&& 31)))), .val (.ref aL), .val (.int (8 : Int32)), .val (.int (0 : Int32)), .unset] [(.int (8 : Int32)), (.int (0 : Int32))])) (fun t k => XS.iload X51.here hx rfl (hb hby d7_104) rfl k) ?_
    refine own_step (T' := T51) (g' := (mkF m 109 #[.val (.ref p0), .val (.int p1), .val (.int (fnTok wm)), .val (.int (wo ||| ((1 : Int32) <<< (p1 &&& 31)))), .val (.ref aL), .val (.int (8 : Int32)), .val (.int (0 : Int32)), .unset] [])) (fun t k => XS.icmpNo X51.here hx rfl (hb hby d7_106) rfl (tlt (by decide : (0 : Int32) < (8 : Int32))).2.1 k) ?_
    refine own_step (T' := T51) (g' := (mkF m 111 #[.val (.ref p0), .val (.int p1), .val (.int (fnTok wm)), .val (.int (wo ||| ((1 : Int32) <<< (p1 &&& 31)))), .val (.ref aL), .val (.int (8 : Int32)), .val (.int (0 : Int32)), .unset] [(.ref aL)])) (fun t k => XS.aload X51.here hx rfl (hb hby d7_109) rfl rfl k) ?_
    refine own_step (T' := T51) (g' := (mkF m 113 #[.val (.ref p0), .val (.int p1), .val (.int (fnTok wm)), .val (.int (wo ||| ((1 : Int32) <<< (p1 &&& 31)))), .val (.ref aL), .val (.int (8 : Int32)), .val (.int (0 : Int32)), .unset] [(.int (0 : Int32)), (.ref aL)])) (fun t k => XS.iload X51.here hx rfl (hb hby d7_111) rfl k) ?_
    obtain ⟨cl53, Ar53, q53, Sz53, Nn53, Hh53, Gg53⟩ := id V_aL_50
    have hin53 : ¬ ((0 : Int32) < 0 ∨ cl53.slots.size ≤ ((0 : Int32)).toNatClampNeg) := inb_of Sz53 ⟨by decide, by decide⟩
    refine own_step (T' := T51) (g' := (mkF m 114 #[.val (.ref p0), .val (.int p1), .val (.int (fnTok wm)), .val (.int (wo ||| ((1 : Int32) <<< (p1 &&& 31)))), .val (.ref aL), .val (.int (8 : Int32)), .val (.int (0 : Int32)), .unset] [(.int (7 : Int32))])) (fun t k => X51.iaload hx (j := (0 : Int32)) (v := (.int (7 : Int32))) (by rw [e51]; exact Ar53.1) (State.isArrayOf_alike hZ.alike Ar53.2.1) Ar53.2.2 hin53 (Has.at Hh53 hin53 rfl) (g := (mkF m 113 #[.val (.ref p0), .val (.int p1), .val (.int (fnTok wm)), .val (.int (wo ||| ((1 : Int32) <<< (p1 &&& 31)))), .val (.ref aL), .val (.int (8 : Int32)), .val (.int (0 : Int32)), .unset] [(.int (0 : Int32)), (.ref aL)])) rfl rfl (hb hby d7_113) t k) ?_
    refine own_step (T' := T51) (g' := (mkF m 116 #[.val (.ref p0), .val (.int p1), .val (.int (fnTok wm)), .val (.int (wo ||| ((1 : Int32) <<< (p1 &&& 31)))), .val (.ref aL), .val (.int (8 : Int32)), .val (.int (0 : Int32)), .val (.int (7 : Int32))] [])) (fun t k => XS.istore X51.here hx rfl (hb hby d7_114) rfl (l' := #[.val (.ref p0), .val (.int p1), .val (.int (fnTok wm)), .val (.int (wo ||| ((1 : Int32) <<< (p1 &&& 31)))), .val (.ref aL), .val (.int (8 : Int32)), .val (.int (0 : Int32)), .val (.int (7 : Int32))]) rfl k) ?_
    refine own_step (T' := T51) (g' := (mkF m 117 #[.val (.ref p0), .val (.int p1), .val (.int (fnTok wm)), .val (.int (wo ||| ((1 : Int32) <<< (p1 &&& 31)))), .val (.ref aL), .val (.int (8 : Int32)), .val (.int (0 : Int32)), .val (.int (7 : Int32))] [(.int (wo ||| ((1 : Int32) <<< (p1 &&& 31))))])) (fun t k => XS.iloadN X51.here hx rfl (hb hby d7_116) rfl k) ?_
    refine own_step (T' := T51) (g' := (mkF m 119 #[.val (.ref p0), .val (.int p1), .val (.int (fnTok wm)), .val (.int (wo ||| ((1 : Int32) <<< (p1 &&& 31)))), .val (.ref aL), .val (.int (8 : Int32)), .val (.int (0 : Int32)), .val (.int (7 : Int32))] [(.int (7 : Int32)), (.int (wo ||| ((1 : Int32) <<< (p1 &&& 31))))])) (fun t k => XS.iload X51.here hx rfl (hb hby d7_117) rfl k) ?_
    refine own_step (T' := T51) (g' := (mkF m 120 #[.val (.ref p0), .val (.int p1), .val (.int (fnTok wm)), .val (.int (wo ||| ((1 : Int32) <<< (p1 &&& 31)))), .val (.ref aL), .val (.int (8 : Int32)), .val (.int (0 : Int32)), .val (.int (7 : Int32))] [(.int ((wo ||| ((1 : Int32) <<< (p1 &&& 31))) &&& (7 : Int32)))])) (fun t k => XS.iand X51.here hx rfl (hb hby d7_119) rfl k) ?_
    refine own_step (T' := T51) (g' := (mkF m 122 #[.val (.ref p0), .val (.int p1), .val (.int (fnTok wm)), .val (.int (wo ||| ((1 : Int32) <<< (p1 &&& 31)))), .val (.ref aL), .val (.int (8 : Int32)), .val (.int (0 : Int32)), .val (.int (7 : Int32))] [(.int (7 : Int32)), (.int ((wo ||| ((1 : Int32) <<< (p1 &&& 31))) &&& (7 : Int32)))])) (fun t k => XS.iload X51.here hx rfl (hb hby d7_120) rfl k) ?_
    by_cases hc122_54 : ((wo ||| ((1 : Int32) <<< (p1 &&& 31))) &&& (7 : Int32)) = (7 : Int32)
    · refine own_step (T' := T51) (g' := (mkF m 125 #[.val (.ref p0), .val (.int p1), .val (.int (fnTok wm)), .val (.int (wo ||| ((1 : Int32) <<< (p1 &&& 31)))), .val (.ref aL), .val (.int (8 : Int32)), .val (.int (0 : Int32)), .val (.int (7 : Int32))] [])) (fun t k => XS.icmpNo X51.here hx rfl (hb hby d7_122) rfl (teq hc122_54).2 k) ?_
      refine own_step (T' := T51) (g' := (mkF m 126 #[.val (.ref p0), .val (.int p1), .val (.int (fnTok wm)), .val (.int (wo ||| ((1 : Int32) <<< (p1 &&& 31)))), .val (.ref aL), .val (.int (8 : Int32)), .val (.int (0 : Int32)), .val (.int (7 : Int32))] [(.ref p0)])) (fun t k => XS.aloadN X51.here hx rfl (hb hby d7_125) rfl rfl k) ?_
      refine own_step (T' := T51) (g' := (mkF m 127 #[.val (.ref p0), .val (.int p1), .val (.int (fnTok wm)), .val (.int (wo ||| ((1 : Int32) <<< (p1 &&& 31)))), .val (.ref aL), .val (.int (8 : Int32)), .val (.int (0 : Int32)), .val (.int (7 : Int32))] [(.int (fnTok wm)), (.ref p0)])) (fun t k => XS.iloadN X51.here hx rfl (hb hby d7_126) rfl k) ?_
      obtain ⟨T55, h55, X55, e55, W55, st55⟩ := putFN X51 hx hZ hown (hw _ (List.mem_of_getElem? (i := 12) rfl)) Via.refl e51 F_winner_p0_50 E_p0_50 (Or.inl (hw _ (List.mem_of_getElem? (i := 13) rfl))) (hw _ (List.mem_of_getElem? (i := 2) rfl)) (ty := .char) (v' := (.int (nar .char (fnTok wm)))) (by decide) rfl (fits_nar_char (fnTok wm)) (g := (mkF m 127 #[.val (.ref p0), .val (.int p1), .val (.int (fnTok wm)), .val (.int (wo ||| ((1 : Int32) <<< (p1 &&& 31)))), .val (.ref aL), .val (.int (8 : Int32)), .val (.int (0 : Int32)), .val (.int (7 : Int32))] [(.int (fnTok wm)), (.ref p0)])) rfl rfl (hb hby d7_127)
      have E_p0_55 : Exa Z h55 p0 "com/example/tilescript/tilescript/TicTacToe" := E_p0_50.wr W55
      have F_xCells_p0_55 : Fld Z h55 p0 "com/example/tilescript/tilescript/TicTacToe" "xCells" "I" (.int wx) := F_xCells_p0_50.other W55 (Or.inr (slot_ne (Or.inl (hw _ (List.mem_of_getElem? (i := 47) rfl))) (Or.inl (hw _ (List.mem_of_getElem? (i := 13) rfl))) (by decide) (t := .int) (t' := .char) (by decide) (by decide)))
      have S_LINES_55 : Sta Z h55 "com/example/tilescript/tilescript/TicTacToe" "LINES" "[I" (.ref aL) := S_LINES_50.wr W55
      have V_aL_55 : Arv Z h55 aL kL .int (8 : Int32) [(.int (7 : Int32)), (.int (56 : Int32)), (.int (448 : Int32)), (.int (73 : Int32)), (.int (146 : Int32)), (.int (292 : Int32)), (.int (273 : Int32)), (.int (84 : Int32))] (.int (0 : Int32)) := V_aL_50.other W55 neL
      have F_oCells_p0_55 : Fld Z h55 p0 "com/example/tilescript/tilescript/TicTacToe" "oCells" "I" (.int (wo ||| ((1 : Int32) <<< (p1 &&& 31)))) := F_oCells_p0_50.other W55 (Or.inr (slot_ne (Or.inl (hw _ (List.mem_of_getElem? (i := 49) rfl))) (Or.inl (hw _ (List.mem_of_getElem? (i := 13) rfl))) (by decide) (t := .int) (t' := .char) (by decide) (by decide)))
      have F_marks_p0_55 : Fld Z h55 p0 "com/example/tilescript/tilescript/TicTacToe" "marks" "I" (.int (wm + (1 : Int32))) := F_marks_p0_50.other W55 (Or.inr (slot_ne (Or.inl (hw _ (List.mem_of_getElem? (i := 45) rfl))) (Or.inl (hw _ (List.mem_of_getElem? (i := 13) rfl))) (by decide) (t := .int) (t' := .char) (by decide) (by decide)))
      have F_lastMove_p0_55 : Fld Z h55 p0 "com/example/tilescript/tilescript/TicTacToe" "lastMove" "I" (.int p1) := F_lastMove_p0_50.other W55 (Or.inr (slot_ne (Or.inl (hw _ (List.mem_of_getElem? (i := 11) rfl))) (Or.inl (hw _ (List.mem_of_getElem? (i := 13) rfl))) (by decide) (t := .int) (t' := .char) (by decide) (by decide)))
      have K_55 : Keep h0 h55 [p0] := K_50.wr W55 (Or.inl (List.mem_of_getElem? (i := 0) rfl))
      have N55 := Fr.snoc X55 N50 g_p0
      have F_winner_p0_55 : Fld Z h55 p0 "com/example/tilescript/tilescript/TicTacToe" "winner" "C" (.int (nar .char (fnTok wm))) := F_winner_p0_50.same W55
      refine own_step (T' := T55) (g' := (mkF m 130 #[.val (.ref p0), .val (.int p1), .val (.int (fnTok wm)), .val (.int (wo ||| ((1 : Int32) <<< (p1 &&& 31)))), .val (.ref aL), .val (.int (8 : Int32)), .val (.int (0 : Int32)), .val (.int (7 : Int32))] [])) st55 ?_
      refine own_retV X55 hx hlk Bd.returns (hb hby d7_130) (by decide) (by decide) ?_
      rw [e55]
      exact ⟨wx, (wo ||| ((1 : Int32) <<< (p1 &&& 31))), (nar .char (fnTok wm)), rfl, N55, K_55, F_xCells_p0_55, F_oCells_p0_55, F_marks_p0_55, F_winner_p0_55, F_lastMove_p0_55, Or.inr ⟨hc34_3, rfl, rfl, (by unfold own_wn; rw [if_pos hc122_54])⟩⟩
    · refine own_step (T' := T51) (g' := (mkF m 131 #[.val (.ref p0), .val (.int p1), .val (.int (fnTok wm)), .val (.int (wo ||| ((1 : Int32) <<< (p1 &&& 31)))), .val (.ref aL), .val (.int (8 : Int32)), .val (.int (0 : Int32)), .val (.int (7 : Int32))] [])) (fun t k => XS.icmpYes X51.here hx rfl (pc0 := 122) (pc' := 131) rfl (hb hby d7_122) rfl (feq hc122_54).2 (by decide) (by decide) k) ?_
      refine own_step (T' := T51) (g' := (mkF m 134 #[.val (.ref p0), .val (.int p1), .val (.int (fnTok wm)), .val (.int (wo ||| ((1 : Int32) <<< (p1 &&& 31)))), .val (.ref aL), .val (.int (8 : Int32)), .val (.int (1 : Int32)), .val (.int (7 : Int32))] [])) (fun t k => XS.iinc X51.here hx rfl (hb hby d7_131) rfl (l' := #[.val (.ref p0), .val (.int p1), .val (.int (fnTok wm)), .val (.int (wo ||| ((1 : Int32) <<< (p1 &&& 31)))), .val (.ref aL), .val (.int (8 : Int32)), .val (.int (1 : Int32)), .val (.int (7 : Int32))]) rfl k) ?_
      refine own_step (T' := T51) (g' := (mkF m 102 #[.val (.ref p0), .val (.int p1), .val (.int (fnTok wm)), .val (.int (wo ||| ((1 : Int32) <<< (p1 &&& 31)))), .val (.ref aL), .val (.int (8 : Int32)), .val (.int (1 : Int32)), .val (.int (7 : Int32))] [])) (fun t k => XS.goto X51.here hx rfl (pc0 := 134) (pc' := 102) rfl (hb hby d7_134) (by decide) (by decide) k) ?_
      refine own_step (T' := T51) (g' := (mkF m 104 #[.val (.ref p0), .val (.int p1), .val (.int (fnTok wm)), .val (.int (wo ||| ((1 : Int32) <<< (p1 &&& 31)))), .val (.ref aL), .val (.int (8 : Int32)), .val (.int (1 : Int32)), .val (.int (7 : Int32))] [(.int (1 : Int32))])) (fun t k => XS.iload X51.here hx rfl (hb hby d7_102) rfl k) ?_
      refine own_step (T' := T51) (g' := (mkF m 106 #[.val (.ref p0), .val (.int p1), .val (.int (fnTok wm)), .val (.int (wo ||| ((1 : Int32) <<< (p1 &&& 31)))), .val (.ref aL), .val (.int (8 : Int32)), .val (.int (1 : Int32)), .val (.int (7 : Int32))] [(.int (8 : Int32)), (.int (1 : Int32))])) (fun t k => XS.iload X51.here hx rfl (hb hby d7_104) rfl k) ?_
      refine own_step (T' := T51) (g' := (mkF m 109 #[.val (.ref p0), .val (.int p1), .val (.int (fnTok wm)), .val (.int (wo ||| ((1 : Int32) <<< (p1 &&& 31)))), .val (.ref aL), .val (.int (8 : Int32)), .val (.int (1 : Int32)), .val (.int (7 : Int32))] [])) (fun t k => XS.icmpNo X51.here hx rfl (hb hby d7_106) rfl (tlt (by decide : (1 : Int32) < (8 : Int32))).2.1 k) ?_
      refine own_step (T' := T51) (g' := (mkF m 111 #[.val (.ref p0), .val (.int p1), .val (.int (fnTok wm)), .val (.int (wo ||| ((1 : Int32) <<< (p1 &&& 31)))), .val (.ref aL), .val (.int (8 : Int32)), .val (.int (1 : Int32)), .val (.int (7 : Int32))] [(.ref aL)])) (fun t k => XS.aload X51.here hx rfl (hb hby d7_109) rfl rfl k) ?_
      refine own_step (T' := T51) (g' := (mkF m 113 #[.val (.ref p0), .val (.int p1), .val (.int (fnTok wm)), .val (.int (wo ||| ((1 : Int32) <<< (p1 &&& 31)))), .val (.ref aL), .val (.int (8 : Int32)), .val (.int (1 : Int32)), .val (.int (7 : Int32))] [(.int (1 : Int32)), (.ref aL)])) (fun t k => XS.iload X51.here hx rfl (hb hby d7_111) rfl k) ?_
      obtain ⟨cl57, Ar57, q57, Sz57, Nn57, Hh57, Gg57⟩ := id V_aL_50
      have hin57 : ¬ ((1 : Int32) < 0 ∨ cl57.slots.size ≤ ((1 : Int32)).toNatClampNeg) := inb_of Sz57 ⟨by decide, by decide⟩
      refine own_step (T' := T51) (g' := (mkF m 114 #[.val (.ref p0), .val (.int p1), .val (.int (fnTok wm)), .val (.int (wo ||| ((1 : Int32) <<< (p1 &&& 31)))), .val (.ref aL), .val (.int (8 : Int32)), .val (.int (1 : Int32)), .val (.int (7 : Int32))] [(.int (56 : Int32))])) (fun t k => X51.iaload hx (j := (1 : Int32)) (v := (.int (56 : Int32))) (by rw [e51]; exact Ar57.1) (State.isArrayOf_alike hZ.alike Ar57.2.1) Ar57.2.2 hin57 (Has.at Hh57 hin57 rfl) (g := (mkF m 113 #[.val (.ref p0), .val (.int p1), .val (.int (fnTok wm)), .val (.int (wo ||| ((1 : Int32) <<< (p1 &&& 31)))), .val (.ref aL), .val (.int (8 : Int32)), .val (.int (1 : Int32)), .val (.int (7 : Int32))] [(.int (1 : Int32)), (.ref aL)])) rfl rfl (hb hby d7_113) t k) ?_
      refine own_step (T' := T51) (g' := (mkF m 116 #[.val (.ref p0), .val (.int p1), .val (.int (fnTok wm)), .val (.int (wo ||| ((1 : Int32) <<< (p1 &&& 31)))), .val (.ref aL), .val (.int (8 : Int32)), .val (.int (1 : Int32)), .val (.int (56 : Int32))] [])) (fun t k => XS.istore X51.here hx rfl (hb hby d7_114) rfl (l' := #[.val (.ref p0), .val (.int p1), .val (.int (fnTok wm)), .val (.int (wo ||| ((1 : Int32) <<< (p1 &&& 31)))), .val (.ref aL), .val (.int (8 : Int32)), .val (.int (1 : Int32)), .val (.int (56 : Int32))]) rfl k) ?_
      refine own_step (T' := T51) (g' := (mkF m 117 #[.val (.ref p0), .val (.int p1), .val (.int (fnTok wm)), .val (.int (wo ||| ((1 : Int32) <<< (p1 &&& 31)))), .val (.ref aL), .val (.int (8 : Int32)), .val (.int (1 : Int32)), .val (.int (56 : Int32))] [(.int (wo ||| ((1 : Int32) <<< (p1 &&& 31))))])) (fun t k => XS.iloadN X51.here hx rfl (hb hby d7_116) rfl k) ?_
      refine own_step (T' := T51) (g' := (mkF m 119 #[.val (.ref p0), .val (.int p1), .val (.int (fnTok wm)), .val (.int (wo ||| ((1 : Int32) <<< (p1 &&& 31)))), .val (.ref aL), .val (.int (8 : Int32)), .val (.int (1 : Int32)), .val (.int (56 : Int32))] [(.int (56 : Int32)), (.int (wo ||| ((1 : Int32) <<< (p1 &&& 31))))])) (fun t k => XS.iload X51.here hx rfl (hb hby d7_117) rfl k) ?_
      refine own_step (T' := T51) (g' := (mkF m 120 #[.val (.ref p0), .val (.int p1), .val (.int (fnTok wm)), .val (.int (wo ||| ((1 : Int32) <<< (p1 &&& 31)))), .val (.ref aL), .val (.int (8 : Int32)), .val (.int (1 : Int32)), .val (.int (56 : Int32))] [(.int ((wo ||| ((1 : Int32) <<< (p1 &&& 31))) &&& (56 : Int32)))])) (fun t k => XS.iand X51.here hx rfl (hb hby d7_119) rfl k) ?_
      refine own_step (T' := T51) (g' := (mkF m 122 #[.val (.ref p0), .val (.int p1), .val (.int (fnTok wm)), .val (.int (wo ||| ((1 : Int32) <<< (p1 &&& 31)))), .val (.ref aL), .val (.int (8 : Int32)), .val (.int (1 : Int32)), .val (.int (56 : Int32))] [(.int (56 : Int32)), (.int ((wo ||| ((1 : Int32) <<< (p1 &&& 31))) &&& (56 : Int32)))])) (fun t k => XS.iload X51.here hx rfl (hb hby d7_120) rfl k) ?_
      by_cases hc122_58 : ((wo ||| ((1 : Int32) <<< (p1 &&& 31))) &&& (56 : Int32)) = (56 : Int32)
      · refine own_step (T' := T51) (g' := (mkF m 125 #[.val (.ref p0), .val (.int p1), .val (.int (fnTok wm)), .val (.int (wo ||| ((1 : Int32) <<< (p1 &&& 31)))), .val (.ref aL), .val (.int (8 : Int32)), .val (.int (1 : Int32)), .val (.int (56 : Int32))] [])) (fun t k => XS.icmpNo X51.here hx rfl (hb hby d7_122) rfl (teq hc122_58).2 k) ?_
        refine own_step (T' := T51) (g' := (mkF m 126 #[.val (.ref p0), .val (.int p1), .val (.int (fnTok wm)), .val (.int (wo ||| ((1 : Int32) <<< (p1 &&& 31)))), .val (.ref aL), .val (.int (8 : Int32)), .val (.int (1 : Int32)), .val (.int (56 : Int32))] [(.ref p0)])) (fun t k => XS.aloadN X51.here hx rfl (hb hby d7_125) rfl rfl k) ?_
        refine own_step (T' := T51) (g' := (mkF m 127 #[.val (.ref p0), .val (.int p1), .val (.int (fnTok wm)), .val (.int (wo ||| ((1 : Int32) <<< (p1 &&& 31)))), .val (.ref aL), .val (.int (8 : Int32)), .val (.int (1 : Int32)), .val (.int (56 : Int32))] [(.int (fnTok wm)), (.ref p0)])) (fun t k => XS.iloadN X51.here hx rfl (hb hby d7_126) rfl k) ?_
        obtain ⟨T59, h59, X59, e59, W59, st59⟩ := putFN X51 hx hZ hown (hw _ (List.mem_of_getElem? (i := 12) rfl)) Via.refl e51 F_winner_p0_50 E_p0_50 (Or.inl (hw _ (List.mem_of_getElem? (i := 13) rfl))) (hw _ (List.mem_of_getElem? (i := 2) rfl)) (ty := .char) (v' := (.int (nar .char (fnTok wm)))) (by decide) rfl (fits_nar_char (fnTok wm)) (g := (mkF m 127 #[.val (.ref p0), .val (.int p1), .val (.int (fnTok wm)), .val (.int (wo ||| ((1 : Int32) <<< (p1 &&& 31)))), .val (.ref aL), .val (.int (8 : Int32)), .val (.int (1 : Int32)), .val (.int (56 : Int32))] [(.int (fnTok wm)), (.ref p0)])) rfl rfl (hb hby d7_127)
        have E_p0_59 : Exa Z h59 p0 "com/example/tilescript/tilescript/TicTacToe" := E_p0_50.wr W59
        have F_xCells_p0_59 : Fld Z h59 p0 "com/example/tilescript/tilescript/TicTacToe" "xCells" "I" (.int wx) := F_xCells_p0_50.other W59 (Or.inr (slot_ne (Or.inl (hw _ (List.mem_of_getElem? (i := 47) rfl))) (Or.inl (hw _ (List.mem_of_getElem? (i := 13) rfl))) (by decide) (t := .int) (t' := .char) (by decide) (by decide)))
        have S_LINES_59 : Sta Z h59 "com/example/tilescript/tilescript/TicTacToe" "LINES" "[I" (.ref aL) := S_LINES_50.wr W59
        have V_aL_59 : Arv Z h59 aL kL .int (8 : Int32) [(.int (7 : Int32)), (.int (56 : Int32)), (.int (448 : Int32)), (.int (73 : Int32)), (.int (146 : Int32)), (.int (292 : Int32)), (.int (273 : Int32)), (.int (84 : Int32))] (.int (0 : Int32)) := V_aL_50.other W59 neL
        have F_oCells_p0_59 : Fld Z h59 p0 "com/example/tilescript/tilescript/TicTacToe" "oCells" "I" (.int (wo ||| ((1 : Int32) <<< (p1 &&& 31)))) := F_oCells_p0_50.other W59 (Or.inr (slot_ne (Or.inl (hw _ (List.mem_of_getElem? (i := 49) rfl))) (Or.inl (hw _ (List.mem_of_getElem? (i := 13) rfl))) (by decide) (t := .int) (t' := .char) (by decide) (by decide)))
        have F_marks_p0_59 : Fld Z h59 p0 "com/example/tilescript/tilescript/TicTacToe" "marks" "I" (.int (wm + (1 : Int32))) := F_marks_p0_50.other W59 (Or.inr (slot_ne (Or.inl (hw _ (List.mem_of_getElem? (i := 45) rfl))) (Or.inl (hw _ (List.mem_of_getElem? (i := 13) rfl))) (by decide) (t := .int) (t' := .char) (by decide) (by decide)))
        have F_lastMove_p0_59 : Fld Z h59 p0 "com/example/tilescript/tilescript/TicTacToe" "lastMove" "I" (.int p1) := F_lastMove_p0_50.other W59 (Or.inr (slot_ne (Or.inl (hw _ (List.mem_of_getElem? (i := 11) rfl))) (Or.inl (hw _ (List.mem_of_getElem? (i := 13) rfl))) (by decide) (t := .int) (t' := .char) (by decide) (by decide)))
        have K_59 : Keep h0 h59 [p0] := K_50.wr W59 (Or.inl (List.mem_of_getElem? (i := 0) rfl))
        have N59 := Fr.snoc X59 N50 g_p0
        have F_winner_p0_59 : Fld Z h59 p0 "com/example/tilescript/tilescript/TicTacToe" "winner" "C" (.int (nar .char (fnTok wm))) := F_winner_p0_50.same W59
        refine own_step (T' := T59) (g' := (mkF m 130 #[.val (.ref p0), .val (.int p1), .val (.int (fnTok wm)), .val (.int (wo ||| ((1 : Int32) <<< (p1 &&& 31)))), .val (.ref aL), .val (.int (8 : Int32)), .val (.int (1 : Int32)), .val (.int (56 : Int32))] [])) st59 ?_
        refine own_retV X59 hx hlk Bd.returns (hb hby d7_130) (by decide) (by decide) ?_
        rw [e59]
        exact ⟨wx, (wo ||| ((1 : Int32) <<< (p1 &&& 31))), (nar .char (fnTok wm)), rfl, N59, K_59, F_xCells_p0_59, F_oCells_p0_59, F_marks_p0_59, F_winner_p0_59, F_lastMove_p0_59, Or.inr ⟨hc34_3, rfl, rfl, (by unfold own_wn; rw [if_neg hc122_54, if_pos hc122_58])⟩⟩
      · refine own_step (T' := T51) (g' := (mkF m 131 #[.val (.ref p0), .val (.int p1), .val (.int (fnTok wm)), .val (.int (wo ||| ((1 : Int32) <<< (p1 &&& 31)))), .val (.ref aL), .val (.int (8 : Int32)), .val (.int (1 : Int32)), .val (.int (56 : Int32))] [])) (fun t k => XS.icmpYes X51.here hx rfl (pc0 := 122) (pc' := 131) rfl (hb hby d7_122) rfl (feq hc122_58).2 (by decide) (by decide) k) ?_
        refine own_step (T' := T51) (g' := (mkF m 134 #[.val (.ref p0), .val (.int p1), .val (.int (fnTok wm)), .val (.int (wo ||| ((1 : Int32) <<< (p1 &&& 31)))), .val (.ref aL), .val (.int (8 : Int32)), .val (.int (2 : Int32)), .val (.int (56 : Int32))] [])) (fun t k => XS.iinc X51.here hx rfl (hb hby d7_131) rfl (l' := #[.val (.ref p0), .val (.int p1), .val (.int (fnTok wm)), .val (.int (wo ||| ((1 : Int32) <<< (p1 &&& 31)))), .val (.ref aL), .val (.int (8 : Int32)), .val (.int (2 : Int32)), .val (.int (56 : Int32))]) rfl k) ?_
        refine own_step (T' := T51) (g' := (mkF m 102 #[.val (.ref p0), .val (.int p1), .val (.int (fnTok wm)), .val (.int (wo ||| ((1 : Int32) <<< (p1 &&& 31)))), .val (.ref aL), .val (.int (8 : Int32)), .val (.int (2 : Int32)), .val (.int (56 : Int32))] [])) (fun t k => XS.goto X51.here hx rfl (pc0 := 134) (pc' := 102) rfl (hb hby d7_134) (by decide) (by decide) k) ?_
        refine own_step (T' := T51) (g' := (mkF m 104 #[.val (.ref p0), .val (.int p1), .val (.int (fnTok wm)), .val (.int (wo ||| ((1 : Int32) <<< (p1 &&& 31)))), .val (.ref aL), .val (.int (8 : Int32)), .val (.int (2 : Int32)), .val (.int (56 : Int32))] [(.int (2 : Int32))])) (fun t k => XS.iload X51.here hx rfl (hb hby d7_102) rfl k) ?_
        refine own_step (T' := T51) (g' := (mkF m 106 #[.val (.ref p0), .val (.int p1), .val (.int (fnTok wm)), .val (.int (wo ||| ((1 : Int32) <<< (p1 &&& 31)))), .val (.ref aL), .val (.int (8 : Int32)), .val (.int (2 : Int32)), .val (.int (56 : Int32))] [(.int (8 : Int32)), (.int (2 : Int32))])) (fun t k => XS.iload X51.here hx rfl (hb hby d7_104) rfl k) ?_
        refine own_step (T' := T51) (g' := (mkF m 109 #[.val (.ref p0), .val (.int p1), .val (.int (fnTok wm)), .val (.int (wo ||| ((1 : Int32) <<< (p1 &&& 31)))), .val (.ref aL), .val (.int (8 : Int32)), .val (.int (2 : Int32)), .val (.int (56 : Int32))] [])) (fun t k => XS.icmpNo X51.here hx rfl (hb hby d7_106) rfl (tlt (by decide : (2 : Int32) < (8 : Int32))).2.1 k) ?_
        refine own_step (T' := T51) (g' := (mkF m 111 #[.val (.ref p0), .val (.int p1), .val (.int (fnTok wm)), .val (.int (wo ||| ((1 : Int32) <<< (p1 &&& 31)))), .val (.ref aL), .val (.int (8 : Int32)), .val (.int (2 : Int32)), .val (.int (56 : Int32))] [(.ref aL)])) (fun t k => XS.aload X51.here hx rfl (hb hby d7_109) rfl rfl k) ?_
        refine own_step (T' := T51) (g' := (mkF m 113 #[.val (.ref p0), .val (.int p1), .val (.int (fnTok wm)), .val (.int (wo ||| ((1 : Int32) <<< (p1 &&& 31)))), .val (.ref aL), .val (.int (8 : Int32)), .val (.int (2 : Int32)), .val (.int (56 : Int32))] [(.int (2 : Int32)), (.ref aL)])) (fun t k => XS.iload X51.here hx rfl (hb hby d7_111) rfl k) ?_
        obtain ⟨cl61, Ar61, q61, Sz61, Nn61, Hh61, Gg61⟩ := id V_aL_50
        have hin61 : ¬ ((2 : Int32) < 0 ∨ cl61.slots.size ≤ ((2 : Int32)).toNatClampNeg) := inb_of Sz61 ⟨by decide, by decide⟩
        refine own_step (T' := T51) (g' := (mkF m 114 #[.val (.ref p0), .val (.int p1), .val (.int (fnTok wm)), .val (.int (wo ||| ((1 : Int32) <<< (p1 &&& 31)))), .val (.ref aL), .val (.int (8 : Int32)), .val (.int (2 : Int32)), .val (.int (56 : Int32))] [(.int (448 : Int32))])) (fun t k => X51.iaload hx (j := (2 : Int32)) (v := (.int (448 : Int32))) (by rw [e51]; exact Ar61.1) (State.isArrayOf_alike hZ.alike Ar61.2.1) Ar61.2.2 hin61 (Has.at Hh61 hin61 rfl) (g := (mkF m 113 #[.val (.ref p0), .val (.int p1), .val (.int (fnTok wm)), .val (.int (wo ||| ((1 : Int32) <<< (p1 &&& 31)))), .val (.ref aL), .val (.int (8 : Int32)), .val (.int (2 : Int32)), .val (.int (56 : Int32))] [(.int (2 : Int32)), (.ref aL)])) rfl rfl (hb hby d7_113) t k) ?_
        refine own_step (T' := T51) (g' := (mkF m 116 #[.val (.ref p0), .val (.int p1), .val (.int (fnTok wm)), .val (.int (wo ||| ((1 : Int32) <<< (p1 &&& 31)))), .val (.ref aL), .val (.int (8 : Int32)), .val (.int (2 : Int32)), .val (.int (448 : Int32))] [])) (fun t k => XS.istore X51.here hx rfl (hb hby d7_114) rfl (l' := #[.val (.ref p0), .val (.int p1), .val (.int (fnTok wm)), .val (.int (wo ||| ((1 : Int32) <<< (p1 &&& 31)))), .val (.ref aL), .val (.int (8 : Int32)), .val (.int (2 : Int32)), .val (.int (448 : Int32))]) rfl k) ?_
        refine own_step (T' := T51) (g' := (mkF m 117 #[.val (.ref p0), .val (.int p1), .val (.int (fnTok wm)), .val (.int (wo ||| ((1 : Int32) <<< (p1 &&& 31)))), .val (.ref aL), .val (.int (8 : Int32)), .val (.int (2 : Int32)), .val (.int (448 : Int32))] [(.int (wo ||| ((1 : Int32) <<< (p1 &&& 31))))])) (fun t k => XS.iloadN X51.here hx rfl (hb hby d7_116) rfl k) ?_
        refine own_step (T' := T51) (g' := (mkF m 119 #[.val (.ref p0), .val (.int p1), .val (.int (fnTok wm)), .val (.int (wo ||| ((1 : Int32) <<< (p1 &&& 31)))), .val (.ref aL), .val (.int (8 : Int32)), .val (.int (2 : Int32)), .val (.int (448 : Int32))] [(.int (448 : Int32)), (.int (wo ||| ((1 : Int32) <<< (p1 &&& 31))))])) (fun t k => XS.iload X51.here hx rfl (hb hby d7_117) rfl k) ?_
        refine own_step (T' := T51) (g' := (mkF m 120 #[.val (.ref p0), .val (.int p1), .val (.int (fnTok wm)), .val (.int (wo ||| ((1 : Int32) <<< (p1 &&& 31)))), .val (.ref aL), .val (.int (8 : Int32)), .val (.int (2 : Int32)), .val (.int (448 : Int32))] [(.int ((wo ||| ((1 : Int32) <<< (p1 &&& 31))) &&& (448 : Int32)))])) (fun t k => XS.iand X51.here hx rfl (hb hby d7_119) rfl k) ?_
        refine own_step (T' := T51) (g' := (mkF m 122 #[.val (.ref p0), .val (.int p1), .val (.int (fnTok wm)), .val (.int (wo ||| ((1 : Int32) <<< (p1 &&& 31)))), .val (.ref aL), .val (.int (8 : Int32)), .val (.int (2 : Int32)), .val (.int (448 : Int32))] [(.int (448 : Int32)), (.int ((wo ||| ((1 : Int32) <<< (p1 &&& 31))) &&& (448 : Int32)))])) (fun t k => XS.iload X51.here hx rfl (hb hby d7_120) rfl k) ?_
        by_cases hc122_62 : ((wo ||| ((1 : Int32) <<< (p1 &&& 31))) &&& (448 : Int32)) = (448 : Int32)
        · refine own_step (T' := T51) (g' := (mkF m 125 #[.val (.ref p0), .val (.int p1), .val (.int (fnTok wm)), .val (.int (wo ||| ((1 : Int32) <<< (p1 &&& 31)))), .val (.ref aL), .val (.int (8 : Int32)), .val (.int (2 : Int32)), .val (.int (448 : Int32))] [])) (fun t k => XS.icmpNo X51.here hx rfl (hb hby d7_122) rfl (teq hc122_62).2 k) ?_
          refine own_step (T' := T51) (g' := (mkF m 126 #[.val (.ref p0), .val (.int p1), .val (.int (fnTok wm)), .val (.int (wo ||| ((1 : Int32) <<< (p1 &&& 31)))), .val (.ref aL), .val (.int (8 : Int32)), .val (.int (2 : Int32)), .val (.int (448 : Int32))] [(.ref p0)])) (fun t k => XS.aloadN X51.here hx rfl (hb hby d7_125) rfl rfl k) ?_
          refine own_step (T' := T51) (g' := (mkF m 127 #[.val (.ref p0), .val (.int p1), .val (.int (fnTok wm)), .val (.int (wo ||| ((1 : Int32) <<< (p1 &&& 31)))), .val (.ref aL), .val (.int (8 : Int32)), .val (.int (2 : Int32)), .val (.int (448 : Int32))] [(.int (fnTok wm)), (.ref p0)])) (fun t k => XS.iloadN X51.here hx rfl (hb hby d7_126) rfl k) ?_
          obtain ⟨T63, h63, X63, e63, W63, st63⟩ := putFN X51 hx hZ hown (hw _ (List.mem_of_getElem? (i := 12) rfl)) Via.refl e51 F_winner_p0_50 E_p0_50 (Or.inl (hw _ (List.mem_of_getElem? (i := 13) rfl))) (hw _ (List.mem_of_getElem? (i := 2) rfl)) (ty := .char) (v' := (.int (nar .char (fnTok wm)))) (by decide) rfl (fits_nar_char (fnTok wm)) (g := (mkF m 127 #[.val (.ref p0), .val (.int p1), .val (.int (fnTok wm)), .val (.int (wo ||| ((1 : Int32) <<< (p1 &&& 31)))), .val (.ref aL), .val (.int (8 : Int32)), .val (.int (2 : Int32)), .val (.int (448 : Int32))] [(.int (fnTok wm)), (.ref p0)])) rfl rfl (hb hby d7_127)
          have E_p0_63 : Exa Z h63 p0 "com/example/tilescript/tilescript/TicTacToe" := E_p0_50.wr W63
          have F_xCells_p0_63 : Fld Z h63 p0 "com/example/tilescript/tilescript/TicTacToe" "xCells" "I" (.int wx) := F_xCells_p0_50.other W63 (Or.inr (slot_ne (Or.inl (hw _ (List.mem_of_getElem? (i := 47) rfl))) (Or.inl (hw _ (List.mem_of_getElem? (i := 13) rfl))) (by decide) (t := .int) (t' := .char) (by decide) (by decide)))
          have S_LINES_63 : Sta Z h63 "com/example/tilescript/tilescript/TicTacToe" "LINES" "[I" (.ref aL) := S_LINES_50.wr W63
          have V_aL_63 : Arv Z h63 aL kL .int (8 : Int32) [(.int (7 : Int32)), (.int (56 : Int32)), (.int (448 : Int32)), (.int (73 : Int32)), (.int (146 : Int32)), (.int (292 : Int32)), (.int (273 : Int32)), (.int (84 : Int32))] (.int (0 : Int32)) := V_aL_50.other W63 neL
          have F_oCells_p0_63 : Fld Z h63 p0 "com/example/tilescript/tilescript/TicTacToe" "oCells" "I" (.int (wo ||| ((1 : Int32) <<< (p1 &&& 31)))) := F_oCells_p0_50.other W63 (Or.inr (slot_ne (Or.inl (hw _ (List.mem_of_getElem? (i := 49) rfl))) (Or.inl (hw _ (List.mem_of_getElem? (i := 13) rfl))) (by decide) (t := .int) (t' := .char) (by decide) (by decide)))
          have F_marks_p0_63 : Fld Z h63 p0 "com/example/tilescript/tilescript/TicTacToe" "marks" "I" (.int (wm + (1 : Int32))) := F_marks_p0_50.other W63 (Or.inr (slot_ne (Or.inl (hw _ (List.mem_of_getElem? (i := 45) rfl))) (Or.inl (hw _ (List.mem_of_getElem? (i := 13) rfl))) (by decide) (t := .int) (t' := .char) (by decide) (by decide)))
          have F_lastMove_p0_63 : Fld Z h63 p0 "com/example/tilescript/tilescript/TicTacToe" "lastMove" "I" (.int p1) := F_lastMove_p0_50.other W63 (Or.inr (slot_ne (Or.inl (hw _ (List.mem_of_getElem? (i := 11) rfl))) (Or.inl (hw _ (List.mem_of_getElem? (i := 13) rfl))) (by decide) (t := .int) (t' := .char) (by decide) (by decide)))
          have K_63 : Keep h0 h63 [p0] := K_50.wr W63 (Or.inl (List.mem_of_getElem? (i := 0) rfl))
          have N63 := Fr.snoc X63 N50 g_p0
          have F_winner_p0_63 : Fld Z h63 p0 "com/example/tilescript/tilescript/TicTacToe" "winner" "C" (.int (nar .char (fnTok wm))) := F_winner_p0_50.same W63
          refine own_step (T' := T63) (g' := (mkF m 130 #[.val (.ref p0), .val (.int p1), .val (.int (fnTok wm)), .val (.int (wo ||| ((1 : Int32) <<< (p1 &&& 31)))), .val (.ref aL), .val (.int (8 : Int32)), .val (.int (2 : Int32)), .val (.int (448 : Int32))] [])) st63 ?_
          refine own_retV X63 hx hlk Bd.returns (hb hby d7_130) (by decide) (by decide) ?_
          rw [e63]
          exact ⟨wx, (wo ||| ((1 : Int32) <<< (p1 &&& 31))), (nar .char (fnTok wm)), rfl, N63, K_63, F_xCells_p0_63, F_oCells_p0_63, F_marks_p0_63, F_winner_p0_63, F_lastMove_p0_63, Or.inr ⟨hc34_3, rfl, rfl, (by unfold own_wn; rw [if_neg hc122_54, if_neg hc122_58, if_pos hc122_62])⟩⟩
        · refine own_step (T' := T51) (g' := (mkF m 131 #[.val (.ref p0), .val (.int p1), .val (.int (fnTok wm)), .val (.int (wo ||| ((1 : Int32) <<< (p1 &&& 31)))), .val (.ref aL), .val (.int (8 : Int32)), .val (.int (2 : Int32)), .val (.int (448 : Int32))] [])) (fun t k => XS.icmpYes X51.here hx rfl (pc0 := 122) (pc' := 131) rfl (hb hby d7_122) rfl (feq hc122_62).2 (by decide) (by decide) k) ?_
          refine own_step (T' := T51) (g' := (mkF m 134 #[.val (.ref p0), .val (.int p1), .val (.int (fnTok wm)), .val (.int (wo ||| ((1 : Int32) <<< (p1 &&& 31)))), .val (.ref aL), .val (.int (8 : Int32)), .val (.int (3 : Int32)), .val (.int (448 : Int32))] [])) (fun t k => XS.iinc X51.here hx rfl (hb hby d7_131) rfl (l' := #[.val (.ref p0), .val (.int p1), .val (.int (fnTok wm)), .val (.int (wo ||| ((1 : Int32) <<< (p1 &&& 31)))), .val (.ref aL), .val (.int (8 : Int32)), .val (.int (3 : Int32)), .val (.int (448 : Int32))]) rfl k) ?_
          refine own_step (T' := T51) (g' := (mkF m 102 #[.val (.ref p0), .val (.int p1), .val (.int (fnTok wm)), .val (.int (wo ||| ((1 : Int32) <<< (p1 &&& 31)))), .val (.ref aL), .val (.int (8 : Int32)), .val (.int (3 : Int32)), .val (.int (448 : Int32))] [])) (fun t k => XS.goto X51.here hx rfl (pc0 := 134) (pc' := 102) rfl (hb hby d7_134) (by decide) (by decide) k) ?_
          refine own_step (T' := T51) (g' := (mkF m 104 #[.val (.ref p0), .val (.int p1), .val (.int (fnTok wm)), .val (.int (wo ||| ((1 : Int32) <<< (p1 &&& 31)))), .val (.ref aL), .val (.int (8 : Int32)), .val (.int (3 : Int32)), .val (.int (448 : Int32))] [(.int (3 : Int32))])) (fun t k => XS.iload X51.here hx rfl (hb hby d7_102) rfl k) ?_
          refine own_step (T' := T51) (g' := (mkF m 106 #[.val (.ref p0), .val (.int p1), .val (.int (fnTok wm)), .val (.int (wo ||| ((1 : Int32) <<< (p1 &&& 31)))), .val (.ref aL), .val (.int (8 : Int32)), .val (.int (3 : Int32)), .val (.int (448 : Int32))] [(.int (8 : Int32)), (.int (3 : Int32))])) (fun t k => XS.iload X51.here hx rfl (hb hby d7_104) rfl k) ?_
          refine own_step (T' := T51) (g' := (mkF m 109 #[.val (.ref p0), .val (.int p1), .val (.int (fnTok wm)), .val (.int (wo ||| ((1 : Int32) <<< (p1 &&& 31)))), .val (.ref aL), .val (.int (8 : Int32)), .val (.int (3 : Int32)), .val (.int (448 : Int32))] [])) (fun t k => XS.icmpNo X51.here hx rfl (hb hby d7_106) rfl (tlt (by decide : (3 : Int32) < (8 : Int32))).2.1 k) ?_
          refine own_step (T' := T51) (g' := (mkF m 111 #[.val (.ref p0), .val (.int p1), .val (.int (fnTok wm)), .val (.int (wo ||| ((1 : Int32) <<< (p1 &&& 31)))), .val (.ref aL), .val (.int (8 : Int32)), .val (.int (3 : Int32)), .val (.int (448 : Int32))] [(.ref aL)])) (fun t k => XS.aload X51.here hx rfl (hb hby d7_109) rfl rfl k) ?_
          refine own_step (T' := T51) (g' := (mkF m 113 #[.val (.ref p0), .val (.int p1), .val (.int (fnTok wm)), .val (.int (wo ||| ((1 : Int32) <<< (p1 &&& 31)))), .val (.ref aL), .val (.int (8 : Int32)), .val (.int (3 : Int32)), .val (.int (448 : Int32))] [(.int (3 : Int32)), (.ref aL)])) (fun t k => XS.iload X51.here hx rfl (hb hby d7_111) rfl k) ?_
          obtain ⟨cl65, Ar65, q65, Sz65, Nn65, Hh65, Gg65⟩ := id V_aL_50
          have hin65 : ¬ ((3 : Int32) < 0 ∨ cl65.slots.size ≤ ((3 : Int32)).toNatClampNeg) := inb_of Sz65 ⟨by decide, by decide⟩
          refine own_step (T' := T51) (g' := (mkF m 114 #[.val (.ref p0), .val (.int p1), .val (.int (fnTok wm)), .val (.int (wo ||| ((1 : Int32) <<< (p1 &&& 31)))), .val (.ref aL), .val (.int (8 : Int32)), .val (.int (3 : Int32)), .val (.int (448 : Int32))] [(.int (73 : Int32))])) (fun t k => X51.iaload hx (j := (3 : Int32)) (v := (.int (73 : Int32))) (by rw [e51]; exact Ar65.1) (State.isArrayOf_alike hZ.alike Ar65.2.1) Ar65.2.2 hin65 (Has.at Hh65 hin65 rfl) (g := (mkF m 113 #[.val (.ref p0), .val (.int p1), .val (.int (fnTok wm)), .val (.int (wo ||| ((1 : Int32) <<< (p1 &&& 31)))), .val (.ref aL), .val (.int (8 : Int32)), .val (.int (3 : Int32)), .val (.int (448 : Int32))] [(.int (3 : Int32)), (.ref aL)])) rfl rfl (hb hby d7_113) t k) ?_
          refine own_step (T' := T51) (g' := (mkF m 116 #[.val (.ref p0), .val (.int p1), .val (.int (fnTok wm)), .val (.int (wo ||| ((1 : Int32) <<< (p1 &&& 31)))), .val (.ref aL), .val (.int (8 : Int32)), .val (.int (3 : Int32)), .val (.int (73 : Int32))] [])) (fun t k => XS.istore X51.here hx rfl (hb hby d7_114) rfl (l' := #[.val (.ref p0), .val (.int p1), .val (.int (fnTok wm)), .val (.int (wo ||| ((1 : Int32) <<< (p1 &&& 31)))), .val (.ref aL), .val (.int (8 : Int32)), .val (.int (3 : Int32)), .val (.int (73 : Int32))]) rfl k) ?_
          refine own_step (T' := T51) (g' := (mkF m 117 #[.val (.ref p0), .val (.int p1), .val (.int (fnTok wm)), .val (.int (wo ||| ((1 : Int32) <<< (p1 &&& 31)))), .val (.ref aL), .val (.int (8 : Int32)), .val (.int (3 : Int32)), .val (.int (73 : Int32))] [(.int (wo ||| ((1 : Int32) <<< (p1 &&& 31))))])) (fun t k => XS.iloadN X51.here hx rfl (hb hby d7_116) rfl k) ?_
          refine own_step (T' := T51) (g' := (mkF m 119 #[.val (.ref p0), .val (.int p1), .val (.int (fnTok wm)), .val (.int (wo ||| ((1 : Int32) <<< (p1 &&& 31)))), .val (.ref aL), .val (.int (8 : Int32)), .val (.int (3 : Int32)), .val (.int (73 : Int32))] [(.int (73 : Int32)), (.int (wo ||| ((1 : Int32) <<< (p1 &&& 31))))])) (fun t k => XS.iload X51.here hx rfl (hb hby d7_117) rfl k) ?_
          refine own_step (T' := T51) (g' := (mkF m 120 #[.val (.ref p0), .val (.int p1), .val (.int (fnTok wm)), .val (.int (wo ||| ((1 : Int32) <<< (p1 &&& 31)))), .val (.ref aL), .val (.int (8 : Int32)), .val (.int (3 : Int32)), .val (.int (73 : Int32))] [(.int ((wo ||| ((1 : Int32) <<< (p1 &&& 31))) &&& (73 : Int32)))])) (fun t k => XS.iand X51.here hx rfl (hb hby d7_119) rfl k) ?_
          refine own_step (T' := T51) (g' := (mkF m 122 #[.val (.ref p0), .val (.int p1), .val (.int (fnTok wm)), .val (.int (wo ||| ((1 : Int32) <<< (p1 &&& 31)))), .val (.ref aL), .val (.int (8 : Int32)), .val (.int (3 : Int32)), .val (.int (73 : Int32))] [(.int (73 : Int32)), (.int ((wo ||| ((1 : Int32) <<< (p1 &&& 31))) &&& (73 : Int32)))])) (fun t k => XS.iload X51.here hx rfl (hb hby d7_120) rfl k) ?_
          by_cases hc122_66 : ((wo ||| ((1 : Int32) <<< (p1 &&& 31))) &&& (73 : Int32)) = (73 : Int32)
          · refine own_step (T' := T51) (g' := (mkF m 125 #[.val (.ref p0), .val (.int p1), .val (.int (fnTok wm)), .val (.int (wo ||| ((1 : Int32) <<< (p1 &&& 31)))), .val (.ref aL), .val (.int (8 : Int32)), .val (.int (3 : Int32)), .val (.int (73 : Int32))] [])) (fun t k => XS.icmpNo X51.here hx rfl (hb hby d7_122) rfl (teq hc122_66).2 k) ?_
            refine own_step (T' := T51) (g' := (mkF m 126 #[.val (.ref p0), .val (.int p1), .val (.int (fnTok wm)), .val (.int (wo ||| ((1 : Int32) <<< (p1 &&& 31)))), .val (.ref aL), .val (.int (8 : Int32)), .val (.int (3 : Int32)), .val (.int (73 : Int32))] [(.ref p0)])) (fun t k => XS.aloadN X51.here hx rfl (hb hby d7_125) rfl rfl k) ?_
            refine own_step (T' := T51) (g' := (mkF m 127 #[.val (.ref p0), .val (.int p1), .val (.int (fnTok wm)), .val (.int (wo ||| ((1 : Int32) <<< (p1 &&& 31)))), .val (.ref aL), .val (.int (8 : Int32)), .val (.int (3 : Int32)), .val (.int (73 : Int32))] [(.int (fnTok wm)), (.ref p0)])) (fun t k => XS.iloadN X51.here hx rfl (hb hby d7_126) rfl k) ?_
            obtain ⟨T67, h67, X67, e67, W67, st67⟩ := putFN X51 hx hZ hown (hw _ (List.mem_of_getElem? (i := 12) rfl)) Via.refl e51 F_winner_p0_50 E_p0_50 (Or.inl (hw _ (List.mem_of_getElem? (i := 13) rfl))) (hw _ (List.mem_of_getElem? (i := 2) rfl)) (ty := .char) (v' := (.int (nar .char (fnTok wm)))) (by decide) rfl (fits_nar_char (fnTok wm)) (g := (mkF m 127 #[.val (.ref p0), .val (.int p1), .val (.int (fnTok wm)), .val (.int (wo ||| ((1 : Int32) <<< (p1 &&& 31)))), .val (.ref aL), .val (.int (8 : Int32)), .val (.int (3 : Int32)), .val (.int (73 : Int32))] [(.int (fnTok wm)), (.ref p0)])) rfl rfl (hb hby d7_127)
            have E_p0_67 : Exa Z h67 p0 "com/example/tilescript/tilescript/TicTacToe" := E_p0_50.wr W67
            have F_xCells_p0_67 : Fld Z h67 p0 "com/example/tilescript/tilescript/TicTacToe" "xCells" "I" (.int wx) := F_xCells_p0_50.other W67 (Or.inr (slot_ne (Or.inl (hw _ (List.mem_of_getElem? (i := 47) rfl))) (Or.inl (hw _ (List.mem_of_getElem? (i := 13) rfl))) (by decide) (t := .int) (t' := .char) (by decide) (by decide)))
            have S_LINES_67 : Sta Z h67 "com/example/tilescript/tilescript/TicTacToe" "LINES" "[I" (.ref aL) := S_LINES_50.wr W67
            have V_aL_67 : Arv Z h67 aL kL .int (8 : Int32) [(.int (7 : Int32)), (.int (56 : Int32)), (.int (448 : Int32)), (.int (73 : Int32)), (.int (146 : Int32)), (.int (292 : Int32)), (.int (273 : Int32)), (.int (84 : Int32))] (.int (0 : Int32)) := V_aL_50.other W67 neL
            have F_oCells_p0_67 : Fld Z h67 p0 "com/example/tilescript/tilescript/TicTacToe" "oCells" "I" (.int (wo ||| ((1 : Int32) <<< (p1 &&& 31)))) := F_oCells_p0_50.other W67 (Or.inr (slot_ne (Or.inl (hw _ (List.mem_of_getElem? (i := 49) rfl))) (Or.inl (hw _ (List.mem_of_getElem? (i := 13) rfl))) (by decide) (t := .int) (t' := .char) (by decide) (by decide)))
            have F_marks_p0_67 : Fld Z h67 p0 "com/example/tilescript/tilescript/TicTacToe" "marks" "I" (.int (wm + (1 : Int32))) := F_marks_p0_50.other W67 (Or.inr (slot_ne (Or.inl (hw _ (List.mem_of_getElem? (i := 45) rfl))) (Or.inl (hw _ (List.mem_of_getElem? (i := 13) rfl))) (by decide) (t := .int) (t' := .char) (by decide) (by decide)))
            have F_lastMove_p0_67 : Fld Z h67 p0 "com/example/tilescript/tilescript/TicTacToe" "lastMove" "I" (.int p1) := F_lastMove_p0_50.other W67 (Or.inr (slot_ne (Or.inl (hw _ (List.mem_of_getElem? (i := 11) rfl))) (Or.inl (hw _ (List.mem_of_getElem? (i := 13) rfl))) (by decide) (t := .int) (t' := .char) (by decide) (by decide)))
            have K_67 : Keep h0 h67 [p0] := K_50.wr W67 (Or.inl (List.mem_of_getElem? (i := 0) rfl))
            have N67 := Fr.snoc X67 N50 g_p0
            have F_winner_p0_67 : Fld Z h67 p0 "com/example/tilescript/tilescript/TicTacToe" "winner" "C" (.int (nar .char (fnTok wm))) := F_winner_p0_50.same W67
            refine own_step (T' := T67) (g' := (mkF m 130 #[.val (.ref p0), .val (.int p1), .val (.int (fnTok wm)), .val (.int (wo ||| ((1 : Int32) <<< (p1 &&& 31)))), .val (.ref aL), .val (.int (8 : Int32)), .val (.int (3 : Int32)), .val (.int (73 : Int32))] [])) st67 ?_
            refine own_retV X67 hx hlk Bd.returns (hb hby d7_130) (by decide) (by decide) ?_
            rw [e67]
            exact ⟨wx, (wo ||| ((1 : Int32) <<< (p1 &&& 31))), (nar .char (fnTok wm)), rfl, N67, K_67, F_xCells_p0_67, F_oCells_p0_67, F_marks_p0_67, F_winner_p0_67, F_lastMove_p0_67, Or.inr ⟨hc34_3, rfl, rfl, (by unfold own_wn; rw [if_neg hc122_54, if_neg hc122_58, if_neg hc122_62, if_pos hc122_66])⟩⟩
          · refine own_step (T' := T51) (g' := (mkF m 131 #[.val (.ref p0), .val (.int p1), .val (.int (fnTok wm)), .val (.int (wo ||| ((1 : Int32) <<< (p1 &&& 31)))), .val (.ref aL), .val (.int (8 : Int32)), .val (.int (3 : Int32)), .val (.int (73 : Int32))] [])) (fun t k => XS.icmpYes X51.here hx rfl (pc0 := 122) (pc' := 131) rfl (hb hby d7_122) rfl (feq hc122_66).2 (by decide) (by decide) k) ?_
            refine own_step (T' := T51) (g' := (mkF m 134 #[.val (.ref p0), .val (.int p1), .val (.int (fnTok wm)), .val (.int (wo ||| ((1 : Int32) <<< (p1 &&& 31)))), .val (.ref aL), .val (.int (8 : Int32)), .val (.int (4 : Int32)), .val (.int (73 : Int32))] [])) (fun t k => XS.iinc X51.here hx rfl (hb hby d7_131) rfl (l' := #[.val (.ref p0), .val (.int p1), .val (.int (fnTok wm)), .val (.int (wo ||| ((1 : Int32) <<< (p1 &&& 31)))), .val (.ref aL), .val (.int (8 : Int32)), .val (.int (4 : Int32)), .val (.int (73 : Int32))]) rfl k) ?_
            refine own_step (T' := T51) (g' := (mkF m 102 #[.val (.ref p0), .val (.int p1), .val (.int (fnTok wm)), .val (.int (wo ||| ((1 : Int32) <<< (p1 &&& 31)))), .val (.ref aL), .val (.int (8 : Int32)), .val (.int (4 : Int32)), .val (.int (73 : Int32))] [])) (fun t k => XS.goto X51.here hx rfl (pc0 := 134) (pc' := 102) rfl (hb hby d7_134) (by decide) (by decide) k) ?_
            refine own_step (T' := T51) (g' := (mkF m 104 #[.val (.ref p0), .val (.int p1), .val (.int (fnTok wm)), .val (.int (wo ||| ((1 : Int32) <<< (p1 &&& 31)))), .val (.ref aL), .val (.int (8 : Int32)), .val (.int (4 : Int32)), .val (.int (73 : Int32))] [(.int (4 : Int32))])) (fun t k => XS.iload X51.here hx rfl (hb hby d7_102) rfl k) ?_
            refine own_step (T' := T51) (g' := (mkF m 106 #[.val (.ref p0), .val (.int p1), .val (.int (fnTok wm)), .val (.int (wo ||| ((1 : Int32) <<< (p1 &&& 31)))), .val (.ref aL), .val (.int (8 : Int32)), .val (.int (4 : Int32)), .val (.int (73 : Int32))] [(.int (8 : Int32)), (.int (4 : Int32))])) (fun t k => XS.iload X51.here hx rfl (hb hby d7_104) rfl k) ?_
            refine own_step (T' := T51) (g' := (mkF m 109 #[.val (.ref p0), .val (.int p1), .val (.int (fnTok wm)), .val (.int (wo ||| ((1 : Int32) <<< (p1 &&& 31)))), .val (.ref aL), .val (.int (8 : Int32)), .val (.int (4 : Int32)), .val (.int (73 : Int32))] [])) (fun t k => XS.icmpNo X51.here hx rfl (hb hby d7_106) rfl (tlt (by decide : (4 : Int32) < (8 : Int32))).2.1 k) ?_
            refine own_step (T' := T51) (g' := (mkF m 111 #[.val (.ref p0), .val (.int p1), .val (.int (fnTok wm)), .val (.int (wo ||| ((1 : Int32) <<< (p1 &&& 31)))), .val (.ref aL), .val (.int (8 : Int32)), .val (.int (4 : Int32)), .val (.int (73 : Int32))] [(.ref aL)])) (fun t k => XS.aload X51.here hx rfl (hb hby d7_109) rfl rfl k) ?_
            refine own_step (T' := T51) (g' := (mkF m 113 #[.val (.ref p0), .val (.int p1), .val (.int (fnTok wm)), .val (.int (wo ||| ((1 : Int32) <<< (p1 &&& 31)))), .val (.ref aL), .val (.int (8 : Int32)), .val (.int (4 : Int32)), .val (.int (73 : Int32))] [(.int (4 : Int32)), (.ref aL)])) (fun t k => XS.iload X51.here hx rfl (hb hby d7_111) rfl k) ?_
            obtain ⟨cl69, Ar69, q69, Sz69, Nn69, Hh69, Gg69⟩ := id V_aL_50
            have hin69 : ¬ ((4 : Int32) < 0 ∨ cl69.slots.size ≤ ((4 : Int32)).toNatClampNeg) := inb_of Sz69 ⟨by decide, by decide⟩
            refine own_step (T' := T51) (g' := (mkF m 114 #[.val (.ref p0), .val (.int p1), .val (.int (fnTok wm)), .val (.int (wo ||| ((1 : Int32) <<< (p1 &&& 31)))), .val (.ref aL), .val (.int (8 : Int32)), .val (.int (4 : Int32)), .val (.int (73 : Int32))] [(.int (146 : Int32))])) (fun t k => X51.iaload hx (j := (4 : Int32)) (v := (.int (146 : Int32))) (by rw [e51]; exact Ar69.1) (State.isArrayOf_alike hZ.alike Ar69.2.1) Ar69.2.2 hin69 (Has.at Hh69 hin69 rfl) (g := (mkF m 113 #[.val (.ref p0), .val (.int p1), .val (.int (fnTok wm)), .val (.int (wo ||| ((1 : Int32) <<< (p1 &&& 31)))), .val (.ref aL), .val (.int (8 : Int32)), .val (.int (4 : Int32)), .val (.int (73 : Int32))] [(.int (4 : Int32)), (.ref aL)])) rfl rfl (hb hby d7_113) t k) ?_
            refine own_step (T' := T51) (g' := (mkF m 116 #[.val (.ref p0), .val (.int p1), .val (.int (fnTok wm)), .val (.int (wo ||| ((1 : Int32) <<< (p1 &&& 31)))), .val (.ref aL), .val (.int (8 : Int32)), .val (.int (4 : Int32)), .val (.int (146 : Int32))] [])) (fun t k => XS.istore X51.here hx rfl (hb hby d7_114) rfl (l' := #[.val (.ref p0), .val (.int p1), .val (.int (fnTok wm)), .val (.int (wo ||| ((1 : Int32) <<< (p1 &&& 31)))), .val (.ref aL), .val (.int (8 : Int32)), .val (.int (4 : Int32)), .val (.int (146 : Int32))]) rfl k) ?_
            refine own_step (T' := T51) (g' := (mkF m 117 #[.val (.ref p0), .val (.int p1), .val (.int (fnTok wm)), .val (.int (wo ||| ((1 : Int32) <<< (p1 &&& 31)))), .val (.ref aL), .val (.int (8 : Int32)), .val (.int (4 : Int32)), .val (.int (146 : Int32))] [(.int (wo ||| ((1 : Int32) <<< (p1 &&& 31))))])) (fun t k => XS.iloadN X51.here hx rfl (hb hby d7_116) rfl k) ?_
            refine own_step (T' := T51) (g' := (mkF m 119 #[.val (.ref p0), .val (.int p1), .val (.int (fnTok wm)), .val (.int (wo ||| ((1 : Int32) <<< (p1 &&& 31)))), .val (.ref aL), .val (.int (8 : Int32)), .val (.int (4 : Int32)), .val (.int (146 : Int32))] [(.int (146 : Int32)), (.int (wo ||| ((1 : Int32) <<< (p1 &&& 31))))])) (fun t k => XS.iload X51.here hx rfl (hb hby d7_117) rfl k) ?_
            refine own_step (T' := T51) (g' := (mkF m 120 #[.val (.ref p0), .val (.int p1), .val (.int (fnTok wm)), .val (.int (wo ||| ((1 : Int32) <<< (p1 &&& 31)))), .val (.ref aL), .val (.int (8 : Int32)), .val (.int (4 : Int32)), .val (.int (146 : Int32))] [(.int ((wo ||| ((1 : Int32) <<< (p1 &&& 31))) &&& (146 : Int32)))])) (fun t k => XS.iand X51.here hx rfl (hb hby d7_119) rfl k) ?_
            refine own_step (T' := T51) (g' := (mkF m 122 #[.val (.ref p0), .val (.int p1), .val (.int (fnTok wm)), .val (.int (wo ||| ((1 : Int32) <<< (p1 &&& 31)))), .val (.ref aL), .val (.int (8 : Int32)), .val (.int (4 : Int32)), .val (.int (146 : Int32))] [(.int (146 : Int32)), (.int ((wo ||| ((1 : Int32) <<< (p1 &&& 31))) &&& (146 : Int32)))])) (fun t k => XS.iload X51.here hx rfl (hb hby d7_120) rfl k) ?_
            by_cases hc122_70 : ((wo ||| ((1 : Int32) <<< (p1 &&& 31))) &&& (146 : Int32)) = (146 : Int32)
            · refine own_step (T' := T51) (g' := (mkF m 125 #[.val (.ref p0), .val (.int p1), .val (.int (fnTok wm)), .val (.int (wo ||| ((1 : Int32) <<< (p1 &&& 31)))), .val (.ref aL), .val (.int (8 : Int32)), .val (.int (4 : Int32)), .val (.int (146 : Int32))] [])) (fun t k => XS.icmpNo X51.here hx rfl (hb hby d7_122) rfl (teq hc122_70).2 k) ?_
              refine own_step (T' := T51) (g' := (mkF m 126 #[.val (.ref p0), .val (.int p1), .val (.int (fnTok wm)), .val (.int (wo ||| ((1 : Int32) <<< (p1 &&& 31)))), .val (.ref aL), .val (.int (8 : Int32)), .val (.int (4 : Int32)), .val (.int (146 : Int32))] [(.ref p0)])) (fun t k => XS.aloadN X51.here hx rfl (hb hby d7_125) rfl rfl k) ?_
              refine own_step (T' := T51) (g' := (mkF m 127 #[.val (.ref p0), .val (.int p1), .val (.int (fnTok wm)), .val (.int (wo ||| ((1 : Int32) <<< (p1 &&& 31)))), .val (.ref aL), .val (.int (8 : Int32)), .val (.int (4 : Int32)), .val (.int (146 : Int32))] [(.int (fnTok wm)), (.ref p0)])) (fun t k => XS.iloadN X51.here hx rfl (hb hby d7_126) rfl k) ?_
              obtain ⟨T71, h71, X71, e71, W71, st71⟩ := putFN X51 hx hZ hown (hw _ (List.mem_of_getElem? (i := 12) rfl)) Via.refl e51 F_winner_p0_50 E_p0_50 (Or.inl (hw _ (List.mem_of_getElem? (i := 13) rfl))) (hw _ (List.mem_of_getElem? (i := 2) rfl)) (ty := .char) (v' := (.int (nar .char (fnTok wm)))) (by decide) rfl (fits_nar_char (fnTok wm)) (g := (mkF m 127 #[.val (.ref p0), .val (.int p1), .val (.int (fnTok wm)), .val (.int (wo ||| ((1 : Int32) <<< (p1 &&& 31)))), .val (.ref aL), .val (.int (8 : Int32)), .val (.int (4 : Int32)), .val (.int (146 : Int32))] [(.int (fnTok wm)), (.ref p0)])) rfl rfl (hb hby d7_127)
              have E_p0_71 : Exa Z h71 p0 "com/example/tilescript/tilescript/TicTacToe" := E_p0_50.wr W71
              have F_xCells_p0_71 : Fld Z h71 p0 "com/example/tilescript/tilescript/TicTacToe" "xCells" "I" (.int wx) := F_xCells_p0_50.other W71 (Or.inr (slot_ne (Or.inl (hw _ (List.mem_of_getElem? (i := 47) rfl))) (Or.inl (hw _ (List.mem_of_getElem? (i := 13) rfl))) (by decide) (t := .int) (t' := .char) (by decide) (by decide)))
              have S_LINES_71 : Sta Z h71 "com/example/tilescript/tilescript/TicTacToe" "LINES" "[I" (.ref aL) := S_LINES_50.wr W71
              have V_aL_71 : Arv Z h71 aL kL .int (8 : Int32) [(.int (7 : Int32)), (.int (56 : Int32)), (.int (448 : Int32)), (.int (73 : Int32)), (.int (146 : Int32)), (.int (292 : Int32)), (.int (273 : Int32)), (.int (84 : Int32))] (.int (0 : Int32)) := V_aL_50.other W71 neL
              have F_oCells_p0_71 : Fld Z h71 p0 "com/example/tilescript/tilescript/TicTacToe" "oCells" "I" (.int (wo ||| ((1 : Int32) <<< (p1 &&& 31)))) := F_oCells_p0_50.other W71 (Or.inr (slot_ne (Or.inl (hw _ (List.mem_of_getElem? (i := 49) rfl))) (Or.inl (hw _ (List.mem_of_getElem? (i := 13) rfl))) (by decide) (t := .int) (t' := .char) (by decide) (by decide)))
              have F_marks_p0_71 : Fld Z h71 p0 "com/example/tilescript/tilescript/TicTacToe" "marks" "I" (.int (wm + (1 : Int32))) := F_marks_p0_50.other W71 (Or.inr (slot_ne (Or.inl (hw _ (List.mem_of_getElem? (i := 45) rfl))) (Or.inl (hw _ (List.mem_of_getElem? (i := 13) rfl))) (by decide) (t := .int) (t' := .char) (by decide) (by decide)))
              have F_lastMove_p0_71 : Fld Z h71 p0 "com/example/tilescript/tilescript/TicTacToe" "lastMove" "I" (.int p1) := F_lastMove_p0_50.other W71 (Or.inr (slot_ne (Or.inl (hw _ (List.mem_of_getElem? (i := 11) rfl))) (Or.inl (hw _ (List.mem_of_getElem? (i := 13) rfl))) (by decide) (t := .int) (t' := .char) (by decide) (by decide)))
              have K_71 : Keep h0 h71 [p0] := K_50.wr W71 (Or.inl (List.mem_of_getElem? (i := 0) rfl))
              have N71 := Fr.snoc X71 N50 g_p0
              have F_winner_p0_71 : Fld Z h71 p0 "com/example/tilescript/tilescript/TicTacToe" "winner" "C" (.int (nar .char (fnTok wm))) := F_winner_p0_50.same W71
              refine own_step (T' := T71) (g' := (mkF m 130 #[.val (.ref p0), .val (.int p1), .val (.int (fnTok wm)), .val (.int (wo ||| ((1 : Int32) <<< (p1 &&& 31)))), .val (.ref aL), .val (.int (8 : Int32)), .val (.int (4 : Int32)), .val (.int (146 : Int32))] [])) st71 ?_
              refine own_retV X71 hx hlk Bd.returns (hb hby d7_130) (by decide) (by decide) ?_
              rw [e71]
              exact ⟨wx, (wo ||| ((1 : Int32) <<< (p1 &&& 31))), (nar .char (fnTok wm)), rfl, N71, K_71, F_xCells_p0_71, F_oCells_p0_71, F_marks_p0_71, F_winner_p0_71, F_lastMove_p0_71, Or.inr ⟨hc34_3, rfl, rfl, (by unfold own_wn; rw [if_neg hc122_54, if_neg hc122_58, if_neg hc122_62, if_neg hc122_66, if_pos hc122_70])⟩⟩
            · refine own_step (T' := T51) (g' := (mkF m 131 #[.val (.ref p0), .val (.int p1), .val (.int (fnTok wm)), .val (.int (wo ||| ((1 : Int32) <<< (p1 &&& 31)))), .val (.ref aL), .val (.int (8 : Int32)), .val (.int (4 : Int32)), .val (.int (146 : Int32))] [])) (fun t k => XS.icmpYes X51.here hx rfl (pc0 := 122) (pc' := 131) rfl (hb hby d7_122) rfl (feq hc122_70).2 (by decide) (by decide) k) ?_
              refine own_step (T' := T51) (g' := (mkF m 134 #[.val (.ref p0), .val (.int p1), .val (.int (fnTok wm)), .val (.int (wo ||| ((1 : Int32) <<< (p1 &&& 31)))), .val (.ref aL), .val (.int (8 : Int32)), .val (.int (5 : Int32)), .val (.int (146 : Int32))] [])) (fun t k => XS.iinc X51.here hx rfl (hb hby d7_131) rfl (l' := #[.val (.ref p0), .val (.int p1), .val (.int (fnTok wm)), .val (.int (wo ||| ((1 : Int32) <<< (p1 &&& 31)))), .val (.ref aL), .val (.int (8 : Int32)), .val (.int (5 : Int32)), .val (.int (146 : Int32))]) rfl k) ?_
              refine own_step (T' := T51) (g' := (mkF m 102 #[.val (.ref p0), .val (.int p1), .val (.int (fnTok wm)), .val (.int (wo ||| ((1 : Int32) <<< (p1 &&& 31)))), .val (.ref aL), .val (.int (8 : Int32)), .val (.int (5 : Int32)), .val (.int (146 : Int32))] [])) (fun t k => XS.goto X51.here hx rfl (pc0 := 134) (pc' := 102) rfl (hb hby d7_134) (by decide) (by decide) k) ?_
              refine own_step (T' := T51) (g' := (mkF m 104 #[.val (.ref p0), .val (.int p1), .val (.int (fnTok wm)), .val (.int (wo ||| ((1 : Int32) <<< (p1 &&& 31)))), .val (.ref aL), .val (.int (8 : Int32)), .val (.int (5 : Int32)), .val (.int (146 : Int32))] [(.int (5 : Int32))])) (fun t k => XS.iload X51.here hx rfl (hb hby d7_102) rfl k) ?_
              refine own_step (T' := T51) (g' := (mkF m 106 #[.val (.ref p0), .val (.int p1), .val (.int (fnTok wm)), .val (.int (wo ||| ((1 : Int32) <<< (p1 &&& 31)))), .val (.ref aL), .val (.int (8 : Int32)), .val (.int (5 : Int32)), .val (.int (146 : Int32))] [(.int (8 : Int32)), (.int (5 : Int32))])) (fun t k => XS.iload X51.here hx rfl (hb hby d7_104) rfl k) ?_
              refine own_step (T' := T51) (g' := (mkF m 109 #[.val (.ref p0), .val (.int p1), .val (.int (fnTok wm)), .val (.int (wo ||| ((1 : Int32) <<< (p1 &&& 31)))), .val (.ref aL), .val (.int (8 : Int32)), .val (.int (5 : Int32)), .val (.int (146 : Int32))] [])) (fun t k => XS.icmpNo X51.here hx rfl (hb hby d7_106) rfl (tlt (by decide : (5 : Int32) < (8 : Int32))).2.1 k) ?_
              refine own_step (T' := T51) (g' := (mkF m 111 #[.val (.ref p0), .val (.int p1), .val (.int (fnTok wm)), .val (.int (wo ||| ((1 : Int32) <<< (p1 &&& 31)))), .val (.ref aL), .val (.int (8 : Int32)), .val (.int (5 : Int32)), .val (.int (146 : Int32))] [(.ref aL)])) (fun t k => XS.aload X51.here hx rfl (hb hby d7_109) rfl rfl k) ?_
              refine own_step (T' := T51) (g' := (mkF m 113 #[.val (.ref p0), .val (.int p1), .val (.int (fnTok wm)), .val (.int (wo ||| ((1 : Int32) <<< (p1 &&& 31)))), .val (.ref aL), .val (.int (8 : Int32)), .val (.int (5 : Int32)), .val (.int (146 : Int32))] [(.int (5 : Int32)), (.ref aL)])) (fun t k => XS.iload X51.here hx rfl (hb hby d7_111) rfl k) ?_
              obtain ⟨cl73, Ar73, q73, Sz73, Nn73, Hh73, Gg73⟩ := id V_aL_50
              have hin73 : ¬ ((5 : Int32) < 0 ∨ cl73.slots.size ≤ ((5 : Int32)).toNatClampNeg) := inb_of Sz73 ⟨by decide, by decide⟩
              refine own_step (T' := T51) (g' := (mkF m 114 #[.val (.ref p0), .val (.int p1), .val (.int (fnTok wm)), .val (.int (wo ||| ((1 : Int32) <<< (p1 &&& 31)))), .val (.ref aL), .val (.int (8 : Int32)), .val (.int (5 : Int32)), .val (.int (146 : Int32))] [(.int (292 : Int32))])) (fun t k => X51.iaload hx (j := (5 : Int32)) (v := (.int (292 : Int32))) (by rw [e51]; exact Ar73.1) (State.isArrayOf_alike hZ.alike Ar73.2.1) Ar73.2.2 hin73 (Has.at Hh73 hin73 rfl) (g := (mkF m 113 #[.val (.ref p0), .val (.int p1), .val (.int (fnTok wm)), .val (.int (wo ||| ((1 : Int32) <<< (p1 &&& 31)))), .val (.ref aL), .val (.int (8 : Int32)), .val (.int (5 : Int32)), .val (.int (146 : Int32))] [(.int (5 : Int32)), (.ref aL)])) rfl rfl (hb hby d7_113) t k) ?_
              refine own_step (T' := T51) (g' := (mkF m 116 #[.val (.ref p0), .val (.int p1), .val (.int (fnTok wm)), .val (.int (wo ||| ((1 : Int32) <<< (p1 &&& 31)))), .val (.ref aL), .val (.int (8 : Int32)), .val (.int (5 : Int32)), .val (.int (292 : Int32))] [])) (fun t k => XS.istore X51.here hx rfl (hb hby d7_114) rfl (l' := #[.val (.ref p0), .val (.int p1), .val (.int (fnTok wm)), .val (.int (wo ||| ((1 : Int32) <<< (p1 &&& 31)))), .val (.ref aL), .val (.int (8 : Int32)), .val (.int (5 : Int32)), .val (.int (292 : Int32))]) rfl k) ?_
              refine own_step (T' := T51) (g' := (mkF m 117 #[.val (.ref p0), .val (.int p1), .val (.int (fnTok wm)), .val (.int (wo ||| ((1 : Int32) <<< (p1 &&& 31)))), .val (.ref aL), .val (.int (8 : Int32)), .val (.int (5 : Int32)), .val (.int (292 : Int32))] [(.int (wo ||| ((1 : Int32) <<< (p1 &&& 31))))])) (fun t k => XS.iloadN X51.here hx rfl (hb hby d7_116) rfl k) ?_
              refine own_step (T' := T51) (g' := (mkF m 119 #[.val (.ref p0), .val (.int p1), .val (.int (fnTok wm)), .val (.int (wo ||| ((1 : Int32) <<< (p1 &&& 31)))), .val (.ref aL), .val (.int (8 : Int32)), .val (.int (5 : Int32)), .val (.int (292 : Int32))] [(.int (292 : Int32)), (.int (wo ||| ((1 : Int32) <<< (p1 &&& 31))))])) (fun t k => XS.iload X51.here hx rfl (hb hby d7_117) rfl k) ?_
              refine own_step (T' := T51) (g' := (mkF m 120 #[.val (.ref p0), .val (.int p1), .val (.int (fnTok wm)), .val (.int (wo ||| ((1 : Int32) <<< (p1 &&& 31)))), .val (.ref aL), .val (.int (8 : Int32)), .val (.int (5 : Int32)), .val (.int (292 : Int32))] [(.int ((wo ||| ((1 : Int32) <<< (p1 &&& 31))) &&& (292 : Int32)))])) (fun t k => XS.iand X51.here hx rfl (hb hby d7_119) rfl k) ?_
              refine own_step (T' := T51) (g' := (mkF m 122 #[.val (.ref p0), .val (.int p1), .val (.int (fnTok wm)), .val (.int (wo ||| ((1 : Int32) <<< (p1 &&& 31)))), .val (.ref aL), .val (.int (8 : Int32)), .val (.int (5 : Int32)), .val (.int (292 : Int32))] [(.int (292 : Int32)), (.int ((wo ||| ((1 : Int32) <<< (p1 &&& 31))) &&& (292 : Int32)))])) (fun t k => XS.iload X51.here hx rfl (hb hby d7_120) rfl k) ?_
              by_cases hc122_74 : ((wo ||| ((1 : Int32) <<< (p1 &&& 31))) &&& (292 : Int32)) = (292 : Int32)
              · refine own_step (T' := T51) (g' := (mkF m 125 #[.val (.ref p0), .val (.int p1), .val (.int (fnTok wm)), .val (.int (wo ||| ((1 : Int32) <<< (p1 &&& 31)))), .val (.ref aL), .val (.int (8 : Int32)), .val (.int (5 : Int32)), .val (.int (292 : Int32))] [])) (fun t k => XS.icmpNo X51.here hx rfl (hb hby d7_122) rfl (teq hc122_74).2 k) ?_
                refine own_step (T' := T51) (g' := (mkF m 126 #[.val (.ref p0), .val (.int p1), .val (.int (fnTok wm)), .val (.int (wo ||| ((1 : Int32) <<< (p1 &&& 31)))), .val (.ref aL), .val (.int (8 : Int32)), .val (.int (5 : Int32)), .val (.int (292 : Int32))] [(.ref p0)])) (fun t k => XS.aloadN X51.here hx rfl (hb hby d7_125) rfl rfl k) ?_
                refine own_step (T' := T51) (g' := (mkF m 127 #[.val (.ref p0), .val (.int p1), .val (.int (fnTok wm)), .val (.int (wo ||| ((1 : Int32) <<< (p1 &&& 31)))), .val (.ref aL), .val (.int (8 : Int32)), .val (.int (5 : Int32)), .val (.int (292 : Int32))] [(.int (fnTok wm)), (.ref p0)])) (fun t k => XS.iloadN X51.here hx rfl (hb hby d7_126) rfl k) ?_
                obtain ⟨T75, h75, X75, e75, W75, st75⟩ := putFN X51 hx hZ hown (hw _ (List.mem_of_getElem? (i := 12) rfl)) Via.refl e51 F_winner_p0_50 E_p0_50 (Or.inl (hw _ (List.mem_of_getElem? (i := 13) rfl))) (hw _ (List.mem_of_getElem? (i := 2) rfl)) (ty := .char) (v' := (.int (nar .char (fnTok wm)))) (by decide) rfl (fits_nar_char (fnTok wm)) (g := (mkF m 127 #[.val (.ref p0), .val (.int p1), .val (.int (fnTok wm)), .val (.int (wo ||| ((1 : Int32) <<< (p1 &&& 31)))), .val (.ref aL), .val (.int (8 : Int32)), .val (.int (5 : Int32)), .val (.int (292 : Int32))] [(.int (fnTok wm)), (.ref p0)])) rfl rfl (hb hby d7_127)
                have E_p0_75 : Exa Z h75 p0 "com/example/tilescript/tilescript/TicTacToe" := E_p0_50.wr W75
                have F_xCells_p0_75 : Fld Z h75 p0 "com/example/tilescript/tilescript/TicTacToe" "xCells" "I" (.int wx) := F_xCells_p0_50.other W75 (Or.inr (slot_ne (Or.inl (hw _ (List.mem_of_getElem? (i := 47) rfl))) (Or.inl (hw _ (List.mem_of_getElem? (i := 13) rfl))) (by decide) (t := .int) (t' := .char) (by decide) (by decide)))
                have S_LINES_75 : Sta Z h75 "com/example/tilescript/tilescript/TicTacToe" "LINES" "[I" (.ref aL) := S_LINES_50.wr W75
                have V_aL_75 : Arv Z h75 aL kL .int (8 : Int32) [(.int (7 : Int32)), (.int (56 : Int32)), (.int (448 : Int32)), (.int (73 : Int32)), (.int (146 : Int32)), (.int (292 : Int32)), (.int (273 : Int32)), (.int (84 : Int32))] (.int (0 : Int32)) := V_aL_50.other W75 neL
                have F_oCells_p0_75 : Fld Z h75 p0 "com/example/tilescript/tilescript/TicTacToe" "oCells" "I" (.int (wo ||| ((1 : Int32) <<< (p1 &&& 31)))) := F_oCells_p0_50.other W75 (Or.inr (slot_ne (Or.inl (hw _ (List.mem_of_getElem? (i := 49) rfl))) (Or.inl (hw _ (List.mem_of_getElem? (i := 13) rfl))) (by decide) (t := .int) (t' := .char) (by decide) (by decide)))
                have F_marks_p0_75 : Fld Z h75 p0 "com/example/tilescript/tilescript/TicTacToe" "marks" "I" (.int (wm + (1 : Int32))) := F_marks_p0_50.other W75 (Or.inr (slot_ne (Or.inl (hw _ (List.mem_of_getElem? (i := 45) rfl))) (Or.inl (hw _ (List.mem_of_getElem? (i := 13) rfl))) (by decide) (t := .int) (t' := .char) (by decide) (by decide)))
                have F_lastMove_p0_75 : Fld Z h75 p0 "com/example/tilescript/tilescript/TicTacToe" "lastMove" "I" (.int p1) := F_lastMove_p0_50.other W75 (Or.inr (slot_ne (Or.inl (hw _ (List.mem_of_getElem? (i := 11) rfl))) (Or.inl (hw _ (List.mem_of_getElem? (i := 13) rfl))) (by decide) (t := .int) (t' := .char) (by decide) (by decide)))
                have K_75 : Keep h0 h75 [p0] := K_50.wr W75 (Or.inl (List.mem_of_getElem? (i := 0) rfl))
                have N75 := Fr.snoc X75 N50 g_p0
                have F_winner_p0_75 : Fld Z h75 p0 "com/example/tilescript/tilescript/TicTacToe" "winner" "C" (.int (nar .char (fnTok wm))) := F_winner_p0_50.same W75
                refine own_step (T' := T75) (g' := (mkF m 130 #[.val (.ref p0), .val (.int p1), .val (.int (fnTok wm)), .val (.int (wo ||| ((1 : Int32) <<< (p1 &&& 31)))), .val (.ref aL), .val (.int (8 : Int32)), .val (.int (5 : Int32)), .val (.int (292 : Int32))] [])) st75 ?_
                refine own_retV X75 hx hlk Bd.returns (hb hby d7_130) (by decide) (by decide) ?_
                rw [e75]
                exact ⟨wx, (wo ||| ((1 : Int32) <<< (p1 &&& 31))), (nar .char (fnTok wm)), rfl, N75, K_75, F_xCells_p0_75, F_oCells_p0_75, F_marks_p0_75, F_winner_p0_75, F_lastMove_p0_75, Or.inr ⟨hc34_3, rfl, rfl, (by unfold own_wn; rw [if_neg hc122_54, if_neg hc122_58, if_neg hc122_62, if_neg hc122_66, if_neg hc122_70, if_pos hc122_74])⟩⟩
              · refine own_step (T' := T51) (g' := (mkF m 131 #[.val (.ref p0), .val (.int p1), .val (.int (fnTok wm)), .val (.int (wo ||| ((1 : Int32) <<< (p1 &&& 31)))), .val (.ref aL), .val (.int (8 : Int32)), .val (.int (5 : Int32)), .val (.int (292 : Int32))] [])) (fun t k => XS.icmpYes X51.here hx rfl (pc0 := 122) (pc' := 131) rfl (hb hby d7_122) rfl (feq hc122_74).2 (by decide) (by decide) k) ?_
                refine own_step (T' := T51) (g' := (mkF m 134 #[.val (.ref p0), .val (.int p1), .val (.int (fnTok wm)), .val (.int (wo ||| ((1 : Int32) <<< (p1 &&& 31)))), .val (.ref aL), .val (.int (8 : Int32)), .val (.int (6 : Int32)), .val (.int (292 : Int32))] [])) (fun t k => XS.iinc X51.here hx rfl (hb hby d7_131) rfl (l' := #[.val (.ref p0), .val (.int p1), .val (.int (fnTok wm)), .val (.int (wo ||| ((1 : Int32) <<< (p1 &&& 31)))), .val (.ref aL), .val (.int (8 : Int32)), .val (.int (6 : Int32)), .val (.int (292 : Int32))]) rfl k) ?_
                refine own_step (T' := T51) (g' := (mkF m 102 #[.val (.ref p0), .val (.int p1), .val (.int (fnTok wm)), .val (.int (wo ||| ((1 : Int32) <<< (p1 &&& 31)))), .val (.ref aL), .val (.int (8 : Int32)), .val (.int (6 : Int32)), .val (.int (292 : Int32))] [])) (fun t k => XS.goto X51.here hx rfl (pc0 := 134) (pc' := 102) rfl (hb hby d7_134) (by decide) (by decide) k) ?_
                refine own_step (T' := T51) (g' := (mkF m 104 #[.val (.ref p0), .val (.int p1), .val (.int (fnTok wm)), .val (.int (wo ||| ((1 : Int32) <<< (p1 &&& 31)))), .val (.ref aL), .val (.int (8 : Int32)), .val (.int (6 : Int32)), .val (.int (292 : Int32))] [(.int (6 : Int32))])) (fun t k => XS.iload X51.here hx rfl (hb hby d7_102) rfl k) ?_
                refine own_step (T' := T51) (g' := (mkF m 106 #[.val (.ref p0), .val (.int p1), .val (.int (fnTok wm)), .val (.int (wo ||| ((1 : Int32) <<< (p1 &&& 31)))), .val (.ref aL), .val (.int (8 : Int32)), .val (.int (6 : Int32)), .val (.int (292 : Int32))] [(.int (8 : Int32)), (.int (6 : Int32))])) (fun t k => XS.iload X51.here hx rfl (hb hby d7_104) rfl k) ?_
                refine own_step (T' := T51) (g' := (mkF m 109 #[.val (.ref p0), .val (.int p1), .val (.int (fnTok wm)), .val (.int (wo ||| ((1 : Int32) <<< (p1 &&& 31)))), .val (.ref aL), .val (.int (8 : Int32)), .val (.int (6 : Int32)), .val (.int (292 : Int32))] [])) (fun t k => XS.icmpNo X51.here hx rfl (hb hby d7_106) rfl (tlt (by decide : (6 : Int32) < (8 : Int32))).2.1 k) ?_
                refine own_step (T' := T51) (g' := (mkF m 111 #[.val (.ref p0), .val (.int p1), .val (.int (fnTok wm)), .val (.int (wo ||| ((1 : Int32) <<< (p1 &&& 31)))), .val (.ref aL), .val (.int (8 : Int32)), .val (.int (6 : Int32)), .val (.int (292 : Int32))] [(.ref aL)])) (fun t k => XS.aload X51.here hx rfl (hb hby d7_109) rfl rfl k) ?_
                refine own_step (T' := T51) (g' := (mkF m 113 #[.val (.ref p0), .val (.int p1), .val (.int (fnTok wm)), .val (.int (wo ||| ((1 : Int32) <<< (p1 &&& 31)))), .val (.ref aL), .val (.int (8 : Int32)), .val (.int (6 : Int32)), .val (.int (292 : Int32))] [(.int (6 : Int32)), (.ref aL)])) (fun t k => XS.iload X51.here hx rfl (hb hby d7_111) rfl k) ?_
                obtain ⟨cl77, Ar77, q77, Sz77, Nn77, Hh77, Gg77⟩ := id V_aL_50
                have hin77 : ¬ ((6 : Int32) < 0 ∨ cl77.slots.size ≤ ((6 : Int32)).toNatClampNeg) := inb_of Sz77 ⟨by decide, by decide⟩
                refine own_step (T' := T51) (g' := (mkF m 114 #[.val (.ref p0), .val (.int p1), .val (.int (fnTok wm)), .val (.int (wo ||| ((1 : Int32) <<< (p1 &&& 31)))), .val (.ref aL), .val (.int (8 : Int32)), .val (.int (6 : Int32)), .val (.int (292 : Int32))] [(.int (273 : Int32))])) (fun t k => X51.iaload hx (j := (6 : Int32)) (v := (.int (273 : Int32))) (by rw [e51]; exact Ar77.1) (State.isArrayOf_alike hZ.alike Ar77.2.1) Ar77.2.2 hin77 (Has.at Hh77 hin77 rfl) (g := (mkF m 113 #[.val (.ref p0), .val (.int p1), .val (.int (fnTok wm)), .val (.int (wo ||| ((1 : Int32) <<< (p1 &&& 31)))), .val (.ref aL), .val (.int (8 : Int32)), .val (.int (6 : Int32)), .val (.int (292 : Int32))] [(.int (6 : Int32)), (.ref aL)])) rfl rfl (hb hby d7_113) t k) ?_
                refine own_step (T' := T51) (g' := (mkF m 116 #[.val (.ref p0), .val (.int p1), .val (.int (fnTok wm)), .val (.int (wo ||| ((1 : Int32) <<< (p1 &&& 31)))), .val (.ref aL), .val (.int (8 : Int32)), .val (.int (6 : Int32)), .val (.int (273 : Int32))] [])) (fun t k => XS.istore X51.here hx rfl (hb hby d7_114) rfl (l' := #[.val (.ref p0), .val (.int p1), .val (.int (fnTok wm)), .val (.int (wo ||| ((1 : Int32) <<< (p1 &&& 31)))), .val (.ref aL), .val (.int (8 : Int32)), .val (.int (6 : Int32)), .val (.int (273 : Int32))]) rfl k) ?_
                refine own_step (T' := T51) (g' := (mkF m 117 #[.val (.ref p0), .val (.int p1), .val (.int (fnTok wm)), .val (.int (wo ||| ((1 : Int32) <<< (p1 &&& 31)))), .val (.ref aL), .val (.int (8 : Int32)), .val (.int (6 : Int32)), .val (.int (273 : Int32))] [(.int (wo ||| ((1 : Int32) <<< (p1 &&& 31))))])) (fun t k => XS.iloadN X51.here hx rfl (hb hby d7_116) rfl k) ?_
                refine own_step (T' := T51) (g' := (mkF m 119 #[.val (.ref p0), .val (.int p1), .val (.int (fnTok wm)), .val (.int (wo ||| ((1 : Int32) <<< (p1 &&& 31)))), .val (.ref aL), .val (.int (8 : Int32)), .val (.int (6 : Int32)), .val (.int (273 : Int32))] [(.int (273 : Int32)), (.int (wo ||| ((1 : Int32) <<< (p1 &&& 31))))])) (fun t k => XS.iload X51.here hx rfl (hb hby d7_117) rfl k) ?_
                refine own_step (T' := T51) (g' := (mkF m 120 #[.val (.ref p0), .val (.int p1), .val (.int (fnTok wm)), .val (.int (wo ||| ((1 : Int32) <<< (p1 &&& 31)))), .val (.ref aL), .val (.int (8 : Int32)), .val (.int (6 : Int32)), .val (.int (273 : Int32))] [(.int ((wo ||| ((1 : Int32) <<< (p1 &&& 31))) &&& (273 : Int32)))])) (fun t k => XS.iand X51.here hx rfl (hb hby d7_119) rfl k) ?_
                refine own_step (T' := T51) (g' := (mkF m 122 #[.val (.ref p0), .val (.int p1), .val (.int (fnTok wm)), .val (.int (wo ||| ((1 : Int32) <<< (p1 &&& 31)))), .val (.ref aL), .val (.int (8 : Int32)), .val (.int (6 : Int32)), .val (.int (273 : Int32))] [(.int (273 : Int32)), (.int ((wo ||| ((1 : Int32) <<< (p1 &&& 31))) &&& (273 : Int32)))])) (fun t k => XS.iload X51.here hx rfl (hb hby d7_120) rfl k) ?_
                by_cases hc122_78 : ((wo ||| ((1 : Int32) <<< (p1 &&& 31))) &&& (273 : Int32)) = (273 : Int32)
                · refine own_step (T' := T51) (g' := (mkF m 125 #[.val (.ref p0), .val (.int p1), .val (.int (fnTok wm)), .val (.int (wo ||| ((1 : Int32) <<< (p1 &&& 31)))), .val (.ref aL), .val (.int (8 : Int32)), .val (.int (6 : Int32)), .val (.int (273 : Int32))] [])) (fun t k => XS.icmpNo X51.here hx rfl (hb hby d7_122) rfl (teq hc122_78).2 k) ?_
                  refine own_step (T' := T51) (g' := (mkF m 126 #[.val (.ref p0), .val (.int p1), .val (.int (fnTok wm)), .val (.int (wo ||| ((1 : Int32) <<< (p1 &&& 31)))), .val (.ref aL), .val (.int (8 : Int32)), .val (.int (6 : Int32)), .val (.int (273 : Int32))] [(.ref p0)])) (fun t k => XS.aloadN X51.here hx rfl (hb hby d7_125) rfl rfl k) ?_
                  refine own_step (T' := T51) (g' := (mkF m 127 #[.val (.ref p0), .val (.int p1), .val (.int (fnTok wm)), .val (.int (wo ||| ((1 : Int32) <<< (p1 &&& 31)))), .val (.ref aL), .val (.int (8 : Int32)), .val (.int (6 : Int32)), .val (.int (273 : Int32))] [(.int (fnTok wm)), (.ref p0)])) (fun t k => XS.iloadN X51.here hx rfl (hb hby d7_126) rfl k) ?_
                  obtain ⟨T79, h79, X79, e79, W79, st79⟩ := putFN X51 hx hZ hown (hw _ (List.mem_of_getElem? (i := 12) rfl)) Via.refl e51 F_winner_p0_50 E_p0_50 (Or.inl (hw _ (List.mem_of_getElem? (i := 13) rfl))) (hw _ (List.mem_of_getElem? (i := 2) rfl)) (ty := .char) (v' := (.int (nar .char (fnTok wm)))) (by decide) rfl (fits_nar_char (fnTok wm)) (g := (mkF m 127 #[.val (.ref p0), .val (.int p1), .val (.int (fnTok wm)), .val (.int (wo ||| ((1 : Int32) <<< (p1 &&& 31)))), .val (.ref aL), .val (.int (8 : Int32)), .val (.int (6 : Int32)), .val (.int (273 : Int32))] [(.int (fnTok wm)), (.ref p0)])) rfl rfl (hb hby d7_127)
                  have E_p0_79 : Exa Z h79 p0 "com/example/tilescript/tilescript/TicTacToe" := E_p0_50.wr W79
                  have F_xCells_p0_79 : Fld Z h79 p0 "com/example/tilescript/tilescript/TicTacToe" "xCells" "I" (.int wx) := F_xCells_p0_50.other W79 (Or.inr (slot_ne (Or.inl (hw _ (List.mem_of_getElem? (i := 47) rfl))) (Or.inl (hw _ (List.mem_of_getElem? (i := 13) rfl))) (by decide) (t := .int) (t' := .char) (by decide) (by decide)))
                  have S_LINES_79 : Sta Z h79 "com/example/tilescript/tilescript/TicTacToe" "LINES" "[I" (.ref aL) := S_LINES_50.wr W79
                  have V_aL_79 : Arv Z h79 aL kL .int (8 : Int32) [(.int (7 : Int32)), (.int (56 : Int32)), (.int (448 : Int32)), (.int (73 : Int32)), (.int (146 : Int32)), (.int (292 : Int32)), (.int (273 : Int32)), (.int (84 : Int32))] (.int (0 : Int32)) := V_aL_50.other W79 neL
                  have F_oCells_p0_79 : Fld Z h79 p0 "com/example/tilescript/tilescript/TicTacToe" "oCells" "I" (.int (wo ||| ((1 : Int32) <<< (p1 &&& 31)))) := F_oCells_p0_50.other W79 (Or.inr (slot_ne (Or.inl (hw _ (List.mem_of_getElem? (i := 49) rfl))) (Or.inl (hw _ (List.mem_of_getElem? (i := 13) rfl))) (by decide) (t := .int) (t' := .char) (by decide) (by decide)))
                  have F_marks_p0_79 : Fld Z h79 p0 "com/example/tilescript/tilescript/TicTacToe" "marks" "I" (.int (wm + (1 : Int32))) := F_marks_p0_50.other W79 (Or.inr (slot_ne (Or.inl (hw _ (List.mem_of_getElem? (i := 45) rfl))) (Or.inl (hw _ (List.mem_of_getElem? (i := 13) rfl))) (by decide) (t := .int) (t' := .char) (by decide) (by decide)))
                  have F_lastMove_p0_79 : Fld Z h79 p0 "com/example/tilescript/tilescript/TicTacToe" "lastMove" "I" (.int p1) := F_lastMove_p0_50.other W79 (Or.inr (slot_ne (Or.inl (hw _ (List.mem_of_getElem? (i := 11) rfl))) (Or.inl (hw _ (List.mem_of_getElem? (i := 13) rfl))) (by decide) (t := .int) (t' := .char) (by decide) (by decide)))
                  have K_79 : Keep h0 h79 [p0] := K_50.wr W79 (Or.inl (List.mem_of_getElem? (i := 0) rfl))
                  have N79 := Fr.snoc X79 N50 g_p0
                  have F_winner_p0_79 : Fld Z h79 p0 "com/example/tilescript/tilescript/TicTacToe" "winner" "C" (.int (nar .char (fnTok wm))) := F_winner_p0_50.same W79
                  refine own_step (T' := T79) (g' := (mkF m 130 #[.val (.ref p0), .val (.int p1), .val (.int (fnTok wm)), .val (.int (wo ||| ((1 : Int32) <<< (p1 &&& 31)))), .val (.ref aL), .val (.int (8 : Int32)), .val (.int (6 : Int32)), .val (.int (273 : Int32))] [])) st79 ?_
                  refine own_retV X79 hx hlk Bd.returns (hb hby d7_130) (by decide) (by decide) ?_
                  rw [e79]
                  exact ⟨wx, (wo ||| ((1 : Int32) <<< (p1 &&& 31))), (nar .char (fnTok wm)), rfl, N79, K_79, F_xCells_p0_79, F_oCells_p0_79, F_marks_p0_79, F_winner_p0_79, F_lastMove_p0_79, Or.inr ⟨hc34_3, rfl, rfl, (by unfold own_wn; rw [if_neg hc122_54, if_neg hc122_58, if_neg hc122_62, if_neg hc122_66, if_neg hc122_70, if_neg hc122_74, if_pos hc122_78])⟩⟩
                · refine own_step (T' := T51) (g' := (mkF m 131 #[.val (.ref p0), .val (.int p1), .val (.int (fnTok wm)), .val (.int (wo ||| ((1 : Int32) <<< (p1 &&& 31)))), .val (.ref aL), .val (.int (8 : Int32)), .val (.int (6 : Int32)), .val (.int (273 : Int32))] [])) (fun t k => XS.icmpYes X51.here hx rfl (pc0 := 122) (pc' := 131) rfl (hb hby d7_122) rfl (feq hc122_78).2 (by decide) (by decide) k) ?_
                  refine own_step (T' := T51) (g' := (mkF m 134 #[.val (.ref p0), .val (.int p1), .val (.int (fnTok wm)), .val (.int (wo ||| ((1 : Int32) <<< (p1 &&& 31)))), .val (.ref aL), .val (.int (8 : Int32)), .val (.int (7 : Int32)), .val (.int (273 : Int32))] [])) (fun t k => XS.iinc X51.here hx rfl (hb hby d7_131) rfl (l' := #[.val (.ref p0), .val (.int p1), .val (.int (fnTok wm)), .val (.int (wo ||| ((1 : Int32) <<< (p1 &&& 31)))), .val (.ref aL), .val (.int (8 : Int32)), .val (.int (7 : Int32)), .val (.int (273 : Int32))]) rfl k) ?_
                  refine own_step (T' := T51) (g' := (mkF m 102 #[.val (.ref p0), .val (.int p1), .val (.int (fnTok wm)), .val (.int (wo ||| ((1 : Int32) <<< (p1 &&& 31)))), .val (.ref aL), .val (.int (8 : Int32)), .val (.int (7 : Int32)), .val (.int (273 : Int32))] [])) (fun t k => XS.goto X51.here hx rfl (pc0 := 134) (pc' := 102) rfl (hb hby d7_134) (by decide) (by decide) k) ?_
                  refine own_step (T' := T51) (g' := (mkF m 104 #[.val (.ref p0), .val (.int p1), .val (.int (fnTok wm)), .val (.int (wo ||| ((1 : Int32) <<< (p1 &&& 31)))), .val (.ref aL), .val (.int (8 : Int32)), .val (.int (7 : Int32)), .val (.int (273 : Int32))] [(.int (7 : Int32))])) (fun t k => XS.iload X51.here hx rfl (hb hby d7_102) rfl k) ?_
                  refine own_step (T' := T51) (g' := (mkF m 106 #[.val (.ref p0), .val (.int p1), .val (.int (fnTok wm)), .val (.int (wo ||| ((1 : Int32) <<< (p1 &&& 31)))), .val (.ref aL), .val (.int (8 : Int32)), .val (.int (7 : Int32)), .val (.int (273 : Int32))] [(.int (8 : Int32)), (.int (7 : Int32))])) (fun t k => XS.iload X51.here hx rfl (hb hby d7_104) rfl k) ?_
                  refine own_step (T' := T51) (g' := (mkF m 109 #[.val (.ref p0), .val (.int p1), .val (.int (fnTok wm)), .val (.int (wo ||| ((1 : Int32) <<< (p1 &&& 31)))), .val (.ref aL), .val (.int (8 : Int32)), .val (.int (7 : Int32)), .val (.int (273 : Int32))] [])) (fun t k => XS.icmpNo X51.here hx rfl (hb hby d7_106) rfl (tlt (by decide : (7 : Int32) < (8 : Int32))).2.1 k) ?_
                  refine own_step (T' := T51) (g' := (mkF m 111 #[.val (.ref p0), .val (.int p1), .val (.int (fnTok wm)), .val (.int (wo ||| ((1 : Int32) <<< (p1 &&& 31)))), .val (.ref aL), .val (.int (8 : Int32)), .val (.int (7 : Int32)), .val (.int (273 : Int32))] [(.ref aL)])) (fun t k => XS.aload X51.here hx rfl (hb hby d7_109) rfl rfl k) ?_
                  refine own_step (T' := T51) (g' := (mkF m 113 #[.val (.ref p0), .val (.int p1), .val (.int (fnTok wm)), .val (.int (wo ||| ((1 : Int32) <<< (p1 &&& 31)))), .val (.ref aL), .val (.int (8 : Int32)), .val (.int (7 : Int32)), .val (.int (273 : Int32))] [(.int (7 : Int32)), (.ref aL)])) (fun t k => XS.iload X51.here hx rfl (hb hby d7_111) rfl k) ?_
                  obtain ⟨cl81, Ar81, q81, Sz81, Nn81, Hh81, Gg81⟩ := id V_aL_50
                  have hin81 : ¬ ((7 : Int32) < 0 ∨ cl81.slots.size ≤ ((7 : Int32)).toNatClampNeg) := inb_of Sz81 ⟨by decide, by decide⟩
                  refine own_step (T' := T51) (g' := (mkF m 114 #[.val (.ref p0), .val (.int p1), .val (.int (fnTok wm)), .val (.int (wo ||| ((1 : Int32) <<< (p1 &&& 31)))), .val (.ref aL), .val (.int (8 : Int32)), .val (.int (7 : Int32)), .val (.int (273 : Int32))] [(.int (84 : Int32))])) (fun t k => X51.iaload hx (j := (7 : Int32)) (v := (.int (84 : Int32))) (by rw [e51]; exact Ar81.1) (State.isArrayOf_alike hZ.alike Ar81.2.1) Ar81.2.2 hin81 (Has.at Hh81 hin81 rfl) (g := (mkF m 113 #[.val (.ref p0), .val (.int p1), .val (.int (fnTok wm)), .val (.int (wo ||| ((1 : Int32) <<< (p1 &&& 31)))), .val (.ref aL), .val (.int (8 : Int32)), .val (.int (7 : Int32)), .val (.int (273 : Int32))] [(.int (7 : Int32)), (.ref aL)])) rfl rfl (hb hby d7_113) t k) ?_
                  refine own_step (T' := T51) (g' := (mkF m 116 #[.val (.ref p0), .val (.int p1), .val (.int (fnTok wm)), .val (.int (wo ||| ((1 : Int32) <<< (p1 &&& 31)))), .val (.ref aL), .val (.int (8 : Int32)), .val (.int (7 : Int32)), .val (.int (84 : Int32))] [])) (fun t k => XS.istore X51.here hx rfl (hb hby d7_114) rfl (l' := #[.val (.ref p0), .val (.int p1), .val (.int (fnTok wm)), .val (.int (wo ||| ((1 : Int32) <<< (p1 &&& 31)))), .val (.ref aL), .val (.int (8 : Int32)), .val (.int (7 : Int32)), .val (.int (84 : Int32))]) rfl k) ?_
                  refine own_step (T' := T51) (g' := (mkF m 117 #[.val (.ref p0), .val (.int p1), .val (.int (fnTok wm)), .val (.int (wo ||| ((1 : Int32) <<< (p1 &&& 31)))), .val (.ref aL), .val (.int (8 : Int32)), .val (.int (7 : Int32)), .val (.int (84 : Int32))] [(.int (wo ||| ((1 : Int32) <<< (p1 &&& 31))))])) (fun t k => XS.iloadN X51.here hx rfl (hb hby d7_116) rfl k) ?_
                  refine own_step (T' := T51) (g' := (mkF m 119 #[.val (.ref p0), .val (.int p1), .val (.int (fnTok wm)), .val (.int (wo ||| ((1 : Int32) <<< (p1 &&& 31)))), .val (.ref aL), .val (.int (8 : Int32)), .val (.int (7 : Int32)), .val (.int (84 : Int32))] [(.int (84 : Int32)), (.int (wo ||| ((1 : Int32) <<< (p1 &&& 31))))])) (fun t k => XS.iload X51.here hx rfl (hb hby d7_117) rfl k) ?_
                  refine own_step (T' := T51) (g' := (mkF m 120 #[.val (.ref p0), .val (.int p1), .val (.int (fnTok wm)), .val (.int (wo ||| ((1 : Int32) <<< (p1 &&& 31)))), .val (.ref aL), .val (.int (8 : Int32)), .val (.int (7 : Int32)), .val (.int (84 : Int32))] [(.int ((wo ||| ((1 : Int32) <<< (p1 &&& 31))) &&& (84 : Int32)))])) (fun t k => XS.iand X51.here hx rfl (hb hby d7_119) rfl k) ?_
                  refine own_step (T' := T51) (g' := (mkF m 122 #[.val (.ref p0), .val (.int p1), .val (.int (fnTok wm)), .val (.int (wo ||| ((1 : Int32) <<< (p1 &&& 31)))), .val (.ref aL), .val (.int (8 : Int32)), .val (.int (7 : Int32)), .val (.int (84 : Int32))] [(.int (84 : Int32)), (.int ((wo ||| ((1 : Int32) <<< (p1 &&& 31))) &&& (84 : Int32)))])) (fun t k => XS.iload X51.here hx rfl (hb hby d7_120) rfl k) ?_
                  by_cases hc122_82 : ((wo ||| ((1 : Int32) <<< (p1 &&& 31))) &&& (84 : Int32)) = (84 : Int32)
                  · refine own_step (T' := T51) (g' := (mkF m 125 #[.val (.ref p0), .val (.int p1), .val (.int (fnTok wm)), .val (.int (wo ||| ((1 : Int32) <<< (p1 &&& 31)))), .val (.ref aL), .val (.int (8 : Int32)), .val (.int (7 : Int32)), .val (.int (84 : Int32))] [])) (fun t k => XS.icmpNo X51.here hx rfl (hb hby d7_122) rfl (teq hc122_82).2 k) ?_
                    refine own_step (T' := T51) (g' := (mkF m 126 #[.val (.ref p0), .val (.int p1), .val (.int (fnTok wm)), .val (.int (wo ||| ((1 : Int32) <<< (p1 &&& 31)))), .val (.ref aL), .val (.int (8 : Int32)), .val (.int (7 : Int32)), .val (.int (84 : Int32))] [(.ref p0)])) (fun t k => XS.aloadN X51.here hx rfl (hb hby d7_125) rfl rfl k) ?_
                    refine own_step (T' := T51) (g' := (mkF m 127 #[.val (.ref p0), .val (.int p1), .val (.int (fnTok wm)), .val (.int (wo ||| ((1 : Int32) <<< (p1 &&& 31)))), .val (.ref aL), .val (.int (8 : Int32)), .val (.int (7 : Int32)), .val (.int (84 : Int32))] [(.int (fnTok wm)), (.ref p0)])) (fun t k => XS.iloadN X51.here hx rfl (hb hby d7_126) rfl k) ?_
                    obtain ⟨T83, h83, X83, e83, W83, st83⟩ := putFN X51 hx hZ hown (hw _ (List.mem_of_getElem? (i := 12) rfl)) Via.refl e51 F_winner_p0_50 E_p0_50 (Or.inl (hw _ (List.mem_of_getElem? (i := 13) rfl))) (hw _ (List.mem_of_getElem? (i := 2) rfl)) (ty := .char) (v' := (.int (nar .char (fnTok wm)))) (by decide) rfl (fits_nar_char (fnTok wm)) (g := (mkF m 127 #[.val (.ref p0), .val (.int p1), .val (.int (fnTok wm)), .val (.int (wo ||| ((1 : Int32) <<< (p1 &&& 31)))), .val (.ref aL), .val (.int (8 : Int32)), .val (.int (7 : Int32)), .val (.int (84 : Int32))] [(.int (fnTok wm)), (.ref p0)])) rfl rfl (hb hby d7_127)
                    have E_p0_83 : Exa Z h83 p0 "com/example/tilescript/tilescript/TicTacToe" := E_p0_50.wr W83
                    have F_xCells_p0_83 : Fld Z h83 p0 "com/example/tilescript/tilescript/TicTacToe" "xCells" "I" (.int wx) := F_xCells_p0_50.other W83 (Or.inr (slot_ne (Or.inl (hw _ (List.mem_of_getElem? (i := 47) rfl))) (Or.inl (hw _ (List.mem_of_getElem? (i := 13) rfl))) (by decide) (t := .int) (t' := .char) (by decide) (by decide)))
                    have S_LINES_83 : Sta Z h83 "com/example/tilescript/tilescript/TicTacToe" "LINES" "[I" (.ref aL) := S_LINES_50.wr W83
                    have V_aL_83 : Arv Z h83 aL kL .int (8 : Int32) [(.int (7 : Int32)), (.int (56 : Int32)), (.int (448 : Int32)), (.int (73 : Int32)), (.int (146 : Int32)), (.int (292 : Int32)), (.int (273 : Int32)), (.int (84 : Int32))] (.int (0 : Int32)) := V_aL_50.other W83 neL
                    have F_oCells_p0_83 : Fld Z h83 p0 "com/example/tilescript/tilescript/TicTacToe" "oCells" "I" (.int (wo ||| ((1 : Int32) <<< (p1 &&& 31)))) := F_oCells_p0_50.other W83 (Or.inr (slot_ne (Or.inl (hw _ (List.mem_of_getElem? (i := 49) rfl))) (Or.inl (hw _ (List.mem_of_getElem? (i := 13) rfl))) (by decide) (t := .int) (t' := .char) (by decide) (by decide)))
                    have F_marks_p0_83 : Fld Z h83 p0 "com/example/tilescript/tilescript/TicTacToe" "marks" "I" (.int (wm + (1 : Int32))) := F_marks_p0_50.other W83 (Or.inr (slot_ne (Or.inl (hw _ (List.mem_of_getElem? (i := 45) rfl))) (Or.inl (hw _ (List.mem_of_getElem? (i := 13) rfl))) (by decide) (t := .int) (t' := .char) (by decide) (by decide)))
                    have F_lastMove_p0_83 : Fld Z h83 p0 "com/example/tilescript/tilescript/TicTacToe" "lastMove" "I" (.int p1) := F_lastMove_p0_50.other W83 (Or.inr (slot_ne (Or.inl (hw _ (List.mem_of_getElem? (i := 11) rfl))) (Or.inl (hw _ (List.mem_of_getElem? (i := 13) rfl))) (by decide) (t := .int) (t' := .char) (by decide) (by decide)))
                    have K_83 : Keep h0 h83 [p0] := K_50.wr W83 (Or.inl (List.mem_of_getElem? (i := 0) rfl))
                    have N83 := Fr.snoc X83 N50 g_p0
                    have F_winner_p0_83 : Fld Z h83 p0 "com/example/tilescript/tilescript/TicTacToe" "winner" "C" (.int (nar .char (fnTok wm))) := F_winner_p0_50.same W83
                    refine own_step (T' := T83) (g' := (mkF m 130 #[.val (.ref p0), .val (.int p1), .val (.int (fnTok wm)), .val (.int (wo ||| ((1 : Int32) <<< (p1 &&& 31)))), .val (.ref aL), .val (.int (8 : Int32)), .val (.int (7 : Int32)), .val (.int (84 : Int32))] [])) st83 ?_
                    refine own_retV X83 hx hlk Bd.returns (hb hby d7_130) (by decide) (by decide) ?_
                    rw [e83]
                    exact ⟨wx, (wo ||| ((1 : Int32) <<< (p1 &&& 31))), (nar .char (fnTok wm)), rfl, N83, K_83, F_xCells_p0_83, F_oCells_p0_83, F_marks_p0_83, F_winner_p0_83, F_lastMove_p0_83, Or.inr ⟨hc34_3, rfl, rfl, (by unfold own_wn; rw [if_neg hc122_54, if_neg hc122_58, if_neg hc122_62, if_neg hc122_66, if_neg hc122_70, if_neg hc122_74, if_neg hc122_78, if_pos hc122_82])⟩⟩
                  · refine own_step (T' := T51) (g' := (mkF m 131 #[.val (.ref p0), .val (.int p1), .val (.int (fnTok wm)), .val (.int (wo ||| ((1 : Int32) <<< (p1 &&& 31)))), .val (.ref aL), .val (.int (8 : Int32)), .val (.int (7 : Int32)), .val (.int (84 : Int32))] [])) (fun t k => XS.icmpYes X51.here hx rfl (pc0 := 122) (pc' := 131) rfl (hb hby d7_122) rfl (feq hc122_82).2 (by decide) (by decide) k) ?_
                    refine own_step (T' := T51) (g' := (mkF m 134 #[.val (.ref p0), .val (.int p1), .val (.int (fnTok wm)), .val (.int (wo ||| ((1 : Int32) <<< (p1 &&& 31)))), .val (.ref aL), .val (.int (8 : Int32)), .val (.int (8 : Int32)), .val (.int (84 : Int32))] [])) (fun t k => XS.iinc X51.here hx rfl (hb hby d7_131) rfl (l' := #[.val (.ref p0), .val (.int p1), .val (.int (fnTok wm)), .val (.int (wo ||| ((1 : Int32) <<< (p1 &&& 31)))), .val (.ref aL), .val (.int (8 : Int32)), .val (.int (8 : Int32)), .val (.int (84 : Int32))]) rfl k) ?_
                    refine own_step (T' := T51) (g' := (mkF m 102 #[.val (.ref p0), .val (.int p1), .val (.int (fnTok wm)), .val (.int (wo ||| ((1 : Int32) <<< (p1 &&& 31)))), .val (.ref aL), .val (.int (8 : Int32)), .val (.int (8 : Int32)), .val (.int (84 : Int32))] [])) (fun t k => XS.goto X51.here hx rfl (pc0 := 134) (pc' := 102) rfl (hb hby d7_134) (by decide) (by decide) k) ?_
                    refine own_step (T' := T51) (g' := (mkF m 104 #[.val (.ref p0), .val (.int p1), .val (.int (fnTok wm)), .val (.int (wo ||| ((1 : Int32) <<< (p1 &&& 31)))), .val (.ref aL), .val (.int (8 : Int32)), .val (.int (8 : Int32)), .val (.int (84 : Int32))] [(.int (8 : Int32))])) (fun t k => XS.iload X51.here hx rfl (hb hby d7_102) rfl k) ?_
                    refine own_step (T' := T51) (g' := (mkF m 106 #[.val (.ref p0), .val (.int p1), .val (.int (fnTok wm)), .val (.int (wo ||| ((1 : Int32) <<< (p1 &&& 31)))), .val (.ref aL), .val (.int (8 : Int32)), .val (.int (8 : Int32)), .val (.int (84 : Int32))] [(.int (8 : Int32)), (.int (8 : Int32))])) (fun t k => XS.iload X51.here hx rfl (hb hby d7_104) rfl k) ?_
                    refine own_step (T' := T51) (g' := (mkF m 137 #[.val (.ref p0), .val (.int p1), .val (.int (fnTok wm)), .val (.int (wo ||| ((1 : Int32) <<< (p1 &&& 31)))), .val (.ref aL), .val (.int (8 : Int32)), .val (.int (8 : Int32)), .val (.int (84 : Int32))] [])) (fun t k => XS.icmpYes X51.here hx rfl (pc0 := 106) (pc' := 137) rfl (hb hby d7_106) rfl (flt (by decide : ¬ ((8 : Int32) < (8 : Int32)))).2.1 (by decide) (by decide) k) ?_
                    refine own_retV X51 hx hlk Bd.returns (hb hby d7_137) (by decide) (by decide) ?_
                    rw [e51]
                    exact ⟨wx, (wo ||| ((1 : Int32) <<< (p1 &&& 31))), ww, rfl, N50, K_50, F_xCells_p0_50, F_oCells_p0_50, F_marks_p0_50, F_winner_p0_50, F_lastMove_p0_50, Or.inr ⟨hc34_3, rfl, rfl, (by unfold own_wn; rw [if_neg hc122_54, if_neg hc122_58, if_neg hc122_62, if_neg hc122_66, if_neg hc122_70, if_neg hc122_74, if_neg hc122_78, if_neg hc122_82])⟩⟩
def fnWon (p0 : Int32) : Int32 := if (p0 &&& (7 : Int32)) = (7 : Int32) then (1 : Int32) else if (p0 &&& (56 : Int32)) = (56 : Int32) then (1 : Int32) else if (p0 &&& (448 : Int32)) = (448 : Int32) then (1 : Int32) else if (p0 &&& (73 : Int32)) = (73 : Int32) then (1 : Int32) else if (p0 &&& (146 : Int32)) = (146 : Int32) then (1 : Int32) else if (p0 &&& (292 : Int32)) = (292 : Int32) then (1 : Int32) else if (p0 &&& (273 : Int32)) = (273 : Int32) then (1 : Int32) else if (p0 &&& (84 : Int32)) = (84 : Int32) then (1 : Int32) else (0 : Int32)
theorem ef_rm6 (m : MethodId) (x0 : Int32) : entryFrame m #[(.int x0)] 1 = mkF m 0 #[.val (.int x0)] [] := by first | (simp [entryFrame, mkF, argsToLocals, Value.category]; done) | rfl
def Qrm6 (Z : State) (p0 : Int32) (h0 : Heap) (n0 : Nat) (v : Option Value) (h : Heap) (L : List Loc) : Prop := v = some (.int (fnWon p0)) ∧ Fr n0 L ∧ h = h0
set_option maxRecDepth 65536 in
set_option maxHeartbeats 40000000 in
theorem rm6 (l : Launch) (Z : State) (a0 : Array Value) (hw : ∀ d ∈ tables_1, d.before a0 Z = true) (ws : List Jvm.Cond) (p0 : Int32) (h0 : Heap) (n0 : Nat) (Z0 : n0 ≤ h0.size) :
    MetFree l (⟨"com/example/tilescript/tilescript/TicTacToeIsOverPinLaw", "won", "(I)Z"⟩ : MethodName) (head1 (Jvm.Cond.code (⟨"com/example/tilescript/tilescript/TicTacToeIsOverPinLaw", "won", "(I)Z"⟩ : MethodName) method_2_code 1 (some .boolean) :: ws) ({ frames := 0, cells := 0, slots := 0, locals := 0 } : Room)) (fun a U => a = #[(.int p0)] ∧ Z.Warmed39 U.vm ∧ U.heap = h0) (fun _ _ _ _ _ => True) (fun _ U o U' => ∃ v L, o = .returned v ∧ Qrm6 Z p0 h0 n0 v U'.heap L ∧ FrameEnd U o U' L ({ frames := 0, cells := 0, slots := 0, locals := 0 } : Room).cells ({ frames := 0, cells := 0, slots := 0, locals := 0 } : Room).slots) := by
  refine MetFree.of_bodySF (plainFor_of_name pn_6) hisR ?_
  intro p e s m args below meth c s₁ Bd hml0 hP hK
  obtain ⟨rfl, hZ, hh⟩ := hP
  have hx := Bd.exec
  have hby := Bd.bytes
  have hlk : meth.locks = false := BodyLoose.notSynchronized Bd
  have hml : c.maxLocals = 1 := hml0
  have hown : s.vm.findClass "com/example/tilescript/tilescript/TicTacToeIsOverPinLaw" = some m.cls := findClass_of_methodNamed Bd.named
  have hnm := (name_of_methodNamed Bd.named Bd.method).1
  have X0 : Stand p l e ({ frames := 0, cells := 0, slots := 0, locals := 0 } : Room) s m #[(.int p0)] below meth c s₁ [] 0 0 := Stand.of_body Bd
  have e0 : s₁.heap = h0 := by rw [← hh, Bd.state]; rfl
  have N0 := Fr.nil n0
  have K0 : Keep h0 h0 [] := Keep.refl h0 []
  show own_G p e below s 0 0 (Qrm6 Z p0 h0 n0) s₁ (entryFrame m #[(.int p0)] 1)
  rw [ef_rm6 m p0]
  refine own_step (T' := s₁) (g' := (mkF m 1 #[.val (.int p0)] [(.int p0)])) (fun t k => XS.iloadN X0.here hx rfl (hb hby d6_0) rfl k) ?_
  refine own_step (T' := s₁) (g' := (mkF m 3 #[.val (.int p0)] [(.int (7 : Int32)), (.int p0)])) (fun t k => XS.bipush X0.here hx rfl (hb hby d6_1) k) ?_
  refine own_step (T' := s₁) (g' := (mkF m 4 #[.val (.int p0)] [(.int (p0 &&& (7 : Int32)))])) (fun t k => XS.iand X0.here hx rfl (hb hby d6_3) rfl k) ?_
  refine own_step (T' := s₁) (g' := (mkF m 6 #[.val (.int p0)] [(.int (7 : Int32)), (.int (p0 &&& (7 : Int32)))])) (fun t k => XS.bipush X0.here hx rfl (hb hby d6_4) k) ?_
  by_cases hc6_1 : (p0 &&& (7 : Int32)) = (7 : Int32)
  · refine own_step (T' := s₁) (g' := (mkF m 80 #[.val (.int p0)] [])) (fun t k => XS.icmpYes X0.here hx rfl (pc0 := 6) (pc' := 80) rfl (hb hby d6_6) rfl (teq hc6_1).1 (by decide) (by decide) k) ?_
    refine own_step (T' := s₁) (g' := (mkF m 81 #[.val (.int p0)] [(.int (1 : Int32))])) (fun t k => XS.iconst X0.here hx rfl (hb hby d6_80) k) ?_
    refine own_step (T' := s₁) (g' := (mkF m 85 #[.val (.int p0)] [(.int (1 : Int32))])) (fun t k => XS.goto X0.here hx rfl (pc0 := 81) (pc' := 85) rfl (hb hby d6_81) (by decide) (by decide) k) ?_
    refine own_retN X0 hx hlk (t := .boolean) (w := (1 : Int32)) Bd.returns (by simp) (hb hby d6_85) rfl (by decide) (by decide) ?_
    exact ⟨congrArg some (congrArg Value.int (show (1 : Int32) = (fnWon p0) from by unfold fnWon; rw [if_pos hc6_1])), N0, e0⟩
  · refine own_step (T' := s₁) (g' := (mkF m 9 #[.val (.int p0)] [])) (fun t k => XS.icmpNo X0.here hx rfl (hb hby d6_6) rfl (feq hc6_1).1 k) ?_
    refine own_step (T' := s₁) (g' := (mkF m 10 #[.val (.int p0)] [(.int p0)])) (fun t k => XS.iloadN X0.here hx rfl (hb hby d6_9) rfl k) ?_
    refine own_step (T' := s₁) (g' := (mkF m 12 #[.val (.int p0)] [(.int (56 : Int32)), (.int p0)])) (fun t k => XS.bipush X0.here hx rfl (hb hby d6_10) k) ?_
    refine own_step (T' := s₁) (g' := (mkF m 13 #[.val (.int p0)] [(.int (p0 &&& (56 : Int32)))])) (fun t k => XS.iand X0.here hx rfl (hb hby d6_12) rfl k) ?_
    refine own_step (T' := s₁) (g' := (mkF m 15 #[.val (.int p0)] [(.int (56 : Int32)), (.int (p0 &&& (56 : Int32)))])) (fun t k => XS.bipush X0.here hx rfl (hb hby d6_13) k) ?_
    by_cases hc15_3 : (p0 &&& (56 : Int32)) = (56 : Int32)
    · refine own_step (T' := s₁) (g' := (mkF m 80 #[.val (.int p0)] [])) (fun t k => XS.icmpYes X0.here hx rfl (pc0 := 15) (pc' := 80) rfl (hb hby d6_15) rfl (teq hc15_3).1 (by decide) (by decide) k) ?_
      refine own_step (T' := s₁) (g' := (mkF m 81 #[.val (.int p0)] [(.int (1 : Int32))])) (fun t k => XS.iconst X0.here hx rfl (hb hby d6_80) k) ?_
      refine own_step (T' := s₁) (g' := (mkF m 85 #[.val (.int p0)] [(.int (1 : Int32))])) (fun t k => XS.goto X0.here hx rfl (pc0 := 81) (pc' := 85) rfl (hb hby d6_81) (by decide) (by decide) k) ?_
      refine own_retN X0 hx hlk (t := .boolean) (w := (1 : Int32)) Bd.returns (by simp) (hb hby d6_85) rfl (by decide) (by decide) ?_
      exact ⟨congrArg some (congrArg Value.int (show (1 : Int32) = (fnWon p0) from by unfold fnWon; rw [if_neg hc6_1, if_pos hc15_3])), N0, e0⟩
    · refine own_step (T' := s₁) (g' := (mkF m 18 #[.val (.int p0)] [])) (fun t k => XS.icmpNo X0.here hx rfl (hb hby d6_15) rfl (feq hc15_3).1 k) ?_
      refine own_step (T' := s₁) (g' := (mkF m 19 #[.val (.int p0)] [(.int p0)])) (fun t k => XS.iloadN X0.here hx rfl (hb hby d6_18) rfl k) ?_
      refine own_step (T' := s₁) (g' := (mkF m 22 #[.val (.int p0)] [(.int (448 : Int32)), (.int p0)])) (fun t k => XS.sipush X0.here hx rfl (hb hby d6_19) k) ?_
      refine own_step (T' := s₁) (g' := (mkF m 23 #[.val (.int p0)] [(.int (p0 &&& (448 : Int32)))])) (fun t k => XS.iand X0.here hx rfl (hb hby d6_22) rfl k) ?_
      refine own_step (T' := s₁) (g' := (mkF m 26 #[.val (.int p0)] [(.int (448 : Int32)), (.int (p0 &&& (448 : Int32)))])) (fun t k => XS.sipush X0.here hx rfl (hb hby d6_23) k) ?_
      by_cases hc26_5 : (p0 &&& (448 : Int32)) = (448 : Int32)
      · refine own_step (T' := s₁) (g' := (mkF m 80 #[.val (.int p0)] [])) (fun t k => XS.icmpYes X0.here hx rfl (pc0 := 26) (pc' := 80) rfl (hb hby d6_26) rfl (teq hc26_5).1 (by decide) (by decide) k) ?_
        refine own_step (T' := s₁) (g' := (mkF m 81 #[.val (.int p0)] [(.int (1 : Int32))])) (fun t k => XS.iconst X0.here hx rfl (hb hby d6_80) k) ?_
        refine own_step (T' := s₁) (g' := (mkF m 85 #[.val (.int p0)] [(.int (1 : Int32))])) (fun t k => XS.goto X0.here hx rfl (pc0 := 81) (pc' := 85) rfl (hb hby d6_81) (by decide) (by decide) k) ?_
        refine own_retN X0 hx hlk (t := .boolean) (w := (1 : Int32)) Bd.returns (by simp) (hb hby d6_85) rfl (by decide) (by decide) ?_
        exact ⟨congrArg some (congrArg Value.int (show (1 : Int32) = (fnWon p0) from by unfold fnWon; rw [if_neg hc6_1, if_neg hc15_3, if_pos hc26_5])), N0, e0⟩
      · refine own_step (T' := s₁) (g' := (mkF m 29 #[.val (.int p0)] [])) (fun t k => XS.icmpNo X0.here hx rfl (hb hby d6_26) rfl (feq hc26_5).1 k) ?_
        refine own_step (T' := s₁) (g' := (mkF m 30 #[.val (.int p0)] [(.int p0)])) (fun t k => XS.iloadN X0.here hx rfl (hb hby d6_29) rfl k) ?_
        refine own_step (T' := s₁) (g' := (mkF m 32 #[.val (.int p0)] [(.int (73 : Int32)), (.int p0)])) (fun t k => XS.bipush X0.here hx rfl (hb hby d6_30) k) ?_
        refine own_step (T' := s₁) (g' := (mkF m 33 #[.val (.int p0)] [(.int (p0 &&& (73 : Int32)))])) (fun t k => XS.iand X0.here hx rfl (hb hby d6_32) rfl k) ?_
        refine own_step (T' := s₁) (g' := (mkF m 35 #[.val (.int p0)] [(.int (73 : Int32)), (.int (p0 &&& (73 : Int32)))])) (fun t k => XS.bipush X0.here hx rfl (hb hby d6_33) k) ?_
        by_cases hc35_7 : (p0 &&& (73 : Int32)) = (73 : Int32)
        · refine own_step (T' := s₁) (g' := (mkF m 80 #[.val (.int p0)] [])) (fun t k => XS.icmpYes X0.here hx rfl (pc0 := 35) (pc' := 80) rfl (hb hby d6_35) rfl (teq hc35_7).1 (by decide) (by decide) k) ?_
          refine own_step (T' := s₁) (g' := (mkF m 81 #[.val (.int p0)] [(.int (1 : Int32))])) (fun t k => XS.iconst X0.here hx rfl (hb hby d6_80) k) ?_
          refine own_step (T' := s₁) (g' := (mkF m 85 #[.val (.int p0)] [(.int (1 : Int32))])) (fun t k => XS.goto X0.here hx rfl (pc0 := 81) (pc' := 85) rfl (hb hby d6_81) (by decide) (by decide) k) ?_
          refine own_retN X0 hx hlk (t := .boolean) (w := (1 : Int32)) Bd.returns (by simp) (hb hby d6_85) rfl (by decide) (by decide) ?_
          exact ⟨congrArg some (congrArg Value.int (show (1 : Int32) = (fnWon p0) from by unfold fnWon; rw [if_neg hc6_1, if_neg hc15_3, if_neg hc26_5, if_pos hc35_7])), N0, e0⟩
        · refine own_step (T' := s₁) (g' := (mkF m 38 #[.val (.int p0)] [])) (fun t k => XS.icmpNo X0.here hx rfl (hb hby d6_35) rfl (feq hc35_7).1 k) ?_
          refine own_step (T' := s₁) (g' := (mkF m 39 #[.val (.int p0)] [(.int p0)])) (fun t k => XS.iloadN X0.here hx rfl (hb hby d6_38) rfl k) ?_
          refine own_step (T' := s₁) (g' := (mkF m 42 #[.val (.int p0)] [(.int (146 : Int32)), (.int p0)])) (fun t k => XS.sipush X0.here hx rfl (hb hby d6_39) k) ?_
          refine own_step (T' := s₁) (g' := (mkF m 43 #[.val (.int p0)] [(.int (p0 &&& (146 : Int32)))])) (fun t k => XS.iand X0.here hx rfl (hb hby d6_42) rfl k) ?_
          refine own_step (T' := s₁) (g' := (mkF m 46 #[.val (.int p0)] [(.int (146 : Int32)), (.int (p0 &&& (146 : Int32)))])) (fun t k => XS.sipush X0.here hx rfl (hb hby d6_43) k) ?_
          by_cases hc46_9 : (p0 &&& (146 : Int32)) = (146 : Int32)
          · refine own_step (T' := s₁) (g' := (mkF m 80 #[.val (.int p0)] [])) (fun t k => XS.icmpYes X0.here hx rfl (pc0 := 46) (pc' := 80) rfl (hb hby d6_46) rfl (teq hc46_9).1 (by decide) (by decide) k) ?_
            refine own_step (T' := s₁) (g' := (mkF m 81 #[.val (.int p0)] [(.int (1 : Int32))])) (fun t k => XS.iconst X0.here hx rfl (hb hby d6_80) k) ?_
            refine own_step (T' := s₁) (g' := (mkF m 85 #[.val (.int p0)] [(.int (1 : Int32))])) (fun t k => XS.goto X0.here hx rfl (pc0 := 81) (pc' := 85) rfl (hb hby d6_81) (by decide) (by decide) k) ?_
            refine own_retN X0 hx hlk (t := .boolean) (w := (1 : Int32)) Bd.returns (by simp) (hb hby d6_85) rfl (by decide) (by decide) ?_
            exact ⟨congrArg some (congrArg Value.int (show (1 : Int32) = (fnWon p0) from by unfold fnWon; rw [if_neg hc6_1, if_neg hc15_3, if_neg hc26_5, if_neg hc35_7, if_pos hc46_9])), N0, e0⟩
          · refine own_step (T' := s₁) (g' := (mkF m 49 #[.val (.int p0)] [])) (fun t k => XS.icmpNo X0.here hx rfl (hb hby d6_46) rfl (feq hc46_9).1 k) ?_
            refine own_step (T' := s₁) (g' := (mkF m 50 #[.val (.int p0)] [(.int p0)])) (fun t k => XS.iloadN X0.here hx rfl (hb hby d6_49) rfl k) ?_
            refine own_step (T' := s₁) (g' := (mkF m 53 #[.val (.int p0)] [(.int (292 : Int32)), (.int p0)])) (fun t k => XS.sipush X0.here hx rfl (hb hby d6_50) k) ?_
            refine own_step (T' := s₁) (g' := (mkF m 54 #[.val (.int p0)] [(.int (p0 &&& (292 : Int32)))])) (fun t k => XS.iand X0.here hx rfl (hb hby d6_53) rfl k) ?_
            refine own_step (T' := s₁) (g' := (mkF m 57 #[.val (.int p0)] [(.int (292 : Int32)), (.int (p0 &&& (292 : Int32)))])) (fun t k => XS.sipush X0.here hx rfl (hb hby d6_54) k) ?_
            by_cases hc57_11 : (p0 &&& (292 : Int32)) = (292 : Int32)
            · refine own_step (T' := s₁) (g' := (mkF m 80 #[.val (.int p0)] [])) (fun t k => XS.icmpYes X0.here hx rfl (pc0 := 57) (pc' := 80) rfl (hb hby d6_57) rfl (teq hc57_11).1 (by decide) (by decide) k) ?_
              refine own_step (T' := s₁) (g' := (mkF m 81 #[.val (.int p0)] [(.int (1 : Int32))])) (fun t k => XS.iconst X0.here hx rfl (hb hby d6_80) k) ?_
              refine own_step (T' := s₁) (g' := (mkF m 85 #[.val (.int p0)] [(.int (1 : Int32))])) (fun t k => XS.goto X0.here hx rfl (pc0 := 81) (pc' := 85) rfl (hb hby d6_81) (by decide) (by decide) k) ?_
              refine own_retN X0 hx hlk (t := .boolean) (w := (1 : Int32)) Bd.returns (by simp) (hb hby d6_85) rfl (by decide) (by decide) ?_
              exact ⟨congrArg some (congrArg Value.int (show (1 : Int32) = (fnWon p0) from by unfold fnWon; rw [if_neg hc6_1, if_neg hc15_3, if_neg hc26_5, if_neg hc35_7, if_neg hc46_9, if_pos hc57_11])), N0, e0⟩
            · refine own_step (T' := s₁) (g' := (mkF m 60 #[.val (.int p0)] [])) (fun t k => XS.icmpNo X0.here hx rfl (hb hby d6_57) rfl (feq hc57_11).1 k) ?_
              refine own_step (T' := s₁) (g' := (mkF m 61 #[.val (.int p0)] [(.int p0)])) (fun t k => XS.iloadN X0.here hx rfl (hb hby d6_60) rfl k) ?_
              refine own_step (T' := s₁) (g' := (mkF m 64 #[.val (.int p0)] [(.int (273 : Int32)), (.int p0)])) (fun t k => XS.sipush X0.here hx rfl (hb hby d6_61) k) ?_
              refine own_step (T' := s₁) (g' := (mkF m 65 #[.val (.int p0)] [(.int (p0 &&& (273 : Int32)))])) (fun t k => XS.iand X0.here hx rfl (hb hby d6_64) rfl k) ?_
              refine own_step (T' := s₁) (g' := (mkF m 68 #[.val (.int p0)] [(.int (273 : Int32)), (.int (p0 &&& (273 : Int32)))])) (fun t k => XS.sipush X0.here hx rfl (hb hby d6_65) k) ?_
              by_cases hc68_13 : (p0 &&& (273 : Int32)) = (273 : Int32)
              · refine own_step (T' := s₁) (g' := (mkF m 80 #[.val (.int p0)] [])) (fun t k => XS.icmpYes X0.here hx rfl (pc0 := 68) (pc' := 80) rfl (hb hby d6_68) rfl (teq hc68_13).1 (by decide) (by decide) k) ?_
                refine own_step (T' := s₁) (g' := (mkF m 81 #[.val (.int p0)] [(.int (1 : Int32))])) (fun t k => XS.iconst X0.here hx rfl (hb hby d6_80) k) ?_
                refine own_step (T' := s₁) (g' := (mkF m 85 #[.val (.int p0)] [(.int (1 : Int32))])) (fun t k => XS.goto X0.here hx rfl (pc0 := 81) (pc' := 85) rfl (hb hby d6_81) (by decide) (by decide) k) ?_
                refine own_retN X0 hx hlk (t := .boolean) (w := (1 : Int32)) Bd.returns (by simp) (hb hby d6_85) rfl (by decide) (by decide) ?_
                exact ⟨congrArg some (congrArg Value.int (show (1 : Int32) = (fnWon p0) from by unfold fnWon; rw [if_neg hc6_1, if_neg hc15_3, if_neg hc26_5, if_neg hc35_7, if_neg hc46_9, if_neg hc57_11, if_pos hc68_13])), N0, e0⟩
              · refine own_step (T' := s₁) (g' := (mkF m 71 #[.val (.int p0)] [])) (fun t k => XS.icmpNo X0.here hx rfl (hb hby d6_68) rfl (feq hc68_13).1 k) ?_
                refine own_step (T' := s₁) (g' := (mkF m 72 #[.val (.int p0)] [(.int p0)])) (fun t k => XS.iloadN X0.here hx rfl (hb hby d6_71) rfl k) ?_
                refine own_step (T' := s₁) (g' := (mkF m 74 #[.val (.int p0)] [(.int (84 : Int32)), (.int p0)])) (fun t k => XS.bipush X0.here hx rfl (hb hby d6_72) k) ?_
                refine own_step (T' := s₁) (g' := (mkF m 75 #[.val (.int p0)] [(.int (p0 &&& (84 : Int32)))])) (fun t k => XS.iand X0.here hx rfl (hb hby d6_74) rfl k) ?_
                refine own_step (T' := s₁) (g' := (mkF m 77 #[.val (.int p0)] [(.int (84 : Int32)), (.int (p0 &&& (84 : Int32)))])) (fun t k => XS.bipush X0.here hx rfl (hb hby d6_75) k) ?_
                by_cases hc77_15 : (p0 &&& (84 : Int32)) = (84 : Int32)
                · refine own_step (T' := s₁) (g' := (mkF m 80 #[.val (.int p0)] [])) (fun t k => XS.icmpNo X0.here hx rfl (hb hby d6_77) rfl (teq hc77_15).2 k) ?_
                  refine own_step (T' := s₁) (g' := (mkF m 81 #[.val (.int p0)] [(.int (1 : Int32))])) (fun t k => XS.iconst X0.here hx rfl (hb hby d6_80) k) ?_
                  refine own_step (T' := s₁) (g' := (mkF m 85 #[.val (.int p0)] [(.int (1 : Int32))])) (fun t k => XS.goto X0.here hx rfl (pc0 := 81) (pc' := 85) rfl (hb hby d6_81) (by decide) (by decide) k) ?_
                  refine own_retN X0 hx hlk (t := .boolean) (w := (1 : Int32)) Bd.returns (by simp) (hb hby d6_85) rfl (by decide) (by decide) ?_
                  exact ⟨congrArg some (congrArg Value.int (show (1 : Int32) = (fnWon p0) from by unfold fnWon; rw [if_neg hc6_1, if_neg hc15_3, if_neg hc26_5, if_neg hc35_7, if_neg hc46_9, if_neg hc57_11, if_neg hc68_13, if_pos hc77_15])), N0, e0⟩
                · refine own_step (T' := s₁) (g' := (mkF m 84 #[.val (.int p0)] [])) (fun t k => XS.icmpYes X0.here hx rfl (pc0 := 77) (pc' := 84) rfl (hb hby d6_77) rfl (feq hc77_15).2 (by decide) (by decide) k) ?_
                  refine own_step (T' := s₁) (g' := (mkF m 85 #[.val (.int p0)] [(.int (0 : Int32))])) (fun t k => XS.iconst X0.here hx rfl (hb hby d6_84) k) ?_
                  refine own_retN X0 hx hlk (t := .boolean) (w := (0 : Int32)) Bd.returns (by simp) (hb hby d6_85) rfl (by decide) (by decide) ?_
                  exact ⟨congrArg some (congrArg Value.int (show (0 : Int32) = (fnWon p0) from by unfold fnWon; rw [if_neg hc6_1, if_neg hc15_3, if_neg hc26_5, if_neg hc35_7, if_neg hc46_9, if_neg hc57_11, if_neg hc68_13, if_neg hc77_15])), N0, e0⟩
def fnOver2_ (el0 : Int32) (el1 : Int32) (el2 : Int32) : Int32 := if (fnWon el0) = (0 : Int32) then if (fnWon el1) = (0 : Int32) then if (el0 ||| el1) = (511 : Int32) then (1 : Int32) else (0 : Int32) else (1 : Int32) else (1 : Int32)
theorem ef_rm5 (m : MethodId) (x0 : Addr) : entryFrame m #[(.ref x0)] 1 = mkF m 0 #[.val (.ref x0)] [] := by first | (simp [entryFrame, mkF, argsToLocals, Value.category]; done) | rfl
def Qrm5 (Z : State) (p0 : Addr) (kk : ClassId) (el0 : Int32) (el1 : Int32) (el2 : Int32) (h0 : Heap) (n0 : Nat) (v : Option Value) (h : Heap) (L : List Loc) : Prop := v = some (.int (fnOver2_ el0 el1 el2)) ∧ Fr n0 L ∧ h = h0
set_option maxRecDepth 65536 in
set_option maxHeartbeats 40000000 in
theorem rm5 (l : Launch) (Z : State) (a0 : Array Value) (hw : ∀ d ∈ tables_1, d.before a0 Z = true) (ws : List Jvm.Cond) (p0 : Addr) (kk : ClassId) (el0 : Int32) (el1 : Int32) (el2 : Int32) (h0 : Heap) (n0 : Nat) (Z0 : n0 ≤ h0.size) (V_p0 : Arv Z h0 p0 kk .int (3 : Int32) [(.int el0), (.int el1), (.int el2)] (.int (0 : Int32))) :
    MetFree l (⟨"com/example/tilescript/tilescript/TicTacToeIsOverPinLaw", "over", "([I)Z"⟩ : MethodName) (head1 (Jvm.Cond.code (⟨"com/example/tilescript/tilescript/TicTacToeIsOverPinLaw", "over", "([I)Z"⟩ : MethodName) method_3_code 1 (some .boolean) :: ws) ({ frames := 1, cells := 0, slots := 0, locals := 12 } : Room)) (fun a U => a = #[(.ref p0)] ∧ Z.Warmed39 U.vm ∧ U.heap = h0) (fun _ _ _ _ _ => True) (fun _ U o U' => ∃ v L, o = .returned v ∧ Qrm5 Z p0 kk el0 el1 el2 h0 n0 v U'.heap L ∧ FrameEnd U o U' L ({ frames := 1, cells := 0, slots := 0, locals := 12 } : Room).cells ({ frames := 1, cells := 0, slots := 0, locals := 12 } : Room).slots) := by
  refine MetFree.of_bodySF (plainFor_of_name pn_5) hisR ?_
  intro p e s m args below meth c s₁ Bd hml0 hP hK
  obtain ⟨rfl, hZ, hh⟩ := hP
  have hx := Bd.exec
  have hby := Bd.bytes
  have hlk : meth.locks = false := BodyLoose.notSynchronized Bd
  have hml : c.maxLocals = 1 := hml0
  have hown : s.vm.findClass "com/example/tilescript/tilescript/TicTacToeIsOverPinLaw" = some m.cls := findClass_of_methodNamed Bd.named
  have hnm := (name_of_methodNamed Bd.named Bd.method).1
  have X0 : Stand p l e ({ frames := 1, cells := 0, slots := 0, locals := 12 } : Room) s m #[(.ref p0)] below meth c s₁ [] 0 0 := Stand.of_body Bd
  have e0 : s₁.heap = h0 := by rw [← hh, Bd.state]; rfl
  have N0 := Fr.nil n0
  have K0 : Keep h0 h0 [] := Keep.refl h0 []
  show own_G p e below s 0 0 (Qrm5 Z p0 kk el0 el1 el2 h0 n0) s₁ (entryFrame m #[(.ref p0)] 1)
  rw [ef_rm5 m p0]
  refine own_step (T' := s₁) (g' := (mkF m 1 #[.val (.ref p0)] [(.ref p0)])) (fun t k => XS.aloadN X0.here hx rfl (hb hby d5_0) rfl rfl k) ?_
  refine own_step (T' := s₁) (g' := (mkF m 2 #[.val (.ref p0)] [(.int (0 : Int32)), (.ref p0)])) (fun t k => XS.iconst X0.here hx rfl (hb hby d5_1) k) ?_
  obtain ⟨cl1, Ar1, q1, Sz1, Nn1, Hh1, Gg1⟩ := id V_p0
  have hin1 : ¬ ((0 : Int32) < 0 ∨ cl1.slots.size ≤ ((0 : Int32)).toNatClampNeg) := inb_of Sz1 ⟨by decide, by decide⟩
  refine own_step (T' := s₁) (g' := (mkF m 3 #[.val (.ref p0)] [(.int el0)])) (fun t k => X0.iaload hx (j := (0 : Int32)) (v := (.int el0)) (by rw [e0]; exact Ar1.1) (State.isArrayOf_alike hZ.alike Ar1.2.1) Ar1.2.2 hin1 (Has.at Hh1 hin1 rfl) (g := (mkF m 2 #[.val (.ref p0)] [(.int (0 : Int32)), (.ref p0)])) rfl rfl (hb hby d5_2) t k) ?_
  obtain ⟨_, _, ⟨T2, L2, kk2, nn2⟩, -, X2, ⟨Lc2, hQ2, l2, y2, z2⟩, st2⟩ := Jvm.LawKit.callS X0 hx (y := (⟨"com/example/tilescript/tilescript/TicTacToeIsOverPinLaw", "won", "(I)Z"⟩ : MethodName)) hown (mvT hZ (hw _ (List.mem_of_getElem? (i := 26) rfl))) (mvT hZ (hw _ (List.mem_of_getElem? (i := 27) rfl))) (mvT hZ (hw _ (List.mem_of_getElem? (i := 17) rfl))) (mvT hZ (hw _ (List.mem_of_getElem? (i := 28) rfl))) (by decide) (backOf (W := 0) (rm6 l Z a0 hw [] el0 h0 n0 (Nat.le_trans Z0 K0.1) ) hZ (hw _ (List.mem_of_getElem? (i := 28) rfl)) (hw _ (List.mem_of_getElem? (i := 17) rfl)) (by decide) (by decide)) (g := (mkF m 3 #[.val (.ref p0)] [(.int el0)])) rfl (by rw [hml]; rfl) (argsL := [(.int el0)]) (rest := []) (lenOf pd_4 rfl) rfl (by show 2 * 0 + _ ≤ _; exact Nat.le_of_eq rfl) (hb hby d5_3) (fun _ _ => ⟨rfl, e0, (by decide : 0 + 0 ≤ _), (by decide : 0 + 0 ≤ _)⟩)
  dsimp only [Pt.U, Pt.locs, Pt.cells, Pt.slots] at X2 l2 y2 z2 st2 hQ2
  subst l2 y2 z2
  obtain ⟨rfl, N2q, eq2⟩ := hQ2
  have N2 := Fr.app N0 N2q
  refine own_step (T' := T2) (g' := (mkF m 6 #[.val (.ref p0)] [(.int (fnWon el0))])) st2 ?_
  by_cases hc6_3 : (fnWon el0) = (0 : Int32)
  · refine own_step (T' := T2) (g' := (mkF m 9 #[.val (.ref p0)] [])) (fun t k => XS.ifNo X2.here hx rfl (hb hby d5_6) rfl ((if0 _ _).trans (teq hc6_3).2) k) ?_
    refine own_step (T' := T2) (g' := (mkF m 10 #[.val (.ref p0)] [(.ref p0)])) (fun t k => XS.aloadN X2.here hx rfl (hb hby d5_9) rfl rfl k) ?_
    refine own_step (T' := T2) (g' := (mkF m 11 #[.val (.ref p0)] [(.int (1 : Int32)), (.ref p0)])) (fun t k => XS.iconst X2.here hx rfl (hb hby d5_10) k) ?_
    obtain ⟨cl4, Ar4, q4, Sz4, Nn4, Hh4, Gg4⟩ := id V_p0
    have hin4 : ¬ ((1 : Int32) < 0 ∨ cl4.slots.size ≤ ((1 : Int32)).toNatClampNeg) := inb_of Sz4 ⟨by decide, by decide⟩
    refine own_step (T' := T2) (g' := (mkF m 12 #[.val (.ref p0)] [(.int el1)])) (fun t k => X2.iaload hx (j := (1 : Int32)) (v := (.int el1)) (by rw [eq2]; exact Ar4.1) (State.isArrayOf_alike hZ.alike Ar4.2.1) Ar4.2.2 hin4 (Has.at Hh4 hin4 rfl) (g := (mkF m 11 #[.val (.ref p0)] [(.int (1 : Int32)), (.ref p0)])) rfl rfl (hb hby d5_11) t k) ?_
    obtain ⟨_, _, ⟨T5, L5, kk5, nn5⟩, -, X5, ⟨Lc5, hQ5, l5, y5, z5⟩, st5⟩ := Jvm.LawKit.callS X2 hx (y := (⟨"com/example/tilescript/tilescript/TicTacToeIsOverPinLaw", "won", "(I)Z"⟩ : MethodName)) hown (mvT hZ (hw _ (List.mem_of_getElem? (i := 26) rfl))) (mvT hZ (hw _ (List.mem_of_getElem? (i := 27) rfl))) (mvT hZ (hw _ (List.mem_of_getElem? (i := 17) rfl))) (mvT hZ (hw _ (List.mem_of_getElem? (i := 28) rfl))) (by decide) (backOf (W := 0) (rm6 l Z a0 hw [] el1 h0 n0 (Nat.le_trans Z0 K0.1) ) hZ (hw _ (List.mem_of_getElem? (i := 28) rfl)) (hw _ (List.mem_of_getElem? (i := 17) rfl)) (by decide) (by decide)) (g := (mkF m 12 #[.val (.ref p0)] [(.int el1)])) rfl (by rw [hml]; rfl) (argsL := [(.int el1)]) (rest := []) (lenOf pd_4 rfl) rfl (by show 2 * 0 + _ ≤ _; exact Nat.le_of_eq rfl) (hb hby d5_12) (fun _ _ => ⟨rfl, eq2, (by decide : 0 + 0 ≤ _), (by decide : 0 + 0 ≤ _)⟩)
    dsimp only [Pt.U, Pt.locs, Pt.cells, Pt.slots] at X5 l5 y5 z5 st5 hQ5
    subst l5 y5 z5
    obtain ⟨rfl, N5q, eq5⟩ := hQ5
    have N5 := Fr.app N2 N5q
    refine own_step (T' := T5) (g' := (mkF m 15 #[.val (.ref p0)] [(.int (fnWon el1))])) st5 ?_
    by_cases hc15_6 : (fnWon el1) = (0 : Int32)
    · refine own_step (T' := T5) (g' := (mkF m 18 #[.val (.ref p0)] [])) (fun t k => XS.ifNo X5.here hx rfl (hb hby d5_15) rfl ((if0 _ _).trans (teq hc15_6).2) k) ?_
      refine own_step (T' := T5) (g' := (mkF m 19 #[.val (.ref p0)] [(.ref p0)])) (fun t k => XS.aloadN X5.here hx rfl (hb hby d5_18) rfl rfl k) ?_
      refine own_step (T' := T5) (g' := (mkF m 20 #[.val (.ref p0)] [(.int (0 : Int32)), (.ref p0)])) (fun t k => XS.iconst X5.here hx rfl (hb hby d5_19) k) ?_
      obtain ⟨cl7, Ar7, q7, Sz7, Nn7, Hh7, Gg7⟩ := id V_p0
      have hin7 : ¬ ((0 : Int32) < 0 ∨ cl7.slots.size ≤ ((0 : Int32)).toNatClampNeg) := inb_of Sz7 ⟨by decide, by decide⟩
      refine own_step (T' := T5) (g' := (mkF m 21 #[.val (.ref p0)] [(.int el0)])) (fun t k => X5.iaload hx (j := (0 : Int32)) (v := (.int el0)) (by rw [eq5]; exact Ar7.1) (State.isArrayOf_alike hZ.alike Ar7.2.1) Ar7.2.2 hin7 (Has.at Hh7 hin7 rfl) (g := (mkF m 20 #[.val (.ref p0)] [(.int (0 : Int32)), (.ref p0)])) rfl rfl (hb hby d5_20) t k) ?_
      refine own_step (T' := T5) (g' := (mkF m 22 #[.val (.ref p0)] [(.ref p0), (.int el0)])) (fun t k => XS.aloadN X5.here hx rfl (hb hby d5_21) rfl rfl k) ?_
      refine own_step (T' := T5) (g' := (mkF m 23 #[.val (.ref p0)] [(.int (1 : Int32)), (.ref p0), (.int el0)])) (fun t k => XS.iconst X5.here hx rfl (hb hby d5_22) k) ?_
      obtain ⟨cl8, Ar8, q8, Sz8, Nn8, Hh8, Gg8⟩ := id V_p0
      have hin8 : ¬ ((1 : Int32) < 0 ∨ cl8.slots.size ≤ ((1 : Int32)).toNatClampNeg) := inb_of Sz8 ⟨by decide, by decide⟩
      refine own_step (T' := T5) (g' := (mkF m 24 #[.val (.ref p0)] [(.int el1), (.int el0)])) (fun t k => X5.iaload hx (j := (1 : Int32)) (v := (.int el1)) (by rw [eq5]; exact Ar8.1) (State.isArrayOf_alike hZ.alike Ar8.2.1) Ar8.2.2 hin8 (Has.at Hh8 hin8 rfl) (g := (mkF m 23 #[.val (.ref p0)] [(.int (1 : Int32)), (.ref p0), (.int el0)])) rfl rfl (hb hby d5_23) t k) ?_
      refine own_step (T' := T5) (g' := (mkF m 25 #[.val (.ref p0)] [(.int (el0 ||| el1))])) (fun t k => XS.ior X5.here hx rfl (hb hby d5_24) rfl k) ?_
      refine own_step (T' := T5) (g' := (mkF m 28 #[.val (.ref p0)] [(.int (511 : Int32)), (.int (el0 ||| el1))])) (fun t k => XS.sipush X5.here hx rfl (hb hby d5_25) k) ?_
      by_cases hc28_9 : (el0 ||| el1) = (511 : Int32)
      · refine own_step (T' := T5) (g' := (mkF m 31 #[.val (.ref p0)] [])) (fun t k => XS.icmpNo X5.here hx rfl (hb hby d5_28) rfl (teq hc28_9).2 k) ?_
        refine own_step (T' := T5) (g' := (mkF m 32 #[.val (.ref p0)] [(.int (1 : Int32))])) (fun t k => XS.iconst X5.here hx rfl (hb hby d5_31) k) ?_
        refine own_step (T' := T5) (g' := (mkF m 36 #[.val (.ref p0)] [(.int (1 : Int32))])) (fun t k => XS.goto X5.here hx rfl (pc0 := 32) (pc' := 36) rfl (hb hby d5_32) (by decide) (by decide) k) ?_
        refine own_retN X5 hx hlk (t := .boolean) (w := (1 : Int32)) Bd.returns (by simp) (hb hby d5_36) rfl (by decide) (by decide) ?_
        exact ⟨congrArg some (congrArg Value.int (show (1 : Int32) = (fnOver2_ el0 el1 el2) from by unfold fnOver2_; rw [if_pos hc6_3, if_pos hc15_6, if_pos hc28_9])), N5, eq5⟩
      · refine own_step (T' := T5) (g' := (mkF m 35 #[.val (.ref p0)] [])) (fun t k => XS.icmpYes X5.here hx rfl (pc0 := 28) (pc' := 35) rfl (hb hby d5_28) rfl (feq hc28_9).2 (by decide) (by decide) k) ?_
        refine own_step (T' := T5) (g' := (mkF m 36 #[.val (.ref p0)] [(.int (0 : Int32))])) (fun t k => XS.iconst X5.here hx rfl (hb hby d5_35) k) ?_
        refine own_retN X5 hx hlk (t := .boolean) (w := (0 : Int32)) Bd.returns (by simp) (hb hby d5_36) rfl (by decide) (by decide) ?_
        exact ⟨congrArg some (congrArg Value.int (show (0 : Int32) = (fnOver2_ el0 el1 el2) from by unfold fnOver2_; rw [if_pos hc6_3, if_pos hc15_6, if_neg hc28_9])), N5, eq5⟩
    · refine own_step (T' := T5) (g' := (mkF m 31 #[.val (.ref p0)] [])) (fun t k => XS.ifYes X5.here hx rfl (pc0 := 15) (pc' := 31) rfl (hb hby d5_15) rfl ((if0 _ _).trans (feq hc15_6).2) (by decide) (by decide) k) ?_
      refine own_step (T' := T5) (g' := (mkF m 32 #[.val (.ref p0)] [(.int (1 : Int32))])) (fun t k => XS.iconst X5.here hx rfl (hb hby d5_31) k) ?_
      refine own_step (T' := T5) (g' := (mkF m 36 #[.val (.ref p0)] [(.int (1 : Int32))])) (fun t k => XS.goto X5.here hx rfl (pc0 := 32) (pc' := 36) rfl (hb hby d5_32) (by decide) (by decide) k) ?_
      refine own_retN X5 hx hlk (t := .boolean) (w := (1 : Int32)) Bd.returns (by simp) (hb hby d5_36) rfl (by decide) (by decide) ?_
      exact ⟨congrArg some (congrArg Value.int (show (1 : Int32) = (fnOver2_ el0 el1 el2) from by unfold fnOver2_; rw [if_pos hc6_3, if_neg hc15_6])), N5, eq5⟩
  · refine own_step (T' := T2) (g' := (mkF m 31 #[.val (.ref p0)] [])) (fun t k => XS.ifYes X2.here hx rfl (pc0 := 6) (pc' := 31) rfl (hb hby d5_6) rfl ((if0 _ _).trans (feq hc6_3).2) (by decide) (by decide) k) ?_
    refine own_step (T' := T2) (g' := (mkF m 32 #[.val (.ref p0)] [(.int (1 : Int32))])) (fun t k => XS.iconst X2.here hx rfl (hb hby d5_31) k) ?_
    refine own_step (T' := T2) (g' := (mkF m 36 #[.val (.ref p0)] [(.int (1 : Int32))])) (fun t k => XS.goto X2.here hx rfl (pc0 := 32) (pc' := 36) rfl (hb hby d5_32) (by decide) (by decide) k) ?_
    refine own_retN X2 hx hlk (t := .boolean) (w := (1 : Int32)) Bd.returns (by simp) (hb hby d5_36) rfl (by decide) (by decide) ?_
    exact ⟨congrArg some (congrArg Value.int (show (1 : Int32) = (fnOver2_ el0 el1 el2) from by unfold fnOver2_; rw [if_neg hc6_3])), N2, eq2⟩
def fnOver2 (x o : Int32) : Int32 := if fnWon x = 0 then (if fnWon o = 0 then (if (x ||| o) = 511 then 1 else 0) else 1) else 1
def fnCell (p0 : Int64) (p1 : Int32) : Int32 := (((p0.toUInt64 >>> (((4 : Int32) * p1) &&& 0x3f).toInt64.toUInt64).toInt64 &&& (15 : Int64)).toInt32 % (9 : Int32))
theorem ef_rm3 (m : MethodId) (x0 : Int64) (x1 : Int32) : entryFrame m #[(.long x0), (.int x1)] 3 = mkF m 0 #[.val (.long x0), .second, .val (.int x1)] [] := by first | (simp [entryFrame, mkF, argsToLocals, Value.category]; done) | rfl
def Qrm3 (Z : State) (p0 : Int64) (p1 : Int32) (h0 : Heap) (n0 : Nat) (v : Option Value) (h : Heap) (L : List Loc) : Prop := v = some (.int (fnCell p0 p1)) ∧ Fr n0 L ∧ h = h0
set_option maxRecDepth 65536 in
set_option maxHeartbeats 40000000 in
theorem rm3 (l : Launch) (Z : State) (a0 : Array Value) (hw : ∀ d ∈ tables_1, d.before a0 Z = true) (ws : List Jvm.Cond) (p0 : Int64) (p1 : Int32) (h0 : Heap) (n0 : Nat) (Z0 : n0 ≤ h0.size) :
    MetFree l (⟨"com/example/tilescript/tilescript/TicTacToeIsOverPinLaw", "cellOf", "(JI)I"⟩ : MethodName) (head1 (Jvm.Cond.code (⟨"com/example/tilescript/tilescript/TicTacToeIsOverPinLaw", "cellOf", "(JI)I"⟩ : MethodName) method_4_code 3 (some .int) :: ws) ({ frames := 0, cells := 0, slots := 0, locals := 0 } : Room)) (fun a U => a = #[(.long p0), (.int p1)] ∧ Z.Warmed39 U.vm ∧ U.heap = h0) (fun _ _ _ _ _ => True) (fun _ U o U' => ∃ v L, o = .returned v ∧ Qrm3 Z p0 p1 h0 n0 v U'.heap L ∧ FrameEnd U o U' L ({ frames := 0, cells := 0, slots := 0, locals := 0 } : Room).cells ({ frames := 0, cells := 0, slots := 0, locals := 0 } : Room).slots) := by
  refine MetFree.of_bodySF (plainFor_of_name pn_3) hisR ?_
  intro p e s m args below meth c s₁ Bd hml0 hP hK
  obtain ⟨rfl, hZ, hh⟩ := hP
  have hx := Bd.exec
  have hby := Bd.bytes
  have hlk : meth.locks = false := BodyLoose.notSynchronized Bd
  have hml : c.maxLocals = 3 := hml0
  have hown : s.vm.findClass "com/example/tilescript/tilescript/TicTacToeIsOverPinLaw" = some m.cls := findClass_of_methodNamed Bd.named
  have hnm := (name_of_methodNamed Bd.named Bd.method).1
  have X0 : Stand p l e ({ frames := 0, cells := 0, slots := 0, locals := 0 } : Room) s m #[(.long p0), (.int p1)] below meth c s₁ [] 0 0 := Stand.of_body Bd
  have e0 : s₁.heap = h0 := by rw [← hh, Bd.state]; rfl
  have N0 := Fr.nil n0
  have K0 : Keep h0 h0 [] := Keep.refl h0 []
  show own_G p e below s 0 0 (Qrm3 Z p0 p1 h0 n0) s₁ (entryFrame m #[(.long p0), (.int p1)] 3)
  rw [ef_rm3 m p0 p1]
  refine own_step (T' := s₁) (g' := (mkF m 1 #[.val (.long p0), .second, .val (.int p1)] [(.long p0)])) (fun t k => XS.lloadN X0.here hx rfl (hb hby d3_0) rfl k) ?_
  refine own_step (T' := s₁) (g' := (mkF m 2 #[.val (.long p0), .second, .val (.int p1)] [(.int (4 : Int32)), (.long p0)])) (fun t k => XS.iconst X0.here hx rfl (hb hby d3_1) k) ?_
  refine own_step (T' := s₁) (g' := (mkF m 3 #[.val (.long p0), .second, .val (.int p1)] [(.int p1), (.int (4 : Int32)), (.long p0)])) (fun t k => XS.iloadN X0.here hx rfl (hb hby d3_2) rfl k) ?_
  refine own_step (T' := s₁) (g' := (mkF m 4 #[.val (.long p0), .second, .val (.int p1)] [(.int ((4 : Int32) * p1)), (.long p0)])) (fun t k => XS.imul X0.here hx rfl (hb hby d3_3) rfl k) ?_
  refine own_step (T' := s₁) (g' := (mkF m 5 #[.val (.long p0), .second, .val (.int p1)] [(.long (p0.toUInt64 >>> (((4 : Int32) * p1) &&& 0x3f).toInt64.toUInt64).toInt64)])) (fun t k => XS.lushr X0.here hx rfl (hb hby d3_4) rfl k) ?_
  refine own_step (T' := s₁) (g' := (mkF m 8 #[.val (.long p0), .second, .val (.int p1)] [(.long (15 : Int64)), (.long (p0.toUInt64 >>> (((4 : Int32) * p1) &&& 0x3f).toInt64.toUInt64).toInt64)])) (fun t k => X0.ldc2Long hx hown (mvT hZ (hw _ (List.mem_of_getElem? (i := 19) rfl))) (g := (mkF m 5 #[.val (.long p0), .second, .val (.int p1)] [(.long (p0.toUInt64 >>> (((4 : Int32) * p1) &&& 0x3f).toInt64.toUInt64).toInt64)])) rfl (hb hby d3_5) t k) ?_
  refine own_step (T' := s₁) (g' := (mkF m 9 #[.val (.long p0), .second, .val (.int p1)] [(.long ((p0.toUInt64 >>> (((4 : Int32) * p1) &&& 0x3f).toInt64.toUInt64).toInt64 &&& (15 : Int64)))])) (fun t k => XS.land X0.here hx rfl (hb hby d3_8) rfl k) ?_
  refine own_step (T' := s₁) (g' := (mkF m 10 #[.val (.long p0), .second, .val (.int p1)] [(.int ((p0.toUInt64 >>> (((4 : Int32) * p1) &&& 0x3f).toInt64.toUInt64).toInt64 &&& (15 : Int64)).toInt32)])) (fun t k => XS.l2i X0.here hx rfl (hb hby d3_9) rfl k) ?_
  refine own_step (T' := s₁) (g' := (mkF m 12 #[.val (.long p0), .second, .val (.int p1)] [(.int (9 : Int32)), (.int ((p0.toUInt64 >>> (((4 : Int32) * p1) &&& 0x3f).toInt64.toUInt64).toInt64 &&& (15 : Int64)).toInt32)])) (fun t k => XS.bipush X0.here hx rfl (hb hby d3_10) k) ?_
  refine own_step (T' := s₁) (g' := (mkF m 13 #[.val (.long p0), .second, .val (.int p1)] [(.int (((p0.toUInt64 >>> (((4 : Int32) * p1) &&& 0x3f).toInt64.toUInt64).toInt64 &&& (15 : Int64)).toInt32 % (9 : Int32)))])) (fun t k => Jvm.RoadKit.iremM X0 hx rfl (hb hby d3_12) rfl (by decide) k) ?_
  refine own_retI X0 hx hlk Bd.returns (hb hby d3_13) (by decide) (by decide) ?_
  exact ⟨congrArg some (congrArg Value.int (show (((p0.toUInt64 >>> (((4 : Int32) * p1) &&& 0x3f).toInt64.toUInt64).toInt64 &&& (15 : Int64)).toInt32 % (9 : Int32)) = (fnCell p0 p1) from by rfl)), N0, e0⟩
def own_pc (n : Nat) : Nat := n % 2 + n / 2 % 2 + n / 4 % 2 + n / 8 % 2 + n / 16 % 2 + n / 32 % 2 + n / 64 % 2 + n / 128 % 2 + n / 256 % 2
def own_ch (a b i : Nat) : Int32 := if a.testBit i = true then 88 else if b.testBit i = true then 79 else 0
theorem own_t1 : ∀ a, a < 512 → ∀ c, c < 9 → (Int32.ofNat a ||| ((1 : Int32) <<< (Int32.ofNat c &&& 31))) = Int32.ofNat (a ||| 2 ^ c) := by decide +kernel
theorem own_t2 : ∀ a, a < 512 → ∀ c, c < 9 → a ||| 2 ^ c < 512 := by decide +kernel
theorem own_t3 : ∀ a, a < 512 → ∀ c, c < 9 → a.testBit c = false → own_pc (a ||| 2 ^ c) = own_pc a + 1 := by decide +kernel
theorem own_t4 : ∀ a, a < 512 → own_pc a ≤ 2 → (¬ (Int32.ofNat a &&& 7) = 7 ∧ ¬ (Int32.ofNat a &&& 56) = 56 ∧ ¬ (Int32.ofNat a &&& 448) = 448 ∧ ¬ (Int32.ofNat a &&& 73) = 73 ∧ ¬ (Int32.ofNat a &&& 146) = 146 ∧ ¬ (Int32.ofNat a &&& 292) = 292 ∧ ¬ (Int32.ofNat a &&& 273) = 273 ∧ ¬ (Int32.ofNat a &&& 84) = 84) := by decide +kernel
theorem own_t5 : ∀ a, a < 512 → ∀ c, c < 9 → decide ((Int32.ofNat a &&& ((1 : Int32) <<< (Int32.ofNat c &&& 31))) = 0) = !(a.testBit c) := by decide +kernel
theorem own_or (a b : Nat) : Int32.ofNat a ||| Int32.ofNat b = Int32.ofNat (a ||| b) := by
  apply Int32.toBitVec_inj.mp
  show BitVec.ofNat 32 a ||| BitVec.ofNat 32 b = BitVec.ofNat 32 (a ||| b)
  apply BitVec.eq_of_getLsbD_eq
  intro i hi
  simp [BitVec.getLsbD_ofNat, hi]
theorem own_or512 {a b : Nat} (ha : a < 512) (hb : b < 512) : a ||| b < 512 := Nat.or_lt_two_pow (n := 9) ha hb
theorem own_ofNat {v : Int32} (h0 : 0 ≤ v.toInt) : v = Int32.ofNat v.toNatClampNeg := by
  apply Int32.toInt_inj.mp
  have h := v.toInt_lt
  have e : (v.toNatClampNeg : Int) = v.toInt := by simp only [Int32.toNatClampNeg]; omega
  rw [Int32.toInt_ofNat_of_lt (by omega)]
  exact e.symm
theorem own_clamp {v : Int32} (h0 : 0 ≤ v.toInt) : (v.toNatClampNeg : Int) = v.toInt := by simp only [Int32.toNatClampNeg]; omega
theorem own_tb (a c i : Nat) : (a ||| 2 ^ c).testBit i = (a.testBit i || decide (c = i)) := by
  rw [Nat.testBit_or, Nat.testBit_two_pow]
def own_I3 (x o m w : Int32) : Prop :=
  ∃ a b : Nat, a < 512 ∧ b < 512 ∧ x = Int32.ofNat a ∧ o = Int32.ofNat b ∧ 0 ≤ m.toInt ∧ m.toInt ≤ 9 ∧ own_pc (a ||| b) = m.toInt.toNat ∧ (w = 45 ↔ fnWon x = 0 ∧ fnWon o = 0)
theorem own_t6 : ∀ a, a < 512 → (own_pc a = 9 ↔ a = 511) := by decide +kernel
theorem own_t7 : ∀ a, a < 512 → own_pc a ≤ 9 := by decide +kernel
theorem own_t8 : ∀ a, a < 512 → (Int32.ofNat a = 511 ↔ a = 511) := by decide +kernel
theorem own_i30 : own_I3 0 0 0 45 := ⟨0, 0, by decide, by decide, rfl, rfl, by decide, by decide, by decide, by decide⟩
theorem own_wn45 (c t : Int32) : own_wn c t 45 = if fnWon c = 0 then 45 else t := by
  unfold own_wn fnWon
  by_cases h1 : (c &&& (7 : Int32)) = (7 : Int32)
  · simp [h1]
  by_cases h2 : (c &&& (56 : Int32)) = (56 : Int32)
  · simp [h1, h2]
  by_cases h3 : (c &&& (448 : Int32)) = (448 : Int32)
  · simp [h1, h2, h3]
  by_cases h4 : (c &&& (73 : Int32)) = (73 : Int32)
  · simp [h1, h2, h3, h4]
  by_cases h5 : (c &&& (146 : Int32)) = (146 : Int32)
  · simp [h1, h2, h3, h4, h5]
  by_cases h6 : (c &&& (292 : Int32)) = (292 : Int32)
  · simp [h1, h2, h3, h4, h5, h6]
  by_cases h7 : (c &&& (273 : Int32)) = (273 : Int32)
  · simp [h1, h2, h3, h4, h5, h6, h7]
  by_cases h8 : (c &&& (84 : Int32)) = (84 : Int32)
  · simp [h1, h2, h3, h4, h5, h6, h7, h8]
  simp [h1, h2, h3, h4, h5, h6, h7, h8]
section
variable {x o w m v x1 o1 w1 : Int32}
theorem own_nat9 (hv : 0 ≤ v.toInt) (h : v.toInt < 9) : v.toNatClampNeg < 9 := by
  have := own_clamp hv
  omega
theorem own_ov2 (h : fnOver2 x o = 0) : fnWon x = 0 ∧ fnWon o = 0 ∧ ¬ (x ||| o) = 511 := by
  unfold fnOver2 at h
  by_cases h1 : fnWon x = 0
  · rw [if_pos h1] at h
    by_cases h2 : fnWon o = 0
    · rw [if_pos h2] at h
      by_cases h3 : (x ||| o) = 511
      · rw [if_pos h3] at h; exact absurd h (by decide)
      · exact ⟨h1, h2, h3⟩
    · rw [if_neg h2] at h; exact absurd h (by decide)
  · rw [if_neg h1] at h; exact absurd h (by decide)
theorem own_full (I : own_I3 x o m w) : m = 9 ↔ (x ||| o) = 511 := by
  obtain ⟨a, b, ha, hb, rfl, rfl, m0, m9, hp, hw⟩ := I
  rw [own_or, own_t8 _ (own_or512 ha hb), ← own_t6 _ (own_or512 ha hb), hp]
  constructor
  · intro q; rw [q]; rfl
  · intro q
    apply Int32.toInt_inj.mp
    have : (9 : Int32).toInt = 9 := rfl
    omega
theorem own_isover (I : own_I3 x o m w) : fnOver w m = fnOver2 x o := by
  have hf := own_full I
  obtain ⟨a, b, ha, hb, e1, e2, m0, m9, hp, hw⟩ := I
  unfold fnOver fnOver2
  by_cases h1 : fnWon x = 0
  · by_cases h2 : fnWon o = 0
    · rw [if_pos (hw.mpr ⟨h1, h2⟩), if_pos h1, if_pos h2]
      by_cases h3 : m = 9
      · rw [if_pos h3, if_pos (hf.mp h3)]
      · rw [if_neg h3, if_neg (fun q => h3 (hf.mpr q))]
    · rw [if_neg (fun q => h2 (hw.mp q).2), if_pos h1, if_neg h2]
  · rw [if_neg (fun q => h1 (hw.mp q).1), if_neg h1]
theorem own_legal3 (I : own_I3 x o m w) (hv : 0 ≤ v.toInt ∧ v.toInt < 9) (h : fnOver2 x o = 0) (hb : ((x ||| o) &&& ((1 : Int32) <<< (v &&& 31))) = 0) : ¬ fnLegal v w m x o = 0 := by
  have hneg : ¬ v < 0 := by simp only [Int32.lt_iff_toInt_lt, Int32.reduceToInt]; omega
  have h9 : v < 9 := by simp only [Int32.lt_iff_toInt_lt, Int32.reduceToInt]; omega
  unfold fnLegal
  rw [own_isover I, if_pos h, if_neg hneg, if_pos h9, if_pos hb]
  decide
theorem own_par3 (hm : 0 ≤ m.toInt) : True := trivial
theorem own_succ (h0 : 0 ≤ m.toInt) (h5 : m.toInt ≤ 100) : (m + 1).toInt = m.toInt + 1 := by
  have e : (1 : Int32).toInt = 1 := rfl
  rw [Int32.toInt_add, e]; exact Int.bmod_eq_of_le (by omega) (by omega)
theorem own_even (hp : own_play v x o m w x1 o1 w1) (h : (m % 2) = 0) : x1 = (x ||| ((1 : Int32) <<< (v &&& 31))) ∧ o1 = o ∧ w1 = own_wn (x ||| ((1 : Int32) <<< (v &&& 31))) (nar .char (fnTok m)) w := by
  rcases hp with ⟨tk, rfl, rfl, rfl⟩ | ⟨tk, -⟩
  · exact ⟨rfl, rfl, rfl⟩
  · unfold fnTok at tk; rw [if_pos h] at tk; exact absurd rfl tk
theorem own_odd (hp : own_play v x o m w x1 o1 w1) (h : ¬ (m % 2) = 0) : x1 = x ∧ o1 = (o ||| ((1 : Int32) <<< (v &&& 31))) ∧ w1 = own_wn (o ||| ((1 : Int32) <<< (v &&& 31))) (nar .char (fnTok m)) w := by
  rcases hp with ⟨tk, -⟩ | ⟨tk, rfl, rfl, rfl⟩
  · unfold fnTok at tk; rw [if_neg h] at tk; exact absurd tk (by decide)
  · exact ⟨rfl, rfl, rfl⟩
theorem own_tok45 : ¬ nar .char (fnTok m) = 45 := by
  unfold fnTok
  split <;> decide
theorem own_pl_even (I : own_I3 x o m w) (hv : 0 ≤ v.toInt ∧ v.toInt < 9) (h : fnOver2 x o = 0) (hb : ((x ||| o) &&& ((1 : Int32) <<< (v &&& 31))) = 0) :
    own_I3 (x ||| ((1 : Int32) <<< (v &&& 31))) o (m + 1) (own_wn (x ||| ((1 : Int32) <<< (v &&& 31))) (nar .char (fnTok m)) w) := by
  have hf := own_full I
  obtain ⟨w1, w2, w3⟩ := own_ov2 h
  obtain ⟨a, b, ha, hb', rfl, rfl, m0, m9, hp, hw⟩ := I
  have hn := own_nat9 hv.1 hv.2
  have hw45 : w = 45 := hw.mpr ⟨w1, w2⟩
  have hm : m.toInt ≤ 8 := by
    by_cases q : m.toInt = 9
    · exact absurd (hf.mp (Int32.toInt_inj.mp q)) w3
    · omega
  have hs := own_succ m0 (by omega)
  have hbit : (a ||| b).testBit v.toNatClampNeg = false := by
    have := own_t5 (a ||| b) (own_or512 ha hb') v.toNatClampNeg hn
    rw [← own_ofNat hv.1, ← own_or, decide_eq_true hb] at this
    simpa using this.symm
  have hx : (Int32.ofNat a ||| ((1 : Int32) <<< (v &&& 31))) = Int32.ofNat (a ||| 2 ^ v.toNatClampNeg) := by
    have := own_t1 a ha v.toNatClampNeg hn
    rw [← own_ofNat hv.1] at this; exact this
  have hc : own_pc ((a ||| 2 ^ v.toNatClampNeg) ||| b) = own_pc (a ||| b) + 1 := by
    have e : (a ||| 2 ^ v.toNatClampNeg) ||| b = (a ||| b) ||| 2 ^ v.toNatClampNeg := by rw [Nat.or_assoc, Nat.or_comm (2 ^ v.toNatClampNeg) b, ← Nat.or_assoc]
    rw [e]; exact own_t3 _ (own_or512 ha hb') _ hn hbit
  rw [hw45, own_wn45]
  refine ⟨a ||| 2 ^ v.toNatClampNeg, b, own_t2 a ha _ hn, hb', hx, rfl, by omega, by omega, by omega, ?_⟩
  by_cases q : fnWon (Int32.ofNat a ||| ((1 : Int32) <<< (v &&& 31))) = 0
  · rw [if_pos q]; exact ⟨fun _ => ⟨q, w2⟩, fun _ => rfl⟩
  · rw [if_neg q]; exact ⟨fun r => absurd r own_tok45, fun r => absurd r.1 q⟩
theorem own_pl_odd (I : own_I3 x o m w) (hv : 0 ≤ v.toInt ∧ v.toInt < 9) (h : fnOver2 x o = 0) (hb : ((x ||| o) &&& ((1 : Int32) <<< (v &&& 31))) = 0) :
    own_I3 x (o ||| ((1 : Int32) <<< (v &&& 31))) (m + 1) (own_wn (o ||| ((1 : Int32) <<< (v &&& 31))) (nar .char (fnTok m)) w) := by
  have hf := own_full I
  obtain ⟨w1, w2, w3⟩ := own_ov2 h
  obtain ⟨a, b, ha, hb', rfl, rfl, m0, m9, hp, hw⟩ := I
  have hn := own_nat9 hv.1 hv.2
  have hw45 : w = 45 := hw.mpr ⟨w1, w2⟩
  have hm : m.toInt ≤ 8 := by
    by_cases q : m.toInt = 9
    · exact absurd (hf.mp (Int32.toInt_inj.mp q)) w3
    · omega
  have hs := own_succ m0 (by omega)
  have hbit : (a ||| b).testBit v.toNatClampNeg = false := by
    have := own_t5 (a ||| b) (own_or512 ha hb') v.toNatClampNeg hn
    rw [← own_ofNat hv.1, ← own_or, decide_eq_true hb] at this
    simpa using this.symm
  have hx : (Int32.ofNat b ||| ((1 : Int32) <<< (v &&& 31))) = Int32.ofNat (b ||| 2 ^ v.toNatClampNeg) := by
    have := own_t1 b hb' v.toNatClampNeg hn
    rw [← own_ofNat hv.1] at this; exact this
  have hc : own_pc (a ||| (b ||| 2 ^ v.toNatClampNeg)) = own_pc (a ||| b) + 1 := by
    rw [← Nat.or_assoc]; exact own_t3 _ (own_or512 ha hb') _ hn hbit
  rw [hw45, own_wn45]
  refine ⟨a, b ||| 2 ^ v.toNatClampNeg, ha, own_t2 b hb' _ hn, rfl, hx, by omega, by omega, by omega, ?_⟩
  by_cases q : fnWon (Int32.ofNat b ||| ((1 : Int32) <<< (v &&& 31))) = 0
  · rw [if_pos q]; exact ⟨fun _ => ⟨w1, q⟩, fun _ => rfl⟩
  · rw [if_neg q]; exact ⟨fun r => absurd r own_tok45, fun r => absurd r.2 q⟩
theorem own_cell (q : Int64) (k : Int32) : 0 ≤ (fnCell q k).toInt ∧ (fnCell q k).toInt < 9 := by
  unfold fnCell
  generalize (q.toUInt64 >>> (((4 : Int32) * k) &&& 0x3f).toInt64.toUInt64).toInt64 = y
  have h : (y &&& 15).toBitVec.toNat ≤ 15 := by
    rw [Int64.toBitVec_and, BitVec.toNat_and]; exact Nat.and_le_right
  have e : (y &&& 15).toInt = ((y &&& 15).toBitVec.toNat : Int) := by
    show (y &&& 15).toBitVec.toInt = _
    rw [BitVec.toInt_eq_toNat_cond, if_pos (by omega)]
  have e2 : (y &&& 15).toInt32.toInt = (y &&& 15).toInt := by
    rw [Int64.toInt_toInt32]; exact Int.bmod_eq_of_le (by omega) (by omega)
  have e3 : ((y &&& 15).toInt32 % 9).toInt = (y &&& 15).toInt % 9 := by
    rw [Int32.toInt_mod, e2, Int.tmod_eq_emod_of_nonneg (by omega)]; rfl
  omega
end
theorem own_o2 (x o z : Int32) : fnOver2_ x o z = fnOver2 x o := rfl
theorem ef_rm4 (m : MethodId) (x0 : Addr) (x1 : Addr) (x2 : Int32) : entryFrame m #[(.ref x0), (.ref x1), (.int x2)] 4 = mkF m 0 #[.val (.ref x0), .val (.ref x1), .val (.int x2), .unset] [] := by first | (simp [entryFrame, mkF, argsToLocals, Value.category]; done) | rfl
def Qrm4 (Z : State) (p0 : Addr) (p1 : Addr) (p2 : Int32) (wx : Int32) (wo : Int32) (wm : Int32) (ww : Int32) (wl : Int32) (kk : ClassId) (aL : Addr) (kL : ClassId) (h0 : Heap) (n0 : Nat) (v : Option Value) (h : Heap) (L : List Loc) : Prop := ∃ (x1 : Int32) (o1 : Int32) (m1 : Int32) (w1 : Int32) (l1 : Int32), v = none ∧ Fr n0 L ∧ Keep h0 h [p0, p1] ∧ Fld Z h p0 "com/example/tilescript/tilescript/TicTacToe" "xCells" "I" (.int x1) ∧ Fld Z h p0 "com/example/tilescript/tilescript/TicTacToe" "oCells" "I" (.int o1) ∧ Fld Z h p0 "com/example/tilescript/tilescript/TicTacToe" "marks" "I" (.int m1) ∧ Fld Z h p0 "com/example/tilescript/tilescript/TicTacToe" "winner" "C" (.int w1) ∧ Fld Z h p0 "com/example/tilescript/tilescript/TicTacToe" "lastMove" "I" (.int l1) ∧ Arv Z h p1 kk .int (3 : Int32) [(.int x1), (.int o1), (.int m1)] (.int (0 : Int32)) ∧ own_I3 x1 o1 m1 w1
set_option maxRecDepth 65536 in
set_option maxHeartbeats 40000000 in
theorem rm4 (l : Launch) (Z : State) (a0 : Array Value) (hw : ∀ d ∈ tables_1, d.before a0 Z = true) (ws : List Jvm.Cond) (p0 : Addr) (p1 : Addr) (p2 : Int32) (wx : Int32) (wo : Int32) (wm : Int32) (ww : Int32) (wl : Int32) (kk : ClassId) (aL : Addr) (kL : ClassId) (h0 : Heap) (n0 : Nat) (Z0 : n0 ≤ h0.size) (E_p0 : Exa Z h0 p0 "com/example/tilescript/tilescript/TicTacToe") (F_xCells_p0 : Fld Z h0 p0 "com/example/tilescript/tilescript/TicTacToe" "xCells" "I" (.int wx)) (F_oCells_p0 : Fld Z h0 p0 "com/example/tilescript/tilescript/TicTacToe" "oCells" "I" (.int wo)) (F_marks_p0 : Fld Z h0 p0 "com/example/tilescript/tilescript/TicTacToe" "marks" "I" (.int wm)) (F_winner_p0 : Fld Z h0 p0 "com/example/tilescript/tilescript/TicTacToe" "winner" "C" (.int ww)) (F_lastMove_p0 : Fld Z h0 p0 "com/example/tilescript/tilescript/TicTacToe" "lastMove" "I" (.int wl)) (g_p0 : n0 ≤ p0) (g_p1 : n0 ≤ p1) (V_p1 : Arv Z h0 p1 kk .int (3 : Int32) [(.int wx), (.int wo), (.int wm)] (.int (0 : Int32))) (S_LINES : Sta Z h0 "com/example/tilescript/tilescript/TicTacToe" "LINES" "[I" (.ref aL)) (V_aL : Arv Z h0 aL kL .int (8 : Int32) [(.int (7 : Int32)), (.int (56 : Int32)), (.int (448 : Int32)), (.int (73 : Int32)), (.int (146 : Int32)), (.int (292 : Int32)), (.int (273 : Int32)), (.int (84 : Int32))] (.int (0 : Int32))) (neL : aL ≠ p0) (neLr : aL ≠ p1) (ne01 : p0 ≠ p1) (hinv : own_I3 wx wo wm ww) (hcell : 0 ≤ p2.toInt ∧ p2.toInt < 9) :
    MetFree l (⟨"com/example/tilescript/tilescript/TicTacToeIsOverPinLaw", "step", "(Lcom/example/tilescript/tilescript/TicTacToe;[II)V"⟩ : MethodName) (head1 (Jvm.Cond.code (⟨"com/example/tilescript/tilescript/TicTacToeIsOverPinLaw", "step", "(Lcom/example/tilescript/tilescript/TicTacToe;[II)V"⟩ : MethodName) method_5_code 4 none :: ws) ({ frames := 3, cells := 0, slots := 0, locals := 44 } : Room)) (fun a U => a = #[(.ref p0), (.ref p1), (.int p2)] ∧ Z.Warmed39 U.vm ∧ U.heap = h0) (fun _ _ _ _ _ => True) (fun _ U o U' => ∃ v L, o = .returned v ∧ Qrm4 Z p0 p1 p2 wx wo wm ww wl kk aL kL h0 n0 v U'.heap L ∧ FrameEnd U o U' L ({ frames := 3, cells := 0, slots := 0, locals := 44 } : Room).cells ({ frames := 3, cells := 0, slots := 0, locals := 44 } : Room).slots) := by
  refine MetFree.of_bodySF (plainFor_of_name pn_4) hisR ?_
  intro p e s m args below meth c s₁ Bd hml0 hP hK
  obtain ⟨rfl, hZ, hh⟩ := hP
  have hx := Bd.exec
  have hby := Bd.bytes
  have hlk : meth.locks = false := BodyLoose.notSynchronized Bd
  have hml : c.maxLocals = 4 := hml0
  have hown : s.vm.findClass "com/example/tilescript/tilescript/TicTacToeIsOverPinLaw" = some m.cls := findClass_of_methodNamed Bd.named
  have hnm := (name_of_methodNamed Bd.named Bd.method).1
  have X0 : Stand p l e ({ frames := 3, cells := 0, slots := 0, locals := 44 } : Room) s m #[(.ref p0), (.ref p1), (.int p2)] below meth c s₁ [] 0 0 := Stand.of_body Bd
  have e0 : s₁.heap = h0 := by rw [← hh, Bd.state]; rfl
  have N0 := Fr.nil n0
  have K0 : Keep h0 h0 [p0, p1] := Keep.refl h0 [p0, p1]
  show own_G p e below s 0 0 (Qrm4 Z p0 p1 p2 wx wo wm ww wl kk aL kL h0 n0) s₁ (entryFrame m #[(.ref p0), (.ref p1), (.int p2)] 4)
  rw [ef_rm4 m p0 p1 p2]
  refine own_step (T' := s₁) (g' := (mkF m 1 #[.val (.ref p0), .val (.ref p1), .val (.int p2), .unset] [(.ref p1)])) (fun t k => XS.aloadN X0.here hx rfl (hb hby d4_0) rfl rfl k) ?_
  obtain ⟨_, _, ⟨T1, L1, kk1, nn1⟩, -, X1, ⟨Lc1, hQ1, l1, y1, z1⟩, st1⟩ := Jvm.LawKit.callS X0 hx (y := (⟨"com/example/tilescript/tilescript/TicTacToeIsOverPinLaw", "over", "([I)Z"⟩ : MethodName)) hown (mvT hZ (hw _ (List.mem_of_getElem? (i := 23) rfl))) (mvT hZ (hw _ (List.mem_of_getElem? (i := 24) rfl))) (mvT hZ (hw _ (List.mem_of_getElem? (i := 17) rfl))) (mvT hZ (hw _ (List.mem_of_getElem? (i := 25) rfl))) (by decide) (backOf (W := 0) (rm5 l Z a0 hw [] p1 kk wx wo wm h0 n0 (Nat.le_trans Z0 K0.1) V_p1) hZ (hw _ (List.mem_of_getElem? (i := 25) rfl)) (hw _ (List.mem_of_getElem? (i := 17) rfl)) (by decide) (by decide)) (g := (mkF m 1 #[.val (.ref p0), .val (.ref p1), .val (.int p2), .unset] [(.ref p1)])) rfl (by rw [hml]; rfl) (argsL := [(.ref p1)]) (rest := []) (lenOf pd_3 rfl) rfl (by show 2 * 0 + _ ≤ _; exact Nat.le_of_eq rfl) (hb hby d4_1) (fun _ _ => ⟨rfl, e0, (by decide : 0 + 0 ≤ _), (by decide : 0 + 0 ≤ _)⟩)
  dsimp only [Pt.U, Pt.locs, Pt.cells, Pt.slots] at X1 l1 y1 z1 st1 hQ1
  subst l1 y1 z1
  obtain ⟨rfl, N1q, eq1⟩ := hQ1
  have N1 := Fr.app N0 N1q
  refine own_step (T' := T1) (g' := (mkF m 4 #[.val (.ref p0), .val (.ref p1), .val (.int p2), .unset] [(.int (fnOver2_ wx wo wm))])) st1 ?_
  by_cases hc4_2 : (fnOver2_ wx wo wm) = (0 : Int32)
  · refine own_step (T' := T1) (g' := (mkF m 8 #[.val (.ref p0), .val (.ref p1), .val (.int p2), .unset] [])) (fun t k => XS.ifYes X1.here hx rfl (pc0 := 4) (pc' := 8) rfl (hb hby d4_4) rfl ((if0 _ _).trans (teq hc4_2).1) (by decide) (by decide) k) ?_
    refine own_step (T' := T1) (g' := (mkF m 9 #[.val (.ref p0), .val (.ref p1), .val (.int p2), .unset] [(.int (1 : Int32))])) (fun t k => XS.iconst X1.here hx rfl (hb hby d4_8) k) ?_
    refine own_step (T' := T1) (g' := (mkF m 10 #[.val (.ref p0), .val (.ref p1), .val (.int p2), .unset] [(.int p2), (.int (1 : Int32))])) (fun t k => XS.iloadN X1.here hx rfl (hb hby d4_9) rfl k) ?_
    refine own_step (T' := T1) (g' := (mkF m 11 #[.val (.ref p0), .val (.ref p1), .val (.int p2), .unset] [(.int ((1 : Int32) <<< (p2 &&& 31)))])) (fun t k => XS.ishl X1.here hx rfl (hb hby d4_10) rfl k) ?_
    refine own_step (T' := T1) (g' := (mkF m 12 #[.val (.ref p0), .val (.ref p1), .val (.int p2), .val (.int ((1 : Int32) <<< (p2 &&& 31)))] [])) (fun t k => XS.istoreN X1.here hx rfl (hb hby d4_11) rfl (l' := #[.val (.ref p0), .val (.ref p1), .val (.int p2), .val (.int ((1 : Int32) <<< (p2 &&& 31)))]) rfl k) ?_
    refine own_step (T' := T1) (g' := (mkF m 13 #[.val (.ref p0), .val (.ref p1), .val (.int p2), .val (.int ((1 : Int32) <<< (p2 &&& 31)))] [(.ref p1)])) (fun t k => XS.aloadN X1.here hx rfl (hb hby d4_12) rfl rfl k) ?_
    refine own_step (T' := T1) (g' := (mkF m 14 #[.val (.ref p0), .val (.ref p1), .val (.int p2), .val (.int ((1 : Int32) <<< (p2 &&& 31)))] [(.int (0 : Int32)), (.ref p1)])) (fun t k => XS.iconst X1.here hx rfl (hb hby d4_13) k) ?_
    obtain ⟨cl3, Ar3, q3, Sz3, Nn3, Hh3, Gg3⟩ := id V_p1
    have hin3 : ¬ ((0 : Int32) < 0 ∨ cl3.slots.size ≤ ((0 : Int32)).toNatClampNeg) := inb_of Sz3 ⟨by decide, by decide⟩
    refine own_step (T' := T1) (g' := (mkF m 15 #[.val (.ref p0), .val (.ref p1), .val (.int p2), .val (.int ((1 : Int32) <<< (p2 &&& 31)))] [(.int wx)])) (fun t k => X1.iaload hx (j := (0 : Int32)) (v := (.int wx)) (by rw [eq1]; exact Ar3.1) (State.isArrayOf_alike hZ.alike Ar3.2.1) Ar3.2.2 hin3 (Has.at Hh3 hin3 rfl) (g := (mkF m 14 #[.val (.ref p0), .val (.ref p1), .val (.int p2), .val (.int ((1 : Int32) <<< (p2 &&& 31)))] [(.int (0 : Int32)), (.ref p1)])) rfl rfl (hb hby d4_14) t k) ?_
    refine own_step (T' := T1) (g' := (mkF m 16 #[.val (.ref p0), .val (.ref p1), .val (.int p2), .val (.int ((1 : Int32) <<< (p2 &&& 31)))] [(.ref p1), (.int wx)])) (fun t k => XS.aloadN X1.here hx rfl (hb hby d4_15) rfl rfl k) ?_
    refine own_step (T' := T1) (g' := (mkF m 17 #[.val (.ref p0), .val (.ref p1), .val (.int p2), .val (.int ((1 : Int32) <<< (p2 &&& 31)))] [(.int (1 : Int32)), (.ref p1), (.int wx)])) (fun t k => XS.iconst X1.here hx rfl (hb hby d4_16) k) ?_
    obtain ⟨cl4, Ar4, q4, Sz4, Nn4, Hh4, Gg4⟩ := id V_p1
    have hin4 : ¬ ((1 : Int32) < 0 ∨ cl4.slots.size ≤ ((1 : Int32)).toNatClampNeg) := inb_of Sz4 ⟨by decide, by decide⟩
    refine own_step (T' := T1) (g' := (mkF m 18 #[.val (.ref p0), .val (.ref p1), .val (.int p2), .val (.int ((1 : Int32) <<< (p2 &&& 31)))] [(.int wo), (.int wx)])) (fun t k => X1.iaload hx (j := (1 : Int32)) (v := (.int wo)) (by rw [eq1]; exact Ar4.1) (State.isArrayOf_alike hZ.alike Ar4.2.1) Ar4.2.2 hin4 (Has.at Hh4 hin4 rfl) (g := (mkF m 17 #[.val (.ref p0), .val (.ref p1), .val (.int p2), .val (.int ((1 : Int32) <<< (p2 &&& 31)))] [(.int (1 : Int32)), (.ref p1), (.int wx)])) rfl rfl (hb hby d4_17) t k) ?_
    refine own_step (T' := T1) (g' := (mkF m 19 #[.val (.ref p0), .val (.ref p1), .val (.int p2), .val (.int ((1 : Int32) <<< (p2 &&& 31)))] [(.int (wx ||| wo))])) (fun t k => XS.ior X1.here hx rfl (hb hby d4_18) rfl k) ?_
    refine own_step (T' := T1) (g' := (mkF m 20 #[.val (.ref p0), .val (.ref p1), .val (.int p2), .val (.int ((1 : Int32) <<< (p2 &&& 31)))] [(.int ((1 : Int32) <<< (p2 &&& 31))), (.int (wx ||| wo))])) (fun t k => XS.iloadN X1.here hx rfl (hb hby d4_19) rfl k) ?_
    refine own_step (T' := T1) (g' := (mkF m 21 #[.val (.ref p0), .val (.ref p1), .val (.int p2), .val (.int ((1 : Int32) <<< (p2 &&& 31)))] [(.int ((wx ||| wo) &&& ((1 : Int32) <<< (p2 &&& 31))))])) (fun t k => XS.iand X1.here hx rfl (hb hby d4_20) rfl k) ?_
    by_cases hc21_5 : ((wx ||| wo) &&& ((1 : Int32) <<< (p2 &&& 31))) = (0 : Int32)
    · refine own_step (T' := T1) (g' := (mkF m 25 #[.val (.ref p0), .val (.ref p1), .val (.int p2), .val (.int ((1 : Int32) <<< (p2 &&& 31)))] [])) (fun t k => XS.ifYes X1.here hx rfl (pc0 := 21) (pc' := 25) rfl (hb hby d4_21) rfl ((if0 _ _).trans (teq hc21_5).1) (by decide) (by decide) k) ?_
      refine own_step (T' := T1) (g' := (mkF m 26 #[.val (.ref p0), .val (.ref p1), .val (.int p2), .val (.int ((1 : Int32) <<< (p2 &&& 31)))] [(.ref p0)])) (fun t k => XS.aloadN X1.here hx rfl (hb hby d4_25) rfl rfl k) ?_
      refine own_step (T' := T1) (g' := (mkF m 27 #[.val (.ref p0), .val (.ref p1), .val (.int p2), .val (.int ((1 : Int32) <<< (p2 &&& 31)))] [(.int p2), (.ref p0)])) (fun t k => XS.iloadN X1.here hx rfl (hb hby d4_26) rfl k) ?_
      obtain ⟨cq6, kq6, qq6a, qq6b, qq6c⟩ := isOf hZ eq1 E_p0
      obtain ⟨_, _, ⟨T6, L6, kk6, nn6⟩, -, X6, ⟨Lc6, hQ6, l6, y6, z6⟩, st6⟩ := X1.virtualBack hx (y := (⟨"com/example/tilescript/tilescript/TicTacToe", "play", "(I)V"⟩ : MethodName)) (z := (⟨"com/example/tilescript/tilescript/TicTacToe", "play", "(I)V"⟩ : MethodName)) hown (mvT hZ (hw _ (List.mem_of_getElem? (i := 29) rfl))) (mvT hZ (hw _ (List.mem_of_getElem? (i := 30) rfl))) (notFace_of_selects (args := #[]) (mvT hZ (hw _ (List.mem_of_getElem? (i := 32) rfl)))) (mvT hZ (hw _ (List.mem_of_getElem? (i := 32) rfl))) (mvT hZ (hw _ (List.mem_of_getElem? (i := 31) rfl))) (by decide) (backOf (W := 0) (rm7 l Z a0 hw [] p0 p2 wx wo wm ww wl aL kL h0 n0 (Nat.le_trans Z0 K0.1) E_p0 F_xCells_p0 F_oCells_p0 F_marks_p0 F_winner_p0 F_lastMove_p0 g_p0 S_LINES V_aL neL (own_legal3 hinv hcell hc4_2 hc21_5)) hZ (hw _ (List.mem_of_getElem? (i := 33) rfl)) (hw _ (List.mem_of_getElem? (i := 3) rfl)) (by decide) (by decide)) qq6a qq6c (g := (mkF m 27 #[.val (.ref p0), .val (.ref p1), .val (.int p2), .val (.int ((1 : Int32) <<< (p2 &&& 31)))] [(.int p2), (.ref p0)])) rfl (by rw [hml]; rfl) (Steps.refl _) (argsL := [(.int p2)]) (rest := []) (lenOf pd_5 rfl) rfl (by show 2 * 0 + _ ≤ _; exact Nat.le_of_eq rfl) (hb hby d4_27) (fun _ _ => ⟨rfl, eq1, (by decide : 0 + 0 ≤ _), (by decide : 0 + 0 ≤ _)⟩)
      dsimp only [Pt.U, Pt.locs, Pt.cells, Pt.slots] at X6 l6 y6 z6 st6 hQ6
      subst l6 y6 z6
      obtain ⟨x1_6, o1_6, w1_6, rfl, N6q, Kq6, pq6_0, pq6_1, pq6_2, pq6_3, pq6_4, pq6_5⟩ := hQ6
      have N6 := Fr.app N1 N6q
      have E_p0_6 : Exa Z T6.heap p0 "com/example/tilescript/tilescript/TicTacToe" := E_p0.keep Kq6
      have V_p1_6 : Arv Z T6.heap p1 kk .int (3 : Int32) [(.int wx), (.int wo), (.int wm)] (.int (0 : Int32)) := V_p1.keep Kq6 (ninS (Ne.symm ne01) nin0)
      have S_LINES_6 : Sta Z T6.heap "com/example/tilescript/tilescript/TicTacToe" "LINES" "[I" (.ref aL) := own_sta_keep S_LINES Kq6 (allS E_p0.nostat all0)
      have V_aL_6 : Arv Z T6.heap aL kL .int (8 : Int32) [(.int (7 : Int32)), (.int (56 : Int32)), (.int (448 : Int32)), (.int (73 : Int32)), (.int (146 : Int32)), (.int (292 : Int32)), (.int (273 : Int32)), (.int (84 : Int32))] (.int (0 : Int32)) := V_aL.keep Kq6 (ninS neL nin0)
      have K_6 : Keep h0 T6.heap [p0, p1] := K0.trans Kq6 (allS (Or.inl (List.mem_of_getElem? (i := 0) rfl)) all0)
      refine own_step (T' := T6) (g' := (mkF m 30 #[.val (.ref p0), .val (.ref p1), .val (.int p2), .val (.int ((1 : Int32) <<< (p2 &&& 31)))] [])) (fun t k => st6.trans k) ?_
      refine own_step (T' := T6) (g' := (mkF m 31 #[.val (.ref p0), .val (.ref p1), .val (.int p2), .val (.int ((1 : Int32) <<< (p2 &&& 31)))] [(.ref p1)])) (fun t k => XS.aloadN X6.here hx rfl (hb hby d4_30) rfl rfl k) ?_
      refine own_step (T' := T6) (g' := (mkF m 32 #[.val (.ref p0), .val (.ref p1), .val (.int p2), .val (.int ((1 : Int32) <<< (p2 &&& 31)))] [(.int (2 : Int32)), (.ref p1)])) (fun t k => XS.iconst X6.here hx rfl (hb hby d4_31) k) ?_
      obtain ⟨cl7, Ar7, q7, Sz7, Nn7, Hh7, Gg7⟩ := id V_p1_6
      have hin7 : ¬ ((2 : Int32) < 0 ∨ cl7.slots.size ≤ ((2 : Int32)).toNatClampNeg) := inb_of Sz7 ⟨by decide, by decide⟩
      refine own_step (T' := T6) (g' := (mkF m 33 #[.val (.ref p0), .val (.ref p1), .val (.int p2), .val (.int ((1 : Int32) <<< (p2 &&& 31)))] [(.int wm)])) (fun t k => X6.iaload hx (j := (2 : Int32)) (v := (.int wm)) (by exact Ar7.1) (State.isArrayOf_alike hZ.alike Ar7.2.1) Ar7.2.2 hin7 (Has.at Hh7 hin7 rfl) (g := (mkF m 32 #[.val (.ref p0), .val (.ref p1), .val (.int p2), .val (.int ((1 : Int32) <<< (p2 &&& 31)))] [(.int (2 : Int32)), (.ref p1)])) rfl rfl (hb hby d4_32) t k) ?_
      refine own_step (T' := T6) (g' := (mkF m 34 #[.val (.ref p0), .val (.ref p1), .val (.int p2), .val (.int ((1 : Int32) <<< (p2 &&& 31)))] [(.int (2 : Int32)), (.int wm)])) (fun t k => XS.iconst X6.here hx rfl (hb hby d4_33) k) ?_
      refine own_step (T' := T6) (g' := (mkF m 35 #[.val (.ref p0), .val (.ref p1), .val (.int p2), .val (.int ((1 : Int32) <<< (p2 &&& 31)))] [(.int (wm % (2 : Int32)))])) (fun t k => Jvm.RoadKit.iremM X6 hx rfl (hb hby d4_34) rfl (by decide) k) ?_
      by_cases hc35_8 : (wm % (2 : Int32)) = (0 : Int32)
      · refine own_step (T' := T6) (g' := (mkF m 38 #[.val (.ref p0), .val (.ref p1), .val (.int p2), .val (.int ((1 : Int32) <<< (p2 &&& 31)))] [])) (fun t k => XS.ifNo X6.here hx rfl (hb hby d4_35) rfl ((if0 _ _).trans (teq hc35_8).2) k) ?_
        refine own_step (T' := T6) (g' := (mkF m 39 #[.val (.ref p0), .val (.ref p1), .val (.int p2), .val (.int ((1 : Int32) <<< (p2 &&& 31)))] [(.ref p1)])) (fun t k => XS.aloadN X6.here hx rfl (hb hby d4_38) rfl rfl k) ?_
        refine own_step (T' := T6) (g' := (mkF m 40 #[.val (.ref p0), .val (.ref p1), .val (.int p2), .val (.int ((1 : Int32) <<< (p2 &&& 31)))] [(.int (0 : Int32)), (.ref p1)])) (fun t k => XS.iconst X6.here hx rfl (hb hby d4_39) k) ?_
        refine own_step (T' := T6) (g' := (mkF m 41 #[.val (.ref p0), .val (.ref p1), .val (.int p2), .val (.int ((1 : Int32) <<< (p2 &&& 31)))] [(.ref p1), (.int (0 : Int32)), (.ref p1)])) (fun t k => XS.aloadN X6.here hx rfl (hb hby d4_40) rfl rfl k) ?_
        refine own_step (T' := T6) (g' := (mkF m 42 #[.val (.ref p0), .val (.ref p1), .val (.int p2), .val (.int ((1 : Int32) <<< (p2 &&& 31)))] [(.int (0 : Int32)), (.ref p1), (.int (0 : Int32)), (.ref p1)])) (fun t k => XS.iconst X6.here hx rfl (hb hby d4_41) k) ?_
        obtain ⟨cl9, Ar9, q9, Sz9, Nn9, Hh9, Gg9⟩ := id V_p1_6
        have hin9 : ¬ ((0 : Int32) < 0 ∨ cl9.slots.size ≤ ((0 : Int32)).toNatClampNeg) := inb_of Sz9 ⟨by decide, by decide⟩
        refine own_step (T' := T6) (g' := (mkF m 43 #[.val (.ref p0), .val (.ref p1), .val (.int p2), .val (.int ((1 : Int32) <<< (p2 &&& 31)))] [(.int wx), (.int (0 : Int32)), (.ref p1)])) (fun t k => X6.iaload hx (j := (0 : Int32)) (v := (.int wx)) (by exact Ar9.1) (State.isArrayOf_alike hZ.alike Ar9.2.1) Ar9.2.2 hin9 (Has.at Hh9 hin9 rfl) (g := (mkF m 42 #[.val (.ref p0), .val (.ref p1), .val (.int p2), .val (.int ((1 : Int32) <<< (p2 &&& 31)))] [(.int (0 : Int32)), (.ref p1), (.int (0 : Int32)), (.ref p1)])) rfl rfl (hb hby d4_42) t k) ?_
        refine own_step (T' := T6) (g' := (mkF m 44 #[.val (.ref p0), .val (.ref p1), .val (.int p2), .val (.int ((1 : Int32) <<< (p2 &&& 31)))] [(.int ((1 : Int32) <<< (p2 &&& 31))), (.int wx), (.int (0 : Int32)), (.ref p1)])) (fun t k => XS.iloadN X6.here hx rfl (hb hby d4_43) rfl k) ?_
        refine own_step (T' := T6) (g' := (mkF m 45 #[.val (.ref p0), .val (.ref p1), .val (.int p2), .val (.int ((1 : Int32) <<< (p2 &&& 31)))] [(.int (wx ||| ((1 : Int32) <<< (p2 &&& 31)))), (.int (0 : Int32)), (.ref p1)])) (fun t k => XS.ior X6.here hx rfl (hb hby d4_44) rfl k) ?_
        obtain ⟨cl10, Ar10, q10, Sz10, Nn10, Hh10, Gg10⟩ := id V_p1_6
        have hin10 : ¬ ((0 : Int32) < 0 ∨ cl10.slots.size ≤ ((0 : Int32)).toNatClampNeg) := inb_of Sz10 ⟨by decide, by decide⟩
        obtain ⟨T10, h10, X10, e10, W10, st10⟩ := stI X6 hx hZ rfl Ar10 (j := (0 : Int32)) hin10 (g := (mkF m 45 #[.val (.ref p0), .val (.ref p1), .val (.int p2), .val (.int ((1 : Int32) <<< (p2 &&& 31)))] [(.int (wx ||| ((1 : Int32) <<< (p2 &&& 31)))), (.int (0 : Int32)), (.ref p1)])) rfl rfl (hb hby d4_45)
        have E_p0_10 : Exa Z h10 p0 "com/example/tilescript/tilescript/TicTacToe" := E_p0_6.wr W10
        have S_LINES_10 : Sta Z h10 "com/example/tilescript/tilescript/TicTacToe" "LINES" "[I" (.ref aL) := S_LINES_6.wr W10
        have V_aL_10 : Arv Z h10 aL kL .int (8 : Int32) [(.int (7 : Int32)), (.int (56 : Int32)), (.int (448 : Int32)), (.int (73 : Int32)), (.int (146 : Int32)), (.int (292 : Int32)), (.int (273 : Int32)), (.int (84 : Int32))] (.int (0 : Int32)) := V_aL_6.other W10 neLr
        have F_xCells_p0_10 : Fld Z h10 p0 "com/example/tilescript/tilescript/TicTacToe" "xCells" "I" (.int x1_6) := pq6_0.other W10 (Or.inl ne01)
        have F_oCells_p0_10 : Fld Z h10 p0 "com/example/tilescript/tilescript/TicTacToe" "oCells" "I" (.int o1_6) := pq6_1.other W10 (Or.inl ne01)
        have F_marks_p0_10 : Fld Z h10 p0 "com/example/tilescript/tilescript/TicTacToe" "marks" "I" (.int (wm + (1 : Int32))) := pq6_2.other W10 (Or.inl ne01)
        have F_winner_p0_10 : Fld Z h10 p0 "com/example/tilescript/tilescript/TicTacToe" "winner" "C" (.int w1_6) := pq6_3.other W10 (Or.inl ne01)
        have F_lastMove_p0_10 : Fld Z h10 p0 "com/example/tilescript/tilescript/TicTacToe" "lastMove" "I" (.int p2) := pq6_4.other W10 (Or.inl ne01)
        have K_10 : Keep h0 h10 [p0, p1] := K_6.wr W10 (Or.inl (List.mem_of_getElem? (i := 1) rfl))
        have N10 := Fr.snoc X10 N6 g_p1
        have V_p1_10 : Arv Z h10 p1 kk .int (3 : Int32) [(.int (wx ||| ((1 : Int32) <<< (p2 &&& 31)))), (.int wo), (.int wm)] (.int (0 : Int32)) := Arv.set Ar10 q10 Sz10 Nn10 Hh10 Gg10 rfl W10 0 rfl (Nat.le_of_ble_eq_true rfl)
        refine own_step (T' := T10) (g' := (mkF m 46 #[.val (.ref p0), .val (.ref p1), .val (.int p2), .val (.int ((1 : Int32) <<< (p2 &&& 31)))] [])) st10 ?_
        refine own_step (T' := T10) (g' := (mkF m 57 #[.val (.ref p0), .val (.ref p1), .val (.int p2), .val (.int ((1 : Int32) <<< (p2 &&& 31)))] [])) (fun t k => XS.goto X10.here hx rfl (pc0 := 46) (pc' := 57) rfl (hb hby d4_46) (by decide) (by decide) k) ?_
        refine own_step (T' := T10) (g' := (mkF m 58 #[.val (.ref p0), .val (.ref p1), .val (.int p2), .val (.int ((1 : Int32) <<< (p2 &&& 31)))] [(.ref p1)])) (fun t k => XS.aloadN X10.here hx rfl (hb hby d4_57) rfl rfl k) ?_
        refine own_step (T' := T10) (g' := (mkF m 59 #[.val (.ref p0), .val (.ref p1), .val (.int p2), .val (.int ((1 : Int32) <<< (p2 &&& 31)))] [(.int (2 : Int32)), (.ref p1)])) (fun t k => XS.iconst X10.here hx rfl (hb hby d4_58) k) ?_
        refine own_step (T' := T10) (g' := (mkF m 60 #[.val (.ref p0), .val (.ref p1), .val (.int p2), .val (.int ((1 : Int32) <<< (p2 &&& 31)))] [(.ref p1), (.int (2 : Int32)), (.ref p1)])) (fun t k => XS.aloadN X10.here hx rfl (hb hby d4_59) rfl rfl k) ?_
        refine own_step (T' := T10) (g' := (mkF m 61 #[.val (.ref p0), .val (.ref p1), .val (.int p2), .val (.int ((1 : Int32) <<< (p2 &&& 31)))] [(.int (2 : Int32)), (.ref p1), (.int (2 : Int32)), (.ref p1)])) (fun t k => XS.iconst X10.here hx rfl (hb hby d4_60) k) ?_
        obtain ⟨cl11, Ar11, q11, Sz11, Nn11, Hh11, Gg11⟩ := id V_p1_10
        have hin11 : ¬ ((2 : Int32) < 0 ∨ cl11.slots.size ≤ ((2 : Int32)).toNatClampNeg) := inb_of Sz11 ⟨by decide, by decide⟩
        refine own_step (T' := T10) (g' := (mkF m 62 #[.val (.ref p0), .val (.ref p1), .val (.int p2), .val (.int ((1 : Int32) <<< (p2 &&& 31)))] [(.int wm), (.int (2 : Int32)), (.ref p1)])) (fun t k => X10.iaload hx (j := (2 : Int32)) (v := (.int wm)) (by rw [e10]; exact Ar11.1) (State.isArrayOf_alike hZ.alike Ar11.2.1) Ar11.2.2 hin11 (Has.at Hh11 hin11 rfl) (g := (mkF m 61 #[.val (.ref p0), .val (.ref p1), .val (.int p2), .val (.int ((1 : Int32) <<< (p2 &&& 31)))] [(.int (2 : Int32)), (.ref p1), (.int (2 : Int32)), (.ref p1)])) rfl rfl (hb hby d4_61) t k) ?_
        refine own_step (T' := T10) (g' := (mkF m 63 #[.val (.ref p0), .val (.ref p1), .val (.int p2), .val (.int ((1 : Int32) <<< (p2 &&& 31)))] [(.int (1 : Int32)), (.int wm), (.int (2 : Int32)), (.ref p1)])) (fun t k => XS.iconst X10.here hx rfl (hb hby d4_62) k) ?_
        refine own_step (T' := T10) (g' := (mkF m 64 #[.val (.ref p0), .val (.ref p1), .val (.int p2), .val (.int ((1 : Int32) <<< (p2 &&& 31)))] [(.int (wm + (1 : Int32))), (.int (2 : Int32)), (.ref p1)])) (fun t k => XS.iadd X10.here hx rfl (hb hby d4_63) rfl k) ?_
        obtain ⟨cl12, Ar12, q12, Sz12, Nn12, Hh12, Gg12⟩ := id V_p1_10
        have hin12 : ¬ ((2 : Int32) < 0 ∨ cl12.slots.size ≤ ((2 : Int32)).toNatClampNeg) := inb_of Sz12 ⟨by decide, by decide⟩
        obtain ⟨T12, h12, X12, e12, W12, st12⟩ := stI X10 hx hZ e10 Ar12 (j := (2 : Int32)) hin12 (g := (mkF m 64 #[.val (.ref p0), .val (.ref p1), .val (.int p2), .val (.int ((1 : Int32) <<< (p2 &&& 31)))] [(.int (wm + (1 : Int32))), (.int (2 : Int32)), (.ref p1)])) rfl rfl (hb hby d4_64)
        have E_p0_12 : Exa Z h12 p0 "com/example/tilescript/tilescript/TicTacToe" := E_p0_10.wr W12
        have S_LINES_12 : Sta Z h12 "com/example/tilescript/tilescript/TicTacToe" "LINES" "[I" (.ref aL) := S_LINES_10.wr W12
        have V_aL_12 : Arv Z h12 aL kL .int (8 : Int32) [(.int (7 : Int32)), (.int (56 : Int32)), (.int (448 : Int32)), (.int (73 : Int32)), (.int (146 : Int32)), (.int (292 : Int32)), (.int (273 : Int32)), (.int (84 : Int32))] (.int (0 : Int32)) := V_aL_10.other W12 neLr
        have F_xCells_p0_12 : Fld Z h12 p0 "com/example/tilescript/tilescript/TicTacToe" "xCells" "I" (.int x1_6) := F_xCells_p0_10.other W12 (Or.inl ne01)
        have F_oCells_p0_12 : Fld Z h12 p0 "com/example/tilescript/tilescript/TicTacToe" "oCells" "I" (.int o1_6) := F_oCells_p0_10.other W12 (Or.inl ne01)
        have F_marks_p0_12 : Fld Z h12 p0 "com/example/tilescript/tilescript/TicTacToe" "marks" "I" (.int (wm + (1 : Int32))) := F_marks_p0_10.other W12 (Or.inl ne01)
        have F_winner_p0_12 : Fld Z h12 p0 "com/example/tilescript/tilescript/TicTacToe" "winner" "C" (.int w1_6) := F_winner_p0_10.other W12 (Or.inl ne01)
        have F_lastMove_p0_12 : Fld Z h12 p0 "com/example/tilescript/tilescript/TicTacToe" "lastMove" "I" (.int p2) := F_lastMove_p0_10.other W12 (Or.inl ne01)
        have K_12 : Keep h0 h12 [p0, p1] := K_10.wr W12 (Or.inl (List.mem_of_getElem? (i := 1) rfl))
        have N12 := Fr.snoc X12 N10 g_p1
        have V_p1_12 : Arv Z h12 p1 kk .int (3 : Int32) [(.int (wx ||| ((1 : Int32) <<< (p2 &&& 31)))), (.int wo), (.int (wm + (1 : Int32)))] (.int (0 : Int32)) := Arv.set Ar12 q12 Sz12 Nn12 Hh12 Gg12 rfl W12 2 rfl (Nat.le_of_ble_eq_true rfl)
        refine own_step (T' := T12) (g' := (mkF m 65 #[.val (.ref p0), .val (.ref p1), .val (.int p2), .val (.int ((1 : Int32) <<< (p2 &&& 31)))] [])) st12 ?_
        refine own_retV X12 hx hlk Bd.returns (hb hby d4_65) (by decide) (by decide) ?_
        rw [e12]
        obtain ⟨rfl, rfl, rfl⟩ := own_even pq6_5 hc35_8
        exact ⟨_, _, _, _, _, rfl, N12, K_12, F_xCells_p0_12, F_oCells_p0_12, F_marks_p0_12, F_winner_p0_12, F_lastMove_p0_12, V_p1_12, own_pl_even hinv hcell hc4_2 hc21_5⟩
      · refine own_step (T' := T6) (g' := (mkF m 49 #[.val (.ref p0), .val (.ref p1), .val (.int p2), .val (.int ((1 : Int32) <<< (p2 &&& 31)))] [])) (fun t k => XS.ifYes X6.here hx rfl (pc0 := 35) (pc' := 49) rfl (hb hby d4_35) rfl ((if0 _ _).trans (feq hc35_8).2) (by decide) (by decide) k) ?_
        refine own_step (T' := T6) (g' := (mkF m 50 #[.val (.ref p0), .val (.ref p1), .val (.int p2), .val (.int ((1 : Int32) <<< (p2 &&& 31)))] [(.ref p1)])) (fun t k => XS.aloadN X6.here hx rfl (hb hby d4_49) rfl rfl k) ?_
        refine own_step (T' := T6) (g' := (mkF m 51 #[.val (.ref p0), .val (.ref p1), .val (.int p2), .val (.int ((1 : Int32) <<< (p2 &&& 31)))] [(.int (1 : Int32)), (.ref p1)])) (fun t k => XS.iconst X6.here hx rfl (hb hby d4_50) k) ?_
        refine own_step (T' := T6) (g' := (mkF m 52 #[.val (.ref p0), .val (.ref p1), .val (.int p2), .val (.int ((1 : Int32) <<< (p2 &&& 31)))] [(.ref p1), (.int (1 : Int32)), (.ref p1)])) (fun t k => XS.aloadN X6.here hx rfl (hb hby d4_51) rfl rfl k) ?_
        refine own_step (T' := T6) (g' := (mkF m 53 #[.val (.ref p0), .val (.ref p1), .val (.int p2), .val (.int ((1 : Int32) <<< (p2 &&& 31)))] [(.int (1 : Int32)), (.ref p1), (.int (1 : Int32)), (.ref p1)])) (fun t k => XS.iconst X6.here hx rfl (hb hby d4_52) k) ?_
        obtain ⟨cl14, Ar14, q14, Sz14, Nn14, Hh14, Gg14⟩ := id V_p1_6
        have hin14 : ¬ ((1 : Int32) < 0 ∨ cl14.slots.size ≤ ((1 : Int32)).toNatClampNeg) := inb_of Sz14 ⟨by decide, by decide⟩
        refine own_step (T' := T6) (g' := (mkF m 54 #[.val (.ref p0), .val (.ref p1), .val (.int p2), .val (.int ((1 : Int32) <<< (p2 &&& 31)))] [(.int wo), (.int (1 : Int32)), (.ref p1)])) (fun t k => X6.iaload hx (j := (1 : Int32)) (v := (.int wo)) (by exact Ar14.1) (State.isArrayOf_alike hZ.alike Ar14.2.1) Ar14.2.2 hin14 (Has.at Hh14 hin14 rfl) (g := (mkF m 53 #[.val (.ref p0), .val (.ref p1), .val (.int p2), .val (.int ((1 : Int32) <<< (p2 &&& 31)))] [(.int (1 : Int32)), (.ref p1), (.int (1 : Int32)), (.ref p1)])) rfl rfl (hb hby d4_53) t k) ?_
        refine own_step (T' := T6) (g' := (mkF m 55 #[.val (.ref p0), .val (.ref p1), .val (.int p2), .val (.int ((1 : Int32) <<< (p2 &&& 31)))] [(.int ((1 : Int32) <<< (p2 &&& 31))), (.int wo), (.int (1 : Int32)), (.ref p1)])) (fun t k => XS.iloadN X6.here hx rfl (hb hby d4_54) rfl k) ?_
        refine own_step (T' := T6) (g' := (mkF m 56 #[.val (.ref p0), .val (.ref p1), .val (.int p2), .val (.int ((1 : Int32) <<< (p2 &&& 31)))] [(.int (wo ||| ((1 : Int32) <<< (p2 &&& 31)))), (.int (1 : Int32)), (.ref p1)])) (fun t k => XS.ior X6.here hx rfl (hb hby d4_55) rfl k) ?_
        obtain ⟨cl15, Ar15, q15, Sz15, Nn15, Hh15, Gg15⟩ := id V_p1_6
        have hin15 : ¬ ((1 : Int32) < 0 ∨ cl15.slots.size ≤ ((1 : Int32)).toNatClampNeg) := inb_of Sz15 ⟨by decide, by decide⟩
        obtain ⟨T15, h15, X15, e15, W15, st15⟩ := stI X6 hx hZ rfl Ar15 (j := (1 : Int32)) hin15 (g := (mkF m 56 #[.val (.ref p0), .val (.ref p1), .val (.int p2), .val (.int ((1 : Int32) <<< (p2 &&& 31)))] [(.int (wo ||| ((1 : Int32) <<< (p2 &&& 31)))), (.int (1 : Int32)), (.ref p1)])) rfl rfl (hb hby d4_56)
        have E_p0_15 : Exa Z h15 p0 "com/example/tilescript/tilescript/TicTacToe" := E_p0_6.wr W15
        have S_LINES_15 : Sta Z h15 "com/example/tilescript/tilescript/TicTacToe" "LINES" "[I" (.ref aL) := S_LINES_6.wr W15
        have V_aL_15 : Arv Z h15 aL kL .int (8 : Int32) [(.int (7 : Int32)), (.int (56 : Int32)), (.int (448 : Int32)), (.int (73 : Int32)), (.int (146 : Int32)), (.int (292 : Int32)), (.int (273 : Int32)), (.int (84 : Int32))] (.int (0 : Int32)) := V_aL_6.other W15 neLr
        have F_xCells_p0_15 : Fld Z h15 p0 "com/example/tilescript/tilescript/TicTacToe" "xCells" "I" (.int x1_6) := pq6_0.other W15 (Or.inl ne01)
        have F_oCells_p0_15 : Fld Z h15 p0 "com/example/tilescript/tilescript/TicTacToe" "oCells" "I" (.int o1_6) := pq6_1.other W15 (Or.inl ne01)
        have F_marks_p0_15 : Fld Z h15 p0 "com/example/tilescript/tilescript/TicTacToe" "marks" "I" (.int (wm + (1 : Int32))) := pq6_2.other W15 (Or.inl ne01)
        have F_winner_p0_15 : Fld Z h15 p0 "com/example/tilescript/tilescript/TicTacToe" "winner" "C" (.int w1_6) := pq6_3.other W15 (Or.inl ne01)
        have F_lastMove_p0_15 : Fld Z h15 p0 "com/example/tilescript/tilescript/TicTacToe" "lastMove" "I" (.int p2) := pq6_4.other W15 (Or.inl ne01)
        have K_15 : Keep h0 h15 [p0, p1] := K_6.wr W15 (Or.inl (List.mem_of_getElem? (i := 1) rfl))
        have N15 := Fr.snoc X15 N6 g_p1
        have V_p1_15 : Arv Z h15 p1 kk .int (3 : Int32) [(.int wx), (.int (wo ||| ((1 : Int32) <<< (p2 &&& 31)))), (.int wm)] (.int (0 : Int32)) := Arv.set Ar15 q15 Sz15 Nn15 Hh15 Gg15 rfl W15 1 rfl (Nat.le_of_ble_eq_true rfl)
        refine own_step (T' := T15) (g' := (mkF m 57 #[.val (.ref p0), .val (.ref p1), .val (.int p2), .val (.int ((1 : Int32) <<< (p2 &&& 31)))] [])) st15 ?_
        refine own_step (T' := T15) (g' := (mkF m 58 #[.val (.ref p0), .val (.ref p1), .val (.int p2), .val (.int ((1 : Int32) <<< (p2 &&& 31)))] [(.ref p1)])) (fun t k => XS.aloadN X15.here hx rfl (hb hby d4_57) rfl rfl k) ?_
        refine own_step (T' := T15) (g' := (mkF m 59 #[.val (.ref p0), .val (.ref p1), .val (.int p2), .val (.int ((1 : Int32) <<< (p2 &&& 31)))] [(.int (2 : Int32)), (.ref p1)])) (fun t k => XS.iconst X15.here hx rfl (hb hby d4_58) k) ?_
        refine own_step (T' := T15) (g' := (mkF m 60 #[.val (.ref p0), .val (.ref p1), .val (.int p2), .val (.int ((1 : Int32) <<< (p2 &&& 31)))] [(.ref p1), (.int (2 : Int32)), (.ref p1)])) (fun t k => XS.aloadN X15.here hx rfl (hb hby d4_59) rfl rfl k) ?_
        refine own_step (T' := T15) (g' := (mkF m 61 #[.val (.ref p0), .val (.ref p1), .val (.int p2), .val (.int ((1 : Int32) <<< (p2 &&& 31)))] [(.int (2 : Int32)), (.ref p1), (.int (2 : Int32)), (.ref p1)])) (fun t k => XS.iconst X15.here hx rfl (hb hby d4_60) k) ?_
        obtain ⟨cl16, Ar16, q16, Sz16, Nn16, Hh16, Gg16⟩ := id V_p1_15
        have hin16 : ¬ ((2 : Int32) < 0 ∨ cl16.slots.size ≤ ((2 : Int32)).toNatClampNeg) := inb_of Sz16 ⟨by decide, by decide⟩
        refine own_step (T' := T15) (g' := (mkF m 62 #[.val (.ref p0), .val (.ref p1), .val (.int p2), .val (.int ((1 : Int32) <<< (p2 &&& 31)))] [(.int wm), (.int (2 : Int32)), (.ref p1)])) (fun t k => X15.iaload hx (j := (2 : Int32)) (v := (.int wm)) (by rw [e15]; exact Ar16.1) (State.isArrayOf_alike hZ.alike Ar16.2.1) Ar16.2.2 hin16 (Has.at Hh16 hin16 rfl) (g := (mkF m 61 #[.val (.ref p0), .val (.ref p1), .val (.int p2), .val (.int ((1 : Int32) <<< (p2 &&& 31)))] [(.int (2 : Int32)), (.ref p1), (.int (2 : Int32)), (.ref p1)])) rfl rfl (hb hby d4_61) t k) ?_
        refine own_step (T' := T15) (g' := (mkF m 63 #[.val (.ref p0), .val (.ref p1), .val (.int p2), .val (.int ((1 : Int32) <<< (p2 &&& 31)))] [(.int (1 : Int32)), (.int wm), (.int (2 : Int32)), (.ref p1)])) (fun t k => XS.iconst X15.here hx rfl (hb hby d4_62) k) ?_
        refine own_step (T' := T15) (g' := (mkF m 64 #[.val (.ref p0), .val (.ref p1), .val (.int p2), .val (.int ((1 : Int32) <<< (p2 &&& 31)))] [(.int (wm + (1 : Int32))), (.int (2 : Int32)), (.ref p1)])) (fun t k => XS.iadd X15.here hx rfl (hb hby d4_63) rfl k) ?_
        obtain ⟨cl17, Ar17, q17, Sz17, Nn17, Hh17, Gg17⟩ := id V_p1_15
        have hin17 : ¬ ((2 : Int32) < 0 ∨ cl17.slots.size ≤ ((2 : Int32)).toNatClampNeg) := inb_of Sz17 ⟨by decide, by decide⟩
        obtain ⟨T17, h17, X17, e17, W17, st17⟩ := stI X15 hx hZ e15 Ar17 (j := (2 : Int32)) hin17 (g := (mkF m 64 #[.val (.ref p0), .val (.ref p1), .val (.int p2), .val (.int ((1 : Int32) <<< (p2 &&& 31)))] [(.int (wm + (1 : Int32))), (.int (2 : Int32)), (.ref p1)])) rfl rfl (hb hby d4_64)
        have E_p0_17 : Exa Z h17 p0 "com/example/tilescript/tilescript/TicTacToe" := E_p0_15.wr W17
        have S_LINES_17 : Sta Z h17 "com/example/tilescript/tilescript/TicTacToe" "LINES" "[I" (.ref aL) := S_LINES_15.wr W17
        have V_aL_17 : Arv Z h17 aL kL .int (8 : Int32) [(.int (7 : Int32)), (.int (56 : Int32)), (.int (448 : Int32)), (.int (73 : Int32)), (.int (146 : Int32)), (.int (292 : Int32)), (.int (273 : Int32)), (.int (84 : Int32))] (.int (0 : Int32)) := V_aL_15.other W17 neLr
        have F_xCells_p0_17 : Fld Z h17 p0 "com/example/tilescript/tilescript/TicTacToe" "xCells" "I" (.int x1_6) := F_xCells_p0_15.other W17 (Or.inl ne01)
        have F_oCells_p0_17 : Fld Z h17 p0 "com/example/tilescript/tilescript/TicTacToe" "oCells" "I" (.int o1_6) := F_oCells_p0_15.other W17 (Or.inl ne01)
        have F_marks_p0_17 : Fld Z h17 p0 "com/example/tilescript/tilescript/TicTacToe" "marks" "I" (.int (wm + (1 : Int32))) := F_marks_p0_15.other W17 (Or.inl ne01)
        have F_winner_p0_17 : Fld Z h17 p0 "com/example/tilescript/tilescript/TicTacToe" "winner" "C" (.int w1_6) := F_winner_p0_15.other W17 (Or.inl ne01)
        have F_lastMove_p0_17 : Fld Z h17 p0 "com/example/tilescript/tilescript/TicTacToe" "lastMove" "I" (.int p2) := F_lastMove_p0_15.other W17 (Or.inl ne01)
        have K_17 : Keep h0 h17 [p0, p1] := K_15.wr W17 (Or.inl (List.mem_of_getElem? (i := 1) rfl))
        have N17 := Fr.snoc X17 N15 g_p1
        have V_p1_17 : Arv Z h17 p1 kk .int (3 : Int32) [(.int wx), (.int (wo ||| ((1 : Int32) <<< (p2 &&& 31)))), (.int (wm + (1 : Int32)))] (.int (0 : Int32)) := Arv.set Ar17 q17 Sz17 Nn17 Hh17 Gg17 rfl W17 2 rfl (Nat.le_of_ble_eq_true rfl)
        refine own_step (T' := T17) (g' := (mkF m 65 #[.val (.ref p0), .val (.ref p1), .val (.int p2), .val (.int ((1 : Int32) <<< (p2 &&& 31)))] [])) st17 ?_
        refine own_retV X17 hx hlk Bd.returns (hb hby d4_65) (by decide) (by decide) ?_
        rw [e17]
        obtain ⟨rfl, rfl, rfl⟩ := own_odd pq6_5 hc35_8
        exact ⟨_, _, _, _, _, rfl, N17, K_17, F_xCells_p0_17, F_oCells_p0_17, F_marks_p0_17, F_winner_p0_17, F_lastMove_p0_17, V_p1_17, own_pl_odd hinv hcell hc4_2 hc21_5⟩
    · refine own_step (T' := T1) (g' := (mkF m 24 #[.val (.ref p0), .val (.ref p1), .val (.int p2), .val (.int ((1 : Int32) <<< (p2 &&& 31)))] [])) (fun t k => XS.ifNo X1.here hx rfl (hb hby d4_21) rfl ((if0 _ _).trans (feq hc21_5).1) k) ?_
      refine own_retV X1 hx hlk Bd.returns (hb hby d4_24) (by decide) (by decide) ?_
      rw [eq1]
      exact ⟨wx, wo, wm, ww, wl, rfl, N1, K0, F_xCells_p0, F_oCells_p0, F_marks_p0, F_winner_p0, F_lastMove_p0, V_p1, hinv⟩
  · refine own_step (T' := T1) (g' := (mkF m 7 #[.val (.ref p0), .val (.ref p1), .val (.int p2), .unset] [])) (fun t k => XS.ifNo X1.here hx rfl (hb hby d4_4) rfl ((if0 _ _).trans (feq hc4_2).1) k) ?_
    refine own_retV X1 hx hlk Bd.returns (hb hby d4_7) (by decide) (by decide) ?_
    rw [eq1]
    exact ⟨wx, wo, wm, ww, wl, rfl, N1, K0, F_xCells_p0, F_oCells_p0, F_marks_p0, F_winner_p0, F_lastMove_p0, V_p1, hinv⟩
theorem ef_rm0 (m : MethodId) (x0 : Int64) (x1 : Int32) : entryFrame m #[(.long x0), (.int x1)] maxLocals = mkF m 0 #[.val (.long x0), .second, .val (.int x1), .unset, .unset, .unset] [] := by first | (simp [entryFrame, mkF, argsToLocals, Value.category, maxLocals]; done) | rfl
def Qrm0 (Z : State) (p0 : Int64) (p1 : Int32) (aL : Addr) (kL : ClassId) (h0 : Heap) (n0 : Nat) (v : Option Value) (h : Heap) (L : List Loc) : Prop := v = some (.int (1 : Int32)) ∧ Fr n0 L
set_option maxRecDepth 65536 in
set_option maxHeartbeats 40000000 in
theorem rm0 (l : Launch) (Z : State) (a0 : Array Value) (hw : ∀ d ∈ tables_1, d.before a0 Z = true) (ws : List Jvm.Cond) (p0 : Int64) (p1 : Int32) (aL : Addr) (kL : ClassId) (h0 : Heap) (n0 : Nat) (Z0 : n0 ≤ h0.size) (S_LINES : Sta Z h0 "com/example/tilescript/tilescript/TicTacToe" "LINES" "[I" (.ref aL)) (V_aL : Arv Z h0 aL kL .int (8 : Int32) [(.int (7 : Int32)), (.int (56 : Int32)), (.int (448 : Int32)), (.int (73 : Int32)), (.int (146 : Int32)), (.int (292 : Int32)), (.int (273 : Int32)), (.int (84 : Int32))] (.int (0 : Int32))) :
    MetFree l x (head1 (Jvm.Cond.code x code maxLocals ret :: ws) room_1) (fun a U => a = #[(.long p0), (.int p1)] ∧ Z.Warmed39 U.vm ∧ U.heap = h0) (fun _ _ _ _ _ => True) (fun _ U o U' => ∃ v L, o = .returned v ∧ Qrm0 Z p0 p1 aL kL h0 n0 v U'.heap L ∧ FrameEnd U o U' L 2 8) := by
  refine MetFree.of_bodySF (plainFor_of_name pn_0) hisR ?_
  intro p e s m args below meth c s₁ Bd hml0 hP hK
  obtain ⟨rfl, hZ, hh⟩ := hP
  have hx := Bd.exec
  have hby := Bd.bytes
  have hlk : meth.locks = false := BodyLoose.notSynchronized Bd
  have hml : c.maxLocals = 6 := hml0
  have hown : s.vm.findClass "com/example/tilescript/tilescript/TicTacToeIsOverPinLaw" = some m.cls := findClass_of_methodNamed Bd.named
  have hnm := (name_of_methodNamed Bd.named Bd.method).1
  have X0 : Stand p l e room_1 s m #[(.long p0), (.int p1)] below meth c s₁ [] 0 0 := Stand.of_body Bd
  have e0 : s₁.heap = h0 := by rw [← hh, Bd.state]; rfl
  have N0 := Fr.nil n0
  have K0 : Keep h0 h0 [] := Keep.refl h0 []
  show own_G p e below s 2 8 (Qrm0 Z p0 p1 aL kL h0 n0) s₁ (entryFrame m #[(.long p0), (.int p1)] maxLocals)
  rw [ef_rm0 m p0 p1]
  refine own_step (T' := s₁) (g' := (mkF m 1 #[.val (.long p0), .second, .val (.int p1), .unset, .unset, .unset] [(.int p1)])) (fun t k => XS.iloadN X0.here hx rfl (hb hby at_0) rfl k) ?_
  refine own_step (T' := s₁) (g' := (mkF m 3 #[.val (.long p0), .second, .val (.int p1), .unset, .unset, .unset] [(.int (2147483647 : Int32)), (.int p1)])) (fun t k => X0.ldcInt hx hown (mvT hZ (hw _ (List.mem_of_getElem? (i := 0) rfl))) (g := (mkF m 1 #[.val (.long p0), .second, .val (.int p1), .unset, .unset, .unset] [(.int p1)])) rfl (hb hby at_1) t k) ?_
  refine own_step (T' := s₁) (g' := (mkF m 4 #[.val (.long p0), .second, .val (.int p1), .unset, .unset, .unset] [(.int (p1 &&& (2147483647 : Int32)))])) (fun t k => XS.iand X0.here hx rfl (hb hby at_3) rfl k) ?_
  refine own_step (T' := s₁) (g' := (mkF m 6 #[.val (.long p0), .second, .val (.int p1), .unset, .unset, .unset] [(.int (10 : Int32)), (.int (p1 &&& (2147483647 : Int32)))])) (fun t k => XS.bipush X0.here hx rfl (hb hby at_4) k) ?_
  refine own_step (T' := s₁) (g' := (mkF m 7 #[.val (.long p0), .second, .val (.int p1), .unset, .unset, .unset] [(.int ((p1 &&& (2147483647 : Int32)) % (10 : Int32)))])) (fun t k => Jvm.RoadKit.iremM X0 hx rfl (hb hby at_6) rfl (by decide) k) ?_
  generalize hv1 : ((p1 &&& (2147483647 : Int32)) % (10 : Int32)) = v1
  refine own_step (T' := s₁) (g' := (mkF m 8 #[.val (.long p0), .second, .val (.int p1), .val (.int v1), .unset, .unset] [])) (fun t k => XS.istoreN X0.here hx rfl (hb hby at_7) rfl (l' := #[.val (.long p0), .second, .val (.int p1), .val (.int v1), .unset, .unset]) rfl k) ?_
  obtain ⟨T2, h2, X2, e2, E2, A2, D2, -, st2⟩ := newO X0 hx hZ hown (hw _ (List.mem_of_getElem? (i := 1) rfl)) (hw _ (List.mem_of_getElem? (i := 2) rfl)) (hw _ (List.mem_of_getElem? (i := 3) rfl)) e0 (g := (mkF m 8 #[.val (.long p0), .second, .val (.int p1), .val (.int v1), .unset, .unset] [])) rfl (hb hby at_8) (by decide) (by decide)
  obtain ⟨b2, g2⟩ : ∃ z, z = h0.size := ⟨_, rfl⟩
  rw [← g2] at A2 D2 st2
  have S_LINES_2 : Sta Z h2 "com/example/tilescript/tilescript/TicTacToe" "LINES" "[I" (.ref aL) := S_LINES.ext E2
  have V_aL_2 : Arv Z h2 aL kL .int (8 : Int32) [(.int (7 : Int32)), (.int (56 : Int32)), (.int (448 : Int32)), (.int (73 : Int32)), (.int (146 : Int32)), (.int (292 : Int32)), (.int (273 : Int32)), (.int (84 : Int32))] (.int (0 : Int32)) := V_aL.ext E2
  have K_2 : Keep h0 h2 [] := K0.ext E2
  have sz_b2 : h0.size ≤ b2 := Nat.le_trans K0.1 (Nat.le_of_eq g2.symm)
  have g_b2 : n0 ≤ b2 := Nat.le_trans Z0 sz_b2
  have ne_aL_b2 : aL ≠ b2 := Nat.ne_of_lt (Nat.lt_of_lt_of_le V_aL.lt (Nat.le_of_eq g2.symm))
  have E_b2 : Exa Z h2 b2 "com/example/tilescript/tilescript/TicTacToe" := A2
  have F_lastMove_b2 : Fld Z h2 b2 "com/example/tilescript/tilescript/TicTacToe" "lastMove" "I" (.int (0 : Int32)) := D2 (Or.inl (hw _ (List.mem_of_getElem? (i := 11) rfl))) (ty := .int) (by decide)
  have F_winner_b2 : Fld Z h2 b2 "com/example/tilescript/tilescript/TicTacToe" "winner" "C" (.int (0 : Int32)) := D2 (Or.inl (hw _ (List.mem_of_getElem? (i := 13) rfl))) (ty := .char) (by decide)
  have F_marks_b2 : Fld Z h2 b2 "com/example/tilescript/tilescript/TicTacToe" "marks" "I" (.int (0 : Int32)) := D2 (Or.inl (hw _ (List.mem_of_getElem? (i := 45) rfl))) (ty := .int) (by decide)
  have F_xCells_b2 : Fld Z h2 b2 "com/example/tilescript/tilescript/TicTacToe" "xCells" "I" (.int (0 : Int32)) := D2 (Or.inl (hw _ (List.mem_of_getElem? (i := 47) rfl))) (ty := .int) (by decide)
  have F_oCells_b2 : Fld Z h2 b2 "com/example/tilescript/tilescript/TicTacToe" "oCells" "I" (.int (0 : Int32)) := D2 (Or.inl (hw _ (List.mem_of_getElem? (i := 49) rfl))) (ty := .int) (by decide)
  refine own_step (T' := T2) (g' := (mkF m 11 #[.val (.long p0), .second, .val (.int p1), .val (.int v1), .unset, .unset] [(.ref b2)])) st2 ?_
  refine own_step (T' := T2) (g' := (mkF m 12 #[.val (.long p0), .second, .val (.int p1), .val (.int v1), .unset, .unset] [(.ref b2), (.ref b2)])) (fun t k => XS.dup X2.here hx rfl (hb hby at_11) rfl rfl k) ?_
  obtain ⟨_, _, ⟨T3, L3, kk3, nn3⟩, -, X3, ⟨Lc3, hQ3, l3, y3, z3⟩, st3⟩ := X2.specialBack hx (y := (⟨"com/example/tilescript/tilescript/TicTacToe", "<init>", "()V"⟩ : MethodName)) rfl hown (mvT hZ (hw _ (List.mem_of_getElem? (i := 4) rfl))) (mvT hZ (hw _ (List.mem_of_getElem? (i := 5) rfl))) (mvT hZ (hw _ (List.mem_of_getElem? (i := 6) rfl))) (by decide) (backOf (W := 1) (rm1 l Z a0 hw [] b2 h2 n0 (Nat.le_trans Z0 K_2.1) E_b2 F_lastMove_b2 F_winner_b2 F_xCells_b2 F_oCells_b2 F_marks_b2 g_b2) hZ (hw _ (List.mem_of_getElem? (i := 6) rfl)) (hw _ (List.mem_of_getElem? (i := 3) rfl)) (by decide) (by decide)) (g := (mkF m 12 #[.val (.long p0), .second, .val (.int p1), .val (.int v1), .unset, .unset] [(.ref b2), (.ref b2)])) rfl (by rw [hml]; rfl) (Steps.refl _) (a := b2) (argsL := []) (rest := [(.ref b2)]) (lenOf pd_0 rfl) rfl (by show 2 * 0 + _ ≤ _; exact Nat.le_of_eq rfl) (hb hby at_12) (fun _ _ => ⟨rfl, e2, (by decide : 1 + 0 ≤ _), (by decide : 5 + 0 ≤ _)⟩)
  dsimp only [Pt.U, Pt.locs, Pt.cells, Pt.slots] at X3 l3 y3 z3 st3 hQ3
  subst l3 y3 z3
  obtain ⟨rfl, N3q, Kq3, pq3_0, pq3_1, pq3_2, pq3_3, pq3_4⟩ := hQ3
  have N3 := Fr.app N0 N3q
  have S_LINES_3 : Sta Z T3.heap "com/example/tilescript/tilescript/TicTacToe" "LINES" "[I" (.ref aL) := own_sta_keep S_LINES_2 Kq3 (allS E_b2.nostat all0)
  have V_aL_3 : Arv Z T3.heap aL kL .int (8 : Int32) [(.int (7 : Int32)), (.int (56 : Int32)), (.int (448 : Int32)), (.int (73 : Int32)), (.int (146 : Int32)), (.int (292 : Int32)), (.int (273 : Int32)), (.int (84 : Int32))] (.int (0 : Int32)) := V_aL_2.keep Kq3 (ninS ne_aL_b2 nin0)
  have E_b2_3 : Exa Z T3.heap b2 "com/example/tilescript/tilescript/TicTacToe" := E_b2.keep Kq3
  have K_3 : Keep h0 T3.heap [] := K_2.trans Kq3 (allS (Or.inr sz_b2) all0)
  refine own_step (T' := T3) (g' := (mkF m 15 #[.val (.long p0), .second, .val (.int p1), .val (.int v1), .unset, .unset] [(.ref b2)])) (fun t k => st3.trans k) ?_
  refine own_step (T' := T3) (g' := (mkF m 17 #[.val (.long p0), .second, .val (.int p1), .val (.int v1), .val (.ref b2), .unset] [])) (fun t k => XS.astore X3.here hx rfl (hb hby at_15) rfl rfl (l' := #[.val (.long p0), .second, .val (.int p1), .val (.int v1), .val (.ref b2), .unset]) rfl k) ?_
  refine own_step (T' := T3) (g' := (mkF m 18 #[.val (.long p0), .second, .val (.int p1), .val (.int v1), .val (.ref b2), .unset] [(.int (3 : Int32))])) (fun t k => XS.iconst X3.here hx rfl (hb hby at_17) k) ?_
  obtain ⟨T4, h4, k4, X4, e4, E4, A4, st4⟩ := newP X3 hx hZ (hw _ (List.mem_of_getElem? (i := 14) rfl)) rfl (g := (mkF m 18 #[.val (.long p0), .second, .val (.int p1), .val (.int v1), .val (.ref b2), .unset] [(.int (3 : Int32))])) rfl (hb hby at_18) rfl (by decide) (cap := 3) (by decide) (by decide) (by decide) (by decide)
  obtain ⟨b4, g4⟩ : ∃ z, z = T3.heap.size := ⟨_, rfl⟩
  rw [← g4] at A4 st4
  have S_LINES_4 : Sta Z h4 "com/example/tilescript/tilescript/TicTacToe" "LINES" "[I" (.ref aL) := S_LINES_3.ext E4
  have V_aL_4 : Arv Z h4 aL kL .int (8 : Int32) [(.int (7 : Int32)), (.int (56 : Int32)), (.int (448 : Int32)), (.int (73 : Int32)), (.int (146 : Int32)), (.int (292 : Int32)), (.int (273 : Int32)), (.int (84 : Int32))] (.int (0 : Int32)) := V_aL_3.ext E4
  have E_b2_4 : Exa Z h4 b2 "com/example/tilescript/tilescript/TicTacToe" := E_b2_3.ext E4
  have F_lastMove_b2_4 : Fld Z h4 b2 "com/example/tilescript/tilescript/TicTacToe" "lastMove" "I" (.int (-1 : Int32)) := pq3_0.ext E4
  have F_winner_b2_4 : Fld Z h4 b2 "com/example/tilescript/tilescript/TicTacToe" "winner" "C" (.int (45 : Int32)) := pq3_1.ext E4
  have F_xCells_b2_4 : Fld Z h4 b2 "com/example/tilescript/tilescript/TicTacToe" "xCells" "I" (.int (0 : Int32)) := pq3_2.ext E4
  have F_oCells_b2_4 : Fld Z h4 b2 "com/example/tilescript/tilescript/TicTacToe" "oCells" "I" (.int (0 : Int32)) := pq3_3.ext E4
  have F_marks_b2_4 : Fld Z h4 b2 "com/example/tilescript/tilescript/TicTacToe" "marks" "I" (.int (0 : Int32)) := pq3_4.ext E4
  have K_4 : Keep h0 h4 [] := K_3.ext E4
  have sz_b4 : h0.size ≤ b4 := Nat.le_trans K_3.1 (Nat.le_of_eq g4.symm)
  have g_b4 : n0 ≤ b4 := Nat.le_trans Z0 sz_b4
  have ne_aL_b4 : aL ≠ b4 := Nat.ne_of_lt (Nat.lt_of_lt_of_le V_aL_3.lt (Nat.le_of_eq g4.symm))
  have ne_b2_b4 : b2 ≠ b4 := Nat.ne_of_lt (Nat.lt_of_lt_of_le E_b2_3.lt (Nat.le_of_eq g4.symm))
  have V_b4 : Arv Z h4 b4 k4 .int (3 : Int32) [(.int (0 : Int32)), (.int (0 : Int32)), (.int (0 : Int32))] (.int (0 : Int32)) := (Arv.new A4 (by decide)).pad (pad_rep [] (.int (0 : Int32)) 3)
  refine own_step (T' := T4) (g' := (mkF m 20 #[.val (.long p0), .second, .val (.int p1), .val (.int v1), .val (.ref b2), .unset] [(.ref b4)])) st4 ?_
  refine own_step (T' := T4) (g' := (mkF m 22 #[.val (.long p0), .second, .val (.int p1), .val (.int v1), .val (.ref b2), .val (.ref b4)] [])) (fun t k => XS.astore X4.here hx rfl (hb hby at_20) rfl rfl (l' := #[.val (.long p0), .second, .val (.int p1), .val (.int v1), .val (.ref b2), .val (.ref b4)]) rfl k) ?_
  have hI0 := own_i30
  have J5 : ∀ (Tj5 : State) (Lj5 : List Loc) (Hj5 : Heap) (wx38 : Int32) (wo38 : Int32) (wm38 : Int32) (ww38 : Int32) (wl38 : Int32), (Stand p l e room_1 s m #[(.long p0), (.int p1)] below meth c Tj5 Lj5 2 8) → (Tj5.heap = Hj5) → (Fr n0 Lj5) → (Keep h0 Hj5 []) → (Sta Z Hj5 "com/example/tilescript/tilescript/TicTacToe" "LINES" "[I" (.ref aL)) → (Arv Z Hj5 aL kL .int (8 : Int32) [(.int (7 : Int32)), (.int (56 : Int32)), (.int (448 : Int32)), (.int (73 : Int32)), (.int (146 : Int32)), (.int (292 : Int32)), (.int (273 : Int32)), (.int (84 : Int32))] (.int (0 : Int32))) → (Exa Z Hj5 b2 "com/example/tilescript/tilescript/TicTacToe") → (Fld Z Hj5 b2 "com/example/tilescript/tilescript/TicTacToe" "lastMove" "I" (.int wl38)) → (Fld Z Hj5 b2 "com/example/tilescript/tilescript/TicTacToe" "winner" "C" (.int ww38)) → (Fld Z Hj5 b2 "com/example/tilescript/tilescript/TicTacToe" "xCells" "I" (.int wx38)) → (Fld Z Hj5 b2 "com/example/tilescript/tilescript/TicTacToe" "oCells" "I" (.int wo38)) → (Fld Z Hj5 b2 "com/example/tilescript/tilescript/TicTacToe" "marks" "I" (.int wm38)) → (Arv Z Hj5 b4 k4 .int (3 : Int32) [(.int wx38), (.int wo38), (.int wm38)] (.int (0 : Int32))) → (own_I3 wx38 wo38 wm38 ww38) → own_G p e below s 2 8 (Qrm0 Z p0 p1 aL kL h0 n0) Tj5 (mkF m 38 #[.val (.long p0), .second, .val (.int p1), .val (.int v1), .val (.ref b2), .val (.ref b4)] []) := by
    intro Tj5 Lj5 Hj5 wx38 wo38 wm38 ww38 wl38 Xj5 ej5 Nj5 Kj5 fj5_0 fj5_1 fj5_2 fj5_3 fj5_4 fj5_5 fj5_6 fj5_7 fj5_8 hI38
    have J6 : ∀ (Tj6 : State) (Lj6 : List Loc) (Hj6 : Heap) (wx55 : Int32) (wo55 : Int32) (wm55 : Int32) (ww55 : Int32) (wl55 : Int32), (Stand p l e room_1 s m #[(.long p0), (.int p1)] below meth c Tj6 Lj6 2 8) → (Tj6.heap = Hj6) → (Fr n0 Lj6) → (Keep h0 Hj6 []) → (Sta Z Hj6 "com/example/tilescript/tilescript/TicTacToe" "LINES" "[I" (.ref aL)) → (Arv Z Hj6 aL kL .int (8 : Int32) [(.int (7 : Int32)), (.int (56 : Int32)), (.int (448 : Int32)), (.int (73 : Int32)), (.int (146 : Int32)), (.int (292 : Int32)), (.int (273 : Int32)), (.int (84 : Int32))] (.int (0 : Int32))) → (Exa Z Hj6 b2 "com/example/tilescript/tilescript/TicTacToe") → (Fld Z Hj6 b2 "com/example/tilescript/tilescript/TicTacToe" "lastMove" "I" (.int wl55)) → (Fld Z Hj6 b2 "com/example/tilescript/tilescript/TicTacToe" "winner" "C" (.int ww55)) → (Fld Z Hj6 b2 "com/example/tilescript/tilescript/TicTacToe" "xCells" "I" (.int wx55)) → (Fld Z Hj6 b2 "com/example/tilescript/tilescript/TicTacToe" "oCells" "I" (.int wo55)) → (Fld Z Hj6 b2 "com/example/tilescript/tilescript/TicTacToe" "marks" "I" (.int wm55)) → (Arv Z Hj6 b4 k4 .int (3 : Int32) [(.int wx55), (.int wo55), (.int wm55)] (.int (0 : Int32))) → (own_I3 wx55 wo55 wm55 ww55) → own_G p e below s 2 8 (Qrm0 Z p0 p1 aL kL h0 n0) Tj6 (mkF m 55 #[.val (.long p0), .second, .val (.int p1), .val (.int v1), .val (.ref b2), .val (.ref b4)] []) := by
      intro Tj6 Lj6 Hj6 wx55 wo55 wm55 ww55 wl55 Xj6 ej6 Nj6 Kj6 fj6_0 fj6_1 fj6_2 fj6_3 fj6_4 fj6_5 fj6_6 fj6_7 fj6_8 hI55
      have J7 : ∀ (Tj7 : State) (Lj7 : List Loc) (Hj7 : Heap) (wx72 : Int32) (wo72 : Int32) (wm72 : Int32) (ww72 : Int32) (wl72 : Int32), (Stand p l e room_1 s m #[(.long p0), (.int p1)] below meth c Tj7 Lj7 2 8) → (Tj7.heap = Hj7) → (Fr n0 Lj7) → (Keep h0 Hj7 []) → (Sta Z Hj7 "com/example/tilescript/tilescript/TicTacToe" "LINES" "[I" (.ref aL)) → (Arv Z Hj7 aL kL .int (8 : Int32) [(.int (7 : Int32)), (.int (56 : Int32)), (.int (448 : Int32)), (.int (73 : Int32)), (.int (146 : Int32)), (.int (292 : Int32)), (.int (273 : Int32)), (.int (84 : Int32))] (.int (0 : Int32))) → (Exa Z Hj7 b2 "com/example/tilescript/tilescript/TicTacToe") → (Fld Z Hj7 b2 "com/example/tilescript/tilescript/TicTacToe" "lastMove" "I" (.int wl72)) → (Fld Z Hj7 b2 "com/example/tilescript/tilescript/TicTacToe" "winner" "C" (.int ww72)) → (Fld Z Hj7 b2 "com/example/tilescript/tilescript/TicTacToe" "xCells" "I" (.int wx72)) → (Fld Z Hj7 b2 "com/example/tilescript/tilescript/TicTacToe" "oCells" "I" (.int wo72)) → (Fld Z Hj7 b2 "com/example/tilescript/tilescript/TicTacToe" "marks" "I" (.int wm72)) → (Arv Z Hj7 b4 k4 .int (3 : Int32) [(.int wx72), (.int wo72), (.int wm72)] (.int (0 : Int32))) → (own_I3 wx72 wo72 wm72 ww72) → own_G p e below s 2 8 (Qrm0 Z p0 p1 aL kL h0 n0) Tj7 (mkF m 72 #[.val (.long p0), .second, .val (.int p1), .val (.int v1), .val (.ref b2), .val (.ref b4)] []) := by
        intro Tj7 Lj7 Hj7 wx72 wo72 wm72 ww72 wl72 Xj7 ej7 Nj7 Kj7 fj7_0 fj7_1 fj7_2 fj7_3 fj7_4 fj7_5 fj7_6 fj7_7 fj7_8 hI72
        have J8 : ∀ (Tj8 : State) (Lj8 : List Loc) (Hj8 : Heap) (wx89 : Int32) (wo89 : Int32) (wm89 : Int32) (ww89 : Int32) (wl89 : Int32), (Stand p l e room_1 s m #[(.long p0), (.int p1)] below meth c Tj8 Lj8 2 8) → (Tj8.heap = Hj8) → (Fr n0 Lj8) → (Keep h0 Hj8 []) → (Sta Z Hj8 "com/example/tilescript/tilescript/TicTacToe" "LINES" "[I" (.ref aL)) → (Arv Z Hj8 aL kL .int (8 : Int32) [(.int (7 : Int32)), (.int (56 : Int32)), (.int (448 : Int32)), (.int (73 : Int32)), (.int (146 : Int32)), (.int (292 : Int32)), (.int (273 : Int32)), (.int (84 : Int32))] (.int (0 : Int32))) → (Exa Z Hj8 b2 "com/example/tilescript/tilescript/TicTacToe") → (Fld Z Hj8 b2 "com/example/tilescript/tilescript/TicTacToe" "lastMove" "I" (.int wl89)) → (Fld Z Hj8 b2 "com/example/tilescript/tilescript/TicTacToe" "winner" "C" (.int ww89)) → (Fld Z Hj8 b2 "com/example/tilescript/tilescript/TicTacToe" "xCells" "I" (.int wx89)) → (Fld Z Hj8 b2 "com/example/tilescript/tilescript/TicTacToe" "oCells" "I" (.int wo89)) → (Fld Z Hj8 b2 "com/example/tilescript/tilescript/TicTacToe" "marks" "I" (.int wm89)) → (Arv Z Hj8 b4 k4 .int (3 : Int32) [(.int wx89), (.int wo89), (.int wm89)] (.int (0 : Int32))) → (own_I3 wx89 wo89 wm89 ww89) → own_G p e below s 2 8 (Qrm0 Z p0 p1 aL kL h0 n0) Tj8 (mkF m 89 #[.val (.long p0), .second, .val (.int p1), .val (.int v1), .val (.ref b2), .val (.ref b4)] []) := by
          intro Tj8 Lj8 Hj8 wx89 wo89 wm89 ww89 wl89 Xj8 ej8 Nj8 Kj8 fj8_0 fj8_1 fj8_2 fj8_3 fj8_4 fj8_5 fj8_6 fj8_7 fj8_8 hI89
          have J9 : ∀ (Tj9 : State) (Lj9 : List Loc) (Hj9 : Heap) (wx106 : Int32) (wo106 : Int32) (wm106 : Int32) (ww106 : Int32) (wl106 : Int32), (Stand p l e room_1 s m #[(.long p0), (.int p1)] below meth c Tj9 Lj9 2 8) → (Tj9.heap = Hj9) → (Fr n0 Lj9) → (Keep h0 Hj9 []) → (Sta Z Hj9 "com/example/tilescript/tilescript/TicTacToe" "LINES" "[I" (.ref aL)) → (Arv Z Hj9 aL kL .int (8 : Int32) [(.int (7 : Int32)), (.int (56 : Int32)), (.int (448 : Int32)), (.int (73 : Int32)), (.int (146 : Int32)), (.int (292 : Int32)), (.int (273 : Int32)), (.int (84 : Int32))] (.int (0 : Int32))) → (Exa Z Hj9 b2 "com/example/tilescript/tilescript/TicTacToe") → (Fld Z Hj9 b2 "com/example/tilescript/tilescript/TicTacToe" "lastMove" "I" (.int wl106)) → (Fld Z Hj9 b2 "com/example/tilescript/tilescript/TicTacToe" "winner" "C" (.int ww106)) → (Fld Z Hj9 b2 "com/example/tilescript/tilescript/TicTacToe" "xCells" "I" (.int wx106)) → (Fld Z Hj9 b2 "com/example/tilescript/tilescript/TicTacToe" "oCells" "I" (.int wo106)) → (Fld Z Hj9 b2 "com/example/tilescript/tilescript/TicTacToe" "marks" "I" (.int wm106)) → (Arv Z Hj9 b4 k4 .int (3 : Int32) [(.int wx106), (.int wo106), (.int wm106)] (.int (0 : Int32))) → (own_I3 wx106 wo106 wm106 ww106) → own_G p e below s 2 8 (Qrm0 Z p0 p1 aL kL h0 n0) Tj9 (mkF m 106 #[.val (.long p0), .second, .val (.int p1), .val (.int v1), .val (.ref b2), .val (.ref b4)] []) := by
            intro Tj9 Lj9 Hj9 wx106 wo106 wm106 ww106 wl106 Xj9 ej9 Nj9 Kj9 fj9_0 fj9_1 fj9_2 fj9_3 fj9_4 fj9_5 fj9_6 fj9_7 fj9_8 hI106
            have J10 : ∀ (Tj10 : State) (Lj10 : List Loc) (Hj10 : Heap) (wx123 : Int32) (wo123 : Int32) (wm123 : Int32) (ww123 : Int32) (wl123 : Int32), (Stand p l e room_1 s m #[(.long p0), (.int p1)] below meth c Tj10 Lj10 2 8) → (Tj10.heap = Hj10) → (Fr n0 Lj10) → (Keep h0 Hj10 []) → (Sta Z Hj10 "com/example/tilescript/tilescript/TicTacToe" "LINES" "[I" (.ref aL)) → (Arv Z Hj10 aL kL .int (8 : Int32) [(.int (7 : Int32)), (.int (56 : Int32)), (.int (448 : Int32)), (.int (73 : Int32)), (.int (146 : Int32)), (.int (292 : Int32)), (.int (273 : Int32)), (.int (84 : Int32))] (.int (0 : Int32))) → (Exa Z Hj10 b2 "com/example/tilescript/tilescript/TicTacToe") → (Fld Z Hj10 b2 "com/example/tilescript/tilescript/TicTacToe" "lastMove" "I" (.int wl123)) → (Fld Z Hj10 b2 "com/example/tilescript/tilescript/TicTacToe" "winner" "C" (.int ww123)) → (Fld Z Hj10 b2 "com/example/tilescript/tilescript/TicTacToe" "xCells" "I" (.int wx123)) → (Fld Z Hj10 b2 "com/example/tilescript/tilescript/TicTacToe" "oCells" "I" (.int wo123)) → (Fld Z Hj10 b2 "com/example/tilescript/tilescript/TicTacToe" "marks" "I" (.int wm123)) → (Arv Z Hj10 b4 k4 .int (3 : Int32) [(.int wx123), (.int wo123), (.int wm123)] (.int (0 : Int32))) → (own_I3 wx123 wo123 wm123 ww123) → own_G p e below s 2 8 (Qrm0 Z p0 p1 aL kL h0 n0) Tj10 (mkF m 123 #[.val (.long p0), .second, .val (.int p1), .val (.int v1), .val (.ref b2), .val (.ref b4)] []) := by
              intro Tj10 Lj10 Hj10 wx123 wo123 wm123 ww123 wl123 Xj10 ej10 Nj10 Kj10 fj10_0 fj10_1 fj10_2 fj10_3 fj10_4 fj10_5 fj10_6 fj10_7 fj10_8 hI123
              have J11 : ∀ (Tj11 : State) (Lj11 : List Loc) (Hj11 : Heap) (wx142 : Int32) (wo142 : Int32) (wm142 : Int32) (ww142 : Int32) (wl142 : Int32), (Stand p l e room_1 s m #[(.long p0), (.int p1)] below meth c Tj11 Lj11 2 8) → (Tj11.heap = Hj11) → (Fr n0 Lj11) → (Keep h0 Hj11 []) → (Sta Z Hj11 "com/example/tilescript/tilescript/TicTacToe" "LINES" "[I" (.ref aL)) → (Arv Z Hj11 aL kL .int (8 : Int32) [(.int (7 : Int32)), (.int (56 : Int32)), (.int (448 : Int32)), (.int (73 : Int32)), (.int (146 : Int32)), (.int (292 : Int32)), (.int (273 : Int32)), (.int (84 : Int32))] (.int (0 : Int32))) → (Exa Z Hj11 b2 "com/example/tilescript/tilescript/TicTacToe") → (Fld Z Hj11 b2 "com/example/tilescript/tilescript/TicTacToe" "lastMove" "I" (.int wl142)) → (Fld Z Hj11 b2 "com/example/tilescript/tilescript/TicTacToe" "winner" "C" (.int ww142)) → (Fld Z Hj11 b2 "com/example/tilescript/tilescript/TicTacToe" "xCells" "I" (.int wx142)) → (Fld Z Hj11 b2 "com/example/tilescript/tilescript/TicTacToe" "oCells" "I" (.int wo142)) → (Fld Z Hj11 b2 "com/example/tilescript/tilescript/TicTacToe" "marks" "I" (.int wm142)) → (Arv Z Hj11 b4 k4 .int (3 : Int32) [(.int wx142), (.int wo142), (.int wm142)] (.int (0 : Int32))) → (own_I3 wx142 wo142 wm142 ww142) → own_G p e below s 2 8 (Qrm0 Z p0 p1 aL kL h0 n0) Tj11 (mkF m 142 #[.val (.long p0), .second, .val (.int p1), .val (.int v1), .val (.ref b2), .val (.ref b4)] []) := by
                intro Tj11 Lj11 Hj11 wx142 wo142 wm142 ww142 wl142 Xj11 ej11 Nj11 Kj11 fj11_0 fj11_1 fj11_2 fj11_3 fj11_4 fj11_5 fj11_6 fj11_7 fj11_8 hI142
                have J12 : ∀ (Tj12 : State) (Lj12 : List Loc) (Hj12 : Heap) (wx161 : Int32) (wo161 : Int32) (wm161 : Int32) (ww161 : Int32) (wl161 : Int32), (Stand p l e room_1 s m #[(.long p0), (.int p1)] below meth c Tj12 Lj12 2 8) → (Tj12.heap = Hj12) → (Fr n0 Lj12) → (Keep h0 Hj12 []) → (Sta Z Hj12 "com/example/tilescript/tilescript/TicTacToe" "LINES" "[I" (.ref aL)) → (Arv Z Hj12 aL kL .int (8 : Int32) [(.int (7 : Int32)), (.int (56 : Int32)), (.int (448 : Int32)), (.int (73 : Int32)), (.int (146 : Int32)), (.int (292 : Int32)), (.int (273 : Int32)), (.int (84 : Int32))] (.int (0 : Int32))) → (Exa Z Hj12 b2 "com/example/tilescript/tilescript/TicTacToe") → (Fld Z Hj12 b2 "com/example/tilescript/tilescript/TicTacToe" "lastMove" "I" (.int wl161)) → (Fld Z Hj12 b2 "com/example/tilescript/tilescript/TicTacToe" "winner" "C" (.int ww161)) → (Fld Z Hj12 b2 "com/example/tilescript/tilescript/TicTacToe" "xCells" "I" (.int wx161)) → (Fld Z Hj12 b2 "com/example/tilescript/tilescript/TicTacToe" "oCells" "I" (.int wo161)) → (Fld Z Hj12 b2 "com/example/tilescript/tilescript/TicTacToe" "marks" "I" (.int wm161)) → (Arv Z Hj12 b4 k4 .int (3 : Int32) [(.int wx161), (.int wo161), (.int wm161)] (.int (0 : Int32))) → (own_I3 wx161 wo161 wm161 ww161) → own_G p e below s 2 8 (Qrm0 Z p0 p1 aL kL h0 n0) Tj12 (mkF m 161 #[.val (.long p0), .second, .val (.int p1), .val (.int v1), .val (.ref b2), .val (.ref b4)] []) := by
                  intro Tj12 Lj12 Hj12 wx161 wo161 wm161 ww161 wl161 Xj12 ej12 Nj12 Kj12 fj12_0 fj12_1 fj12_2 fj12_3 fj12_4 fj12_5 fj12_6 fj12_7 fj12_8 hI161
                  have J13 : ∀ (Tj13 : State) (Lj13 : List Loc) (Hj13 : Heap) (wx180 : Int32) (wo180 : Int32) (wm180 : Int32) (ww180 : Int32) (wl180 : Int32), (Stand p l e room_1 s m #[(.long p0), (.int p1)] below meth c Tj13 Lj13 2 8) → (Tj13.heap = Hj13) → (Fr n0 Lj13) → (Keep h0 Hj13 []) → (Sta Z Hj13 "com/example/tilescript/tilescript/TicTacToe" "LINES" "[I" (.ref aL)) → (Arv Z Hj13 aL kL .int (8 : Int32) [(.int (7 : Int32)), (.int (56 : Int32)), (.int (448 : Int32)), (.int (73 : Int32)), (.int (146 : Int32)), (.int (292 : Int32)), (.int (273 : Int32)), (.int (84 : Int32))] (.int (0 : Int32))) → (Exa Z Hj13 b2 "com/example/tilescript/tilescript/TicTacToe") → (Fld Z Hj13 b2 "com/example/tilescript/tilescript/TicTacToe" "lastMove" "I" (.int wl180)) → (Fld Z Hj13 b2 "com/example/tilescript/tilescript/TicTacToe" "winner" "C" (.int ww180)) → (Fld Z Hj13 b2 "com/example/tilescript/tilescript/TicTacToe" "xCells" "I" (.int wx180)) → (Fld Z Hj13 b2 "com/example/tilescript/tilescript/TicTacToe" "oCells" "I" (.int wo180)) → (Fld Z Hj13 b2 "com/example/tilescript/tilescript/TicTacToe" "marks" "I" (.int wm180)) → (Arv Z Hj13 b4 k4 .int (3 : Int32) [(.int wx180), (.int wo180), (.int wm180)] (.int (0 : Int32))) → (own_I3 wx180 wo180 wm180 ww180) → own_G p e below s 2 8 (Qrm0 Z p0 p1 aL kL h0 n0) Tj13 (mkF m 180 #[.val (.long p0), .second, .val (.int p1), .val (.int v1), .val (.ref b2), .val (.ref b4)] []) := by
                    intro Tj13 Lj13 Hj13 wx180 wo180 wm180 ww180 wl180 Xj13 ej13 Nj13 Kj13 fj13_0 fj13_1 fj13_2 fj13_3 fj13_4 fj13_5 fj13_6 fj13_7 fj13_8 hI180
                    refine own_step (T' := Tj13) (g' := (mkF m 182 #[.val (.long p0), .second, .val (.int p1), .val (.int v1), .val (.ref b2), .val (.ref b4)] [(.ref b2)])) (fun t k => XS.aload Xj13.here hx rfl (hb hby at_180) rfl rfl k) ?_
                    obtain ⟨cq14, kq14, qq14a, qq14b, qq14c⟩ := isOf hZ ej13 fj13_2
                    obtain ⟨_, _, ⟨T14, L14, kk14, nn14⟩, -, X14, ⟨Lc14, hQ14, l14, y14, z14⟩, st14⟩ := Xj13.virtualBack hx (y := (⟨"com/example/tilescript/tilescript/TicTacToe", "isOver", "()Z"⟩ : MethodName)) (z := (⟨"com/example/tilescript/tilescript/TicTacToe", "isOver", "()Z"⟩ : MethodName)) hown (mvT hZ (hw _ (List.mem_of_getElem? (i := 57) rfl))) (mvT hZ (hw _ (List.mem_of_getElem? (i := 40) rfl))) (notFace_of_selects (args := #[]) (mvT hZ (hw _ (List.mem_of_getElem? (i := 42) rfl)))) (mvT hZ (hw _ (List.mem_of_getElem? (i := 42) rfl))) (mvT hZ (hw _ (List.mem_of_getElem? (i := 41) rfl))) (by decide) (backOf (W := 0) (rm9 l Z a0 hw [] b2 ww180 wm180 Hj13 n0 (Nat.le_trans Z0 Kj13.1) fj13_4 fj13_7) hZ (hw _ (List.mem_of_getElem? (i := 43) rfl)) (hw _ (List.mem_of_getElem? (i := 3) rfl)) (by decide) (by decide)) qq14a qq14c (g := (mkF m 182 #[.val (.long p0), .second, .val (.int p1), .val (.int v1), .val (.ref b2), .val (.ref b4)] [(.ref b2)])) rfl (by rw [hml]; rfl) (Steps.refl _) (argsL := []) (rest := []) (lenOf pd_6 rfl) rfl (by show 2 * 0 + _ ≤ _; exact Nat.le_of_eq rfl) (hb hby at_182) (fun _ _ => ⟨rfl, ej13, (by decide : 2 + 0 ≤ _), (by decide : 8 + 0 ≤ _)⟩)
                    dsimp only [Pt.U, Pt.locs, Pt.cells, Pt.slots] at X14 l14 y14 z14 st14 hQ14
                    subst l14 y14 z14
                    obtain ⟨rfl, N14q, eq14⟩ := hQ14
                    have N14 := Fr.app Nj13 N14q
                    refine own_step (T' := T14) (g' := (mkF m 185 #[.val (.long p0), .second, .val (.int p1), .val (.int v1), .val (.ref b2), .val (.ref b4)] [(.int (fnOver ww180 wm180))])) (fun t k => st14.trans k) ?_
                    refine own_step (T' := T14) (g' := (mkF m 187 #[.val (.long p0), .second, .val (.int p1), .val (.int v1), .val (.ref b2), .val (.ref b4)] [(.ref b4), (.int (fnOver ww180 wm180))])) (fun t k => XS.aload X14.here hx rfl (hb hby at_185) rfl rfl k) ?_
                    obtain ⟨_, _, ⟨T15, L15, kk15, nn15⟩, -, X15, ⟨Lc15, hQ15, l15, y15, z15⟩, st15⟩ := Jvm.LawKit.callS X14 hx (y := (⟨"com/example/tilescript/tilescript/TicTacToeIsOverPinLaw", "over", "([I)Z"⟩ : MethodName)) hown (mvT hZ (hw _ (List.mem_of_getElem? (i := 23) rfl))) (mvT hZ (hw _ (List.mem_of_getElem? (i := 24) rfl))) (mvT hZ (hw _ (List.mem_of_getElem? (i := 17) rfl))) (mvT hZ (hw _ (List.mem_of_getElem? (i := 25) rfl))) (by decide) (backOf (W := 1) (rm5 l Z a0 hw [] b4 k4 wx180 wo180 wm180 Hj13 n0 (Nat.le_trans Z0 Kj13.1) fj13_8) hZ (hw _ (List.mem_of_getElem? (i := 25) rfl)) (hw _ (List.mem_of_getElem? (i := 17) rfl)) (by decide) (by decide)) (g := (mkF m 187 #[.val (.long p0), .second, .val (.int p1), .val (.int v1), .val (.ref b2), .val (.ref b4)] [(.ref b4), (.int (fnOver ww180 wm180))])) rfl (by rw [hml]; rfl) (argsL := [(.ref b4)]) (rest := [(.int (fnOver ww180 wm180))]) (lenOf pd_3 rfl) rfl (by show 2 * 0 + _ ≤ _; exact Nat.le_of_eq rfl) (hb hby at_187) (fun _ _ => ⟨rfl, eq14, (by decide : 2 + 0 ≤ _), (by decide : 8 + 0 ≤ _)⟩)
                    dsimp only [Pt.U, Pt.locs, Pt.cells, Pt.slots] at X15 l15 y15 z15 st15 hQ15
                    subst l15 y15 z15
                    obtain ⟨rfl, N15q, eq15⟩ := hQ15
                    have N15 := Fr.app N14 N15q
                    refine own_step (T' := T15) (g' := (mkF m 190 #[.val (.long p0), .second, .val (.int p1), .val (.int v1), .val (.ref b2), .val (.ref b4)] [(.int (fnOver2_ wx180 wo180 wm180)), (.int (fnOver ww180 wm180))])) st15 ?_
                    refine own_step (T' := T15) (g' := (mkF m 193 #[.val (.long p0), .second, .val (.int p1), .val (.int v1), .val (.ref b2), .val (.ref b4)] [])) (fun t k => XS.icmpNo X15.here hx rfl (hb hby at_190) rfl (teq (own_isover hI180)).2 k) ?_
                    refine own_step (T' := T15) (g' := (mkF m 194 #[.val (.long p0), .second, .val (.int p1), .val (.int v1), .val (.ref b2), .val (.ref b4)] [(.int (1 : Int32))])) (fun t k => XS.iconst X15.here hx rfl (hb hby at_193) k) ?_
                    refine own_step (T' := T15) (g' := (mkF m 198 #[.val (.long p0), .second, .val (.int p1), .val (.int v1), .val (.ref b2), .val (.ref b4)] [(.int (1 : Int32))])) (fun t k => XS.goto X15.here hx rfl (pc0 := 194) (pc' := 198) rfl (hb hby at_194) (by decide) (by decide) k) ?_
                    refine own_retN X15 hx hlk (t := .boolean) (w := (1 : Int32)) Bd.returns (by simp) (hb hby at_198) rfl (by decide) (by decide) ?_
                    exact ⟨rfl, N15⟩
                  refine own_step (T' := Tj12) (g' := (mkF m 162 #[.val (.long p0), .second, .val (.int p1), .val (.int v1), .val (.ref b2), .val (.ref b4)] [(.int v1)])) (fun t k => XS.iloadN Xj12.here hx rfl (hb hby at_161) rfl k) ?_
                  refine own_step (T' := Tj12) (g' := (mkF m 164 #[.val (.long p0), .second, .val (.int p1), .val (.int v1), .val (.ref b2), .val (.ref b4)] [(.int (8 : Int32)), (.int v1)])) (fun t k => XS.bipush Xj12.here hx rfl (hb hby at_162) k) ?_
                  by_cases hc164_17 : (8 : Int32) < v1
                  · refine own_step (T' := Tj12) (g' := (mkF m 167 #[.val (.long p0), .second, .val (.int p1), .val (.int v1), .val (.ref b2), .val (.ref b4)] [])) (fun t k => XS.icmpNo Xj12.here hx rfl (hb hby at_164) rfl (tlt hc164_17).2.2.2 k) ?_
                    refine own_step (T' := Tj12) (g' := (mkF m 169 #[.val (.long p0), .second, .val (.int p1), .val (.int v1), .val (.ref b2), .val (.ref b4)] [(.ref b2)])) (fun t k => XS.aload Xj12.here hx rfl (hb hby at_167) rfl rfl k) ?_
                    refine own_step (T' := Tj12) (g' := (mkF m 171 #[.val (.long p0), .second, .val (.int p1), .val (.int v1), .val (.ref b2), .val (.ref b4)] [(.ref b4), (.ref b2)])) (fun t k => XS.aload Xj12.here hx rfl (hb hby at_169) rfl rfl k) ?_
                    refine own_step (T' := Tj12) (g' := (mkF m 172 #[.val (.long p0), .second, .val (.int p1), .val (.int v1), .val (.ref b2), .val (.ref b4)] [(.long p0), (.ref b4), (.ref b2)])) (fun t k => XS.lloadN Xj12.here hx rfl (hb hby at_171) rfl k) ?_
                    refine own_step (T' := Tj12) (g' := (mkF m 174 #[.val (.long p0), .second, .val (.int p1), .val (.int v1), .val (.ref b2), .val (.ref b4)] [(.int (8 : Int32)), (.long p0), (.ref b4), (.ref b2)])) (fun t k => XS.bipush Xj12.here hx rfl (hb hby at_172) k) ?_
                    obtain ⟨_, _, ⟨T18, L18, kk18, nn18⟩, -, X18, ⟨Lc18, hQ18, l18, y18, z18⟩, st18⟩ := Jvm.LawKit.callS Xj12 hx (y := (⟨"com/example/tilescript/tilescript/TicTacToeIsOverPinLaw", "cellOf", "(JI)I"⟩ : MethodName)) hown (mvT hZ (hw _ (List.mem_of_getElem? (i := 15) rfl))) (mvT hZ (hw _ (List.mem_of_getElem? (i := 16) rfl))) (mvT hZ (hw _ (List.mem_of_getElem? (i := 17) rfl))) (mvT hZ (hw _ (List.mem_of_getElem? (i := 18) rfl))) (by decide) (backOf (W := 2) (rm3 l Z a0 hw [] p0 (8 : Int32) Hj12 n0 (Nat.le_trans Z0 Kj12.1) ) hZ (hw _ (List.mem_of_getElem? (i := 18) rfl)) (hw _ (List.mem_of_getElem? (i := 17) rfl)) (by decide) (by decide)) (g := (mkF m 174 #[.val (.long p0), .second, .val (.int p1), .val (.int v1), .val (.ref b2), .val (.ref b4)] [(.int (8 : Int32)), (.long p0), (.ref b4), (.ref b2)])) rfl (by rw [hml]; rfl) (argsL := [(.long p0), (.int (8 : Int32))]) (rest := [(.ref b4), (.ref b2)]) (lenOf pd_1 rfl) rfl (by show 2 * 0 + _ ≤ _; exact Nat.le_of_eq rfl) (hb hby at_174) (fun _ _ => ⟨rfl, ej12, (by decide : 2 + 0 ≤ _), (by decide : 8 + 0 ≤ _)⟩)
                    dsimp only [Pt.U, Pt.locs, Pt.cells, Pt.slots] at X18 l18 y18 z18 st18 hQ18
                    subst l18 y18 z18
                    obtain ⟨rfl, N18q, eq18⟩ := hQ18
                    have N18 := Fr.app Nj12 N18q
                    refine own_step (T' := T18) (g' := (mkF m 177 #[.val (.long p0), .second, .val (.int p1), .val (.int v1), .val (.ref b2), .val (.ref b4)] [(.int (fnCell p0 (8 : Int32))), (.ref b4), (.ref b2)])) st18 ?_
                    obtain ⟨_, _, ⟨T19, L19, kk19, nn19⟩, -, X19, ⟨Lc19, hQ19, l19, y19, z19⟩, st19⟩ := Jvm.LawKit.callS X18 hx (y := (⟨"com/example/tilescript/tilescript/TicTacToeIsOverPinLaw", "step", "(Lcom/example/tilescript/tilescript/TicTacToe;[II)V"⟩ : MethodName)) hown (mvT hZ (hw _ (List.mem_of_getElem? (i := 20) rfl))) (mvT hZ (hw _ (List.mem_of_getElem? (i := 21) rfl))) (mvT hZ (hw _ (List.mem_of_getElem? (i := 17) rfl))) (mvT hZ (hw _ (List.mem_of_getElem? (i := 22) rfl))) (by decide) (backOf (W := 0) (rm4 l Z a0 hw [] b2 b4 (fnCell p0 (8 : Int32)) wx161 wo161 wm161 ww161 wl161 k4 aL kL Hj12 n0 (Nat.le_trans Z0 Kj12.1) fj12_2 fj12_5 fj12_6 fj12_7 fj12_4 fj12_3 g_b2 g_b4 fj12_8 fj12_0 fj12_1 ne_aL_b2 ne_aL_b4 ne_b2_b4 hI161 (own_cell _ _)) hZ (hw _ (List.mem_of_getElem? (i := 22) rfl)) (hw _ (List.mem_of_getElem? (i := 17) rfl)) (by decide) (by decide)) (g := (mkF m 177 #[.val (.long p0), .second, .val (.int p1), .val (.int v1), .val (.ref b2), .val (.ref b4)] [(.int (fnCell p0 (8 : Int32))), (.ref b4), (.ref b2)])) rfl (by rw [hml]; rfl) (argsL := [(.ref b2), (.ref b4), (.int (fnCell p0 (8 : Int32)))]) (rest := []) (lenOf pd_2 rfl) rfl (by show 2 * 0 + _ ≤ _; exact Nat.le_of_eq rfl) (hb hby at_177) (fun _ _ => ⟨rfl, eq18, (by decide : 2 + 0 ≤ _), (by decide : 8 + 0 ≤ _)⟩)
                    dsimp only [Pt.U, Pt.locs, Pt.cells, Pt.slots] at X19 l19 y19 z19 st19 hQ19
                    subst l19 y19 z19
                    obtain ⟨x1_19, o1_19, m1_19, w1_19, l1_19, rfl, N19q, Kq19, pq19_0, pq19_1, pq19_2, pq19_3, pq19_4, pq19_5, pq19_6⟩ := hQ19
                    have N19 := Fr.app N18 N19q
                    have S_LINES_19 : Sta Z T19.heap "com/example/tilescript/tilescript/TicTacToe" "LINES" "[I" (.ref aL) := own_sta_keep fj12_0 Kq19 (allS fj12_2.nostat (allS fj12_8.nostat all0))
                    have V_aL_19 : Arv Z T19.heap aL kL .int (8 : Int32) [(.int (7 : Int32)), (.int (56 : Int32)), (.int (448 : Int32)), (.int (73 : Int32)), (.int (146 : Int32)), (.int (292 : Int32)), (.int (273 : Int32)), (.int (84 : Int32))] (.int (0 : Int32)) := fj12_1.keep Kq19 (ninS ne_aL_b2 (ninS ne_aL_b4 nin0))
                    have E_b2_19 : Exa Z T19.heap b2 "com/example/tilescript/tilescript/TicTacToe" := fj12_2.keep Kq19
                    have K_19 : Keep h0 T19.heap [] := Kj12.trans Kq19 (allS (Or.inr sz_b2) (allS (Or.inr sz_b4) all0))
                    refine own_step (T' := T19) (g' := (mkF m 180 #[.val (.long p0), .second, .val (.int p1), .val (.int v1), .val (.ref b2), .val (.ref b4)] [])) st19 ?_
                    exact J13 T19 _ T19.heap (x1_19) (o1_19) (m1_19) (w1_19) (l1_19) X19 rfl N19 K_19 S_LINES_19 V_aL_19 E_b2_19 pq19_4 pq19_3 pq19_0 pq19_1 pq19_2 pq19_5 pq19_6
                  · refine own_step (T' := Tj12) (g' := (mkF m 180 #[.val (.long p0), .second, .val (.int p1), .val (.int v1), .val (.ref b2), .val (.ref b4)] [])) (fun t k => XS.icmpYes Xj12.here hx rfl (pc0 := 164) (pc' := 180) rfl (hb hby at_164) rfl (flt hc164_17).2.2.2 (by decide) (by decide) k) ?_
                    exact J13 Tj12 _ Hj12 (wx161) (wo161) (wm161) (ww161) (wl161) Xj12 ej12 Nj12 Kj12 fj12_0 fj12_1 fj12_2 fj12_3 fj12_4 fj12_5 fj12_6 fj12_7 fj12_8 hI161
                refine own_step (T' := Tj11) (g' := (mkF m 143 #[.val (.long p0), .second, .val (.int p1), .val (.int v1), .val (.ref b2), .val (.ref b4)] [(.int v1)])) (fun t k => XS.iloadN Xj11.here hx rfl (hb hby at_142) rfl k) ?_
                refine own_step (T' := Tj11) (g' := (mkF m 145 #[.val (.long p0), .second, .val (.int p1), .val (.int v1), .val (.ref b2), .val (.ref b4)] [(.int (7 : Int32)), (.int v1)])) (fun t k => XS.bipush Xj11.here hx rfl (hb hby at_143) k) ?_
                by_cases hc145_20 : (7 : Int32) < v1
                · refine own_step (T' := Tj11) (g' := (mkF m 148 #[.val (.long p0), .second, .val (.int p1), .val (.int v1), .val (.ref b2), .val (.ref b4)] [])) (fun t k => XS.icmpNo Xj11.here hx rfl (hb hby at_145) rfl (tlt hc145_20).2.2.2 k) ?_
                  refine own_step (T' := Tj11) (g' := (mkF m 150 #[.val (.long p0), .second, .val (.int p1), .val (.int v1), .val (.ref b2), .val (.ref b4)] [(.ref b2)])) (fun t k => XS.aload Xj11.here hx rfl (hb hby at_148) rfl rfl k) ?_
                  refine own_step (T' := Tj11) (g' := (mkF m 152 #[.val (.long p0), .second, .val (.int p1), .val (.int v1), .val (.ref b2), .val (.ref b4)] [(.ref b4), (.ref b2)])) (fun t k => XS.aload Xj11.here hx rfl (hb hby at_150) rfl rfl k) ?_
                  refine own_step (T' := Tj11) (g' := (mkF m 153 #[.val (.long p0), .second, .val (.int p1), .val (.int v1), .val (.ref b2), .val (.ref b4)] [(.long p0), (.ref b4), (.ref b2)])) (fun t k => XS.lloadN Xj11.here hx rfl (hb hby at_152) rfl k) ?_
                  refine own_step (T' := Tj11) (g' := (mkF m 155 #[.val (.long p0), .second, .val (.int p1), .val (.int v1), .val (.ref b2), .val (.ref b4)] [(.int (7 : Int32)), (.long p0), (.ref b4), (.ref b2)])) (fun t k => XS.bipush Xj11.here hx rfl (hb hby at_153) k) ?_
                  obtain ⟨_, _, ⟨T21, L21, kk21, nn21⟩, -, X21, ⟨Lc21, hQ21, l21, y21, z21⟩, st21⟩ := Jvm.LawKit.callS Xj11 hx (y := (⟨"com/example/tilescript/tilescript/TicTacToeIsOverPinLaw", "cellOf", "(JI)I"⟩ : MethodName)) hown (mvT hZ (hw _ (List.mem_of_getElem? (i := 15) rfl))) (mvT hZ (hw _ (List.mem_of_getElem? (i := 16) rfl))) (mvT hZ (hw _ (List.mem_of_getElem? (i := 17) rfl))) (mvT hZ (hw _ (List.mem_of_getElem? (i := 18) rfl))) (by decide) (backOf (W := 2) (rm3 l Z a0 hw [] p0 (7 : Int32) Hj11 n0 (Nat.le_trans Z0 Kj11.1) ) hZ (hw _ (List.mem_of_getElem? (i := 18) rfl)) (hw _ (List.mem_of_getElem? (i := 17) rfl)) (by decide) (by decide)) (g := (mkF m 155 #[.val (.long p0), .second, .val (.int p1), .val (.int v1), .val (.ref b2), .val (.ref b4)] [(.int (7 : Int32)), (.long p0), (.ref b4), (.ref b2)])) rfl (by rw [hml]; rfl) (argsL := [(.long p0), (.int (7 : Int32))]) (rest := [(.ref b4), (.ref b2)]) (lenOf pd_1 rfl) rfl (by show 2 * 0 + _ ≤ _; exact Nat.le_of_eq rfl) (hb hby at_155) (fun _ _ => ⟨rfl, ej11, (by decide : 2 + 0 ≤ _), (by decide : 8 + 0 ≤ _)⟩)
                  dsimp only [Pt.U, Pt.locs, Pt.cells, Pt.slots] at X21 l21 y21 z21 st21 hQ21
                  subst l21 y21 z21
                  obtain ⟨rfl, N21q, eq21⟩ := hQ21
                  have N21 := Fr.app Nj11 N21q
                  refine own_step (T' := T21) (g' := (mkF m 158 #[.val (.long p0), .second, .val (.int p1), .val (.int v1), .val (.ref b2), .val (.ref b4)] [(.int (fnCell p0 (7 : Int32))), (.ref b4), (.ref b2)])) st21 ?_
                  obtain ⟨_, _, ⟨T22, L22, kk22, nn22⟩, -, X22, ⟨Lc22, hQ22, l22, y22, z22⟩, st22⟩ := Jvm.LawKit.callS X21 hx (y := (⟨"com/example/tilescript/tilescript/TicTacToeIsOverPinLaw", "step", "(Lcom/example/tilescript/tilescript/TicTacToe;[II)V"⟩ : MethodName)) hown (mvT hZ (hw _ (List.mem_of_getElem? (i := 20) rfl))) (mvT hZ (hw _ (List.mem_of_getElem? (i := 21) rfl))) (mvT hZ (hw _ (List.mem_of_getElem? (i := 17) rfl))) (mvT hZ (hw _ (List.mem_of_getElem? (i := 22) rfl))) (by decide) (backOf (W := 0) (rm4 l Z a0 hw [] b2 b4 (fnCell p0 (7 : Int32)) wx142 wo142 wm142 ww142 wl142 k4 aL kL Hj11 n0 (Nat.le_trans Z0 Kj11.1) fj11_2 fj11_5 fj11_6 fj11_7 fj11_4 fj11_3 g_b2 g_b4 fj11_8 fj11_0 fj11_1 ne_aL_b2 ne_aL_b4 ne_b2_b4 hI142 (own_cell _ _)) hZ (hw _ (List.mem_of_getElem? (i := 22) rfl)) (hw _ (List.mem_of_getElem? (i := 17) rfl)) (by decide) (by decide)) (g := (mkF m 158 #[.val (.long p0), .second, .val (.int p1), .val (.int v1), .val (.ref b2), .val (.ref b4)] [(.int (fnCell p0 (7 : Int32))), (.ref b4), (.ref b2)])) rfl (by rw [hml]; rfl) (argsL := [(.ref b2), (.ref b4), (.int (fnCell p0 (7 : Int32)))]) (rest := []) (lenOf pd_2 rfl) rfl (by show 2 * 0 + _ ≤ _; exact Nat.le_of_eq rfl) (hb hby at_158) (fun _ _ => ⟨rfl, eq21, (by decide : 2 + 0 ≤ _), (by decide : 8 + 0 ≤ _)⟩)
                  dsimp only [Pt.U, Pt.locs, Pt.cells, Pt.slots] at X22 l22 y22 z22 st22 hQ22
                  subst l22 y22 z22
                  obtain ⟨x1_22, o1_22, m1_22, w1_22, l1_22, rfl, N22q, Kq22, pq22_0, pq22_1, pq22_2, pq22_3, pq22_4, pq22_5, pq22_6⟩ := hQ22
                  have N22 := Fr.app N21 N22q
                  have S_LINES_22 : Sta Z T22.heap "com/example/tilescript/tilescript/TicTacToe" "LINES" "[I" (.ref aL) := own_sta_keep fj11_0 Kq22 (allS fj11_2.nostat (allS fj11_8.nostat all0))
                  have V_aL_22 : Arv Z T22.heap aL kL .int (8 : Int32) [(.int (7 : Int32)), (.int (56 : Int32)), (.int (448 : Int32)), (.int (73 : Int32)), (.int (146 : Int32)), (.int (292 : Int32)), (.int (273 : Int32)), (.int (84 : Int32))] (.int (0 : Int32)) := fj11_1.keep Kq22 (ninS ne_aL_b2 (ninS ne_aL_b4 nin0))
                  have E_b2_22 : Exa Z T22.heap b2 "com/example/tilescript/tilescript/TicTacToe" := fj11_2.keep Kq22
                  have K_22 : Keep h0 T22.heap [] := Kj11.trans Kq22 (allS (Or.inr sz_b2) (allS (Or.inr sz_b4) all0))
                  refine own_step (T' := T22) (g' := (mkF m 161 #[.val (.long p0), .second, .val (.int p1), .val (.int v1), .val (.ref b2), .val (.ref b4)] [])) st22 ?_
                  exact J12 T22 _ T22.heap (x1_22) (o1_22) (m1_22) (w1_22) (l1_22) X22 rfl N22 K_22 S_LINES_22 V_aL_22 E_b2_22 pq22_4 pq22_3 pq22_0 pq22_1 pq22_2 pq22_5 pq22_6
                · refine own_step (T' := Tj11) (g' := (mkF m 161 #[.val (.long p0), .second, .val (.int p1), .val (.int v1), .val (.ref b2), .val (.ref b4)] [])) (fun t k => XS.icmpYes Xj11.here hx rfl (pc0 := 145) (pc' := 161) rfl (hb hby at_145) rfl (flt hc145_20).2.2.2 (by decide) (by decide) k) ?_
                  exact J12 Tj11 _ Hj11 (wx142) (wo142) (wm142) (ww142) (wl142) Xj11 ej11 Nj11 Kj11 fj11_0 fj11_1 fj11_2 fj11_3 fj11_4 fj11_5 fj11_6 fj11_7 fj11_8 hI142
              refine own_step (T' := Tj10) (g' := (mkF m 124 #[.val (.long p0), .second, .val (.int p1), .val (.int v1), .val (.ref b2), .val (.ref b4)] [(.int v1)])) (fun t k => XS.iloadN Xj10.here hx rfl (hb hby at_123) rfl k) ?_
              refine own_step (T' := Tj10) (g' := (mkF m 126 #[.val (.long p0), .second, .val (.int p1), .val (.int v1), .val (.ref b2), .val (.ref b4)] [(.int (6 : Int32)), (.int v1)])) (fun t k => XS.bipush Xj10.here hx rfl (hb hby at_124) k) ?_
              by_cases hc126_23 : (6 : Int32) < v1
              · refine own_step (T' := Tj10) (g' := (mkF m 129 #[.val (.long p0), .second, .val (.int p1), .val (.int v1), .val (.ref b2), .val (.ref b4)] [])) (fun t k => XS.icmpNo Xj10.here hx rfl (hb hby at_126) rfl (tlt hc126_23).2.2.2 k) ?_
                refine own_step (T' := Tj10) (g' := (mkF m 131 #[.val (.long p0), .second, .val (.int p1), .val (.int v1), .val (.ref b2), .val (.ref b4)] [(.ref b2)])) (fun t k => XS.aload Xj10.here hx rfl (hb hby at_129) rfl rfl k) ?_
                refine own_step (T' := Tj10) (g' := (mkF m 133 #[.val (.long p0), .second, .val (.int p1), .val (.int v1), .val (.ref b2), .val (.ref b4)] [(.ref b4), (.ref b2)])) (fun t k => XS.aload Xj10.here hx rfl (hb hby at_131) rfl rfl k) ?_
                refine own_step (T' := Tj10) (g' := (mkF m 134 #[.val (.long p0), .second, .val (.int p1), .val (.int v1), .val (.ref b2), .val (.ref b4)] [(.long p0), (.ref b4), (.ref b2)])) (fun t k => XS.lloadN Xj10.here hx rfl (hb hby at_133) rfl k) ?_
                refine own_step (T' := Tj10) (g' := (mkF m 136 #[.val (.long p0), .second, .val (.int p1), .val (.int v1), .val (.ref b2), .val (.ref b4)] [(.int (6 : Int32)), (.long p0), (.ref b4), (.ref b2)])) (fun t k => XS.bipush Xj10.here hx rfl (hb hby at_134) k) ?_
                obtain ⟨_, _, ⟨T24, L24, kk24, nn24⟩, -, X24, ⟨Lc24, hQ24, l24, y24, z24⟩, st24⟩ := Jvm.LawKit.callS Xj10 hx (y := (⟨"com/example/tilescript/tilescript/TicTacToeIsOverPinLaw", "cellOf", "(JI)I"⟩ : MethodName)) hown (mvT hZ (hw _ (List.mem_of_getElem? (i := 15) rfl))) (mvT hZ (hw _ (List.mem_of_getElem? (i := 16) rfl))) (mvT hZ (hw _ (List.mem_of_getElem? (i := 17) rfl))) (mvT hZ (hw _ (List.mem_of_getElem? (i := 18) rfl))) (by decide) (backOf (W := 2) (rm3 l Z a0 hw [] p0 (6 : Int32) Hj10 n0 (Nat.le_trans Z0 Kj10.1) ) hZ (hw _ (List.mem_of_getElem? (i := 18) rfl)) (hw _ (List.mem_of_getElem? (i := 17) rfl)) (by decide) (by decide)) (g := (mkF m 136 #[.val (.long p0), .second, .val (.int p1), .val (.int v1), .val (.ref b2), .val (.ref b4)] [(.int (6 : Int32)), (.long p0), (.ref b4), (.ref b2)])) rfl (by rw [hml]; rfl) (argsL := [(.long p0), (.int (6 : Int32))]) (rest := [(.ref b4), (.ref b2)]) (lenOf pd_1 rfl) rfl (by show 2 * 0 + _ ≤ _; exact Nat.le_of_eq rfl) (hb hby at_136) (fun _ _ => ⟨rfl, ej10, (by decide : 2 + 0 ≤ _), (by decide : 8 + 0 ≤ _)⟩)
                dsimp only [Pt.U, Pt.locs, Pt.cells, Pt.slots] at X24 l24 y24 z24 st24 hQ24
                subst l24 y24 z24
                obtain ⟨rfl, N24q, eq24⟩ := hQ24
                have N24 := Fr.app Nj10 N24q
                refine own_step (T' := T24) (g' := (mkF m 139 #[.val (.long p0), .second, .val (.int p1), .val (.int v1), .val (.ref b2), .val (.ref b4)] [(.int (fnCell p0 (6 : Int32))), (.ref b4), (.ref b2)])) st24 ?_
                obtain ⟨_, _, ⟨T25, L25, kk25, nn25⟩, -, X25, ⟨Lc25, hQ25, l25, y25, z25⟩, st25⟩ := Jvm.LawKit.callS X24 hx (y := (⟨"com/example/tilescript/tilescript/TicTacToeIsOverPinLaw", "step", "(Lcom/example/tilescript/tilescript/TicTacToe;[II)V"⟩ : MethodName)) hown (mvT hZ (hw _ (List.mem_of_getElem? (i := 20) rfl))) (mvT hZ (hw _ (List.mem_of_getElem? (i := 21) rfl))) (mvT hZ (hw _ (List.mem_of_getElem? (i := 17) rfl))) (mvT hZ (hw _ (List.mem_of_getElem? (i := 22) rfl))) (by decide) (backOf (W := 0) (rm4 l Z a0 hw [] b2 b4 (fnCell p0 (6 : Int32)) wx123 wo123 wm123 ww123 wl123 k4 aL kL Hj10 n0 (Nat.le_trans Z0 Kj10.1) fj10_2 fj10_5 fj10_6 fj10_7 fj10_4 fj10_3 g_b2 g_b4 fj10_8 fj10_0 fj10_1 ne_aL_b2 ne_aL_b4 ne_b2_b4 hI123 (own_cell _ _)) hZ (hw _ (List.mem_of_getElem? (i := 22) rfl)) (hw _ (List.mem_of_getElem? (i := 17) rfl)) (by decide) (by decide)) (g := (mkF m 139 #[.val (.long p0), .second, .val (.int p1), .val (.int v1), .val (.ref b2), .val (.ref b4)] [(.int (fnCell p0 (6 : Int32))), (.ref b4), (.ref b2)])) rfl (by rw [hml]; rfl) (argsL := [(.ref b2), (.ref b4), (.int (fnCell p0 (6 : Int32)))]) (rest := []) (lenOf pd_2 rfl) rfl (by show 2 * 0 + _ ≤ _; exact Nat.le_of_eq rfl) (hb hby at_139) (fun _ _ => ⟨rfl, eq24, (by decide : 2 + 0 ≤ _), (by decide : 8 + 0 ≤ _)⟩)
                dsimp only [Pt.U, Pt.locs, Pt.cells, Pt.slots] at X25 l25 y25 z25 st25 hQ25
                subst l25 y25 z25
                obtain ⟨x1_25, o1_25, m1_25, w1_25, l1_25, rfl, N25q, Kq25, pq25_0, pq25_1, pq25_2, pq25_3, pq25_4, pq25_5, pq25_6⟩ := hQ25
                have N25 := Fr.app N24 N25q
                have S_LINES_25 : Sta Z T25.heap "com/example/tilescript/tilescript/TicTacToe" "LINES" "[I" (.ref aL) := own_sta_keep fj10_0 Kq25 (allS fj10_2.nostat (allS fj10_8.nostat all0))
                have V_aL_25 : Arv Z T25.heap aL kL .int (8 : Int32) [(.int (7 : Int32)), (.int (56 : Int32)), (.int (448 : Int32)), (.int (73 : Int32)), (.int (146 : Int32)), (.int (292 : Int32)), (.int (273 : Int32)), (.int (84 : Int32))] (.int (0 : Int32)) := fj10_1.keep Kq25 (ninS ne_aL_b2 (ninS ne_aL_b4 nin0))
                have E_b2_25 : Exa Z T25.heap b2 "com/example/tilescript/tilescript/TicTacToe" := fj10_2.keep Kq25
                have K_25 : Keep h0 T25.heap [] := Kj10.trans Kq25 (allS (Or.inr sz_b2) (allS (Or.inr sz_b4) all0))
                refine own_step (T' := T25) (g' := (mkF m 142 #[.val (.long p0), .second, .val (.int p1), .val (.int v1), .val (.ref b2), .val (.ref b4)] [])) st25 ?_
                exact J11 T25 _ T25.heap (x1_25) (o1_25) (m1_25) (w1_25) (l1_25) X25 rfl N25 K_25 S_LINES_25 V_aL_25 E_b2_25 pq25_4 pq25_3 pq25_0 pq25_1 pq25_2 pq25_5 pq25_6
              · refine own_step (T' := Tj10) (g' := (mkF m 142 #[.val (.long p0), .second, .val (.int p1), .val (.int v1), .val (.ref b2), .val (.ref b4)] [])) (fun t k => XS.icmpYes Xj10.here hx rfl (pc0 := 126) (pc' := 142) rfl (hb hby at_126) rfl (flt hc126_23).2.2.2 (by decide) (by decide) k) ?_
                exact J11 Tj10 _ Hj10 (wx123) (wo123) (wm123) (ww123) (wl123) Xj10 ej10 Nj10 Kj10 fj10_0 fj10_1 fj10_2 fj10_3 fj10_4 fj10_5 fj10_6 fj10_7 fj10_8 hI123
            refine own_step (T' := Tj9) (g' := (mkF m 107 #[.val (.long p0), .second, .val (.int p1), .val (.int v1), .val (.ref b2), .val (.ref b4)] [(.int v1)])) (fun t k => XS.iloadN Xj9.here hx rfl (hb hby at_106) rfl k) ?_
            refine own_step (T' := Tj9) (g' := (mkF m 108 #[.val (.long p0), .second, .val (.int p1), .val (.int v1), .val (.ref b2), .val (.ref b4)] [(.int (5 : Int32)), (.int v1)])) (fun t k => XS.iconst Xj9.here hx rfl (hb hby at_107) k) ?_
            by_cases hc108_26 : (5 : Int32) < v1
            · refine own_step (T' := Tj9) (g' := (mkF m 111 #[.val (.long p0), .second, .val (.int p1), .val (.int v1), .val (.ref b2), .val (.ref b4)] [])) (fun t k => XS.icmpNo Xj9.here hx rfl (hb hby at_108) rfl (tlt hc108_26).2.2.2 k) ?_
              refine own_step (T' := Tj9) (g' := (mkF m 113 #[.val (.long p0), .second, .val (.int p1), .val (.int v1), .val (.ref b2), .val (.ref b4)] [(.ref b2)])) (fun t k => XS.aload Xj9.here hx rfl (hb hby at_111) rfl rfl k) ?_
              refine own_step (T' := Tj9) (g' := (mkF m 115 #[.val (.long p0), .second, .val (.int p1), .val (.int v1), .val (.ref b2), .val (.ref b4)] [(.ref b4), (.ref b2)])) (fun t k => XS.aload Xj9.here hx rfl (hb hby at_113) rfl rfl k) ?_
              refine own_step (T' := Tj9) (g' := (mkF m 116 #[.val (.long p0), .second, .val (.int p1), .val (.int v1), .val (.ref b2), .val (.ref b4)] [(.long p0), (.ref b4), (.ref b2)])) (fun t k => XS.lloadN Xj9.here hx rfl (hb hby at_115) rfl k) ?_
              refine own_step (T' := Tj9) (g' := (mkF m 117 #[.val (.long p0), .second, .val (.int p1), .val (.int v1), .val (.ref b2), .val (.ref b4)] [(.int (5 : Int32)), (.long p0), (.ref b4), (.ref b2)])) (fun t k => XS.iconst Xj9.here hx rfl (hb hby at_116) k) ?_
              obtain ⟨_, _, ⟨T27, L27, kk27, nn27⟩, -, X27, ⟨Lc27, hQ27, l27, y27, z27⟩, st27⟩ := Jvm.LawKit.callS Xj9 hx (y := (⟨"com/example/tilescript/tilescript/TicTacToeIsOverPinLaw", "cellOf", "(JI)I"⟩ : MethodName)) hown (mvT hZ (hw _ (List.mem_of_getElem? (i := 15) rfl))) (mvT hZ (hw _ (List.mem_of_getElem? (i := 16) rfl))) (mvT hZ (hw _ (List.mem_of_getElem? (i := 17) rfl))) (mvT hZ (hw _ (List.mem_of_getElem? (i := 18) rfl))) (by decide) (backOf (W := 2) (rm3 l Z a0 hw [] p0 (5 : Int32) Hj9 n0 (Nat.le_trans Z0 Kj9.1) ) hZ (hw _ (List.mem_of_getElem? (i := 18) rfl)) (hw _ (List.mem_of_getElem? (i := 17) rfl)) (by decide) (by decide)) (g := (mkF m 117 #[.val (.long p0), .second, .val (.int p1), .val (.int v1), .val (.ref b2), .val (.ref b4)] [(.int (5 : Int32)), (.long p0), (.ref b4), (.ref b2)])) rfl (by rw [hml]; rfl) (argsL := [(.long p0), (.int (5 : Int32))]) (rest := [(.ref b4), (.ref b2)]) (lenOf pd_1 rfl) rfl (by show 2 * 0 + _ ≤ _; exact Nat.le_of_eq rfl) (hb hby at_117) (fun _ _ => ⟨rfl, ej9, (by decide : 2 + 0 ≤ _), (by decide : 8 + 0 ≤ _)⟩)
              dsimp only [Pt.U, Pt.locs, Pt.cells, Pt.slots] at X27 l27 y27 z27 st27 hQ27
              subst l27 y27 z27
              obtain ⟨rfl, N27q, eq27⟩ := hQ27
              have N27 := Fr.app Nj9 N27q
              refine own_step (T' := T27) (g' := (mkF m 120 #[.val (.long p0), .second, .val (.int p1), .val (.int v1), .val (.ref b2), .val (.ref b4)] [(.int (fnCell p0 (5 : Int32))), (.ref b4), (.ref b2)])) st27 ?_
              obtain ⟨_, _, ⟨T28, L28, kk28, nn28⟩, -, X28, ⟨Lc28, hQ28, l28, y28, z28⟩, st28⟩ := Jvm.LawKit.callS X27 hx (y := (⟨"com/example/tilescript/tilescript/TicTacToeIsOverPinLaw", "step", "(Lcom/example/tilescript/tilescript/TicTacToe;[II)V"⟩ : MethodName)) hown (mvT hZ (hw _ (List.mem_of_getElem? (i := 20) rfl))) (mvT hZ (hw _ (List.mem_of_getElem? (i := 21) rfl))) (mvT hZ (hw _ (List.mem_of_getElem? (i := 17) rfl))) (mvT hZ (hw _ (List.mem_of_getElem? (i := 22) rfl))) (by decide) (backOf (W := 0) (rm4 l Z a0 hw [] b2 b4 (fnCell p0 (5 : Int32)) wx106 wo106 wm106 ww106 wl106 k4 aL kL Hj9 n0 (Nat.le_trans Z0 Kj9.1) fj9_2 fj9_5 fj9_6 fj9_7 fj9_4 fj9_3 g_b2 g_b4 fj9_8 fj9_0 fj9_1 ne_aL_b2 ne_aL_b4 ne_b2_b4 hI106 (own_cell _ _)) hZ (hw _ (List.mem_of_getElem? (i := 22) rfl)) (hw _ (List.mem_of_getElem? (i := 17) rfl)) (by decide) (by decide)) (g := (mkF m 120 #[.val (.long p0), .second, .val (.int p1), .val (.int v1), .val (.ref b2), .val (.ref b4)] [(.int (fnCell p0 (5 : Int32))), (.ref b4), (.ref b2)])) rfl (by rw [hml]; rfl) (argsL := [(.ref b2), (.ref b4), (.int (fnCell p0 (5 : Int32)))]) (rest := []) (lenOf pd_2 rfl) rfl (by show 2 * 0 + _ ≤ _; exact Nat.le_of_eq rfl) (hb hby at_120) (fun _ _ => ⟨rfl, eq27, (by decide : 2 + 0 ≤ _), (by decide : 8 + 0 ≤ _)⟩)
              dsimp only [Pt.U, Pt.locs, Pt.cells, Pt.slots] at X28 l28 y28 z28 st28 hQ28
              subst l28 y28 z28
              obtain ⟨x1_28, o1_28, m1_28, w1_28, l1_28, rfl, N28q, Kq28, pq28_0, pq28_1, pq28_2, pq28_3, pq28_4, pq28_5, pq28_6⟩ := hQ28
              have N28 := Fr.app N27 N28q
              have S_LINES_28 : Sta Z T28.heap "com/example/tilescript/tilescript/TicTacToe" "LINES" "[I" (.ref aL) := own_sta_keep fj9_0 Kq28 (allS fj9_2.nostat (allS fj9_8.nostat all0))
              have V_aL_28 : Arv Z T28.heap aL kL .int (8 : Int32) [(.int (7 : Int32)), (.int (56 : Int32)), (.int (448 : Int32)), (.int (73 : Int32)), (.int (146 : Int32)), (.int (292 : Int32)), (.int (273 : Int32)), (.int (84 : Int32))] (.int (0 : Int32)) := fj9_1.keep Kq28 (ninS ne_aL_b2 (ninS ne_aL_b4 nin0))
              have E_b2_28 : Exa Z T28.heap b2 "com/example/tilescript/tilescript/TicTacToe" := fj9_2.keep Kq28
              have K_28 : Keep h0 T28.heap [] := Kj9.trans Kq28 (allS (Or.inr sz_b2) (allS (Or.inr sz_b4) all0))
              refine own_step (T' := T28) (g' := (mkF m 123 #[.val (.long p0), .second, .val (.int p1), .val (.int v1), .val (.ref b2), .val (.ref b4)] [])) st28 ?_
              exact J10 T28 _ T28.heap (x1_28) (o1_28) (m1_28) (w1_28) (l1_28) X28 rfl N28 K_28 S_LINES_28 V_aL_28 E_b2_28 pq28_4 pq28_3 pq28_0 pq28_1 pq28_2 pq28_5 pq28_6
            · refine own_step (T' := Tj9) (g' := (mkF m 123 #[.val (.long p0), .second, .val (.int p1), .val (.int v1), .val (.ref b2), .val (.ref b4)] [])) (fun t k => XS.icmpYes Xj9.here hx rfl (pc0 := 108) (pc' := 123) rfl (hb hby at_108) rfl (flt hc108_26).2.2.2 (by decide) (by decide) k) ?_
              exact J10 Tj9 _ Hj9 (wx106) (wo106) (wm106) (ww106) (wl106) Xj9 ej9 Nj9 Kj9 fj9_0 fj9_1 fj9_2 fj9_3 fj9_4 fj9_5 fj9_6 fj9_7 fj9_8 hI106
          refine own_step (T' := Tj8) (g' := (mkF m 90 #[.val (.long p0), .second, .val (.int p1), .val (.int v1), .val (.ref b2), .val (.ref b4)] [(.int v1)])) (fun t k => XS.iloadN Xj8.here hx rfl (hb hby at_89) rfl k) ?_
          refine own_step (T' := Tj8) (g' := (mkF m 91 #[.val (.long p0), .second, .val (.int p1), .val (.int v1), .val (.ref b2), .val (.ref b4)] [(.int (4 : Int32)), (.int v1)])) (fun t k => XS.iconst Xj8.here hx rfl (hb hby at_90) k) ?_
          by_cases hc91_29 : (4 : Int32) < v1
          · refine own_step (T' := Tj8) (g' := (mkF m 94 #[.val (.long p0), .second, .val (.int p1), .val (.int v1), .val (.ref b2), .val (.ref b4)] [])) (fun t k => XS.icmpNo Xj8.here hx rfl (hb hby at_91) rfl (tlt hc91_29).2.2.2 k) ?_
            refine own_step (T' := Tj8) (g' := (mkF m 96 #[.val (.long p0), .second, .val (.int p1), .val (.int v1), .val (.ref b2), .val (.ref b4)] [(.ref b2)])) (fun t k => XS.aload Xj8.here hx rfl (hb hby at_94) rfl rfl k) ?_
            refine own_step (T' := Tj8) (g' := (mkF m 98 #[.val (.long p0), .second, .val (.int p1), .val (.int v1), .val (.ref b2), .val (.ref b4)] [(.ref b4), (.ref b2)])) (fun t k => XS.aload Xj8.here hx rfl (hb hby at_96) rfl rfl k) ?_
            refine own_step (T' := Tj8) (g' := (mkF m 99 #[.val (.long p0), .second, .val (.int p1), .val (.int v1), .val (.ref b2), .val (.ref b4)] [(.long p0), (.ref b4), (.ref b2)])) (fun t k => XS.lloadN Xj8.here hx rfl (hb hby at_98) rfl k) ?_
            refine own_step (T' := Tj8) (g' := (mkF m 100 #[.val (.long p0), .second, .val (.int p1), .val (.int v1), .val (.ref b2), .val (.ref b4)] [(.int (4 : Int32)), (.long p0), (.ref b4), (.ref b2)])) (fun t k => XS.iconst Xj8.here hx rfl (hb hby at_99) k) ?_
            obtain ⟨_, _, ⟨T30, L30, kk30, nn30⟩, -, X30, ⟨Lc30, hQ30, l30, y30, z30⟩, st30⟩ := Jvm.LawKit.callS Xj8 hx (y := (⟨"com/example/tilescript/tilescript/TicTacToeIsOverPinLaw", "cellOf", "(JI)I"⟩ : MethodName)) hown (mvT hZ (hw _ (List.mem_of_getElem? (i := 15) rfl))) (mvT hZ (hw _ (List.mem_of_getElem? (i := 16) rfl))) (mvT hZ (hw _ (List.mem_of_getElem? (i := 17) rfl))) (mvT hZ (hw _ (List.mem_of_getElem? (i := 18) rfl))) (by decide) (backOf (W := 2) (rm3 l Z a0 hw [] p0 (4 : Int32) Hj8 n0 (Nat.le_trans Z0 Kj8.1) ) hZ (hw _ (List.mem_of_getElem? (i := 18) rfl)) (hw _ (List.mem_of_getElem? (i := 17) rfl)) (by decide) (by decide)) (g := (mkF m 100 #[.val (.long p0), .second, .val (.int p1), .val (.int v1), .val (.ref b2), .val (.ref b4)] [(.int (4 : Int32)), (.long p0), (.ref b4), (.ref b2)])) rfl (by rw [hml]; rfl) (argsL := [(.long p0), (.int (4 : Int32))]) (rest := [(.ref b4), (.ref b2)]) (lenOf pd_1 rfl) rfl (by show 2 * 0 + _ ≤ _; exact Nat.le_of_eq rfl) (hb hby at_100) (fun _ _ => ⟨rfl, ej8, (by decide : 2 + 0 ≤ _), (by decide : 8 + 0 ≤ _)⟩)
            dsimp only [Pt.U, Pt.locs, Pt.cells, Pt.slots] at X30 l30 y30 z30 st30 hQ30
            subst l30 y30 z30
            obtain ⟨rfl, N30q, eq30⟩ := hQ30
            have N30 := Fr.app Nj8 N30q
            refine own_step (T' := T30) (g' := (mkF m 103 #[.val (.long p0), .second, .val (.int p1), .val (.int v1), .val (.ref b2), .val (.ref b4)] [(.int (fnCell p0 (4 : Int32))), (.ref b4), (.ref b2)])) st30 ?_
            obtain ⟨_, _, ⟨T31, L31, kk31, nn31⟩, -, X31, ⟨Lc31, hQ31, l31, y31, z31⟩, st31⟩ := Jvm.LawKit.callS X30 hx (y := (⟨"com/example/tilescript/tilescript/TicTacToeIsOverPinLaw", "step", "(Lcom/example/tilescript/tilescript/TicTacToe;[II)V"⟩ : MethodName)) hown (mvT hZ (hw _ (List.mem_of_getElem? (i := 20) rfl))) (mvT hZ (hw _ (List.mem_of_getElem? (i := 21) rfl))) (mvT hZ (hw _ (List.mem_of_getElem? (i := 17) rfl))) (mvT hZ (hw _ (List.mem_of_getElem? (i := 22) rfl))) (by decide) (backOf (W := 0) (rm4 l Z a0 hw [] b2 b4 (fnCell p0 (4 : Int32)) wx89 wo89 wm89 ww89 wl89 k4 aL kL Hj8 n0 (Nat.le_trans Z0 Kj8.1) fj8_2 fj8_5 fj8_6 fj8_7 fj8_4 fj8_3 g_b2 g_b4 fj8_8 fj8_0 fj8_1 ne_aL_b2 ne_aL_b4 ne_b2_b4 hI89 (own_cell _ _)) hZ (hw _ (List.mem_of_getElem? (i := 22) rfl)) (hw _ (List.mem_of_getElem? (i := 17) rfl)) (by decide) (by decide)) (g := (mkF m 103 #[.val (.long p0), .second, .val (.int p1), .val (.int v1), .val (.ref b2), .val (.ref b4)] [(.int (fnCell p0 (4 : Int32))), (.ref b4), (.ref b2)])) rfl (by rw [hml]; rfl) (argsL := [(.ref b2), (.ref b4), (.int (fnCell p0 (4 : Int32)))]) (rest := []) (lenOf pd_2 rfl) rfl (by show 2 * 0 + _ ≤ _; exact Nat.le_of_eq rfl) (hb hby at_103) (fun _ _ => ⟨rfl, eq30, (by decide : 2 + 0 ≤ _), (by decide : 8 + 0 ≤ _)⟩)
            dsimp only [Pt.U, Pt.locs, Pt.cells, Pt.slots] at X31 l31 y31 z31 st31 hQ31
            subst l31 y31 z31
            obtain ⟨x1_31, o1_31, m1_31, w1_31, l1_31, rfl, N31q, Kq31, pq31_0, pq31_1, pq31_2, pq31_3, pq31_4, pq31_5, pq31_6⟩ := hQ31
            have N31 := Fr.app N30 N31q
            have S_LINES_31 : Sta Z T31.heap "com/example/tilescript/tilescript/TicTacToe" "LINES" "[I" (.ref aL) := own_sta_keep fj8_0 Kq31 (allS fj8_2.nostat (allS fj8_8.nostat all0))
            have V_aL_31 : Arv Z T31.heap aL kL .int (8 : Int32) [(.int (7 : Int32)), (.int (56 : Int32)), (.int (448 : Int32)), (.int (73 : Int32)), (.int (146 : Int32)), (.int (292 : Int32)), (.int (273 : Int32)), (.int (84 : Int32))] (.int (0 : Int32)) := fj8_1.keep Kq31 (ninS ne_aL_b2 (ninS ne_aL_b4 nin0))
            have E_b2_31 : Exa Z T31.heap b2 "com/example/tilescript/tilescript/TicTacToe" := fj8_2.keep Kq31
            have K_31 : Keep h0 T31.heap [] := Kj8.trans Kq31 (allS (Or.inr sz_b2) (allS (Or.inr sz_b4) all0))
            refine own_step (T' := T31) (g' := (mkF m 106 #[.val (.long p0), .second, .val (.int p1), .val (.int v1), .val (.ref b2), .val (.ref b4)] [])) st31 ?_
            exact J9 T31 _ T31.heap (x1_31) (o1_31) (m1_31) (w1_31) (l1_31) X31 rfl N31 K_31 S_LINES_31 V_aL_31 E_b2_31 pq31_4 pq31_3 pq31_0 pq31_1 pq31_2 pq31_5 pq31_6
          · refine own_step (T' := Tj8) (g' := (mkF m 106 #[.val (.long p0), .second, .val (.int p1), .val (.int v1), .val (.ref b2), .val (.ref b4)] [])) (fun t k => XS.icmpYes Xj8.here hx rfl (pc0 := 91) (pc' := 106) rfl (hb hby at_91) rfl (flt hc91_29).2.2.2 (by decide) (by decide) k) ?_
            exact J9 Tj8 _ Hj8 (wx89) (wo89) (wm89) (ww89) (wl89) Xj8 ej8 Nj8 Kj8 fj8_0 fj8_1 fj8_2 fj8_3 fj8_4 fj8_5 fj8_6 fj8_7 fj8_8 hI89
        refine own_step (T' := Tj7) (g' := (mkF m 73 #[.val (.long p0), .second, .val (.int p1), .val (.int v1), .val (.ref b2), .val (.ref b4)] [(.int v1)])) (fun t k => XS.iloadN Xj7.here hx rfl (hb hby at_72) rfl k) ?_
        refine own_step (T' := Tj7) (g' := (mkF m 74 #[.val (.long p0), .second, .val (.int p1), .val (.int v1), .val (.ref b2), .val (.ref b4)] [(.int (3 : Int32)), (.int v1)])) (fun t k => XS.iconst Xj7.here hx rfl (hb hby at_73) k) ?_
        by_cases hc74_32 : (3 : Int32) < v1
        · refine own_step (T' := Tj7) (g' := (mkF m 77 #[.val (.long p0), .second, .val (.int p1), .val (.int v1), .val (.ref b2), .val (.ref b4)] [])) (fun t k => XS.icmpNo Xj7.here hx rfl (hb hby at_74) rfl (tlt hc74_32).2.2.2 k) ?_
          refine own_step (T' := Tj7) (g' := (mkF m 79 #[.val (.long p0), .second, .val (.int p1), .val (.int v1), .val (.ref b2), .val (.ref b4)] [(.ref b2)])) (fun t k => XS.aload Xj7.here hx rfl (hb hby at_77) rfl rfl k) ?_
          refine own_step (T' := Tj7) (g' := (mkF m 81 #[.val (.long p0), .second, .val (.int p1), .val (.int v1), .val (.ref b2), .val (.ref b4)] [(.ref b4), (.ref b2)])) (fun t k => XS.aload Xj7.here hx rfl (hb hby at_79) rfl rfl k) ?_
          refine own_step (T' := Tj7) (g' := (mkF m 82 #[.val (.long p0), .second, .val (.int p1), .val (.int v1), .val (.ref b2), .val (.ref b4)] [(.long p0), (.ref b4), (.ref b2)])) (fun t k => XS.lloadN Xj7.here hx rfl (hb hby at_81) rfl k) ?_
          refine own_step (T' := Tj7) (g' := (mkF m 83 #[.val (.long p0), .second, .val (.int p1), .val (.int v1), .val (.ref b2), .val (.ref b4)] [(.int (3 : Int32)), (.long p0), (.ref b4), (.ref b2)])) (fun t k => XS.iconst Xj7.here hx rfl (hb hby at_82) k) ?_
          obtain ⟨_, _, ⟨T33, L33, kk33, nn33⟩, -, X33, ⟨Lc33, hQ33, l33, y33, z33⟩, st33⟩ := Jvm.LawKit.callS Xj7 hx (y := (⟨"com/example/tilescript/tilescript/TicTacToeIsOverPinLaw", "cellOf", "(JI)I"⟩ : MethodName)) hown (mvT hZ (hw _ (List.mem_of_getElem? (i := 15) rfl))) (mvT hZ (hw _ (List.mem_of_getElem? (i := 16) rfl))) (mvT hZ (hw _ (List.mem_of_getElem? (i := 17) rfl))) (mvT hZ (hw _ (List.mem_of_getElem? (i := 18) rfl))) (by decide) (backOf (W := 2) (rm3 l Z a0 hw [] p0 (3 : Int32) Hj7 n0 (Nat.le_trans Z0 Kj7.1) ) hZ (hw _ (List.mem_of_getElem? (i := 18) rfl)) (hw _ (List.mem_of_getElem? (i := 17) rfl)) (by decide) (by decide)) (g := (mkF m 83 #[.val (.long p0), .second, .val (.int p1), .val (.int v1), .val (.ref b2), .val (.ref b4)] [(.int (3 : Int32)), (.long p0), (.ref b4), (.ref b2)])) rfl (by rw [hml]; rfl) (argsL := [(.long p0), (.int (3 : Int32))]) (rest := [(.ref b4), (.ref b2)]) (lenOf pd_1 rfl) rfl (by show 2 * 0 + _ ≤ _; exact Nat.le_of_eq rfl) (hb hby at_83) (fun _ _ => ⟨rfl, ej7, (by decide : 2 + 0 ≤ _), (by decide : 8 + 0 ≤ _)⟩)
          dsimp only [Pt.U, Pt.locs, Pt.cells, Pt.slots] at X33 l33 y33 z33 st33 hQ33
          subst l33 y33 z33
          obtain ⟨rfl, N33q, eq33⟩ := hQ33
          have N33 := Fr.app Nj7 N33q
          refine own_step (T' := T33) (g' := (mkF m 86 #[.val (.long p0), .second, .val (.int p1), .val (.int v1), .val (.ref b2), .val (.ref b4)] [(.int (fnCell p0 (3 : Int32))), (.ref b4), (.ref b2)])) st33 ?_
          obtain ⟨_, _, ⟨T34, L34, kk34, nn34⟩, -, X34, ⟨Lc34, hQ34, l34, y34, z34⟩, st34⟩ := Jvm.LawKit.callS X33 hx (y := (⟨"com/example/tilescript/tilescript/TicTacToeIsOverPinLaw", "step", "(Lcom/example/tilescript/tilescript/TicTacToe;[II)V"⟩ : MethodName)) hown (mvT hZ (hw _ (List.mem_of_getElem? (i := 20) rfl))) (mvT hZ (hw _ (List.mem_of_getElem? (i := 21) rfl))) (mvT hZ (hw _ (List.mem_of_getElem? (i := 17) rfl))) (mvT hZ (hw _ (List.mem_of_getElem? (i := 22) rfl))) (by decide) (backOf (W := 0) (rm4 l Z a0 hw [] b2 b4 (fnCell p0 (3 : Int32)) wx72 wo72 wm72 ww72 wl72 k4 aL kL Hj7 n0 (Nat.le_trans Z0 Kj7.1) fj7_2 fj7_5 fj7_6 fj7_7 fj7_4 fj7_3 g_b2 g_b4 fj7_8 fj7_0 fj7_1 ne_aL_b2 ne_aL_b4 ne_b2_b4 hI72 (own_cell _ _)) hZ (hw _ (List.mem_of_getElem? (i := 22) rfl)) (hw _ (List.mem_of_getElem? (i := 17) rfl)) (by decide) (by decide)) (g := (mkF m 86 #[.val (.long p0), .second, .val (.int p1), .val (.int v1), .val (.ref b2), .val (.ref b4)] [(.int (fnCell p0 (3 : Int32))), (.ref b4), (.ref b2)])) rfl (by rw [hml]; rfl) (argsL := [(.ref b2), (.ref b4), (.int (fnCell p0 (3 : Int32)))]) (rest := []) (lenOf pd_2 rfl) rfl (by show 2 * 0 + _ ≤ _; exact Nat.le_of_eq rfl) (hb hby at_86) (fun _ _ => ⟨rfl, eq33, (by decide : 2 + 0 ≤ _), (by decide : 8 + 0 ≤ _)⟩)
          dsimp only [Pt.U, Pt.locs, Pt.cells, Pt.slots] at X34 l34 y34 z34 st34 hQ34
          subst l34 y34 z34
          obtain ⟨x1_34, o1_34, m1_34, w1_34, l1_34, rfl, N34q, Kq34, pq34_0, pq34_1, pq34_2, pq34_3, pq34_4, pq34_5, pq34_6⟩ := hQ34
          have N34 := Fr.app N33 N34q
          have S_LINES_34 : Sta Z T34.heap "com/example/tilescript/tilescript/TicTacToe" "LINES" "[I" (.ref aL) := own_sta_keep fj7_0 Kq34 (allS fj7_2.nostat (allS fj7_8.nostat all0))
          have V_aL_34 : Arv Z T34.heap aL kL .int (8 : Int32) [(.int (7 : Int32)), (.int (56 : Int32)), (.int (448 : Int32)), (.int (73 : Int32)), (.int (146 : Int32)), (.int (292 : Int32)), (.int (273 : Int32)), (.int (84 : Int32))] (.int (0 : Int32)) := fj7_1.keep Kq34 (ninS ne_aL_b2 (ninS ne_aL_b4 nin0))
          have E_b2_34 : Exa Z T34.heap b2 "com/example/tilescript/tilescript/TicTacToe" := fj7_2.keep Kq34
          have K_34 : Keep h0 T34.heap [] := Kj7.trans Kq34 (allS (Or.inr sz_b2) (allS (Or.inr sz_b4) all0))
          refine own_step (T' := T34) (g' := (mkF m 89 #[.val (.long p0), .second, .val (.int p1), .val (.int v1), .val (.ref b2), .val (.ref b4)] [])) st34 ?_
          exact J8 T34 _ T34.heap (x1_34) (o1_34) (m1_34) (w1_34) (l1_34) X34 rfl N34 K_34 S_LINES_34 V_aL_34 E_b2_34 pq34_4 pq34_3 pq34_0 pq34_1 pq34_2 pq34_5 pq34_6
        · refine own_step (T' := Tj7) (g' := (mkF m 89 #[.val (.long p0), .second, .val (.int p1), .val (.int v1), .val (.ref b2), .val (.ref b4)] [])) (fun t k => XS.icmpYes Xj7.here hx rfl (pc0 := 74) (pc' := 89) rfl (hb hby at_74) rfl (flt hc74_32).2.2.2 (by decide) (by decide) k) ?_
          exact J8 Tj7 _ Hj7 (wx72) (wo72) (wm72) (ww72) (wl72) Xj7 ej7 Nj7 Kj7 fj7_0 fj7_1 fj7_2 fj7_3 fj7_4 fj7_5 fj7_6 fj7_7 fj7_8 hI72
      refine own_step (T' := Tj6) (g' := (mkF m 56 #[.val (.long p0), .second, .val (.int p1), .val (.int v1), .val (.ref b2), .val (.ref b4)] [(.int v1)])) (fun t k => XS.iloadN Xj6.here hx rfl (hb hby at_55) rfl k) ?_
      refine own_step (T' := Tj6) (g' := (mkF m 57 #[.val (.long p0), .second, .val (.int p1), .val (.int v1), .val (.ref b2), .val (.ref b4)] [(.int (2 : Int32)), (.int v1)])) (fun t k => XS.iconst Xj6.here hx rfl (hb hby at_56) k) ?_
      by_cases hc57_35 : (2 : Int32) < v1
      · refine own_step (T' := Tj6) (g' := (mkF m 60 #[.val (.long p0), .second, .val (.int p1), .val (.int v1), .val (.ref b2), .val (.ref b4)] [])) (fun t k => XS.icmpNo Xj6.here hx rfl (hb hby at_57) rfl (tlt hc57_35).2.2.2 k) ?_
        refine own_step (T' := Tj6) (g' := (mkF m 62 #[.val (.long p0), .second, .val (.int p1), .val (.int v1), .val (.ref b2), .val (.ref b4)] [(.ref b2)])) (fun t k => XS.aload Xj6.here hx rfl (hb hby at_60) rfl rfl k) ?_
        refine own_step (T' := Tj6) (g' := (mkF m 64 #[.val (.long p0), .second, .val (.int p1), .val (.int v1), .val (.ref b2), .val (.ref b4)] [(.ref b4), (.ref b2)])) (fun t k => XS.aload Xj6.here hx rfl (hb hby at_62) rfl rfl k) ?_
        refine own_step (T' := Tj6) (g' := (mkF m 65 #[.val (.long p0), .second, .val (.int p1), .val (.int v1), .val (.ref b2), .val (.ref b4)] [(.long p0), (.ref b4), (.ref b2)])) (fun t k => XS.lloadN Xj6.here hx rfl (hb hby at_64) rfl k) ?_
        refine own_step (T' := Tj6) (g' := (mkF m 66 #[.val (.long p0), .second, .val (.int p1), .val (.int v1), .val (.ref b2), .val (.ref b4)] [(.int (2 : Int32)), (.long p0), (.ref b4), (.ref b2)])) (fun t k => XS.iconst Xj6.here hx rfl (hb hby at_65) k) ?_
        obtain ⟨_, _, ⟨T36, L36, kk36, nn36⟩, -, X36, ⟨Lc36, hQ36, l36, y36, z36⟩, st36⟩ := Jvm.LawKit.callS Xj6 hx (y := (⟨"com/example/tilescript/tilescript/TicTacToeIsOverPinLaw", "cellOf", "(JI)I"⟩ : MethodName)) hown (mvT hZ (hw _ (List.mem_of_getElem? (i := 15) rfl))) (mvT hZ (hw _ (List.mem_of_getElem? (i := 16) rfl))) (mvT hZ (hw _ (List.mem_of_getElem? (i := 17) rfl))) (mvT hZ (hw _ (List.mem_of_getElem? (i := 18) rfl))) (by decide) (backOf (W := 2) (rm3 l Z a0 hw [] p0 (2 : Int32) Hj6 n0 (Nat.le_trans Z0 Kj6.1) ) hZ (hw _ (List.mem_of_getElem? (i := 18) rfl)) (hw _ (List.mem_of_getElem? (i := 17) rfl)) (by decide) (by decide)) (g := (mkF m 66 #[.val (.long p0), .second, .val (.int p1), .val (.int v1), .val (.ref b2), .val (.ref b4)] [(.int (2 : Int32)), (.long p0), (.ref b4), (.ref b2)])) rfl (by rw [hml]; rfl) (argsL := [(.long p0), (.int (2 : Int32))]) (rest := [(.ref b4), (.ref b2)]) (lenOf pd_1 rfl) rfl (by show 2 * 0 + _ ≤ _; exact Nat.le_of_eq rfl) (hb hby at_66) (fun _ _ => ⟨rfl, ej6, (by decide : 2 + 0 ≤ _), (by decide : 8 + 0 ≤ _)⟩)
        dsimp only [Pt.U, Pt.locs, Pt.cells, Pt.slots] at X36 l36 y36 z36 st36 hQ36
        subst l36 y36 z36
        obtain ⟨rfl, N36q, eq36⟩ := hQ36
        have N36 := Fr.app Nj6 N36q
        refine own_step (T' := T36) (g' := (mkF m 69 #[.val (.long p0), .second, .val (.int p1), .val (.int v1), .val (.ref b2), .val (.ref b4)] [(.int (fnCell p0 (2 : Int32))), (.ref b4), (.ref b2)])) st36 ?_
        obtain ⟨_, _, ⟨T37, L37, kk37, nn37⟩, -, X37, ⟨Lc37, hQ37, l37, y37, z37⟩, st37⟩ := Jvm.LawKit.callS X36 hx (y := (⟨"com/example/tilescript/tilescript/TicTacToeIsOverPinLaw", "step", "(Lcom/example/tilescript/tilescript/TicTacToe;[II)V"⟩ : MethodName)) hown (mvT hZ (hw _ (List.mem_of_getElem? (i := 20) rfl))) (mvT hZ (hw _ (List.mem_of_getElem? (i := 21) rfl))) (mvT hZ (hw _ (List.mem_of_getElem? (i := 17) rfl))) (mvT hZ (hw _ (List.mem_of_getElem? (i := 22) rfl))) (by decide) (backOf (W := 0) (rm4 l Z a0 hw [] b2 b4 (fnCell p0 (2 : Int32)) wx55 wo55 wm55 ww55 wl55 k4 aL kL Hj6 n0 (Nat.le_trans Z0 Kj6.1) fj6_2 fj6_5 fj6_6 fj6_7 fj6_4 fj6_3 g_b2 g_b4 fj6_8 fj6_0 fj6_1 ne_aL_b2 ne_aL_b4 ne_b2_b4 hI55 (own_cell _ _)) hZ (hw _ (List.mem_of_getElem? (i := 22) rfl)) (hw _ (List.mem_of_getElem? (i := 17) rfl)) (by decide) (by decide)) (g := (mkF m 69 #[.val (.long p0), .second, .val (.int p1), .val (.int v1), .val (.ref b2), .val (.ref b4)] [(.int (fnCell p0 (2 : Int32))), (.ref b4), (.ref b2)])) rfl (by rw [hml]; rfl) (argsL := [(.ref b2), (.ref b4), (.int (fnCell p0 (2 : Int32)))]) (rest := []) (lenOf pd_2 rfl) rfl (by show 2 * 0 + _ ≤ _; exact Nat.le_of_eq rfl) (hb hby at_69) (fun _ _ => ⟨rfl, eq36, (by decide : 2 + 0 ≤ _), (by decide : 8 + 0 ≤ _)⟩)
        dsimp only [Pt.U, Pt.locs, Pt.cells, Pt.slots] at X37 l37 y37 z37 st37 hQ37
        subst l37 y37 z37
        obtain ⟨x1_37, o1_37, m1_37, w1_37, l1_37, rfl, N37q, Kq37, pq37_0, pq37_1, pq37_2, pq37_3, pq37_4, pq37_5, pq37_6⟩ := hQ37
        have N37 := Fr.app N36 N37q
        have S_LINES_37 : Sta Z T37.heap "com/example/tilescript/tilescript/TicTacToe" "LINES" "[I" (.ref aL) := own_sta_keep fj6_0 Kq37 (allS fj6_2.nostat (allS fj6_8.nostat all0))
        have V_aL_37 : Arv Z T37.heap aL kL .int (8 : Int32) [(.int (7 : Int32)), (.int (56 : Int32)), (.int (448 : Int32)), (.int (73 : Int32)), (.int (146 : Int32)), (.int (292 : Int32)), (.int (273 : Int32)), (.int (84 : Int32))] (.int (0 : Int32)) := fj6_1.keep Kq37 (ninS ne_aL_b2 (ninS ne_aL_b4 nin0))
        have E_b2_37 : Exa Z T37.heap b2 "com/example/tilescript/tilescript/TicTacToe" := fj6_2.keep Kq37
        have K_37 : Keep h0 T37.heap [] := Kj6.trans Kq37 (allS (Or.inr sz_b2) (allS (Or.inr sz_b4) all0))
        refine own_step (T' := T37) (g' := (mkF m 72 #[.val (.long p0), .second, .val (.int p1), .val (.int v1), .val (.ref b2), .val (.ref b4)] [])) st37 ?_
        exact J7 T37 _ T37.heap (x1_37) (o1_37) (m1_37) (w1_37) (l1_37) X37 rfl N37 K_37 S_LINES_37 V_aL_37 E_b2_37 pq37_4 pq37_3 pq37_0 pq37_1 pq37_2 pq37_5 pq37_6
      · refine own_step (T' := Tj6) (g' := (mkF m 72 #[.val (.long p0), .second, .val (.int p1), .val (.int v1), .val (.ref b2), .val (.ref b4)] [])) (fun t k => XS.icmpYes Xj6.here hx rfl (pc0 := 57) (pc' := 72) rfl (hb hby at_57) rfl (flt hc57_35).2.2.2 (by decide) (by decide) k) ?_
        exact J7 Tj6 _ Hj6 (wx55) (wo55) (wm55) (ww55) (wl55) Xj6 ej6 Nj6 Kj6 fj6_0 fj6_1 fj6_2 fj6_3 fj6_4 fj6_5 fj6_6 fj6_7 fj6_8 hI55
    refine own_step (T' := Tj5) (g' := (mkF m 39 #[.val (.long p0), .second, .val (.int p1), .val (.int v1), .val (.ref b2), .val (.ref b4)] [(.int v1)])) (fun t k => XS.iloadN Xj5.here hx rfl (hb hby at_38) rfl k) ?_
    refine own_step (T' := Tj5) (g' := (mkF m 40 #[.val (.long p0), .second, .val (.int p1), .val (.int v1), .val (.ref b2), .val (.ref b4)] [(.int (1 : Int32)), (.int v1)])) (fun t k => XS.iconst Xj5.here hx rfl (hb hby at_39) k) ?_
    by_cases hc40_38 : (1 : Int32) < v1
    · refine own_step (T' := Tj5) (g' := (mkF m 43 #[.val (.long p0), .second, .val (.int p1), .val (.int v1), .val (.ref b2), .val (.ref b4)] [])) (fun t k => XS.icmpNo Xj5.here hx rfl (hb hby at_40) rfl (tlt hc40_38).2.2.2 k) ?_
      refine own_step (T' := Tj5) (g' := (mkF m 45 #[.val (.long p0), .second, .val (.int p1), .val (.int v1), .val (.ref b2), .val (.ref b4)] [(.ref b2)])) (fun t k => XS.aload Xj5.here hx rfl (hb hby at_43) rfl rfl k) ?_
      refine own_step (T' := Tj5) (g' := (mkF m 47 #[.val (.long p0), .second, .val (.int p1), .val (.int v1), .val (.ref b2), .val (.ref b4)] [(.ref b4), (.ref b2)])) (fun t k => XS.aload Xj5.here hx rfl (hb hby at_45) rfl rfl k) ?_
      refine own_step (T' := Tj5) (g' := (mkF m 48 #[.val (.long p0), .second, .val (.int p1), .val (.int v1), .val (.ref b2), .val (.ref b4)] [(.long p0), (.ref b4), (.ref b2)])) (fun t k => XS.lloadN Xj5.here hx rfl (hb hby at_47) rfl k) ?_
      refine own_step (T' := Tj5) (g' := (mkF m 49 #[.val (.long p0), .second, .val (.int p1), .val (.int v1), .val (.ref b2), .val (.ref b4)] [(.int (1 : Int32)), (.long p0), (.ref b4), (.ref b2)])) (fun t k => XS.iconst Xj5.here hx rfl (hb hby at_48) k) ?_
      obtain ⟨_, _, ⟨T39, L39, kk39, nn39⟩, -, X39, ⟨Lc39, hQ39, l39, y39, z39⟩, st39⟩ := Jvm.LawKit.callS Xj5 hx (y := (⟨"com/example/tilescript/tilescript/TicTacToeIsOverPinLaw", "cellOf", "(JI)I"⟩ : MethodName)) hown (mvT hZ (hw _ (List.mem_of_getElem? (i := 15) rfl))) (mvT hZ (hw _ (List.mem_of_getElem? (i := 16) rfl))) (mvT hZ (hw _ (List.mem_of_getElem? (i := 17) rfl))) (mvT hZ (hw _ (List.mem_of_getElem? (i := 18) rfl))) (by decide) (backOf (W := 2) (rm3 l Z a0 hw [] p0 (1 : Int32) Hj5 n0 (Nat.le_trans Z0 Kj5.1) ) hZ (hw _ (List.mem_of_getElem? (i := 18) rfl)) (hw _ (List.mem_of_getElem? (i := 17) rfl)) (by decide) (by decide)) (g := (mkF m 49 #[.val (.long p0), .second, .val (.int p1), .val (.int v1), .val (.ref b2), .val (.ref b4)] [(.int (1 : Int32)), (.long p0), (.ref b4), (.ref b2)])) rfl (by rw [hml]; rfl) (argsL := [(.long p0), (.int (1 : Int32))]) (rest := [(.ref b4), (.ref b2)]) (lenOf pd_1 rfl) rfl (by show 2 * 0 + _ ≤ _; exact Nat.le_of_eq rfl) (hb hby at_49) (fun _ _ => ⟨rfl, ej5, (by decide : 2 + 0 ≤ _), (by decide : 8 + 0 ≤ _)⟩)
      dsimp only [Pt.U, Pt.locs, Pt.cells, Pt.slots] at X39 l39 y39 z39 st39 hQ39
      subst l39 y39 z39
      obtain ⟨rfl, N39q, eq39⟩ := hQ39
      have N39 := Fr.app Nj5 N39q
      refine own_step (T' := T39) (g' := (mkF m 52 #[.val (.long p0), .second, .val (.int p1), .val (.int v1), .val (.ref b2), .val (.ref b4)] [(.int (fnCell p0 (1 : Int32))), (.ref b4), (.ref b2)])) st39 ?_
      obtain ⟨_, _, ⟨T40, L40, kk40, nn40⟩, -, X40, ⟨Lc40, hQ40, l40, y40, z40⟩, st40⟩ := Jvm.LawKit.callS X39 hx (y := (⟨"com/example/tilescript/tilescript/TicTacToeIsOverPinLaw", "step", "(Lcom/example/tilescript/tilescript/TicTacToe;[II)V"⟩ : MethodName)) hown (mvT hZ (hw _ (List.mem_of_getElem? (i := 20) rfl))) (mvT hZ (hw _ (List.mem_of_getElem? (i := 21) rfl))) (mvT hZ (hw _ (List.mem_of_getElem? (i := 17) rfl))) (mvT hZ (hw _ (List.mem_of_getElem? (i := 22) rfl))) (by decide) (backOf (W := 0) (rm4 l Z a0 hw [] b2 b4 (fnCell p0 (1 : Int32)) wx38 wo38 wm38 ww38 wl38 k4 aL kL Hj5 n0 (Nat.le_trans Z0 Kj5.1) fj5_2 fj5_5 fj5_6 fj5_7 fj5_4 fj5_3 g_b2 g_b4 fj5_8 fj5_0 fj5_1 ne_aL_b2 ne_aL_b4 ne_b2_b4 hI38 (own_cell _ _)) hZ (hw _ (List.mem_of_getElem? (i := 22) rfl)) (hw _ (List.mem_of_getElem? (i := 17) rfl)) (by decide) (by decide)) (g := (mkF m 52 #[.val (.long p0), .second, .val (.int p1), .val (.int v1), .val (.ref b2), .val (.ref b4)] [(.int (fnCell p0 (1 : Int32))), (.ref b4), (.ref b2)])) rfl (by rw [hml]; rfl) (argsL := [(.ref b2), (.ref b4), (.int (fnCell p0 (1 : Int32)))]) (rest := []) (lenOf pd_2 rfl) rfl (by show 2 * 0 + _ ≤ _; exact Nat.le_of_eq rfl) (hb hby at_52) (fun _ _ => ⟨rfl, eq39, (by decide : 2 + 0 ≤ _), (by decide : 8 + 0 ≤ _)⟩)
      dsimp only [Pt.U, Pt.locs, Pt.cells, Pt.slots] at X40 l40 y40 z40 st40 hQ40
      subst l40 y40 z40
      obtain ⟨x1_40, o1_40, m1_40, w1_40, l1_40, rfl, N40q, Kq40, pq40_0, pq40_1, pq40_2, pq40_3, pq40_4, pq40_5, pq40_6⟩ := hQ40
      have N40 := Fr.app N39 N40q
      have S_LINES_40 : Sta Z T40.heap "com/example/tilescript/tilescript/TicTacToe" "LINES" "[I" (.ref aL) := own_sta_keep fj5_0 Kq40 (allS fj5_2.nostat (allS fj5_8.nostat all0))
      have V_aL_40 : Arv Z T40.heap aL kL .int (8 : Int32) [(.int (7 : Int32)), (.int (56 : Int32)), (.int (448 : Int32)), (.int (73 : Int32)), (.int (146 : Int32)), (.int (292 : Int32)), (.int (273 : Int32)), (.int (84 : Int32))] (.int (0 : Int32)) := fj5_1.keep Kq40 (ninS ne_aL_b2 (ninS ne_aL_b4 nin0))
      have E_b2_40 : Exa Z T40.heap b2 "com/example/tilescript/tilescript/TicTacToe" := fj5_2.keep Kq40
      have K_40 : Keep h0 T40.heap [] := Kj5.trans Kq40 (allS (Or.inr sz_b2) (allS (Or.inr sz_b4) all0))
      refine own_step (T' := T40) (g' := (mkF m 55 #[.val (.long p0), .second, .val (.int p1), .val (.int v1), .val (.ref b2), .val (.ref b4)] [])) st40 ?_
      exact J6 T40 _ T40.heap (x1_40) (o1_40) (m1_40) (w1_40) (l1_40) X40 rfl N40 K_40 S_LINES_40 V_aL_40 E_b2_40 pq40_4 pq40_3 pq40_0 pq40_1 pq40_2 pq40_5 pq40_6
    · refine own_step (T' := Tj5) (g' := (mkF m 55 #[.val (.long p0), .second, .val (.int p1), .val (.int v1), .val (.ref b2), .val (.ref b4)] [])) (fun t k => XS.icmpYes Xj5.here hx rfl (pc0 := 40) (pc' := 55) rfl (hb hby at_40) rfl (flt hc40_38).2.2.2 (by decide) (by decide) k) ?_
      exact J6 Tj5 _ Hj5 (wx38) (wo38) (wm38) (ww38) (wl38) Xj5 ej5 Nj5 Kj5 fj5_0 fj5_1 fj5_2 fj5_3 fj5_4 fj5_5 fj5_6 fj5_7 fj5_8 hI38
  refine own_step (T' := T4) (g' := (mkF m 23 #[.val (.long p0), .second, .val (.int p1), .val (.int v1), .val (.ref b2), .val (.ref b4)] [(.int v1)])) (fun t k => XS.iloadN X4.here hx rfl (hb hby at_22) rfl k) ?_
  by_cases hc23_41 : (0 : Int32) < v1
  · refine own_step (T' := T4) (g' := (mkF m 26 #[.val (.long p0), .second, .val (.int p1), .val (.int v1), .val (.ref b2), .val (.ref b4)] [])) (fun t k => XS.ifNo X4.here hx rfl (hb hby at_23) rfl ((if0 _ _).trans (tlt hc23_41).2.2.2) k) ?_
    refine own_step (T' := T4) (g' := (mkF m 28 #[.val (.long p0), .second, .val (.int p1), .val (.int v1), .val (.ref b2), .val (.ref b4)] [(.ref b2)])) (fun t k => XS.aload X4.here hx rfl (hb hby at_26) rfl rfl k) ?_
    refine own_step (T' := T4) (g' := (mkF m 30 #[.val (.long p0), .second, .val (.int p1), .val (.int v1), .val (.ref b2), .val (.ref b4)] [(.ref b4), (.ref b2)])) (fun t k => XS.aload X4.here hx rfl (hb hby at_28) rfl rfl k) ?_
    refine own_step (T' := T4) (g' := (mkF m 31 #[.val (.long p0), .second, .val (.int p1), .val (.int v1), .val (.ref b2), .val (.ref b4)] [(.long p0), (.ref b4), (.ref b2)])) (fun t k => XS.lloadN X4.here hx rfl (hb hby at_30) rfl k) ?_
    refine own_step (T' := T4) (g' := (mkF m 32 #[.val (.long p0), .second, .val (.int p1), .val (.int v1), .val (.ref b2), .val (.ref b4)] [(.int (0 : Int32)), (.long p0), (.ref b4), (.ref b2)])) (fun t k => XS.iconst X4.here hx rfl (hb hby at_31) k) ?_
    obtain ⟨_, _, ⟨T42, L42, kk42, nn42⟩, -, X42, ⟨Lc42, hQ42, l42, y42, z42⟩, st42⟩ := Jvm.LawKit.callS X4 hx (y := (⟨"com/example/tilescript/tilescript/TicTacToeIsOverPinLaw", "cellOf", "(JI)I"⟩ : MethodName)) hown (mvT hZ (hw _ (List.mem_of_getElem? (i := 15) rfl))) (mvT hZ (hw _ (List.mem_of_getElem? (i := 16) rfl))) (mvT hZ (hw _ (List.mem_of_getElem? (i := 17) rfl))) (mvT hZ (hw _ (List.mem_of_getElem? (i := 18) rfl))) (by decide) (backOf (W := 2) (rm3 l Z a0 hw [] p0 (0 : Int32) h4 n0 (Nat.le_trans Z0 K_4.1) ) hZ (hw _ (List.mem_of_getElem? (i := 18) rfl)) (hw _ (List.mem_of_getElem? (i := 17) rfl)) (by decide) (by decide)) (g := (mkF m 32 #[.val (.long p0), .second, .val (.int p1), .val (.int v1), .val (.ref b2), .val (.ref b4)] [(.int (0 : Int32)), (.long p0), (.ref b4), (.ref b2)])) rfl (by rw [hml]; rfl) (argsL := [(.long p0), (.int (0 : Int32))]) (rest := [(.ref b4), (.ref b2)]) (lenOf pd_1 rfl) rfl (by show 2 * 0 + _ ≤ _; exact Nat.le_of_eq rfl) (hb hby at_32) (fun _ _ => ⟨rfl, e4, (by decide : 2 + 0 ≤ _), (by decide : 8 + 0 ≤ _)⟩)
    dsimp only [Pt.U, Pt.locs, Pt.cells, Pt.slots] at X42 l42 y42 z42 st42 hQ42
    subst l42 y42 z42
    obtain ⟨rfl, N42q, eq42⟩ := hQ42
    have N42 := Fr.app N3 N42q
    refine own_step (T' := T42) (g' := (mkF m 35 #[.val (.long p0), .second, .val (.int p1), .val (.int v1), .val (.ref b2), .val (.ref b4)] [(.int (fnCell p0 (0 : Int32))), (.ref b4), (.ref b2)])) st42 ?_
    obtain ⟨_, _, ⟨T43, L43, kk43, nn43⟩, -, X43, ⟨Lc43, hQ43, l43, y43, z43⟩, st43⟩ := Jvm.LawKit.callS X42 hx (y := (⟨"com/example/tilescript/tilescript/TicTacToeIsOverPinLaw", "step", "(Lcom/example/tilescript/tilescript/TicTacToe;[II)V"⟩ : MethodName)) hown (mvT hZ (hw _ (List.mem_of_getElem? (i := 20) rfl))) (mvT hZ (hw _ (List.mem_of_getElem? (i := 21) rfl))) (mvT hZ (hw _ (List.mem_of_getElem? (i := 17) rfl))) (mvT hZ (hw _ (List.mem_of_getElem? (i := 22) rfl))) (by decide) (backOf (W := 0) (rm4 l Z a0 hw [] b2 b4 (fnCell p0 (0 : Int32)) (0 : Int32) (0 : Int32) (0 : Int32) (45 : Int32) (-1 : Int32) k4 aL kL h4 n0 (Nat.le_trans Z0 K_4.1) E_b2_4 F_xCells_b2_4 F_oCells_b2_4 F_marks_b2_4 F_winner_b2_4 F_lastMove_b2_4 g_b2 g_b4 V_b4 S_LINES_4 V_aL_4 ne_aL_b2 ne_aL_b4 ne_b2_b4 hI0 (own_cell _ _)) hZ (hw _ (List.mem_of_getElem? (i := 22) rfl)) (hw _ (List.mem_of_getElem? (i := 17) rfl)) (by decide) (by decide)) (g := (mkF m 35 #[.val (.long p0), .second, .val (.int p1), .val (.int v1), .val (.ref b2), .val (.ref b4)] [(.int (fnCell p0 (0 : Int32))), (.ref b4), (.ref b2)])) rfl (by rw [hml]; rfl) (argsL := [(.ref b2), (.ref b4), (.int (fnCell p0 (0 : Int32)))]) (rest := []) (lenOf pd_2 rfl) rfl (by show 2 * 0 + _ ≤ _; exact Nat.le_of_eq rfl) (hb hby at_35) (fun _ _ => ⟨rfl, eq42, (by decide : 2 + 0 ≤ _), (by decide : 8 + 0 ≤ _)⟩)
    dsimp only [Pt.U, Pt.locs, Pt.cells, Pt.slots] at X43 l43 y43 z43 st43 hQ43
    subst l43 y43 z43
    obtain ⟨x1_43, o1_43, m1_43, w1_43, l1_43, rfl, N43q, Kq43, pq43_0, pq43_1, pq43_2, pq43_3, pq43_4, pq43_5, pq43_6⟩ := hQ43
    have N43 := Fr.app N42 N43q
    have S_LINES_43 : Sta Z T43.heap "com/example/tilescript/tilescript/TicTacToe" "LINES" "[I" (.ref aL) := own_sta_keep S_LINES_4 Kq43 (allS E_b2_4.nostat (allS V_b4.nostat all0))
    have V_aL_43 : Arv Z T43.heap aL kL .int (8 : Int32) [(.int (7 : Int32)), (.int (56 : Int32)), (.int (448 : Int32)), (.int (73 : Int32)), (.int (146 : Int32)), (.int (292 : Int32)), (.int (273 : Int32)), (.int (84 : Int32))] (.int (0 : Int32)) := V_aL_4.keep Kq43 (ninS ne_aL_b2 (ninS ne_aL_b4 nin0))
    have E_b2_43 : Exa Z T43.heap b2 "com/example/tilescript/tilescript/TicTacToe" := E_b2_4.keep Kq43
    have K_43 : Keep h0 T43.heap [] := K_4.trans Kq43 (allS (Or.inr sz_b2) (allS (Or.inr sz_b4) all0))
    refine own_step (T' := T43) (g' := (mkF m 38 #[.val (.long p0), .second, .val (.int p1), .val (.int v1), .val (.ref b2), .val (.ref b4)] [])) st43 ?_
    exact J5 T43 _ T43.heap (x1_43) (o1_43) (m1_43) (w1_43) (l1_43) X43 rfl N43 K_43 S_LINES_43 V_aL_43 E_b2_43 pq43_4 pq43_3 pq43_0 pq43_1 pq43_2 pq43_5 pq43_6
  · refine own_step (T' := T4) (g' := (mkF m 38 #[.val (.long p0), .second, .val (.int p1), .val (.int v1), .val (.ref b2), .val (.ref b4)] [])) (fun t k => XS.ifYes X4.here hx rfl (pc0 := 23) (pc' := 38) rfl (hb hby at_23) rfl ((if0 _ _).trans (flt hc23_41).2.2.2) (by decide) (by decide) k) ?_
    exact J5 T4 _ h4 ((0 : Int32)) ((0 : Int32)) ((0 : Int32)) ((45 : Int32)) ((-1 : Int32)) X4 e4 N3 K_4 S_LINES_4 V_aL_4 E_b2_4 F_lastMove_b2_4 F_winner_b2_4 F_xCells_b2_4 F_oCells_b2_4 F_marks_b2_4 V_b4 hI0
set_option maxRecDepth 65536 in
set_option maxHeartbeats 40000000 in
theorem comes_1 {Post : Tables → Env → Array Value → State → Outcome → State → Prop} (hpost : ∀ tb e args s v u, (limb_1_1.after args s (.returned v) u = true ∧ limb_1_2.after args s (.returned v) u = true ∧ True) → FrameEnd s (.returned v) u (Jvm.fieldLocs frame_1_writes args s ++ Jvm.arrayLocs frame_1_arrays args s ++ Jvm.staticLocs frame_1_statics s) 16 128 → Post tb e args s (.returned v) u) :
    ArmFor flags0 classFile x code maxLocals ret World_1 tables_1 room_1 Calls_1 rest_1 Pre_1 Post := by
  intro l hfl _ _ p e ha hc hk s m args below hf hA hF happ hP
  obtain ⟨hcalls, hrest, hpre⟩ := hP
  obtain ⟨-, -, -, hnamed, -, -, -, hat⟩ := (Spec.applies_iff hf).mp happ
  obtain ⟨hg, hn⟩ := and_e (Cond.before_iff.mp (show (Jvm.Cond.and given_1 narrow_1).before args s = true from hpre))
  obtain ⟨g0, r0⟩ := and_e hg
  obtain ⟨g1, r1⟩ := and_e r0
  obtain ⟨w0, w1, rfl⟩ : ∃ w0 w1 : Value, args = #[w0, w1] := by
    have hs : args.size = 2 := by simpa [Cond.value, given_1] using g0
    obtain ⟨L⟩ := args
    match L, hs with
    | [w0, w1], _ => exact ⟨w0, w1, rfl⟩
  have hw := fun d (hd : d ∈ tables_1) => atoms_spec (ws := Jvm.Cond.code x code maxLocals ret :: tables_1) hat d (List.mem_cons_of_mem _ hd)
  have hfit : Fit s := fun {y c} hc i hi => by
    obtain ⟨ha, rfl⟩ := Array.getElem?_eq_some_iff.mp hc
    have q := List.all_eq_true.mp ((Array.all_eq_true_iff_forall_mem.mp hF) _ (Array.getElem_mem ha)) i (List.mem_range.mpr hi)
    simpa [Array.getElem?_eq_getElem hi] using q
  obtain ⟨i0, ei0⟩ := isL_v g1
  obtain rfl : w0 = (.long i0) := Option.some.inj ei0
  obtain ⟨i1, ei1⟩ := is_v r1
  obtain rfl : w1 = (.int i1) := Option.some.inj ei1
  obtain ⟨q0, m0⟩ := and_e hn
  obtain ⟨q1, m1⟩ := and_e m0
  obtain ⟨q2, m2⟩ := and_e m1
  obtain ⟨q3, m3⟩ := and_e m2
  obtain ⟨q4, m4⟩ := and_e m3
  obtain ⟨q5, m5⟩ := and_e m4
  obtain ⟨q6, m6⟩ := and_e m5
  obtain ⟨q7, m7⟩ := and_e m6
  obtain ⟨q8, m8⟩ := and_e m7
  obtain ⟨a_LINES, ev_a_LINES⟩ := arr_v q0
  have S_a_LINES : Sta s s.heap "com/example/tilescript/tilescript/TicTacToe" "LINES" "[I" (.ref a_LINES) := Sta.start ev_a_LINES (Or.inr ⟨(hw _ (List.mem_of_getElem? (i := 3) rfl)), (hw _ (List.mem_of_getElem? (i := 56) rfl))⟩)
  obtain ⟨c_a_LINES, Ar_a_LINES⟩ := Arr.start ev_a_LINES q0
  have V_a_LINES := own_arv hfit Ar_a_LINES ev_a_LINES (own_eqI q1) (vs := [(.int (7 : Int32)), (.int (56 : Int32)), (.int (448 : Int32)), (.int (73 : Int32)), (.int (146 : Int32)), (.int (292 : Int32)), (.int (273 : Int32)), (.int (84 : Int32))]) (dv := (.int (0 : Int32))) (by decide) rfl ⟨own_el Ar_a_LINES ev_a_LINES (own_eqI q2) 0 (by decide), own_el Ar_a_LINES ev_a_LINES (own_eqI q3) 1 (by decide), own_el Ar_a_LINES ev_a_LINES (own_eqI q4) 2 (by decide), own_el Ar_a_LINES ev_a_LINES (own_eqI q5) 3 (by decide), own_el Ar_a_LINES ev_a_LINES (own_eqI q6) 4 (by decide), own_el Ar_a_LINES ev_a_LINES (own_eqI q7) 5 (by decide), own_el Ar_a_LINES ev_a_LINES (own_eqI q8) 6 (by decide), own_el Ar_a_LINES ev_a_LINES (own_eqI m8) 7 (by decide), trivial⟩
  obtain ⟨n, o, h1, h2, h3, _, L, rfl, ⟨rfl, N⟩, hq⟩ := rm0 l s _ hw tables_1 i0 i1 a_LINES c_a_LINES.cls s.heap s.heap.size (Nat.le_refl _) S_a_LINES V_a_LINES p e ha hc hk s m _ below hf ((Spec.applies_iff_loose hf).mp happ).1 ⟨rfl, State.Warmed39.refl s, rfl⟩ trivial
  refine ⟨n, _, h1, h2, h3, hpost _ _ _ _ _ _ ⟨Cond.after_iff.mpr rfl, Cond.after_iff.mpr (eq_i res_at (Term.int_eval (1)) rfl), trivial⟩ ⟨hq.1, hq.2.1, (hq.2.2.sift fun y hy => Or.inr (N y hy)).mono (by decide) (by decide)⟩⟩
theorem main_1_1 : Claimed_1_1 := comes_1 fun _ _ _ _ _ _ h hF => ⟨h.1, hF⟩
theorem main_1_2 : Claimed_1_2 := comes_1 fun _ _ _ _ _ _ h hF => ⟨h.2.1, hF⟩
end Jvm.Pilot.@@N@@
namespace Jvm.Pilot.@@N@@
open Jvm Jvm.ClassFile Sem Op Lib Jvm.Free Jvm.Stand Jvm.Pilot.@@N@@.Jvm.D
/-! MADE BY PROGRAM (witnessworld.py) out of the Statement's table words and the real class files: 9 classes; the members and pool entries that the words name. The judged class is class 1, her method 5. -/
namespace start1
open Jvm.ClassFile
def u (s : String) : CpInfo := .utf8 (stringToUtf16 s)
/-- a pool by its gaps: so many unusable entries, then the entry; so many at the end -/
def gap : Nat → List CpInfo → List CpInfo
  | 0, r => r
  | n + 1, r => .unusable :: gap n r
def poolList (es : List (Nat × CpInfo)) (last : Nat) : List CpInfo := es.foldr (fun e r => gap e.1 (e.2 :: r)) (gap last [])
def pool (es : List (Nat × CpInfo)) (last : Nat) : Array CpInfo := ⟨poolList es last⟩
def fileOf (pool : Array CpInfo) (this : Nat) (attrs : Array Attribute := #[]) (ms : Array MethodInfo := #[]) (fl : Nat := 33) (sup : Nat := 0) (ifs : Array Nat := #[]) (fds : Array FieldInfo := #[]) : ClassFile where
  minorVersion := 0
  majorVersion := 65
  constantPool := pool
  accessFlags := fl
  thisClass := this
  superClass := sup
  interfaces := ifs
  fields := fds
  methods := ms
  attributes := attrs
def plain (name : String) (sup : Option ClassId) : Class where
  name := name
  kind := .ordinary
  loader := none
  accessFlags := 33
  super := sup
  interfaces := #[]
  cf := none
  fields := #[]
  methods := #[]
  instanceTypes := #[]
  staticTypes := #[]
  resolved := #[]
  callSites := []
  init := .initialized
  statics := none
  mirror := none

def pool0 : Array CpInfo := pool [(5, u "<init>"), (0, u "()V"), (1, .class_ 10), (1, u "java/lang/Object")] 113

def k0c0 : Code := { maxStack := 0, maxLocals := 1, code := object_method_1_code, exceptionTable := #[], attributes := #[] }
def k0m0 : Method := { name := "<init>", desc := "()V", sig := { parameters := [], returnType := none }, accessFlags := 1, code := some k0c0 }
/-- java/lang/Object -/
def k0 : Class := { plain "java/lang/Object" none with
  accessFlags := 33
  interfaces := #[]
  cf := some (fileOf pool0 8 #[] #[{ accessFlags := 1, nameIndex := 5, descriptorIndex := 6, attributes := #[] }] 33 0 #[] #[])
  fields := #[]
  methods := #[k0m0]
  instanceTypes := #[]
  staticTypes := #[]
  resolved := Array.replicate 124 none
  statics := none }

def pool1 : Array CpInfo := pool [(2, .class_ 4), (0, .nameAndType 5 6), (0, u "java/lang/Object"), (0, u "<init>"), (0, u "()V"), (0, .methodref 8 9), (0, .class_ 10), (0, .nameAndType 11 12), (0, u "com/example/tilescript/tilescript/TicTacToeIsOverPinLaw"), (0, u "won"), (0, u "(I)Z"), (0, .long 15), (1, .methodref 8 16), (0, .nameAndType 17 18), (0, u "over"), (0, u "([I)Z"), (0, .methodref 20 21), (0, .class_ 22), (0, .nameAndType 23 24), (0, u "com/example/tilescript/tilescript/TicTacToe"), (0, u "play"), (0, u "(I)V"), (0, .integer 2147483647), (0, .methodref 20 3), (0, .methodref 8 28), (0, .nameAndType 29 30), (0, u "cellOf"), (0, u "(JI)I"), (0, .methodref 8 32), (0, .nameAndType 33 34), (0, u "step"), (0, u "(Lcom/example/tilescript/tilescript/TicTacToe;[II)V"), (0, .methodref 20 36), (0, .nameAndType 37 38), (0, u "isOver"), (0, u "()Z"), (3, u "law"), (0, u "(JI)Z")] 4

def k1m0 : Method := { name := "<init>", desc := "()V", sig := { parameters := [], returnType := none }, accessFlags := 1, code := none }
def k1c1 : Code := { maxStack := 2, maxLocals := 1, code := method_2_code, exceptionTable := #[], attributes := #[] }
def k1m1 : Method := { name := "won", desc := "(I)Z", sig := { parameters := [.int], returnType := some .boolean }, accessFlags := 10, code := some k1c1 }
def k1c2 : Code := { maxStack := 3, maxLocals := 1, code := method_3_code, exceptionTable := #[], attributes := #[] }
def k1m2 : Method := { name := "over", desc := "([I)Z", sig := { parameters := [(.array .int)], returnType := some .boolean }, accessFlags := 10, code := some k1c2 }
def k1c3 : Code := { maxStack := 4, maxLocals := 3, code := method_4_code, exceptionTable := #[], attributes := #[] }
def k1m3 : Method := { name := "cellOf", desc := "(JI)I", sig := { parameters := [.long, .int], returnType := some .int }, accessFlags := 10, code := some k1c3 }
def k1c4 : Code := { maxStack := 4, maxLocals := 4, code := method_5_code, exceptionTable := #[], attributes := #[] }
def k1m4 : Method := { name := "step", desc := "(Lcom/example/tilescript/tilescript/TicTacToe;[II)V", sig := { parameters := [(.object "com/example/tilescript/tilescript/TicTacToe"), (.array .int), .int], returnType := none }, accessFlags := 10, code := some k1c4 }
def k1c5 : Code := { maxStack := 5, maxLocals := 6, code := code, exceptionTable := #[], attributes := #[] }
def k1m5 : Method := { name := "law", desc := "(JI)Z", sig := { parameters := [.long, .int], returnType := some .boolean }, accessFlags := 9, code := some k1c5 }
/-- com/example/tilescript/tilescript/TicTacToeIsOverPinLaw -/
def k1 : Class := { plain "com/example/tilescript/tilescript/TicTacToeIsOverPinLaw" (some 0) with
  accessFlags := 49
  interfaces := #[]
  cf := some (fileOf pool1 8 #[] #[{ accessFlags := 1, nameIndex := 5, descriptorIndex := 6, attributes := #[] }, { accessFlags := 10, nameIndex := 11, descriptorIndex := 12, attributes := #[] }, { accessFlags := 10, nameIndex := 17, descriptorIndex := 18, attributes := #[] }, { accessFlags := 10, nameIndex := 29, descriptorIndex := 30, attributes := #[] }, { accessFlags := 10, nameIndex := 33, descriptorIndex := 34, attributes := #[] }, { accessFlags := 9, nameIndex := 42, descriptorIndex := 43, attributes := #[] }] 49 2 #[] #[])
  fields := #[]
  methods := #[k1m0, k1m1, k1m2, k1m3, k1m4, k1m5]
  instanceTypes := #[]
  staticTypes := #[]
  resolved := Array.replicate 48 none
  statics := none }

def pool2 : Array CpInfo := pool [(1, .methodref 2 3), (0, .class_ 4), (0, .nameAndType 5 6), (0, u "java/lang/Object"), (0, u "<init>"), (0, u "()V"), (0, .fieldref 8 9), (0, .class_ 10), (0, .nameAndType 11 12), (0, u "com/example/tilescript/tilescript/TicTacToe"), (0, u "lastMove"), (0, u "I"), (0, .fieldref 8 14), (0, .nameAndType 15 16), (0, u "winner"), (0, u "C"), (0, .fieldref 8 18), (0, .nameAndType 19 12), (0, u "marks"), (0, .fieldref 8 21), (0, .nameAndType 22 12), (0, u "xCells"), (0, .fieldref 8 24), (0, .nameAndType 25 12), (0, u "oCells"), (0, .methodref 8 27), (0, .nameAndType 28 29), (0, u "isOver"), (0, u "()Z"), (0, .methodref 8 31), (0, .nameAndType 32 33), (0, u "isLegal"), (0, u "(I)Z"), (15, .methodref 8 50), (0, .nameAndType 51 52), (0, u "token"), (0, u "()C"), (0, .fieldref 8 54), (0, .nameAndType 55 56), (0, u "LINES"), (0, u "[I"), (23, u "(I)V"), (12, u "CELLS"), (2, u "EMPTY"), (1, u "ALL_CELLS"), (5, u "play")] 21

def k2c0 : Code := { maxStack := 2, maxLocals := 1, code := prog_19_method_1_code, exceptionTable := #[], attributes := #[] }
def k2m0 : Method := { name := "<init>", desc := "()V", sig := { parameters := [], returnType := none }, accessFlags := 0, code := some k2c0 }
def k2c1 : Code := { maxStack := 2, maxLocals := 1, code := prog_19_method_2_code, exceptionTable := #[], attributes := #[] }
def k2m1 : Method := { name := "token", desc := "()C", sig := { parameters := [], returnType := some .char }, accessFlags := 0, code := some k2c1 }
def k2c2 : Code := { maxStack := 2, maxLocals := 1, code := prog_19_method_5_code, exceptionTable := #[], attributes := #[] }
def k2m2 : Method := { name := "isOver", desc := "()Z", sig := { parameters := [], returnType := some .boolean }, accessFlags := 0, code := some k2c2 }
def k2c3 : Code := { maxStack := 3, maxLocals := 2, code := prog_19_method_7_code, exceptionTable := #[], attributes := #[] }
def k2m3 : Method := { name := "isLegal", desc := "(I)Z", sig := { parameters := [.int], returnType := some .boolean }, accessFlags := 0, code := some k2c3 }
def k2c4 : Code := { maxStack := 4, maxLocals := 8, code := prog_19_method_8_code, exceptionTable := #[], attributes := #[] }
def k2m4 : Method := { name := "play", desc := "(I)V", sig := { parameters := [.int], returnType := none }, accessFlags := 0, code := some k2c4 }
/-- com/example/tilescript/tilescript/TicTacToe -/
def k2 : Class := { plain "com/example/tilescript/tilescript/TicTacToe" (some 0) with
  accessFlags := 48
  interfaces := #[]
  cf := some (fileOf pool2 8 #[] #[{ accessFlags := 0, nameIndex := 5, descriptorIndex := 6, attributes := #[] }, { accessFlags := 0, nameIndex := 51, descriptorIndex := 52, attributes := #[] }, { accessFlags := 0, nameIndex := 28, descriptorIndex := 29, attributes := #[] }, { accessFlags := 0, nameIndex := 32, descriptorIndex := 33, attributes := #[] }, { accessFlags := 0, nameIndex := 104, descriptorIndex := 80, attributes := #[] }] 48 2 #[] #[{ accessFlags := 24, nameIndex := 93, descriptorIndex := 12, attributes := #[] }, { accessFlags := 24, nameIndex := 96, descriptorIndex := 16, attributes := #[] }, { accessFlags := 26, nameIndex := 98, descriptorIndex := 12, attributes := #[] }, { accessFlags := 26, nameIndex := 55, descriptorIndex := 56, attributes := #[] }, { accessFlags := 2, nameIndex := 22, descriptorIndex := 12, attributes := #[] }, { accessFlags := 2, nameIndex := 25, descriptorIndex := 12, attributes := #[] }, { accessFlags := 2, nameIndex := 19, descriptorIndex := 12, attributes := #[] }, { accessFlags := 2, nameIndex := 11, descriptorIndex := 12, attributes := #[] }, { accessFlags := 2, nameIndex := 15, descriptorIndex := 16, attributes := #[] }])
  fields := #[{ name := "CELLS", type := .int, accessFlags := 24, slot := 0, constantValue := 0 }, { name := "EMPTY", type := .char, accessFlags := 24, slot := 1, constantValue := 0 }, { name := "ALL_CELLS", type := .int, accessFlags := 26, slot := 2, constantValue := 0 }, { name := "LINES", type := (.array .int), accessFlags := 26, slot := 3, constantValue := 0 }, { name := "xCells", type := .int, accessFlags := 2, slot := 0, constantValue := 0 }, { name := "oCells", type := .int, accessFlags := 2, slot := 1, constantValue := 0 }, { name := "marks", type := .int, accessFlags := 2, slot := 2, constantValue := 0 }, { name := "lastMove", type := .int, accessFlags := 2, slot := 3, constantValue := 0 }, { name := "winner", type := .char, accessFlags := 2, slot := 4, constantValue := 0 }]
  methods := #[k2m0, k2m1, k2m2, k2m3, k2m4]
  instanceTypes := #[.int, .int, .int, .int, .char]
  staticTypes := #[.int, .char, .int, (.array .int)]
  resolved := Array.replicate 126 none
  statics := some 0 }

def pool3 : Array CpInfo := pool [(1, u "java/lang/Cloneable"), (0, .class_ 1), (0, u "java/lang/Object"), (0, .class_ 3)] 3

/-- java/lang/Cloneable -/
def k3 : Class := { plain "java/lang/Cloneable" (some 0) with
  accessFlags := 1537
  interfaces := #[]
  cf := some (fileOf pool3 2 #[] #[] 1537 4 #[] #[])
  fields := #[]
  methods := #[]
  instanceTypes := #[]
  staticTypes := #[]
  resolved := Array.replicate 8 none
  statics := none }

def pool4 : Array CpInfo := pool [(1, u "java/io/Serializable"), (0, .class_ 1), (0, u "java/lang/Object"), (0, .class_ 3)] 3

/-- java/io/Serializable -/
def k4 : Class := { plain "java/io/Serializable" (some 0) with
  accessFlags := 1537
  interfaces := #[]
  cf := some (fileOf pool4 2 #[] #[] 1537 4 #[] #[])
  fields := #[]
  methods := #[]
  instanceTypes := #[]
  staticTypes := #[]
  resolved := Array.replicate 8 none
  statics := none }

/-- the primitive byte -/
def k5 : Class := { plain "byte" none with kind := .primitive 'B', accessFlags := 0x411 }
/-- [B -/
def k6 : Class := { plain "[B" (some 0) with kind := .array 5 .byte, interfaces := #[3, 4], accessFlags := 1041 }

/-- the primitive int -/
def k7 : Class := { plain "int" none with kind := .primitive 'I', accessFlags := 0x411 }
/-- [I -/
def k8 : Class := { plain "[I" (some 0) with kind := .array 7 .int, interfaces := #[3, 4], accessFlags := 1041 }

def heap : Heap := #[{ cls := 2, slots := #[.int 0, .int 0, .int 0, .ref 1], vm := .statics 2 },
  { cls := 8, slots := #[.int 7, .int 56, .int 448, .int 73, .int 146, .int 292, .int 273, .int 84], vm := .none }]
def classes : Array Class := #[k0, k1, k2, k3, k4, k5, k6, k7, k8]
def interned : List (Array UInt16 × Addr) := []
def slotsUsed : Nat := 12
def theMethod : MethodId := ⟨1, 5⟩
def args0 : Array Value := #[.long 5, .int 3]
def aboutOver (below : List Frame) : State where
  vm := { classes := classes, interned := interned.toArray }
  heap := heap
  slotsUsed := slotsUsed
  threads := #[{ frames := .invoking theMethod args0 :: below }]
def below0 : List Frame := [.native { method := ⟨0, 0⟩, args := #[] }]
def about1 : State := aboutOver below0
def p0 : Program := .bare "" "" ""
def e0 : Env := launch0.env 0 0 0
theorem w_frames : about1.frames = Frame.invoking theMethod args0 :: below0 := rfl
set_option maxRecDepth 65536 in
theorem w_args : argsFit about1.vm theMethod args0 = true := by decide +kernel
set_option maxRecDepth 65536 in
theorem w_heap : heapFits about1 = true := by decide +kernel
set_option maxRecDepth 65536 in
theorem w_runnable : about1.curStatus? = some .runnable := by decide +kernel
set_option maxRecDepth 65536 in
theorem w_alone : about1.alone = true := by decide +kernel
set_option maxRecDepth 65536 in
theorem w_named : about1.methodNamed? x = some theMethod := by decide +kernel
set_option maxRecDepth 65536 in
theorem w_hears : about1.hears theMethod below0 = true := by decide +kernel
set_option maxRecDepth 65536 in
theorem w_ripe : about1.ripe theMethod args0 below0 = true := by decide +kernel
theorem w_running : about1.status = .running := rfl
set_option maxRecDepth 65536 in
theorem w_room : about1.hasRoom e0.platform room_1 = true :=
  launch0.hasRoom_least _ room_1 (by decide +kernel) (by decide +kernel) (by decide +kernel) (by decide +kernel) (by decide +kernel) (by decide +kernel)
theorem allAtoms_all (ts : List Jvm.Cond) (a : Array Jvm.Value) (st : Jvm.State) : (allAtoms ts).before a st = ts.all (fun c => c.before a st) := by
  induction ts with
  | nil => rfl
  | cons c t ih =>
    show (Jvm.Cond.and c (allAtoms t)).before a st = _
    rw [Jvm.Cond.before_and, ih, List.all_cons]
def words1 : List Jvm.Cond := Jvm.Cond.code x code maxLocals ret :: tables_1
/-- a 'code' word, met by the world's own term for the bytes: nothing is compared byte by byte -/
theorem code_word {y : MethodName} {bytes : ByteArray} {mx : Nat} {rt : Option FieldType} {a : Array Value} {s : State} {m : MethodId} {meth : Method} {c : Code} (h1 : s.methodNamed? y = some m) (h2 : s.vm.method? m = some meth) (h3 : meth.code = some c) (h4 : c.code = bytes)
    (h5 : (c.maxLocals == mx && c.exceptionTable.isEmpty && decide (c.maxStack ≤ mostOperands) && decide (meth.sig.returnType = rt) && !meth.locks && decide (parseMethodDescriptor y.desc = some meth.sig)) = true) : (Jvm.Cond.code y bytes mx rt).before a s = true := by
  simp only [Bool.and_eq_true, beq_iff_eq, Bool.not_eq_true', decide_eq_true_eq] at h5
  obtain ⟨⟨⟨⟨⟨g1, g2⟩, g3⟩, g4⟩, g5⟩, g6⟩ := h5
  simp [Cond.before, Cond.holds, Cond.value, h1, h2, h3, h4, g1, g2, g3, g4, g5, g6]
def isCode : Jvm.Cond → Bool
  | .code _ _ _ _ => true
  | _ => false
theorem all_split {L : List Jvm.Cond} {P : Jvm.Cond → Bool} (h1 : L.all (fun c => isCode c || P c) = true) (h2 : ∀ c ∈ L.filter isCode, P c = true) : L.all P = true := by
  refine List.all_eq_true.mpr fun c hc => ?_
  have h := List.all_eq_true.mp h1 c hc
  rcases Bool.eq_false_or_eq_true (isCode c) with hi | hi
  · exact h2 c (List.mem_filter.mpr ⟨hc, hi⟩)
  · simpa [hi] using h
set_option maxRecDepth 65536 in
theorem w_c0 : (Jvm.Cond.code x code maxLocals ret).before args0 about1 = true := code_word (m := ⟨1, 5⟩) (meth := k1m5) (c := k1c5) (by decide +kernel) rfl rfl rfl (by decide +kernel)
set_option maxRecDepth 65536 in
theorem w_c1 : (Jvm.Cond.code ({ cls := "com/example/tilescript/tilescript/TicTacToe", name := "<init>", desc := "()V" } : Jvm.MethodName) prog_19_method_1_code (1 : Nat) (Option.none : Option Jvm.ClassFile.FieldType)).before args0 about1 = true := code_word (m := ⟨2, 0⟩) (meth := k2m0) (c := k2c0) (by decide +kernel) rfl rfl rfl (by decide +kernel)
set_option maxRecDepth 65536 in
theorem w_c2 : (Jvm.Cond.code ({ cls := "java/lang/Object", name := "<init>", desc := "()V" } : Jvm.MethodName) object_method_1_code (1 : Nat) (Option.none : Option Jvm.ClassFile.FieldType)).before args0 about1 = true := code_word (m := ⟨0, 0⟩) (meth := k0m0) (c := k0c0) (by decide +kernel) rfl rfl rfl (by decide +kernel)
set_option maxRecDepth 65536 in
theorem w_c3 : (Jvm.Cond.code ({ cls := "com/example/tilescript/tilescript/TicTacToeIsOverPinLaw", name := "cellOf", desc := "(JI)I" } : Jvm.MethodName) method_4_code (3 : Nat) (Option.some Jvm.ClassFile.FieldType.int)).before args0 about1 = true := code_word (m := ⟨1, 3⟩) (meth := k1m3) (c := k1c3) (by decide +kernel) rfl rfl rfl (by decide +kernel)
set_option maxRecDepth 65536 in
theorem w_c4 : (Jvm.Cond.code ({ cls := "com/example/tilescript/tilescript/TicTacToeIsOverPinLaw", name := "step", desc := "(Lcom/example/tilescript/tilescript/TicTacToe;[II)V" } : Jvm.MethodName) method_5_code (4 : Nat) (Option.none : Option Jvm.ClassFile.FieldType)).before args0 about1 = true := code_word (m := ⟨1, 4⟩) (meth := k1m4) (c := k1c4) (by decide +kernel) rfl rfl rfl (by decide +kernel)
set_option maxRecDepth 65536 in
theorem w_c5 : (Jvm.Cond.code ({ cls := "com/example/tilescript/tilescript/TicTacToeIsOverPinLaw", name := "over", desc := "([I)Z" } : Jvm.MethodName) method_3_code (1 : Nat) (Option.some Jvm.ClassFile.FieldType.boolean)).before args0 about1 = true := code_word (m := ⟨1, 2⟩) (meth := k1m2) (c := k1c2) (by decide +kernel) rfl rfl rfl (by decide +kernel)
set_option maxRecDepth 65536 in
theorem w_c6 : (Jvm.Cond.code ({ cls := "com/example/tilescript/tilescript/TicTacToeIsOverPinLaw", name := "won", desc := "(I)Z" } : Jvm.MethodName) method_2_code (1 : Nat) (Option.some Jvm.ClassFile.FieldType.boolean)).before args0 about1 = true := code_word (m := ⟨1, 1⟩) (meth := k1m1) (c := k1c1) (by decide +kernel) rfl rfl rfl (by decide +kernel)
set_option maxRecDepth 65536 in
theorem w_c7 : (Jvm.Cond.code ({ cls := "com/example/tilescript/tilescript/TicTacToe", name := "play", desc := "(I)V" } : Jvm.MethodName) prog_19_method_8_code (8 : Nat) (Option.none : Option Jvm.ClassFile.FieldType)).before args0 about1 = true := code_word (m := ⟨2, 4⟩) (meth := k2m4) (c := k2c4) (by decide +kernel) rfl rfl rfl (by decide +kernel)
set_option maxRecDepth 65536 in
theorem w_c8 : (Jvm.Cond.code ({ cls := "com/example/tilescript/tilescript/TicTacToe", name := "isLegal", desc := "(I)Z" } : Jvm.MethodName) prog_19_method_7_code (2 : Nat) (Option.some Jvm.ClassFile.FieldType.boolean)).before args0 about1 = true := code_word (m := ⟨2, 3⟩) (meth := k2m3) (c := k2c3) (by decide +kernel) rfl rfl rfl (by decide +kernel)
set_option maxRecDepth 65536 in
theorem w_c9 : (Jvm.Cond.code ({ cls := "com/example/tilescript/tilescript/TicTacToe", name := "isOver", desc := "()Z" } : Jvm.MethodName) prog_19_method_5_code (1 : Nat) (Option.some Jvm.ClassFile.FieldType.boolean)).before args0 about1 = true := code_word (m := ⟨2, 2⟩) (meth := k2m2) (c := k2c2) (by decide +kernel) rfl rfl rfl (by decide +kernel)
set_option maxRecDepth 65536 in
theorem w_c10 : (Jvm.Cond.code ({ cls := "com/example/tilescript/tilescript/TicTacToe", name := "token", desc := "()C" } : Jvm.MethodName) prog_19_method_2_code (1 : Nat) (Option.some Jvm.ClassFile.FieldType.char)).before args0 about1 = true := code_word (m := ⟨2, 1⟩) (meth := k2m1) (c := k2c1) (by decide +kernel) rfl rfl rfl (by decide +kernel)
def codes1 : List Jvm.Cond := [Jvm.Cond.code x code maxLocals ret, Jvm.Cond.code ({ cls := "com/example/tilescript/tilescript/TicTacToe", name := "<init>", desc := "()V" } : Jvm.MethodName) prog_19_method_1_code (1 : Nat) (Option.none : Option Jvm.ClassFile.FieldType), Jvm.Cond.code ({ cls := "java/lang/Object", name := "<init>", desc := "()V" } : Jvm.MethodName) object_method_1_code (1 : Nat) (Option.none : Option Jvm.ClassFile.FieldType), Jvm.Cond.code ({ cls := "com/example/tilescript/tilescript/TicTacToeIsOverPinLaw", name := "cellOf", desc := "(JI)I" } : Jvm.MethodName) method_4_code (3 : Nat) (Option.some Jvm.ClassFile.FieldType.int), Jvm.Cond.code ({ cls := "com/example/tilescript/tilescript/TicTacToeIsOverPinLaw", name := "step", desc := "(Lcom/example/tilescript/tilescript/TicTacToe;[II)V" } : Jvm.MethodName) method_5_code (4 : Nat) (Option.none : Option Jvm.ClassFile.FieldType), Jvm.Cond.code ({ cls := "com/example/tilescript/tilescript/TicTacToeIsOverPinLaw", name := "over", desc := "([I)Z" } : Jvm.MethodName) method_3_code (1 : Nat) (Option.some Jvm.ClassFile.FieldType.boolean), Jvm.Cond.code ({ cls := "com/example/tilescript/tilescript/TicTacToeIsOverPinLaw", name := "won", desc := "(I)Z" } : Jvm.MethodName) method_2_code (1 : Nat) (Option.some Jvm.ClassFile.FieldType.boolean), Jvm.Cond.code ({ cls := "com/example/tilescript/tilescript/TicTacToe", name := "play", desc := "(I)V" } : Jvm.MethodName) prog_19_method_8_code (8 : Nat) (Option.none : Option Jvm.ClassFile.FieldType), Jvm.Cond.code ({ cls := "com/example/tilescript/tilescript/TicTacToe", name := "isLegal", desc := "(I)Z" } : Jvm.MethodName) prog_19_method_7_code (2 : Nat) (Option.some Jvm.ClassFile.FieldType.boolean), Jvm.Cond.code ({ cls := "com/example/tilescript/tilescript/TicTacToe", name := "isOver", desc := "()Z" } : Jvm.MethodName) prog_19_method_5_code (1 : Nat) (Option.some Jvm.ClassFile.FieldType.boolean), Jvm.Cond.code ({ cls := "com/example/tilescript/tilescript/TicTacToe", name := "token", desc := "()C" } : Jvm.MethodName) prog_19_method_2_code (1 : Nat) (Option.some Jvm.ClassFile.FieldType.char)]
set_option maxRecDepth 65536 in
theorem codes_eq : words1.filter isCode = codes1 := rfl
theorem w_codes : ∀ c ∈ words1.filter isCode, c.before args0 about1 = true := by
  rw [codes_eq]
  intro c hc
  simp only [codes1, List.mem_cons, List.not_mem_nil, or_false] at hc
  rcases hc with rfl | rfl | rfl | rfl | rfl | rfl | rfl | rfl | rfl | rfl | rfl
  · exact w_c0
  · exact w_c1
  · exact w_c2
  · exact w_c3
  · exact w_c4
  · exact w_c5
  · exact w_c6
  · exact w_c7
  · exact w_c8
  · exact w_c9
  · exact w_c10
set_option maxRecDepth 65536 in
theorem w_t1 : (words1.take 24).all (fun c => isCode c || c.before args0 about1) = true := by decide +kernel
set_option maxRecDepth 65536 in
theorem w_t2 : ((words1.drop 24).take 24).all (fun c => isCode c || c.before args0 about1) = true := by decide +kernel
set_option maxRecDepth 65536 in
theorem w_t3 : ((words1.drop 24).drop 24).all (fun c => isCode c || c.before args0 about1) = true := by decide +kernel
theorem w_tables : (allAtoms (Jvm.Cond.code x code maxLocals ret :: tables_1)).before args0 about1 = true := by
  rw [allAtoms_all]
  show words1.all (fun c => c.before args0 about1) = true
  refine all_split ?_ w_codes
  rw [← List.take_append_drop 24 words1, List.all_append, w_t1, ← List.take_append_drop 24 (words1.drop 24), List.all_append, w_t2, w_t3]
  rfl
set_option maxRecDepth 65536 in
theorem w_case : (Jvm.Cond.and given_1 narrow_1).before args0 about1 = true := by decide +kernel
theorem w_applies : (headSpec (Jvm.Cond.code x code maxLocals ret :: tables_1) room_1).applies x e0.platform about1 = true :=
  (Spec.applies_iff w_frames).mpr ⟨w_running, w_runnable, w_alone, w_named, w_hears, w_ripe, w_room, w_tables⟩
theorem atStart : AtStart classFile x code maxLocals ret World_1 tables_1 room_1 Calls_1 rest_1 Pre_1 launch0 p0 e0 about1 theMethod args0 below0 :=
  ⟨lists_1, trivial, launch0.admits_env _ _ _, launch0.least_env, fairChoices_fair.cas, fairChoices_fair.clock, w_frames, w_args, w_heap, w_applies, trivial, trivial, w_case⟩
end start1
theorem witness_1 : WitnessClaimed_1 := ⟨start1.p0, start1.e0, start1.about1, start1.theMethod, start1.args0, start1.below0, start1.atStart⟩
end Jvm.Pilot.@@N@@
