import JvmDerived
import JvmDerived.Pilot.@@N@@Statement
import JvmDerived.Pilot.@@N@@Code
set_option linter.unusedVariables false
set_option linter.unusedSimpArgs false
namespace Jvm.RoadKit
open Sem ClassFile Op Lib Jvm.Stand Jvm.Free Jvm.LawKit
section New
variable {p : Program} {l : Launch} {e : Env} {R : Room} {s : State} {m : MethodId} {args : Array Value} {below : List Frame} {meth : Method} {c : Code} {T : State} {locs : List Loc} {cells slots : Nat}
theorem retI (X : Stand p l e R s m args below meth c T locs cells slots) (hx : p.tables.exec = Jvm.exec) {pc : Nat} {Ls : Array Slot} {z : Int32} {rest : List Value} (hret : meth.sig.returnType = some .int) (hd : decode c.code pc = .ok (.ireturn, 1)) {fs : List Frame}
    (hl : ∀ (f : JFrame) (acts : List Action), f.method = m → f.locked = none → f.entered = [] → (doReturn e (T.setTop f) acts (some (.int z))).1 = T.setFrames fs) : Steps p.tables e below (T.setTop (mkF m pc Ls (.int z :: rest))) (T.setFrames fs) := by
  have hm' : T.vm.method? m = some meth := X.method'
  have hn : narrow .int (.int z) = .int z := rfl
  show Steps p.tables e below (T.setTop { method := m, pc := pc, locals := Ls, stack := _ :: rest, locked := none }) _
  jvm_step X.here [X.here.top, hx, hd, hm', hret, hn]
  first | (intro acts; rw [hl _ acts rfl rfl rfl]) | rw [hl _ _ rfl rfl rfl]
  exact Steps.refl _
end New
end Jvm.RoadKit
namespace Jvm.Pilot.@@N@@
open Jvm Jvm.ClassFile Sem Op Lib Jvm.Free Jvm.Stand Jvm.LawKit Jvm.RoadKit Bundle Jvm.Pilot.@@N@@.Jvm.D
def own_dead (c : Int32) : Int32 := if c = 90 then 1 else if c = 88 then 1 else 0
theorem own_dead_a {c : Int32} (h : c = 90) : own_dead c = 1 := by simp [own_dead, h]
theorem own_dead_b {c : Int32} (h : ¬ c = 90) (h' : c = 88) : own_dead c = 1 := by simp [own_dead, h']
theorem own_dead_c {c : Int32} (h : ¬ c = 90) (h' : ¬ c = 88) : own_dead c = 0 := by simp [own_dead, h, h']
theorem own_char {x : Int32} (h1 : 0 ≤ x.toInt) (h2 : x.toInt < 65536) : nar .char x = x := by
  have h := c_i2c x
  apply Int32.toInt_inj.mp
  show x.toUInt32.toUInt16.toUInt32.toInt32.toInt = x.toInt
  omega
theorem own_char_fits {x : Int32} (h : fits .char (.int x) = true) : nar .char x = x := by
  obtain ⟨h1, h2⟩ := rng_char h
  have e0 : (0 : Int32).toInt = 0 := rfl
  have e1 : (65535 : Int32).toInt = 65535 := rfl
  rw [Int32.lt_iff_toInt_lt] at h1 h2
  exact own_char (by omega) (by omega)
theorem own_i2c (x : Int32) : nar .char (x.toUInt32.toUInt16.toUInt32.toInt32) = x.toUInt32.toUInt16.toUInt32.toInt32 := own_char_fits (fits_nar_char x)
theorem own_15 (x : Int32) : ¬ (x &&& (15 : Int32)) < 0 ∧ (x &&& (15 : Int32)) < (16 : Int32) := by
  have h := c_mask x 15 4 (by decide) (by decide)
  have e0 : (0 : Int32).toInt = 0 := rfl
  have e1 : (16 : Int32).toInt = 16 := rfl
  rw [Int32.lt_iff_toInt_lt, Int32.lt_iff_toInt_lt, e0, e1]; omega
theorem own_bool {x : Int32} (h : x = 0 ∨ x = 1) : nar .boolean x = x := by rcases h with rfl | rfl <;> rfl
theorem own_dead01 (c : Int32) : own_dead c = 0 ∨ own_dead c = 1 := by unfold own_dead; split <;> (try split) <;> simp
theorem pn_1 : plainName "com/example/wary_rollout/waryrollout/agent/ProcessTable$Stat" = true := by first | (simp [plainName, overriddenIn]; done) | decide +kernel
theorem ef_1_RJIJJ (m : MethodId) (x0 : Addr) (x1 : Int64) (x2 : Int32) (x3 : Int64) (x4 : Int64) : entryFrame m #[(.ref x0), (.long x1), (.int x2), (.long x3), (.long x4)] 8 = mkF m 0 #[.val (.ref x0), .val (.long x1), .second, .val (.int x2), .val (.long x3), .second, .val (.long x4), .second] [] := by first | (simp [entryFrame, mkF, argsToLocals, Value.category]; done) | rfl
theorem d1_0 : decode prog_4_method_1_code 0 = .ok (.aload_n 0, 1) := by decide +kernel
theorem d1_1 : decode prog_4_method_1_code 1 = .ok (.invokespecial 1, 3) := by decide +kernel
theorem d1_4 : decode prog_4_method_1_code 4 = .ok (.aload_n 0, 1) := by decide +kernel
theorem d1_5 : decode prog_4_method_1_code 5 = .ok (.lload_n 1, 1) := by decide +kernel
theorem d1_6 : decode prog_4_method_1_code 6 = .ok (.putfield 7, 3) := by decide +kernel
theorem d1_9 : decode prog_4_method_1_code 9 = .ok (.aload_n 0, 1) := by decide +kernel
theorem d1_10 : decode prog_4_method_1_code 10 = .ok (.iload_n 3, 1) := by decide +kernel
theorem d1_11 : decode prog_4_method_1_code 11 = .ok (.putfield 13, 3) := by decide +kernel
theorem d1_14 : decode prog_4_method_1_code 14 = .ok (.aload_n 0, 1) := by decide +kernel
theorem d1_15 : decode prog_4_method_1_code 15 = .ok (.lload 4, 2) := by decide +kernel
theorem d1_17 : decode prog_4_method_1_code 17 = .ok (.putfield 17, 3) := by decide +kernel
theorem d1_20 : decode prog_4_method_1_code 20 = .ok (.aload_n 0, 1) := by decide +kernel
theorem d1_21 : decode prog_4_method_1_code 21 = .ok (.lload 6, 2) := by decide +kernel
theorem d1_23 : decode prog_4_method_1_code 23 = .ok (.putfield 20, 3) := by decide +kernel
theorem d1_26 : decode prog_4_method_1_code 26 = .ok (.return_, 1) := by decide +kernel
def Q_rmI (Z : State) (a1 : Addr) (j1 : Int64) (p2 : Int32) (j3 : Int64) (j4 : Int64) (h0 : Heap) (n0 : Nat) (v : Option Value) (h : Heap) (L : List Loc) : Prop := v = none ∧ Fr n0 L ∧ Keep h0 h [a1] ∧ Exa Z h a1 "com/example/wary_rollout/waryrollout/agent/ProcessTable$Stat" ∧ Fld Z h a1 "com/example/wary_rollout/waryrollout/agent/ProcessTable$Stat" "pid" "J" (.long j1) ∧ Fld Z h a1 "com/example/wary_rollout/waryrollout/agent/ProcessTable$Stat" "state" "C" (.int (nar .char p2)) ∧ Fld Z h a1 "com/example/wary_rollout/waryrollout/agent/ProcessTable$Stat" "parent" "J" (.long j3) ∧ Fld Z h a1 "com/example/wary_rollout/waryrollout/agent/ProcessTable$Stat" "startTicks" "J" (.long j4)
set_option maxRecDepth 65536 in
set_option maxHeartbeats 40000000 in
theorem rmI (l : Launch) (Z : State) (a0 : Array Value) (hw : ∀ d ∈ tables_1, d.before a0 Z = true) (ws : List Jvm.Cond) (a1 : Addr) (j1 : Int64) (p2 : Int32) (j3 : Int64) (j4 : Int64) (h0 : Heap) (n0 : Nat) (Z0 : n0 ≤ h0.size) (E0 : Exa Z h0 a1 "com/example/wary_rollout/waryrollout/agent/ProcessTable$Stat") (F_pid : Fld Z h0 a1 "com/example/wary_rollout/waryrollout/agent/ProcessTable$Stat" "pid" "J" (.long (0 : Int64))) (F_state : Fld Z h0 a1 "com/example/wary_rollout/waryrollout/agent/ProcessTable$Stat" "state" "C" (.int (0 : Int32))) (F_parent : Fld Z h0 a1 "com/example/wary_rollout/waryrollout/agent/ProcessTable$Stat" "parent" "J" (.long (0 : Int64))) (F_startTicks : Fld Z h0 a1 "com/example/wary_rollout/waryrollout/agent/ProcessTable$Stat" "startTicks" "J" (.long (0 : Int64))) (g0 : n0 ≤ a1) :
    MetFree l (⟨"com/example/wary_rollout/waryrollout/agent/ProcessTable$Stat", "<init>", "(JCJJ)V"⟩ : MethodName) (head1 (Jvm.Cond.code (⟨"com/example/wary_rollout/waryrollout/agent/ProcessTable$Stat", "<init>", "(JCJJ)V"⟩ : MethodName) prog_4_method_1_code 8 none :: ws) ({ frames := 1, cells := 0, slots := 0, locals := 12 } : Room)) (fun a U => a = #[(.ref a1), (.long j1), (.int p2), (.long j3), (.long j4)] ∧ Z.Warmed39 U.vm ∧ U.heap = h0) (fun _ _ _ _ _ => True) (fun _ U o U' => ∃ v L, o = .returned v ∧ Q_rmI Z a1 j1 p2 j3 j4 h0 n0 v U'.heap L ∧ FrameEnd U o U' L ({ frames := 1, cells := 0, slots := 0, locals := 12 } : Room).cells ({ frames := 1, cells := 0, slots := 0, locals := 12 } : Room).slots) := by
  refine MetFree.of_bodySF (plainFor_of_name pn_1) hisR ?_
  intro p e s m args below meth c s₁ Bd hml0 hP hK
  obtain ⟨rfl, hZ, hh⟩ := hP
  have hx := Bd.exec
  have hby := Bd.bytes
  have hml : c.maxLocals = 8 := hml0
  have hown : s.vm.findClass "com/example/wary_rollout/waryrollout/agent/ProcessTable$Stat" = some m.cls := findClass_of_methodNamed Bd.named
  have hnm := (name_of_methodNamed Bd.named Bd.method).1
  have X0 : Stand p l e ({ frames := 1, cells := 0, slots := 0, locals := 12 } : Room) s m #[(.ref a1), (.long j1), (.int p2), (.long j3), (.long j4)] below meth c s₁ [] 0 0 := Stand.of_body Bd
  have e0 : s₁.heap = h0 := by rw [← hh, Bd.state]; rfl
  have N0 := Fr.nil n0
  have pre0 : ∀ t, Steps p.tables e below (s₁.setTop (mkF m 0 #[.val (.ref a1), .val (.long j1), .second, .val (.int p2), .val (.long j3), .second, .val (.long j4), .second] [])) t → Steps p.tables e below (s₁.setTop (entryFrame m #[(.ref a1), (.long j1), (.int p2), (.long j3), (.long j4)] 8)) t := fun t k => castTop (ef_1_RJIJJ m a1 j1 p2 j3 j4) k
  obtain ⟨T1, X1, e1, st1⟩ := initO X0 hx hZ hown (hw _ (List.mem_of_getElem? (i := 8) rfl)) (hw _ (List.mem_of_getElem? (i := 9) rfl)) (hw _ (List.mem_of_getElem? (i := 10) rfl)) e0 (g := (mkF m 1 #[.val (.ref a1), .val (.long j1), .second, .val (.int p2), .val (.long j3), .second, .val (.long j4), .second] [(.ref a1)])) rfl (by rw [hml]; rfl) rfl (hb hby d1_1) (by decide) (W := 0) (by show 2 * 0 + _ ≤ _; exact Nat.le_of_eq rfl) (by decide)
  obtain ⟨T2, h2, X2, e2, W2, st2⟩ := putF X1 hx hZ hown (host := "") (Or.inl (hw _ (List.mem_of_getElem? (i := 11) rfl))) Via.refl e1 F_pid E0 (Or.inr ⟨(hw _ (List.mem_of_getElem? (i := 12) rfl)), rfl, hnm⟩) (hw _ (List.mem_of_getElem? (i := 3) rfl)) (ty := .long) (by decide) rfl rfl (g := (mkF m 6 #[.val (.ref a1), .val (.long j1), .second, .val (.int p2), .val (.long j3), .second, .val (.long j4), .second] [(.long j1), (.ref a1)])) rfl rfl (hb hby d1_6)
  have E0_2 := E0.wr W2
  have F_state_2 := F_state.other W2 (Or.inr (slot_ne (Or.inr (hw _ (List.mem_of_getElem? (i := 14) rfl))) (Or.inr (hw _ (List.mem_of_getElem? (i := 12) rfl))) (by decide) (t := .char) (t' := .long) (by decide) (by decide)))
  have F_parent_2 := F_parent.other W2 (Or.inr (slot_ne (Or.inr (hw _ (List.mem_of_getElem? (i := 16) rfl))) (Or.inr (hw _ (List.mem_of_getElem? (i := 12) rfl))) (by decide) (t := .long) (t' := .long) (by decide) (by decide)))
  have F_startTicks_2 := F_startTicks.other W2 (Or.inr (slot_ne (Or.inr (hw _ (List.mem_of_getElem? (i := 18) rfl))) (Or.inr (hw _ (List.mem_of_getElem? (i := 12) rfl))) (by decide) (t := .long) (t' := .long) (by decide) (by decide)))
  have Z2 : n0 ≤ h2.size := Nat.le_trans Z0 (Keep.of_wr W2).1
  have Kp2 : Keep h0 h2 [a1] := (Keep.refl h0 [a1]).wr W2 (Or.inl (by simp))
  have Fw2 : Fld Z h2 a1 "com/example/wary_rollout/waryrollout/agent/ProcessTable$Stat" "pid" "J" (.long j1) := F_pid.same W2
  have N2 := Fr.snoc X2 N0 g0
  obtain ⟨T3, h3, X3, e3, W3, st3⟩ := putFN X2 hx hZ hown (hw _ (List.mem_of_getElem? (i := 13) rfl)) Via.refl e2 F_state_2 E0_2 (Or.inr ⟨(hw _ (List.mem_of_getElem? (i := 14) rfl)), rfl, hnm⟩) (hw _ (List.mem_of_getElem? (i := 3) rfl)) (ty := .char) (v' := (.int (nar .char p2))) (by decide) rfl (fits_nar_char _) (g := (mkF m 11 #[.val (.ref a1), .val (.long j1), .second, .val (.int p2), .val (.long j3), .second, .val (.long j4), .second] [(.int p2), (.ref a1)])) rfl rfl (hb hby d1_11)
  have E0_3 := E0_2.wr W3
  have F_parent_3 := F_parent_2.other W3 (Or.inr (slot_ne (Or.inr (hw _ (List.mem_of_getElem? (i := 16) rfl))) (Or.inr (hw _ (List.mem_of_getElem? (i := 14) rfl))) (by decide) (t := .long) (t' := .char) (by decide) (by decide)))
  have F_startTicks_3 := F_startTicks_2.other W3 (Or.inr (slot_ne (Or.inr (hw _ (List.mem_of_getElem? (i := 18) rfl))) (Or.inr (hw _ (List.mem_of_getElem? (i := 14) rfl))) (by decide) (t := .long) (t' := .char) (by decide) (by decide)))
  have Fw2_3 := Fw2.other W3 (Or.inr (slot_ne (Or.inr (hw _ (List.mem_of_getElem? (i := 12) rfl))) (Or.inr (hw _ (List.mem_of_getElem? (i := 14) rfl))) (by decide) (t := .long) (t' := .char) (by decide) (by decide)))
  have Z3 : n0 ≤ h3.size := Nat.le_trans Z2 (Keep.of_wr W3).1
  have Kp3 : Keep h0 h3 [a1] := Kp2.wr W3 (Or.inl (by simp))
  have Fw3 : Fld Z h3 a1 "com/example/wary_rollout/waryrollout/agent/ProcessTable$Stat" "state" "C" (.int (nar .char p2)) := F_state_2.same W3
  have N3 := Fr.snoc X3 N2 g0
  obtain ⟨T4, h4, X4, e4, W4, st4⟩ := putF X3 hx hZ hown (host := "") (Or.inl (hw _ (List.mem_of_getElem? (i := 15) rfl))) Via.refl e3 F_parent_3 E0_3 (Or.inr ⟨(hw _ (List.mem_of_getElem? (i := 16) rfl)), rfl, hnm⟩) (hw _ (List.mem_of_getElem? (i := 3) rfl)) (ty := .long) (by decide) rfl rfl (g := (mkF m 17 #[.val (.ref a1), .val (.long j1), .second, .val (.int p2), .val (.long j3), .second, .val (.long j4), .second] [(.long j3), (.ref a1)])) rfl rfl (hb hby d1_17)
  have E0_4 := E0_3.wr W4
  have F_startTicks_4 := F_startTicks_3.other W4 (Or.inr (slot_ne (Or.inr (hw _ (List.mem_of_getElem? (i := 18) rfl))) (Or.inr (hw _ (List.mem_of_getElem? (i := 16) rfl))) (by decide) (t := .long) (t' := .long) (by decide) (by decide)))
  have Fw2_4 := Fw2_3.other W4 (Or.inr (slot_ne (Or.inr (hw _ (List.mem_of_getElem? (i := 12) rfl))) (Or.inr (hw _ (List.mem_of_getElem? (i := 16) rfl))) (by decide) (t := .long) (t' := .long) (by decide) (by decide)))
  have Fw3_4 := Fw3.other W4 (Or.inr (slot_ne (Or.inr (hw _ (List.mem_of_getElem? (i := 14) rfl))) (Or.inr (hw _ (List.mem_of_getElem? (i := 16) rfl))) (by decide) (t := .char) (t' := .long) (by decide) (by decide)))
  have Z4 : n0 ≤ h4.size := Nat.le_trans Z3 (Keep.of_wr W4).1
  have Kp4 : Keep h0 h4 [a1] := Kp3.wr W4 (Or.inl (by simp))
  have Fw4 : Fld Z h4 a1 "com/example/wary_rollout/waryrollout/agent/ProcessTable$Stat" "parent" "J" (.long j3) := F_parent_3.same W4
  have N4 := Fr.snoc X4 N3 g0
  obtain ⟨T5, h5, X5, e5, W5, st5⟩ := putF X4 hx hZ hown (host := "") (Or.inl (hw _ (List.mem_of_getElem? (i := 17) rfl))) Via.refl e4 F_startTicks_4 E0_4 (Or.inr ⟨(hw _ (List.mem_of_getElem? (i := 18) rfl)), rfl, hnm⟩) (hw _ (List.mem_of_getElem? (i := 3) rfl)) (ty := .long) (by decide) rfl rfl (g := (mkF m 23 #[.val (.ref a1), .val (.long j1), .second, .val (.int p2), .val (.long j3), .second, .val (.long j4), .second] [(.long j4), (.ref a1)])) rfl rfl (hb hby d1_23)
  have E0_5 := E0_4.wr W5
  have Fw2_5 := Fw2_4.other W5 (Or.inr (slot_ne (Or.inr (hw _ (List.mem_of_getElem? (i := 12) rfl))) (Or.inr (hw _ (List.mem_of_getElem? (i := 18) rfl))) (by decide) (t := .long) (t' := .long) (by decide) (by decide)))
  have Fw3_5 := Fw3_4.other W5 (Or.inr (slot_ne (Or.inr (hw _ (List.mem_of_getElem? (i := 14) rfl))) (Or.inr (hw _ (List.mem_of_getElem? (i := 18) rfl))) (by decide) (t := .char) (t' := .long) (by decide) (by decide)))
  have Fw4_5 := Fw4.other W5 (Or.inr (slot_ne (Or.inr (hw _ (List.mem_of_getElem? (i := 16) rfl))) (Or.inr (hw _ (List.mem_of_getElem? (i := 18) rfl))) (by decide) (t := .long) (t' := .long) (by decide) (by decide)))
  have Z5 : n0 ≤ h5.size := Nat.le_trans Z4 (Keep.of_wr W5).1
  have Kp5 : Keep h0 h5 [a1] := Kp4.wr W5 (Or.inl (by simp))
  have Fw5 : Fld Z h5 a1 "com/example/wary_rollout/waryrollout/agent/ProcessTable$Stat" "startTicks" "J" (.long j4) := F_startTicks_4.same W5
  have N5 := Fr.snoc X5 N4 g0
  obtain ⟨fs, hr, hrun, hended, hW, hsame⟩ := X5.leave (v := none) (fun _ => rfl)
  refine ⟨_, _, pre0 _ ?_, hrun, hended, _, _, rfl, ?_, ⟨_, rfl⟩, hW, hsame.mono (by decide) (by decide)⟩
  · show Steps p.tables e below (s₁.setTop (mkF m 0 #[.val (.ref a1), .val (.long j1), .second, .val (.int p2), .val (.long j3), .second, .val (.long j4), .second] [])) _
    refine XS.aloadN X0.here hx rfl (hb hby d1_0) rfl rfl ?_
    show Steps p.tables e below (s₁.setTop (mkF m 1 #[.val (.ref a1), .val (.long j1), .second, .val (.int p2), .val (.long j3), .second, .val (.long j4), .second] [(.ref a1)])) _
    refine st1 _ ?_
    show Steps p.tables e below (T1.setTop (mkF m 4 #[.val (.ref a1), .val (.long j1), .second, .val (.int p2), .val (.long j3), .second, .val (.long j4), .second] [])) _
    refine XS.aloadN X1.here hx rfl (hb hby d1_4) rfl rfl ?_
    show Steps p.tables e below (T1.setTop (mkF m 5 #[.val (.ref a1), .val (.long j1), .second, .val (.int p2), .val (.long j3), .second, .val (.long j4), .second] [(.ref a1)])) _
    refine XS.lloadN X1.here hx rfl (hb hby d1_5) rfl ?_
    show Steps p.tables e below (T1.setTop (mkF m 6 #[.val (.ref a1), .val (.long j1), .second, .val (.int p2), .val (.long j3), .second, .val (.long j4), .second] [(.long j1), (.ref a1)])) _
    refine st2 _ ?_
    show Steps p.tables e below (T2.setTop (mkF m 9 #[.val (.ref a1), .val (.long j1), .second, .val (.int p2), .val (.long j3), .second, .val (.long j4), .second] [])) _
    refine XS.aloadN X2.here hx rfl (hb hby d1_9) rfl rfl ?_
    show Steps p.tables e below (T2.setTop (mkF m 10 #[.val (.ref a1), .val (.long j1), .second, .val (.int p2), .val (.long j3), .second, .val (.long j4), .second] [(.ref a1)])) _
    refine XS.iloadN X2.here hx rfl (hb hby d1_10) rfl ?_
    show Steps p.tables e below (T2.setTop (mkF m 11 #[.val (.ref a1), .val (.long j1), .second, .val (.int p2), .val (.long j3), .second, .val (.long j4), .second] [(.int p2), (.ref a1)])) _
    refine st3 _ ?_
    show Steps p.tables e below (T3.setTop (mkF m 14 #[.val (.ref a1), .val (.long j1), .second, .val (.int p2), .val (.long j3), .second, .val (.long j4), .second] [])) _
    refine XS.aloadN X3.here hx rfl (hb hby d1_14) rfl rfl ?_
    show Steps p.tables e below (T3.setTop (mkF m 15 #[.val (.ref a1), .val (.long j1), .second, .val (.int p2), .val (.long j3), .second, .val (.long j4), .second] [(.ref a1)])) _
    refine XS.lload X3.here hx rfl (hb hby d1_15) rfl ?_
    show Steps p.tables e below (T3.setTop (mkF m 17 #[.val (.ref a1), .val (.long j1), .second, .val (.int p2), .val (.long j3), .second, .val (.long j4), .second] [(.long j3), (.ref a1)])) _
    refine st4 _ ?_
    show Steps p.tables e below (T4.setTop (mkF m 20 #[.val (.ref a1), .val (.long j1), .second, .val (.int p2), .val (.long j3), .second, .val (.long j4), .second] [])) _
    refine XS.aloadN X4.here hx rfl (hb hby d1_20) rfl rfl ?_
    show Steps p.tables e below (T4.setTop (mkF m 21 #[.val (.ref a1), .val (.long j1), .second, .val (.int p2), .val (.long j3), .second, .val (.long j4), .second] [(.ref a1)])) _
    refine XS.lload X4.here hx rfl (hb hby d1_21) rfl ?_
    show Steps p.tables e below (T4.setTop (mkF m 23 #[.val (.ref a1), .val (.long j1), .second, .val (.int p2), .val (.long j3), .second, .val (.long j4), .second] [(.long j4), (.ref a1)])) _
    refine st5 _ ?_
    show Steps p.tables e below (T5.setTop (mkF m 26 #[.val (.ref a1), .val (.long j1), .second, .val (.int p2), .val (.long j3), .second, .val (.long j4), .second] [])) _
    exact X5.returnOut hx Bd.returns (hb hby d1_26) hr
  · show Q_rmI Z a1 j1 p2 j3 j4 h0 n0 _ T5.heap _
    rw [e5]
    exact ⟨rfl, N5, Kp5, E0_5, Fw2_5, Fw3_5, Fw4_5, Fw5⟩
theorem pn_3 : plainName "com/example/wary_rollout/waryrollout/agent/ProcessTable$Stat" = true := by first | (simp [plainName, overriddenIn]; done) | decide +kernel
theorem ef_3_R (m : MethodId) (x0 : Addr) : entryFrame m #[(.ref x0)] 1 = mkF m 0 #[.val (.ref x0)] [] := by first | (simp [entryFrame, mkF, argsToLocals, Value.category]; done) | rfl
theorem d3_0 : decode prog_4_method_2_code 0 = .ok (.aload_n 0, 1) := by decide +kernel
theorem d3_1 : decode prog_4_method_2_code 1 = .ok (.getfield 13, 3) := by decide +kernel
theorem d3_4 : decode prog_4_method_2_code 4 = .ok (.bipush 90, 2) := by decide +kernel
theorem d3_6 : decode prog_4_method_2_code 6 = .ok (.if_icmp .eq 12, 3) := by decide +kernel
theorem d3_9 : decode prog_4_method_2_code 9 = .ok (.aload_n 0, 1) := by decide +kernel
theorem d3_10 : decode prog_4_method_2_code 10 = .ok (.getfield 13, 3) := by decide +kernel
theorem d3_13 : decode prog_4_method_2_code 13 = .ok (.bipush 88, 2) := by decide +kernel
theorem d3_15 : decode prog_4_method_2_code 15 = .ok (.if_icmp .ne 7, 3) := by decide +kernel
theorem d3_18 : decode prog_4_method_2_code 18 = .ok (.iconst 1, 1) := by decide +kernel
theorem d3_19 : decode prog_4_method_2_code 19 = .ok (.goto 4, 3) := by decide +kernel
theorem d3_22 : decode prog_4_method_2_code 22 = .ok (.iconst 0, 1) := by decide +kernel
theorem d3_23 : decode prog_4_method_2_code 23 = .ok (.ireturn, 1) := by decide +kernel
def Q_rmE (Z : State) (a1 : Addr) (w : Int32) (h0 : Heap) (n0 : Nat) (v : Option Value) (h : Heap) (L : List Loc) : Prop := v = some (.int (own_dead w)) ∧ Fr n0 L ∧ h = h0
set_option maxRecDepth 65536 in
set_option maxHeartbeats 40000000 in
theorem rmE (l : Launch) (Z : State) (a0 : Array Value) (hw : ∀ d ∈ tables_1, d.before a0 Z = true) (ws : List Jvm.Cond) (a1 : Addr) (w : Int32) (h0 : Heap) (n0 : Nat) (Z0 : n0 ≤ h0.size) (F0 : Fld Z h0 a1 "com/example/wary_rollout/waryrollout/agent/ProcessTable$Stat" "state" "C" (.int w)) :
    MetFree l (⟨"com/example/wary_rollout/waryrollout/agent/ProcessTable$Stat", "ended", "()Z"⟩ : MethodName) (head1 (Jvm.Cond.code (⟨"com/example/wary_rollout/waryrollout/agent/ProcessTable$Stat", "ended", "()Z"⟩ : MethodName) prog_4_method_2_code 1 (some .boolean) :: ws) ({ frames := 0, cells := 0, slots := 0, locals := 0 } : Room)) (fun a U => a = #[(.ref a1)] ∧ Z.Warmed39 U.vm ∧ U.heap = h0) (fun _ _ _ _ _ => True) (fun _ U o U' => ∃ v L, o = .returned v ∧ Q_rmE Z a1 w h0 n0 v U'.heap L ∧ FrameEnd U o U' L ({ frames := 0, cells := 0, slots := 0, locals := 0 } : Room).cells ({ frames := 0, cells := 0, slots := 0, locals := 0 } : Room).slots) := by
  refine MetFree.of_bodySF (plainFor_of_name pn_3) hisR ?_
  intro p e s m args below meth c s₁ Bd hml0 hP hK
  obtain ⟨rfl, hZ, hh⟩ := hP
  have hx := Bd.exec
  have hby := Bd.bytes
  have hml : c.maxLocals = 1 := hml0
  have hown : s.vm.findClass "com/example/wary_rollout/waryrollout/agent/ProcessTable$Stat" = some m.cls := findClass_of_methodNamed Bd.named
  have hnm := (name_of_methodNamed Bd.named Bd.method).1
  have X0 : Stand p l e ({ frames := 0, cells := 0, slots := 0, locals := 0 } : Room) s m #[(.ref a1)] below meth c s₁ [] 0 0 := Stand.of_body Bd
  have e0 : s₁.heap = h0 := by rw [← hh, Bd.state]; rfl
  have N0 := Fr.nil n0
  have pre0 : ∀ t, Steps p.tables e below (s₁.setTop (mkF m 0 #[.val (.ref a1)] [])) t → Steps p.tables e below (s₁.setTop (entryFrame m #[(.ref a1)] 1)) t := fun t k => castTop (ef_3_R m a1) k
  by_cases h90 : w = (90 : Int32)
  · obtain ⟨T1, X1, e1, st1⟩ := getF X0 hx hZ hown (host := "") (Or.inl (hw _ (List.mem_of_getElem? (i := 13) rfl))) Via.refl e0 F0 (g := (mkF m 1 #[.val (.ref a1)] [(.ref a1)])) rfl rfl (hb hby d3_1)
    obtain ⟨fs, hr, hrun, hended, hW, hsame⟩ := X1.leave (v := some (.int (1 : Int32))) (fun h => by rw [Bd.returns] at h; cases h)
    refine ⟨_, _, pre0 _ ?_, hrun, hended, _, _, rfl, ?_, ⟨_, rfl⟩, hW, hsame.mono (by decide) (by decide)⟩
    · show Steps p.tables e below (s₁.setTop (mkF m 0 #[.val (.ref a1)] [])) _
      refine XS.aloadN X0.here hx rfl (hb hby d3_0) rfl rfl ?_
      show Steps p.tables e below (s₁.setTop (mkF m 1 #[.val (.ref a1)] [(.ref a1)])) _
      refine st1 _ ?_
      show Steps p.tables e below (T1.setTop (mkF m 4 #[.val (.ref a1)] [(.int w)])) _
      refine XS.bipush X1.here hx rfl (hb hby d3_4) ?_
      show Steps p.tables e below (T1.setTop (mkF m 6 #[.val (.ref a1)] [(.int (90 : Int32)), (.int w)])) _
      refine XS.icmpYes X1.here hx rfl (pc0 := 6) (pc' := 18) rfl (hb hby d3_6) rfl (teq h90).1 (by decide) (by decide) ?_
      show Steps p.tables e below (T1.setTop (mkF m 18 #[.val (.ref a1)] [])) _
      refine XS.iconst X1.here hx rfl (hb hby d3_18) ?_
      show Steps p.tables e below (T1.setTop (mkF m 19 #[.val (.ref a1)] [(.int (1 : Int32))])) _
      refine XS.goto X1.here hx rfl (pc0 := 19) (pc' := 23) rfl (hb hby d3_19) (by decide) (by decide) ?_
      show Steps p.tables e below (T1.setTop (mkF m 23 #[.val (.ref a1)] [(.int (1 : Int32))])) _
      exact retN X1 hx (t := .boolean) Bd.returns (by simp) (hb hby d3_23) hr
    · show Q_rmE Z a1 w h0 n0 _ T1.heap _
      rw [e1]
      exact ⟨by rw [own_dead_a h90], N0, rfl⟩
  · by_cases h88 : w = (88 : Int32)
    · obtain ⟨T1, X1, e1, st1⟩ := getF X0 hx hZ hown (host := "") (Or.inl (hw _ (List.mem_of_getElem? (i := 13) rfl))) Via.refl e0 F0 (g := (mkF m 1 #[.val (.ref a1)] [(.ref a1)])) rfl rfl (hb hby d3_1)
      obtain ⟨T2, X2, e2, st2⟩ := getF X1 hx hZ hown (host := "") (Or.inl (hw _ (List.mem_of_getElem? (i := 13) rfl))) Via.refl e1 F0 (g := (mkF m 10 #[.val (.ref a1)] [(.ref a1)])) rfl rfl (hb hby d3_10)
      obtain ⟨fs, hr, hrun, hended, hW, hsame⟩ := X2.leave (v := some (.int (1 : Int32))) (fun h => by rw [Bd.returns] at h; cases h)
      refine ⟨_, _, pre0 _ ?_, hrun, hended, _, _, rfl, ?_, ⟨_, rfl⟩, hW, hsame.mono (by decide) (by decide)⟩
      · show Steps p.tables e below (s₁.setTop (mkF m 0 #[.val (.ref a1)] [])) _
        refine XS.aloadN X0.here hx rfl (hb hby d3_0) rfl rfl ?_
        show Steps p.tables e below (s₁.setTop (mkF m 1 #[.val (.ref a1)] [(.ref a1)])) _
        refine st1 _ ?_
        show Steps p.tables e below (T1.setTop (mkF m 4 #[.val (.ref a1)] [(.int w)])) _
        refine XS.bipush X1.here hx rfl (hb hby d3_4) ?_
        show Steps p.tables e below (T1.setTop (mkF m 6 #[.val (.ref a1)] [(.int (90 : Int32)), (.int w)])) _
        refine XS.icmpNo X1.here hx rfl (hb hby d3_6) rfl (feq h90).1 ?_
        show Steps p.tables e below (T1.setTop (mkF m 9 #[.val (.ref a1)] [])) _
        refine XS.aloadN X1.here hx rfl (hb hby d3_9) rfl rfl ?_
        show Steps p.tables e below (T1.setTop (mkF m 10 #[.val (.ref a1)] [(.ref a1)])) _
        refine st2 _ ?_
        show Steps p.tables e below (T2.setTop (mkF m 13 #[.val (.ref a1)] [(.int w)])) _
        refine XS.bipush X2.here hx rfl (hb hby d3_13) ?_
        show Steps p.tables e below (T2.setTop (mkF m 15 #[.val (.ref a1)] [(.int (88 : Int32)), (.int w)])) _
        refine XS.icmpNo X2.here hx rfl (hb hby d3_15) rfl (teq h88).2 ?_
        show Steps p.tables e below (T2.setTop (mkF m 18 #[.val (.ref a1)] [])) _
        refine XS.iconst X2.here hx rfl (hb hby d3_18) ?_
        show Steps p.tables e below (T2.setTop (mkF m 19 #[.val (.ref a1)] [(.int (1 : Int32))])) _
        refine XS.goto X2.here hx rfl (pc0 := 19) (pc' := 23) rfl (hb hby d3_19) (by decide) (by decide) ?_
        show Steps p.tables e below (T2.setTop (mkF m 23 #[.val (.ref a1)] [(.int (1 : Int32))])) _
        exact retN X2 hx (t := .boolean) Bd.returns (by simp) (hb hby d3_23) hr
      · show Q_rmE Z a1 w h0 n0 _ T2.heap _
        rw [e2]
        exact ⟨by rw [own_dead_b h90 h88], N0, rfl⟩
    · obtain ⟨T1, X1, e1, st1⟩ := getF X0 hx hZ hown (host := "") (Or.inl (hw _ (List.mem_of_getElem? (i := 13) rfl))) Via.refl e0 F0 (g := (mkF m 1 #[.val (.ref a1)] [(.ref a1)])) rfl rfl (hb hby d3_1)
      obtain ⟨T2, X2, e2, st2⟩ := getF X1 hx hZ hown (host := "") (Or.inl (hw _ (List.mem_of_getElem? (i := 13) rfl))) Via.refl e1 F0 (g := (mkF m 10 #[.val (.ref a1)] [(.ref a1)])) rfl rfl (hb hby d3_10)
      obtain ⟨fs, hr, hrun, hended, hW, hsame⟩ := X2.leave (v := some (.int (0 : Int32))) (fun h => by rw [Bd.returns] at h; cases h)
      refine ⟨_, _, pre0 _ ?_, hrun, hended, _, _, rfl, ?_, ⟨_, rfl⟩, hW, hsame.mono (by decide) (by decide)⟩
      · show Steps p.tables e below (s₁.setTop (mkF m 0 #[.val (.ref a1)] [])) _
        refine XS.aloadN X0.here hx rfl (hb hby d3_0) rfl rfl ?_
        show Steps p.tables e below (s₁.setTop (mkF m 1 #[.val (.ref a1)] [(.ref a1)])) _
        refine st1 _ ?_
        show Steps p.tables e below (T1.setTop (mkF m 4 #[.val (.ref a1)] [(.int w)])) _
        refine XS.bipush X1.here hx rfl (hb hby d3_4) ?_
        show Steps p.tables e below (T1.setTop (mkF m 6 #[.val (.ref a1)] [(.int (90 : Int32)), (.int w)])) _
        refine XS.icmpNo X1.here hx rfl (hb hby d3_6) rfl (feq h90).1 ?_
        show Steps p.tables e below (T1.setTop (mkF m 9 #[.val (.ref a1)] [])) _
        refine XS.aloadN X1.here hx rfl (hb hby d3_9) rfl rfl ?_
        show Steps p.tables e below (T1.setTop (mkF m 10 #[.val (.ref a1)] [(.ref a1)])) _
        refine st2 _ ?_
        show Steps p.tables e below (T2.setTop (mkF m 13 #[.val (.ref a1)] [(.int w)])) _
        refine XS.bipush X2.here hx rfl (hb hby d3_13) ?_
        show Steps p.tables e below (T2.setTop (mkF m 15 #[.val (.ref a1)] [(.int (88 : Int32)), (.int w)])) _
        refine XS.icmpYes X2.here hx rfl (pc0 := 15) (pc' := 22) rfl (hb hby d3_15) rfl (feq h88).2 (by decide) (by decide) ?_
        show Steps p.tables e below (T2.setTop (mkF m 22 #[.val (.ref a1)] [])) _
        refine XS.iconst X2.here hx rfl (hb hby d3_22) ?_
        show Steps p.tables e below (T2.setTop (mkF m 23 #[.val (.ref a1)] [(.int (0 : Int32))])) _
        exact retN X2 hx (t := .boolean) Bd.returns (by simp) (hb hby d3_23) hr
      · show Q_rmE Z a1 w h0 n0 _ T2.heap _
        rw [e2]
        exact ⟨by rw [own_dead_c h90 h88], N0, rfl⟩
theorem pn_4 : plainName "com/example/wary_rollout/waryrollout/agent/StatEndedPinLaw" = true := by first | (simp [plainName, overriddenIn]; done) | decide +kernel
theorem ef_4_I (m : MethodId) (x0 : Int32) : entryFrame m #[(.int x0)] 1 = mkF m 0 #[.val (.int x0)] [] := by first | (simp [entryFrame, mkF, argsToLocals, Value.category]; done) | rfl
theorem d4_0 : decode method_2_code 0 = .ok (.iload_n 0, 1) := by decide +kernel
theorem d4_1 : decode method_2_code 1 = .ok (.bipush 90, 2) := by decide +kernel
theorem d4_3 : decode method_2_code 3 = .ok (.if_icmp .ne 5, 3) := by decide +kernel
theorem d4_6 : decode method_2_code 6 = .ok (.iconst 1, 1) := by decide +kernel
theorem d4_7 : decode method_2_code 7 = .ok (.ireturn, 1) := by decide +kernel
theorem d4_8 : decode method_2_code 8 = .ok (.iload_n 0, 1) := by decide +kernel
theorem d4_9 : decode method_2_code 9 = .ok (.bipush 88, 2) := by decide +kernel
theorem d4_11 : decode method_2_code 11 = .ok (.if_icmp .ne 5, 3) := by decide +kernel
theorem d4_14 : decode method_2_code 14 = .ok (.iconst 1, 1) := by decide +kernel
theorem d4_15 : decode method_2_code 15 = .ok (.ireturn, 1) := by decide +kernel
theorem d4_16 : decode method_2_code 16 = .ok (.iconst 0, 1) := by decide +kernel
theorem d4_17 : decode method_2_code 17 = .ok (.ireturn, 1) := by decide +kernel
def Q_rmD (Z : State) (p1 : Int32) (h0 : Heap) (n0 : Nat) (v : Option Value) (h : Heap) (L : List Loc) : Prop := v = some (.int (own_dead p1)) ∧ Fr n0 L ∧ h = h0
set_option maxRecDepth 65536 in
set_option maxHeartbeats 40000000 in
theorem rmD (l : Launch) (Z : State) (a0 : Array Value) (hw : ∀ d ∈ tables_1, d.before a0 Z = true) (ws : List Jvm.Cond) (p1 : Int32) (h0 : Heap) (n0 : Nat) (Z0 : n0 ≤ h0.size) :
    MetFree l (⟨"com/example/wary_rollout/waryrollout/agent/StatEndedPinLaw", "deadLetter", "(C)Z"⟩ : MethodName) (head1 (Jvm.Cond.code (⟨"com/example/wary_rollout/waryrollout/agent/StatEndedPinLaw", "deadLetter", "(C)Z"⟩ : MethodName) method_2_code 1 (some .boolean) :: ws) ({ frames := 0, cells := 0, slots := 0, locals := 0 } : Room)) (fun a U => a = #[(.int p1)] ∧ Z.Warmed39 U.vm ∧ U.heap = h0) (fun _ _ _ _ _ => True) (fun _ U o U' => ∃ v L, o = .returned v ∧ Q_rmD Z p1 h0 n0 v U'.heap L ∧ FrameEnd U o U' L ({ frames := 0, cells := 0, slots := 0, locals := 0 } : Room).cells ({ frames := 0, cells := 0, slots := 0, locals := 0 } : Room).slots) := by
  refine MetFree.of_bodySF (plainFor_of_name pn_4) hisR ?_
  intro p e s m args below meth c s₁ Bd hml0 hP hK
  obtain ⟨rfl, hZ, hh⟩ := hP
  have hx := Bd.exec
  have hby := Bd.bytes
  have hml : c.maxLocals = 1 := hml0
  have hown : s.vm.findClass "com/example/wary_rollout/waryrollout/agent/StatEndedPinLaw" = some m.cls := findClass_of_methodNamed Bd.named
  have hnm := (name_of_methodNamed Bd.named Bd.method).1
  have X0 : Stand p l e ({ frames := 0, cells := 0, slots := 0, locals := 0 } : Room) s m #[(.int p1)] below meth c s₁ [] 0 0 := Stand.of_body Bd
  have e0 : s₁.heap = h0 := by rw [← hh, Bd.state]; rfl
  have N0 := Fr.nil n0
  have pre0 : ∀ t, Steps p.tables e below (s₁.setTop (mkF m 0 #[.val (.int p1)] [])) t → Steps p.tables e below (s₁.setTop (entryFrame m #[(.int p1)] 1)) t := fun t k => castTop (ef_4_I m p1) k
  by_cases h90 : p1 = (90 : Int32)
  · obtain ⟨fs, hr, hrun, hended, hW, hsame⟩ := X0.leave (v := some (.int (1 : Int32))) (fun h => by rw [Bd.returns] at h; cases h)
    refine ⟨_, _, pre0 _ ?_, hrun, hended, _, _, rfl, ?_, ⟨_, rfl⟩, hW, hsame.mono (by decide) (by decide)⟩
    · show Steps p.tables e below (s₁.setTop (mkF m 0 #[.val (.int p1)] [])) _
      refine XS.iloadN X0.here hx rfl (hb hby d4_0) rfl ?_
      show Steps p.tables e below (s₁.setTop (mkF m 1 #[.val (.int p1)] [(.int p1)])) _
      refine XS.bipush X0.here hx rfl (hb hby d4_1) ?_
      show Steps p.tables e below (s₁.setTop (mkF m 3 #[.val (.int p1)] [(.int (90 : Int32)), (.int p1)])) _
      refine XS.icmpNo X0.here hx rfl (hb hby d4_3) rfl (teq h90).2 ?_
      show Steps p.tables e below (s₁.setTop (mkF m 6 #[.val (.int p1)] [])) _
      refine XS.iconst X0.here hx rfl (hb hby d4_6) ?_
      show Steps p.tables e below (s₁.setTop (mkF m 7 #[.val (.int p1)] [(.int (1 : Int32))])) _
      exact retN X0 hx (t := .boolean) Bd.returns (by simp) (hb hby d4_7) hr
    · show Q_rmD Z p1 h0 n0 _ s₁.heap _
      rw [e0]
      exact ⟨by rw [own_dead_a h90], N0, rfl⟩
  · by_cases h88 : p1 = (88 : Int32)
    · obtain ⟨fs, hr, hrun, hended, hW, hsame⟩ := X0.leave (v := some (.int (1 : Int32))) (fun h => by rw [Bd.returns] at h; cases h)
      refine ⟨_, _, pre0 _ ?_, hrun, hended, _, _, rfl, ?_, ⟨_, rfl⟩, hW, hsame.mono (by decide) (by decide)⟩
      · show Steps p.tables e below (s₁.setTop (mkF m 0 #[.val (.int p1)] [])) _
        refine XS.iloadN X0.here hx rfl (hb hby d4_0) rfl ?_
        show Steps p.tables e below (s₁.setTop (mkF m 1 #[.val (.int p1)] [(.int p1)])) _
        refine XS.bipush X0.here hx rfl (hb hby d4_1) ?_
        show Steps p.tables e below (s₁.setTop (mkF m 3 #[.val (.int p1)] [(.int (90 : Int32)), (.int p1)])) _
        refine XS.icmpYes X0.here hx rfl (pc0 := 3) (pc' := 8) rfl (hb hby d4_3) rfl (feq h90).2 (by decide) (by decide) ?_
        show Steps p.tables e below (s₁.setTop (mkF m 8 #[.val (.int p1)] [])) _
        refine XS.iloadN X0.here hx rfl (hb hby d4_8) rfl ?_
        show Steps p.tables e below (s₁.setTop (mkF m 9 #[.val (.int p1)] [(.int p1)])) _
        refine XS.bipush X0.here hx rfl (hb hby d4_9) ?_
        show Steps p.tables e below (s₁.setTop (mkF m 11 #[.val (.int p1)] [(.int (88 : Int32)), (.int p1)])) _
        refine XS.icmpNo X0.here hx rfl (hb hby d4_11) rfl (teq h88).2 ?_
        show Steps p.tables e below (s₁.setTop (mkF m 14 #[.val (.int p1)] [])) _
        refine XS.iconst X0.here hx rfl (hb hby d4_14) ?_
        show Steps p.tables e below (s₁.setTop (mkF m 15 #[.val (.int p1)] [(.int (1 : Int32))])) _
        exact retN X0 hx (t := .boolean) Bd.returns (by simp) (hb hby d4_15) hr
      · show Q_rmD Z p1 h0 n0 _ s₁.heap _
        rw [e0]
        exact ⟨by rw [own_dead_b h90 h88], N0, rfl⟩
    · obtain ⟨fs, hr, hrun, hended, hW, hsame⟩ := X0.leave (v := some (.int (0 : Int32))) (fun h => by rw [Bd.returns] at h; cases h)
      refine ⟨_, _, pre0 _ ?_, hrun, hended, _, _, rfl, ?_, ⟨_, rfl⟩, hW, hsame.mono (by decide) (by decide)⟩
      · show Steps p.tables e below (s₁.setTop (mkF m 0 #[.val (.int p1)] [])) _
        refine XS.iloadN X0.here hx rfl (hb hby d4_0) rfl ?_
        show Steps p.tables e below (s₁.setTop (mkF m 1 #[.val (.int p1)] [(.int p1)])) _
        refine XS.bipush X0.here hx rfl (hb hby d4_1) ?_
        show Steps p.tables e below (s₁.setTop (mkF m 3 #[.val (.int p1)] [(.int (90 : Int32)), (.int p1)])) _
        refine XS.icmpYes X0.here hx rfl (pc0 := 3) (pc' := 8) rfl (hb hby d4_3) rfl (feq h90).2 (by decide) (by decide) ?_
        show Steps p.tables e below (s₁.setTop (mkF m 8 #[.val (.int p1)] [])) _
        refine XS.iloadN X0.here hx rfl (hb hby d4_8) rfl ?_
        show Steps p.tables e below (s₁.setTop (mkF m 9 #[.val (.int p1)] [(.int p1)])) _
        refine XS.bipush X0.here hx rfl (hb hby d4_9) ?_
        show Steps p.tables e below (s₁.setTop (mkF m 11 #[.val (.int p1)] [(.int (88 : Int32)), (.int p1)])) _
        refine XS.icmpYes X0.here hx rfl (pc0 := 11) (pc' := 16) rfl (hb hby d4_11) rfl (feq h88).2 (by decide) (by decide) ?_
        show Steps p.tables e below (s₁.setTop (mkF m 16 #[.val (.int p1)] [])) _
        refine XS.iconst X0.here hx rfl (hb hby d4_16) ?_
        show Steps p.tables e below (s₁.setTop (mkF m 17 #[.val (.int p1)] [(.int (0 : Int32))])) _
        exact retN X0 hx (t := .boolean) Bd.returns (by simp) (hb hby d4_17) hr
      · show Q_rmD Z p1 h0 n0 _ s₁.heap _
        rw [e0]
        exact ⟨by rw [own_dead_c h90 h88], N0, rfl⟩
theorem pn_5 : plainName "com/example/wary_rollout/waryrollout/agent/ProcessTable$Stat" = true := by first | (simp [plainName, overriddenIn]; done) | decide +kernel
theorem ef_5_R (m : MethodId) (x0 : Addr) : entryFrame m #[(.ref x0)] 1 = mkF m 0 #[.val (.ref x0)] [] := by first | (simp [entryFrame, mkF, argsToLocals, Value.category]; done) | rfl
theorem d5_0 : decode prog_4_method_3_code 0 = .ok (.aload_n 0, 1) := by decide +kernel
theorem d5_1 : decode prog_4_method_3_code 1 = .ok (.getfield 7, 3) := by decide +kernel
theorem d5_4 : decode prog_4_method_3_code 4 = .ok (.lreturn, 1) := by decide +kernel
def Q_rmP (Z : State) (a1 : Addr) (w : Int64) (h0 : Heap) (n0 : Nat) (v : Option Value) (h : Heap) (L : List Loc) : Prop := v = some (.long w) ∧ Fr n0 L ∧ h = h0
set_option maxRecDepth 65536 in
set_option maxHeartbeats 40000000 in
theorem rmP (l : Launch) (Z : State) (a0 : Array Value) (hw : ∀ d ∈ tables_1, d.before a0 Z = true) (ws : List Jvm.Cond) (a1 : Addr) (w : Int64) (h0 : Heap) (n0 : Nat) (Z0 : n0 ≤ h0.size) (F0 : Fld Z h0 a1 "com/example/wary_rollout/waryrollout/agent/ProcessTable$Stat" "pid" "J" (.long w)) :
    MetFree l (⟨"com/example/wary_rollout/waryrollout/agent/ProcessTable$Stat", "pid", "()J"⟩ : MethodName) (head1 (Jvm.Cond.code (⟨"com/example/wary_rollout/waryrollout/agent/ProcessTable$Stat", "pid", "()J"⟩ : MethodName) prog_4_method_3_code 1 (some .long) :: ws) ({ frames := 0, cells := 0, slots := 0, locals := 0 } : Room)) (fun a U => a = #[(.ref a1)] ∧ Z.Warmed39 U.vm ∧ U.heap = h0) (fun _ _ _ _ _ => True) (fun _ U o U' => ∃ v L, o = .returned v ∧ Q_rmP Z a1 w h0 n0 v U'.heap L ∧ FrameEnd U o U' L ({ frames := 0, cells := 0, slots := 0, locals := 0 } : Room).cells ({ frames := 0, cells := 0, slots := 0, locals := 0 } : Room).slots) := by
  refine MetFree.of_bodySF (plainFor_of_name pn_5) hisR ?_
  intro p e s m args below meth c s₁ Bd hml0 hP hK
  obtain ⟨rfl, hZ, hh⟩ := hP
  have hx := Bd.exec
  have hby := Bd.bytes
  have hml : c.maxLocals = 1 := hml0
  have hown : s.vm.findClass "com/example/wary_rollout/waryrollout/agent/ProcessTable$Stat" = some m.cls := findClass_of_methodNamed Bd.named
  have hnm := (name_of_methodNamed Bd.named Bd.method).1
  have X0 : Stand p l e ({ frames := 0, cells := 0, slots := 0, locals := 0 } : Room) s m #[(.ref a1)] below meth c s₁ [] 0 0 := Stand.of_body Bd
  have e0 : s₁.heap = h0 := by rw [← hh, Bd.state]; rfl
  have N0 := Fr.nil n0
  have pre0 : ∀ t, Steps p.tables e below (s₁.setTop (mkF m 0 #[.val (.ref a1)] [])) t → Steps p.tables e below (s₁.setTop (entryFrame m #[(.ref a1)] 1)) t := fun t k => castTop (ef_5_R m a1) k
  obtain ⟨T1, X1, e1, st1⟩ := getF X0 hx hZ hown (host := "") (Or.inl (hw _ (List.mem_of_getElem? (i := 11) rfl))) Via.refl e0 F0 (g := (mkF m 1 #[.val (.ref a1)] [(.ref a1)])) rfl rfl (hb hby d5_1)
  obtain ⟨fs, hr, hrun, hended, hW, hsame⟩ := X1.leave (v := some (.long w)) (fun h => by rw [Bd.returns] at h; cases h)
  refine ⟨_, _, pre0 _ ?_, hrun, hended, _, _, rfl, ?_, ⟨_, rfl⟩, hW, hsame.mono (by decide) (by decide)⟩
  · show Steps p.tables e below (s₁.setTop (mkF m 0 #[.val (.ref a1)] [])) _
    refine XS.aloadN X0.here hx rfl (hb hby d5_0) rfl rfl ?_
    show Steps p.tables e below (s₁.setTop (mkF m 1 #[.val (.ref a1)] [(.ref a1)])) _
    refine st1 _ ?_
    show Steps p.tables e below (T1.setTop (mkF m 4 #[.val (.ref a1)] [(.long w)])) _
    jvm_step X1.here [X1.here.top, hx, (hb hby d5_4), X1.method', Bd.returns, narrow]
    first | (intro acts; rw [hr _ acts rfl rfl rfl]) | rw [hr _ _ rfl rfl rfl]
    exact Steps.refl _
  · show Q_rmP Z a1 w h0 n0 _ T1.heap _
    rw [e1]
    exact ⟨rfl, N0, rfl⟩
theorem pn_6 : plainName "com/example/wary_rollout/waryrollout/agent/ProcessTable$Stat" = true := by first | (simp [plainName, overriddenIn]; done) | decide +kernel
theorem ef_6_R (m : MethodId) (x0 : Addr) : entryFrame m #[(.ref x0)] 1 = mkF m 0 #[.val (.ref x0)] [] := by first | (simp [entryFrame, mkF, argsToLocals, Value.category]; done) | rfl
theorem d6_0 : decode prog_4_method_4_code 0 = .ok (.aload_n 0, 1) := by decide +kernel
theorem d6_1 : decode prog_4_method_4_code 1 = .ok (.getfield 17, 3) := by decide +kernel
theorem d6_4 : decode prog_4_method_4_code 4 = .ok (.lreturn, 1) := by decide +kernel
def Q_rmQ (Z : State) (a1 : Addr) (w : Int64) (h0 : Heap) (n0 : Nat) (v : Option Value) (h : Heap) (L : List Loc) : Prop := v = some (.long w) ∧ Fr n0 L ∧ h = h0
set_option maxRecDepth 65536 in
set_option maxHeartbeats 40000000 in
theorem rmQ (l : Launch) (Z : State) (a0 : Array Value) (hw : ∀ d ∈ tables_1, d.before a0 Z = true) (ws : List Jvm.Cond) (a1 : Addr) (w : Int64) (h0 : Heap) (n0 : Nat) (Z0 : n0 ≤ h0.size) (F0 : Fld Z h0 a1 "com/example/wary_rollout/waryrollout/agent/ProcessTable$Stat" "parent" "J" (.long w)) :
    MetFree l (⟨"com/example/wary_rollout/waryrollout/agent/ProcessTable$Stat", "parent", "()J"⟩ : MethodName) (head1 (Jvm.Cond.code (⟨"com/example/wary_rollout/waryrollout/agent/ProcessTable$Stat", "parent", "()J"⟩ : MethodName) prog_4_method_4_code 1 (some .long) :: ws) ({ frames := 0, cells := 0, slots := 0, locals := 0 } : Room)) (fun a U => a = #[(.ref a1)] ∧ Z.Warmed39 U.vm ∧ U.heap = h0) (fun _ _ _ _ _ => True) (fun _ U o U' => ∃ v L, o = .returned v ∧ Q_rmQ Z a1 w h0 n0 v U'.heap L ∧ FrameEnd U o U' L ({ frames := 0, cells := 0, slots := 0, locals := 0 } : Room).cells ({ frames := 0, cells := 0, slots := 0, locals := 0 } : Room).slots) := by
  refine MetFree.of_bodySF (plainFor_of_name pn_6) hisR ?_
  intro p e s m args below meth c s₁ Bd hml0 hP hK
  obtain ⟨rfl, hZ, hh⟩ := hP
  have hx := Bd.exec
  have hby := Bd.bytes
  have hml : c.maxLocals = 1 := hml0
  have hown : s.vm.findClass "com/example/wary_rollout/waryrollout/agent/ProcessTable$Stat" = some m.cls := findClass_of_methodNamed Bd.named
  have hnm := (name_of_methodNamed Bd.named Bd.method).1
  have X0 : Stand p l e ({ frames := 0, cells := 0, slots := 0, locals := 0 } : Room) s m #[(.ref a1)] below meth c s₁ [] 0 0 := Stand.of_body Bd
  have e0 : s₁.heap = h0 := by rw [← hh, Bd.state]; rfl
  have N0 := Fr.nil n0
  have pre0 : ∀ t, Steps p.tables e below (s₁.setTop (mkF m 0 #[.val (.ref a1)] [])) t → Steps p.tables e below (s₁.setTop (entryFrame m #[(.ref a1)] 1)) t := fun t k => castTop (ef_6_R m a1) k
  obtain ⟨T1, X1, e1, st1⟩ := getF X0 hx hZ hown (host := "") (Or.inl (hw _ (List.mem_of_getElem? (i := 15) rfl))) Via.refl e0 F0 (g := (mkF m 1 #[.val (.ref a1)] [(.ref a1)])) rfl rfl (hb hby d6_1)
  obtain ⟨fs, hr, hrun, hended, hW, hsame⟩ := X1.leave (v := some (.long w)) (fun h => by rw [Bd.returns] at h; cases h)
  refine ⟨_, _, pre0 _ ?_, hrun, hended, _, _, rfl, ?_, ⟨_, rfl⟩, hW, hsame.mono (by decide) (by decide)⟩
  · show Steps p.tables e below (s₁.setTop (mkF m 0 #[.val (.ref a1)] [])) _
    refine XS.aloadN X0.here hx rfl (hb hby d6_0) rfl rfl ?_
    show Steps p.tables e below (s₁.setTop (mkF m 1 #[.val (.ref a1)] [(.ref a1)])) _
    refine st1 _ ?_
    show Steps p.tables e below (T1.setTop (mkF m 4 #[.val (.ref a1)] [(.long w)])) _
    jvm_step X1.here [X1.here.top, hx, (hb hby d6_4), X1.method', Bd.returns, narrow]
    first | (intro acts; rw [hr _ acts rfl rfl rfl]) | rw [hr _ _ rfl rfl rfl]
    exact Steps.refl _
  · show Q_rmQ Z a1 w h0 n0 _ T1.heap _
    rw [e1]
    exact ⟨rfl, N0, rfl⟩
theorem pn_7 : plainName "com/example/wary_rollout/waryrollout/agent/ProcessTable$Stat" = true := by first | (simp [plainName, overriddenIn]; done) | decide +kernel
theorem ef_7_R (m : MethodId) (x0 : Addr) : entryFrame m #[(.ref x0)] 1 = mkF m 0 #[.val (.ref x0)] [] := by first | (simp [entryFrame, mkF, argsToLocals, Value.category]; done) | rfl
theorem d7_0 : decode prog_4_method_5_code 0 = .ok (.aload_n 0, 1) := by decide +kernel
theorem d7_1 : decode prog_4_method_5_code 1 = .ok (.getfield 20, 3) := by decide +kernel
theorem d7_4 : decode prog_4_method_5_code 4 = .ok (.lreturn, 1) := by decide +kernel
def Q_rmS (Z : State) (a1 : Addr) (w : Int64) (h0 : Heap) (n0 : Nat) (v : Option Value) (h : Heap) (L : List Loc) : Prop := v = some (.long w) ∧ Fr n0 L ∧ h = h0
set_option maxRecDepth 65536 in
set_option maxHeartbeats 40000000 in
theorem rmS (l : Launch) (Z : State) (a0 : Array Value) (hw : ∀ d ∈ tables_1, d.before a0 Z = true) (ws : List Jvm.Cond) (a1 : Addr) (w : Int64) (h0 : Heap) (n0 : Nat) (Z0 : n0 ≤ h0.size) (F0 : Fld Z h0 a1 "com/example/wary_rollout/waryrollout/agent/ProcessTable$Stat" "startTicks" "J" (.long w)) :
    MetFree l (⟨"com/example/wary_rollout/waryrollout/agent/ProcessTable$Stat", "startTicks", "()J"⟩ : MethodName) (head1 (Jvm.Cond.code (⟨"com/example/wary_rollout/waryrollout/agent/ProcessTable$Stat", "startTicks", "()J"⟩ : MethodName) prog_4_method_5_code 1 (some .long) :: ws) ({ frames := 0, cells := 0, slots := 0, locals := 0 } : Room)) (fun a U => a = #[(.ref a1)] ∧ Z.Warmed39 U.vm ∧ U.heap = h0) (fun _ _ _ _ _ => True) (fun _ U o U' => ∃ v L, o = .returned v ∧ Q_rmS Z a1 w h0 n0 v U'.heap L ∧ FrameEnd U o U' L ({ frames := 0, cells := 0, slots := 0, locals := 0 } : Room).cells ({ frames := 0, cells := 0, slots := 0, locals := 0 } : Room).slots) := by
  refine MetFree.of_bodySF (plainFor_of_name pn_7) hisR ?_
  intro p e s m args below meth c s₁ Bd hml0 hP hK
  obtain ⟨rfl, hZ, hh⟩ := hP
  have hx := Bd.exec
  have hby := Bd.bytes
  have hml : c.maxLocals = 1 := hml0
  have hown : s.vm.findClass "com/example/wary_rollout/waryrollout/agent/ProcessTable$Stat" = some m.cls := findClass_of_methodNamed Bd.named
  have hnm := (name_of_methodNamed Bd.named Bd.method).1
  have X0 : Stand p l e ({ frames := 0, cells := 0, slots := 0, locals := 0 } : Room) s m #[(.ref a1)] below meth c s₁ [] 0 0 := Stand.of_body Bd
  have e0 : s₁.heap = h0 := by rw [← hh, Bd.state]; rfl
  have N0 := Fr.nil n0
  have pre0 : ∀ t, Steps p.tables e below (s₁.setTop (mkF m 0 #[.val (.ref a1)] [])) t → Steps p.tables e below (s₁.setTop (entryFrame m #[(.ref a1)] 1)) t := fun t k => castTop (ef_7_R m a1) k
  obtain ⟨T1, X1, e1, st1⟩ := getF X0 hx hZ hown (host := "") (Or.inl (hw _ (List.mem_of_getElem? (i := 17) rfl))) Via.refl e0 F0 (g := (mkF m 1 #[.val (.ref a1)] [(.ref a1)])) rfl rfl (hb hby d7_1)
  obtain ⟨fs, hr, hrun, hended, hW, hsame⟩ := X1.leave (v := some (.long w)) (fun h => by rw [Bd.returns] at h; cases h)
  refine ⟨_, _, pre0 _ ?_, hrun, hended, _, _, rfl, ?_, ⟨_, rfl⟩, hW, hsame.mono (by decide) (by decide)⟩
  · show Steps p.tables e below (s₁.setTop (mkF m 0 #[.val (.ref a1)] [])) _
    refine XS.aloadN X0.here hx rfl (hb hby d7_0) rfl rfl ?_
    show Steps p.tables e below (s₁.setTop (mkF m 1 #[.val (.ref a1)] [(.ref a1)])) _
    refine st1 _ ?_
    show Steps p.tables e below (T1.setTop (mkF m 4 #[.val (.ref a1)] [(.long w)])) _
    jvm_step X1.here [X1.here.top, hx, (hb hby d7_4), X1.method', Bd.returns, narrow]
    first | (intro acts; rw [hr _ acts rfl rfl rfl]) | rw [hr _ _ rfl rfl rfl]
    exact Steps.refl _
  · show Q_rmS Z a1 w h0 n0 _ T1.heap _
    rw [e1]
    exact ⟨rfl, N0, rfl⟩
theorem pn_0 : plainName "com/example/wary_rollout/waryrollout/agent/StatEndedPinLaw" = true := by first | (simp [plainName, overriddenIn]; done) | decide +kernel
theorem pd_0 : parseMethodDescriptor "(JCJJ)V" = some ⟨[.long, .char, .long, .long], none⟩ := by decide +kernel
theorem pd_2 : parseMethodDescriptor "()Z" = some ⟨[], some .boolean⟩ := by decide +kernel
theorem pd_3 : parseMethodDescriptor "(C)Z" = some ⟨[.char], some .boolean⟩ := by decide +kernel
theorem pd_4 : parseMethodDescriptor "()J" = some ⟨[], some .long⟩ := by decide +kernel
set_option maxRecDepth 65536 in
set_option maxHeartbeats 40000000 in
theorem own_tail {p : Program} {l : Launch} {e : Env} {s : State} {m : MethodId} {args : Array Value} {below : List Frame} {meth : Method} {c : Code} {T0 : State} {locs : List Loc} {Z : State} {a0 : Array Value} {h0 : Heap} {n0 : Nat} (p1 : Int32) (p2 : Int32) (j1 : Int64) (j2 : Int64) (j3 : Int64) (a : Addr) (u : Int32) (ch : Int32)
    (X0 : Stand p l e room_1 s m args below meth c T0 locs 1 16) (hx : p.tables.exec = Jvm.exec) (hZ : Z.Warmed39 s.vm) (hw : ∀ d ∈ tables_1, d.before a0 Z = true) (hby : c.code = code) (hml : c.maxLocals = 13) (hown : s.vm.findClass "com/example/wary_rollout/waryrollout/agent/StatEndedPinLaw" = some m.cls) (e0 : T0.heap = h0) (N0 : Fr n0 locs) (Z0 : n0 ≤ h0.size) (hc1 : nar .char ch = ch) :
    ∃ (T' : State) (locs' : List Loc) (h' : Heap) (E : Addr), Stand p l e room_1 s m args below meth c T' locs' 2 20 ∧ T'.heap = h' ∧ Fr n0 locs' ∧
      ∀ target, Steps p.tables e below (T'.setTop (mkF m 239 #[.val (.int p1), .val (.int p2), .val (.long j1), .second, .val (.long j2), .second, .val (.long j3), .second, .val (.ref a), .val (.int u), .val (.int ch), .val (.ref E), .val (.int (1 : Int32))] [(.int (1 : Int32))])) target → Steps p.tables e below (T0.setTop (mkF m 133 #[.val (.int p1), .val (.int p2), .val (.long j1), .second, .val (.long j2), .second, .val (.long j3), .second, .val (.ref a), .val (.int u), .val (.int ch), .unset, .unset] [])) target := by
  obtain ⟨T1, h1, X1, e1, E1, A1, D1, -, st1⟩ := newO X0 hx hZ hown (hw _ (List.mem_of_getElem? (i := 2) rfl)) (hw _ (List.mem_of_getElem? (i := 3) rfl)) (hw _ (List.mem_of_getElem? (i := 4) rfl)) e0 (g := (mkF m 133 #[.val (.int p1), .val (.int p2), .val (.long j1), .second, .val (.long j2), .second, .val (.long j3), .second, .val (.ref a), .val (.int u), .val (.int ch), .unset, .unset] [])) rfl (hb hby at_133) (by decide) (by decide)
  obtain ⟨b1, g1⟩ : ∃ z, z = h0.size := ⟨_, rfl⟩
  rw [← g1] at A1 D1 st1
  have ge_b1 : n0 ≤ b1 := Nat.le_trans Z0 (Nat.le_of_eq g1.symm)
  have sz_b1 : h0.size ≤ b1 := Nat.le_trans (Keep.refl h0 []).1 (Nat.le_of_eq g1.symm)
  have Z1 : n0 ≤ h1.size := Nat.le_trans Z0 E1.1
  have Kp1 : Keep h0 h1 [] := (Keep.refl h0 []).ext E1
  have F_pid_b1 : Fld Z h1 b1 "com/example/wary_rollout/waryrollout/agent/ProcessTable$Stat" "pid" "J" (.long (0 : Int64)) := D1 (Or.inr (hw _ (List.mem_of_getElem? (i := 12) rfl))) (ty := .long) (by decide)
  have F_state_b1 : Fld Z h1 b1 "com/example/wary_rollout/waryrollout/agent/ProcessTable$Stat" "state" "C" (.int (0 : Int32)) := D1 (Or.inr (hw _ (List.mem_of_getElem? (i := 14) rfl))) (ty := .char) (by decide)
  have F_parent_b1 : Fld Z h1 b1 "com/example/wary_rollout/waryrollout/agent/ProcessTable$Stat" "parent" "J" (.long (0 : Int64)) := D1 (Or.inr (hw _ (List.mem_of_getElem? (i := 16) rfl))) (ty := .long) (by decide)
  have F_startTicks_b1 : Fld Z h1 b1 "com/example/wary_rollout/waryrollout/agent/ProcessTable$Stat" "startTicks" "J" (.long (0 : Int64)) := D1 (Or.inr (hw _ (List.mem_of_getElem? (i := 18) rfl))) (ty := .long) (by decide)
  obtain ⟨_, _, ⟨T2, L2, k2, n2⟩, -, X2, ⟨Lc2, hQ2, l2, y2, z2⟩, st2⟩ := X1.specialBack hx (y := (⟨"com/example/wary_rollout/waryrollout/agent/ProcessTable$Stat", "<init>", "(JCJJ)V"⟩ : MethodName)) rfl hown (mvT hZ (hw _ (List.mem_of_getElem? (i := 5) rfl))) (mvT hZ (hw _ (List.mem_of_getElem? (i := 6) rfl))) (mvT hZ (hw _ (List.mem_of_getElem? (i := 7) rfl))) (by decide) (backOf (W := 1) (rmI l Z a0 hw [] b1 j1 ch j2 j3 h1 n0 Z1 A1 F_pid_b1 F_state_b1 F_parent_b1 F_startTicks_b1 ge_b1) hZ (hw _ (List.mem_of_getElem? (i := 7) rfl)) (hw _ (List.mem_of_getElem? (i := 4) rfl)) (by decide) (by decide)) (g := (mkF m 144 #[.val (.int p1), .val (.int p2), .val (.long j1), .second, .val (.long j2), .second, .val (.long j3), .second, .val (.ref a), .val (.int u), .val (.int ch), .unset, .unset] [(.long j3), (.long j2), (.int ch), (.long j1), (.ref b1), (.ref b1)])) rfl (by rw [hml]; rfl) (Steps.refl _) (a := b1) (argsL := [(.long j1), (.int ch), (.long j2), (.long j3)]) (rest := [(.ref b1)]) (lenOf pd_0 rfl) rfl (by show 2 * 0 + _ ≤ _; exact Nat.le_of_eq rfl) (hb hby at_144) (fun _ _ => ⟨rfl, e1, (by decide : 2 + 0 ≤ _), (by decide : 20 + 0 ≤ _)⟩)
  dsimp only [Pt.U, Pt.locs, Pt.cells, Pt.slots] at X2 l2 y2 z2 st2 hQ2
  subst l2 y2 z2
  obtain ⟨rfl, Nq2, K2, ex2, fpid2, fstate2, fparent2, fstartTicks2⟩ := hQ2
  have A1_2 := A1.keep K2
  have Z2 : n0 ≤ T2.heap.size := Nat.le_trans Z1 K2.1
  have Kp2 : Keep h0 T2.heap [] := Kp1.trans K2 (allS (Or.inr sz_b1) all0)
  have N2 := Fr.app N0 Nq2
  obtain ⟨cq3, kq3, q3a, q3b, q3c⟩ := isOf hZ rfl ex2
  obtain ⟨_, _, ⟨T3, L3, k3, n3⟩, -, X3, ⟨Lc3, hQ3, l3, y3, z3⟩, st3⟩ := X2.virtualBack hx (y := (⟨"com/example/wary_rollout/waryrollout/agent/ProcessTable$Stat", "ended", "()Z"⟩ : MethodName)) (z := (⟨"com/example/wary_rollout/waryrollout/agent/ProcessTable$Stat", "ended", "()Z"⟩ : MethodName)) hown (mvT hZ (hw _ (List.mem_of_getElem? (i := 19) rfl))) (mvT hZ (hw _ (List.mem_of_getElem? (i := 20) rfl))) (notFace_of_selects (args := #[]) (mvT hZ (hw _ (List.mem_of_getElem? (i := 22) rfl)))) (mvT hZ (hw _ (List.mem_of_getElem? (i := 22) rfl))) (mvT hZ (hw _ (List.mem_of_getElem? (i := 21) rfl))) (by decide) (backOf (W := 0) (rmE l Z a0 hw [] b1 (nar .char ch) T2.heap n0 Z2 fstate2) hZ (hw _ (List.mem_of_getElem? (i := 23) rfl)) (hw _ (List.mem_of_getElem? (i := 4) rfl)) (by decide) (by decide)) q3a q3c (g := (mkF m 151 #[.val (.int p1), .val (.int p2), .val (.long j1), .second, .val (.long j2), .second, .val (.long j3), .second, .val (.ref a), .val (.int u), .val (.int ch), .val (.ref b1), .unset] [(.ref b1)])) rfl (by rw [hml]; rfl) (Steps.refl _) (argsL := []) (rest := []) (lenOf pd_2 rfl) rfl (by show 2 * 0 + _ ≤ _; exact Nat.le_of_eq rfl) (hb hby at_151) (fun _ _ => ⟨rfl, rfl, (by decide : 2 + 0 ≤ _), (by decide : 20 + 0 ≤ _)⟩)
  dsimp only [Pt.U, Pt.locs, Pt.cells, Pt.slots] at X3 l3 y3 z3 st3 hQ3
  subst l3 y3 z3
  obtain ⟨rfl, Nq3, e3⟩ := hQ3
  have N3 := Fr.app N2 Nq3
  obtain ⟨_, _, ⟨T4, L4, k4, n4⟩, -, X4, ⟨Lc4, hQ4, l4, y4, z4⟩, st4⟩ := Jvm.LawKit.callS X3 hx (y := (⟨"com/example/wary_rollout/waryrollout/agent/StatEndedPinLaw", "deadLetter", "(C)Z"⟩ : MethodName)) hown (mvT hZ (hw _ (List.mem_of_getElem? (i := 24) rfl))) (mvT hZ (hw _ (List.mem_of_getElem? (i := 25) rfl))) (mvT hZ (hw _ (List.mem_of_getElem? (i := 26) rfl))) (mvT hZ (hw _ (List.mem_of_getElem? (i := 27) rfl))) (by decide) (backOf (W := 1) (rmD l Z a0 hw [] ch T2.heap n0 Z2 ) hZ (hw _ (List.mem_of_getElem? (i := 27) rfl)) (hw _ (List.mem_of_getElem? (i := 26) rfl)) (by decide) (by decide)) (g := (mkF m 156 #[.val (.int p1), .val (.int p2), .val (.long j1), .second, .val (.long j2), .second, .val (.long j3), .second, .val (.ref a), .val (.int u), .val (.int ch), .val (.ref b1), .unset] [(.int ch), (.int (own_dead (nar .char ch)))])) rfl (by rw [hml]; rfl) (argsL := [(.int ch)]) (rest := [(.int (own_dead (nar .char ch)))]) (lenOf pd_3 rfl) rfl (by show 2 * 0 + _ ≤ _; exact Nat.le_of_eq rfl) (hb hby at_156) (fun _ _ => ⟨rfl, e3, (by decide : 2 + 0 ≤ _), (by decide : 20 + 0 ≤ _)⟩)
  dsimp only [Pt.U, Pt.locs, Pt.cells, Pt.slots] at X4 l4 y4 z4 st4 hQ4
  subst l4 y4 z4
  obtain ⟨rfl, Nq4, e4⟩ := hQ4
  have N4 := Fr.app N3 Nq4
  obtain ⟨cq5, kq5, q5a, q5b, q5c⟩ := isOf hZ e4 ex2
  obtain ⟨_, _, ⟨T5, L5, k5, n5⟩, -, X5, ⟨Lc5, hQ5, l5, y5, z5⟩, st5⟩ := X4.virtualBack hx (y := (⟨"com/example/wary_rollout/waryrollout/agent/ProcessTable$Stat", "pid", "()J"⟩ : MethodName)) (z := (⟨"com/example/wary_rollout/waryrollout/agent/ProcessTable$Stat", "pid", "()J"⟩ : MethodName)) hown (mvT hZ (hw _ (List.mem_of_getElem? (i := 28) rfl))) (mvT hZ (hw _ (List.mem_of_getElem? (i := 29) rfl))) (notFace_of_selects (args := #[]) (mvT hZ (hw _ (List.mem_of_getElem? (i := 31) rfl)))) (mvT hZ (hw _ (List.mem_of_getElem? (i := 31) rfl))) (mvT hZ (hw _ (List.mem_of_getElem? (i := 30) rfl))) (by decide) (backOf (W := 0) (rmP l Z a0 hw [] b1 j1 T2.heap n0 Z2 fpid2) hZ (hw _ (List.mem_of_getElem? (i := 32) rfl)) (hw _ (List.mem_of_getElem? (i := 4) rfl)) (by decide) (by decide)) q5a q5c (g := (mkF m 176 #[.val (.int p1), .val (.int p2), .val (.long j1), .second, .val (.long j2), .second, .val (.long j3), .second, .val (.ref a), .val (.int u), .val (.int ch), .val (.ref b1), .val (.int (1 : Int32))] [(.ref b1)])) rfl (by rw [hml]; rfl) (Steps.refl _) (argsL := []) (rest := []) (lenOf pd_4 rfl) rfl (by show 2 * 0 + _ ≤ _; exact Nat.le_of_eq rfl) (hb hby at_176) (fun _ _ => ⟨rfl, e4, (by decide : 2 + 0 ≤ _), (by decide : 20 + 0 ≤ _)⟩)
  dsimp only [Pt.U, Pt.locs, Pt.cells, Pt.slots] at X5 l5 y5 z5 st5 hQ5
  subst l5 y5 z5
  obtain ⟨rfl, Nq5, e5⟩ := hQ5
  have N5 := Fr.app N4 Nq5
  obtain ⟨cq6, kq6, q6a, q6b, q6c⟩ := isOf hZ e5 ex2
  obtain ⟨_, _, ⟨T6, L6, k6, n6⟩, -, X6, ⟨Lc6, hQ6, l6, y6, z6⟩, st6⟩ := X5.virtualBack hx (y := (⟨"com/example/wary_rollout/waryrollout/agent/ProcessTable$Stat", "parent", "()J"⟩ : MethodName)) (z := (⟨"com/example/wary_rollout/waryrollout/agent/ProcessTable$Stat", "parent", "()J"⟩ : MethodName)) hown (mvT hZ (hw _ (List.mem_of_getElem? (i := 33) rfl))) (mvT hZ (hw _ (List.mem_of_getElem? (i := 34) rfl))) (notFace_of_selects (args := #[]) (mvT hZ (hw _ (List.mem_of_getElem? (i := 36) rfl)))) (mvT hZ (hw _ (List.mem_of_getElem? (i := 36) rfl))) (mvT hZ (hw _ (List.mem_of_getElem? (i := 35) rfl))) (by decide) (backOf (W := 0) (rmQ l Z a0 hw [] b1 j2 T2.heap n0 Z2 fparent2) hZ (hw _ (List.mem_of_getElem? (i := 37) rfl)) (hw _ (List.mem_of_getElem? (i := 4) rfl)) (by decide) (by decide)) q6a q6c (g := (mkF m 198 #[.val (.int p1), .val (.int p2), .val (.long j1), .second, .val (.long j2), .second, .val (.long j3), .second, .val (.ref a), .val (.int u), .val (.int ch), .val (.ref b1), .val (.int (1 : Int32))] [(.ref b1)])) rfl (by rw [hml]; rfl) (Steps.refl _) (argsL := []) (rest := []) (lenOf pd_4 rfl) rfl (by show 2 * 0 + _ ≤ _; exact Nat.le_of_eq rfl) (hb hby at_198) (fun _ _ => ⟨rfl, e5, (by decide : 2 + 0 ≤ _), (by decide : 20 + 0 ≤ _)⟩)
  dsimp only [Pt.U, Pt.locs, Pt.cells, Pt.slots] at X6 l6 y6 z6 st6 hQ6
  subst l6 y6 z6
  obtain ⟨rfl, Nq6, e6⟩ := hQ6
  have N6 := Fr.app N5 Nq6
  obtain ⟨cq7, kq7, q7a, q7b, q7c⟩ := isOf hZ e6 ex2
  obtain ⟨_, _, ⟨T7, L7, k7, n7⟩, -, X7, ⟨Lc7, hQ7, l7, y7, z7⟩, st7⟩ := X6.virtualBack hx (y := (⟨"com/example/wary_rollout/waryrollout/agent/ProcessTable$Stat", "startTicks", "()J"⟩ : MethodName)) (z := (⟨"com/example/wary_rollout/waryrollout/agent/ProcessTable$Stat", "startTicks", "()J"⟩ : MethodName)) hown (mvT hZ (hw _ (List.mem_of_getElem? (i := 38) rfl))) (mvT hZ (hw _ (List.mem_of_getElem? (i := 39) rfl))) (notFace_of_selects (args := #[]) (mvT hZ (hw _ (List.mem_of_getElem? (i := 41) rfl)))) (mvT hZ (hw _ (List.mem_of_getElem? (i := 41) rfl))) (mvT hZ (hw _ (List.mem_of_getElem? (i := 40) rfl))) (by decide) (backOf (W := 0) (rmS l Z a0 hw [] b1 j3 T2.heap n0 Z2 fstartTicks2) hZ (hw _ (List.mem_of_getElem? (i := 42) rfl)) (hw _ (List.mem_of_getElem? (i := 4) rfl)) (by decide) (by decide)) q7a q7c (g := (mkF m 221 #[.val (.int p1), .val (.int p2), .val (.long j1), .second, .val (.long j2), .second, .val (.long j3), .second, .val (.ref a), .val (.int u), .val (.int ch), .val (.ref b1), .val (.int (1 : Int32))] [(.ref b1)])) rfl (by rw [hml]; rfl) (Steps.refl _) (argsL := []) (rest := []) (lenOf pd_4 rfl) rfl (by show 2 * 0 + _ ≤ _; exact Nat.le_of_eq rfl) (hb hby at_221) (fun _ _ => ⟨rfl, e6, (by decide : 2 + 0 ≤ _), (by decide : 20 + 0 ≤ _)⟩)
  dsimp only [Pt.U, Pt.locs, Pt.cells, Pt.slots] at X7 l7 y7 z7 st7 hQ7
  subst l7 y7 z7
  obtain ⟨rfl, Nq7, e7⟩ := hQ7
  have N7 := Fr.app N6 Nq7
  refine ⟨T7, _, _, b1, X7, e7, N7, fun target kt => ?_⟩
  show Steps p.tables e below (T0.setTop (mkF m 133 #[.val (.int p1), .val (.int p2), .val (.long j1), .second, .val (.long j2), .second, .val (.long j3), .second, .val (.ref a), .val (.int u), .val (.int ch), .unset, .unset] [])) _
  refine st1 _ ?_
  show Steps p.tables e below (T1.setTop (mkF m 136 #[.val (.int p1), .val (.int p2), .val (.long j1), .second, .val (.long j2), .second, .val (.long j3), .second, .val (.ref a), .val (.int u), .val (.int ch), .unset, .unset] [(.ref b1)])) _
  refine XS.dup X1.here hx rfl (hb hby at_136) rfl rfl ?_
  show Steps p.tables e below (T1.setTop (mkF m 137 #[.val (.int p1), .val (.int p2), .val (.long j1), .second, .val (.long j2), .second, .val (.long j3), .second, .val (.ref a), .val (.int u), .val (.int ch), .unset, .unset] [(.ref b1), (.ref b1)])) _
  refine XS.lloadN X1.here hx rfl (hb hby at_137) rfl ?_
  show Steps p.tables e below (T1.setTop (mkF m 138 #[.val (.int p1), .val (.int p2), .val (.long j1), .second, .val (.long j2), .second, .val (.long j3), .second, .val (.ref a), .val (.int u), .val (.int ch), .unset, .unset] [(.long j1), (.ref b1), (.ref b1)])) _
  refine XS.iload X1.here hx rfl (hb hby at_138) rfl ?_
  show Steps p.tables e below (T1.setTop (mkF m 140 #[.val (.int p1), .val (.int p2), .val (.long j1), .second, .val (.long j2), .second, .val (.long j3), .second, .val (.ref a), .val (.int u), .val (.int ch), .unset, .unset] [(.int ch), (.long j1), (.ref b1), (.ref b1)])) _
  refine XS.lload X1.here hx rfl (hb hby at_140) rfl ?_
  show Steps p.tables e below (T1.setTop (mkF m 142 #[.val (.int p1), .val (.int p2), .val (.long j1), .second, .val (.long j2), .second, .val (.long j3), .second, .val (.ref a), .val (.int u), .val (.int ch), .unset, .unset] [(.long j2), (.int ch), (.long j1), (.ref b1), (.ref b1)])) _
  refine XS.lload X1.here hx rfl (hb hby at_142) rfl ?_
  show Steps p.tables e below (T1.setTop (mkF m 144 #[.val (.int p1), .val (.int p2), .val (.long j1), .second, .val (.long j2), .second, .val (.long j3), .second, .val (.ref a), .val (.int u), .val (.int ch), .unset, .unset] [(.long j3), (.long j2), (.int ch), (.long j1), (.ref b1), (.ref b1)])) _
  refine st2.trans ?_
  show Steps p.tables e below (T2.setTop (mkF m 147 #[.val (.int p1), .val (.int p2), .val (.long j1), .second, .val (.long j2), .second, .val (.long j3), .second, .val (.ref a), .val (.int u), .val (.int ch), .unset, .unset] [(.ref b1)])) _
  refine XS.astore X2.here hx rfl (hb hby at_147) rfl rfl (l' := #[.val (.int p1), .val (.int p2), .val (.long j1), .second, .val (.long j2), .second, .val (.long j3), .second, .val (.ref a), .val (.int u), .val (.int ch), .val (.ref b1), .unset]) rfl ?_
  show Steps p.tables e below (T2.setTop (mkF m 149 #[.val (.int p1), .val (.int p2), .val (.long j1), .second, .val (.long j2), .second, .val (.long j3), .second, .val (.ref a), .val (.int u), .val (.int ch), .val (.ref b1), .unset] [])) _
  refine XS.aload X2.here hx rfl (hb hby at_149) rfl rfl ?_
  show Steps p.tables e below (T2.setTop (mkF m 151 #[.val (.int p1), .val (.int p2), .val (.long j1), .second, .val (.long j2), .second, .val (.long j3), .second, .val (.ref a), .val (.int u), .val (.int ch), .val (.ref b1), .unset] [(.ref b1)])) _
  refine st3.trans ?_
  show Steps p.tables e below (T3.setTop (mkF m 154 #[.val (.int p1), .val (.int p2), .val (.long j1), .second, .val (.long j2), .second, .val (.long j3), .second, .val (.ref a), .val (.int u), .val (.int ch), .val (.ref b1), .unset] [(.int (own_dead (nar .char ch)))])) _
  refine XS.iload X3.here hx rfl (hb hby at_154) rfl ?_
  show Steps p.tables e below (T3.setTop (mkF m 156 #[.val (.int p1), .val (.int p2), .val (.long j1), .second, .val (.long j2), .second, .val (.long j3), .second, .val (.ref a), .val (.int u), .val (.int ch), .val (.ref b1), .unset] [(.int ch), (.int (own_dead (nar .char ch)))])) _
  refine st4 _ ?_
  show Steps p.tables e below (T4.setTop (mkF m 159 #[.val (.int p1), .val (.int p2), .val (.long j1), .second, .val (.long j2), .second, .val (.long j3), .second, .val (.ref a), .val (.int u), .val (.int ch), .val (.ref b1), .unset] [(.int (own_dead ch)), (.int (own_dead (nar .char ch)))])) _
  refine XS.icmpNo X4.here hx rfl (hb hby at_159) rfl (teq (congrArg own_dead hc1)).2 ?_
  show Steps p.tables e below (T4.setTop (mkF m 162 #[.val (.int p1), .val (.int p2), .val (.long j1), .second, .val (.long j2), .second, .val (.long j3), .second, .val (.ref a), .val (.int u), .val (.int ch), .val (.ref b1), .unset] [])) _
  refine XS.iconst X4.here hx rfl (hb hby at_162) ?_
  show Steps p.tables e below (T4.setTop (mkF m 163 #[.val (.int p1), .val (.int p2), .val (.long j1), .second, .val (.long j2), .second, .val (.long j3), .second, .val (.ref a), .val (.int u), .val (.int ch), .val (.ref b1), .unset] [(.int (1 : Int32))])) _
  refine XS.goto X4.here hx rfl (pc0 := 163) (pc' := 167) rfl (hb hby at_163) (by decide) (by decide) ?_
  show Steps p.tables e below (T4.setTop (mkF m 167 #[.val (.int p1), .val (.int p2), .val (.long j1), .second, .val (.long j2), .second, .val (.long j3), .second, .val (.ref a), .val (.int u), .val (.int ch), .val (.ref b1), .unset] [(.int (1 : Int32))])) _
  refine XS.istore X4.here hx rfl (hb hby at_167) rfl (l' := #[.val (.int p1), .val (.int p2), .val (.long j1), .second, .val (.long j2), .second, .val (.long j3), .second, .val (.ref a), .val (.int u), .val (.int ch), .val (.ref b1), .val (.int (1 : Int32))]) rfl ?_
  show Steps p.tables e below (T4.setTop (mkF m 169 #[.val (.int p1), .val (.int p2), .val (.long j1), .second, .val (.long j2), .second, .val (.long j3), .second, .val (.ref a), .val (.int u), .val (.int ch), .val (.ref b1), .val (.int (1 : Int32))] [])) _
  refine XS.iload X4.here hx rfl (hb hby at_169) rfl ?_
  show Steps p.tables e below (T4.setTop (mkF m 171 #[.val (.int p1), .val (.int p2), .val (.long j1), .second, .val (.long j2), .second, .val (.long j3), .second, .val (.ref a), .val (.int u), .val (.int ch), .val (.ref b1), .val (.int (1 : Int32))] [(.int (1 : Int32))])) _
  refine XS.ifNo X4.here hx rfl (hb hby at_171) rfl ((if0 _ _).trans (feq (by decide : ¬ ((1 : Int32) = (0 : Int32)))).1) ?_
  show Steps p.tables e below (T4.setTop (mkF m 174 #[.val (.int p1), .val (.int p2), .val (.long j1), .second, .val (.long j2), .second, .val (.long j3), .second, .val (.ref a), .val (.int u), .val (.int ch), .val (.ref b1), .val (.int (1 : Int32))] [])) _
  refine XS.aload X4.here hx rfl (hb hby at_174) rfl rfl ?_
  show Steps p.tables e below (T4.setTop (mkF m 176 #[.val (.int p1), .val (.int p2), .val (.long j1), .second, .val (.long j2), .second, .val (.long j3), .second, .val (.ref a), .val (.int u), .val (.int ch), .val (.ref b1), .val (.int (1 : Int32))] [(.ref b1)])) _
  refine st5.trans ?_
  show Steps p.tables e below (T5.setTop (mkF m 179 #[.val (.int p1), .val (.int p2), .val (.long j1), .second, .val (.long j2), .second, .val (.long j3), .second, .val (.ref a), .val (.int u), .val (.int ch), .val (.ref b1), .val (.int (1 : Int32))] [(.long j1)])) _
  refine XS.lloadN X5.here hx rfl (hb hby at_179) rfl ?_
  show Steps p.tables e below (T5.setTop (mkF m 180 #[.val (.int p1), .val (.int p2), .val (.long j1), .second, .val (.long j2), .second, .val (.long j3), .second, .val (.ref a), .val (.int u), .val (.int ch), .val (.ref b1), .val (.int (1 : Int32))] [(.long j1), (.long j1)])) _
  refine XS.lcmp X5.here hx rfl (hb hby at_180) rfl ?_
  show Steps p.tables e below (T5.setTop (mkF m 181 #[.val (.int p1), .val (.int p2), .val (.long j1), .second, .val (.long j2), .second, .val (.long j3), .second, .val (.ref a), .val (.int u), .val (.int ch), .val (.ref b1), .val (.int (1 : Int32))] [(.int (lcmpW j1 j1))])) _
  refine XS.ifNo X5.here hx rfl (hb hby at_181) rfl ((if0 _ _).trans (teq ((lw_eq j1 j1).mpr rfl)).2) ?_
  show Steps p.tables e below (T5.setTop (mkF m 184 #[.val (.int p1), .val (.int p2), .val (.long j1), .second, .val (.long j2), .second, .val (.long j3), .second, .val (.ref a), .val (.int u), .val (.int ch), .val (.ref b1), .val (.int (1 : Int32))] [])) _
  refine XS.iconst X5.here hx rfl (hb hby at_184) ?_
  show Steps p.tables e below (T5.setTop (mkF m 185 #[.val (.int p1), .val (.int p2), .val (.long j1), .second, .val (.long j2), .second, .val (.long j3), .second, .val (.ref a), .val (.int u), .val (.int ch), .val (.ref b1), .val (.int (1 : Int32))] [(.int (1 : Int32))])) _
  refine XS.goto X5.here hx rfl (pc0 := 185) (pc' := 189) rfl (hb hby at_185) (by decide) (by decide) ?_
  show Steps p.tables e below (T5.setTop (mkF m 189 #[.val (.int p1), .val (.int p2), .val (.long j1), .second, .val (.long j2), .second, .val (.long j3), .second, .val (.ref a), .val (.int u), .val (.int ch), .val (.ref b1), .val (.int (1 : Int32))] [(.int (1 : Int32))])) _
  refine XS.istore X5.here hx rfl (hb hby at_189) rfl (l' := #[.val (.int p1), .val (.int p2), .val (.long j1), .second, .val (.long j2), .second, .val (.long j3), .second, .val (.ref a), .val (.int u), .val (.int ch), .val (.ref b1), .val (.int (1 : Int32))]) rfl ?_
  show Steps p.tables e below (T5.setTop (mkF m 191 #[.val (.int p1), .val (.int p2), .val (.long j1), .second, .val (.long j2), .second, .val (.long j3), .second, .val (.ref a), .val (.int u), .val (.int ch), .val (.ref b1), .val (.int (1 : Int32))] [])) _
  refine XS.iload X5.here hx rfl (hb hby at_191) rfl ?_
  show Steps p.tables e below (T5.setTop (mkF m 193 #[.val (.int p1), .val (.int p2), .val (.long j1), .second, .val (.long j2), .second, .val (.long j3), .second, .val (.ref a), .val (.int u), .val (.int ch), .val (.ref b1), .val (.int (1 : Int32))] [(.int (1 : Int32))])) _
  refine XS.ifNo X5.here hx rfl (hb hby at_193) rfl ((if0 _ _).trans (feq (by decide : ¬ ((1 : Int32) = (0 : Int32)))).1) ?_
  show Steps p.tables e below (T5.setTop (mkF m 196 #[.val (.int p1), .val (.int p2), .val (.long j1), .second, .val (.long j2), .second, .val (.long j3), .second, .val (.ref a), .val (.int u), .val (.int ch), .val (.ref b1), .val (.int (1 : Int32))] [])) _
  refine XS.aload X5.here hx rfl (hb hby at_196) rfl rfl ?_
  show Steps p.tables e below (T5.setTop (mkF m 198 #[.val (.int p1), .val (.int p2), .val (.long j1), .second, .val (.long j2), .second, .val (.long j3), .second, .val (.ref a), .val (.int u), .val (.int ch), .val (.ref b1), .val (.int (1 : Int32))] [(.ref b1)])) _
  refine st6.trans ?_
  show Steps p.tables e below (T6.setTop (mkF m 201 #[.val (.int p1), .val (.int p2), .val (.long j1), .second, .val (.long j2), .second, .val (.long j3), .second, .val (.ref a), .val (.int u), .val (.int ch), .val (.ref b1), .val (.int (1 : Int32))] [(.long j2)])) _
  refine XS.lload X6.here hx rfl (hb hby at_201) rfl ?_
  show Steps p.tables e below (T6.setTop (mkF m 203 #[.val (.int p1), .val (.int p2), .val (.long j1), .second, .val (.long j2), .second, .val (.long j3), .second, .val (.ref a), .val (.int u), .val (.int ch), .val (.ref b1), .val (.int (1 : Int32))] [(.long j2), (.long j2)])) _
  refine XS.lcmp X6.here hx rfl (hb hby at_203) rfl ?_
  show Steps p.tables e below (T6.setTop (mkF m 204 #[.val (.int p1), .val (.int p2), .val (.long j1), .second, .val (.long j2), .second, .val (.long j3), .second, .val (.ref a), .val (.int u), .val (.int ch), .val (.ref b1), .val (.int (1 : Int32))] [(.int (lcmpW j2 j2))])) _
  refine XS.ifNo X6.here hx rfl (hb hby at_204) rfl ((if0 _ _).trans (teq ((lw_eq j2 j2).mpr rfl)).2) ?_
  show Steps p.tables e below (T6.setTop (mkF m 207 #[.val (.int p1), .val (.int p2), .val (.long j1), .second, .val (.long j2), .second, .val (.long j3), .second, .val (.ref a), .val (.int u), .val (.int ch), .val (.ref b1), .val (.int (1 : Int32))] [])) _
  refine XS.iconst X6.here hx rfl (hb hby at_207) ?_
  show Steps p.tables e below (T6.setTop (mkF m 208 #[.val (.int p1), .val (.int p2), .val (.long j1), .second, .val (.long j2), .second, .val (.long j3), .second, .val (.ref a), .val (.int u), .val (.int ch), .val (.ref b1), .val (.int (1 : Int32))] [(.int (1 : Int32))])) _
  refine XS.goto X6.here hx rfl (pc0 := 208) (pc' := 212) rfl (hb hby at_208) (by decide) (by decide) ?_
  show Steps p.tables e below (T6.setTop (mkF m 212 #[.val (.int p1), .val (.int p2), .val (.long j1), .second, .val (.long j2), .second, .val (.long j3), .second, .val (.ref a), .val (.int u), .val (.int ch), .val (.ref b1), .val (.int (1 : Int32))] [(.int (1 : Int32))])) _
  refine XS.istore X6.here hx rfl (hb hby at_212) rfl (l' := #[.val (.int p1), .val (.int p2), .val (.long j1), .second, .val (.long j2), .second, .val (.long j3), .second, .val (.ref a), .val (.int u), .val (.int ch), .val (.ref b1), .val (.int (1 : Int32))]) rfl ?_
  show Steps p.tables e below (T6.setTop (mkF m 214 #[.val (.int p1), .val (.int p2), .val (.long j1), .second, .val (.long j2), .second, .val (.long j3), .second, .val (.ref a), .val (.int u), .val (.int ch), .val (.ref b1), .val (.int (1 : Int32))] [])) _
  refine XS.iload X6.here hx rfl (hb hby at_214) rfl ?_
  show Steps p.tables e below (T6.setTop (mkF m 216 #[.val (.int p1), .val (.int p2), .val (.long j1), .second, .val (.long j2), .second, .val (.long j3), .second, .val (.ref a), .val (.int u), .val (.int ch), .val (.ref b1), .val (.int (1 : Int32))] [(.int (1 : Int32))])) _
  refine XS.ifNo X6.here hx rfl (hb hby at_216) rfl ((if0 _ _).trans (feq (by decide : ¬ ((1 : Int32) = (0 : Int32)))).1) ?_
  show Steps p.tables e below (T6.setTop (mkF m 219 #[.val (.int p1), .val (.int p2), .val (.long j1), .second, .val (.long j2), .second, .val (.long j3), .second, .val (.ref a), .val (.int u), .val (.int ch), .val (.ref b1), .val (.int (1 : Int32))] [])) _
  refine XS.aload X6.here hx rfl (hb hby at_219) rfl rfl ?_
  show Steps p.tables e below (T6.setTop (mkF m 221 #[.val (.int p1), .val (.int p2), .val (.long j1), .second, .val (.long j2), .second, .val (.long j3), .second, .val (.ref a), .val (.int u), .val (.int ch), .val (.ref b1), .val (.int (1 : Int32))] [(.ref b1)])) _
  refine st7.trans ?_
  show Steps p.tables e below (T7.setTop (mkF m 224 #[.val (.int p1), .val (.int p2), .val (.long j1), .second, .val (.long j2), .second, .val (.long j3), .second, .val (.ref a), .val (.int u), .val (.int ch), .val (.ref b1), .val (.int (1 : Int32))] [(.long j3)])) _
  refine XS.lload X7.here hx rfl (hb hby at_224) rfl ?_
  show Steps p.tables e below (T7.setTop (mkF m 226 #[.val (.int p1), .val (.int p2), .val (.long j1), .second, .val (.long j2), .second, .val (.long j3), .second, .val (.ref a), .val (.int u), .val (.int ch), .val (.ref b1), .val (.int (1 : Int32))] [(.long j3), (.long j3)])) _
  refine XS.lcmp X7.here hx rfl (hb hby at_226) rfl ?_
  show Steps p.tables e below (T7.setTop (mkF m 227 #[.val (.int p1), .val (.int p2), .val (.long j1), .second, .val (.long j2), .second, .val (.long j3), .second, .val (.ref a), .val (.int u), .val (.int ch), .val (.ref b1), .val (.int (1 : Int32))] [(.int (lcmpW j3 j3))])) _
  refine XS.ifNo X7.here hx rfl (hb hby at_227) rfl ((if0 _ _).trans (teq ((lw_eq j3 j3).mpr rfl)).2) ?_
  show Steps p.tables e below (T7.setTop (mkF m 230 #[.val (.int p1), .val (.int p2), .val (.long j1), .second, .val (.long j2), .second, .val (.long j3), .second, .val (.ref a), .val (.int u), .val (.int ch), .val (.ref b1), .val (.int (1 : Int32))] [])) _
  refine XS.iconst X7.here hx rfl (hb hby at_230) ?_
  show Steps p.tables e below (T7.setTop (mkF m 231 #[.val (.int p1), .val (.int p2), .val (.long j1), .second, .val (.long j2), .second, .val (.long j3), .second, .val (.ref a), .val (.int u), .val (.int ch), .val (.ref b1), .val (.int (1 : Int32))] [(.int (1 : Int32))])) _
  refine XS.goto X7.here hx rfl (pc0 := 231) (pc' := 235) rfl (hb hby at_231) (by decide) (by decide) ?_
  show Steps p.tables e below (T7.setTop (mkF m 235 #[.val (.int p1), .val (.int p2), .val (.long j1), .second, .val (.long j2), .second, .val (.long j3), .second, .val (.ref a), .val (.int u), .val (.int ch), .val (.ref b1), .val (.int (1 : Int32))] [(.int (1 : Int32))])) _
  refine XS.istore X7.here hx rfl (hb hby at_235) rfl (l' := #[.val (.int p1), .val (.int p2), .val (.long j1), .second, .val (.long j2), .second, .val (.long j3), .second, .val (.ref a), .val (.int u), .val (.int ch), .val (.ref b1), .val (.int (1 : Int32))]) rfl ?_
  show Steps p.tables e below (T7.setTop (mkF m 237 #[.val (.int p1), .val (.int p2), .val (.long j1), .second, .val (.long j2), .second, .val (.long j3), .second, .val (.ref a), .val (.int u), .val (.int ch), .val (.ref b1), .val (.int (1 : Int32))] [])) _
  refine XS.iload X7.here hx rfl (hb hby at_237) rfl ?_
  exact kt
theorem ef_0_IIJJJ (m : MethodId) (x0 : Int32) (x1 : Int32) (x2 : Int64) (x3 : Int64) (x4 : Int64) : entryFrame m #[(.int x0), (.int x1), (.long x2), (.long x3), (.long x4)] maxLocals = mkF m 0 #[.val (.int x0), .val (.int x1), .val (.long x2), .second, .val (.long x3), .second, .val (.long x4), .second, .unset, .unset, .unset, .unset, .unset] [] := by first | (simp [entryFrame, mkF, argsToLocals, Value.category, maxLocals]; done) | rfl
def Q_rm0 (Z : State) (p1 : Int32) (p2 : Int32) (j1 : Int64) (j2 : Int64) (j3 : Int64) (h0 : Heap) (n0 : Nat) (v : Option Value) (h : Heap) (L : List Loc) : Prop := v = some (.int (1 : Int32)) ∧ Fr n0 L
set_option maxRecDepth 65536 in
set_option maxHeartbeats 40000000 in
theorem rm0 (l : Launch) (Z : State) (a0 : Array Value) (hw : ∀ d ∈ tables_1, d.before a0 Z = true) (ws : List Jvm.Cond) (p1 : Int32) (p2 : Int32) (j1 : Int64) (j2 : Int64) (j3 : Int64) (h0 : Heap) (n0 : Nat) (Z0 : n0 ≤ h0.size) :
    MetFree l x (head1 (Jvm.Cond.code x code maxLocals ret :: ws) room_1) (fun a U => a = #[(.int p1), (.int p2), (.long j1), (.long j2), (.long j3)] ∧ Z.Warmed39 U.vm ∧ U.heap = h0) (fun _ _ _ _ _ => True) (fun _ U o U' => ∃ v L, o = .returned v ∧ Q_rm0 Z p1 p2 j1 j2 j3 h0 n0 v U'.heap L ∧ FrameEnd U o U' L room_1.cells room_1.slots) := by
  refine MetFree.of_bodySF (plainFor_of_name pn_0) hisR ?_
  intro p e s m args below meth c s₁ Bd hml0 hP hK
  obtain ⟨rfl, hZ, hh⟩ := hP
  have hx := Bd.exec
  have hby := Bd.bytes
  have hml : c.maxLocals = 13 := hml0
  have hown : s.vm.findClass "com/example/wary_rollout/waryrollout/agent/StatEndedPinLaw" = some m.cls := findClass_of_methodNamed Bd.named
  have hnm := (name_of_methodNamed Bd.named Bd.method).1
  have X0 : Stand p l e room_1 s m #[(.int p1), (.int p2), (.long j1), (.long j2), (.long j3)] below meth c s₁ [] 0 0 := Stand.of_body Bd
  have e0 : s₁.heap = h0 := by rw [← hh, Bd.state]; rfl
  have N0 := Fr.nil n0
  have pre0 : ∀ t, Steps p.tables e below (s₁.setTop (mkF m 0 #[.val (.int p1), .val (.int p2), .val (.long j1), .second, .val (.long j2), .second, .val (.long j3), .second, .unset, .unset, .unset, .unset, .unset] [])) t → Steps p.tables e below (s₁.setTop (entryFrame m #[(.int p1), (.int p2), (.long j1), (.long j2), (.long j3)] maxLocals)) t := fun t k => castTop (ef_0_IIJJJ m p1 p2 j1 j2 j3) k
  by_cases hs : ((p2 >>> ((4 : Int32) &&& 31)) &&& (1 : Int32)) = (0 : Int32)
  · obtain ⟨ch, hch⟩ : ∃ ch, ((p1 &&& (65535 : Int32)).toUInt32.toUInt16.toUInt32.toInt32) = ch := ⟨_, rfl⟩
    have hc1 : nar .char ch = ch := by rw [← hch]; exact own_i2c _
    obtain ⟨T1, h1, k1, X1, e1, E1, A1, st1⟩ := newP X0 hx hZ (hw _ (List.mem_of_getElem? (i := 0) rfl)) e0 (g := (mkF m 2 #[.val (.int p1), .val (.int p2), .val (.long j1), .second, .val (.long j2), .second, .val (.long j3), .second, .unset, .unset, .unset, .unset, .unset] [(.int (16 : Int32))])) rfl (hb hby at_2) rfl (by decide) (cap := 16) (by decide) (by decide) (by decide) (by decide)
    obtain ⟨b1, g1⟩ : ∃ z, z = h0.size := ⟨_, rfl⟩
    rw [← g1] at A1 st1
    have ge_b1 : n0 ≤ b1 := Nat.le_trans Z0 (Nat.le_of_eq g1.symm)
    have sz_b1 : h0.size ≤ b1 := Nat.le_trans (Keep.refl h0 []).1 (Nat.le_of_eq g1.symm)
    have Z1 : n0 ≤ h1.size := Nat.le_trans Z0 E1.1
    have Kp1 : Keep h0 h1 [] := (Keep.refl h0 []).ext E1
    have V_b1 : Arv Z h1 b1 k1 .char (16 : Int32) [(.int (0 : Int32)), (.int (0 : Int32)), (.int (0 : Int32)), (.int (0 : Int32)), (.int (0 : Int32)), (.int (0 : Int32)), (.int (0 : Int32)), (.int (0 : Int32)), (.int (0 : Int32)), (.int (0 : Int32)), (.int (0 : Int32)), (.int (0 : Int32)), (.int (0 : Int32)), (.int (0 : Int32)), (.int (0 : Int32)), (.int (0 : Int32))] (.int (0 : Int32)) := (Arv.new A1 (by decide)).pad (pad_rep [] (.int (0 : Int32)) 16)
    obtain ⟨cl2, Ar2, q2, S2, M2, Ha2, G2⟩ := id V_b1
    have hin8_cl2 : ¬ ((0 : Int32) < 0 ∨ cl2.slots.size ≤ ((0 : Int32)).toNatClampNeg) := inb_of S2 ⟨by decide, by decide⟩
    obtain ⟨T3, h3, X3, e3, W3, st3⟩ := stC X1 hx hZ e1 Ar2 (j := (0 : Int32)) hin8_cl2 (g := (mkF m 8 #[.val (.int p1), .val (.int p2), .val (.long j1), .second, .val (.long j2), .second, .val (.long j3), .second, .unset, .unset, .unset, .unset, .unset] [(.int (82 : Int32)), (.int (0 : Int32)), (.ref b1), (.ref b1)])) rfl rfl (hb hby at_8)
    have Z3 : n0 ≤ h3.size := Nat.le_trans Z1 (Keep.of_wr W3).1
    have Kp3 : Keep h0 h3 [] := Kp1.wr W3 (Or.inr sz_b1)
    have V_b1_3 : Arv Z h3 b1 k1 .char (16 : Int32) [(.int (nar .char (82 : Int32))), (.int (0 : Int32)), (.int (0 : Int32)), (.int (0 : Int32)), (.int (0 : Int32)), (.int (0 : Int32)), (.int (0 : Int32)), (.int (0 : Int32)), (.int (0 : Int32)), (.int (0 : Int32)), (.int (0 : Int32)), (.int (0 : Int32)), (.int (0 : Int32)), (.int (0 : Int32)), (.int (0 : Int32)), (.int (0 : Int32))] (.int (0 : Int32)) := Arv.set Ar2 q2 S2 M2 Ha2 G2 (fits_nar_char _) W3 0 rfl (Nat.le_of_ble_eq_true rfl)
    have N3 := Fr.snoc X3 N0 ge_b1
    obtain ⟨cl4, Ar4, q4, S4, M4, Ha4, G4⟩ := id V_b1_3
    have hin13_cl4 : ¬ ((1 : Int32) < 0 ∨ cl4.slots.size ≤ ((1 : Int32)).toNatClampNeg) := inb_of S4 ⟨by decide, by decide⟩
    obtain ⟨T5, h5, X5, e5, W5, st5⟩ := stC X3 hx hZ e3 Ar4 (j := (1 : Int32)) hin13_cl4 (g := (mkF m 13 #[.val (.int p1), .val (.int p2), .val (.long j1), .second, .val (.long j2), .second, .val (.long j3), .second, .unset, .unset, .unset, .unset, .unset] [(.int (83 : Int32)), (.int (1 : Int32)), (.ref b1), (.ref b1)])) rfl rfl (hb hby at_13)
    have Z5 : n0 ≤ h5.size := Nat.le_trans Z3 (Keep.of_wr W5).1
    have Kp5 : Keep h0 h5 [] := Kp3.wr W5 (Or.inr sz_b1)
    have V_b1_5 : Arv Z h5 b1 k1 .char (16 : Int32) [(.int (nar .char (82 : Int32))), (.int (nar .char (83 : Int32))), (.int (0 : Int32)), (.int (0 : Int32)), (.int (0 : Int32)), (.int (0 : Int32)), (.int (0 : Int32)), (.int (0 : Int32)), (.int (0 : Int32)), (.int (0 : Int32)), (.int (0 : Int32)), (.int (0 : Int32)), (.int (0 : Int32)), (.int (0 : Int32)), (.int (0 : Int32)), (.int (0 : Int32))] (.int (0 : Int32)) := Arv.set Ar4 q4 S4 M4 Ha4 G4 (fits_nar_char _) W5 1 rfl (Nat.le_of_ble_eq_true rfl)
    have N5 := Fr.snoc X5 N3 ge_b1
    obtain ⟨cl6, Ar6, q6, S6, M6, Ha6, G6⟩ := id V_b1_5
    have hin18_cl6 : ¬ ((2 : Int32) < 0 ∨ cl6.slots.size ≤ ((2 : Int32)).toNatClampNeg) := inb_of S6 ⟨by decide, by decide⟩
    obtain ⟨T7, h7, X7, e7, W7, st7⟩ := stC X5 hx hZ e5 Ar6 (j := (2 : Int32)) hin18_cl6 (g := (mkF m 18 #[.val (.int p1), .val (.int p2), .val (.long j1), .second, .val (.long j2), .second, .val (.long j3), .second, .unset, .unset, .unset, .unset, .unset] [(.int (68 : Int32)), (.int (2 : Int32)), (.ref b1), (.ref b1)])) rfl rfl (hb hby at_18)
    have Z7 : n0 ≤ h7.size := Nat.le_trans Z5 (Keep.of_wr W7).1
    have Kp7 : Keep h0 h7 [] := Kp5.wr W7 (Or.inr sz_b1)
    have V_b1_7 : Arv Z h7 b1 k1 .char (16 : Int32) [(.int (nar .char (82 : Int32))), (.int (nar .char (83 : Int32))), (.int (nar .char (68 : Int32))), (.int (0 : Int32)), (.int (0 : Int32)), (.int (0 : Int32)), (.int (0 : Int32)), (.int (0 : Int32)), (.int (0 : Int32)), (.int (0 : Int32)), (.int (0 : Int32)), (.int (0 : Int32)), (.int (0 : Int32)), (.int (0 : Int32)), (.int (0 : Int32)), (.int (0 : Int32))] (.int (0 : Int32)) := Arv.set Ar6 q6 S6 M6 Ha6 G6 (fits_nar_char _) W7 2 rfl (Nat.le_of_ble_eq_true rfl)
    have N7 := Fr.snoc X7 N5 ge_b1
    obtain ⟨cl8, Ar8, q8, S8, M8, Ha8, G8⟩ := id V_b1_7
    have hin23_cl8 : ¬ ((3 : Int32) < 0 ∨ cl8.slots.size ≤ ((3 : Int32)).toNatClampNeg) := inb_of S8 ⟨by decide, by decide⟩
    obtain ⟨T9, h9, X9, e9, W9, st9⟩ := stC X7 hx hZ e7 Ar8 (j := (3 : Int32)) hin23_cl8 (g := (mkF m 23 #[.val (.int p1), .val (.int p2), .val (.long j1), .second, .val (.long j2), .second, .val (.long j3), .second, .unset, .unset, .unset, .unset, .unset] [(.int (90 : Int32)), (.int (3 : Int32)), (.ref b1), (.ref b1)])) rfl rfl (hb hby at_23)
    have Z9 : n0 ≤ h9.size := Nat.le_trans Z7 (Keep.of_wr W9).1
    have Kp9 : Keep h0 h9 [] := Kp7.wr W9 (Or.inr sz_b1)
    have V_b1_9 : Arv Z h9 b1 k1 .char (16 : Int32) [(.int (nar .char (82 : Int32))), (.int (nar .char (83 : Int32))), (.int (nar .char (68 : Int32))), (.int (nar .char (90 : Int32))), (.int (0 : Int32)), (.int (0 : Int32)), (.int (0 : Int32)), (.int (0 : Int32)), (.int (0 : Int32)), (.int (0 : Int32)), (.int (0 : Int32)), (.int (0 : Int32)), (.int (0 : Int32)), (.int (0 : Int32)), (.int (0 : Int32)), (.int (0 : Int32))] (.int (0 : Int32)) := Arv.set Ar8 q8 S8 M8 Ha8 G8 (fits_nar_char _) W9 3 rfl (Nat.le_of_ble_eq_true rfl)
    have N9 := Fr.snoc X9 N7 ge_b1
    obtain ⟨cl10, Ar10, q10, S10, M10, Ha10, G10⟩ := id V_b1_9
    have hin28_cl10 : ¬ ((4 : Int32) < 0 ∨ cl10.slots.size ≤ ((4 : Int32)).toNatClampNeg) := inb_of S10 ⟨by decide, by decide⟩
    obtain ⟨T11, h11, X11, e11, W11, st11⟩ := stC X9 hx hZ e9 Ar10 (j := (4 : Int32)) hin28_cl10 (g := (mkF m 28 #[.val (.int p1), .val (.int p2), .val (.long j1), .second, .val (.long j2), .second, .val (.long j3), .second, .unset, .unset, .unset, .unset, .unset] [(.int (84 : Int32)), (.int (4 : Int32)), (.ref b1), (.ref b1)])) rfl rfl (hb hby at_28)
    have Z11 : n0 ≤ h11.size := Nat.le_trans Z9 (Keep.of_wr W11).1
    have Kp11 : Keep h0 h11 [] := Kp9.wr W11 (Or.inr sz_b1)
    have V_b1_11 : Arv Z h11 b1 k1 .char (16 : Int32) [(.int (nar .char (82 : Int32))), (.int (nar .char (83 : Int32))), (.int (nar .char (68 : Int32))), (.int (nar .char (90 : Int32))), (.int (nar .char (84 : Int32))), (.int (0 : Int32)), (.int (0 : Int32)), (.int (0 : Int32)), (.int (0 : Int32)), (.int (0 : Int32)), (.int (0 : Int32)), (.int (0 : Int32)), (.int (0 : Int32)), (.int (0 : Int32)), (.int (0 : Int32)), (.int (0 : Int32))] (.int (0 : Int32)) := Arv.set Ar10 q10 S10 M10 Ha10 G10 (fits_nar_char _) W11 4 rfl (Nat.le_of_ble_eq_true rfl)
    have N11 := Fr.snoc X11 N9 ge_b1
    obtain ⟨cl12, Ar12, q12, S12, M12, Ha12, G12⟩ := id V_b1_11
    have hin33_cl12 : ¬ ((5 : Int32) < 0 ∨ cl12.slots.size ≤ ((5 : Int32)).toNatClampNeg) := inb_of S12 ⟨by decide, by decide⟩
    obtain ⟨T13, h13, X13, e13, W13, st13⟩ := stC X11 hx hZ e11 Ar12 (j := (5 : Int32)) hin33_cl12 (g := (mkF m 33 #[.val (.int p1), .val (.int p2), .val (.long j1), .second, .val (.long j2), .second, .val (.long j3), .second, .unset, .unset, .unset, .unset, .unset] [(.int (116 : Int32)), (.int (5 : Int32)), (.ref b1), (.ref b1)])) rfl rfl (hb hby at_33)
    have Z13 : n0 ≤ h13.size := Nat.le_trans Z11 (Keep.of_wr W13).1
    have Kp13 : Keep h0 h13 [] := Kp11.wr W13 (Or.inr sz_b1)
    have V_b1_13 : Arv Z h13 b1 k1 .char (16 : Int32) [(.int (nar .char (82 : Int32))), (.int (nar .char (83 : Int32))), (.int (nar .char (68 : Int32))), (.int (nar .char (90 : Int32))), (.int (nar .char (84 : Int32))), (.int (nar .char (116 : Int32))), (.int (0 : Int32)), (.int (0 : Int32)), (.int (0 : Int32)), (.int (0 : Int32)), (.int (0 : Int32)), (.int (0 : Int32)), (.int (0 : Int32)), (.int (0 : Int32)), (.int (0 : Int32)), (.int (0 : Int32))] (.int (0 : Int32)) := Arv.set Ar12 q12 S12 M12 Ha12 G12 (fits_nar_char _) W13 5 rfl (Nat.le_of_ble_eq_true rfl)
    have N13 := Fr.snoc X13 N11 ge_b1
    obtain ⟨cl14, Ar14, q14, S14, M14, Ha14, G14⟩ := id V_b1_13
    have hin39_cl14 : ¬ ((6 : Int32) < 0 ∨ cl14.slots.size ≤ ((6 : Int32)).toNatClampNeg) := inb_of S14 ⟨by decide, by decide⟩
    obtain ⟨T15, h15, X15, e15, W15, st15⟩ := stC X13 hx hZ e13 Ar14 (j := (6 : Int32)) hin39_cl14 (g := (mkF m 39 #[.val (.int p1), .val (.int p2), .val (.long j1), .second, .val (.long j2), .second, .val (.long j3), .second, .unset, .unset, .unset, .unset, .unset] [(.int (88 : Int32)), (.int (6 : Int32)), (.ref b1), (.ref b1)])) rfl rfl (hb hby at_39)
    have Z15 : n0 ≤ h15.size := Nat.le_trans Z13 (Keep.of_wr W15).1
    have Kp15 : Keep h0 h15 [] := Kp13.wr W15 (Or.inr sz_b1)
    have V_b1_15 : Arv Z h15 b1 k1 .char (16 : Int32) [(.int (nar .char (82 : Int32))), (.int (nar .char (83 : Int32))), (.int (nar .char (68 : Int32))), (.int (nar .char (90 : Int32))), (.int (nar .char (84 : Int32))), (.int (nar .char (116 : Int32))), (.int (nar .char (88 : Int32))), (.int (0 : Int32)), (.int (0 : Int32)), (.int (0 : Int32)), (.int (0 : Int32)), (.int (0 : Int32)), (.int (0 : Int32)), (.int (0 : Int32)), (.int (0 : Int32)), (.int (0 : Int32))] (.int (0 : Int32)) := Arv.set Ar14 q14 S14 M14 Ha14 G14 (fits_nar_char _) W15 6 rfl (Nat.le_of_ble_eq_true rfl)
    have N15 := Fr.snoc X15 N13 ge_b1
    obtain ⟨cl16, Ar16, q16, S16, M16, Ha16, G16⟩ := id V_b1_15
    have hin45_cl16 : ¬ ((7 : Int32) < 0 ∨ cl16.slots.size ≤ ((7 : Int32)).toNatClampNeg) := inb_of S16 ⟨by decide, by decide⟩
    obtain ⟨T17, h17, X17, e17, W17, st17⟩ := stC X15 hx hZ e15 Ar16 (j := (7 : Int32)) hin45_cl16 (g := (mkF m 45 #[.val (.int p1), .val (.int p2), .val (.long j1), .second, .val (.long j2), .second, .val (.long j3), .second, .unset, .unset, .unset, .unset, .unset] [(.int (120 : Int32)), (.int (7 : Int32)), (.ref b1), (.ref b1)])) rfl rfl (hb hby at_45)
    have Z17 : n0 ≤ h17.size := Nat.le_trans Z15 (Keep.of_wr W17).1
    have Kp17 : Keep h0 h17 [] := Kp15.wr W17 (Or.inr sz_b1)
    have V_b1_17 : Arv Z h17 b1 k1 .char (16 : Int32) [(.int (nar .char (82 : Int32))), (.int (nar .char (83 : Int32))), (.int (nar .char (68 : Int32))), (.int (nar .char (90 : Int32))), (.int (nar .char (84 : Int32))), (.int (nar .char (116 : Int32))), (.int (nar .char (88 : Int32))), (.int (nar .char (120 : Int32))), (.int (0 : Int32)), (.int (0 : Int32)), (.int (0 : Int32)), (.int (0 : Int32)), (.int (0 : Int32)), (.int (0 : Int32)), (.int (0 : Int32)), (.int (0 : Int32))] (.int (0 : Int32)) := Arv.set Ar16 q16 S16 M16 Ha16 G16 (fits_nar_char _) W17 7 rfl (Nat.le_of_ble_eq_true rfl)
    have N17 := Fr.snoc X17 N15 ge_b1
    obtain ⟨cl18, Ar18, q18, S18, M18, Ha18, G18⟩ := id V_b1_17
    have hin51_cl18 : ¬ ((8 : Int32) < 0 ∨ cl18.slots.size ≤ ((8 : Int32)).toNatClampNeg) := inb_of S18 ⟨by decide, by decide⟩
    obtain ⟨T19, h19, X19, e19, W19, st19⟩ := stC X17 hx hZ e17 Ar18 (j := (8 : Int32)) hin51_cl18 (g := (mkF m 51 #[.val (.int p1), .val (.int p2), .val (.long j1), .second, .val (.long j2), .second, .val (.long j3), .second, .unset, .unset, .unset, .unset, .unset] [(.int (75 : Int32)), (.int (8 : Int32)), (.ref b1), (.ref b1)])) rfl rfl (hb hby at_51)
    have Z19 : n0 ≤ h19.size := Nat.le_trans Z17 (Keep.of_wr W19).1
    have Kp19 : Keep h0 h19 [] := Kp17.wr W19 (Or.inr sz_b1)
    have V_b1_19 : Arv Z h19 b1 k1 .char (16 : Int32) [(.int (nar .char (82 : Int32))), (.int (nar .char (83 : Int32))), (.int (nar .char (68 : Int32))), (.int (nar .char (90 : Int32))), (.int (nar .char (84 : Int32))), (.int (nar .char (116 : Int32))), (.int (nar .char (88 : Int32))), (.int (nar .char (120 : Int32))), (.int (nar .char (75 : Int32))), (.int (0 : Int32)), (.int (0 : Int32)), (.int (0 : Int32)), (.int (0 : Int32)), (.int (0 : Int32)), (.int (0 : Int32)), (.int (0 : Int32))] (.int (0 : Int32)) := Arv.set Ar18 q18 S18 M18 Ha18 G18 (fits_nar_char _) W19 8 rfl (Nat.le_of_ble_eq_true rfl)
    have N19 := Fr.snoc X19 N17 ge_b1
    obtain ⟨cl20, Ar20, q20, S20, M20, Ha20, G20⟩ := id V_b1_19
    have hin57_cl20 : ¬ ((9 : Int32) < 0 ∨ cl20.slots.size ≤ ((9 : Int32)).toNatClampNeg) := inb_of S20 ⟨by decide, by decide⟩
    obtain ⟨T21, h21, X21, e21, W21, st21⟩ := stC X19 hx hZ e19 Ar20 (j := (9 : Int32)) hin57_cl20 (g := (mkF m 57 #[.val (.int p1), .val (.int p2), .val (.long j1), .second, .val (.long j2), .second, .val (.long j3), .second, .unset, .unset, .unset, .unset, .unset] [(.int (87 : Int32)), (.int (9 : Int32)), (.ref b1), (.ref b1)])) rfl rfl (hb hby at_57)
    have Z21 : n0 ≤ h21.size := Nat.le_trans Z19 (Keep.of_wr W21).1
    have Kp21 : Keep h0 h21 [] := Kp19.wr W21 (Or.inr sz_b1)
    have V_b1_21 : Arv Z h21 b1 k1 .char (16 : Int32) [(.int (nar .char (82 : Int32))), (.int (nar .char (83 : Int32))), (.int (nar .char (68 : Int32))), (.int (nar .char (90 : Int32))), (.int (nar .char (84 : Int32))), (.int (nar .char (116 : Int32))), (.int (nar .char (88 : Int32))), (.int (nar .char (120 : Int32))), (.int (nar .char (75 : Int32))), (.int (nar .char (87 : Int32))), (.int (0 : Int32)), (.int (0 : Int32)), (.int (0 : Int32)), (.int (0 : Int32)), (.int (0 : Int32)), (.int (0 : Int32))] (.int (0 : Int32)) := Arv.set Ar20 q20 S20 M20 Ha20 G20 (fits_nar_char _) W21 9 rfl (Nat.le_of_ble_eq_true rfl)
    have N21 := Fr.snoc X21 N19 ge_b1
    obtain ⟨cl22, Ar22, q22, S22, M22, Ha22, G22⟩ := id V_b1_21
    have hin63_cl22 : ¬ ((10 : Int32) < 0 ∨ cl22.slots.size ≤ ((10 : Int32)).toNatClampNeg) := inb_of S22 ⟨by decide, by decide⟩
    obtain ⟨T23, h23, X23, e23, W23, st23⟩ := stC X21 hx hZ e21 Ar22 (j := (10 : Int32)) hin63_cl22 (g := (mkF m 63 #[.val (.int p1), .val (.int p2), .val (.long j1), .second, .val (.long j2), .second, .val (.long j3), .second, .unset, .unset, .unset, .unset, .unset] [(.int (80 : Int32)), (.int (10 : Int32)), (.ref b1), (.ref b1)])) rfl rfl (hb hby at_63)
    have Z23 : n0 ≤ h23.size := Nat.le_trans Z21 (Keep.of_wr W23).1
    have Kp23 : Keep h0 h23 [] := Kp21.wr W23 (Or.inr sz_b1)
    have V_b1_23 : Arv Z h23 b1 k1 .char (16 : Int32) [(.int (nar .char (82 : Int32))), (.int (nar .char (83 : Int32))), (.int (nar .char (68 : Int32))), (.int (nar .char (90 : Int32))), (.int (nar .char (84 : Int32))), (.int (nar .char (116 : Int32))), (.int (nar .char (88 : Int32))), (.int (nar .char (120 : Int32))), (.int (nar .char (75 : Int32))), (.int (nar .char (87 : Int32))), (.int (nar .char (80 : Int32))), (.int (0 : Int32)), (.int (0 : Int32)), (.int (0 : Int32)), (.int (0 : Int32)), (.int (0 : Int32))] (.int (0 : Int32)) := Arv.set Ar22 q22 S22 M22 Ha22 G22 (fits_nar_char _) W23 10 rfl (Nat.le_of_ble_eq_true rfl)
    have N23 := Fr.snoc X23 N21 ge_b1
    obtain ⟨cl24, Ar24, q24, S24, M24, Ha24, G24⟩ := id V_b1_23
    have hin69_cl24 : ¬ ((11 : Int32) < 0 ∨ cl24.slots.size ≤ ((11 : Int32)).toNatClampNeg) := inb_of S24 ⟨by decide, by decide⟩
    obtain ⟨T25, h25, X25, e25, W25, st25⟩ := stC X23 hx hZ e23 Ar24 (j := (11 : Int32)) hin69_cl24 (g := (mkF m 69 #[.val (.int p1), .val (.int p2), .val (.long j1), .second, .val (.long j2), .second, .val (.long j3), .second, .unset, .unset, .unset, .unset, .unset] [(.int (73 : Int32)), (.int (11 : Int32)), (.ref b1), (.ref b1)])) rfl rfl (hb hby at_69)
    have Z25 : n0 ≤ h25.size := Nat.le_trans Z23 (Keep.of_wr W25).1
    have Kp25 : Keep h0 h25 [] := Kp23.wr W25 (Or.inr sz_b1)
    have V_b1_25 : Arv Z h25 b1 k1 .char (16 : Int32) [(.int (nar .char (82 : Int32))), (.int (nar .char (83 : Int32))), (.int (nar .char (68 : Int32))), (.int (nar .char (90 : Int32))), (.int (nar .char (84 : Int32))), (.int (nar .char (116 : Int32))), (.int (nar .char (88 : Int32))), (.int (nar .char (120 : Int32))), (.int (nar .char (75 : Int32))), (.int (nar .char (87 : Int32))), (.int (nar .char (80 : Int32))), (.int (nar .char (73 : Int32))), (.int (0 : Int32)), (.int (0 : Int32)), (.int (0 : Int32)), (.int (0 : Int32))] (.int (0 : Int32)) := Arv.set Ar24 q24 S24 M24 Ha24 G24 (fits_nar_char _) W25 11 rfl (Nat.le_of_ble_eq_true rfl)
    have N25 := Fr.snoc X25 N23 ge_b1
    obtain ⟨cl26, Ar26, q26, S26, M26, Ha26, G26⟩ := id V_b1_25
    have hin75_cl26 : ¬ ((12 : Int32) < 0 ∨ cl26.slots.size ≤ ((12 : Int32)).toNatClampNeg) := inb_of S26 ⟨by decide, by decide⟩
    obtain ⟨T27, h27, X27, e27, W27, st27⟩ := stC X25 hx hZ e25 Ar26 (j := (12 : Int32)) hin75_cl26 (g := (mkF m 75 #[.val (.int p1), .val (.int p2), .val (.long j1), .second, .val (.long j2), .second, .val (.long j3), .second, .unset, .unset, .unset, .unset, .unset] [(.int (122 : Int32)), (.int (12 : Int32)), (.ref b1), (.ref b1)])) rfl rfl (hb hby at_75)
    have Z27 : n0 ≤ h27.size := Nat.le_trans Z25 (Keep.of_wr W27).1
    have Kp27 : Keep h0 h27 [] := Kp25.wr W27 (Or.inr sz_b1)
    have V_b1_27 : Arv Z h27 b1 k1 .char (16 : Int32) [(.int (nar .char (82 : Int32))), (.int (nar .char (83 : Int32))), (.int (nar .char (68 : Int32))), (.int (nar .char (90 : Int32))), (.int (nar .char (84 : Int32))), (.int (nar .char (116 : Int32))), (.int (nar .char (88 : Int32))), (.int (nar .char (120 : Int32))), (.int (nar .char (75 : Int32))), (.int (nar .char (87 : Int32))), (.int (nar .char (80 : Int32))), (.int (nar .char (73 : Int32))), (.int (nar .char (122 : Int32))), (.int (0 : Int32)), (.int (0 : Int32)), (.int (0 : Int32))] (.int (0 : Int32)) := Arv.set Ar26 q26 S26 M26 Ha26 G26 (fits_nar_char _) W27 12 rfl (Nat.le_of_ble_eq_true rfl)
    have N27 := Fr.snoc X27 N25 ge_b1
    obtain ⟨cl28, Ar28, q28, S28, M28, Ha28, G28⟩ := id V_b1_27
    have hin81_cl28 : ¬ ((13 : Int32) < 0 ∨ cl28.slots.size ≤ ((13 : Int32)).toNatClampNeg) := inb_of S28 ⟨by decide, by decide⟩
    obtain ⟨T29, h29, X29, e29, W29, st29⟩ := stC X27 hx hZ e27 Ar28 (j := (13 : Int32)) hin81_cl28 (g := (mkF m 81 #[.val (.int p1), .val (.int p2), .val (.long j1), .second, .val (.long j2), .second, .val (.long j3), .second, .unset, .unset, .unset, .unset, .unset] [(.int (89 : Int32)), (.int (13 : Int32)), (.ref b1), (.ref b1)])) rfl rfl (hb hby at_81)
    have Z29 : n0 ≤ h29.size := Nat.le_trans Z27 (Keep.of_wr W29).1
    have Kp29 : Keep h0 h29 [] := Kp27.wr W29 (Or.inr sz_b1)
    have V_b1_29 : Arv Z h29 b1 k1 .char (16 : Int32) [(.int (nar .char (82 : Int32))), (.int (nar .char (83 : Int32))), (.int (nar .char (68 : Int32))), (.int (nar .char (90 : Int32))), (.int (nar .char (84 : Int32))), (.int (nar .char (116 : Int32))), (.int (nar .char (88 : Int32))), (.int (nar .char (120 : Int32))), (.int (nar .char (75 : Int32))), (.int (nar .char (87 : Int32))), (.int (nar .char (80 : Int32))), (.int (nar .char (73 : Int32))), (.int (nar .char (122 : Int32))), (.int (nar .char (89 : Int32))), (.int (0 : Int32)), (.int (0 : Int32))] (.int (0 : Int32)) := Arv.set Ar28 q28 S28 M28 Ha28 G28 (fits_nar_char _) W29 13 rfl (Nat.le_of_ble_eq_true rfl)
    have N29 := Fr.snoc X29 N27 ge_b1
    obtain ⟨cl30, Ar30, q30, S30, M30, Ha30, G30⟩ := id V_b1_29
    have hin87_cl30 : ¬ ((14 : Int32) < 0 ∨ cl30.slots.size ≤ ((14 : Int32)).toNatClampNeg) := inb_of S30 ⟨by decide, by decide⟩
    obtain ⟨T31, h31, X31, e31, W31, st31⟩ := stC X29 hx hZ e29 Ar30 (j := (14 : Int32)) hin87_cl30 (g := (mkF m 87 #[.val (.int p1), .val (.int p2), .val (.long j1), .second, .val (.long j2), .second, .val (.long j3), .second, .unset, .unset, .unset, .unset, .unset] [(.int (91 : Int32)), (.int (14 : Int32)), (.ref b1), (.ref b1)])) rfl rfl (hb hby at_87)
    have Z31 : n0 ≤ h31.size := Nat.le_trans Z29 (Keep.of_wr W31).1
    have Kp31 : Keep h0 h31 [] := Kp29.wr W31 (Or.inr sz_b1)
    have V_b1_31 : Arv Z h31 b1 k1 .char (16 : Int32) [(.int (nar .char (82 : Int32))), (.int (nar .char (83 : Int32))), (.int (nar .char (68 : Int32))), (.int (nar .char (90 : Int32))), (.int (nar .char (84 : Int32))), (.int (nar .char (116 : Int32))), (.int (nar .char (88 : Int32))), (.int (nar .char (120 : Int32))), (.int (nar .char (75 : Int32))), (.int (nar .char (87 : Int32))), (.int (nar .char (80 : Int32))), (.int (nar .char (73 : Int32))), (.int (nar .char (122 : Int32))), (.int (nar .char (89 : Int32))), (.int (nar .char (91 : Int32))), (.int (0 : Int32))] (.int (0 : Int32)) := Arv.set Ar30 q30 S30 M30 Ha30 G30 (fits_nar_char _) W31 14 rfl (Nat.le_of_ble_eq_true rfl)
    have N31 := Fr.snoc X31 N29 ge_b1
    obtain ⟨cl32, Ar32, q32, S32, M32, Ha32, G32⟩ := id V_b1_31
    have hin93_cl32 : ¬ ((15 : Int32) < 0 ∨ cl32.slots.size ≤ ((15 : Int32)).toNatClampNeg) := inb_of S32 ⟨by decide, by decide⟩
    obtain ⟨T33, h33, X33, e33, W33, st33⟩ := stC X31 hx hZ e31 Ar32 (j := (15 : Int32)) hin93_cl32 (g := (mkF m 93 #[.val (.int p1), .val (.int p2), .val (.long j1), .second, .val (.long j2), .second, .val (.long j3), .second, .unset, .unset, .unset, .unset, .unset] [(.int (87 : Int32)), (.int (15 : Int32)), (.ref b1), (.ref b1)])) rfl rfl (hb hby at_93)
    have Z33 : n0 ≤ h33.size := Nat.le_trans Z31 (Keep.of_wr W33).1
    have Kp33 : Keep h0 h33 [] := Kp31.wr W33 (Or.inr sz_b1)
    have V_b1_33 : Arv Z h33 b1 k1 .char (16 : Int32) [(.int (nar .char (82 : Int32))), (.int (nar .char (83 : Int32))), (.int (nar .char (68 : Int32))), (.int (nar .char (90 : Int32))), (.int (nar .char (84 : Int32))), (.int (nar .char (116 : Int32))), (.int (nar .char (88 : Int32))), (.int (nar .char (120 : Int32))), (.int (nar .char (75 : Int32))), (.int (nar .char (87 : Int32))), (.int (nar .char (80 : Int32))), (.int (nar .char (73 : Int32))), (.int (nar .char (122 : Int32))), (.int (nar .char (89 : Int32))), (.int (nar .char (91 : Int32))), (.int (nar .char (87 : Int32)))] (.int (0 : Int32)) := Arv.set Ar32 q32 S32 M32 Ha32 G32 (fits_nar_char _) W33 15 rfl (Nat.le_of_ble_eq_true rfl)
    have N33 := Fr.snoc X33 N31 ge_b1
    obtain ⟨TJ, locJ, hJ, EJ, XJ, eJ, NJ, stJ⟩ := own_tail p1 p2 j1 j2 j3 b1 (0 : Int32) ch X33 hx hZ hw hby hml hown e33 N33 Z33 hc1
    obtain ⟨fs, hr, hrun, hended, hW, hsame⟩ := XJ.leave (v := some (.int (1 : Int32))) (fun h => by rw [Bd.returns] at h; cases h)
    refine ⟨_, _, pre0 _ ?_, hrun, hended, _, _, rfl, ?_, ⟨_, rfl⟩, hW, hsame.mono (by decide) (by decide)⟩
    · show Steps p.tables e below (s₁.setTop (mkF m 0 #[.val (.int p1), .val (.int p2), .val (.long j1), .second, .val (.long j2), .second, .val (.long j3), .second, .unset, .unset, .unset, .unset, .unset] [])) _
      refine XS.bipush X0.here hx rfl (hb hby at_0) ?_
      show Steps p.tables e below (s₁.setTop (mkF m 2 #[.val (.int p1), .val (.int p2), .val (.long j1), .second, .val (.long j2), .second, .val (.long j3), .second, .unset, .unset, .unset, .unset, .unset] [(.int (16 : Int32))])) _
      refine st1 _ ?_
      show Steps p.tables e below (T1.setTop (mkF m 4 #[.val (.int p1), .val (.int p2), .val (.long j1), .second, .val (.long j2), .second, .val (.long j3), .second, .unset, .unset, .unset, .unset, .unset] [(.ref b1)])) _
      refine XS.dup X1.here hx rfl (hb hby at_4) rfl rfl ?_
      show Steps p.tables e below (T1.setTop (mkF m 5 #[.val (.int p1), .val (.int p2), .val (.long j1), .second, .val (.long j2), .second, .val (.long j3), .second, .unset, .unset, .unset, .unset, .unset] [(.ref b1), (.ref b1)])) _
      refine XS.iconst X1.here hx rfl (hb hby at_5) ?_
      show Steps p.tables e below (T1.setTop (mkF m 6 #[.val (.int p1), .val (.int p2), .val (.long j1), .second, .val (.long j2), .second, .val (.long j3), .second, .unset, .unset, .unset, .unset, .unset] [(.int (0 : Int32)), (.ref b1), (.ref b1)])) _
      refine XS.bipush X1.here hx rfl (hb hby at_6) ?_
      show Steps p.tables e below (T1.setTop (mkF m 8 #[.val (.int p1), .val (.int p2), .val (.long j1), .second, .val (.long j2), .second, .val (.long j3), .second, .unset, .unset, .unset, .unset, .unset] [(.int (82 : Int32)), (.int (0 : Int32)), (.ref b1), (.ref b1)])) _
      refine st3 _ ?_
      show Steps p.tables e below (T3.setTop (mkF m 9 #[.val (.int p1), .val (.int p2), .val (.long j1), .second, .val (.long j2), .second, .val (.long j3), .second, .unset, .unset, .unset, .unset, .unset] [(.ref b1)])) _
      refine XS.dup X3.here hx rfl (hb hby at_9) rfl rfl ?_
      show Steps p.tables e below (T3.setTop (mkF m 10 #[.val (.int p1), .val (.int p2), .val (.long j1), .second, .val (.long j2), .second, .val (.long j3), .second, .unset, .unset, .unset, .unset, .unset] [(.ref b1), (.ref b1)])) _
      refine XS.iconst X3.here hx rfl (hb hby at_10) ?_
      show Steps p.tables e below (T3.setTop (mkF m 11 #[.val (.int p1), .val (.int p2), .val (.long j1), .second, .val (.long j2), .second, .val (.long j3), .second, .unset, .unset, .unset, .unset, .unset] [(.int (1 : Int32)), (.ref b1), (.ref b1)])) _
      refine XS.bipush X3.here hx rfl (hb hby at_11) ?_
      show Steps p.tables e below (T3.setTop (mkF m 13 #[.val (.int p1), .val (.int p2), .val (.long j1), .second, .val (.long j2), .second, .val (.long j3), .second, .unset, .unset, .unset, .unset, .unset] [(.int (83 : Int32)), (.int (1 : Int32)), (.ref b1), (.ref b1)])) _
      refine st5 _ ?_
      show Steps p.tables e below (T5.setTop (mkF m 14 #[.val (.int p1), .val (.int p2), .val (.long j1), .second, .val (.long j2), .second, .val (.long j3), .second, .unset, .unset, .unset, .unset, .unset] [(.ref b1)])) _
      refine XS.dup X5.here hx rfl (hb hby at_14) rfl rfl ?_
      show Steps p.tables e below (T5.setTop (mkF m 15 #[.val (.int p1), .val (.int p2), .val (.long j1), .second, .val (.long j2), .second, .val (.long j3), .second, .unset, .unset, .unset, .unset, .unset] [(.ref b1), (.ref b1)])) _
      refine XS.iconst X5.here hx rfl (hb hby at_15) ?_
      show Steps p.tables e below (T5.setTop (mkF m 16 #[.val (.int p1), .val (.int p2), .val (.long j1), .second, .val (.long j2), .second, .val (.long j3), .second, .unset, .unset, .unset, .unset, .unset] [(.int (2 : Int32)), (.ref b1), (.ref b1)])) _
      refine XS.bipush X5.here hx rfl (hb hby at_16) ?_
      show Steps p.tables e below (T5.setTop (mkF m 18 #[.val (.int p1), .val (.int p2), .val (.long j1), .second, .val (.long j2), .second, .val (.long j3), .second, .unset, .unset, .unset, .unset, .unset] [(.int (68 : Int32)), (.int (2 : Int32)), (.ref b1), (.ref b1)])) _
      refine st7 _ ?_
      show Steps p.tables e below (T7.setTop (mkF m 19 #[.val (.int p1), .val (.int p2), .val (.long j1), .second, .val (.long j2), .second, .val (.long j3), .second, .unset, .unset, .unset, .unset, .unset] [(.ref b1)])) _
      refine XS.dup X7.here hx rfl (hb hby at_19) rfl rfl ?_
      show Steps p.tables e below (T7.setTop (mkF m 20 #[.val (.int p1), .val (.int p2), .val (.long j1), .second, .val (.long j2), .second, .val (.long j3), .second, .unset, .unset, .unset, .unset, .unset] [(.ref b1), (.ref b1)])) _
      refine XS.iconst X7.here hx rfl (hb hby at_20) ?_
      show Steps p.tables e below (T7.setTop (mkF m 21 #[.val (.int p1), .val (.int p2), .val (.long j1), .second, .val (.long j2), .second, .val (.long j3), .second, .unset, .unset, .unset, .unset, .unset] [(.int (3 : Int32)), (.ref b1), (.ref b1)])) _
      refine XS.bipush X7.here hx rfl (hb hby at_21) ?_
      show Steps p.tables e below (T7.setTop (mkF m 23 #[.val (.int p1), .val (.int p2), .val (.long j1), .second, .val (.long j2), .second, .val (.long j3), .second, .unset, .unset, .unset, .unset, .unset] [(.int (90 : Int32)), (.int (3 : Int32)), (.ref b1), (.ref b1)])) _
      refine st9 _ ?_
      show Steps p.tables e below (T9.setTop (mkF m 24 #[.val (.int p1), .val (.int p2), .val (.long j1), .second, .val (.long j2), .second, .val (.long j3), .second, .unset, .unset, .unset, .unset, .unset] [(.ref b1)])) _
      refine XS.dup X9.here hx rfl (hb hby at_24) rfl rfl ?_
      show Steps p.tables e below (T9.setTop (mkF m 25 #[.val (.int p1), .val (.int p2), .val (.long j1), .second, .val (.long j2), .second, .val (.long j3), .second, .unset, .unset, .unset, .unset, .unset] [(.ref b1), (.ref b1)])) _
      refine XS.iconst X9.here hx rfl (hb hby at_25) ?_
      show Steps p.tables e below (T9.setTop (mkF m 26 #[.val (.int p1), .val (.int p2), .val (.long j1), .second, .val (.long j2), .second, .val (.long j3), .second, .unset, .unset, .unset, .unset, .unset] [(.int (4 : Int32)), (.ref b1), (.ref b1)])) _
      refine XS.bipush X9.here hx rfl (hb hby at_26) ?_
      show Steps p.tables e below (T9.setTop (mkF m 28 #[.val (.int p1), .val (.int p2), .val (.long j1), .second, .val (.long j2), .second, .val (.long j3), .second, .unset, .unset, .unset, .unset, .unset] [(.int (84 : Int32)), (.int (4 : Int32)), (.ref b1), (.ref b1)])) _
      refine st11 _ ?_
      show Steps p.tables e below (T11.setTop (mkF m 29 #[.val (.int p1), .val (.int p2), .val (.long j1), .second, .val (.long j2), .second, .val (.long j3), .second, .unset, .unset, .unset, .unset, .unset] [(.ref b1)])) _
      refine XS.dup X11.here hx rfl (hb hby at_29) rfl rfl ?_
      show Steps p.tables e below (T11.setTop (mkF m 30 #[.val (.int p1), .val (.int p2), .val (.long j1), .second, .val (.long j2), .second, .val (.long j3), .second, .unset, .unset, .unset, .unset, .unset] [(.ref b1), (.ref b1)])) _
      refine XS.iconst X11.here hx rfl (hb hby at_30) ?_
      show Steps p.tables e below (T11.setTop (mkF m 31 #[.val (.int p1), .val (.int p2), .val (.long j1), .second, .val (.long j2), .second, .val (.long j3), .second, .unset, .unset, .unset, .unset, .unset] [(.int (5 : Int32)), (.ref b1), (.ref b1)])) _
      refine XS.bipush X11.here hx rfl (hb hby at_31) ?_
      show Steps p.tables e below (T11.setTop (mkF m 33 #[.val (.int p1), .val (.int p2), .val (.long j1), .second, .val (.long j2), .second, .val (.long j3), .second, .unset, .unset, .unset, .unset, .unset] [(.int (116 : Int32)), (.int (5 : Int32)), (.ref b1), (.ref b1)])) _
      refine st13 _ ?_
      show Steps p.tables e below (T13.setTop (mkF m 34 #[.val (.int p1), .val (.int p2), .val (.long j1), .second, .val (.long j2), .second, .val (.long j3), .second, .unset, .unset, .unset, .unset, .unset] [(.ref b1)])) _
      refine XS.dup X13.here hx rfl (hb hby at_34) rfl rfl ?_
      show Steps p.tables e below (T13.setTop (mkF m 35 #[.val (.int p1), .val (.int p2), .val (.long j1), .second, .val (.long j2), .second, .val (.long j3), .second, .unset, .unset, .unset, .unset, .unset] [(.ref b1), (.ref b1)])) _
      refine XS.bipush X13.here hx rfl (hb hby at_35) ?_
      show Steps p.tables e below (T13.setTop (mkF m 37 #[.val (.int p1), .val (.int p2), .val (.long j1), .second, .val (.long j2), .second, .val (.long j3), .second, .unset, .unset, .unset, .unset, .unset] [(.int (6 : Int32)), (.ref b1), (.ref b1)])) _
      refine XS.bipush X13.here hx rfl (hb hby at_37) ?_
      show Steps p.tables e below (T13.setTop (mkF m 39 #[.val (.int p1), .val (.int p2), .val (.long j1), .second, .val (.long j2), .second, .val (.long j3), .second, .unset, .unset, .unset, .unset, .unset] [(.int (88 : Int32)), (.int (6 : Int32)), (.ref b1), (.ref b1)])) _
      refine st15 _ ?_
      show Steps p.tables e below (T15.setTop (mkF m 40 #[.val (.int p1), .val (.int p2), .val (.long j1), .second, .val (.long j2), .second, .val (.long j3), .second, .unset, .unset, .unset, .unset, .unset] [(.ref b1)])) _
      refine XS.dup X15.here hx rfl (hb hby at_40) rfl rfl ?_
      show Steps p.tables e below (T15.setTop (mkF m 41 #[.val (.int p1), .val (.int p2), .val (.long j1), .second, .val (.long j2), .second, .val (.long j3), .second, .unset, .unset, .unset, .unset, .unset] [(.ref b1), (.ref b1)])) _
      refine XS.bipush X15.here hx rfl (hb hby at_41) ?_
      show Steps p.tables e below (T15.setTop (mkF m 43 #[.val (.int p1), .val (.int p2), .val (.long j1), .second, .val (.long j2), .second, .val (.long j3), .second, .unset, .unset, .unset, .unset, .unset] [(.int (7 : Int32)), (.ref b1), (.ref b1)])) _
      refine XS.bipush X15.here hx rfl (hb hby at_43) ?_
      show Steps p.tables e below (T15.setTop (mkF m 45 #[.val (.int p1), .val (.int p2), .val (.long j1), .second, .val (.long j2), .second, .val (.long j3), .second, .unset, .unset, .unset, .unset, .unset] [(.int (120 : Int32)), (.int (7 : Int32)), (.ref b1), (.ref b1)])) _
      refine st17 _ ?_
      show Steps p.tables e below (T17.setTop (mkF m 46 #[.val (.int p1), .val (.int p2), .val (.long j1), .second, .val (.long j2), .second, .val (.long j3), .second, .unset, .unset, .unset, .unset, .unset] [(.ref b1)])) _
      refine XS.dup X17.here hx rfl (hb hby at_46) rfl rfl ?_
      show Steps p.tables e below (T17.setTop (mkF m 47 #[.val (.int p1), .val (.int p2), .val (.long j1), .second, .val (.long j2), .second, .val (.long j3), .second, .unset, .unset, .unset, .unset, .unset] [(.ref b1), (.ref b1)])) _
      refine XS.bipush X17.here hx rfl (hb hby at_47) ?_
      show Steps p.tables e below (T17.setTop (mkF m 49 #[.val (.int p1), .val (.int p2), .val (.long j1), .second, .val (.long j2), .second, .val (.long j3), .second, .unset, .unset, .unset, .unset, .unset] [(.int (8 : Int32)), (.ref b1), (.ref b1)])) _
      refine XS.bipush X17.here hx rfl (hb hby at_49) ?_
      show Steps p.tables e below (T17.setTop (mkF m 51 #[.val (.int p1), .val (.int p2), .val (.long j1), .second, .val (.long j2), .second, .val (.long j3), .second, .unset, .unset, .unset, .unset, .unset] [(.int (75 : Int32)), (.int (8 : Int32)), (.ref b1), (.ref b1)])) _
      refine st19 _ ?_
      show Steps p.tables e below (T19.setTop (mkF m 52 #[.val (.int p1), .val (.int p2), .val (.long j1), .second, .val (.long j2), .second, .val (.long j3), .second, .unset, .unset, .unset, .unset, .unset] [(.ref b1)])) _
      refine XS.dup X19.here hx rfl (hb hby at_52) rfl rfl ?_
      show Steps p.tables e below (T19.setTop (mkF m 53 #[.val (.int p1), .val (.int p2), .val (.long j1), .second, .val (.long j2), .second, .val (.long j3), .second, .unset, .unset, .unset, .unset, .unset] [(.ref b1), (.ref b1)])) _
      refine XS.bipush X19.here hx rfl (hb hby at_53) ?_
      show Steps p.tables e below (T19.setTop (mkF m 55 #[.val (.int p1), .val (.int p2), .val (.long j1), .second, .val (.long j2), .second, .val (.long j3), .second, .unset, .unset, .unset, .unset, .unset] [(.int (9 : Int32)), (.ref b1), (.ref b1)])) _
      refine XS.bipush X19.here hx rfl (hb hby at_55) ?_
      show Steps p.tables e below (T19.setTop (mkF m 57 #[.val (.int p1), .val (.int p2), .val (.long j1), .second, .val (.long j2), .second, .val (.long j3), .second, .unset, .unset, .unset, .unset, .unset] [(.int (87 : Int32)), (.int (9 : Int32)), (.ref b1), (.ref b1)])) _
      refine st21 _ ?_
      show Steps p.tables e below (T21.setTop (mkF m 58 #[.val (.int p1), .val (.int p2), .val (.long j1), .second, .val (.long j2), .second, .val (.long j3), .second, .unset, .unset, .unset, .unset, .unset] [(.ref b1)])) _
      refine XS.dup X21.here hx rfl (hb hby at_58) rfl rfl ?_
      show Steps p.tables e below (T21.setTop (mkF m 59 #[.val (.int p1), .val (.int p2), .val (.long j1), .second, .val (.long j2), .second, .val (.long j3), .second, .unset, .unset, .unset, .unset, .unset] [(.ref b1), (.ref b1)])) _
      refine XS.bipush X21.here hx rfl (hb hby at_59) ?_
      show Steps p.tables e below (T21.setTop (mkF m 61 #[.val (.int p1), .val (.int p2), .val (.long j1), .second, .val (.long j2), .second, .val (.long j3), .second, .unset, .unset, .unset, .unset, .unset] [(.int (10 : Int32)), (.ref b1), (.ref b1)])) _
      refine XS.bipush X21.here hx rfl (hb hby at_61) ?_
      show Steps p.tables e below (T21.setTop (mkF m 63 #[.val (.int p1), .val (.int p2), .val (.long j1), .second, .val (.long j2), .second, .val (.long j3), .second, .unset, .unset, .unset, .unset, .unset] [(.int (80 : Int32)), (.int (10 : Int32)), (.ref b1), (.ref b1)])) _
      refine st23 _ ?_
      show Steps p.tables e below (T23.setTop (mkF m 64 #[.val (.int p1), .val (.int p2), .val (.long j1), .second, .val (.long j2), .second, .val (.long j3), .second, .unset, .unset, .unset, .unset, .unset] [(.ref b1)])) _
      refine XS.dup X23.here hx rfl (hb hby at_64) rfl rfl ?_
      show Steps p.tables e below (T23.setTop (mkF m 65 #[.val (.int p1), .val (.int p2), .val (.long j1), .second, .val (.long j2), .second, .val (.long j3), .second, .unset, .unset, .unset, .unset, .unset] [(.ref b1), (.ref b1)])) _
      refine XS.bipush X23.here hx rfl (hb hby at_65) ?_
      show Steps p.tables e below (T23.setTop (mkF m 67 #[.val (.int p1), .val (.int p2), .val (.long j1), .second, .val (.long j2), .second, .val (.long j3), .second, .unset, .unset, .unset, .unset, .unset] [(.int (11 : Int32)), (.ref b1), (.ref b1)])) _
      refine XS.bipush X23.here hx rfl (hb hby at_67) ?_
      show Steps p.tables e below (T23.setTop (mkF m 69 #[.val (.int p1), .val (.int p2), .val (.long j1), .second, .val (.long j2), .second, .val (.long j3), .second, .unset, .unset, .unset, .unset, .unset] [(.int (73 : Int32)), (.int (11 : Int32)), (.ref b1), (.ref b1)])) _
      refine st25 _ ?_
      show Steps p.tables e below (T25.setTop (mkF m 70 #[.val (.int p1), .val (.int p2), .val (.long j1), .second, .val (.long j2), .second, .val (.long j3), .second, .unset, .unset, .unset, .unset, .unset] [(.ref b1)])) _
      refine XS.dup X25.here hx rfl (hb hby at_70) rfl rfl ?_
      show Steps p.tables e below (T25.setTop (mkF m 71 #[.val (.int p1), .val (.int p2), .val (.long j1), .second, .val (.long j2), .second, .val (.long j3), .second, .unset, .unset, .unset, .unset, .unset] [(.ref b1), (.ref b1)])) _
      refine XS.bipush X25.here hx rfl (hb hby at_71) ?_
      show Steps p.tables e below (T25.setTop (mkF m 73 #[.val (.int p1), .val (.int p2), .val (.long j1), .second, .val (.long j2), .second, .val (.long j3), .second, .unset, .unset, .unset, .unset, .unset] [(.int (12 : Int32)), (.ref b1), (.ref b1)])) _
      refine XS.bipush X25.here hx rfl (hb hby at_73) ?_
      show Steps p.tables e below (T25.setTop (mkF m 75 #[.val (.int p1), .val (.int p2), .val (.long j1), .second, .val (.long j2), .second, .val (.long j3), .second, .unset, .unset, .unset, .unset, .unset] [(.int (122 : Int32)), (.int (12 : Int32)), (.ref b1), (.ref b1)])) _
      refine st27 _ ?_
      show Steps p.tables e below (T27.setTop (mkF m 76 #[.val (.int p1), .val (.int p2), .val (.long j1), .second, .val (.long j2), .second, .val (.long j3), .second, .unset, .unset, .unset, .unset, .unset] [(.ref b1)])) _
      refine XS.dup X27.here hx rfl (hb hby at_76) rfl rfl ?_
      show Steps p.tables e below (T27.setTop (mkF m 77 #[.val (.int p1), .val (.int p2), .val (.long j1), .second, .val (.long j2), .second, .val (.long j3), .second, .unset, .unset, .unset, .unset, .unset] [(.ref b1), (.ref b1)])) _
      refine XS.bipush X27.here hx rfl (hb hby at_77) ?_
      show Steps p.tables e below (T27.setTop (mkF m 79 #[.val (.int p1), .val (.int p2), .val (.long j1), .second, .val (.long j2), .second, .val (.long j3), .second, .unset, .unset, .unset, .unset, .unset] [(.int (13 : Int32)), (.ref b1), (.ref b1)])) _
      refine XS.bipush X27.here hx rfl (hb hby at_79) ?_
      show Steps p.tables e below (T27.setTop (mkF m 81 #[.val (.int p1), .val (.int p2), .val (.long j1), .second, .val (.long j2), .second, .val (.long j3), .second, .unset, .unset, .unset, .unset, .unset] [(.int (89 : Int32)), (.int (13 : Int32)), (.ref b1), (.ref b1)])) _
      refine st29 _ ?_
      show Steps p.tables e below (T29.setTop (mkF m 82 #[.val (.int p1), .val (.int p2), .val (.long j1), .second, .val (.long j2), .second, .val (.long j3), .second, .unset, .unset, .unset, .unset, .unset] [(.ref b1)])) _
      refine XS.dup X29.here hx rfl (hb hby at_82) rfl rfl ?_
      show Steps p.tables e below (T29.setTop (mkF m 83 #[.val (.int p1), .val (.int p2), .val (.long j1), .second, .val (.long j2), .second, .val (.long j3), .second, .unset, .unset, .unset, .unset, .unset] [(.ref b1), (.ref b1)])) _
      refine XS.bipush X29.here hx rfl (hb hby at_83) ?_
      show Steps p.tables e below (T29.setTop (mkF m 85 #[.val (.int p1), .val (.int p2), .val (.long j1), .second, .val (.long j2), .second, .val (.long j3), .second, .unset, .unset, .unset, .unset, .unset] [(.int (14 : Int32)), (.ref b1), (.ref b1)])) _
      refine XS.bipush X29.here hx rfl (hb hby at_85) ?_
      show Steps p.tables e below (T29.setTop (mkF m 87 #[.val (.int p1), .val (.int p2), .val (.long j1), .second, .val (.long j2), .second, .val (.long j3), .second, .unset, .unset, .unset, .unset, .unset] [(.int (91 : Int32)), (.int (14 : Int32)), (.ref b1), (.ref b1)])) _
      refine st31 _ ?_
      show Steps p.tables e below (T31.setTop (mkF m 88 #[.val (.int p1), .val (.int p2), .val (.long j1), .second, .val (.long j2), .second, .val (.long j3), .second, .unset, .unset, .unset, .unset, .unset] [(.ref b1)])) _
      refine XS.dup X31.here hx rfl (hb hby at_88) rfl rfl ?_
      show Steps p.tables e below (T31.setTop (mkF m 89 #[.val (.int p1), .val (.int p2), .val (.long j1), .second, .val (.long j2), .second, .val (.long j3), .second, .unset, .unset, .unset, .unset, .unset] [(.ref b1), (.ref b1)])) _
      refine XS.bipush X31.here hx rfl (hb hby at_89) ?_
      show Steps p.tables e below (T31.setTop (mkF m 91 #[.val (.int p1), .val (.int p2), .val (.long j1), .second, .val (.long j2), .second, .val (.long j3), .second, .unset, .unset, .unset, .unset, .unset] [(.int (15 : Int32)), (.ref b1), (.ref b1)])) _
      refine XS.bipush X31.here hx rfl (hb hby at_91) ?_
      show Steps p.tables e below (T31.setTop (mkF m 93 #[.val (.int p1), .val (.int p2), .val (.long j1), .second, .val (.long j2), .second, .val (.long j3), .second, .unset, .unset, .unset, .unset, .unset] [(.int (87 : Int32)), (.int (15 : Int32)), (.ref b1), (.ref b1)])) _
      refine st33 _ ?_
      show Steps p.tables e below (T33.setTop (mkF m 94 #[.val (.int p1), .val (.int p2), .val (.long j1), .second, .val (.long j2), .second, .val (.long j3), .second, .unset, .unset, .unset, .unset, .unset] [(.ref b1)])) _
      refine XS.astore X33.here hx rfl (hb hby at_94) rfl rfl (l' := #[.val (.int p1), .val (.int p2), .val (.long j1), .second, .val (.long j2), .second, .val (.long j3), .second, .val (.ref b1), .unset, .unset, .unset, .unset]) rfl ?_
      show Steps p.tables e below (T33.setTop (mkF m 96 #[.val (.int p1), .val (.int p2), .val (.long j1), .second, .val (.long j2), .second, .val (.long j3), .second, .val (.ref b1), .unset, .unset, .unset, .unset] [])) _
      refine XS.iloadN X33.here hx rfl (hb hby at_96) rfl ?_
      show Steps p.tables e below (T33.setTop (mkF m 97 #[.val (.int p1), .val (.int p2), .val (.long j1), .second, .val (.long j2), .second, .val (.long j3), .second, .val (.ref b1), .unset, .unset, .unset, .unset] [(.int p2)])) _
      refine XS.iconst X33.here hx rfl (hb hby at_97) ?_
      show Steps p.tables e below (T33.setTop (mkF m 98 #[.val (.int p1), .val (.int p2), .val (.long j1), .second, .val (.long j2), .second, .val (.long j3), .second, .val (.ref b1), .unset, .unset, .unset, .unset] [(.int (4 : Int32)), (.int p2)])) _
      refine XS.ishr X33.here hx rfl (hb hby at_98) rfl ?_
      show Steps p.tables e below (T33.setTop (mkF m 99 #[.val (.int p1), .val (.int p2), .val (.long j1), .second, .val (.long j2), .second, .val (.long j3), .second, .val (.ref b1), .unset, .unset, .unset, .unset] [(.int (p2 >>> ((4 : Int32) &&& 31)))])) _
      refine XS.iconst X33.here hx rfl (hb hby at_99) ?_
      show Steps p.tables e below (T33.setTop (mkF m 100 #[.val (.int p1), .val (.int p2), .val (.long j1), .second, .val (.long j2), .second, .val (.long j3), .second, .val (.ref b1), .unset, .unset, .unset, .unset] [(.int (1 : Int32)), (.int (p2 >>> ((4 : Int32) &&& 31)))])) _
      refine XS.iand X33.here hx rfl (hb hby at_100) rfl ?_
      show Steps p.tables e below (T33.setTop (mkF m 101 #[.val (.int p1), .val (.int p2), .val (.long j1), .second, .val (.long j2), .second, .val (.long j3), .second, .val (.ref b1), .unset, .unset, .unset, .unset] [(.int ((p2 >>> ((4 : Int32) &&& 31)) &&& (1 : Int32)))])) _
      refine XS.ifYes X33.here hx rfl (pc0 := 101) (pc' := 108) rfl (hb hby at_101) rfl ((if0 _ _).trans (teq hs).1) (by decide) (by decide) ?_
      show Steps p.tables e below (T33.setTop (mkF m 108 #[.val (.int p1), .val (.int p2), .val (.long j1), .second, .val (.long j2), .second, .val (.long j3), .second, .val (.ref b1), .unset, .unset, .unset, .unset] [])) _
      refine XS.iconst X33.here hx rfl (hb hby at_108) ?_
      show Steps p.tables e below (T33.setTop (mkF m 109 #[.val (.int p1), .val (.int p2), .val (.long j1), .second, .val (.long j2), .second, .val (.long j3), .second, .val (.ref b1), .unset, .unset, .unset, .unset] [(.int (0 : Int32))])) _
      refine XS.istore X33.here hx rfl (hb hby at_109) rfl (l' := #[.val (.int p1), .val (.int p2), .val (.long j1), .second, .val (.long j2), .second, .val (.long j3), .second, .val (.ref b1), .val (.int (0 : Int32)), .unset, .unset, .unset]) rfl ?_
      show Steps p.tables e below (T33.setTop (mkF m 111 #[.val (.int p1), .val (.int p2), .val (.long j1), .second, .val (.long j2), .second, .val (.long j3), .second, .val (.ref b1), .val (.int (0 : Int32)), .unset, .unset, .unset] [])) _
      refine XS.iload X33.here hx rfl (hb hby at_111) rfl ?_
      show Steps p.tables e below (T33.setTop (mkF m 113 #[.val (.int p1), .val (.int p2), .val (.long j1), .second, .val (.long j2), .second, .val (.long j3), .second, .val (.ref b1), .val (.int (0 : Int32)), .unset, .unset, .unset] [(.int (0 : Int32))])) _
      refine XS.ifYes X33.here hx rfl (pc0 := 113) (pc' := 126) rfl (hb hby at_113) rfl ((if0 _ _).trans (teq (by decide : (0 : Int32) = (0 : Int32))).1) (by decide) (by decide) ?_
      show Steps p.tables e below (T33.setTop (mkF m 126 #[.val (.int p1), .val (.int p2), .val (.long j1), .second, .val (.long j2), .second, .val (.long j3), .second, .val (.ref b1), .val (.int (0 : Int32)), .unset, .unset, .unset] [])) _
      refine XS.iloadN X33.here hx rfl (hb hby at_126) rfl ?_
      show Steps p.tables e below (T33.setTop (mkF m 127 #[.val (.int p1), .val (.int p2), .val (.long j1), .second, .val (.long j2), .second, .val (.long j3), .second, .val (.ref b1), .val (.int (0 : Int32)), .unset, .unset, .unset] [(.int p1)])) _
      refine X33.ldcInt hx hown (mvT hZ (hw _ (List.mem_of_getElem? (i := 1) rfl))) (g := (mkF m 127 #[.val (.int p1), .val (.int p2), .val (.long j1), .second, .val (.long j2), .second, .val (.long j3), .second, .val (.ref b1), .val (.int (0 : Int32)), .unset, .unset, .unset] [(.int p1)])) rfl (hb hby at_127) _ ?_
      show Steps p.tables e below (T33.setTop (mkF m 129 #[.val (.int p1), .val (.int p2), .val (.long j1), .second, .val (.long j2), .second, .val (.long j3), .second, .val (.ref b1), .val (.int (0 : Int32)), .unset, .unset, .unset] [(.int (65535 : Int32)), (.int p1)])) _
      refine XS.iand X33.here hx rfl (hb hby at_129) rfl ?_
      show Steps p.tables e below (T33.setTop (mkF m 130 #[.val (.int p1), .val (.int p2), .val (.long j1), .second, .val (.long j2), .second, .val (.long j3), .second, .val (.ref b1), .val (.int (0 : Int32)), .unset, .unset, .unset] [(.int (p1 &&& (65535 : Int32)))])) _
      refine XS.i2c X33.here hx rfl (hb hby at_130) rfl ?_
      rw [show ((p1 &&& (65535 : Int32)).toUInt32.toUInt16.toUInt32.toInt32) = ch from hch]
      show Steps p.tables e below (T33.setTop (mkF m 131 #[.val (.int p1), .val (.int p2), .val (.long j1), .second, .val (.long j2), .second, .val (.long j3), .second, .val (.ref b1), .val (.int (0 : Int32)), .unset, .unset, .unset] [(.int ch)])) _
      refine XS.istore X33.here hx rfl (hb hby at_131) rfl (l' := #[.val (.int p1), .val (.int p2), .val (.long j1), .second, .val (.long j2), .second, .val (.long j3), .second, .val (.ref b1), .val (.int (0 : Int32)), .val (.int ch), .unset, .unset]) rfl ?_
      show Steps p.tables e below (T33.setTop (mkF m 133 #[.val (.int p1), .val (.int p2), .val (.long j1), .second, .val (.long j2), .second, .val (.long j3), .second, .val (.ref b1), .val (.int (0 : Int32)), .val (.int ch), .unset, .unset] [])) _
      refine stJ _ ?_
      show Steps p.tables e below (TJ.setTop (mkF m 239 #[.val (.int p1), .val (.int p2), .val (.long j1), .second, .val (.long j2), .second, .val (.long j3), .second, .val (.ref b1), .val (.int (0 : Int32)), .val (.int ch), .val (.ref EJ), .val (.int (1 : Int32))] [(.int (1 : Int32))])) _
      exact retN XJ hx (t := .boolean) Bd.returns (by simp) (hb hby at_239) hr
    · show Q_rm0 Z p1 p2 j1 j2 j3 h0 n0 _ TJ.heap _
      rw [eJ]
      exact ⟨rfl, NJ⟩
  · obtain ⟨T1, h1, k1, X1, e1, E1, A1, st1⟩ := newP X0 hx hZ (hw _ (List.mem_of_getElem? (i := 0) rfl)) e0 (g := (mkF m 2 #[.val (.int p1), .val (.int p2), .val (.long j1), .second, .val (.long j2), .second, .val (.long j3), .second, .unset, .unset, .unset, .unset, .unset] [(.int (16 : Int32))])) rfl (hb hby at_2) rfl (by decide) (cap := 16) (by decide) (by decide) (by decide) (by decide)
    obtain ⟨b1, g1⟩ : ∃ z, z = h0.size := ⟨_, rfl⟩
    rw [← g1] at A1 st1
    have ge_b1 : n0 ≤ b1 := Nat.le_trans Z0 (Nat.le_of_eq g1.symm)
    have sz_b1 : h0.size ≤ b1 := Nat.le_trans (Keep.refl h0 []).1 (Nat.le_of_eq g1.symm)
    have Z1 : n0 ≤ h1.size := Nat.le_trans Z0 E1.1
    have Kp1 : Keep h0 h1 [] := (Keep.refl h0 []).ext E1
    have V_b1 : Arv Z h1 b1 k1 .char (16 : Int32) [(.int (0 : Int32)), (.int (0 : Int32)), (.int (0 : Int32)), (.int (0 : Int32)), (.int (0 : Int32)), (.int (0 : Int32)), (.int (0 : Int32)), (.int (0 : Int32)), (.int (0 : Int32)), (.int (0 : Int32)), (.int (0 : Int32)), (.int (0 : Int32)), (.int (0 : Int32)), (.int (0 : Int32)), (.int (0 : Int32)), (.int (0 : Int32))] (.int (0 : Int32)) := (Arv.new A1 (by decide)).pad (pad_rep [] (.int (0 : Int32)) 16)
    obtain ⟨cl2, Ar2, q2, S2, M2, Ha2, G2⟩ := id V_b1
    have hin8_cl2 : ¬ ((0 : Int32) < 0 ∨ cl2.slots.size ≤ ((0 : Int32)).toNatClampNeg) := inb_of S2 ⟨by decide, by decide⟩
    obtain ⟨T3, h3, X3, e3, W3, st3⟩ := stC X1 hx hZ e1 Ar2 (j := (0 : Int32)) hin8_cl2 (g := (mkF m 8 #[.val (.int p1), .val (.int p2), .val (.long j1), .second, .val (.long j2), .second, .val (.long j3), .second, .unset, .unset, .unset, .unset, .unset] [(.int (82 : Int32)), (.int (0 : Int32)), (.ref b1), (.ref b1)])) rfl rfl (hb hby at_8)
    have Z3 : n0 ≤ h3.size := Nat.le_trans Z1 (Keep.of_wr W3).1
    have Kp3 : Keep h0 h3 [] := Kp1.wr W3 (Or.inr sz_b1)
    have V_b1_3 : Arv Z h3 b1 k1 .char (16 : Int32) [(.int (nar .char (82 : Int32))), (.int (0 : Int32)), (.int (0 : Int32)), (.int (0 : Int32)), (.int (0 : Int32)), (.int (0 : Int32)), (.int (0 : Int32)), (.int (0 : Int32)), (.int (0 : Int32)), (.int (0 : Int32)), (.int (0 : Int32)), (.int (0 : Int32)), (.int (0 : Int32)), (.int (0 : Int32)), (.int (0 : Int32)), (.int (0 : Int32))] (.int (0 : Int32)) := Arv.set Ar2 q2 S2 M2 Ha2 G2 (fits_nar_char _) W3 0 rfl (Nat.le_of_ble_eq_true rfl)
    have N3 := Fr.snoc X3 N0 ge_b1
    obtain ⟨cl4, Ar4, q4, S4, M4, Ha4, G4⟩ := id V_b1_3
    have hin13_cl4 : ¬ ((1 : Int32) < 0 ∨ cl4.slots.size ≤ ((1 : Int32)).toNatClampNeg) := inb_of S4 ⟨by decide, by decide⟩
    obtain ⟨T5, h5, X5, e5, W5, st5⟩ := stC X3 hx hZ e3 Ar4 (j := (1 : Int32)) hin13_cl4 (g := (mkF m 13 #[.val (.int p1), .val (.int p2), .val (.long j1), .second, .val (.long j2), .second, .val (.long j3), .second, .unset, .unset, .unset, .unset, .unset] [(.int (83 : Int32)), (.int (1 : Int32)), (.ref b1), (.ref b1)])) rfl rfl (hb hby at_13)
    have Z5 : n0 ≤ h5.size := Nat.le_trans Z3 (Keep.of_wr W5).1
    have Kp5 : Keep h0 h5 [] := Kp3.wr W5 (Or.inr sz_b1)
    have V_b1_5 : Arv Z h5 b1 k1 .char (16 : Int32) [(.int (nar .char (82 : Int32))), (.int (nar .char (83 : Int32))), (.int (0 : Int32)), (.int (0 : Int32)), (.int (0 : Int32)), (.int (0 : Int32)), (.int (0 : Int32)), (.int (0 : Int32)), (.int (0 : Int32)), (.int (0 : Int32)), (.int (0 : Int32)), (.int (0 : Int32)), (.int (0 : Int32)), (.int (0 : Int32)), (.int (0 : Int32)), (.int (0 : Int32))] (.int (0 : Int32)) := Arv.set Ar4 q4 S4 M4 Ha4 G4 (fits_nar_char _) W5 1 rfl (Nat.le_of_ble_eq_true rfl)
    have N5 := Fr.snoc X5 N3 ge_b1
    obtain ⟨cl6, Ar6, q6, S6, M6, Ha6, G6⟩ := id V_b1_5
    have hin18_cl6 : ¬ ((2 : Int32) < 0 ∨ cl6.slots.size ≤ ((2 : Int32)).toNatClampNeg) := inb_of S6 ⟨by decide, by decide⟩
    obtain ⟨T7, h7, X7, e7, W7, st7⟩ := stC X5 hx hZ e5 Ar6 (j := (2 : Int32)) hin18_cl6 (g := (mkF m 18 #[.val (.int p1), .val (.int p2), .val (.long j1), .second, .val (.long j2), .second, .val (.long j3), .second, .unset, .unset, .unset, .unset, .unset] [(.int (68 : Int32)), (.int (2 : Int32)), (.ref b1), (.ref b1)])) rfl rfl (hb hby at_18)
    have Z7 : n0 ≤ h7.size := Nat.le_trans Z5 (Keep.of_wr W7).1
    have Kp7 : Keep h0 h7 [] := Kp5.wr W7 (Or.inr sz_b1)
    have V_b1_7 : Arv Z h7 b1 k1 .char (16 : Int32) [(.int (nar .char (82 : Int32))), (.int (nar .char (83 : Int32))), (.int (nar .char (68 : Int32))), (.int (0 : Int32)), (.int (0 : Int32)), (.int (0 : Int32)), (.int (0 : Int32)), (.int (0 : Int32)), (.int (0 : Int32)), (.int (0 : Int32)), (.int (0 : Int32)), (.int (0 : Int32)), (.int (0 : Int32)), (.int (0 : Int32)), (.int (0 : Int32)), (.int (0 : Int32))] (.int (0 : Int32)) := Arv.set Ar6 q6 S6 M6 Ha6 G6 (fits_nar_char _) W7 2 rfl (Nat.le_of_ble_eq_true rfl)
    have N7 := Fr.snoc X7 N5 ge_b1
    obtain ⟨cl8, Ar8, q8, S8, M8, Ha8, G8⟩ := id V_b1_7
    have hin23_cl8 : ¬ ((3 : Int32) < 0 ∨ cl8.slots.size ≤ ((3 : Int32)).toNatClampNeg) := inb_of S8 ⟨by decide, by decide⟩
    obtain ⟨T9, h9, X9, e9, W9, st9⟩ := stC X7 hx hZ e7 Ar8 (j := (3 : Int32)) hin23_cl8 (g := (mkF m 23 #[.val (.int p1), .val (.int p2), .val (.long j1), .second, .val (.long j2), .second, .val (.long j3), .second, .unset, .unset, .unset, .unset, .unset] [(.int (90 : Int32)), (.int (3 : Int32)), (.ref b1), (.ref b1)])) rfl rfl (hb hby at_23)
    have Z9 : n0 ≤ h9.size := Nat.le_trans Z7 (Keep.of_wr W9).1
    have Kp9 : Keep h0 h9 [] := Kp7.wr W9 (Or.inr sz_b1)
    have V_b1_9 : Arv Z h9 b1 k1 .char (16 : Int32) [(.int (nar .char (82 : Int32))), (.int (nar .char (83 : Int32))), (.int (nar .char (68 : Int32))), (.int (nar .char (90 : Int32))), (.int (0 : Int32)), (.int (0 : Int32)), (.int (0 : Int32)), (.int (0 : Int32)), (.int (0 : Int32)), (.int (0 : Int32)), (.int (0 : Int32)), (.int (0 : Int32)), (.int (0 : Int32)), (.int (0 : Int32)), (.int (0 : Int32)), (.int (0 : Int32))] (.int (0 : Int32)) := Arv.set Ar8 q8 S8 M8 Ha8 G8 (fits_nar_char _) W9 3 rfl (Nat.le_of_ble_eq_true rfl)
    have N9 := Fr.snoc X9 N7 ge_b1
    obtain ⟨cl10, Ar10, q10, S10, M10, Ha10, G10⟩ := id V_b1_9
    have hin28_cl10 : ¬ ((4 : Int32) < 0 ∨ cl10.slots.size ≤ ((4 : Int32)).toNatClampNeg) := inb_of S10 ⟨by decide, by decide⟩
    obtain ⟨T11, h11, X11, e11, W11, st11⟩ := stC X9 hx hZ e9 Ar10 (j := (4 : Int32)) hin28_cl10 (g := (mkF m 28 #[.val (.int p1), .val (.int p2), .val (.long j1), .second, .val (.long j2), .second, .val (.long j3), .second, .unset, .unset, .unset, .unset, .unset] [(.int (84 : Int32)), (.int (4 : Int32)), (.ref b1), (.ref b1)])) rfl rfl (hb hby at_28)
    have Z11 : n0 ≤ h11.size := Nat.le_trans Z9 (Keep.of_wr W11).1
    have Kp11 : Keep h0 h11 [] := Kp9.wr W11 (Or.inr sz_b1)
    have V_b1_11 : Arv Z h11 b1 k1 .char (16 : Int32) [(.int (nar .char (82 : Int32))), (.int (nar .char (83 : Int32))), (.int (nar .char (68 : Int32))), (.int (nar .char (90 : Int32))), (.int (nar .char (84 : Int32))), (.int (0 : Int32)), (.int (0 : Int32)), (.int (0 : Int32)), (.int (0 : Int32)), (.int (0 : Int32)), (.int (0 : Int32)), (.int (0 : Int32)), (.int (0 : Int32)), (.int (0 : Int32)), (.int (0 : Int32)), (.int (0 : Int32))] (.int (0 : Int32)) := Arv.set Ar10 q10 S10 M10 Ha10 G10 (fits_nar_char _) W11 4 rfl (Nat.le_of_ble_eq_true rfl)
    have N11 := Fr.snoc X11 N9 ge_b1
    obtain ⟨cl12, Ar12, q12, S12, M12, Ha12, G12⟩ := id V_b1_11
    have hin33_cl12 : ¬ ((5 : Int32) < 0 ∨ cl12.slots.size ≤ ((5 : Int32)).toNatClampNeg) := inb_of S12 ⟨by decide, by decide⟩
    obtain ⟨T13, h13, X13, e13, W13, st13⟩ := stC X11 hx hZ e11 Ar12 (j := (5 : Int32)) hin33_cl12 (g := (mkF m 33 #[.val (.int p1), .val (.int p2), .val (.long j1), .second, .val (.long j2), .second, .val (.long j3), .second, .unset, .unset, .unset, .unset, .unset] [(.int (116 : Int32)), (.int (5 : Int32)), (.ref b1), (.ref b1)])) rfl rfl (hb hby at_33)
    have Z13 : n0 ≤ h13.size := Nat.le_trans Z11 (Keep.of_wr W13).1
    have Kp13 : Keep h0 h13 [] := Kp11.wr W13 (Or.inr sz_b1)
    have V_b1_13 : Arv Z h13 b1 k1 .char (16 : Int32) [(.int (nar .char (82 : Int32))), (.int (nar .char (83 : Int32))), (.int (nar .char (68 : Int32))), (.int (nar .char (90 : Int32))), (.int (nar .char (84 : Int32))), (.int (nar .char (116 : Int32))), (.int (0 : Int32)), (.int (0 : Int32)), (.int (0 : Int32)), (.int (0 : Int32)), (.int (0 : Int32)), (.int (0 : Int32)), (.int (0 : Int32)), (.int (0 : Int32)), (.int (0 : Int32)), (.int (0 : Int32))] (.int (0 : Int32)) := Arv.set Ar12 q12 S12 M12 Ha12 G12 (fits_nar_char _) W13 5 rfl (Nat.le_of_ble_eq_true rfl)
    have N13 := Fr.snoc X13 N11 ge_b1
    obtain ⟨cl14, Ar14, q14, S14, M14, Ha14, G14⟩ := id V_b1_13
    have hin39_cl14 : ¬ ((6 : Int32) < 0 ∨ cl14.slots.size ≤ ((6 : Int32)).toNatClampNeg) := inb_of S14 ⟨by decide, by decide⟩
    obtain ⟨T15, h15, X15, e15, W15, st15⟩ := stC X13 hx hZ e13 Ar14 (j := (6 : Int32)) hin39_cl14 (g := (mkF m 39 #[.val (.int p1), .val (.int p2), .val (.long j1), .second, .val (.long j2), .second, .val (.long j3), .second, .unset, .unset, .unset, .unset, .unset] [(.int (88 : Int32)), (.int (6 : Int32)), (.ref b1), (.ref b1)])) rfl rfl (hb hby at_39)
    have Z15 : n0 ≤ h15.size := Nat.le_trans Z13 (Keep.of_wr W15).1
    have Kp15 : Keep h0 h15 [] := Kp13.wr W15 (Or.inr sz_b1)
    have V_b1_15 : Arv Z h15 b1 k1 .char (16 : Int32) [(.int (nar .char (82 : Int32))), (.int (nar .char (83 : Int32))), (.int (nar .char (68 : Int32))), (.int (nar .char (90 : Int32))), (.int (nar .char (84 : Int32))), (.int (nar .char (116 : Int32))), (.int (nar .char (88 : Int32))), (.int (0 : Int32)), (.int (0 : Int32)), (.int (0 : Int32)), (.int (0 : Int32)), (.int (0 : Int32)), (.int (0 : Int32)), (.int (0 : Int32)), (.int (0 : Int32)), (.int (0 : Int32))] (.int (0 : Int32)) := Arv.set Ar14 q14 S14 M14 Ha14 G14 (fits_nar_char _) W15 6 rfl (Nat.le_of_ble_eq_true rfl)
    have N15 := Fr.snoc X15 N13 ge_b1
    obtain ⟨cl16, Ar16, q16, S16, M16, Ha16, G16⟩ := id V_b1_15
    have hin45_cl16 : ¬ ((7 : Int32) < 0 ∨ cl16.slots.size ≤ ((7 : Int32)).toNatClampNeg) := inb_of S16 ⟨by decide, by decide⟩
    obtain ⟨T17, h17, X17, e17, W17, st17⟩ := stC X15 hx hZ e15 Ar16 (j := (7 : Int32)) hin45_cl16 (g := (mkF m 45 #[.val (.int p1), .val (.int p2), .val (.long j1), .second, .val (.long j2), .second, .val (.long j3), .second, .unset, .unset, .unset, .unset, .unset] [(.int (120 : Int32)), (.int (7 : Int32)), (.ref b1), (.ref b1)])) rfl rfl (hb hby at_45)
    have Z17 : n0 ≤ h17.size := Nat.le_trans Z15 (Keep.of_wr W17).1
    have Kp17 : Keep h0 h17 [] := Kp15.wr W17 (Or.inr sz_b1)
    have V_b1_17 : Arv Z h17 b1 k1 .char (16 : Int32) [(.int (nar .char (82 : Int32))), (.int (nar .char (83 : Int32))), (.int (nar .char (68 : Int32))), (.int (nar .char (90 : Int32))), (.int (nar .char (84 : Int32))), (.int (nar .char (116 : Int32))), (.int (nar .char (88 : Int32))), (.int (nar .char (120 : Int32))), (.int (0 : Int32)), (.int (0 : Int32)), (.int (0 : Int32)), (.int (0 : Int32)), (.int (0 : Int32)), (.int (0 : Int32)), (.int (0 : Int32)), (.int (0 : Int32))] (.int (0 : Int32)) := Arv.set Ar16 q16 S16 M16 Ha16 G16 (fits_nar_char _) W17 7 rfl (Nat.le_of_ble_eq_true rfl)
    have N17 := Fr.snoc X17 N15 ge_b1
    obtain ⟨cl18, Ar18, q18, S18, M18, Ha18, G18⟩ := id V_b1_17
    have hin51_cl18 : ¬ ((8 : Int32) < 0 ∨ cl18.slots.size ≤ ((8 : Int32)).toNatClampNeg) := inb_of S18 ⟨by decide, by decide⟩
    obtain ⟨T19, h19, X19, e19, W19, st19⟩ := stC X17 hx hZ e17 Ar18 (j := (8 : Int32)) hin51_cl18 (g := (mkF m 51 #[.val (.int p1), .val (.int p2), .val (.long j1), .second, .val (.long j2), .second, .val (.long j3), .second, .unset, .unset, .unset, .unset, .unset] [(.int (75 : Int32)), (.int (8 : Int32)), (.ref b1), (.ref b1)])) rfl rfl (hb hby at_51)
    have Z19 : n0 ≤ h19.size := Nat.le_trans Z17 (Keep.of_wr W19).1
    have Kp19 : Keep h0 h19 [] := Kp17.wr W19 (Or.inr sz_b1)
    have V_b1_19 : Arv Z h19 b1 k1 .char (16 : Int32) [(.int (nar .char (82 : Int32))), (.int (nar .char (83 : Int32))), (.int (nar .char (68 : Int32))), (.int (nar .char (90 : Int32))), (.int (nar .char (84 : Int32))), (.int (nar .char (116 : Int32))), (.int (nar .char (88 : Int32))), (.int (nar .char (120 : Int32))), (.int (nar .char (75 : Int32))), (.int (0 : Int32)), (.int (0 : Int32)), (.int (0 : Int32)), (.int (0 : Int32)), (.int (0 : Int32)), (.int (0 : Int32)), (.int (0 : Int32))] (.int (0 : Int32)) := Arv.set Ar18 q18 S18 M18 Ha18 G18 (fits_nar_char _) W19 8 rfl (Nat.le_of_ble_eq_true rfl)
    have N19 := Fr.snoc X19 N17 ge_b1
    obtain ⟨cl20, Ar20, q20, S20, M20, Ha20, G20⟩ := id V_b1_19
    have hin57_cl20 : ¬ ((9 : Int32) < 0 ∨ cl20.slots.size ≤ ((9 : Int32)).toNatClampNeg) := inb_of S20 ⟨by decide, by decide⟩
    obtain ⟨T21, h21, X21, e21, W21, st21⟩ := stC X19 hx hZ e19 Ar20 (j := (9 : Int32)) hin57_cl20 (g := (mkF m 57 #[.val (.int p1), .val (.int p2), .val (.long j1), .second, .val (.long j2), .second, .val (.long j3), .second, .unset, .unset, .unset, .unset, .unset] [(.int (87 : Int32)), (.int (9 : Int32)), (.ref b1), (.ref b1)])) rfl rfl (hb hby at_57)
    have Z21 : n0 ≤ h21.size := Nat.le_trans Z19 (Keep.of_wr W21).1
    have Kp21 : Keep h0 h21 [] := Kp19.wr W21 (Or.inr sz_b1)
    have V_b1_21 : Arv Z h21 b1 k1 .char (16 : Int32) [(.int (nar .char (82 : Int32))), (.int (nar .char (83 : Int32))), (.int (nar .char (68 : Int32))), (.int (nar .char (90 : Int32))), (.int (nar .char (84 : Int32))), (.int (nar .char (116 : Int32))), (.int (nar .char (88 : Int32))), (.int (nar .char (120 : Int32))), (.int (nar .char (75 : Int32))), (.int (nar .char (87 : Int32))), (.int (0 : Int32)), (.int (0 : Int32)), (.int (0 : Int32)), (.int (0 : Int32)), (.int (0 : Int32)), (.int (0 : Int32))] (.int (0 : Int32)) := Arv.set Ar20 q20 S20 M20 Ha20 G20 (fits_nar_char _) W21 9 rfl (Nat.le_of_ble_eq_true rfl)
    have N21 := Fr.snoc X21 N19 ge_b1
    obtain ⟨cl22, Ar22, q22, S22, M22, Ha22, G22⟩ := id V_b1_21
    have hin63_cl22 : ¬ ((10 : Int32) < 0 ∨ cl22.slots.size ≤ ((10 : Int32)).toNatClampNeg) := inb_of S22 ⟨by decide, by decide⟩
    obtain ⟨T23, h23, X23, e23, W23, st23⟩ := stC X21 hx hZ e21 Ar22 (j := (10 : Int32)) hin63_cl22 (g := (mkF m 63 #[.val (.int p1), .val (.int p2), .val (.long j1), .second, .val (.long j2), .second, .val (.long j3), .second, .unset, .unset, .unset, .unset, .unset] [(.int (80 : Int32)), (.int (10 : Int32)), (.ref b1), (.ref b1)])) rfl rfl (hb hby at_63)
    have Z23 : n0 ≤ h23.size := Nat.le_trans Z21 (Keep.of_wr W23).1
    have Kp23 : Keep h0 h23 [] := Kp21.wr W23 (Or.inr sz_b1)
    have V_b1_23 : Arv Z h23 b1 k1 .char (16 : Int32) [(.int (nar .char (82 : Int32))), (.int (nar .char (83 : Int32))), (.int (nar .char (68 : Int32))), (.int (nar .char (90 : Int32))), (.int (nar .char (84 : Int32))), (.int (nar .char (116 : Int32))), (.int (nar .char (88 : Int32))), (.int (nar .char (120 : Int32))), (.int (nar .char (75 : Int32))), (.int (nar .char (87 : Int32))), (.int (nar .char (80 : Int32))), (.int (0 : Int32)), (.int (0 : Int32)), (.int (0 : Int32)), (.int (0 : Int32)), (.int (0 : Int32))] (.int (0 : Int32)) := Arv.set Ar22 q22 S22 M22 Ha22 G22 (fits_nar_char _) W23 10 rfl (Nat.le_of_ble_eq_true rfl)
    have N23 := Fr.snoc X23 N21 ge_b1
    obtain ⟨cl24, Ar24, q24, S24, M24, Ha24, G24⟩ := id V_b1_23
    have hin69_cl24 : ¬ ((11 : Int32) < 0 ∨ cl24.slots.size ≤ ((11 : Int32)).toNatClampNeg) := inb_of S24 ⟨by decide, by decide⟩
    obtain ⟨T25, h25, X25, e25, W25, st25⟩ := stC X23 hx hZ e23 Ar24 (j := (11 : Int32)) hin69_cl24 (g := (mkF m 69 #[.val (.int p1), .val (.int p2), .val (.long j1), .second, .val (.long j2), .second, .val (.long j3), .second, .unset, .unset, .unset, .unset, .unset] [(.int (73 : Int32)), (.int (11 : Int32)), (.ref b1), (.ref b1)])) rfl rfl (hb hby at_69)
    have Z25 : n0 ≤ h25.size := Nat.le_trans Z23 (Keep.of_wr W25).1
    have Kp25 : Keep h0 h25 [] := Kp23.wr W25 (Or.inr sz_b1)
    have V_b1_25 : Arv Z h25 b1 k1 .char (16 : Int32) [(.int (nar .char (82 : Int32))), (.int (nar .char (83 : Int32))), (.int (nar .char (68 : Int32))), (.int (nar .char (90 : Int32))), (.int (nar .char (84 : Int32))), (.int (nar .char (116 : Int32))), (.int (nar .char (88 : Int32))), (.int (nar .char (120 : Int32))), (.int (nar .char (75 : Int32))), (.int (nar .char (87 : Int32))), (.int (nar .char (80 : Int32))), (.int (nar .char (73 : Int32))), (.int (0 : Int32)), (.int (0 : Int32)), (.int (0 : Int32)), (.int (0 : Int32))] (.int (0 : Int32)) := Arv.set Ar24 q24 S24 M24 Ha24 G24 (fits_nar_char _) W25 11 rfl (Nat.le_of_ble_eq_true rfl)
    have N25 := Fr.snoc X25 N23 ge_b1
    obtain ⟨cl26, Ar26, q26, S26, M26, Ha26, G26⟩ := id V_b1_25
    have hin75_cl26 : ¬ ((12 : Int32) < 0 ∨ cl26.slots.size ≤ ((12 : Int32)).toNatClampNeg) := inb_of S26 ⟨by decide, by decide⟩
    obtain ⟨T27, h27, X27, e27, W27, st27⟩ := stC X25 hx hZ e25 Ar26 (j := (12 : Int32)) hin75_cl26 (g := (mkF m 75 #[.val (.int p1), .val (.int p2), .val (.long j1), .second, .val (.long j2), .second, .val (.long j3), .second, .unset, .unset, .unset, .unset, .unset] [(.int (122 : Int32)), (.int (12 : Int32)), (.ref b1), (.ref b1)])) rfl rfl (hb hby at_75)
    have Z27 : n0 ≤ h27.size := Nat.le_trans Z25 (Keep.of_wr W27).1
    have Kp27 : Keep h0 h27 [] := Kp25.wr W27 (Or.inr sz_b1)
    have V_b1_27 : Arv Z h27 b1 k1 .char (16 : Int32) [(.int (nar .char (82 : Int32))), (.int (nar .char (83 : Int32))), (.int (nar .char (68 : Int32))), (.int (nar .char (90 : Int32))), (.int (nar .char (84 : Int32))), (.int (nar .char (116 : Int32))), (.int (nar .char (88 : Int32))), (.int (nar .char (120 : Int32))), (.int (nar .char (75 : Int32))), (.int (nar .char (87 : Int32))), (.int (nar .char (80 : Int32))), (.int (nar .char (73 : Int32))), (.int (nar .char (122 : Int32))), (.int (0 : Int32)), (.int (0 : Int32)), (.int (0 : Int32))] (.int (0 : Int32)) := Arv.set Ar26 q26 S26 M26 Ha26 G26 (fits_nar_char _) W27 12 rfl (Nat.le_of_ble_eq_true rfl)
    have N27 := Fr.snoc X27 N25 ge_b1
    obtain ⟨cl28, Ar28, q28, S28, M28, Ha28, G28⟩ := id V_b1_27
    have hin81_cl28 : ¬ ((13 : Int32) < 0 ∨ cl28.slots.size ≤ ((13 : Int32)).toNatClampNeg) := inb_of S28 ⟨by decide, by decide⟩
    obtain ⟨T29, h29, X29, e29, W29, st29⟩ := stC X27 hx hZ e27 Ar28 (j := (13 : Int32)) hin81_cl28 (g := (mkF m 81 #[.val (.int p1), .val (.int p2), .val (.long j1), .second, .val (.long j2), .second, .val (.long j3), .second, .unset, .unset, .unset, .unset, .unset] [(.int (89 : Int32)), (.int (13 : Int32)), (.ref b1), (.ref b1)])) rfl rfl (hb hby at_81)
    have Z29 : n0 ≤ h29.size := Nat.le_trans Z27 (Keep.of_wr W29).1
    have Kp29 : Keep h0 h29 [] := Kp27.wr W29 (Or.inr sz_b1)
    have V_b1_29 : Arv Z h29 b1 k1 .char (16 : Int32) [(.int (nar .char (82 : Int32))), (.int (nar .char (83 : Int32))), (.int (nar .char (68 : Int32))), (.int (nar .char (90 : Int32))), (.int (nar .char (84 : Int32))), (.int (nar .char (116 : Int32))), (.int (nar .char (88 : Int32))), (.int (nar .char (120 : Int32))), (.int (nar .char (75 : Int32))), (.int (nar .char (87 : Int32))), (.int (nar .char (80 : Int32))), (.int (nar .char (73 : Int32))), (.int (nar .char (122 : Int32))), (.int (nar .char (89 : Int32))), (.int (0 : Int32)), (.int (0 : Int32))] (.int (0 : Int32)) := Arv.set Ar28 q28 S28 M28 Ha28 G28 (fits_nar_char _) W29 13 rfl (Nat.le_of_ble_eq_true rfl)
    have N29 := Fr.snoc X29 N27 ge_b1
    obtain ⟨cl30, Ar30, q30, S30, M30, Ha30, G30⟩ := id V_b1_29
    have hin87_cl30 : ¬ ((14 : Int32) < 0 ∨ cl30.slots.size ≤ ((14 : Int32)).toNatClampNeg) := inb_of S30 ⟨by decide, by decide⟩
    obtain ⟨T31, h31, X31, e31, W31, st31⟩ := stC X29 hx hZ e29 Ar30 (j := (14 : Int32)) hin87_cl30 (g := (mkF m 87 #[.val (.int p1), .val (.int p2), .val (.long j1), .second, .val (.long j2), .second, .val (.long j3), .second, .unset, .unset, .unset, .unset, .unset] [(.int (91 : Int32)), (.int (14 : Int32)), (.ref b1), (.ref b1)])) rfl rfl (hb hby at_87)
    have Z31 : n0 ≤ h31.size := Nat.le_trans Z29 (Keep.of_wr W31).1
    have Kp31 : Keep h0 h31 [] := Kp29.wr W31 (Or.inr sz_b1)
    have V_b1_31 : Arv Z h31 b1 k1 .char (16 : Int32) [(.int (nar .char (82 : Int32))), (.int (nar .char (83 : Int32))), (.int (nar .char (68 : Int32))), (.int (nar .char (90 : Int32))), (.int (nar .char (84 : Int32))), (.int (nar .char (116 : Int32))), (.int (nar .char (88 : Int32))), (.int (nar .char (120 : Int32))), (.int (nar .char (75 : Int32))), (.int (nar .char (87 : Int32))), (.int (nar .char (80 : Int32))), (.int (nar .char (73 : Int32))), (.int (nar .char (122 : Int32))), (.int (nar .char (89 : Int32))), (.int (nar .char (91 : Int32))), (.int (0 : Int32))] (.int (0 : Int32)) := Arv.set Ar30 q30 S30 M30 Ha30 G30 (fits_nar_char _) W31 14 rfl (Nat.le_of_ble_eq_true rfl)
    have N31 := Fr.snoc X31 N29 ge_b1
    obtain ⟨cl32, Ar32, q32, S32, M32, Ha32, G32⟩ := id V_b1_31
    have hin93_cl32 : ¬ ((15 : Int32) < 0 ∨ cl32.slots.size ≤ ((15 : Int32)).toNatClampNeg) := inb_of S32 ⟨by decide, by decide⟩
    obtain ⟨T33, h33, X33, e33, W33, st33⟩ := stC X31 hx hZ e31 Ar32 (j := (15 : Int32)) hin93_cl32 (g := (mkF m 93 #[.val (.int p1), .val (.int p2), .val (.long j1), .second, .val (.long j2), .second, .val (.long j3), .second, .unset, .unset, .unset, .unset, .unset] [(.int (87 : Int32)), (.int (15 : Int32)), (.ref b1), (.ref b1)])) rfl rfl (hb hby at_93)
    have Z33 : n0 ≤ h33.size := Nat.le_trans Z31 (Keep.of_wr W33).1
    have Kp33 : Keep h0 h33 [] := Kp31.wr W33 (Or.inr sz_b1)
    have V_b1_33 : Arv Z h33 b1 k1 .char (16 : Int32) [(.int (nar .char (82 : Int32))), (.int (nar .char (83 : Int32))), (.int (nar .char (68 : Int32))), (.int (nar .char (90 : Int32))), (.int (nar .char (84 : Int32))), (.int (nar .char (116 : Int32))), (.int (nar .char (88 : Int32))), (.int (nar .char (120 : Int32))), (.int (nar .char (75 : Int32))), (.int (nar .char (87 : Int32))), (.int (nar .char (80 : Int32))), (.int (nar .char (73 : Int32))), (.int (nar .char (122 : Int32))), (.int (nar .char (89 : Int32))), (.int (nar .char (91 : Int32))), (.int (nar .char (87 : Int32)))] (.int (0 : Int32)) := Arv.set Ar32 q32 S32 M32 Ha32 G32 (fits_nar_char _) W33 15 rfl (Nat.le_of_ble_eq_true rfl)
    have N33 := Fr.snoc X33 N31 ge_b1
    obtain ⟨cl34, Ar34, q34, S34, M34, Ha34, G34⟩ := id V_b1_33
    have hfit := G34 ((p2 &&& (15 : Int32)).toNatClampNeg) (Nat.lt_of_not_le fun y => inb_of S34 (own_15 p2) (Or.inr y))
    obtain ⟨ch, hch⟩ := fit_I hfit (by simp)
    rw [hch] at hfit
    have hc1 : nar .char ch = ch := own_char_fits hfit
    have hin35 : ¬ ((p2 &&& (15 : Int32)) < 0 ∨ cl34.slots.size ≤ ((p2 &&& (15 : Int32))).toNatClampNeg) := inb_of S34 (own_15 p2)
    have hat35 : cl34.slots[((p2 &&& (15 : Int32))).toNatClampNeg]? = some (.int ch) := Has.at Ha34 hin35 hch
    obtain ⟨TJ, locJ, hJ, EJ, XJ, eJ, NJ, stJ⟩ := own_tail p1 p2 j1 j2 j3 b1 (1 : Int32) ch X33 hx hZ hw hby hml hown e33 N33 Z33 hc1
    obtain ⟨fs, hr, hrun, hended, hW, hsame⟩ := XJ.leave (v := some (.int (1 : Int32))) (fun h => by rw [Bd.returns] at h; cases h)
    refine ⟨_, _, pre0 _ ?_, hrun, hended, _, _, rfl, ?_, ⟨_, rfl⟩, hW, hsame.mono (by decide) (by decide)⟩
    · show Steps p.tables e below (s₁.setTop (mkF m 0 #[.val (.int p1), .val (.int p2), .val (.long j1), .second, .val (.long j2), .second, .val (.long j3), .second, .unset, .unset, .unset, .unset, .unset] [])) _
      refine XS.bipush X0.here hx rfl (hb hby at_0) ?_
      show Steps p.tables e below (s₁.setTop (mkF m 2 #[.val (.int p1), .val (.int p2), .val (.long j1), .second, .val (.long j2), .second, .val (.long j3), .second, .unset, .unset, .unset, .unset, .unset] [(.int (16 : Int32))])) _
      refine st1 _ ?_
      show Steps p.tables e below (T1.setTop (mkF m 4 #[.val (.int p1), .val (.int p2), .val (.long j1), .second, .val (.long j2), .second, .val (.long j3), .second, .unset, .unset, .unset, .unset, .unset] [(.ref b1)])) _
      refine XS.dup X1.here hx rfl (hb hby at_4) rfl rfl ?_
      show Steps p.tables e below (T1.setTop (mkF m 5 #[.val (.int p1), .val (.int p2), .val (.long j1), .second, .val (.long j2), .second, .val (.long j3), .second, .unset, .unset, .unset, .unset, .unset] [(.ref b1), (.ref b1)])) _
      refine XS.iconst X1.here hx rfl (hb hby at_5) ?_
      show Steps p.tables e below (T1.setTop (mkF m 6 #[.val (.int p1), .val (.int p2), .val (.long j1), .second, .val (.long j2), .second, .val (.long j3), .second, .unset, .unset, .unset, .unset, .unset] [(.int (0 : Int32)), (.ref b1), (.ref b1)])) _
      refine XS.bipush X1.here hx rfl (hb hby at_6) ?_
      show Steps p.tables e below (T1.setTop (mkF m 8 #[.val (.int p1), .val (.int p2), .val (.long j1), .second, .val (.long j2), .second, .val (.long j3), .second, .unset, .unset, .unset, .unset, .unset] [(.int (82 : Int32)), (.int (0 : Int32)), (.ref b1), (.ref b1)])) _
      refine st3 _ ?_
      show Steps p.tables e below (T3.setTop (mkF m 9 #[.val (.int p1), .val (.int p2), .val (.long j1), .second, .val (.long j2), .second, .val (.long j3), .second, .unset, .unset, .unset, .unset, .unset] [(.ref b1)])) _
      refine XS.dup X3.here hx rfl (hb hby at_9) rfl rfl ?_
      show Steps p.tables e below (T3.setTop (mkF m 10 #[.val (.int p1), .val (.int p2), .val (.long j1), .second, .val (.long j2), .second, .val (.long j3), .second, .unset, .unset, .unset, .unset, .unset] [(.ref b1), (.ref b1)])) _
      refine XS.iconst X3.here hx rfl (hb hby at_10) ?_
      show Steps p.tables e below (T3.setTop (mkF m 11 #[.val (.int p1), .val (.int p2), .val (.long j1), .second, .val (.long j2), .second, .val (.long j3), .second, .unset, .unset, .unset, .unset, .unset] [(.int (1 : Int32)), (.ref b1), (.ref b1)])) _
      refine XS.bipush X3.here hx rfl (hb hby at_11) ?_
      show Steps p.tables e below (T3.setTop (mkF m 13 #[.val (.int p1), .val (.int p2), .val (.long j1), .second, .val (.long j2), .second, .val (.long j3), .second, .unset, .unset, .unset, .unset, .unset] [(.int (83 : Int32)), (.int (1 : Int32)), (.ref b1), (.ref b1)])) _
      refine st5 _ ?_
      show Steps p.tables e below (T5.setTop (mkF m 14 #[.val (.int p1), .val (.int p2), .val (.long j1), .second, .val (.long j2), .second, .val (.long j3), .second, .unset, .unset, .unset, .unset, .unset] [(.ref b1)])) _
      refine XS.dup X5.here hx rfl (hb hby at_14) rfl rfl ?_
      show Steps p.tables e below (T5.setTop (mkF m 15 #[.val (.int p1), .val (.int p2), .val (.long j1), .second, .val (.long j2), .second, .val (.long j3), .second, .unset, .unset, .unset, .unset, .unset] [(.ref b1), (.ref b1)])) _
      refine XS.iconst X5.here hx rfl (hb hby at_15) ?_
      show Steps p.tables e below (T5.setTop (mkF m 16 #[.val (.int p1), .val (.int p2), .val (.long j1), .second, .val (.long j2), .second, .val (.long j3), .second, .unset, .unset, .unset, .unset, .unset] [(.int (2 : Int32)), (.ref b1), (.ref b1)])) _
      refine XS.bipush X5.here hx rfl (hb hby at_16) ?_
      show Steps p.tables e below (T5.setTop (mkF m 18 #[.val (.int p1), .val (.int p2), .val (.long j1), .second, .val (.long j2), .second, .val (.long j3), .second, .unset, .unset, .unset, .unset, .unset] [(.int (68 : Int32)), (.int (2 : Int32)), (.ref b1), (.ref b1)])) _
      refine st7 _ ?_
      show Steps p.tables e below (T7.setTop (mkF m 19 #[.val (.int p1), .val (.int p2), .val (.long j1), .second, .val (.long j2), .second, .val (.long j3), .second, .unset, .unset, .unset, .unset, .unset] [(.ref b1)])) _
      refine XS.dup X7.here hx rfl (hb hby at_19) rfl rfl ?_
      show Steps p.tables e below (T7.setTop (mkF m 20 #[.val (.int p1), .val (.int p2), .val (.long j1), .second, .val (.long j2), .second, .val (.long j3), .second, .unset, .unset, .unset, .unset, .unset] [(.ref b1), (.ref b1)])) _
      refine XS.iconst X7.here hx rfl (hb hby at_20) ?_
      show Steps p.tables e below (T7.setTop (mkF m 21 #[.val (.int p1), .val (.int p2), .val (.long j1), .second, .val (.long j2), .second, .val (.long j3), .second, .unset, .unset, .unset, .unset, .unset] [(.int (3 : Int32)), (.ref b1), (.ref b1)])) _
      refine XS.bipush X7.here hx rfl (hb hby at_21) ?_
      show Steps p.tables e below (T7.setTop (mkF m 23 #[.val (.int p1), .val (.int p2), .val (.long j1), .second, .val (.long j2), .second, .val (.long j3), .second, .unset, .unset, .unset, .unset, .unset] [(.int (90 : Int32)), (.int (3 : Int32)), (.ref b1), (.ref b1)])) _
      refine st9 _ ?_
      show Steps p.tables e below (T9.setTop (mkF m 24 #[.val (.int p1), .val (.int p2), .val (.long j1), .second, .val (.long j2), .second, .val (.long j3), .second, .unset, .unset, .unset, .unset, .unset] [(.ref b1)])) _
      refine XS.dup X9.here hx rfl (hb hby at_24) rfl rfl ?_
      show Steps p.tables e below (T9.setTop (mkF m 25 #[.val (.int p1), .val (.int p2), .val (.long j1), .second, .val (.long j2), .second, .val (.long j3), .second, .unset, .unset, .unset, .unset, .unset] [(.ref b1), (.ref b1)])) _
      refine XS.iconst X9.here hx rfl (hb hby at_25) ?_
      show Steps p.tables e below (T9.setTop (mkF m 26 #[.val (.int p1), .val (.int p2), .val (.long j1), .second, .val (.long j2), .second, .val (.long j3), .second, .unset, .unset, .unset, .unset, .unset] [(.int (4 : Int32)), (.ref b1), (.ref b1)])) _
      refine XS.bipush X9.here hx rfl (hb hby at_26) ?_
      show Steps p.tables e below (T9.setTop (mkF m 28 #[.val (.int p1), .val (.int p2), .val (.long j1), .second, .val (.long j2), .second, .val (.long j3), .second, .unset, .unset, .unset, .unset, .unset] [(.int (84 : Int32)), (.int (4 : Int32)), (.ref b1), (.ref b1)])) _
      refine st11 _ ?_
      show Steps p.tables e below (T11.setTop (mkF m 29 #[.val (.int p1), .val (.int p2), .val (.long j1), .second, .val (.long j2), .second, .val (.long j3), .second, .unset, .unset, .unset, .unset, .unset] [(.ref b1)])) _
      refine XS.dup X11.here hx rfl (hb hby at_29) rfl rfl ?_
      show Steps p.tables e below (T11.setTop (mkF m 30 #[.val (.int p1), .val (.int p2), .val (.long j1), .second, .val (.long j2), .second, .val (.long j3), .second, .unset, .unset, .unset, .unset, .unset] [(.ref b1), (.ref b1)])) _
      refine XS.iconst X11.here hx rfl (hb hby at_30) ?_
      show Steps p.tables e below (T11.setTop (mkF m 31 #[.val (.int p1), .val (.int p2), .val (.long j1), .second, .val (.long j2), .second, .val (.long j3), .second, .unset, .unset, .unset, .unset, .unset] [(.int (5 : Int32)), (.ref b1), (.ref b1)])) _
      refine XS.bipush X11.here hx rfl (hb hby at_31) ?_
      show Steps p.tables e below (T11.setTop (mkF m 33 #[.val (.int p1), .val (.int p2), .val (.long j1), .second, .val (.long j2), .second, .val (.long j3), .second, .unset, .unset, .unset, .unset, .unset] [(.int (116 : Int32)), (.int (5 : Int32)), (.ref b1), (.ref b1)])) _
      refine st13 _ ?_
      show Steps p.tables e below (T13.setTop (mkF m 34 #[.val (.int p1), .val (.int p2), .val (.long j1), .second, .val (.long j2), .second, .val (.long j3), .second, .unset, .unset, .unset, .unset, .unset] [(.ref b1)])) _
      refine XS.dup X13.here hx rfl (hb hby at_34) rfl rfl ?_
      show Steps p.tables e below (T13.setTop (mkF m 35 #[.val (.int p1), .val (.int p2), .val (.long j1), .second, .val (.long j2), .second, .val (.long j3), .second, .unset, .unset, .unset, .unset, .unset] [(.ref b1), (.ref b1)])) _
      refine XS.bipush X13.here hx rfl (hb hby at_35) ?_
      show Steps p.tables e below (T13.setTop (mkF m 37 #[.val (.int p1), .val (.int p2), .val (.long j1), .second, .val (.long j2), .second, .val (.long j3), .second, .unset, .unset, .unset, .unset, .unset] [(.int (6 : Int32)), (.ref b1), (.ref b1)])) _
      refine XS.bipush X13.here hx rfl (hb hby at_37) ?_
      show Steps p.tables e below (T13.setTop (mkF m 39 #[.val (.int p1), .val (.int p2), .val (.long j1), .second, .val (.long j2), .second, .val (.long j3), .second, .unset, .unset, .unset, .unset, .unset] [(.int (88 : Int32)), (.int (6 : Int32)), (.ref b1), (.ref b1)])) _
      refine st15 _ ?_
      show Steps p.tables e below (T15.setTop (mkF m 40 #[.val (.int p1), .val (.int p2), .val (.long j1), .second, .val (.long j2), .second, .val (.long j3), .second, .unset, .unset, .unset, .unset, .unset] [(.ref b1)])) _
      refine XS.dup X15.here hx rfl (hb hby at_40) rfl rfl ?_
      show Steps p.tables e below (T15.setTop (mkF m 41 #[.val (.int p1), .val (.int p2), .val (.long j1), .second, .val (.long j2), .second, .val (.long j3), .second, .unset, .unset, .unset, .unset, .unset] [(.ref b1), (.ref b1)])) _
      refine XS.bipush X15.here hx rfl (hb hby at_41) ?_
      show Steps p.tables e below (T15.setTop (mkF m 43 #[.val (.int p1), .val (.int p2), .val (.long j1), .second, .val (.long j2), .second, .val (.long j3), .second, .unset, .unset, .unset, .unset, .unset] [(.int (7 : Int32)), (.ref b1), (.ref b1)])) _
      refine XS.bipush X15.here hx rfl (hb hby at_43) ?_
      show Steps p.tables e below (T15.setTop (mkF m 45 #[.val (.int p1), .val (.int p2), .val (.long j1), .second, .val (.long j2), .second, .val (.long j3), .second, .unset, .unset, .unset, .unset, .unset] [(.int (120 : Int32)), (.int (7 : Int32)), (.ref b1), (.ref b1)])) _
      refine st17 _ ?_
      show Steps p.tables e below (T17.setTop (mkF m 46 #[.val (.int p1), .val (.int p2), .val (.long j1), .second, .val (.long j2), .second, .val (.long j3), .second, .unset, .unset, .unset, .unset, .unset] [(.ref b1)])) _
      refine XS.dup X17.here hx rfl (hb hby at_46) rfl rfl ?_
      show Steps p.tables e below (T17.setTop (mkF m 47 #[.val (.int p1), .val (.int p2), .val (.long j1), .second, .val (.long j2), .second, .val (.long j3), .second, .unset, .unset, .unset, .unset, .unset] [(.ref b1), (.ref b1)])) _
      refine XS.bipush X17.here hx rfl (hb hby at_47) ?_
      show Steps p.tables e below (T17.setTop (mkF m 49 #[.val (.int p1), .val (.int p2), .val (.long j1), .second, .val (.long j2), .second, .val (.long j3), .second, .unset, .unset, .unset, .unset, .unset] [(.int (8 : Int32)), (.ref b1), (.ref b1)])) _
      refine XS.bipush X17.here hx rfl (hb hby at_49) ?_
      show Steps p.tables e below (T17.setTop (mkF m 51 #[.val (.int p1), .val (.int p2), .val (.long j1), .second, .val (.long j2), .second, .val (.long j3), .second, .unset, .unset, .unset, .unset, .unset] [(.int (75 : Int32)), (.int (8 : Int32)), (.ref b1), (.ref b1)])) _
      refine st19 _ ?_
      show Steps p.tables e below (T19.setTop (mkF m 52 #[.val (.int p1), .val (.int p2), .val (.long j1), .second, .val (.long j2), .second, .val (.long j3), .second, .unset, .unset, .unset, .unset, .unset] [(.ref b1)])) _
      refine XS.dup X19.here hx rfl (hb hby at_52) rfl rfl ?_
      show Steps p.tables e below (T19.setTop (mkF m 53 #[.val (.int p1), .val (.int p2), .val (.long j1), .second, .val (.long j2), .second, .val (.long j3), .second, .unset, .unset, .unset, .unset, .unset] [(.ref b1), (.ref b1)])) _
      refine XS.bipush X19.here hx rfl (hb hby at_53) ?_
      show Steps p.tables e below (T19.setTop (mkF m 55 #[.val (.int p1), .val (.int p2), .val (.long j1), .second, .val (.long j2), .second, .val (.long j3), .second, .unset, .unset, .unset, .unset, .unset] [(.int (9 : Int32)), (.ref b1), (.ref b1)])) _
      refine XS.bipush X19.here hx rfl (hb hby at_55) ?_
      show Steps p.tables e below (T19.setTop (mkF m 57 #[.val (.int p1), .val (.int p2), .val (.long j1), .second, .val (.long j2), .second, .val (.long j3), .second, .unset, .unset, .unset, .unset, .unset] [(.int (87 : Int32)), (.int (9 : Int32)), (.ref b1), (.ref b1)])) _
      refine st21 _ ?_
      show Steps p.tables e below (T21.setTop (mkF m 58 #[.val (.int p1), .val (.int p2), .val (.long j1), .second, .val (.long j2), .second, .val (.long j3), .second, .unset, .unset, .unset, .unset, .unset] [(.ref b1)])) _
      refine XS.dup X21.here hx rfl (hb hby at_58) rfl rfl ?_
      show Steps p.tables e below (T21.setTop (mkF m 59 #[.val (.int p1), .val (.int p2), .val (.long j1), .second, .val (.long j2), .second, .val (.long j3), .second, .unset, .unset, .unset, .unset, .unset] [(.ref b1), (.ref b1)])) _
      refine XS.bipush X21.here hx rfl (hb hby at_59) ?_
      show Steps p.tables e below (T21.setTop (mkF m 61 #[.val (.int p1), .val (.int p2), .val (.long j1), .second, .val (.long j2), .second, .val (.long j3), .second, .unset, .unset, .unset, .unset, .unset] [(.int (10 : Int32)), (.ref b1), (.ref b1)])) _
      refine XS.bipush X21.here hx rfl (hb hby at_61) ?_
      show Steps p.tables e below (T21.setTop (mkF m 63 #[.val (.int p1), .val (.int p2), .val (.long j1), .second, .val (.long j2), .second, .val (.long j3), .second, .unset, .unset, .unset, .unset, .unset] [(.int (80 : Int32)), (.int (10 : Int32)), (.ref b1), (.ref b1)])) _
      refine st23 _ ?_
      show Steps p.tables e below (T23.setTop (mkF m 64 #[.val (.int p1), .val (.int p2), .val (.long j1), .second, .val (.long j2), .second, .val (.long j3), .second, .unset, .unset, .unset, .unset, .unset] [(.ref b1)])) _
      refine XS.dup X23.here hx rfl (hb hby at_64) rfl rfl ?_
      show Steps p.tables e below (T23.setTop (mkF m 65 #[.val (.int p1), .val (.int p2), .val (.long j1), .second, .val (.long j2), .second, .val (.long j3), .second, .unset, .unset, .unset, .unset, .unset] [(.ref b1), (.ref b1)])) _
      refine XS.bipush X23.here hx rfl (hb hby at_65) ?_
      show Steps p.tables e below (T23.setTop (mkF m 67 #[.val (.int p1), .val (.int p2), .val (.long j1), .second, .val (.long j2), .second, .val (.long j3), .second, .unset, .unset, .unset, .unset, .unset] [(.int (11 : Int32)), (.ref b1), (.ref b1)])) _
      refine XS.bipush X23.here hx rfl (hb hby at_67) ?_
      show Steps p.tables e below (T23.setTop (mkF m 69 #[.val (.int p1), .val (.int p2), .val (.long j1), .second, .val (.long j2), .second, .val (.long j3), .second, .unset, .unset, .unset, .unset, .unset] [(.int (73 : Int32)), (.int (11 : Int32)), (.ref b1), (.ref b1)])) _
      refine st25 _ ?_
      show Steps p.tables e below (T25.setTop (mkF m 70 #[.val (.int p1), .val (.int p2), .val (.long j1), .second, .val (.long j2), .second, .val (.long j3), .second, .unset, .unset, .unset, .unset, .unset] [(.ref b1)])) _
      refine XS.dup X25.here hx rfl (hb hby at_70) rfl rfl ?_
      show Steps p.tables e below (T25.setTop (mkF m 71 #[.val (.int p1), .val (.int p2), .val (.long j1), .second, .val (.long j2), .second, .val (.long j3), .second, .unset, .unset, .unset, .unset, .unset] [(.ref b1), (.ref b1)])) _
      refine XS.bipush X25.here hx rfl (hb hby at_71) ?_
      show Steps p.tables e below (T25.setTop (mkF m 73 #[.val (.int p1), .val (.int p2), .val (.long j1), .second, .val (.long j2), .second, .val (.long j3), .second, .unset, .unset, .unset, .unset, .unset] [(.int (12 : Int32)), (.ref b1), (.ref b1)])) _
      refine XS.bipush X25.here hx rfl (hb hby at_73) ?_
      show Steps p.tables e below (T25.setTop (mkF m 75 #[.val (.int p1), .val (.int p2), .val (.long j1), .second, .val (.long j2), .second, .val (.long j3), .second, .unset, .unset, .unset, .unset, .unset] [(.int (122 : Int32)), (.int (12 : Int32)), (.ref b1), (.ref b1)])) _
      refine st27 _ ?_
      show Steps p.tables e below (T27.setTop (mkF m 76 #[.val (.int p1), .val (.int p2), .val (.long j1), .second, .val (.long j2), .second, .val (.long j3), .second, .unset, .unset, .unset, .unset, .unset] [(.ref b1)])) _
      refine XS.dup X27.here hx rfl (hb hby at_76) rfl rfl ?_
      show Steps p.tables e below (T27.setTop (mkF m 77 #[.val (.int p1), .val (.int p2), .val (.long j1), .second, .val (.long j2), .second, .val (.long j3), .second, .unset, .unset, .unset, .unset, .unset] [(.ref b1), (.ref b1)])) _
      refine XS.bipush X27.here hx rfl (hb hby at_77) ?_
      show Steps p.tables e below (T27.setTop (mkF m 79 #[.val (.int p1), .val (.int p2), .val (.long j1), .second, .val (.long j2), .second, .val (.long j3), .second, .unset, .unset, .unset, .unset, .unset] [(.int (13 : Int32)), (.ref b1), (.ref b1)])) _
      refine XS.bipush X27.here hx rfl (hb hby at_79) ?_
      show Steps p.tables e below (T27.setTop (mkF m 81 #[.val (.int p1), .val (.int p2), .val (.long j1), .second, .val (.long j2), .second, .val (.long j3), .second, .unset, .unset, .unset, .unset, .unset] [(.int (89 : Int32)), (.int (13 : Int32)), (.ref b1), (.ref b1)])) _
      refine st29 _ ?_
      show Steps p.tables e below (T29.setTop (mkF m 82 #[.val (.int p1), .val (.int p2), .val (.long j1), .second, .val (.long j2), .second, .val (.long j3), .second, .unset, .unset, .unset, .unset, .unset] [(.ref b1)])) _
      refine XS.dup X29.here hx rfl (hb hby at_82) rfl rfl ?_
      show Steps p.tables e below (T29.setTop (mkF m 83 #[.val (.int p1), .val (.int p2), .val (.long j1), .second, .val (.long j2), .second, .val (.long j3), .second, .unset, .unset, .unset, .unset, .unset] [(.ref b1), (.ref b1)])) _
      refine XS.bipush X29.here hx rfl (hb hby at_83) ?_
      show Steps p.tables e below (T29.setTop (mkF m 85 #[.val (.int p1), .val (.int p2), .val (.long j1), .second, .val (.long j2), .second, .val (.long j3), .second, .unset, .unset, .unset, .unset, .unset] [(.int (14 : Int32)), (.ref b1), (.ref b1)])) _
      refine XS.bipush X29.here hx rfl (hb hby at_85) ?_
      show Steps p.tables e below (T29.setTop (mkF m 87 #[.val (.int p1), .val (.int p2), .val (.long j1), .second, .val (.long j2), .second, .val (.long j3), .second, .unset, .unset, .unset, .unset, .unset] [(.int (91 : Int32)), (.int (14 : Int32)), (.ref b1), (.ref b1)])) _
      refine st31 _ ?_
      show Steps p.tables e below (T31.setTop (mkF m 88 #[.val (.int p1), .val (.int p2), .val (.long j1), .second, .val (.long j2), .second, .val (.long j3), .second, .unset, .unset, .unset, .unset, .unset] [(.ref b1)])) _
      refine XS.dup X31.here hx rfl (hb hby at_88) rfl rfl ?_
      show Steps p.tables e below (T31.setTop (mkF m 89 #[.val (.int p1), .val (.int p2), .val (.long j1), .second, .val (.long j2), .second, .val (.long j3), .second, .unset, .unset, .unset, .unset, .unset] [(.ref b1), (.ref b1)])) _
      refine XS.bipush X31.here hx rfl (hb hby at_89) ?_
      show Steps p.tables e below (T31.setTop (mkF m 91 #[.val (.int p1), .val (.int p2), .val (.long j1), .second, .val (.long j2), .second, .val (.long j3), .second, .unset, .unset, .unset, .unset, .unset] [(.int (15 : Int32)), (.ref b1), (.ref b1)])) _
      refine XS.bipush X31.here hx rfl (hb hby at_91) ?_
      show Steps p.tables e below (T31.setTop (mkF m 93 #[.val (.int p1), .val (.int p2), .val (.long j1), .second, .val (.long j2), .second, .val (.long j3), .second, .unset, .unset, .unset, .unset, .unset] [(.int (87 : Int32)), (.int (15 : Int32)), (.ref b1), (.ref b1)])) _
      refine st33 _ ?_
      show Steps p.tables e below (T33.setTop (mkF m 94 #[.val (.int p1), .val (.int p2), .val (.long j1), .second, .val (.long j2), .second, .val (.long j3), .second, .unset, .unset, .unset, .unset, .unset] [(.ref b1)])) _
      refine XS.astore X33.here hx rfl (hb hby at_94) rfl rfl (l' := #[.val (.int p1), .val (.int p2), .val (.long j1), .second, .val (.long j2), .second, .val (.long j3), .second, .val (.ref b1), .unset, .unset, .unset, .unset]) rfl ?_
      show Steps p.tables e below (T33.setTop (mkF m 96 #[.val (.int p1), .val (.int p2), .val (.long j1), .second, .val (.long j2), .second, .val (.long j3), .second, .val (.ref b1), .unset, .unset, .unset, .unset] [])) _
      refine XS.iloadN X33.here hx rfl (hb hby at_96) rfl ?_
      show Steps p.tables e below (T33.setTop (mkF m 97 #[.val (.int p1), .val (.int p2), .val (.long j1), .second, .val (.long j2), .second, .val (.long j3), .second, .val (.ref b1), .unset, .unset, .unset, .unset] [(.int p2)])) _
      refine XS.iconst X33.here hx rfl (hb hby at_97) ?_
      show Steps p.tables e below (T33.setTop (mkF m 98 #[.val (.int p1), .val (.int p2), .val (.long j1), .second, .val (.long j2), .second, .val (.long j3), .second, .val (.ref b1), .unset, .unset, .unset, .unset] [(.int (4 : Int32)), (.int p2)])) _
      refine XS.ishr X33.here hx rfl (hb hby at_98) rfl ?_
      show Steps p.tables e below (T33.setTop (mkF m 99 #[.val (.int p1), .val (.int p2), .val (.long j1), .second, .val (.long j2), .second, .val (.long j3), .second, .val (.ref b1), .unset, .unset, .unset, .unset] [(.int (p2 >>> ((4 : Int32) &&& 31)))])) _
      refine XS.iconst X33.here hx rfl (hb hby at_99) ?_
      show Steps p.tables e below (T33.setTop (mkF m 100 #[.val (.int p1), .val (.int p2), .val (.long j1), .second, .val (.long j2), .second, .val (.long j3), .second, .val (.ref b1), .unset, .unset, .unset, .unset] [(.int (1 : Int32)), (.int (p2 >>> ((4 : Int32) &&& 31)))])) _
      refine XS.iand X33.here hx rfl (hb hby at_100) rfl ?_
      show Steps p.tables e below (T33.setTop (mkF m 101 #[.val (.int p1), .val (.int p2), .val (.long j1), .second, .val (.long j2), .second, .val (.long j3), .second, .val (.ref b1), .unset, .unset, .unset, .unset] [(.int ((p2 >>> ((4 : Int32) &&& 31)) &&& (1 : Int32)))])) _
      refine XS.ifNo X33.here hx rfl (hb hby at_101) rfl ((if0 _ _).trans (feq hs).1) ?_
      show Steps p.tables e below (T33.setTop (mkF m 104 #[.val (.int p1), .val (.int p2), .val (.long j1), .second, .val (.long j2), .second, .val (.long j3), .second, .val (.ref b1), .unset, .unset, .unset, .unset] [])) _
      refine XS.iconst X33.here hx rfl (hb hby at_104) ?_
      show Steps p.tables e below (T33.setTop (mkF m 105 #[.val (.int p1), .val (.int p2), .val (.long j1), .second, .val (.long j2), .second, .val (.long j3), .second, .val (.ref b1), .unset, .unset, .unset, .unset] [(.int (1 : Int32))])) _
      refine XS.goto X33.here hx rfl (pc0 := 105) (pc' := 109) rfl (hb hby at_105) (by decide) (by decide) ?_
      show Steps p.tables e below (T33.setTop (mkF m 109 #[.val (.int p1), .val (.int p2), .val (.long j1), .second, .val (.long j2), .second, .val (.long j3), .second, .val (.ref b1), .unset, .unset, .unset, .unset] [(.int (1 : Int32))])) _
      refine XS.istore X33.here hx rfl (hb hby at_109) rfl (l' := #[.val (.int p1), .val (.int p2), .val (.long j1), .second, .val (.long j2), .second, .val (.long j3), .second, .val (.ref b1), .val (.int (1 : Int32)), .unset, .unset, .unset]) rfl ?_
      show Steps p.tables e below (T33.setTop (mkF m 111 #[.val (.int p1), .val (.int p2), .val (.long j1), .second, .val (.long j2), .second, .val (.long j3), .second, .val (.ref b1), .val (.int (1 : Int32)), .unset, .unset, .unset] [])) _
      refine XS.iload X33.here hx rfl (hb hby at_111) rfl ?_
      show Steps p.tables e below (T33.setTop (mkF m 113 #[.val (.int p1), .val (.int p2), .val (.long j1), .second, .val (.long j2), .second, .val (.long j3), .second, .val (.ref b1), .val (.int (1 : Int32)), .unset, .unset, .unset] [(.int (1 : Int32))])) _
      refine XS.ifNo X33.here hx rfl (hb hby at_113) rfl ((if0 _ _).trans (feq (by decide : ¬ ((1 : Int32) = (0 : Int32)))).1) ?_
      show Steps p.tables e below (T33.setTop (mkF m 116 #[.val (.int p1), .val (.int p2), .val (.long j1), .second, .val (.long j2), .second, .val (.long j3), .second, .val (.ref b1), .val (.int (1 : Int32)), .unset, .unset, .unset] [])) _
      refine XS.aload X33.here hx rfl (hb hby at_116) rfl rfl ?_
      show Steps p.tables e below (T33.setTop (mkF m 118 #[.val (.int p1), .val (.int p2), .val (.long j1), .second, .val (.long j2), .second, .val (.long j3), .second, .val (.ref b1), .val (.int (1 : Int32)), .unset, .unset, .unset] [(.ref b1)])) _
      refine XS.iloadN X33.here hx rfl (hb hby at_118) rfl ?_
      show Steps p.tables e below (T33.setTop (mkF m 119 #[.val (.int p1), .val (.int p2), .val (.long j1), .second, .val (.long j2), .second, .val (.long j3), .second, .val (.ref b1), .val (.int (1 : Int32)), .unset, .unset, .unset] [(.int p2), (.ref b1)])) _
      refine XS.bipush X33.here hx rfl (hb hby at_119) ?_
      show Steps p.tables e below (T33.setTop (mkF m 121 #[.val (.int p1), .val (.int p2), .val (.long j1), .second, .val (.long j2), .second, .val (.long j3), .second, .val (.ref b1), .val (.int (1 : Int32)), .unset, .unset, .unset] [(.int (15 : Int32)), (.int p2), (.ref b1)])) _
      refine XS.iand X33.here hx rfl (hb hby at_121) rfl ?_
      show Steps p.tables e below (T33.setTop (mkF m 122 #[.val (.int p1), .val (.int p2), .val (.long j1), .second, .val (.long j2), .second, .val (.long j3), .second, .val (.ref b1), .val (.int (1 : Int32)), .unset, .unset, .unset] [(.int (p2 &&& (15 : Int32))), (.ref b1)])) _
      refine X33.caload hx (j := (p2 &&& (15 : Int32))) (v := (.int ch)) (by rw [e33]; exact Ar34.1) (State.isArrayOf_alike hZ.alike Ar34.2.1) Ar34.2.2 hin35 hat35 (g := (mkF m 122 #[.val (.int p1), .val (.int p2), .val (.long j1), .second, .val (.long j2), .second, .val (.long j3), .second, .val (.ref b1), .val (.int (1 : Int32)), .unset, .unset, .unset] [(.int (p2 &&& (15 : Int32))), (.ref b1)])) rfl rfl (hb hby at_122) _ ?_
      show Steps p.tables e below (T33.setTop (mkF m 123 #[.val (.int p1), .val (.int p2), .val (.long j1), .second, .val (.long j2), .second, .val (.long j3), .second, .val (.ref b1), .val (.int (1 : Int32)), .unset, .unset, .unset] [(.int ch)])) _
      refine XS.goto X33.here hx rfl (pc0 := 123) (pc' := 131) rfl (hb hby at_123) (by decide) (by decide) ?_
      show Steps p.tables e below (T33.setTop (mkF m 131 #[.val (.int p1), .val (.int p2), .val (.long j1), .second, .val (.long j2), .second, .val (.long j3), .second, .val (.ref b1), .val (.int (1 : Int32)), .unset, .unset, .unset] [(.int ch)])) _
      refine XS.istore X33.here hx rfl (hb hby at_131) rfl (l' := #[.val (.int p1), .val (.int p2), .val (.long j1), .second, .val (.long j2), .second, .val (.long j3), .second, .val (.ref b1), .val (.int (1 : Int32)), .val (.int ch), .unset, .unset]) rfl ?_
      show Steps p.tables e below (T33.setTop (mkF m 133 #[.val (.int p1), .val (.int p2), .val (.long j1), .second, .val (.long j2), .second, .val (.long j3), .second, .val (.ref b1), .val (.int (1 : Int32)), .val (.int ch), .unset, .unset] [])) _
      refine stJ _ ?_
      show Steps p.tables e below (TJ.setTop (mkF m 239 #[.val (.int p1), .val (.int p2), .val (.long j1), .second, .val (.long j2), .second, .val (.long j3), .second, .val (.ref b1), .val (.int (1 : Int32)), .val (.int ch), .val (.ref EJ), .val (.int (1 : Int32))] [(.int (1 : Int32))])) _
      exact retN XJ hx (t := .boolean) Bd.returns (by simp) (hb hby at_239) hr
    · show Q_rm0 Z p1 p2 j1 j2 j3 h0 n0 _ TJ.heap _
      rw [eJ]
      exact ⟨rfl, NJ⟩
set_option maxRecDepth 65536 in
set_option maxHeartbeats 40000000 in
theorem comes_1 {Post : Tables → Env → Array Value → State → Outcome → State → Prop} (hpost : ∀ tb e args s v u, (limb_1_1.after args s (.returned v) u = true ∧ limb_1_2.after args s (.returned v) u = true ∧ True) → FrameEnd s (.returned v) u (Jvm.fieldLocs frame_1_writes args s ++ Jvm.arrayLocs frame_1_arrays args s ++ Jvm.staticLocs frame_1_statics s) 16 128 → Post tb e args s (.returned v) u) :
    ArmFor flags0 classFile x code maxLocals ret World_1 tables_1 room_1 Calls_1 rest_1 Pre_1 Post := by
  intro l hfl _ _ p e ha hc hk s m args below hf hA hF happ hP
  obtain ⟨hcalls, hrest, hpre⟩ := hP
  obtain ⟨-, -, -, hnamed, -, -, -, hat⟩ := (Spec.applies_iff hf).mp happ
  obtain ⟨hg, hn⟩ := and_e (Cond.before_iff.mp (show (Jvm.Cond.and given_1 narrow_1).before args s = true from hpre))
  obtain ⟨g1, g2⟩ := and_e hg
  obtain ⟨g3, g4⟩ := and_e g2
  obtain ⟨g5, g6⟩ := and_e g4
  obtain ⟨g7, g8⟩ := and_e g6
  obtain ⟨g9, g10⟩ := and_e g8
  obtain ⟨w0, w1, w2, w3, w4, rfl⟩ : ∃ w0 w1 w2 w3 w4 : Value, args = #[w0, w1, w2, w3, w4] := by
    have hs : args.size = 5 := by simpa [Cond.value, given_1] using g1
    obtain ⟨L⟩ := args
    match L, hs with
    | [w0, w1, w2, w3, w4], _ => exact ⟨w0, w1, w2, w3, w4, rfl⟩
  have hw := fun d (hd : d ∈ tables_1) => atoms_spec (ws := Jvm.Cond.code x code maxLocals ret :: tables_1) hat d (List.mem_cons_of_mem _ hd)
  have hfit : Fit s := fun {y c} hc i hi => by
    obtain ⟨ha, rfl⟩ := Array.getElem?_eq_some_iff.mp hc
    have q := List.all_eq_true.mp ((Array.all_eq_true_iff_forall_mem.mp hF) _ (Array.getElem_mem ha)) i (List.mem_range.mpr hi)
    simpa [Array.getElem?_eq_getElem hi] using q
  obtain ⟨i0, ei0⟩ := is_v g3
  obtain rfl : w0 = (.int i0) := Option.some.inj ei0
  obtain ⟨i1, ei1⟩ := is_v g5
  obtain rfl : w1 = (.int i1) := Option.some.inj ei1
  obtain ⟨i2, ei2⟩ := isL_v g7
  obtain rfl : w2 = (.long i2) := Option.some.inj ei2
  obtain ⟨i3, ei3⟩ := isL_v g9
  obtain rfl : w3 = (.long i3) := Option.some.inj ei3
  obtain ⟨i4, ei4⟩ := isL_v g10
  obtain rfl : w4 = (.long i4) := Option.some.inj ei4
  obtain ⟨n, o, h1, h2, h3, _, L, rfl, ⟨rfl, N⟩, hq⟩ := rm0 l s _ hw tables_1 i0 i1 i2 i3 i4 s.heap s.heap.size (Nat.le_refl _)  p e ha hc hk s m _ below hf ((Spec.applies_iff_loose hf).mp happ).1 ⟨rfl, State.Warmed39.refl s, rfl⟩ trivial
  refine ⟨n, _, h1, h2, h3, hpost _ _ _ _ _ _ ⟨Cond.after_iff.mpr rfl, Cond.after_iff.mpr (eq_i res_at (Term.int_eval (1)) rfl), trivial⟩ ⟨hq.1, hq.2.1, (hq.2.2.sift fun y hy => Or.inr (N y hy)).mono (by decide) (by decide)⟩⟩
theorem main_1_1 : Claimed_1_1 := comes_1 fun _ _ _ _ _ _ h hF => ⟨h.1, hF⟩
theorem main_1_2 : Claimed_1_2 := comes_1 fun _ _ _ _ _ _ h hF => ⟨h.2.1, hF⟩
end Jvm.Pilot.@@N@@
namespace Jvm.Pilot.@@N@@
open Jvm Jvm.ClassFile Sem Op Lib Jvm.Free Jvm.Stand Jvm.Pilot.@@N@@.Jvm.D
/-! MADE BY PROGRAM (witnessworld.py) out of the Statement's table words and the real class files: 11 classes; the members and pool entries that the words name. The judged class is class 1, her method 2. -/
namespace start1
open Jvm.ClassFile
def u (s : String) : CpInfo := .utf8 (stringToUtf16 s)
/-- a pool by its gaps: so many unusable entries, then the entry; so many at the end -/
def gap : Nat → List CpInfo → List CpInfo
  | 0, r => r
  | n + 1, r => .unusable :: gap n r
def poolList (es : List (Nat × CpInfo)) (last : Nat) : List CpInfo := es.foldr (fun e r => gap e.1 (e.2 :: r)) (gap last [])
def pool (es : List (Nat × CpInfo)) (last : Nat) : Array CpInfo := ⟨poolList es last⟩
def fileOf (pool : Array CpInfo) (this : Nat) (attrs : Array Attribute := #[]) (ms : Array MethodInfo := #[]) (fl : Nat := 33) (sup : Nat := 0) (ifs : Array Nat := #[]) (fds : Array FieldInfo := #[]) : ClassFile where
  minorVersion := 0
  majorVersion := 65
  constantPool := pool
  accessFlags := fl
  thisClass := this
  superClass := sup
  interfaces := ifs
  fields := fds
  methods := ms
  attributes := attrs
def plain (name : String) (sup : Option ClassId) : Class where
  name := name
  kind := .ordinary
  loader := none
  accessFlags := 33
  super := sup
  interfaces := #[]
  cf := none
  fields := #[]
  methods := #[]
  instanceTypes := #[]
  staticTypes := #[]
  resolved := #[]
  callSites := []
  init := .initialized
  statics := none
  mirror := none

def pool0 : Array CpInfo := pool [(5, u "<init>"), (0, u "()V"), (1, .class_ 10), (1, u "java/lang/Object")] 113

def k0c0 : Code := { maxStack := 0, maxLocals := 1, code := object_method_1_code, exceptionTable := #[], attributes := #[] }
def k0m0 : Method := { name := "<init>", desc := "()V", sig := { parameters := [], returnType := none }, accessFlags := 1, code := some k0c0 }
/-- java/lang/Object -/
def k0 : Class := { plain "java/lang/Object" none with
  accessFlags := 33
  interfaces := #[]
  cf := some (fileOf pool0 8 #[] #[{ accessFlags := 1, nameIndex := 5, descriptorIndex := 6, attributes := #[] }] 33 0 #[] #[])
  fields := #[]
  methods := #[k0m0]
  instanceTypes := #[]
  staticTypes := #[]
  resolved := Array.replicate 124 none
  statics := none }

def pool1 : Array CpInfo := pool [(2, .class_ 4), (1, u "java/lang/Object"), (0, u "<init>"), (0, u "()V"), (0, .integer 65535), (0, .class_ 9), (0, u "com/example/wary_rollout/waryrollout/agent/ProcessTable$Stat"), (0, .methodref 8 11), (0, .nameAndType 5 12), (0, u "(JCJJ)V"), (0, .methodref 8 14), (0, .nameAndType 15 16), (0, u "ended"), (0, u "()Z"), (0, .methodref 18 19), (0, .class_ 20), (0, .nameAndType 21 22), (0, u "com/example/wary_rollout/waryrollout/agent/StatEndedPinLaw"), (0, u "deadLetter"), (0, u "(C)Z"), (0, .methodref 8 24), (0, .nameAndType 25 26), (0, u "pid"), (0, u "()J"), (0, .methodref 8 28), (0, .nameAndType 29 26), (0, u "parent"), (0, .methodref 8 31), (0, .nameAndType 32 26), (0, u "startTicks"), (3, u "law"), (0, u "(IIJJJ)Z")] 8

def k1m0 : Method := { name := "<init>", desc := "()V", sig := { parameters := [], returnType := none }, accessFlags := 2, code := none }
def k1c1 : Code := { maxStack := 2, maxLocals := 1, code := method_2_code, exceptionTable := #[], attributes := #[] }
def k1m1 : Method := { name := "deadLetter", desc := "(C)Z", sig := { parameters := [.char], returnType := some .boolean }, accessFlags := 10, code := some k1c1 }
def k1c2 : Code := { maxStack := 9, maxLocals := 13, code := code, exceptionTable := #[], attributes := #[] }
def k1m2 : Method := { name := "law", desc := "(IIJJJ)Z", sig := { parameters := [.int, .int, .long, .long, .long], returnType := some .boolean }, accessFlags := 9, code := some k1c2 }
/-- com/example/wary_rollout/waryrollout/agent/StatEndedPinLaw -/
def k1 : Class := { plain "com/example/wary_rollout/waryrollout/agent/StatEndedPinLaw" (some 0) with
  accessFlags := 49
  interfaces := #[]
  cf := some (fileOf pool1 18 #[] #[{ accessFlags := 2, nameIndex := 5, descriptorIndex := 6, attributes := #[] }, { accessFlags := 10, nameIndex := 21, descriptorIndex := 22, attributes := #[] }, { accessFlags := 9, nameIndex := 36, descriptorIndex := 37, attributes := #[] }] 49 2 #[] #[])
  fields := #[]
  methods := #[k1m0, k1m1, k1m2]
  instanceTypes := #[]
  staticTypes := #[]
  resolved := Array.replicate 46 none
  statics := none }

def pool2 : Array CpInfo := pool [(1, .methodref 2 3), (0, .class_ 4), (0, .nameAndType 5 6), (0, u "java/lang/Object"), (0, u "<init>"), (0, u "()V"), (0, .fieldref 8 9), (0, .class_ 10), (0, .nameAndType 11 12), (0, u "com/example/wary_rollout/waryrollout/agent/ProcessTable$Stat"), (0, u "pid"), (0, u "J"), (0, .fieldref 8 14), (0, .nameAndType 15 16), (0, u "state"), (0, u "C"), (0, .fieldref 8 18), (0, .nameAndType 19 12), (0, u "parent"), (0, .fieldref 8 21), (0, .nameAndType 22 12), (0, u "startTicks"), (0, u "(JCJJ)V"), (2, u "ended"), (0, u "()Z"), (1, u "()J"), (3, .class_ 34), (0, u "com/example/wary_rollout/waryrollout/agent/ProcessTable")] 2

def k2c0 : Code := { maxStack := 3, maxLocals := 8, code := prog_4_method_1_code, exceptionTable := #[], attributes := #[] }
def k2m0 : Method := { name := "<init>", desc := "(JCJJ)V", sig := { parameters := [.long, .char, .long, .long], returnType := none }, accessFlags := 0, code := some k2c0 }
def k2c1 : Code := { maxStack := 2, maxLocals := 1, code := prog_4_method_2_code, exceptionTable := #[], attributes := #[] }
def k2m1 : Method := { name := "ended", desc := "()Z", sig := { parameters := [], returnType := some .boolean }, accessFlags := 0, code := some k2c1 }
def k2c2 : Code := { maxStack := 2, maxLocals := 1, code := prog_4_method_3_code, exceptionTable := #[], attributes := #[] }
def k2m2 : Method := { name := "pid", desc := "()J", sig := { parameters := [], returnType := some .long }, accessFlags := 0, code := some k2c2 }
def k2c3 : Code := { maxStack := 2, maxLocals := 1, code := prog_4_method_4_code, exceptionTable := #[], attributes := #[] }
def k2m3 : Method := { name := "parent", desc := "()J", sig := { parameters := [], returnType := some .long }, accessFlags := 0, code := some k2c3 }
def k2c4 : Code := { maxStack := 2, maxLocals := 1, code := prog_4_method_5_code, exceptionTable := #[], attributes := #[] }
def k2m4 : Method := { name := "startTicks", desc := "()J", sig := { parameters := [], returnType := some .long }, accessFlags := 0, code := some k2c4 }
/-- com/example/wary_rollout/waryrollout/agent/ProcessTable$Stat -/
def k2 : Class := { plain "com/example/wary_rollout/waryrollout/agent/ProcessTable$Stat" (some 0) with
  accessFlags := 48
  interfaces := #[]
  cf := some (fileOf pool2 8 #[.nestHost 33] #[{ accessFlags := 0, nameIndex := 5, descriptorIndex := 23, attributes := #[] }, { accessFlags := 0, nameIndex := 26, descriptorIndex := 27, attributes := #[] }, { accessFlags := 0, nameIndex := 11, descriptorIndex := 29, attributes := #[] }, { accessFlags := 0, nameIndex := 19, descriptorIndex := 29, attributes := #[] }, { accessFlags := 0, nameIndex := 22, descriptorIndex := 29, attributes := #[] }] 48 2 #[] #[{ accessFlags := 18, nameIndex := 11, descriptorIndex := 12, attributes := #[] }, { accessFlags := 18, nameIndex := 15, descriptorIndex := 16, attributes := #[] }, { accessFlags := 18, nameIndex := 19, descriptorIndex := 12, attributes := #[] }, { accessFlags := 18, nameIndex := 22, descriptorIndex := 12, attributes := #[] }])
  fields := #[{ name := "pid", type := .long, accessFlags := 18, slot := 0, constantValue := 0 }, { name := "state", type := .char, accessFlags := 18, slot := 1, constantValue := 0 }, { name := "parent", type := .long, accessFlags := 18, slot := 2, constantValue := 0 }, { name := "startTicks", type := .long, accessFlags := 18, slot := 3, constantValue := 0 }]
  methods := #[k2m0, k2m1, k2m2, k2m3, k2m4]
  instanceTypes := #[.long, .char, .long, .long]
  staticTypes := #[]
  resolved := Array.replicate 37 none
  statics := none }

def pool3 : Array CpInfo := pool [(1, u "java/lang/Cloneable"), (0, .class_ 1), (0, u "java/lang/Object"), (0, .class_ 3)] 3

/-- java/lang/Cloneable -/
def k3 : Class := { plain "java/lang/Cloneable" (some 0) with
  accessFlags := 1537
  interfaces := #[]
  cf := some (fileOf pool3 2 #[] #[] 1537 4 #[] #[])
  fields := #[]
  methods := #[]
  instanceTypes := #[]
  staticTypes := #[]
  resolved := Array.replicate 8 none
  statics := none }

def pool4 : Array CpInfo := pool [(1, u "java/io/Serializable"), (0, .class_ 1), (0, u "java/lang/Object"), (0, .class_ 3)] 3

/-- java/io/Serializable -/
def k4 : Class := { plain "java/io/Serializable" (some 0) with
  accessFlags := 1537
  interfaces := #[]
  cf := some (fileOf pool4 2 #[] #[] 1537 4 #[] #[])
  fields := #[]
  methods := #[]
  instanceTypes := #[]
  staticTypes := #[]
  resolved := Array.replicate 8 none
  statics := none }

/-- the primitive byte -/
def k5 : Class := { plain "byte" none with kind := .primitive 'B', accessFlags := 0x411 }
/-- [B -/
def k6 : Class := { plain "[B" (some 0) with kind := .array 5 .byte, interfaces := #[3, 4], accessFlags := 1041 }

/-- the primitive char -/
def k7 : Class := { plain "char" none with kind := .primitive 'C', accessFlags := 0x411 }
/-- [C -/
def k8 : Class := { plain "[C" (some 0) with kind := .array 7 .char, interfaces := #[3, 4], accessFlags := 1041 }

/-- the primitive int -/
def k9 : Class := { plain "int" none with kind := .primitive 'I', accessFlags := 0x411 }
/-- [I -/
def k10 : Class := { plain "[I" (some 0) with kind := .array 9 .int, interfaces := #[3, 4], accessFlags := 1041 }

def heap : Heap := #[]
def classes : Array Class := #[k0, k1, k2, k3, k4, k5, k6, k7, k8, k9, k10]
def interned : List (Array UInt16 × Addr) := []
def slotsUsed : Nat := 0
def theMethod : MethodId := ⟨1, 2⟩
def args0 : Array Value := #[.int 6, .int 5, .long 7, .long 8, .long 9]
def aboutOver (below : List Frame) : State where
  vm := { classes := classes, interned := interned.toArray }
  heap := heap
  slotsUsed := slotsUsed
  threads := #[{ frames := .invoking theMethod args0 :: below }]
def below0 : List Frame := [.native { method := ⟨0, 0⟩, args := #[] }]
def about1 : State := aboutOver below0
def p0 : Program := .bare "" "" ""
def e0 : Env := launch0.env 0 0 0
theorem w_frames : about1.frames = Frame.invoking theMethod args0 :: below0 := rfl
set_option maxRecDepth 65536 in
theorem w_args : argsFit about1.vm theMethod args0 = true := by decide +kernel
set_option maxRecDepth 65536 in
theorem w_heap : heapFits about1 = true := by decide +kernel
set_option maxRecDepth 65536 in
theorem w_runnable : about1.curStatus? = some .runnable := by decide +kernel
set_option maxRecDepth 65536 in
theorem w_alone : about1.alone = true := by decide +kernel
set_option maxRecDepth 65536 in
theorem w_named : about1.methodNamed? x = some theMethod := by decide +kernel
set_option maxRecDepth 65536 in
theorem w_hears : about1.hears theMethod below0 = true := by decide +kernel
set_option maxRecDepth 65536 in
theorem w_ripe : about1.ripe theMethod args0 below0 = true := by decide +kernel
theorem w_running : about1.status = .running := rfl
set_option maxRecDepth 65536 in
theorem w_room : about1.hasRoom e0.platform room_1 = true :=
  launch0.hasRoom_least _ room_1 (by decide +kernel) (by decide +kernel) (by decide +kernel) (by decide +kernel) (by decide +kernel) (by decide +kernel)
theorem allAtoms_all (ts : List Jvm.Cond) (a : Array Jvm.Value) (st : Jvm.State) : (allAtoms ts).before a st = ts.all (fun c => c.before a st) := by
  induction ts with
  | nil => rfl
  | cons c t ih =>
    show (Jvm.Cond.and c (allAtoms t)).before a st = _
    rw [Jvm.Cond.before_and, ih, List.all_cons]
def words1 : List Jvm.Cond := Jvm.Cond.code x code maxLocals ret :: tables_1
/-- a 'code' word, met by the world's own term for the bytes: nothing is compared byte by byte -/
theorem code_word {y : MethodName} {bytes : ByteArray} {mx : Nat} {rt : Option FieldType} {a : Array Value} {s : State} {m : MethodId} {meth : Method} {c : Code} (h1 : s.methodNamed? y = some m) (h2 : s.vm.method? m = some meth) (h3 : meth.code = some c) (h4 : c.code = bytes)
    (h5 : (c.maxLocals == mx && c.exceptionTable.isEmpty && decide (c.maxStack ≤ mostOperands) && decide (meth.sig.returnType = rt) && !meth.locks && decide (parseMethodDescriptor y.desc = some meth.sig)) = true) : (Jvm.Cond.code y bytes mx rt).before a s = true := by
  simp only [Bool.and_eq_true, beq_iff_eq, Bool.not_eq_true', decide_eq_true_eq] at h5
  obtain ⟨⟨⟨⟨⟨g1, g2⟩, g3⟩, g4⟩, g5⟩, g6⟩ := h5
  simp [Cond.before, Cond.holds, Cond.value, h1, h2, h3, h4, g1, g2, g3, g4, g5, g6]
def isCode : Jvm.Cond → Bool
  | .code _ _ _ _ => true
  | _ => false
theorem all_split {L : List Jvm.Cond} {P : Jvm.Cond → Bool} (h1 : L.all (fun c => isCode c || P c) = true) (h2 : ∀ c ∈ L.filter isCode, P c = true) : L.all P = true := by
  refine List.all_eq_true.mpr fun c hc => ?_
  have h := List.all_eq_true.mp h1 c hc
  rcases Bool.eq_false_or_eq_true (isCode c) with hi | hi
  · exact h2 c (List.mem_filter.mpr ⟨hc, hi⟩)
  · simpa [hi] using h
set_option maxRecDepth 65536 in
theorem w_c0 : (Jvm.Cond.code x code maxLocals ret).before args0 about1 = true := code_word (m := ⟨1, 2⟩) (meth := k1m2) (c := k1c2) (by decide +kernel) rfl rfl rfl (by decide +kernel)
set_option maxRecDepth 65536 in
theorem w_c1 : (Jvm.Cond.code ({ cls := "com/example/wary_rollout/waryrollout/agent/ProcessTable$Stat", name := "<init>", desc := "(JCJJ)V" } : Jvm.MethodName) prog_4_method_1_code (8 : Nat) (Option.none : Option Jvm.ClassFile.FieldType)).before args0 about1 = true := code_word (m := ⟨2, 0⟩) (meth := k2m0) (c := k2c0) (by decide +kernel) rfl rfl rfl (by decide +kernel)
set_option maxRecDepth 65536 in
theorem w_c2 : (Jvm.Cond.code ({ cls := "java/lang/Object", name := "<init>", desc := "()V" } : Jvm.MethodName) object_method_1_code (1 : Nat) (Option.none : Option Jvm.ClassFile.FieldType)).before args0 about1 = true := code_word (m := ⟨0, 0⟩) (meth := k0m0) (c := k0c0) (by decide +kernel) rfl rfl rfl (by decide +kernel)
set_option maxRecDepth 65536 in
theorem w_c3 : (Jvm.Cond.code ({ cls := "com/example/wary_rollout/waryrollout/agent/ProcessTable$Stat", name := "ended", desc := "()Z" } : Jvm.MethodName) prog_4_method_2_code (1 : Nat) (Option.some Jvm.ClassFile.FieldType.boolean)).before args0 about1 = true := code_word (m := ⟨2, 1⟩) (meth := k2m1) (c := k2c1) (by decide +kernel) rfl rfl rfl (by decide +kernel)
set_option maxRecDepth 65536 in
theorem w_c4 : (Jvm.Cond.code ({ cls := "com/example/wary_rollout/waryrollout/agent/StatEndedPinLaw", name := "deadLetter", desc := "(C)Z" } : Jvm.MethodName) method_2_code (1 : Nat) (Option.some Jvm.ClassFile.FieldType.boolean)).before args0 about1 = true := code_word (m := ⟨1, 1⟩) (meth := k1m1) (c := k1c1) (by decide +kernel) rfl rfl rfl (by decide +kernel)
set_option maxRecDepth 65536 in
theorem w_c5 : (Jvm.Cond.code ({ cls := "com/example/wary_rollout/waryrollout/agent/ProcessTable$Stat", name := "pid", desc := "()J" } : Jvm.MethodName) prog_4_method_3_code (1 : Nat) (Option.some Jvm.ClassFile.FieldType.long)).before args0 about1 = true := code_word (m := ⟨2, 2⟩) (meth := k2m2) (c := k2c2) (by decide +kernel) rfl rfl rfl (by decide +kernel)
set_option maxRecDepth 65536 in
theorem w_c6 : (Jvm.Cond.code ({ cls := "com/example/wary_rollout/waryrollout/agent/ProcessTable$Stat", name := "parent", desc := "()J" } : Jvm.MethodName) prog_4_method_4_code (1 : Nat) (Option.some Jvm.ClassFile.FieldType.long)).before args0 about1 = true := code_word (m := ⟨2, 3⟩) (meth := k2m3) (c := k2c3) (by decide +kernel) rfl rfl rfl (by decide +kernel)
set_option maxRecDepth 65536 in
theorem w_c7 : (Jvm.Cond.code ({ cls := "com/example/wary_rollout/waryrollout/agent/ProcessTable$Stat", name := "startTicks", desc := "()J" } : Jvm.MethodName) prog_4_method_5_code (1 : Nat) (Option.some Jvm.ClassFile.FieldType.long)).before args0 about1 = true := code_word (m := ⟨2, 4⟩) (meth := k2m4) (c := k2c4) (by decide +kernel) rfl rfl rfl (by decide +kernel)
def codes1 : List Jvm.Cond := [Jvm.Cond.code x code maxLocals ret, Jvm.Cond.code ({ cls := "com/example/wary_rollout/waryrollout/agent/ProcessTable$Stat", name := "<init>", desc := "(JCJJ)V" } : Jvm.MethodName) prog_4_method_1_code (8 : Nat) (Option.none : Option Jvm.ClassFile.FieldType), Jvm.Cond.code ({ cls := "java/lang/Object", name := "<init>", desc := "()V" } : Jvm.MethodName) object_method_1_code (1 : Nat) (Option.none : Option Jvm.ClassFile.FieldType), Jvm.Cond.code ({ cls := "com/example/wary_rollout/waryrollout/agent/ProcessTable$Stat", name := "ended", desc := "()Z" } : Jvm.MethodName) prog_4_method_2_code (1 : Nat) (Option.some Jvm.ClassFile.FieldType.boolean), Jvm.Cond.code ({ cls := "com/example/wary_rollout/waryrollout/agent/StatEndedPinLaw", name := "deadLetter", desc := "(C)Z" } : Jvm.MethodName) method_2_code (1 : Nat) (Option.some Jvm.ClassFile.FieldType.boolean), Jvm.Cond.code ({ cls := "com/example/wary_rollout/waryrollout/agent/ProcessTable$Stat", name := "pid", desc := "()J" } : Jvm.MethodName) prog_4_method_3_code (1 : Nat) (Option.some Jvm.ClassFile.FieldType.long), Jvm.Cond.code ({ cls := "com/example/wary_rollout/waryrollout/agent/ProcessTable$Stat", name := "parent", desc := "()J" } : Jvm.MethodName) prog_4_method_4_code (1 : Nat) (Option.some Jvm.ClassFile.FieldType.long), Jvm.Cond.code ({ cls := "com/example/wary_rollout/waryrollout/agent/ProcessTable$Stat", name := "startTicks", desc := "()J" } : Jvm.MethodName) prog_4_method_5_code (1 : Nat) (Option.some Jvm.ClassFile.FieldType.long)]
set_option maxRecDepth 65536 in
theorem codes_eq : words1.filter isCode = codes1 := rfl
theorem w_codes : ∀ c ∈ words1.filter isCode, c.before args0 about1 = true := by
  rw [codes_eq]
  intro c hc
  simp only [codes1, List.mem_cons, List.not_mem_nil, or_false] at hc
  rcases hc with rfl | rfl | rfl | rfl | rfl | rfl | rfl | rfl
  · exact w_c0
  · exact w_c1
  · exact w_c2
  · exact w_c3
  · exact w_c4
  · exact w_c5
  · exact w_c6
  · exact w_c7
set_option maxRecDepth 65536 in
theorem w_t1 : (words1.take 24).all (fun c => isCode c || c.before args0 about1) = true := by decide +kernel
set_option maxRecDepth 65536 in
theorem w_t2 : (words1.drop 24).all (fun c => isCode c || c.before args0 about1) = true := by decide +kernel
theorem w_tables : (allAtoms (Jvm.Cond.code x code maxLocals ret :: tables_1)).before args0 about1 = true := by
  rw [allAtoms_all]
  show words1.all (fun c => c.before args0 about1) = true
  refine all_split ?_ w_codes
  rw [← List.take_append_drop 24 words1, List.all_append, w_t1, w_t2]
  rfl
set_option maxRecDepth 65536 in
theorem w_case : (Jvm.Cond.and given_1 narrow_1).before args0 about1 = true := by decide +kernel
theorem w_applies : (headSpec (Jvm.Cond.code x code maxLocals ret :: tables_1) room_1).applies x e0.platform about1 = true :=
  (Spec.applies_iff w_frames).mpr ⟨w_running, w_runnable, w_alone, w_named, w_hears, w_ripe, w_room, w_tables⟩
theorem atStart : AtStart classFile x code maxLocals ret World_1 tables_1 room_1 Calls_1 rest_1 Pre_1 launch0 p0 e0 about1 theMethod args0 below0 :=
  ⟨lists_1, trivial, launch0.admits_env _ _ _, launch0.least_env, fairChoices_fair.cas, fairChoices_fair.clock, w_frames, w_args, w_heap, w_applies, trivial, trivial, w_case⟩
end start1
theorem witness_1 : WitnessClaimed_1 := ⟨start1.p0, start1.e0, start1.about1, start1.theMethod, start1.args0, start1.below0, start1.atStart⟩
end Jvm.Pilot.@@N@@
