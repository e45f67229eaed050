import JvmDerived
import JvmDerived.Pilot.@@N@@Statement
import JvmDerived.Pilot.@@N@@Code
set_option linter.unusedVariables false
set_option linter.unusedSimpArgs false
namespace Jvm.RoadKit
open Sem ClassFile Op Lib Jvm.Stand Jvm.Free Jvm.LawKit
section New
variable {p : Program} {l : Launch} {e : Env} {R : Room} {s : State} {m : MethodId} {args : Array Value} {below : List Frame} {meth : Method} {c : Code} {T : State} {locs : List Loc} {cells slots : Nat}
theorem retI (X : Stand p l e R s m args below meth c T locs cells slots) (hx : p.tables.exec = Jvm.exec) {pc : Nat} {Ls : Array Slot} {z : Int32} {rest : List Value} (hret : meth.sig.returnType = some .int) (hd : decode c.code pc = .ok (.ireturn, 1)) {fs : List Frame}
    (hl : ∀ (f : JFrame) (acts : List Action), f.method = m → f.locked = none → f.entered = [] → (doReturn e (T.setTop f) acts (some (.int z))).1 = T.setFrames fs) : Steps p.tables e below (T.setTop (mkF m pc Ls (.int z :: rest))) (T.setFrames fs) := by
  have hm' : T.vm.method? m = some meth := X.method'
  have hn : narrow .int (.int z) = .int z := rfl
  show Steps p.tables e below (T.setTop { method := m, pc := pc, locals := Ls, stack := _ :: rest, locked := none }) _
  jvm_step X.here [X.here.top, hx, hd, hm', hret, hn]
  first | (intro acts; rw [hl _ acts rfl rfl rfl]) | rw [hl _ _ rfl rfl rfl]
  exact Steps.refl _
end New
end Jvm.RoadKit
namespace Jvm.Pilot.@@N@@
open Jvm Jvm.ClassFile Sem Op Lib Jvm.Free Jvm.Stand Jvm.LawKit Jvm.RoadKit Bundle Jvm.Pilot.@@N@@.Jvm.D
theorem own_n (p6 : Int32) : ((p6 &&& (7 : Int32)) % (6 : Int32)) = (0 : Int32) ∨ ((p6 &&& (7 : Int32)) % (6 : Int32)) = (1 : Int32) ∨ ((p6 &&& (7 : Int32)) % (6 : Int32)) = (2 : Int32) ∨ ((p6 &&& (7 : Int32)) % (6 : Int32)) = (3 : Int32) ∨ ((p6 &&& (7 : Int32)) % (6 : Int32)) = (4 : Int32) ∨ ((p6 &&& (7 : Int32)) % (6 : Int32)) = (5 : Int32) := by
  have h := c_mask p6 7 3 (by decide) (by decide)
  have h2 := (c_irem (p6 &&& 7) 6 6 rfl).1 (by omega)
  have e0 : (0 : Int32).toInt = 0 := rfl
  have e1 : (1 : Int32).toInt = 1 := rfl
  have e2 : (2 : Int32).toInt = 2 := rfl
  have e3 : (3 : Int32).toInt = 3 := rfl
  have e4 : (4 : Int32).toInt = 4 := rfl
  have e5 : (5 : Int32).toInt = 5 := rfl
  simp only [← Int32.toInt_inj, e0, e1, e2, e3, e4, e5]
  omega
theorem own_i (x : Int32) : ¬ (x &&& (7 : Int32)) < 0 := by
  have h := c_mask x 7 3 (by decide) (by decide)
  have e0 : (0 : Int32).toInt = 0 := rfl
  rw [Int32.lt_iff_toInt_lt, e0]; omega
theorem own_lt5 {i n : Int32} (h0 : ¬ i < 0) (h : i < n) (hn : ¬ (5 : Int32) < n) : i = 0 ∨ i = 1 ∨ i = 2 ∨ i = 3 ∨ i = 4 := by
  have e0 : (0 : Int32).toInt = 0 := rfl
  have e1 : (1 : Int32).toInt = 1 := rfl
  have e2 : (2 : Int32).toInt = 2 := rfl
  have e3 : (3 : Int32).toInt = 3 := rfl
  have e4 : (4 : Int32).toInt = 4 := rfl
  have e5 : (5 : Int32).toInt = 5 := rfl
  simp only [Int32.lt_iff_toInt_lt, ← Int32.toInt_inj, e0, e1, e2, e3, e4, e5] at *
  omega
theorem pn_1 : plainName "com/example/leadout/leadout/store/ShapeIndex" = true := by first | (simp [plainName, overriddenIn]; done) | decide +kernel
theorem ef_1_RI (m : MethodId) (x0 : Addr) (x1 : Int32) : entryFrame m #[(.ref x0), (.int x1)] 2 = mkF m 0 #[.val (.ref x0), .val (.int x1)] [] := by first | (simp [entryFrame, mkF, argsToLocals, Value.category]; done) | rfl
theorem d1_0 : decode prog_79_method_2_code 0 = .ok (.iload_n 1, 1) := by decide +kernel
theorem d1_1 : decode prog_79_method_2_code 1 = .ok (.aload_n 0, 1) := by decide +kernel
theorem d1_2 : decode prog_79_method_2_code 2 = .ok (.arraylength, 1) := by decide +kernel
theorem d1_3 : decode prog_79_method_2_code 3 = .ok (.if_icmp .ge 9, 3) := by decide +kernel
theorem d1_12 : decode prog_79_method_2_code 12 = .ok (.iconst 0, 1) := by decide +kernel
theorem d1_13 : decode prog_79_method_2_code 13 = .ok (.ireturn, 1) := by decide +kernel
def Q_rm1_h (Z : State) (a1 : Addr) (p2 : Int32) (k : ClassId) (n : Int32) (vs : List Value) (h0 : Heap) (n0 : Nat) (v : Option Value) (h : Heap) (L : List Loc) : Prop := v = some (.int (0 : Int32)) ∧ Fr n0 L ∧ h = h0
set_option maxRecDepth 65536 in
set_option maxHeartbeats 40000000 in
theorem rm1_h (l : Launch) (Z : State) (a0 : Array Value) (hw : ∀ d ∈ tables_1, d.before a0 Z = true) (ws : List Jvm.Cond) (a1 : Addr) (p2 : Int32) (k : ClassId) (n : Int32) (vs : List Value) (h0 : Heap) (n0 : Nat) (Z0 : n0 ≤ h0.size) (V0 : Arv Z h0 a1 k .int n vs (.int (0 : Int32))) (hi : ¬ (p2 < n)) :
    MetFree l (⟨"com/example/leadout/leadout/store/ShapeIndex", "indexed", "([II)I"⟩ : MethodName) (head1 (Jvm.Cond.code (⟨"com/example/leadout/leadout/store/ShapeIndex", "indexed", "([II)I"⟩ : MethodName) prog_79_method_2_code 2 (some .int) :: ws) ({ frames := 0, cells := 0, slots := 0, locals := 0 } : Room)) (fun a U => a = #[(.ref a1), (.int p2)] ∧ Z.Warmed39 U.vm ∧ U.heap = h0) (fun _ _ _ _ _ => True) (fun _ U o U' => ∃ v L, o = .returned v ∧ Q_rm1_h Z a1 p2 k n vs h0 n0 v U'.heap L ∧ FrameEnd U o U' L ({ frames := 0, cells := 0, slots := 0, locals := 0 } : Room).cells ({ frames := 0, cells := 0, slots := 0, locals := 0 } : Room).slots) := by
  refine MetFree.of_bodySF (plainFor_of_name pn_1) hisR ?_
  intro p e s m args below meth c s₁ Bd hml0 hP hK
  obtain ⟨rfl, hZ, hh⟩ := hP
  have hx := Bd.exec
  have hby := Bd.bytes
  have hml : c.maxLocals = 2 := hml0
  have hown : s.vm.findClass "com/example/leadout/leadout/store/ShapeIndex" = some m.cls := findClass_of_methodNamed Bd.named
  have hnm := (name_of_methodNamed Bd.named Bd.method).1
  have X0 : Stand p l e ({ frames := 0, cells := 0, slots := 0, locals := 0 } : Room) s m #[(.ref a1), (.int p2)] below meth c s₁ [] 0 0 := Stand.of_body Bd
  have e0 : s₁.heap = h0 := by rw [← hh, Bd.state]; rfl
  have N0 := Fr.nil n0
  have pre0 : ∀ t, Steps p.tables e below (s₁.setTop (mkF m 0 #[.val (.ref a1), .val (.int p2)] [])) t → Steps p.tables e below (s₁.setTop (entryFrame m #[(.ref a1), (.int p2)] 2)) t := fun t k => castTop (ef_1_RI m a1 p2) k
  obtain ⟨cl1, Ar1, q1, S1, M1, Ha1, G1⟩ := id V0
  obtain ⟨fs, hr, hrun, hended, hW, hsame⟩ := X0.leave (v := some (.int (0 : Int32))) (fun h => by rw [Bd.returns] at h; cases h)
  refine ⟨_, _, pre0 _ ?_, hrun, hended, _, _, rfl, ?_, ⟨_, rfl⟩, hW, hsame.mono (by decide) (by decide)⟩
  · show Steps p.tables e below (s₁.setTop (mkF m 0 #[.val (.ref a1), .val (.int p2)] [])) _
    refine XS.iloadN X0.here hx rfl (hb hby d1_0) rfl ?_
    show Steps p.tables e below (s₁.setTop (mkF m 1 #[.val (.ref a1), .val (.int p2)] [(.int p2)])) _
    refine XS.aloadN X0.here hx rfl (hb hby d1_1) rfl rfl ?_
    show Steps p.tables e below (s₁.setTop (mkF m 2 #[.val (.ref a1), .val (.int p2)] [(.ref a1), (.int p2)])) _
    refine X0.arraylength hx (by rw [e0]; exact Ar1.1) (State.isArrayOf_alike hZ.alike Ar1.2.1) (g := (mkF m 2 #[.val (.ref a1), .val (.int p2)] [(.ref a1), (.int p2)])) rfl rfl (hb hby d1_2) _ ?_
    rw [len_of S1 M1]
    show Steps p.tables e below (s₁.setTop (mkF m 3 #[.val (.ref a1), .val (.int p2)] [(.int n), (.int p2)])) _
    refine XS.icmpYes X0.here hx rfl (pc0 := 3) (pc' := 12) rfl (hb hby d1_3) rfl (flt hi).2.1 (by decide) (by decide) ?_
    show Steps p.tables e below (s₁.setTop (mkF m 12 #[.val (.ref a1), .val (.int p2)] [])) _
    refine XS.iconst X0.here hx rfl (hb hby d1_12) ?_
    show Steps p.tables e below (s₁.setTop (mkF m 13 #[.val (.ref a1), .val (.int p2)] [(.int (0 : Int32))])) _
    exact retI X0 hx Bd.returns (hb hby d1_13) hr
  · show Q_rm1_h Z a1 p2 k n vs h0 n0 _ s₁.heap _
    rw [e0]
    exact ⟨rfl, N0, rfl⟩
theorem d1_6 : decode prog_79_method_2_code 6 = .ok (.aload_n 0, 1) := by decide +kernel
theorem d1_7 : decode prog_79_method_2_code 7 = .ok (.iload_n 1, 1) := by decide +kernel
theorem d1_8 : decode prog_79_method_2_code 8 = .ok (.iaload, 1) := by decide +kernel
theorem d1_9 : decode prog_79_method_2_code 9 = .ok (.goto 4, 3) := by decide +kernel
def Q_rm1_l (Z : State) (a1 : Addr) (p2 : Int32) (k : ClassId) (n : Int32) (vs : List Value) (w : Int32) (h0 : Heap) (n0 : Nat) (v : Option Value) (h : Heap) (L : List Loc) : Prop := v = some (.int w) ∧ Fr n0 L ∧ h = h0
set_option maxRecDepth 65536 in
set_option maxHeartbeats 40000000 in
theorem rm1_l (l : Launch) (Z : State) (a0 : Array Value) (hw : ∀ d ∈ tables_1, d.before a0 Z = true) (ws : List Jvm.Cond) (a1 : Addr) (p2 : Int32) (k : ClassId) (n : Int32) (vs : List Value) (w : Int32) (h0 : Heap) (n0 : Nat) (Z0 : n0 ≤ h0.size) (V0 : Arv Z h0 a1 k .int n vs (.int (0 : Int32))) (hi : p2 < n) (hz : ¬ p2 < 0) (hv : vs.getD p2.toNatClampNeg (.int (0 : Int32)) = .int w) :
    MetFree l (⟨"com/example/leadout/leadout/store/ShapeIndex", "indexed", "([II)I"⟩ : MethodName) (head1 (Jvm.Cond.code (⟨"com/example/leadout/leadout/store/ShapeIndex", "indexed", "([II)I"⟩ : MethodName) prog_79_method_2_code 2 (some .int) :: ws) ({ frames := 0, cells := 0, slots := 0, locals := 0 } : Room)) (fun a U => a = #[(.ref a1), (.int p2)] ∧ Z.Warmed39 U.vm ∧ U.heap = h0) (fun _ _ _ _ _ => True) (fun _ U o U' => ∃ v L, o = .returned v ∧ Q_rm1_l Z a1 p2 k n vs w h0 n0 v U'.heap L ∧ FrameEnd U o U' L ({ frames := 0, cells := 0, slots := 0, locals := 0 } : Room).cells ({ frames := 0, cells := 0, slots := 0, locals := 0 } : Room).slots) := by
  refine MetFree.of_bodySF (plainFor_of_name pn_1) hisR ?_
  intro p e s m args below meth c s₁ Bd hml0 hP hK
  obtain ⟨rfl, hZ, hh⟩ := hP
  have hx := Bd.exec
  have hby := Bd.bytes
  have hml : c.maxLocals = 2 := hml0
  have hown : s.vm.findClass "com/example/leadout/leadout/store/ShapeIndex" = some m.cls := findClass_of_methodNamed Bd.named
  have hnm := (name_of_methodNamed Bd.named Bd.method).1
  have X0 : Stand p l e ({ frames := 0, cells := 0, slots := 0, locals := 0 } : Room) s m #[(.ref a1), (.int p2)] below meth c s₁ [] 0 0 := Stand.of_body Bd
  have e0 : s₁.heap = h0 := by rw [← hh, Bd.state]; rfl
  have N0 := Fr.nil n0
  have pre0 : ∀ t, Steps p.tables e below (s₁.setTop (mkF m 0 #[.val (.ref a1), .val (.int p2)] [])) t → Steps p.tables e below (s₁.setTop (entryFrame m #[(.ref a1), (.int p2)] 2)) t := fun t k => castTop (ef_1_RI m a1 p2) k
  obtain ⟨cl1, Ar1, q1, S1, M1, Ha1, G1⟩ := id V0
  obtain ⟨cl2, Ar2, q2, S2, M2, Ha2, G2⟩ := id V0
  have hin3 : ¬ (p2 < 0 ∨ cl2.slots.size ≤ (p2).toNatClampNeg) := inb_of S2 ⟨hz, hi⟩
  have hat3 : cl2.slots[(p2).toNatClampNeg]? = some (.int w) := Has.at Ha2 hin3 hv
  obtain ⟨fs, hr, hrun, hended, hW, hsame⟩ := X0.leave (v := some (.int w)) (fun h => by rw [Bd.returns] at h; cases h)
  refine ⟨_, _, pre0 _ ?_, hrun, hended, _, _, rfl, ?_, ⟨_, rfl⟩, hW, hsame.mono (by decide) (by decide)⟩
  · show Steps p.tables e below (s₁.setTop (mkF m 0 #[.val (.ref a1), .val (.int p2)] [])) _
    refine XS.iloadN X0.here hx rfl (hb hby d1_0) rfl ?_
    show Steps p.tables e below (s₁.setTop (mkF m 1 #[.val (.ref a1), .val (.int p2)] [(.int p2)])) _
    refine XS.aloadN X0.here hx rfl (hb hby d1_1) rfl rfl ?_
    show Steps p.tables e below (s₁.setTop (mkF m 2 #[.val (.ref a1), .val (.int p2)] [(.ref a1), (.int p2)])) _
    refine X0.arraylength hx (by rw [e0]; exact Ar1.1) (State.isArrayOf_alike hZ.alike Ar1.2.1) (g := (mkF m 2 #[.val (.ref a1), .val (.int p2)] [(.ref a1), (.int p2)])) rfl rfl (hb hby d1_2) _ ?_
    rw [len_of S1 M1]
    show Steps p.tables e below (s₁.setTop (mkF m 3 #[.val (.ref a1), .val (.int p2)] [(.int n), (.int p2)])) _
    refine XS.icmpNo X0.here hx rfl (hb hby d1_3) rfl (tlt hi).2.1 ?_
    show Steps p.tables e below (s₁.setTop (mkF m 6 #[.val (.ref a1), .val (.int p2)] [])) _
    refine XS.aloadN X0.here hx rfl (hb hby d1_6) rfl rfl ?_
    show Steps p.tables e below (s₁.setTop (mkF m 7 #[.val (.ref a1), .val (.int p2)] [(.ref a1)])) _
    refine XS.iloadN X0.here hx rfl (hb hby d1_7) rfl ?_
    show Steps p.tables e below (s₁.setTop (mkF m 8 #[.val (.ref a1), .val (.int p2)] [(.int p2), (.ref a1)])) _
    refine X0.iaload hx (j := p2) (v := (.int w)) (by rw [e0]; exact Ar2.1) (State.isArrayOf_alike hZ.alike Ar2.2.1) Ar2.2.2 hin3 hat3 (g := (mkF m 8 #[.val (.ref a1), .val (.int p2)] [(.int p2), (.ref a1)])) rfl rfl (hb hby d1_8) _ ?_
    show Steps p.tables e below (s₁.setTop (mkF m 9 #[.val (.ref a1), .val (.int p2)] [(.int w)])) _
    refine XS.goto X0.here hx rfl (pc0 := 9) (pc' := 13) rfl (hb hby d1_9) (by decide) (by decide) ?_
    show Steps p.tables e below (s₁.setTop (mkF m 13 #[.val (.ref a1), .val (.int p2)] [(.int w)])) _
    exact retI X0 hx Bd.returns (hb hby d1_13) hr
  · show Q_rm1_l Z a1 p2 k n vs w h0 n0 _ s₁.heap _
    rw [e0]
    exact ⟨rfl, N0, rfl⟩
theorem pn_0 : plainName "com/example/leadout/leadout/store/ShapeIndexIndexedPinLaw" = true := by first | (simp [plainName, overriddenIn]; done) | decide +kernel
theorem pd_0 : parseMethodDescriptor "([II)I" = some ⟨[(.array .int), .int], some .int⟩ := by decide +kernel
set_option maxRecDepth 65536 in
set_option maxHeartbeats 40000000 in
theorem own_tail {p : Program} {l : Launch} {e : Env} {s : State} {m : MethodId} {args : Array Value} {below : List Frame} {meth : Method} {c : Code} {T0 : State} {locs : List Loc} {Z : State} {a0 : Array Value} {h0 : Heap} {n0 : Nat} (p1 : Int32) (p2 : Int32) (p3 : Int32) (p4 : Int32) (p5 : Int32) (p6 : Int32) (n : Int32) (i : Int32) (a : Addr) (k : ClassId) (vs : List Value)
    (X0 : Stand p l e room_1 s m args below meth c T0 locs 1 5) (hx : p.tables.exec = Jvm.exec) (hZ : Z.Warmed39 s.vm) (hw : ∀ d ∈ tables_1, d.before a0 Z = true) (hby : c.code = code) (hml : c.maxLocals = 10) (hown : s.vm.findClass "com/example/leadout/leadout/store/ShapeIndexIndexedPinLaw" = some m.cls) (e0 : T0.heap = h0) (N0 : Fr n0 locs) (Z0 : n0 ≤ h0.size) (V0 : Arv Z h0 a k .int n vs (.int (0 : Int32))) (hi0 : ¬ i < 0) (hn5 : ¬ (5 : Int32) < n) (hv0 : (0 : Int32) < n → vs.getD 0 (.int (0 : Int32)) = .int p1) (hv1 : (1 : Int32) < n → vs.getD 1 (.int (0 : Int32)) = .int p2) (hv2 : (2 : Int32) < n → vs.getD 2 (.int (0 : Int32)) = .int p3) (hv3 : (3 : Int32) < n → vs.getD 3 (.int (0 : Int32)) = .int p4) (hv4 : (4 : Int32) < n → vs.getD 4 (.int (0 : Int32)) = .int p5) :
    ∃ (T' : State) (locs' : List Loc) (E : Int32), Stand p l e room_1 s m args below meth c T' locs' 1 5 ∧ T'.heap = h0 ∧ Fr n0 locs' ∧
      ∀ target, Steps p.tables e below (T'.setTop (mkF m 161 #[.val (.int p1), .val (.int p2), .val (.int p3), .val (.int p4), .val (.int p5), .val (.int p6), .val (.int n), .val (.int i), .val (.ref a), .val (.int E)] [(.int (1 : Int32))])) target → Steps p.tables e below (T0.setTop (mkF m 80 #[.val (.int p1), .val (.int p2), .val (.int p3), .val (.int p4), .val (.int p5), .val (.int p6), .val (.int n), .val (.int i), .val (.ref a), .unset] [])) target := by
  by_cases hi : i < n
  · rcases own_lt5 hi0 hi hn5 with rfl | rfl | rfl | rfl | rfl
    · obtain ⟨_, _, ⟨T1, L1, k1, n1⟩, -, X1, ⟨Lc1, hQ1, l1, y1, z1⟩, st1⟩ := Jvm.LawKit.callS X0 hx (y := (⟨"com/example/leadout/leadout/store/ShapeIndex", "indexed", "([II)I"⟩ : MethodName)) hown (mvT hZ (hw _ (List.mem_of_getElem? (i := 1) rfl))) (mvT hZ (hw _ (List.mem_of_getElem? (i := 2) rfl))) (mvT hZ (hw _ (List.mem_of_getElem? (i := 3) rfl))) (mvT hZ (hw _ (List.mem_of_getElem? (i := 4) rfl))) (by decide) (backOf (W := 0) (rm1_l l Z a0 hw [] a (0 : Int32) k n vs p1 h0 n0 Z0 V0 hi (by decide) (hv0 hi)) hZ (hw _ (List.mem_of_getElem? (i := 4) rfl)) (hw _ (List.mem_of_getElem? (i := 3) rfl)) (by decide) (by decide)) (g := (mkF m 148 #[.val (.int p1), .val (.int p2), .val (.int p3), .val (.int p4), .val (.int p5), .val (.int p6), .val (.int n), .val (.int (0 : Int32)), .val (.ref a), .val (.int p1)] [(.int (0 : Int32)), (.ref a)])) rfl (by rw [hml]; rfl) (argsL := [(.ref a), (.int (0 : Int32))]) (rest := []) (lenOf pd_0 rfl) rfl (by show 2 * 0 + _ ≤ _; exact Nat.le_of_eq rfl) (hb hby at_148) (fun _ _ => ⟨rfl, e0, (by decide : 1 + 0 ≤ _), (by decide : 5 + 0 ≤ _)⟩)
      dsimp only [Pt.U, Pt.locs, Pt.cells, Pt.slots] at X1 l1 y1 z1 st1 hQ1
      subst l1 y1 z1
      obtain ⟨rfl, Nq1, e1⟩ := hQ1
      have N1 := Fr.app N0 Nq1
      refine ⟨T1, _, p1, X1, e1, N1, fun target kt => ?_⟩
      show Steps p.tables e below (T0.setTop (mkF m 80 #[.val (.int p1), .val (.int p2), .val (.int p3), .val (.int p4), .val (.int p5), .val (.int p6), .val (.int n), .val (.int (0 : Int32)), .val (.ref a), .unset] [])) _
      refine XS.iload X0.here hx rfl (hb hby at_80) rfl ?_
      show Steps p.tables e below (T0.setTop (mkF m 82 #[.val (.int p1), .val (.int p2), .val (.int p3), .val (.int p4), .val (.int p5), .val (.int p6), .val (.int n), .val (.int (0 : Int32)), .val (.ref a), .unset] [(.int (0 : Int32))])) _
      refine XS.iload X0.here hx rfl (hb hby at_82) rfl ?_
      show Steps p.tables e below (T0.setTop (mkF m 84 #[.val (.int p1), .val (.int p2), .val (.int p3), .val (.int p4), .val (.int p5), .val (.int p6), .val (.int n), .val (.int (0 : Int32)), .val (.ref a), .unset] [(.int n), (.int (0 : Int32))])) _
      refine XS.icmpYes X0.here hx rfl (pc0 := 84) (pc' := 93) rfl (hb hby at_84) rfl (tlt hi).1 (by decide) (by decide) ?_
      show Steps p.tables e below (T0.setTop (mkF m 93 #[.val (.int p1), .val (.int p2), .val (.int p3), .val (.int p4), .val (.int p5), .val (.int p6), .val (.int n), .val (.int (0 : Int32)), .val (.ref a), .unset] [])) _
      refine XS.iload X0.here hx rfl (hb hby at_93) rfl ?_
      show Steps p.tables e below (T0.setTop (mkF m 95 #[.val (.int p1), .val (.int p2), .val (.int p3), .val (.int p4), .val (.int p5), .val (.int p6), .val (.int n), .val (.int (0 : Int32)), .val (.ref a), .unset] [(.int (0 : Int32))])) _
      refine XS.ifNo X0.here hx rfl (hb hby at_95) rfl ((if0 _ _).trans (teq (by decide : (0 : Int32) = (0 : Int32))).2) ?_
      show Steps p.tables e below (T0.setTop (mkF m 98 #[.val (.int p1), .val (.int p2), .val (.int p3), .val (.int p4), .val (.int p5), .val (.int p6), .val (.int n), .val (.int (0 : Int32)), .val (.ref a), .unset] [])) _
      refine XS.iloadN X0.here hx rfl (hb hby at_98) rfl ?_
      show Steps p.tables e below (T0.setTop (mkF m 99 #[.val (.int p1), .val (.int p2), .val (.int p3), .val (.int p4), .val (.int p5), .val (.int p6), .val (.int n), .val (.int (0 : Int32)), .val (.ref a), .unset] [(.int p1)])) _
      refine XS.istore X0.here hx rfl (hb hby at_99) rfl (l' := #[.val (.int p1), .val (.int p2), .val (.int p3), .val (.int p4), .val (.int p5), .val (.int p6), .val (.int n), .val (.int (0 : Int32)), .val (.ref a), .val (.int p1)]) rfl ?_
      show Steps p.tables e below (T0.setTop (mkF m 101 #[.val (.int p1), .val (.int p2), .val (.int p3), .val (.int p4), .val (.int p5), .val (.int p6), .val (.int n), .val (.int (0 : Int32)), .val (.ref a), .val (.int p1)] [])) _
      refine XS.goto X0.here hx rfl (pc0 := 101) (pc' := 144) rfl (hb hby at_101) (by decide) (by decide) ?_
      show Steps p.tables e below (T0.setTop (mkF m 144 #[.val (.int p1), .val (.int p2), .val (.int p3), .val (.int p4), .val (.int p5), .val (.int p6), .val (.int n), .val (.int (0 : Int32)), .val (.ref a), .val (.int p1)] [])) _
      refine XS.aload X0.here hx rfl (hb hby at_144) rfl rfl ?_
      show Steps p.tables e below (T0.setTop (mkF m 146 #[.val (.int p1), .val (.int p2), .val (.int p3), .val (.int p4), .val (.int p5), .val (.int p6), .val (.int n), .val (.int (0 : Int32)), .val (.ref a), .val (.int p1)] [(.ref a)])) _
      refine XS.iload X0.here hx rfl (hb hby at_146) rfl ?_
      show Steps p.tables e below (T0.setTop (mkF m 148 #[.val (.int p1), .val (.int p2), .val (.int p3), .val (.int p4), .val (.int p5), .val (.int p6), .val (.int n), .val (.int (0 : Int32)), .val (.ref a), .val (.int p1)] [(.int (0 : Int32)), (.ref a)])) _
      refine st1 _ ?_
      show Steps p.tables e below (T1.setTop (mkF m 151 #[.val (.int p1), .val (.int p2), .val (.int p3), .val (.int p4), .val (.int p5), .val (.int p6), .val (.int n), .val (.int (0 : Int32)), .val (.ref a), .val (.int p1)] [(.int p1)])) _
      refine XS.iload X1.here hx rfl (hb hby at_151) rfl ?_
      show Steps p.tables e below (T1.setTop (mkF m 153 #[.val (.int p1), .val (.int p2), .val (.int p3), .val (.int p4), .val (.int p5), .val (.int p6), .val (.int n), .val (.int (0 : Int32)), .val (.ref a), .val (.int p1)] [(.int p1), (.int p1)])) _
      refine XS.icmpNo X1.here hx rfl (hb hby at_153) rfl (teq (rfl : p1 = p1)).2 ?_
      show Steps p.tables e below (T1.setTop (mkF m 156 #[.val (.int p1), .val (.int p2), .val (.int p3), .val (.int p4), .val (.int p5), .val (.int p6), .val (.int n), .val (.int (0 : Int32)), .val (.ref a), .val (.int p1)] [])) _
      refine XS.iconst X1.here hx rfl (hb hby at_156) ?_
      show Steps p.tables e below (T1.setTop (mkF m 157 #[.val (.int p1), .val (.int p2), .val (.int p3), .val (.int p4), .val (.int p5), .val (.int p6), .val (.int n), .val (.int (0 : Int32)), .val (.ref a), .val (.int p1)] [(.int (1 : Int32))])) _
      refine XS.goto X1.here hx rfl (pc0 := 157) (pc' := 161) rfl (hb hby at_157) (by decide) (by decide) ?_
      exact kt
    · obtain ⟨_, _, ⟨T1, L1, k1, n1⟩, -, X1, ⟨Lc1, hQ1, l1, y1, z1⟩, st1⟩ := Jvm.LawKit.callS X0 hx (y := (⟨"com/example/leadout/leadout/store/ShapeIndex", "indexed", "([II)I"⟩ : MethodName)) hown (mvT hZ (hw _ (List.mem_of_getElem? (i := 1) rfl))) (mvT hZ (hw _ (List.mem_of_getElem? (i := 2) rfl))) (mvT hZ (hw _ (List.mem_of_getElem? (i := 3) rfl))) (mvT hZ (hw _ (List.mem_of_getElem? (i := 4) rfl))) (by decide) (backOf (W := 0) (rm1_l l Z a0 hw [] a (1 : Int32) k n vs p2 h0 n0 Z0 V0 hi (by decide) (hv1 hi)) hZ (hw _ (List.mem_of_getElem? (i := 4) rfl)) (hw _ (List.mem_of_getElem? (i := 3) rfl)) (by decide) (by decide)) (g := (mkF m 148 #[.val (.int p1), .val (.int p2), .val (.int p3), .val (.int p4), .val (.int p5), .val (.int p6), .val (.int n), .val (.int (1 : Int32)), .val (.ref a), .val (.int p2)] [(.int (1 : Int32)), (.ref a)])) rfl (by rw [hml]; rfl) (argsL := [(.ref a), (.int (1 : Int32))]) (rest := []) (lenOf pd_0 rfl) rfl (by show 2 * 0 + _ ≤ _; exact Nat.le_of_eq rfl) (hb hby at_148) (fun _ _ => ⟨rfl, e0, (by decide : 1 + 0 ≤ _), (by decide : 5 + 0 ≤ _)⟩)
      dsimp only [Pt.U, Pt.locs, Pt.cells, Pt.slots] at X1 l1 y1 z1 st1 hQ1
      subst l1 y1 z1
      obtain ⟨rfl, Nq1, e1⟩ := hQ1
      have N1 := Fr.app N0 Nq1
      refine ⟨T1, _, p2, X1, e1, N1, fun target kt => ?_⟩
      show Steps p.tables e below (T0.setTop (mkF m 80 #[.val (.int p1), .val (.int p2), .val (.int p3), .val (.int p4), .val (.int p5), .val (.int p6), .val (.int n), .val (.int (1 : Int32)), .val (.ref a), .unset] [])) _
      refine XS.iload X0.here hx rfl (hb hby at_80) rfl ?_
      show Steps p.tables e below (T0.setTop (mkF m 82 #[.val (.int p1), .val (.int p2), .val (.int p3), .val (.int p4), .val (.int p5), .val (.int p6), .val (.int n), .val (.int (1 : Int32)), .val (.ref a), .unset] [(.int (1 : Int32))])) _
      refine XS.iload X0.here hx rfl (hb hby at_82) rfl ?_
      show Steps p.tables e below (T0.setTop (mkF m 84 #[.val (.int p1), .val (.int p2), .val (.int p3), .val (.int p4), .val (.int p5), .val (.int p6), .val (.int n), .val (.int (1 : Int32)), .val (.ref a), .unset] [(.int n), (.int (1 : Int32))])) _
      refine XS.icmpYes X0.here hx rfl (pc0 := 84) (pc' := 93) rfl (hb hby at_84) rfl (tlt hi).1 (by decide) (by decide) ?_
      show Steps p.tables e below (T0.setTop (mkF m 93 #[.val (.int p1), .val (.int p2), .val (.int p3), .val (.int p4), .val (.int p5), .val (.int p6), .val (.int n), .val (.int (1 : Int32)), .val (.ref a), .unset] [])) _
      refine XS.iload X0.here hx rfl (hb hby at_93) rfl ?_
      show Steps p.tables e below (T0.setTop (mkF m 95 #[.val (.int p1), .val (.int p2), .val (.int p3), .val (.int p4), .val (.int p5), .val (.int p6), .val (.int n), .val (.int (1 : Int32)), .val (.ref a), .unset] [(.int (1 : Int32))])) _
      refine XS.ifYes X0.here hx rfl (pc0 := 95) (pc' := 104) rfl (hb hby at_95) rfl ((if0 _ _).trans (feq (by decide : ¬ ((1 : Int32) = (0 : Int32)))).2) (by decide) (by decide) ?_
      show Steps p.tables e below (T0.setTop (mkF m 104 #[.val (.int p1), .val (.int p2), .val (.int p3), .val (.int p4), .val (.int p5), .val (.int p6), .val (.int n), .val (.int (1 : Int32)), .val (.ref a), .unset] [])) _
      refine XS.iload X0.here hx rfl (hb hby at_104) rfl ?_
      show Steps p.tables e below (T0.setTop (mkF m 106 #[.val (.int p1), .val (.int p2), .val (.int p3), .val (.int p4), .val (.int p5), .val (.int p6), .val (.int n), .val (.int (1 : Int32)), .val (.ref a), .unset] [(.int (1 : Int32))])) _
      refine XS.iconst X0.here hx rfl (hb hby at_106) ?_
      show Steps p.tables e below (T0.setTop (mkF m 107 #[.val (.int p1), .val (.int p2), .val (.int p3), .val (.int p4), .val (.int p5), .val (.int p6), .val (.int n), .val (.int (1 : Int32)), .val (.ref a), .unset] [(.int (1 : Int32)), (.int (1 : Int32))])) _
      refine XS.icmpNo X0.here hx rfl (hb hby at_107) rfl (teq (by decide : (1 : Int32) = (1 : Int32))).2 ?_
      show Steps p.tables e below (T0.setTop (mkF m 110 #[.val (.int p1), .val (.int p2), .val (.int p3), .val (.int p4), .val (.int p5), .val (.int p6), .val (.int n), .val (.int (1 : Int32)), .val (.ref a), .unset] [])) _
      refine XS.iloadN X0.here hx rfl (hb hby at_110) rfl ?_
      show Steps p.tables e below (T0.setTop (mkF m 111 #[.val (.int p1), .val (.int p2), .val (.int p3), .val (.int p4), .val (.int p5), .val (.int p6), .val (.int n), .val (.int (1 : Int32)), .val (.ref a), .unset] [(.int p2)])) _
      refine XS.istore X0.here hx rfl (hb hby at_111) rfl (l' := #[.val (.int p1), .val (.int p2), .val (.int p3), .val (.int p4), .val (.int p5), .val (.int p6), .val (.int n), .val (.int (1 : Int32)), .val (.ref a), .val (.int p2)]) rfl ?_
      show Steps p.tables e below (T0.setTop (mkF m 113 #[.val (.int p1), .val (.int p2), .val (.int p3), .val (.int p4), .val (.int p5), .val (.int p6), .val (.int n), .val (.int (1 : Int32)), .val (.ref a), .val (.int p2)] [])) _
      refine XS.goto X0.here hx rfl (pc0 := 113) (pc' := 144) rfl (hb hby at_113) (by decide) (by decide) ?_
      show Steps p.tables e below (T0.setTop (mkF m 144 #[.val (.int p1), .val (.int p2), .val (.int p3), .val (.int p4), .val (.int p5), .val (.int p6), .val (.int n), .val (.int (1 : Int32)), .val (.ref a), .val (.int p2)] [])) _
      refine XS.aload X0.here hx rfl (hb hby at_144) rfl rfl ?_
      show Steps p.tables e below (T0.setTop (mkF m 146 #[.val (.int p1), .val (.int p2), .val (.int p3), .val (.int p4), .val (.int p5), .val (.int p6), .val (.int n), .val (.int (1 : Int32)), .val (.ref a), .val (.int p2)] [(.ref a)])) _
      refine XS.iload X0.here hx rfl (hb hby at_146) rfl ?_
      show Steps p.tables e below (T0.setTop (mkF m 148 #[.val (.int p1), .val (.int p2), .val (.int p3), .val (.int p4), .val (.int p5), .val (.int p6), .val (.int n), .val (.int (1 : Int32)), .val (.ref a), .val (.int p2)] [(.int (1 : Int32)), (.ref a)])) _
      refine st1 _ ?_
      show Steps p.tables e below (T1.setTop (mkF m 151 #[.val (.int p1), .val (.int p2), .val (.int p3), .val (.int p4), .val (.int p5), .val (.int p6), .val (.int n), .val (.int (1 : Int32)), .val (.ref a), .val (.int p2)] [(.int p2)])) _
      refine XS.iload X1.here hx rfl (hb hby at_151) rfl ?_
      show Steps p.tables e below (T1.setTop (mkF m 153 #[.val (.int p1), .val (.int p2), .val (.int p3), .val (.int p4), .val (.int p5), .val (.int p6), .val (.int n), .val (.int (1 : Int32)), .val (.ref a), .val (.int p2)] [(.int p2), (.int p2)])) _
      refine XS.icmpNo X1.here hx rfl (hb hby at_153) rfl (teq (rfl : p2 = p2)).2 ?_
      show Steps p.tables e below (T1.setTop (mkF m 156 #[.val (.int p1), .val (.int p2), .val (.int p3), .val (.int p4), .val (.int p5), .val (.int p6), .val (.int n), .val (.int (1 : Int32)), .val (.ref a), .val (.int p2)] [])) _
      refine XS.iconst X1.here hx rfl (hb hby at_156) ?_
      show Steps p.tables e below (T1.setTop (mkF m 157 #[.val (.int p1), .val (.int p2), .val (.int p3), .val (.int p4), .val (.int p5), .val (.int p6), .val (.int n), .val (.int (1 : Int32)), .val (.ref a), .val (.int p2)] [(.int (1 : Int32))])) _
      refine XS.goto X1.here hx rfl (pc0 := 157) (pc' := 161) rfl (hb hby at_157) (by decide) (by decide) ?_
      exact kt
    · obtain ⟨_, _, ⟨T1, L1, k1, n1⟩, -, X1, ⟨Lc1, hQ1, l1, y1, z1⟩, st1⟩ := Jvm.LawKit.callS X0 hx (y := (⟨"com/example/leadout/leadout/store/ShapeIndex", "indexed", "([II)I"⟩ : MethodName)) hown (mvT hZ (hw _ (List.mem_of_getElem? (i := 1) rfl))) (mvT hZ (hw _ (List.mem_of_getElem? (i := 2) rfl))) (mvT hZ (hw _ (List.mem_of_getElem? (i := 3) rfl))) (mvT hZ (hw _ (List.mem_of_getElem? (i := 4) rfl))) (by decide) (backOf (W := 0) (rm1_l l Z a0 hw [] a (2 : Int32) k n vs p3 h0 n0 Z0 V0 hi (by decide) (hv2 hi)) hZ (hw _ (List.mem_of_getElem? (i := 4) rfl)) (hw _ (List.mem_of_getElem? (i := 3) rfl)) (by decide) (by decide)) (g := (mkF m 148 #[.val (.int p1), .val (.int p2), .val (.int p3), .val (.int p4), .val (.int p5), .val (.int p6), .val (.int n), .val (.int (2 : Int32)), .val (.ref a), .val (.int p3)] [(.int (2 : Int32)), (.ref a)])) rfl (by rw [hml]; rfl) (argsL := [(.ref a), (.int (2 : Int32))]) (rest := []) (lenOf pd_0 rfl) rfl (by show 2 * 0 + _ ≤ _; exact Nat.le_of_eq rfl) (hb hby at_148) (fun _ _ => ⟨rfl, e0, (by decide : 1 + 0 ≤ _), (by decide : 5 + 0 ≤ _)⟩)
      dsimp only [Pt.U, Pt.locs, Pt.cells, Pt.slots] at X1 l1 y1 z1 st1 hQ1
      subst l1 y1 z1
      obtain ⟨rfl, Nq1, e1⟩ := hQ1
      have N1 := Fr.app N0 Nq1
      refine ⟨T1, _, p3, X1, e1, N1, fun target kt => ?_⟩
      show Steps p.tables e below (T0.setTop (mkF m 80 #[.val (.int p1), .val (.int p2), .val (.int p3), .val (.int p4), .val (.int p5), .val (.int p6), .val (.int n), .val (.int (2 : Int32)), .val (.ref a), .unset] [])) _
      refine XS.iload X0.here hx rfl (hb hby at_80) rfl ?_
      show Steps p.tables e below (T0.setTop (mkF m 82 #[.val (.int p1), .val (.int p2), .val (.int p3), .val (.int p4), .val (.int p5), .val (.int p6), .val (.int n), .val (.int (2 : Int32)), .val (.ref a), .unset] [(.int (2 : Int32))])) _
      refine XS.iload X0.here hx rfl (hb hby at_82) rfl ?_
      show Steps p.tables e below (T0.setTop (mkF m 84 #[.val (.int p1), .val (.int p2), .val (.int p3), .val (.int p4), .val (.int p5), .val (.int p6), .val (.int n), .val (.int (2 : Int32)), .val (.ref a), .unset] [(.int n), (.int (2 : Int32))])) _
      refine XS.icmpYes X0.here hx rfl (pc0 := 84) (pc' := 93) rfl (hb hby at_84) rfl (tlt hi).1 (by decide) (by decide) ?_
      show Steps p.tables e below (T0.setTop (mkF m 93 #[.val (.int p1), .val (.int p2), .val (.int p3), .val (.int p4), .val (.int p5), .val (.int p6), .val (.int n), .val (.int (2 : Int32)), .val (.ref a), .unset] [])) _
      refine XS.iload X0.here hx rfl (hb hby at_93) rfl ?_
      show Steps p.tables e below (T0.setTop (mkF m 95 #[.val (.int p1), .val (.int p2), .val (.int p3), .val (.int p4), .val (.int p5), .val (.int p6), .val (.int n), .val (.int (2 : Int32)), .val (.ref a), .unset] [(.int (2 : Int32))])) _
      refine XS.ifYes X0.here hx rfl (pc0 := 95) (pc' := 104) rfl (hb hby at_95) rfl ((if0 _ _).trans (feq (by decide : ¬ ((2 : Int32) = (0 : Int32)))).2) (by decide) (by decide) ?_
      show Steps p.tables e below (T0.setTop (mkF m 104 #[.val (.int p1), .val (.int p2), .val (.int p3), .val (.int p4), .val (.int p5), .val (.int p6), .val (.int n), .val (.int (2 : Int32)), .val (.ref a), .unset] [])) _
      refine XS.iload X0.here hx rfl (hb hby at_104) rfl ?_
      show Steps p.tables e below (T0.setTop (mkF m 106 #[.val (.int p1), .val (.int p2), .val (.int p3), .val (.int p4), .val (.int p5), .val (.int p6), .val (.int n), .val (.int (2 : Int32)), .val (.ref a), .unset] [(.int (2 : Int32))])) _
      refine XS.iconst X0.here hx rfl (hb hby at_106) ?_
      show Steps p.tables e below (T0.setTop (mkF m 107 #[.val (.int p1), .val (.int p2), .val (.int p3), .val (.int p4), .val (.int p5), .val (.int p6), .val (.int n), .val (.int (2 : Int32)), .val (.ref a), .unset] [(.int (1 : Int32)), (.int (2 : Int32))])) _
      refine XS.icmpYes X0.here hx rfl (pc0 := 107) (pc' := 116) rfl (hb hby at_107) rfl (feq (by decide : ¬ ((2 : Int32) = (1 : Int32)))).2 (by decide) (by decide) ?_
      show Steps p.tables e below (T0.setTop (mkF m 116 #[.val (.int p1), .val (.int p2), .val (.int p3), .val (.int p4), .val (.int p5), .val (.int p6), .val (.int n), .val (.int (2 : Int32)), .val (.ref a), .unset] [])) _
      refine XS.iload X0.here hx rfl (hb hby at_116) rfl ?_
      show Steps p.tables e below (T0.setTop (mkF m 118 #[.val (.int p1), .val (.int p2), .val (.int p3), .val (.int p4), .val (.int p5), .val (.int p6), .val (.int n), .val (.int (2 : Int32)), .val (.ref a), .unset] [(.int (2 : Int32))])) _
      refine XS.iconst X0.here hx rfl (hb hby at_118) ?_
      show Steps p.tables e below (T0.setTop (mkF m 119 #[.val (.int p1), .val (.int p2), .val (.int p3), .val (.int p4), .val (.int p5), .val (.int p6), .val (.int n), .val (.int (2 : Int32)), .val (.ref a), .unset] [(.int (2 : Int32)), (.int (2 : Int32))])) _
      refine XS.icmpNo X0.here hx rfl (hb hby at_119) rfl (teq (by decide : (2 : Int32) = (2 : Int32))).2 ?_
      show Steps p.tables e below (T0.setTop (mkF m 122 #[.val (.int p1), .val (.int p2), .val (.int p3), .val (.int p4), .val (.int p5), .val (.int p6), .val (.int n), .val (.int (2 : Int32)), .val (.ref a), .unset] [])) _
      refine XS.iloadN X0.here hx rfl (hb hby at_122) rfl ?_
      show Steps p.tables e below (T0.setTop (mkF m 123 #[.val (.int p1), .val (.int p2), .val (.int p3), .val (.int p4), .val (.int p5), .val (.int p6), .val (.int n), .val (.int (2 : Int32)), .val (.ref a), .unset] [(.int p3)])) _
      refine XS.istore X0.here hx rfl (hb hby at_123) rfl (l' := #[.val (.int p1), .val (.int p2), .val (.int p3), .val (.int p4), .val (.int p5), .val (.int p6), .val (.int n), .val (.int (2 : Int32)), .val (.ref a), .val (.int p3)]) rfl ?_
      show Steps p.tables e below (T0.setTop (mkF m 125 #[.val (.int p1), .val (.int p2), .val (.int p3), .val (.int p4), .val (.int p5), .val (.int p6), .val (.int n), .val (.int (2 : Int32)), .val (.ref a), .val (.int p3)] [])) _
      refine XS.goto X0.here hx rfl (pc0 := 125) (pc' := 144) rfl (hb hby at_125) (by decide) (by decide) ?_
      show Steps p.tables e below (T0.setTop (mkF m 144 #[.val (.int p1), .val (.int p2), .val (.int p3), .val (.int p4), .val (.int p5), .val (.int p6), .val (.int n), .val (.int (2 : Int32)), .val (.ref a), .val (.int p3)] [])) _
      refine XS.aload X0.here hx rfl (hb hby at_144) rfl rfl ?_
      show Steps p.tables e below (T0.setTop (mkF m 146 #[.val (.int p1), .val (.int p2), .val (.int p3), .val (.int p4), .val (.int p5), .val (.int p6), .val (.int n), .val (.int (2 : Int32)), .val (.ref a), .val (.int p3)] [(.ref a)])) _
      refine XS.iload X0.here hx rfl (hb hby at_146) rfl ?_
      show Steps p.tables e below (T0.setTop (mkF m 148 #[.val (.int p1), .val (.int p2), .val (.int p3), .val (.int p4), .val (.int p5), .val (.int p6), .val (.int n), .val (.int (2 : Int32)), .val (.ref a), .val (.int p3)] [(.int (2 : Int32)), (.ref a)])) _
      refine st1 _ ?_
      show Steps p.tables e below (T1.setTop (mkF m 151 #[.val (.int p1), .val (.int p2), .val (.int p3), .val (.int p4), .val (.int p5), .val (.int p6), .val (.int n), .val (.int (2 : Int32)), .val (.ref a), .val (.int p3)] [(.int p3)])) _
      refine XS.iload X1.here hx rfl (hb hby at_151) rfl ?_
      show Steps p.tables e below (T1.setTop (mkF m 153 #[.val (.int p1), .val (.int p2), .val (.int p3), .val (.int p4), .val (.int p5), .val (.int p6), .val (.int n), .val (.int (2 : Int32)), .val (.ref a), .val (.int p3)] [(.int p3), (.int p3)])) _
      refine XS.icmpNo X1.here hx rfl (hb hby at_153) rfl (teq (rfl : p3 = p3)).2 ?_
      show Steps p.tables e below (T1.setTop (mkF m 156 #[.val (.int p1), .val (.int p2), .val (.int p3), .val (.int p4), .val (.int p5), .val (.int p6), .val (.int n), .val (.int (2 : Int32)), .val (.ref a), .val (.int p3)] [])) _
      refine XS.iconst X1.here hx rfl (hb hby at_156) ?_
      show Steps p.tables e below (T1.setTop (mkF m 157 #[.val (.int p1), .val (.int p2), .val (.int p3), .val (.int p4), .val (.int p5), .val (.int p6), .val (.int n), .val (.int (2 : Int32)), .val (.ref a), .val (.int p3)] [(.int (1 : Int32))])) _
      refine XS.goto X1.here hx rfl (pc0 := 157) (pc' := 161) rfl (hb hby at_157) (by decide) (by decide) ?_
      exact kt
    · obtain ⟨_, _, ⟨T1, L1, k1, n1⟩, -, X1, ⟨Lc1, hQ1, l1, y1, z1⟩, st1⟩ := Jvm.LawKit.callS X0 hx (y := (⟨"com/example/leadout/leadout/store/ShapeIndex", "indexed", "([II)I"⟩ : MethodName)) hown (mvT hZ (hw _ (List.mem_of_getElem? (i := 1) rfl))) (mvT hZ (hw _ (List.mem_of_getElem? (i := 2) rfl))) (mvT hZ (hw _ (List.mem_of_getElem? (i := 3) rfl))) (mvT hZ (hw _ (List.mem_of_getElem? (i := 4) rfl))) (by decide) (backOf (W := 0) (rm1_l l Z a0 hw [] a (3 : Int32) k n vs p4 h0 n0 Z0 V0 hi (by decide) (hv3 hi)) hZ (hw _ (List.mem_of_getElem? (i := 4) rfl)) (hw _ (List.mem_of_getElem? (i := 3) rfl)) (by decide) (by decide)) (g := (mkF m 148 #[.val (.int p1), .val (.int p2), .val (.int p3), .val (.int p4), .val (.int p5), .val (.int p6), .val (.int n), .val (.int (3 : Int32)), .val (.ref a), .val (.int p4)] [(.int (3 : Int32)), (.ref a)])) rfl (by rw [hml]; rfl) (argsL := [(.ref a), (.int (3 : Int32))]) (rest := []) (lenOf pd_0 rfl) rfl (by show 2 * 0 + _ ≤ _; exact Nat.le_of_eq rfl) (hb hby at_148) (fun _ _ => ⟨rfl, e0, (by decide : 1 + 0 ≤ _), (by decide : 5 + 0 ≤ _)⟩)
      dsimp only [Pt.U, Pt.locs, Pt.cells, Pt.slots] at X1 l1 y1 z1 st1 hQ1
      subst l1 y1 z1
      obtain ⟨rfl, Nq1, e1⟩ := hQ1
      have N1 := Fr.app N0 Nq1
      refine ⟨T1, _, p4, X1, e1, N1, fun target kt => ?_⟩
      show Steps p.tables e below (T0.setTop (mkF m 80 #[.val (.int p1), .val (.int p2), .val (.int p3), .val (.int p4), .val (.int p5), .val (.int p6), .val (.int n), .val (.int (3 : Int32)), .val (.ref a), .unset] [])) _
      refine XS.iload X0.here hx rfl (hb hby at_80) rfl ?_
      show Steps p.tables e below (T0.setTop (mkF m 82 #[.val (.int p1), .val (.int p2), .val (.int p3), .val (.int p4), .val (.int p5), .val (.int p6), .val (.int n), .val (.int (3 : Int32)), .val (.ref a), .unset] [(.int (3 : Int32))])) _
      refine XS.iload X0.here hx rfl (hb hby at_82) rfl ?_
      show Steps p.tables e below (T0.setTop (mkF m 84 #[.val (.int p1), .val (.int p2), .val (.int p3), .val (.int p4), .val (.int p5), .val (.int p6), .val (.int n), .val (.int (3 : Int32)), .val (.ref a), .unset] [(.int n), (.int (3 : Int32))])) _
      refine XS.icmpYes X0.here hx rfl (pc0 := 84) (pc' := 93) rfl (hb hby at_84) rfl (tlt hi).1 (by decide) (by decide) ?_
      show Steps p.tables e below (T0.setTop (mkF m 93 #[.val (.int p1), .val (.int p2), .val (.int p3), .val (.int p4), .val (.int p5), .val (.int p6), .val (.int n), .val (.int (3 : Int32)), .val (.ref a), .unset] [])) _
      refine XS.iload X0.here hx rfl (hb hby at_93) rfl ?_
      show Steps p.tables e below (T0.setTop (mkF m 95 #[.val (.int p1), .val (.int p2), .val (.int p3), .val (.int p4), .val (.int p5), .val (.int p6), .val (.int n), .val (.int (3 : Int32)), .val (.ref a), .unset] [(.int (3 : Int32))])) _
      refine XS.ifYes X0.here hx rfl (pc0 := 95) (pc' := 104) rfl (hb hby at_95) rfl ((if0 _ _).trans (feq (by decide : ¬ ((3 : Int32) = (0 : Int32)))).2) (by decide) (by decide) ?_
      show Steps p.tables e below (T0.setTop (mkF m 104 #[.val (.int p1), .val (.int p2), .val (.int p3), .val (.int p4), .val (.int p5), .val (.int p6), .val (.int n), .val (.int (3 : Int32)), .val (.ref a), .unset] [])) _
      refine XS.iload X0.here hx rfl (hb hby at_104) rfl ?_
      show Steps p.tables e below (T0.setTop (mkF m 106 #[.val (.int p1), .val (.int p2), .val (.int p3), .val (.int p4), .val (.int p5), .val (.int p6), .val (.int n), .val (.int (3 : Int32)), .val (.ref a), .unset] [(.int (3 : Int32))])) _
      refine XS.iconst X0.here hx rfl (hb hby at_106) ?_
      show Steps p.tables e below (T0.setTop (mkF m 107 #[.val (.int p1), .val (.int p2), .val (.int p3), .val (.int p4), .val (.int p5), .val (.int p6), .val (.int n), .val (.int (3 : Int32)), .val (.ref a), .unset] [(.int (1 : Int32)), (.int (3 : Int32))])) _
      refine XS.icmpYes X0.here hx rfl (pc0 := 107) (pc' := 116) rfl (hb hby at_107) rfl (feq (by decide : ¬ ((3 : Int32) = (1 : Int32)))).2 (by decide) (by decide) ?_
      show Steps p.tables e below (T0.setTop (mkF m 116 #[.val (.int p1), .val (.int p2), .val (.int p3), .val (.int p4), .val (.int p5), .val (.int p6), .val (.int n), .val (.int (3 : Int32)), .val (.ref a), .unset] [])) _
      refine XS.iload X0.here hx rfl (hb hby at_116) rfl ?_
      show Steps p.tables e below (T0.setTop (mkF m 118 #[.val (.int p1), .val (.int p2), .val (.int p3), .val (.int p4), .val (.int p5), .val (.int p6), .val (.int n), .val (.int (3 : Int32)), .val (.ref a), .unset] [(.int (3 : Int32))])) _
      refine XS.iconst X0.here hx rfl (hb hby at_118) ?_
      show Steps p.tables e below (T0.setTop (mkF m 119 #[.val (.int p1), .val (.int p2), .val (.int p3), .val (.int p4), .val (.int p5), .val (.int p6), .val (.int n), .val (.int (3 : Int32)), .val (.ref a), .unset] [(.int (2 : Int32)), (.int (3 : Int32))])) _
      refine XS.icmpYes X0.here hx rfl (pc0 := 119) (pc' := 128) rfl (hb hby at_119) rfl (feq (by decide : ¬ ((3 : Int32) = (2 : Int32)))).2 (by decide) (by decide) ?_
      show Steps p.tables e below (T0.setTop (mkF m 128 #[.val (.int p1), .val (.int p2), .val (.int p3), .val (.int p4), .val (.int p5), .val (.int p6), .val (.int n), .val (.int (3 : Int32)), .val (.ref a), .unset] [])) _
      refine XS.iload X0.here hx rfl (hb hby at_128) rfl ?_
      show Steps p.tables e below (T0.setTop (mkF m 130 #[.val (.int p1), .val (.int p2), .val (.int p3), .val (.int p4), .val (.int p5), .val (.int p6), .val (.int n), .val (.int (3 : Int32)), .val (.ref a), .unset] [(.int (3 : Int32))])) _
      refine XS.iconst X0.here hx rfl (hb hby at_130) ?_
      show Steps p.tables e below (T0.setTop (mkF m 131 #[.val (.int p1), .val (.int p2), .val (.int p3), .val (.int p4), .val (.int p5), .val (.int p6), .val (.int n), .val (.int (3 : Int32)), .val (.ref a), .unset] [(.int (3 : Int32)), (.int (3 : Int32))])) _
      refine XS.icmpNo X0.here hx rfl (hb hby at_131) rfl (teq (by decide : (3 : Int32) = (3 : Int32))).2 ?_
      show Steps p.tables e below (T0.setTop (mkF m 134 #[.val (.int p1), .val (.int p2), .val (.int p3), .val (.int p4), .val (.int p5), .val (.int p6), .val (.int n), .val (.int (3 : Int32)), .val (.ref a), .unset] [])) _
      refine XS.iloadN X0.here hx rfl (hb hby at_134) rfl ?_
      show Steps p.tables e below (T0.setTop (mkF m 135 #[.val (.int p1), .val (.int p2), .val (.int p3), .val (.int p4), .val (.int p5), .val (.int p6), .val (.int n), .val (.int (3 : Int32)), .val (.ref a), .unset] [(.int p4)])) _
      refine XS.istore X0.here hx rfl (hb hby at_135) rfl (l' := #[.val (.int p1), .val (.int p2), .val (.int p3), .val (.int p4), .val (.int p5), .val (.int p6), .val (.int n), .val (.int (3 : Int32)), .val (.ref a), .val (.int p4)]) rfl ?_
      show Steps p.tables e below (T0.setTop (mkF m 137 #[.val (.int p1), .val (.int p2), .val (.int p3), .val (.int p4), .val (.int p5), .val (.int p6), .val (.int n), .val (.int (3 : Int32)), .val (.ref a), .val (.int p4)] [])) _
      refine XS.goto X0.here hx rfl (pc0 := 137) (pc' := 144) rfl (hb hby at_137) (by decide) (by decide) ?_
      show Steps p.tables e below (T0.setTop (mkF m 144 #[.val (.int p1), .val (.int p2), .val (.int p3), .val (.int p4), .val (.int p5), .val (.int p6), .val (.int n), .val (.int (3 : Int32)), .val (.ref a), .val (.int p4)] [])) _
      refine XS.aload X0.here hx rfl (hb hby at_144) rfl rfl ?_
      show Steps p.tables e below (T0.setTop (mkF m 146 #[.val (.int p1), .val (.int p2), .val (.int p3), .val (.int p4), .val (.int p5), .val (.int p6), .val (.int n), .val (.int (3 : Int32)), .val (.ref a), .val (.int p4)] [(.ref a)])) _
      refine XS.iload X0.here hx rfl (hb hby at_146) rfl ?_
      show Steps p.tables e below (T0.setTop (mkF m 148 #[.val (.int p1), .val (.int p2), .val (.int p3), .val (.int p4), .val (.int p5), .val (.int p6), .val (.int n), .val (.int (3 : Int32)), .val (.ref a), .val (.int p4)] [(.int (3 : Int32)), (.ref a)])) _
      refine st1 _ ?_
      show Steps p.tables e below (T1.setTop (mkF m 151 #[.val (.int p1), .val (.int p2), .val (.int p3), .val (.int p4), .val (.int p5), .val (.int p6), .val (.int n), .val (.int (3 : Int32)), .val (.ref a), .val (.int p4)] [(.int p4)])) _
      refine XS.iload X1.here hx rfl (hb hby at_151) rfl ?_
      show Steps p.tables e below (T1.setTop (mkF m 153 #[.val (.int p1), .val (.int p2), .val (.int p3), .val (.int p4), .val (.int p5), .val (.int p6), .val (.int n), .val (.int (3 : Int32)), .val (.ref a), .val (.int p4)] [(.int p4), (.int p4)])) _
      refine XS.icmpNo X1.here hx rfl (hb hby at_153) rfl (teq (rfl : p4 = p4)).2 ?_
      show Steps p.tables e below (T1.setTop (mkF m 156 #[.val (.int p1), .val (.int p2), .val (.int p3), .val (.int p4), .val (.int p5), .val (.int p6), .val (.int n), .val (.int (3 : Int32)), .val (.ref a), .val (.int p4)] [])) _
      refine XS.iconst X1.here hx rfl (hb hby at_156) ?_
      show Steps p.tables e below (T1.setTop (mkF m 157 #[.val (.int p1), .val (.int p2), .val (.int p3), .val (.int p4), .val (.int p5), .val (.int p6), .val (.int n), .val (.int (3 : Int32)), .val (.ref a), .val (.int p4)] [(.int (1 : Int32))])) _
      refine XS.goto X1.here hx rfl (pc0 := 157) (pc' := 161) rfl (hb hby at_157) (by decide) (by decide) ?_
      exact kt
    · obtain ⟨_, _, ⟨T1, L1, k1, n1⟩, -, X1, ⟨Lc1, hQ1, l1, y1, z1⟩, st1⟩ := Jvm.LawKit.callS X0 hx (y := (⟨"com/example/leadout/leadout/store/ShapeIndex", "indexed", "([II)I"⟩ : MethodName)) hown (mvT hZ (hw _ (List.mem_of_getElem? (i := 1) rfl))) (mvT hZ (hw _ (List.mem_of_getElem? (i := 2) rfl))) (mvT hZ (hw _ (List.mem_of_getElem? (i := 3) rfl))) (mvT hZ (hw _ (List.mem_of_getElem? (i := 4) rfl))) (by decide) (backOf (W := 0) (rm1_l l Z a0 hw [] a (4 : Int32) k n vs p5 h0 n0 Z0 V0 hi (by decide) (hv4 hi)) hZ (hw _ (List.mem_of_getElem? (i := 4) rfl)) (hw _ (List.mem_of_getElem? (i := 3) rfl)) (by decide) (by decide)) (g := (mkF m 148 #[.val (.int p1), .val (.int p2), .val (.int p3), .val (.int p4), .val (.int p5), .val (.int p6), .val (.int n), .val (.int (4 : Int32)), .val (.ref a), .val (.int p5)] [(.int (4 : Int32)), (.ref a)])) rfl (by rw [hml]; rfl) (argsL := [(.ref a), (.int (4 : Int32))]) (rest := []) (lenOf pd_0 rfl) rfl (by show 2 * 0 + _ ≤ _; exact Nat.le_of_eq rfl) (hb hby at_148) (fun _ _ => ⟨rfl, e0, (by decide : 1 + 0 ≤ _), (by decide : 5 + 0 ≤ _)⟩)
      dsimp only [Pt.U, Pt.locs, Pt.cells, Pt.slots] at X1 l1 y1 z1 st1 hQ1
      subst l1 y1 z1
      obtain ⟨rfl, Nq1, e1⟩ := hQ1
      have N1 := Fr.app N0 Nq1
      refine ⟨T1, _, p5, X1, e1, N1, fun target kt => ?_⟩
      show Steps p.tables e below (T0.setTop (mkF m 80 #[.val (.int p1), .val (.int p2), .val (.int p3), .val (.int p4), .val (.int p5), .val (.int p6), .val (.int n), .val (.int (4 : Int32)), .val (.ref a), .unset] [])) _
      refine XS.iload X0.here hx rfl (hb hby at_80) rfl ?_
      show Steps p.tables e below (T0.setTop (mkF m 82 #[.val (.int p1), .val (.int p2), .val (.int p3), .val (.int p4), .val (.int p5), .val (.int p6), .val (.int n), .val (.int (4 : Int32)), .val (.ref a), .unset] [(.int (4 : Int32))])) _
      refine XS.iload X0.here hx rfl (hb hby at_82) rfl ?_
      show Steps p.tables e below (T0.setTop (mkF m 84 #[.val (.int p1), .val (.int p2), .val (.int p3), .val (.int p4), .val (.int p5), .val (.int p6), .val (.int n), .val (.int (4 : Int32)), .val (.ref a), .unset] [(.int n), (.int (4 : Int32))])) _
      refine XS.icmpYes X0.here hx rfl (pc0 := 84) (pc' := 93) rfl (hb hby at_84) rfl (tlt hi).1 (by decide) (by decide) ?_
      show Steps p.tables e below (T0.setTop (mkF m 93 #[.val (.int p1), .val (.int p2), .val (.int p3), .val (.int p4), .val (.int p5), .val (.int p6), .val (.int n), .val (.int (4 : Int32)), .val (.ref a), .unset] [])) _
      refine XS.iload X0.here hx rfl (hb hby at_93) rfl ?_
      show Steps p.tables e below (T0.setTop (mkF m 95 #[.val (.int p1), .val (.int p2), .val (.int p3), .val (.int p4), .val (.int p5), .val (.int p6), .val (.int n), .val (.int (4 : Int32)), .val (.ref a), .unset] [(.int (4 : Int32))])) _
      refine XS.ifYes X0.here hx rfl (pc0 := 95) (pc' := 104) rfl (hb hby at_95) rfl ((if0 _ _).trans (feq (by decide : ¬ ((4 : Int32) = (0 : Int32)))).2) (by decide) (by decide) ?_
      show Steps p.tables e below (T0.setTop (mkF m 104 #[.val (.int p1), .val (.int p2), .val (.int p3), .val (.int p4), .val (.int p5), .val (.int p6), .val (.int n), .val (.int (4 : Int32)), .val (.ref a), .unset] [])) _
      refine XS.iload X0.here hx rfl (hb hby at_104) rfl ?_
      show Steps p.tables e below (T0.setTop (mkF m 106 #[.val (.int p1), .val (.int p2), .val (.int p3), .val (.int p4), .val (.int p5), .val (.int p6), .val (.int n), .val (.int (4 : Int32)), .val (.ref a), .unset] [(.int (4 : Int32))])) _
      refine XS.iconst X0.here hx rfl (hb hby at_106) ?_
      show Steps p.tables e below (T0.setTop (mkF m 107 #[.val (.int p1), .val (.int p2), .val (.int p3), .val (.int p4), .val (.int p5), .val (.int p6), .val (.int n), .val (.int (4 : Int32)), .val (.ref a), .unset] [(.int (1 : Int32)), (.int (4 : Int32))])) _
      refine XS.icmpYes X0.here hx rfl (pc0 := 107) (pc' := 116) rfl (hb hby at_107) rfl (feq (by decide : ¬ ((4 : Int32) = (1 : Int32)))).2 (by decide) (by decide) ?_
      show Steps p.tables e below (T0.setTop (mkF m 116 #[.val (.int p1), .val (.int p2), .val (.int p3), .val (.int p4), .val (.int p5), .val (.int p6), .val (.int n), .val (.int (4 : Int32)), .val (.ref a), .unset] [])) _
      refine XS.iload X0.here hx rfl (hb hby at_116) rfl ?_
      show Steps p.tables e below (T0.setTop (mkF m 118 #[.val (.int p1), .val (.int p2), .val (.int p3), .val (.int p4), .val (.int p5), .val (.int p6), .val (.int n), .val (.int (4 : Int32)), .val (.ref a), .unset] [(.int (4 : Int32))])) _
      refine XS.iconst X0.here hx rfl (hb hby at_118) ?_
      show Steps p.tables e below (T0.setTop (mkF m 119 #[.val (.int p1), .val (.int p2), .val (.int p3), .val (.int p4), .val (.int p5), .val (.int p6), .val (.int n), .val (.int (4 : Int32)), .val (.ref a), .unset] [(.int (2 : Int32)), (.int (4 : Int32))])) _
      refine XS.icmpYes X0.here hx rfl (pc0 := 119) (pc' := 128) rfl (hb hby at_119) rfl (feq (by decide : ¬ ((4 : Int32) = (2 : Int32)))).2 (by decide) (by decide) ?_
      show Steps p.tables e below (T0.setTop (mkF m 128 #[.val (.int p1), .val (.int p2), .val (.int p3), .val (.int p4), .val (.int p5), .val (.int p6), .val (.int n), .val (.int (4 : Int32)), .val (.ref a), .unset] [])) _
      refine XS.iload X0.here hx rfl (hb hby at_128) rfl ?_
      show Steps p.tables e below (T0.setTop (mkF m 130 #[.val (.int p1), .val (.int p2), .val (.int p3), .val (.int p4), .val (.int p5), .val (.int p6), .val (.int n), .val (.int (4 : Int32)), .val (.ref a), .unset] [(.int (4 : Int32))])) _
      refine XS.iconst X0.here hx rfl (hb hby at_130) ?_
      show Steps p.tables e below (T0.setTop (mkF m 131 #[.val (.int p1), .val (.int p2), .val (.int p3), .val (.int p4), .val (.int p5), .val (.int p6), .val (.int n), .val (.int (4 : Int32)), .val (.ref a), .unset] [(.int (3 : Int32)), (.int (4 : Int32))])) _
      refine XS.icmpYes X0.here hx rfl (pc0 := 131) (pc' := 140) rfl (hb hby at_131) rfl (feq (by decide : ¬ ((4 : Int32) = (3 : Int32)))).2 (by decide) (by decide) ?_
      show Steps p.tables e below (T0.setTop (mkF m 140 #[.val (.int p1), .val (.int p2), .val (.int p3), .val (.int p4), .val (.int p5), .val (.int p6), .val (.int n), .val (.int (4 : Int32)), .val (.ref a), .unset] [])) _
      refine XS.iload X0.here hx rfl (hb hby at_140) rfl ?_
      show Steps p.tables e below (T0.setTop (mkF m 142 #[.val (.int p1), .val (.int p2), .val (.int p3), .val (.int p4), .val (.int p5), .val (.int p6), .val (.int n), .val (.int (4 : Int32)), .val (.ref a), .unset] [(.int p5)])) _
      refine XS.istore X0.here hx rfl (hb hby at_142) rfl (l' := #[.val (.int p1), .val (.int p2), .val (.int p3), .val (.int p4), .val (.int p5), .val (.int p6), .val (.int n), .val (.int (4 : Int32)), .val (.ref a), .val (.int p5)]) rfl ?_
      show Steps p.tables e below (T0.setTop (mkF m 144 #[.val (.int p1), .val (.int p2), .val (.int p3), .val (.int p4), .val (.int p5), .val (.int p6), .val (.int n), .val (.int (4 : Int32)), .val (.ref a), .val (.int p5)] [])) _
      refine XS.aload X0.here hx rfl (hb hby at_144) rfl rfl ?_
      show Steps p.tables e below (T0.setTop (mkF m 146 #[.val (.int p1), .val (.int p2), .val (.int p3), .val (.int p4), .val (.int p5), .val (.int p6), .val (.int n), .val (.int (4 : Int32)), .val (.ref a), .val (.int p5)] [(.ref a)])) _
      refine XS.iload X0.here hx rfl (hb hby at_146) rfl ?_
      show Steps p.tables e below (T0.setTop (mkF m 148 #[.val (.int p1), .val (.int p2), .val (.int p3), .val (.int p4), .val (.int p5), .val (.int p6), .val (.int n), .val (.int (4 : Int32)), .val (.ref a), .val (.int p5)] [(.int (4 : Int32)), (.ref a)])) _
      refine st1 _ ?_
      show Steps p.tables e below (T1.setTop (mkF m 151 #[.val (.int p1), .val (.int p2), .val (.int p3), .val (.int p4), .val (.int p5), .val (.int p6), .val (.int n), .val (.int (4 : Int32)), .val (.ref a), .val (.int p5)] [(.int p5)])) _
      refine XS.iload X1.here hx rfl (hb hby at_151) rfl ?_
      show Steps p.tables e below (T1.setTop (mkF m 153 #[.val (.int p1), .val (.int p2), .val (.int p3), .val (.int p4), .val (.int p5), .val (.int p6), .val (.int n), .val (.int (4 : Int32)), .val (.ref a), .val (.int p5)] [(.int p5), (.int p5)])) _
      refine XS.icmpNo X1.here hx rfl (hb hby at_153) rfl (teq (rfl : p5 = p5)).2 ?_
      show Steps p.tables e below (T1.setTop (mkF m 156 #[.val (.int p1), .val (.int p2), .val (.int p3), .val (.int p4), .val (.int p5), .val (.int p6), .val (.int n), .val (.int (4 : Int32)), .val (.ref a), .val (.int p5)] [])) _
      refine XS.iconst X1.here hx rfl (hb hby at_156) ?_
      show Steps p.tables e below (T1.setTop (mkF m 157 #[.val (.int p1), .val (.int p2), .val (.int p3), .val (.int p4), .val (.int p5), .val (.int p6), .val (.int n), .val (.int (4 : Int32)), .val (.ref a), .val (.int p5)] [(.int (1 : Int32))])) _
      refine XS.goto X1.here hx rfl (pc0 := 157) (pc' := 161) rfl (hb hby at_157) (by decide) (by decide) ?_
      exact kt
  · obtain ⟨_, _, ⟨T1, L1, k1, n1⟩, -, X1, ⟨Lc1, hQ1, l1, y1, z1⟩, st1⟩ := Jvm.LawKit.callS X0 hx (y := (⟨"com/example/leadout/leadout/store/ShapeIndex", "indexed", "([II)I"⟩ : MethodName)) hown (mvT hZ (hw _ (List.mem_of_getElem? (i := 1) rfl))) (mvT hZ (hw _ (List.mem_of_getElem? (i := 2) rfl))) (mvT hZ (hw _ (List.mem_of_getElem? (i := 3) rfl))) (mvT hZ (hw _ (List.mem_of_getElem? (i := 4) rfl))) (by decide) (backOf (W := 0) (rm1_h l Z a0 hw [] a i k n vs h0 n0 Z0 V0 hi) hZ (hw _ (List.mem_of_getElem? (i := 4) rfl)) (hw _ (List.mem_of_getElem? (i := 3) rfl)) (by decide) (by decide)) (g := (mkF m 148 #[.val (.int p1), .val (.int p2), .val (.int p3), .val (.int p4), .val (.int p5), .val (.int p6), .val (.int n), .val (.int i), .val (.ref a), .val (.int (0 : Int32))] [(.int i), (.ref a)])) rfl (by rw [hml]; rfl) (argsL := [(.ref a), (.int i)]) (rest := []) (lenOf pd_0 rfl) rfl (by show 2 * 0 + _ ≤ _; exact Nat.le_of_eq rfl) (hb hby at_148) (fun _ _ => ⟨rfl, e0, (by decide : 1 + 0 ≤ _), (by decide : 5 + 0 ≤ _)⟩)
    dsimp only [Pt.U, Pt.locs, Pt.cells, Pt.slots] at X1 l1 y1 z1 st1 hQ1
    subst l1 y1 z1
    obtain ⟨rfl, Nq1, e1⟩ := hQ1
    have N1 := Fr.app N0 Nq1
    refine ⟨T1, _, (0 : Int32), X1, e1, N1, fun target kt => ?_⟩
    show Steps p.tables e below (T0.setTop (mkF m 80 #[.val (.int p1), .val (.int p2), .val (.int p3), .val (.int p4), .val (.int p5), .val (.int p6), .val (.int n), .val (.int i), .val (.ref a), .unset] [])) _
    refine XS.iload X0.here hx rfl (hb hby at_80) rfl ?_
    show Steps p.tables e below (T0.setTop (mkF m 82 #[.val (.int p1), .val (.int p2), .val (.int p3), .val (.int p4), .val (.int p5), .val (.int p6), .val (.int n), .val (.int i), .val (.ref a), .unset] [(.int i)])) _
    refine XS.iload X0.here hx rfl (hb hby at_82) rfl ?_
    show Steps p.tables e below (T0.setTop (mkF m 84 #[.val (.int p1), .val (.int p2), .val (.int p3), .val (.int p4), .val (.int p5), .val (.int p6), .val (.int n), .val (.int i), .val (.ref a), .unset] [(.int n), (.int i)])) _
    refine XS.icmpNo X0.here hx rfl (hb hby at_84) rfl (flt hi).1 ?_
    show Steps p.tables e below (T0.setTop (mkF m 87 #[.val (.int p1), .val (.int p2), .val (.int p3), .val (.int p4), .val (.int p5), .val (.int p6), .val (.int n), .val (.int i), .val (.ref a), .unset] [])) _
    refine XS.iconst X0.here hx rfl (hb hby at_87) ?_
    show Steps p.tables e below (T0.setTop (mkF m 88 #[.val (.int p1), .val (.int p2), .val (.int p3), .val (.int p4), .val (.int p5), .val (.int p6), .val (.int n), .val (.int i), .val (.ref a), .unset] [(.int (0 : Int32))])) _
    refine XS.istore X0.here hx rfl (hb hby at_88) rfl (l' := #[.val (.int p1), .val (.int p2), .val (.int p3), .val (.int p4), .val (.int p5), .val (.int p6), .val (.int n), .val (.int i), .val (.ref a), .val (.int (0 : Int32))]) rfl ?_
    show Steps p.tables e below (T0.setTop (mkF m 90 #[.val (.int p1), .val (.int p2), .val (.int p3), .val (.int p4), .val (.int p5), .val (.int p6), .val (.int n), .val (.int i), .val (.ref a), .val (.int (0 : Int32))] [])) _
    refine XS.goto X0.here hx rfl (pc0 := 90) (pc' := 144) rfl (hb hby at_90) (by decide) (by decide) ?_
    show Steps p.tables e below (T0.setTop (mkF m 144 #[.val (.int p1), .val (.int p2), .val (.int p3), .val (.int p4), .val (.int p5), .val (.int p6), .val (.int n), .val (.int i), .val (.ref a), .val (.int (0 : Int32))] [])) _
    refine XS.aload X0.here hx rfl (hb hby at_144) rfl rfl ?_
    show Steps p.tables e below (T0.setTop (mkF m 146 #[.val (.int p1), .val (.int p2), .val (.int p3), .val (.int p4), .val (.int p5), .val (.int p6), .val (.int n), .val (.int i), .val (.ref a), .val (.int (0 : Int32))] [(.ref a)])) _
    refine XS.iload X0.here hx rfl (hb hby at_146) rfl ?_
    show Steps p.tables e below (T0.setTop (mkF m 148 #[.val (.int p1), .val (.int p2), .val (.int p3), .val (.int p4), .val (.int p5), .val (.int p6), .val (.int n), .val (.int i), .val (.ref a), .val (.int (0 : Int32))] [(.int i), (.ref a)])) _
    refine st1 _ ?_
    show Steps p.tables e below (T1.setTop (mkF m 151 #[.val (.int p1), .val (.int p2), .val (.int p3), .val (.int p4), .val (.int p5), .val (.int p6), .val (.int n), .val (.int i), .val (.ref a), .val (.int (0 : Int32))] [(.int (0 : Int32))])) _
    refine XS.iload X1.here hx rfl (hb hby at_151) rfl ?_
    show Steps p.tables e below (T1.setTop (mkF m 153 #[.val (.int p1), .val (.int p2), .val (.int p3), .val (.int p4), .val (.int p5), .val (.int p6), .val (.int n), .val (.int i), .val (.ref a), .val (.int (0 : Int32))] [(.int (0 : Int32)), (.int (0 : Int32))])) _
    refine XS.icmpNo X1.here hx rfl (hb hby at_153) rfl (teq (by decide : (0 : Int32) = (0 : Int32))).2 ?_
    show Steps p.tables e below (T1.setTop (mkF m 156 #[.val (.int p1), .val (.int p2), .val (.int p3), .val (.int p4), .val (.int p5), .val (.int p6), .val (.int n), .val (.int i), .val (.ref a), .val (.int (0 : Int32))] [])) _
    refine XS.iconst X1.here hx rfl (hb hby at_156) ?_
    show Steps p.tables e below (T1.setTop (mkF m 157 #[.val (.int p1), .val (.int p2), .val (.int p3), .val (.int p4), .val (.int p5), .val (.int p6), .val (.int n), .val (.int i), .val (.ref a), .val (.int (0 : Int32))] [(.int (1 : Int32))])) _
    refine XS.goto X1.here hx rfl (pc0 := 157) (pc' := 161) rfl (hb hby at_157) (by decide) (by decide) ?_
    exact kt
theorem ef_0_IIIIII (m : MethodId) (x0 : Int32) (x1 : Int32) (x2 : Int32) (x3 : Int32) (x4 : Int32) (x5 : Int32) : entryFrame m #[(.int x0), (.int x1), (.int x2), (.int x3), (.int x4), (.int x5)] maxLocals = mkF m 0 #[.val (.int x0), .val (.int x1), .val (.int x2), .val (.int x3), .val (.int x4), .val (.int x5), .unset, .unset, .unset, .unset] [] := by first | (simp [entryFrame, mkF, argsToLocals, Value.category, maxLocals]; done) | rfl
def Q_rm0 (Z : State) (p1 : Int32) (p2 : Int32) (p3 : Int32) (p4 : Int32) (p5 : Int32) (p6 : Int32) (h0 : Heap) (n0 : Nat) (v : Option Value) (h : Heap) (L : List Loc) : Prop := v = some (.int (1 : Int32)) ∧ Fr n0 L
set_option maxRecDepth 65536 in
set_option maxHeartbeats 40000000 in
theorem rm0 (l : Launch) (Z : State) (a0 : Array Value) (hw : ∀ d ∈ tables_1, d.before a0 Z = true) (ws : List Jvm.Cond) (p1 : Int32) (p2 : Int32) (p3 : Int32) (p4 : Int32) (p5 : Int32) (p6 : Int32) (h0 : Heap) (n0 : Nat) (Z0 : n0 ≤ h0.size) :
    MetFree l x (head1 (Jvm.Cond.code x code maxLocals ret :: ws) room_1) (fun a U => a = #[(.int p1), (.int p2), (.int p3), (.int p4), (.int p5), (.int p6)] ∧ Z.Warmed39 U.vm ∧ U.heap = h0) (fun _ _ _ _ _ => True) (fun _ U o U' => ∃ v L, o = .returned v ∧ Q_rm0 Z p1 p2 p3 p4 p5 p6 h0 n0 v U'.heap L ∧ FrameEnd U o U' L room_1.cells room_1.slots) := by
  refine MetFree.of_bodySF (plainFor_of_name pn_0) hisR ?_
  intro p e s m args below meth c s₁ Bd hml0 hP hK
  obtain ⟨rfl, hZ, hh⟩ := hP
  have hx := Bd.exec
  have hby := Bd.bytes
  have hml : c.maxLocals = 10 := hml0
  have hown : s.vm.findClass "com/example/leadout/leadout/store/ShapeIndexIndexedPinLaw" = some m.cls := findClass_of_methodNamed Bd.named
  have hnm := (name_of_methodNamed Bd.named Bd.method).1
  have X0 : Stand p l e room_1 s m #[(.int p1), (.int p2), (.int p3), (.int p4), (.int p5), (.int p6)] below meth c s₁ [] 0 0 := Stand.of_body Bd
  have e0 : s₁.heap = h0 := by rw [← hh, Bd.state]; rfl
  have N0 := Fr.nil n0
  have pre0 : ∀ t, Steps p.tables e below (s₁.setTop (mkF m 0 #[.val (.int p1), .val (.int p2), .val (.int p3), .val (.int p4), .val (.int p5), .val (.int p6), .unset, .unset, .unset, .unset] [])) t → Steps p.tables e below (s₁.setTop (entryFrame m #[(.int p1), (.int p2), (.int p3), (.int p4), (.int p5), (.int p6)] maxLocals)) t := fun t k => castTop (ef_0_IIIIII m p1 p2 p3 p4 p5 p6) k
  obtain ⟨i, hi⟩ : ∃ i, (((p6.toUInt32 >>> ((3 : Int32) &&& 31).toUInt32).toInt32) &&& (7 : Int32)) = i := ⟨_, rfl⟩
  have hi0 : ¬ i < 0 := by rw [← hi]; exact own_i _
  rcases own_n p6 with hn | hn | hn | hn | hn | hn
  · obtain ⟨T1, h1, k1, X1, e1, E1, A1, st1⟩ := newP X0 hx hZ (hw _ (List.mem_of_getElem? (i := 0) rfl)) e0 (g := (mkF m 21 #[.val (.int p1), .val (.int p2), .val (.int p3), .val (.int p4), .val (.int p5), .val (.int p6), .val (.int (0 : Int32)), .val (.int i), .unset, .unset] [(.int (0 : Int32))])) rfl (hb hby at_21) rfl (by decide) (cap := 5) (by decide) (by decide) (by decide) (by decide)
    obtain ⟨b1, g1⟩ : ∃ z, z = h0.size := ⟨_, rfl⟩
    rw [← g1] at A1 st1
    have ge_b1 : n0 ≤ b1 := Nat.le_trans Z0 (Nat.le_of_eq g1.symm)
    have sz_b1 : h0.size ≤ b1 := Nat.le_trans (Keep.refl h0 []).1 (Nat.le_of_eq g1.symm)
    have Z1 : n0 ≤ h1.size := Nat.le_trans Z0 E1.1
    have Kp1 : Keep h0 h1 [] := (Keep.refl h0 []).ext E1
    have V_b1 : Arv Z h1 b1 k1 .int (0 : Int32) [] (.int (0 : Int32)) := (Arv.new A1 (by decide)).pad (pad_rep [] (.int (0 : Int32)) 0)
    obtain ⟨TJ, locJ, E, XJ, eJ, NJ, stJ⟩ := own_tail p1 p2 p3 p4 p5 p6 (0 : Int32) i b1 k1 [] X1 hx hZ hw hby hml hown e1 N0 Z1 V_b1 hi0 (by decide) (fun q => absurd q (by decide)) (fun q => absurd q (by decide)) (fun q => absurd q (by decide)) (fun q => absurd q (by decide)) (fun q => absurd q (by decide))
    obtain ⟨fs, hr, hrun, hended, hW, hsame⟩ := XJ.leave (v := some (.int (1 : Int32))) (fun h => by rw [Bd.returns] at h; cases h)
    refine ⟨_, _, pre0 _ ?_, hrun, hended, _, _, rfl, ?_, ⟨_, rfl⟩, hW, hsame.mono (by decide) (by decide)⟩
    · show Steps p.tables e below (s₁.setTop (mkF m 0 #[.val (.int p1), .val (.int p2), .val (.int p3), .val (.int p4), .val (.int p5), .val (.int p6), .unset, .unset, .unset, .unset] [])) _
      refine XS.iload X0.here hx rfl (hb hby at_0) rfl ?_
      show Steps p.tables e below (s₁.setTop (mkF m 2 #[.val (.int p1), .val (.int p2), .val (.int p3), .val (.int p4), .val (.int p5), .val (.int p6), .unset, .unset, .unset, .unset] [(.int p6)])) _
      refine XS.bipush X0.here hx rfl (hb hby at_2) ?_
      show Steps p.tables e below (s₁.setTop (mkF m 4 #[.val (.int p1), .val (.int p2), .val (.int p3), .val (.int p4), .val (.int p5), .val (.int p6), .unset, .unset, .unset, .unset] [(.int (7 : Int32)), (.int p6)])) _
      refine XS.iand X0.here hx rfl (hb hby at_4) rfl ?_
      show Steps p.tables e below (s₁.setTop (mkF m 5 #[.val (.int p1), .val (.int p2), .val (.int p3), .val (.int p4), .val (.int p5), .val (.int p6), .unset, .unset, .unset, .unset] [(.int (p6 &&& (7 : Int32)))])) _
      refine XS.bipush X0.here hx rfl (hb hby at_5) ?_
      show Steps p.tables e below (s₁.setTop (mkF m 7 #[.val (.int p1), .val (.int p2), .val (.int p3), .val (.int p4), .val (.int p5), .val (.int p6), .unset, .unset, .unset, .unset] [(.int (6 : Int32)), (.int (p6 &&& (7 : Int32)))])) _
      refine iremM X0 hx rfl (hb hby at_7) rfl (by decide) ?_
      rw [show ((p6 &&& (7 : Int32)) % (6 : Int32)) = (0 : Int32) from hn]
      show Steps p.tables e below (s₁.setTop (mkF m 8 #[.val (.int p1), .val (.int p2), .val (.int p3), .val (.int p4), .val (.int p5), .val (.int p6), .unset, .unset, .unset, .unset] [(.int (0 : Int32))])) _
      refine XS.istore X0.here hx rfl (hb hby at_8) rfl (l' := #[.val (.int p1), .val (.int p2), .val (.int p3), .val (.int p4), .val (.int p5), .val (.int p6), .val (.int (0 : Int32)), .unset, .unset, .unset]) rfl ?_
      show Steps p.tables e below (s₁.setTop (mkF m 10 #[.val (.int p1), .val (.int p2), .val (.int p3), .val (.int p4), .val (.int p5), .val (.int p6), .val (.int (0 : Int32)), .unset, .unset, .unset] [])) _
      refine XS.iload X0.here hx rfl (hb hby at_10) rfl ?_
      show Steps p.tables e below (s₁.setTop (mkF m 12 #[.val (.int p1), .val (.int p2), .val (.int p3), .val (.int p4), .val (.int p5), .val (.int p6), .val (.int (0 : Int32)), .unset, .unset, .unset] [(.int p6)])) _
      refine XS.iconst X0.here hx rfl (hb hby at_12) ?_
      show Steps p.tables e below (s₁.setTop (mkF m 13 #[.val (.int p1), .val (.int p2), .val (.int p3), .val (.int p4), .val (.int p5), .val (.int p6), .val (.int (0 : Int32)), .unset, .unset, .unset] [(.int (3 : Int32)), (.int p6)])) _
      refine XS.iushr X0.here hx rfl (hb hby at_13) rfl ?_
      show Steps p.tables e below (s₁.setTop (mkF m 14 #[.val (.int p1), .val (.int p2), .val (.int p3), .val (.int p4), .val (.int p5), .val (.int p6), .val (.int (0 : Int32)), .unset, .unset, .unset] [(.int ((p6.toUInt32 >>> ((3 : Int32) &&& 31).toUInt32).toInt32))])) _
      refine XS.bipush X0.here hx rfl (hb hby at_14) ?_
      show Steps p.tables e below (s₁.setTop (mkF m 16 #[.val (.int p1), .val (.int p2), .val (.int p3), .val (.int p4), .val (.int p5), .val (.int p6), .val (.int (0 : Int32)), .unset, .unset, .unset] [(.int (7 : Int32)), (.int ((p6.toUInt32 >>> ((3 : Int32) &&& 31).toUInt32).toInt32))])) _
      refine XS.iand X0.here hx rfl (hb hby at_16) rfl ?_
      rw [show (((p6.toUInt32 >>> ((3 : Int32) &&& 31).toUInt32).toInt32) &&& (7 : Int32)) = i from hi]
      show Steps p.tables e below (s₁.setTop (mkF m 17 #[.val (.int p1), .val (.int p2), .val (.int p3), .val (.int p4), .val (.int p5), .val (.int p6), .val (.int (0 : Int32)), .unset, .unset, .unset] [(.int i)])) _
      refine XS.istore X0.here hx rfl (hb hby at_17) rfl (l' := #[.val (.int p1), .val (.int p2), .val (.int p3), .val (.int p4), .val (.int p5), .val (.int p6), .val (.int (0 : Int32)), .val (.int i), .unset, .unset]) rfl ?_
      show Steps p.tables e below (s₁.setTop (mkF m 19 #[.val (.int p1), .val (.int p2), .val (.int p3), .val (.int p4), .val (.int p5), .val (.int p6), .val (.int (0 : Int32)), .val (.int i), .unset, .unset] [])) _
      refine XS.iload X0.here hx rfl (hb hby at_19) rfl ?_
      show Steps p.tables e below (s₁.setTop (mkF m 21 #[.val (.int p1), .val (.int p2), .val (.int p3), .val (.int p4), .val (.int p5), .val (.int p6), .val (.int (0 : Int32)), .val (.int i), .unset, .unset] [(.int (0 : Int32))])) _
      refine st1 _ ?_
      show Steps p.tables e below (T1.setTop (mkF m 23 #[.val (.int p1), .val (.int p2), .val (.int p3), .val (.int p4), .val (.int p5), .val (.int p6), .val (.int (0 : Int32)), .val (.int i), .unset, .unset] [(.ref b1)])) _
      refine XS.astore X1.here hx rfl (hb hby at_23) rfl rfl (l' := #[.val (.int p1), .val (.int p2), .val (.int p3), .val (.int p4), .val (.int p5), .val (.int p6), .val (.int (0 : Int32)), .val (.int i), .val (.ref b1), .unset]) rfl ?_
      show Steps p.tables e below (T1.setTop (mkF m 25 #[.val (.int p1), .val (.int p2), .val (.int p3), .val (.int p4), .val (.int p5), .val (.int p6), .val (.int (0 : Int32)), .val (.int i), .val (.ref b1), .unset] [])) _
      refine XS.iload X1.here hx rfl (hb hby at_25) rfl ?_
      show Steps p.tables e below (T1.setTop (mkF m 27 #[.val (.int p1), .val (.int p2), .val (.int p3), .val (.int p4), .val (.int p5), .val (.int p6), .val (.int (0 : Int32)), .val (.int i), .val (.ref b1), .unset] [(.int (0 : Int32))])) _
      refine XS.ifYes X1.here hx rfl (pc0 := 27) (pc' := 35) rfl (hb hby at_27) rfl ((if0 _ _).trans (flt (by decide : ¬ ((0 : Int32) < (0 : Int32)))).2.2.2) (by decide) (by decide) ?_
      show Steps p.tables e below (T1.setTop (mkF m 35 #[.val (.int p1), .val (.int p2), .val (.int p3), .val (.int p4), .val (.int p5), .val (.int p6), .val (.int (0 : Int32)), .val (.int i), .val (.ref b1), .unset] [])) _
      refine XS.iload X1.here hx rfl (hb hby at_35) rfl ?_
      show Steps p.tables e below (T1.setTop (mkF m 37 #[.val (.int p1), .val (.int p2), .val (.int p3), .val (.int p4), .val (.int p5), .val (.int p6), .val (.int (0 : Int32)), .val (.int i), .val (.ref b1), .unset] [(.int (0 : Int32))])) _
      refine XS.iconst X1.here hx rfl (hb hby at_37) ?_
      show Steps p.tables e below (T1.setTop (mkF m 38 #[.val (.int p1), .val (.int p2), .val (.int p3), .val (.int p4), .val (.int p5), .val (.int p6), .val (.int (0 : Int32)), .val (.int i), .val (.ref b1), .unset] [(.int (1 : Int32)), (.int (0 : Int32))])) _
      refine XS.icmpYes X1.here hx rfl (pc0 := 38) (pc' := 46) rfl (hb hby at_38) rfl (flt (by decide : ¬ ((1 : Int32) < (0 : Int32)))).2.2.2 (by decide) (by decide) ?_
      show Steps p.tables e below (T1.setTop (mkF m 46 #[.val (.int p1), .val (.int p2), .val (.int p3), .val (.int p4), .val (.int p5), .val (.int p6), .val (.int (0 : Int32)), .val (.int i), .val (.ref b1), .unset] [])) _
      refine XS.iload X1.here hx rfl (hb hby at_46) rfl ?_
      show Steps p.tables e below (T1.setTop (mkF m 48 #[.val (.int p1), .val (.int p2), .val (.int p3), .val (.int p4), .val (.int p5), .val (.int p6), .val (.int (0 : Int32)), .val (.int i), .val (.ref b1), .unset] [(.int (0 : Int32))])) _
      refine XS.iconst X1.here hx rfl (hb hby at_48) ?_
      show Steps p.tables e below (T1.setTop (mkF m 49 #[.val (.int p1), .val (.int p2), .val (.int p3), .val (.int p4), .val (.int p5), .val (.int p6), .val (.int (0 : Int32)), .val (.int i), .val (.ref b1), .unset] [(.int (2 : Int32)), (.int (0 : Int32))])) _
      refine XS.icmpYes X1.here hx rfl (pc0 := 49) (pc' := 57) rfl (hb hby at_49) rfl (flt (by decide : ¬ ((2 : Int32) < (0 : Int32)))).2.2.2 (by decide) (by decide) ?_
      show Steps p.tables e below (T1.setTop (mkF m 57 #[.val (.int p1), .val (.int p2), .val (.int p3), .val (.int p4), .val (.int p5), .val (.int p6), .val (.int (0 : Int32)), .val (.int i), .val (.ref b1), .unset] [])) _
      refine XS.iload X1.here hx rfl (hb hby at_57) rfl ?_
      show Steps p.tables e below (T1.setTop (mkF m 59 #[.val (.int p1), .val (.int p2), .val (.int p3), .val (.int p4), .val (.int p5), .val (.int p6), .val (.int (0 : Int32)), .val (.int i), .val (.ref b1), .unset] [(.int (0 : Int32))])) _
      refine XS.iconst X1.here hx rfl (hb hby at_59) ?_
      show Steps p.tables e below (T1.setTop (mkF m 60 #[.val (.int p1), .val (.int p2), .val (.int p3), .val (.int p4), .val (.int p5), .val (.int p6), .val (.int (0 : Int32)), .val (.int i), .val (.ref b1), .unset] [(.int (3 : Int32)), (.int (0 : Int32))])) _
      refine XS.icmpYes X1.here hx rfl (pc0 := 60) (pc' := 68) rfl (hb hby at_60) rfl (flt (by decide : ¬ ((3 : Int32) < (0 : Int32)))).2.2.2 (by decide) (by decide) ?_
      show Steps p.tables e below (T1.setTop (mkF m 68 #[.val (.int p1), .val (.int p2), .val (.int p3), .val (.int p4), .val (.int p5), .val (.int p6), .val (.int (0 : Int32)), .val (.int i), .val (.ref b1), .unset] [])) _
      refine XS.iload X1.here hx rfl (hb hby at_68) rfl ?_
      show Steps p.tables e below (T1.setTop (mkF m 70 #[.val (.int p1), .val (.int p2), .val (.int p3), .val (.int p4), .val (.int p5), .val (.int p6), .val (.int (0 : Int32)), .val (.int i), .val (.ref b1), .unset] [(.int (0 : Int32))])) _
      refine XS.iconst X1.here hx rfl (hb hby at_70) ?_
      show Steps p.tables e below (T1.setTop (mkF m 71 #[.val (.int p1), .val (.int p2), .val (.int p3), .val (.int p4), .val (.int p5), .val (.int p6), .val (.int (0 : Int32)), .val (.int i), .val (.ref b1), .unset] [(.int (4 : Int32)), (.int (0 : Int32))])) _
      refine XS.icmpYes X1.here hx rfl (pc0 := 71) (pc' := 80) rfl (hb hby at_71) rfl (flt (by decide : ¬ ((4 : Int32) < (0 : Int32)))).2.2.2 (by decide) (by decide) ?_
      show Steps p.tables e below (T1.setTop (mkF m 80 #[.val (.int p1), .val (.int p2), .val (.int p3), .val (.int p4), .val (.int p5), .val (.int p6), .val (.int (0 : Int32)), .val (.int i), .val (.ref b1), .unset] [])) _
      refine stJ _ ?_
      show Steps p.tables e below (TJ.setTop (mkF m 161 #[.val (.int p1), .val (.int p2), .val (.int p3), .val (.int p4), .val (.int p5), .val (.int p6), .val (.int (0 : Int32)), .val (.int i), .val (.ref b1), .val (.int E)] [(.int (1 : Int32))])) _
      exact retN XJ hx (t := .boolean) Bd.returns (by simp) (hb hby at_161) hr
    · show Q_rm0 Z p1 p2 p3 p4 p5 p6 h0 n0 _ TJ.heap _
      rw [eJ]
      exact ⟨rfl, NJ⟩
  · obtain ⟨T1, h1, k1, X1, e1, E1, A1, st1⟩ := newP X0 hx hZ (hw _ (List.mem_of_getElem? (i := 0) rfl)) e0 (g := (mkF m 21 #[.val (.int p1), .val (.int p2), .val (.int p3), .val (.int p4), .val (.int p5), .val (.int p6), .val (.int (1 : Int32)), .val (.int i), .unset, .unset] [(.int (1 : Int32))])) rfl (hb hby at_21) rfl (by decide) (cap := 5) (by decide) (by decide) (by decide) (by decide)
    obtain ⟨b1, g1⟩ : ∃ z, z = h0.size := ⟨_, rfl⟩
    rw [← g1] at A1 st1
    have ge_b1 : n0 ≤ b1 := Nat.le_trans Z0 (Nat.le_of_eq g1.symm)
    have sz_b1 : h0.size ≤ b1 := Nat.le_trans (Keep.refl h0 []).1 (Nat.le_of_eq g1.symm)
    have Z1 : n0 ≤ h1.size := Nat.le_trans Z0 E1.1
    have Kp1 : Keep h0 h1 [] := (Keep.refl h0 []).ext E1
    have V_b1 : Arv Z h1 b1 k1 .int (1 : Int32) [(.int (0 : Int32))] (.int (0 : Int32)) := (Arv.new A1 (by decide)).pad (pad_rep [] (.int (0 : Int32)) 1)
    obtain ⟨cl2, Ar2, q2, S2, M2, Ha2, G2⟩ := id V_b1
    have hin34_cl2 : ¬ ((0 : Int32) < 0 ∨ cl2.slots.size ≤ ((0 : Int32)).toNatClampNeg) := inb_of S2 ⟨by decide, by decide⟩
    obtain ⟨T3, h3, X3, e3, W3, st3⟩ := stI X1 hx hZ e1 Ar2 (j := (0 : Int32)) hin34_cl2 (g := (mkF m 34 #[.val (.int p1), .val (.int p2), .val (.int p3), .val (.int p4), .val (.int p5), .val (.int p6), .val (.int (1 : Int32)), .val (.int i), .val (.ref b1), .unset] [(.int p1), (.int (0 : Int32)), (.ref b1)])) rfl rfl (hb hby at_34)
    have Z3 : n0 ≤ h3.size := Nat.le_trans Z1 (Keep.of_wr W3).1
    have Kp3 : Keep h0 h3 [] := Kp1.wr W3 (Or.inr sz_b1)
    have V_b1_3 : Arv Z h3 b1 k1 .int (1 : Int32) [(.int p1)] (.int (0 : Int32)) := Arv.set Ar2 q2 S2 M2 Ha2 G2 rfl W3 0 rfl (Nat.le_of_ble_eq_true rfl)
    have N3 := Fr.snoc X3 N0 ge_b1
    obtain ⟨TJ, locJ, E, XJ, eJ, NJ, stJ⟩ := own_tail p1 p2 p3 p4 p5 p6 (1 : Int32) i b1 k1 [(.int p1)] X3 hx hZ hw hby hml hown e3 N3 Z3 V_b1_3 hi0 (by decide) (fun _ => rfl) (fun q => absurd q (by decide)) (fun q => absurd q (by decide)) (fun q => absurd q (by decide)) (fun q => absurd q (by decide))
    obtain ⟨fs, hr, hrun, hended, hW, hsame⟩ := XJ.leave (v := some (.int (1 : Int32))) (fun h => by rw [Bd.returns] at h; cases h)
    refine ⟨_, _, pre0 _ ?_, hrun, hended, _, _, rfl, ?_, ⟨_, rfl⟩, hW, hsame.mono (by decide) (by decide)⟩
    · show Steps p.tables e below (s₁.setTop (mkF m 0 #[.val (.int p1), .val (.int p2), .val (.int p3), .val (.int p4), .val (.int p5), .val (.int p6), .unset, .unset, .unset, .unset] [])) _
      refine XS.iload X0.here hx rfl (hb hby at_0) rfl ?_
      show Steps p.tables e below (s₁.setTop (mkF m 2 #[.val (.int p1), .val (.int p2), .val (.int p3), .val (.int p4), .val (.int p5), .val (.int p6), .unset, .unset, .unset, .unset] [(.int p6)])) _
      refine XS.bipush X0.here hx rfl (hb hby at_2) ?_
      show Steps p.tables e below (s₁.setTop (mkF m 4 #[.val (.int p1), .val (.int p2), .val (.int p3), .val (.int p4), .val (.int p5), .val (.int p6), .unset, .unset, .unset, .unset] [(.int (7 : Int32)), (.int p6)])) _
      refine XS.iand X0.here hx rfl (hb hby at_4) rfl ?_
      show Steps p.tables e below (s₁.setTop (mkF m 5 #[.val (.int p1), .val (.int p2), .val (.int p3), .val (.int p4), .val (.int p5), .val (.int p6), .unset, .unset, .unset, .unset] [(.int (p6 &&& (7 : Int32)))])) _
      refine XS.bipush X0.here hx rfl (hb hby at_5) ?_
      show Steps p.tables e below (s₁.setTop (mkF m 7 #[.val (.int p1), .val (.int p2), .val (.int p3), .val (.int p4), .val (.int p5), .val (.int p6), .unset, .unset, .unset, .unset] [(.int (6 : Int32)), (.int (p6 &&& (7 : Int32)))])) _
      refine iremM X0 hx rfl (hb hby at_7) rfl (by decide) ?_
      rw [show ((p6 &&& (7 : Int32)) % (6 : Int32)) = (1 : Int32) from hn]
      show Steps p.tables e below (s₁.setTop (mkF m 8 #[.val (.int p1), .val (.int p2), .val (.int p3), .val (.int p4), .val (.int p5), .val (.int p6), .unset, .unset, .unset, .unset] [(.int (1 : Int32))])) _
      refine XS.istore X0.here hx rfl (hb hby at_8) rfl (l' := #[.val (.int p1), .val (.int p2), .val (.int p3), .val (.int p4), .val (.int p5), .val (.int p6), .val (.int (1 : Int32)), .unset, .unset, .unset]) rfl ?_
      show Steps p.tables e below (s₁.setTop (mkF m 10 #[.val (.int p1), .val (.int p2), .val (.int p3), .val (.int p4), .val (.int p5), .val (.int p6), .val (.int (1 : Int32)), .unset, .unset, .unset] [])) _
      refine XS.iload X0.here hx rfl (hb hby at_10) rfl ?_
      show Steps p.tables e below (s₁.setTop (mkF m 12 #[.val (.int p1), .val (.int p2), .val (.int p3), .val (.int p4), .val (.int p5), .val (.int p6), .val (.int (1 : Int32)), .unset, .unset, .unset] [(.int p6)])) _
      refine XS.iconst X0.here hx rfl (hb hby at_12) ?_
      show Steps p.tables e below (s₁.setTop (mkF m 13 #[.val (.int p1), .val (.int p2), .val (.int p3), .val (.int p4), .val (.int p5), .val (.int p6), .val (.int (1 : Int32)), .unset, .unset, .unset] [(.int (3 : Int32)), (.int p6)])) _
      refine XS.iushr X0.here hx rfl (hb hby at_13) rfl ?_
      show Steps p.tables e below (s₁.setTop (mkF m 14 #[.val (.int p1), .val (.int p2), .val (.int p3), .val (.int p4), .val (.int p5), .val (.int p6), .val (.int (1 : Int32)), .unset, .unset, .unset] [(.int ((p6.toUInt32 >>> ((3 : Int32) &&& 31).toUInt32).toInt32))])) _
      refine XS.bipush X0.here hx rfl (hb hby at_14) ?_
      show Steps p.tables e below (s₁.setTop (mkF m 16 #[.val (.int p1), .val (.int p2), .val (.int p3), .val (.int p4), .val (.int p5), .val (.int p6), .val (.int (1 : Int32)), .unset, .unset, .unset] [(.int (7 : Int32)), (.int ((p6.toUInt32 >>> ((3 : Int32) &&& 31).toUInt32).toInt32))])) _
      refine XS.iand X0.here hx rfl (hb hby at_16) rfl ?_
      rw [show (((p6.toUInt32 >>> ((3 : Int32) &&& 31).toUInt32).toInt32) &&& (7 : Int32)) = i from hi]
      show Steps p.tables e below (s₁.setTop (mkF m 17 #[.val (.int p1), .val (.int p2), .val (.int p3), .val (.int p4), .val (.int p5), .val (.int p6), .val (.int (1 : Int32)), .unset, .unset, .unset] [(.int i)])) _
      refine XS.istore X0.here hx rfl (hb hby at_17) rfl (l' := #[.val (.int p1), .val (.int p2), .val (.int p3), .val (.int p4), .val (.int p5), .val (.int p6), .val (.int (1 : Int32)), .val (.int i), .unset, .unset]) rfl ?_
      show Steps p.tables e below (s₁.setTop (mkF m 19 #[.val (.int p1), .val (.int p2), .val (.int p3), .val (.int p4), .val (.int p5), .val (.int p6), .val (.int (1 : Int32)), .val (.int i), .unset, .unset] [])) _
      refine XS.iload X0.here hx rfl (hb hby at_19) rfl ?_
      show Steps p.tables e below (s₁.setTop (mkF m 21 #[.val (.int p1), .val (.int p2), .val (.int p3), .val (.int p4), .val (.int p5), .val (.int p6), .val (.int (1 : Int32)), .val (.int i), .unset, .unset] [(.int (1 : Int32))])) _
      refine st1 _ ?_
      show Steps p.tables e below (T1.setTop (mkF m 23 #[.val (.int p1), .val (.int p2), .val (.int p3), .val (.int p4), .val (.int p5), .val (.int p6), .val (.int (1 : Int32)), .val (.int i), .unset, .unset] [(.ref b1)])) _
      refine XS.astore X1.here hx rfl (hb hby at_23) rfl rfl (l' := #[.val (.int p1), .val (.int p2), .val (.int p3), .val (.int p4), .val (.int p5), .val (.int p6), .val (.int (1 : Int32)), .val (.int i), .val (.ref b1), .unset]) rfl ?_
      show Steps p.tables e below (T1.setTop (mkF m 25 #[.val (.int p1), .val (.int p2), .val (.int p3), .val (.int p4), .val (.int p5), .val (.int p6), .val (.int (1 : Int32)), .val (.int i), .val (.ref b1), .unset] [])) _
      refine XS.iload X1.here hx rfl (hb hby at_25) rfl ?_
      show Steps p.tables e below (T1.setTop (mkF m 27 #[.val (.int p1), .val (.int p2), .val (.int p3), .val (.int p4), .val (.int p5), .val (.int p6), .val (.int (1 : Int32)), .val (.int i), .val (.ref b1), .unset] [(.int (1 : Int32))])) _
      refine XS.ifNo X1.here hx rfl (hb hby at_27) rfl ((if0 _ _).trans (tlt (by decide : (0 : Int32) < (1 : Int32))).2.2.2) ?_
      show Steps p.tables e below (T1.setTop (mkF m 30 #[.val (.int p1), .val (.int p2), .val (.int p3), .val (.int p4), .val (.int p5), .val (.int p6), .val (.int (1 : Int32)), .val (.int i), .val (.ref b1), .unset] [])) _
      refine XS.aload X1.here hx rfl (hb hby at_30) rfl rfl ?_
      show Steps p.tables e below (T1.setTop (mkF m 32 #[.val (.int p1), .val (.int p2), .val (.int p3), .val (.int p4), .val (.int p5), .val (.int p6), .val (.int (1 : Int32)), .val (.int i), .val (.ref b1), .unset] [(.ref b1)])) _
      refine XS.iconst X1.here hx rfl (hb hby at_32) ?_
      show Steps p.tables e below (T1.setTop (mkF m 33 #[.val (.int p1), .val (.int p2), .val (.int p3), .val (.int p4), .val (.int p5), .val (.int p6), .val (.int (1 : Int32)), .val (.int i), .val (.ref b1), .unset] [(.int (0 : Int32)), (.ref b1)])) _
      refine XS.iloadN X1.here hx rfl (hb hby at_33) rfl ?_
      show Steps p.tables e below (T1.setTop (mkF m 34 #[.val (.int p1), .val (.int p2), .val (.int p3), .val (.int p4), .val (.int p5), .val (.int p6), .val (.int (1 : Int32)), .val (.int i), .val (.ref b1), .unset] [(.int p1), (.int (0 : Int32)), (.ref b1)])) _
      refine st3 _ ?_
      show Steps p.tables e below (T3.setTop (mkF m 35 #[.val (.int p1), .val (.int p2), .val (.int p3), .val (.int p4), .val (.int p5), .val (.int p6), .val (.int (1 : Int32)), .val (.int i), .val (.ref b1), .unset] [])) _
      refine XS.iload X3.here hx rfl (hb hby at_35) rfl ?_
      show Steps p.tables e below (T3.setTop (mkF m 37 #[.val (.int p1), .val (.int p2), .val (.int p3), .val (.int p4), .val (.int p5), .val (.int p6), .val (.int (1 : Int32)), .val (.int i), .val (.ref b1), .unset] [(.int (1 : Int32))])) _
      refine XS.iconst X3.here hx rfl (hb hby at_37) ?_
      show Steps p.tables e below (T3.setTop (mkF m 38 #[.val (.int p1), .val (.int p2), .val (.int p3), .val (.int p4), .val (.int p5), .val (.int p6), .val (.int (1 : Int32)), .val (.int i), .val (.ref b1), .unset] [(.int (1 : Int32)), (.int (1 : Int32))])) _
      refine XS.icmpYes X3.here hx rfl (pc0 := 38) (pc' := 46) rfl (hb hby at_38) rfl (flt (by decide : ¬ ((1 : Int32) < (1 : Int32)))).2.2.2 (by decide) (by decide) ?_
      show Steps p.tables e below (T3.setTop (mkF m 46 #[.val (.int p1), .val (.int p2), .val (.int p3), .val (.int p4), .val (.int p5), .val (.int p6), .val (.int (1 : Int32)), .val (.int i), .val (.ref b1), .unset] [])) _
      refine XS.iload X3.here hx rfl (hb hby at_46) rfl ?_
      show Steps p.tables e below (T3.setTop (mkF m 48 #[.val (.int p1), .val (.int p2), .val (.int p3), .val (.int p4), .val (.int p5), .val (.int p6), .val (.int (1 : Int32)), .val (.int i), .val (.ref b1), .unset] [(.int (1 : Int32))])) _
      refine XS.iconst X3.here hx rfl (hb hby at_48) ?_
      show Steps p.tables e below (T3.setTop (mkF m 49 #[.val (.int p1), .val (.int p2), .val (.int p3), .val (.int p4), .val (.int p5), .val (.int p6), .val (.int (1 : Int32)), .val (.int i), .val (.ref b1), .unset] [(.int (2 : Int32)), (.int (1 : Int32))])) _
      refine XS.icmpYes X3.here hx rfl (pc0 := 49) (pc' := 57) rfl (hb hby at_49) rfl (flt (by decide : ¬ ((2 : Int32) < (1 : Int32)))).2.2.2 (by decide) (by decide) ?_
      show Steps p.tables e below (T3.setTop (mkF m 57 #[.val (.int p1), .val (.int p2), .val (.int p3), .val (.int p4), .val (.int p5), .val (.int p6), .val (.int (1 : Int32)), .val (.int i), .val (.ref b1), .unset] [])) _
      refine XS.iload X3.here hx rfl (hb hby at_57) rfl ?_
      show Steps p.tables e below (T3.setTop (mkF m 59 #[.val (.int p1), .val (.int p2), .val (.int p3), .val (.int p4), .val (.int p5), .val (.int p6), .val (.int (1 : Int32)), .val (.int i), .val (.ref b1), .unset] [(.int (1 : Int32))])) _
      refine XS.iconst X3.here hx rfl (hb hby at_59) ?_
      show Steps p.tables e below (T3.setTop (mkF m 60 #[.val (.int p1), .val (.int p2), .val (.int p3), .val (.int p4), .val (.int p5), .val (.int p6), .val (.int (1 : Int32)), .val (.int i), .val (.ref b1), .unset] [(.int (3 : Int32)), (.int (1 : Int32))])) _
      refine XS.icmpYes X3.here hx rfl (pc0 := 60) (pc' := 68) rfl (hb hby at_60) rfl (flt (by decide : ¬ ((3 : Int32) < (1 : Int32)))).2.2.2 (by decide) (by decide) ?_
      show Steps p.tables e below (T3.setTop (mkF m 68 #[.val (.int p1), .val (.int p2), .val (.int p3), .val (.int p4), .val (.int p5), .val (.int p6), .val (.int (1 : Int32)), .val (.int i), .val (.ref b1), .unset] [])) _
      refine XS.iload X3.here hx rfl (hb hby at_68) rfl ?_
      show Steps p.tables e below (T3.setTop (mkF m 70 #[.val (.int p1), .val (.int p2), .val (.int p3), .val (.int p4), .val (.int p5), .val (.int p6), .val (.int (1 : Int32)), .val (.int i), .val (.ref b1), .unset] [(.int (1 : Int32))])) _
      refine XS.iconst X3.here hx rfl (hb hby at_70) ?_
      show Steps p.tables e below (T3.setTop (mkF m 71 #[.val (.int p1), .val (.int p2), .val (.int p3), .val (.int p4), .val (.int p5), .val (.int p6), .val (.int (1 : Int32)), .val (.int i), .val (.ref b1), .unset] [(.int (4 : Int32)), (.int (1 : Int32))])) _
      refine XS.icmpYes X3.here hx rfl (pc0 := 71) (pc' := 80) rfl (hb hby at_71) rfl (flt (by decide : ¬ ((4 : Int32) < (1 : Int32)))).2.2.2 (by decide) (by decide) ?_
      show Steps p.tables e below (T3.setTop (mkF m 80 #[.val (.int p1), .val (.int p2), .val (.int p3), .val (.int p4), .val (.int p5), .val (.int p6), .val (.int (1 : Int32)), .val (.int i), .val (.ref b1), .unset] [])) _
      refine stJ _ ?_
      show Steps p.tables e below (TJ.setTop (mkF m 161 #[.val (.int p1), .val (.int p2), .val (.int p3), .val (.int p4), .val (.int p5), .val (.int p6), .val (.int (1 : Int32)), .val (.int i), .val (.ref b1), .val (.int E)] [(.int (1 : Int32))])) _
      exact retN XJ hx (t := .boolean) Bd.returns (by simp) (hb hby at_161) hr
    · show Q_rm0 Z p1 p2 p3 p4 p5 p6 h0 n0 _ TJ.heap _
      rw [eJ]
      exact ⟨rfl, NJ⟩
  · obtain ⟨T1, h1, k1, X1, e1, E1, A1, st1⟩ := newP X0 hx hZ (hw _ (List.mem_of_getElem? (i := 0) rfl)) e0 (g := (mkF m 21 #[.val (.int p1), .val (.int p2), .val (.int p3), .val (.int p4), .val (.int p5), .val (.int p6), .val (.int (2 : Int32)), .val (.int i), .unset, .unset] [(.int (2 : Int32))])) rfl (hb hby at_21) rfl (by decide) (cap := 5) (by decide) (by decide) (by decide) (by decide)
    obtain ⟨b1, g1⟩ : ∃ z, z = h0.size := ⟨_, rfl⟩
    rw [← g1] at A1 st1
    have ge_b1 : n0 ≤ b1 := Nat.le_trans Z0 (Nat.le_of_eq g1.symm)
    have sz_b1 : h0.size ≤ b1 := Nat.le_trans (Keep.refl h0 []).1 (Nat.le_of_eq g1.symm)
    have Z1 : n0 ≤ h1.size := Nat.le_trans Z0 E1.1
    have Kp1 : Keep h0 h1 [] := (Keep.refl h0 []).ext E1
    have V_b1 : Arv Z h1 b1 k1 .int (2 : Int32) [(.int (0 : Int32)), (.int (0 : Int32))] (.int (0 : Int32)) := (Arv.new A1 (by decide)).pad (pad_rep [] (.int (0 : Int32)) 2)
    obtain ⟨cl2, Ar2, q2, S2, M2, Ha2, G2⟩ := id V_b1
    have hin34_cl2 : ¬ ((0 : Int32) < 0 ∨ cl2.slots.size ≤ ((0 : Int32)).toNatClampNeg) := inb_of S2 ⟨by decide, by decide⟩
    obtain ⟨T3, h3, X3, e3, W3, st3⟩ := stI X1 hx hZ e1 Ar2 (j := (0 : Int32)) hin34_cl2 (g := (mkF m 34 #[.val (.int p1), .val (.int p2), .val (.int p3), .val (.int p4), .val (.int p5), .val (.int p6), .val (.int (2 : Int32)), .val (.int i), .val (.ref b1), .unset] [(.int p1), (.int (0 : Int32)), (.ref b1)])) rfl rfl (hb hby at_34)
    have Z3 : n0 ≤ h3.size := Nat.le_trans Z1 (Keep.of_wr W3).1
    have Kp3 : Keep h0 h3 [] := Kp1.wr W3 (Or.inr sz_b1)
    have V_b1_3 : Arv Z h3 b1 k1 .int (2 : Int32) [(.int p1), (.int (0 : Int32))] (.int (0 : Int32)) := Arv.set Ar2 q2 S2 M2 Ha2 G2 rfl W3 0 rfl (Nat.le_of_ble_eq_true rfl)
    have N3 := Fr.snoc X3 N0 ge_b1
    obtain ⟨cl4, Ar4, q4, S4, M4, Ha4, G4⟩ := id V_b1_3
    have hin45_cl4 : ¬ ((1 : Int32) < 0 ∨ cl4.slots.size ≤ ((1 : Int32)).toNatClampNeg) := inb_of S4 ⟨by decide, by decide⟩
    obtain ⟨T5, h5, X5, e5, W5, st5⟩ := stI X3 hx hZ e3 Ar4 (j := (1 : Int32)) hin45_cl4 (g := (mkF m 45 #[.val (.int p1), .val (.int p2), .val (.int p3), .val (.int p4), .val (.int p5), .val (.int p6), .val (.int (2 : Int32)), .val (.int i), .val (.ref b1), .unset] [(.int p2), (.int (1 : Int32)), (.ref b1)])) rfl rfl (hb hby at_45)
    have Z5 : n0 ≤ h5.size := Nat.le_trans Z3 (Keep.of_wr W5).1
    have Kp5 : Keep h0 h5 [] := Kp3.wr W5 (Or.inr sz_b1)
    have V_b1_5 : Arv Z h5 b1 k1 .int (2 : Int32) [(.int p1), (.int p2)] (.int (0 : Int32)) := Arv.set Ar4 q4 S4 M4 Ha4 G4 rfl W5 1 rfl (Nat.le_of_ble_eq_true rfl)
    have N5 := Fr.snoc X5 N3 ge_b1
    obtain ⟨TJ, locJ, E, XJ, eJ, NJ, stJ⟩ := own_tail p1 p2 p3 p4 p5 p6 (2 : Int32) i b1 k1 [(.int p1), (.int p2)] X5 hx hZ hw hby hml hown e5 N5 Z5 V_b1_5 hi0 (by decide) (fun _ => rfl) (fun _ => rfl) (fun q => absurd q (by decide)) (fun q => absurd q (by decide)) (fun q => absurd q (by decide))
    obtain ⟨fs, hr, hrun, hended, hW, hsame⟩ := XJ.leave (v := some (.int (1 : Int32))) (fun h => by rw [Bd.returns] at h; cases h)
    refine ⟨_, _, pre0 _ ?_, hrun, hended, _, _, rfl, ?_, ⟨_, rfl⟩, hW, hsame.mono (by decide) (by decide)⟩
    · show Steps p.tables e below (s₁.setTop (mkF m 0 #[.val (.int p1), .val (.int p2), .val (.int p3), .val (.int p4), .val (.int p5), .val (.int p6), .unset, .unset, .unset, .unset] [])) _
      refine XS.iload X0.here hx rfl (hb hby at_0) rfl ?_
      show Steps p.tables e below (s₁.setTop (mkF m 2 #[.val (.int p1), .val (.int p2), .val (.int p3), .val (.int p4), .val (.int p5), .val (.int p6), .unset, .unset, .unset, .unset] [(.int p6)])) _
      refine XS.bipush X0.here hx rfl (hb hby at_2) ?_
      show Steps p.tables e below (s₁.setTop (mkF m 4 #[.val (.int p1), .val (.int p2), .val (.int p3), .val (.int p4), .val (.int p5), .val (.int p6), .unset, .unset, .unset, .unset] [(.int (7 : Int32)), (.int p6)])) _
      refine XS.iand X0.here hx rfl (hb hby at_4) rfl ?_
      show Steps p.tables e below (s₁.setTop (mkF m 5 #[.val (.int p1), .val (.int p2), .val (.int p3), .val (.int p4), .val (.int p5), .val (.int p6), .unset, .unset, .unset, .unset] [(.int (p6 &&& (7 : Int32)))])) _
      refine XS.bipush X0.here hx rfl (hb hby at_5) ?_
      show Steps p.tables e below (s₁.setTop (mkF m 7 #[.val (.int p1), .val (.int p2), .val (.int p3), .val (.int p4), .val (.int p5), .val (.int p6), .unset, .unset, .unset, .unset] [(.int (6 : Int32)), (.int (p6 &&& (7 : Int32)))])) _
      refine iremM X0 hx rfl (hb hby at_7) rfl (by decide) ?_
      rw [show ((p6 &&& (7 : Int32)) % (6 : Int32)) = (2 : Int32) from hn]
      show Steps p.tables e below (s₁.setTop (mkF m 8 #[.val (.int p1), .val (.int p2), .val (.int p3), .val (.int p4), .val (.int p5), .val (.int p6), .unset, .unset, .unset, .unset] [(.int (2 : Int32))])) _
      refine XS.istore X0.here hx rfl (hb hby at_8) rfl (l' := #[.val (.int p1), .val (.int p2), .val (.int p3), .val (.int p4), .val (.int p5), .val (.int p6), .val (.int (2 : Int32)), .unset, .unset, .unset]) rfl ?_
      show Steps p.tables e below (s₁.setTop (mkF m 10 #[.val (.int p1), .val (.int p2), .val (.int p3), .val (.int p4), .val (.int p5), .val (.int p6), .val (.int (2 : Int32)), .unset, .unset, .unset] [])) _
      refine XS.iload X0.here hx rfl (hb hby at_10) rfl ?_
      show Steps p.tables e below (s₁.setTop (mkF m 12 #[.val (.int p1), .val (.int p2), .val (.int p3), .val (.int p4), .val (.int p5), .val (.int p6), .val (.int (2 : Int32)), .unset, .unset, .unset] [(.int p6)])) _
      refine XS.iconst X0.here hx rfl (hb hby at_12) ?_
      show Steps p.tables e below (s₁.setTop (mkF m 13 #[.val (.int p1), .val (.int p2), .val (.int p3), .val (.int p4), .val (.int p5), .val (.int p6), .val (.int (2 : Int32)), .unset, .unset, .unset] [(.int (3 : Int32)), (.int p6)])) _
      refine XS.iushr X0.here hx rfl (hb hby at_13) rfl ?_
      show Steps p.tables e below (s₁.setTop (mkF m 14 #[.val (.int p1), .val (.int p2), .val (.int p3), .val (.int p4), .val (.int p5), .val (.int p6), .val (.int (2 : Int32)), .unset, .unset, .unset] [(.int ((p6.toUInt32 >>> ((3 : Int32) &&& 31).toUInt32).toInt32))])) _
      refine XS.bipush X0.here hx rfl (hb hby at_14) ?_
      show Steps p.tables e below (s₁.setTop (mkF m 16 #[.val (.int p1), .val (.int p2), .val (.int p3), .val (.int p4), .val (.int p5), .val (.int p6), .val (.int (2 : Int32)), .unset, .unset, .unset] [(.int (7 : Int32)), (.int ((p6.toUInt32 >>> ((3 : Int32) &&& 31).toUInt32).toInt32))])) _
      refine XS.iand X0.here hx rfl (hb hby at_16) rfl ?_
      rw [show (((p6.toUInt32 >>> ((3 : Int32) &&& 31).toUInt32).toInt32) &&& (7 : Int32)) = i from hi]
      show Steps p.tables e below (s₁.setTop (mkF m 17 #[.val (.int p1), .val (.int p2), .val (.int p3), .val (.int p4), .val (.int p5), .val (.int p6), .val (.int (2 : Int32)), .unset, .unset, .unset] [(.int i)])) _
      refine XS.istore X0.here hx rfl (hb hby at_17) rfl (l' := #[.val (.int p1), .val (.int p2), .val (.int p3), .val (.int p4), .val (.int p5), .val (.int p6), .val (.int (2 : Int32)), .val (.int i), .unset, .unset]) rfl ?_
      show Steps p.tables e below (s₁.setTop (mkF m 19 #[.val (.int p1), .val (.int p2), .val (.int p3), .val (.int p4), .val (.int p5), .val (.int p6), .val (.int (2 : Int32)), .val (.int i), .unset, .unset] [])) _
      refine XS.iload X0.here hx rfl (hb hby at_19) rfl ?_
      show Steps p.tables e below (s₁.setTop (mkF m 21 #[.val (.int p1), .val (.int p2), .val (.int p3), .val (.int p4), .val (.int p5), .val (.int p6), .val (.int (2 : Int32)), .val (.int i), .unset, .unset] [(.int (2 : Int32))])) _
      refine st1 _ ?_
      show Steps p.tables e below (T1.setTop (mkF m 23 #[.val (.int p1), .val (.int p2), .val (.int p3), .val (.int p4), .val (.int p5), .val (.int p6), .val (.int (2 : Int32)), .val (.int i), .unset, .unset] [(.ref b1)])) _
      refine XS.astore X1.here hx rfl (hb hby at_23) rfl rfl (l' := #[.val (.int p1), .val (.int p2), .val (.int p3), .val (.int p4), .val (.int p5), .val (.int p6), .val (.int (2 : Int32)), .val (.int i), .val (.ref b1), .unset]) rfl ?_
      show Steps p.tables e below (T1.setTop (mkF m 25 #[.val (.int p1), .val (.int p2), .val (.int p3), .val (.int p4), .val (.int p5), .val (.int p6), .val (.int (2 : Int32)), .val (.int i), .val (.ref b1), .unset] [])) _
      refine XS.iload X1.here hx rfl (hb hby at_25) rfl ?_
      show Steps p.tables e below (T1.setTop (mkF m 27 #[.val (.int p1), .val (.int p2), .val (.int p3), .val (.int p4), .val (.int p5), .val (.int p6), .val (.int (2 : Int32)), .val (.int i), .val (.ref b1), .unset] [(.int (2 : Int32))])) _
      refine XS.ifNo X1.here hx rfl (hb hby at_27) rfl ((if0 _ _).trans (tlt (by decide : (0 : Int32) < (2 : Int32))).2.2.2) ?_
      show Steps p.tables e below (T1.setTop (mkF m 30 #[.val (.int p1), .val (.int p2), .val (.int p3), .val (.int p4), .val (.int p5), .val (.int p6), .val (.int (2 : Int32)), .val (.int i), .val (.ref b1), .unset] [])) _
      refine XS.aload X1.here hx rfl (hb hby at_30) rfl rfl ?_
      show Steps p.tables e below (T1.setTop (mkF m 32 #[.val (.int p1), .val (.int p2), .val (.int p3), .val (.int p4), .val (.int p5), .val (.int p6), .val (.int (2 : Int32)), .val (.int i), .val (.ref b1), .unset] [(.ref b1)])) _
      refine XS.iconst X1.here hx rfl (hb hby at_32) ?_
      show Steps p.tables e below (T1.setTop (mkF m 33 #[.val (.int p1), .val (.int p2), .val (.int p3), .val (.int p4), .val (.int p5), .val (.int p6), .val (.int (2 : Int32)), .val (.int i), .val (.ref b1), .unset] [(.int (0 : Int32)), (.ref b1)])) _
      refine XS.iloadN X1.here hx rfl (hb hby at_33) rfl ?_
      show Steps p.tables e below (T1.setTop (mkF m 34 #[.val (.int p1), .val (.int p2), .val (.int p3), .val (.int p4), .val (.int p5), .val (.int p6), .val (.int (2 : Int32)), .val (.int i), .val (.ref b1), .unset] [(.int p1), (.int (0 : Int32)), (.ref b1)])) _
      refine st3 _ ?_
      show Steps p.tables e below (T3.setTop (mkF m 35 #[.val (.int p1), .val (.int p2), .val (.int p3), .val (.int p4), .val (.int p5), .val (.int p6), .val (.int (2 : Int32)), .val (.int i), .val (.ref b1), .unset] [])) _
      refine XS.iload X3.here hx rfl (hb hby at_35) rfl ?_
      show Steps p.tables e below (T3.setTop (mkF m 37 #[.val (.int p1), .val (.int p2), .val (.int p3), .val (.int p4), .val (.int p5), .val (.int p6), .val (.int (2 : Int32)), .val (.int i), .val (.ref b1), .unset] [(.int (2 : Int32))])) _
      refine XS.iconst X3.here hx rfl (hb hby at_37) ?_
      show Steps p.tables e below (T3.setTop (mkF m 38 #[.val (.int p1), .val (.int p2), .val (.int p3), .val (.int p4), .val (.int p5), .val (.int p6), .val (.int (2 : Int32)), .val (.int i), .val (.ref b1), .unset] [(.int (1 : Int32)), (.int (2 : Int32))])) _
      refine XS.icmpNo X3.here hx rfl (hb hby at_38) rfl (tlt (by decide : (1 : Int32) < (2 : Int32))).2.2.2 ?_
      show Steps p.tables e below (T3.setTop (mkF m 41 #[.val (.int p1), .val (.int p2), .val (.int p3), .val (.int p4), .val (.int p5), .val (.int p6), .val (.int (2 : Int32)), .val (.int i), .val (.ref b1), .unset] [])) _
      refine XS.aload X3.here hx rfl (hb hby at_41) rfl rfl ?_
      show Steps p.tables e below (T3.setTop (mkF m 43 #[.val (.int p1), .val (.int p2), .val (.int p3), .val (.int p4), .val (.int p5), .val (.int p6), .val (.int (2 : Int32)), .val (.int i), .val (.ref b1), .unset] [(.ref b1)])) _
      refine XS.iconst X3.here hx rfl (hb hby at_43) ?_
      show Steps p.tables e below (T3.setTop (mkF m 44 #[.val (.int p1), .val (.int p2), .val (.int p3), .val (.int p4), .val (.int p5), .val (.int p6), .val (.int (2 : Int32)), .val (.int i), .val (.ref b1), .unset] [(.int (1 : Int32)), (.ref b1)])) _
      refine XS.iloadN X3.here hx rfl (hb hby at_44) rfl ?_
      show Steps p.tables e below (T3.setTop (mkF m 45 #[.val (.int p1), .val (.int p2), .val (.int p3), .val (.int p4), .val (.int p5), .val (.int p6), .val (.int (2 : Int32)), .val (.int i), .val (.ref b1), .unset] [(.int p2), (.int (1 : Int32)), (.ref b1)])) _
      refine st5 _ ?_
      show Steps p.tables e below (T5.setTop (mkF m 46 #[.val (.int p1), .val (.int p2), .val (.int p3), .val (.int p4), .val (.int p5), .val (.int p6), .val (.int (2 : Int32)), .val (.int i), .val (.ref b1), .unset] [])) _
      refine XS.iload X5.here hx rfl (hb hby at_46) rfl ?_
      show Steps p.tables e below (T5.setTop (mkF m 48 #[.val (.int p1), .val (.int p2), .val (.int p3), .val (.int p4), .val (.int p5), .val (.int p6), .val (.int (2 : Int32)), .val (.int i), .val (.ref b1), .unset] [(.int (2 : Int32))])) _
      refine XS.iconst X5.here hx rfl (hb hby at_48) ?_
      show Steps p.tables e below (T5.setTop (mkF m 49 #[.val (.int p1), .val (.int p2), .val (.int p3), .val (.int p4), .val (.int p5), .val (.int p6), .val (.int (2 : Int32)), .val (.int i), .val (.ref b1), .unset] [(.int (2 : Int32)), (.int (2 : Int32))])) _
      refine XS.icmpYes X5.here hx rfl (pc0 := 49) (pc' := 57) rfl (hb hby at_49) rfl (flt (by decide : ¬ ((2 : Int32) < (2 : Int32)))).2.2.2 (by decide) (by decide) ?_
      show Steps p.tables e below (T5.setTop (mkF m 57 #[.val (.int p1), .val (.int p2), .val (.int p3), .val (.int p4), .val (.int p5), .val (.int p6), .val (.int (2 : Int32)), .val (.int i), .val (.ref b1), .unset] [])) _
      refine XS.iload X5.here hx rfl (hb hby at_57) rfl ?_
      show Steps p.tables e below (T5.setTop (mkF m 59 #[.val (.int p1), .val (.int p2), .val (.int p3), .val (.int p4), .val (.int p5), .val (.int p6), .val (.int (2 : Int32)), .val (.int i), .val (.ref b1), .unset] [(.int (2 : Int32))])) _
      refine XS.iconst X5.here hx rfl (hb hby at_59) ?_
      show Steps p.tables e below (T5.setTop (mkF m 60 #[.val (.int p1), .val (.int p2), .val (.int p3), .val (.int p4), .val (.int p5), .val (.int p6), .val (.int (2 : Int32)), .val (.int i), .val (.ref b1), .unset] [(.int (3 : Int32)), (.int (2 : Int32))])) _
      refine XS.icmpYes X5.here hx rfl (pc0 := 60) (pc' := 68) rfl (hb hby at_60) rfl (flt (by decide : ¬ ((3 : Int32) < (2 : Int32)))).2.2.2 (by decide) (by decide) ?_
      show Steps p.tables e below (T5.setTop (mkF m 68 #[.val (.int p1), .val (.int p2), .val (.int p3), .val (.int p4), .val (.int p5), .val (.int p6), .val (.int (2 : Int32)), .val (.int i), .val (.ref b1), .unset] [])) _
      refine XS.iload X5.here hx rfl (hb hby at_68) rfl ?_
      show Steps p.tables e below (T5.setTop (mkF m 70 #[.val (.int p1), .val (.int p2), .val (.int p3), .val (.int p4), .val (.int p5), .val (.int p6), .val (.int (2 : Int32)), .val (.int i), .val (.ref b1), .unset] [(.int (2 : Int32))])) _
      refine XS.iconst X5.here hx rfl (hb hby at_70) ?_
      show Steps p.tables e below (T5.setTop (mkF m 71 #[.val (.int p1), .val (.int p2), .val (.int p3), .val (.int p4), .val (.int p5), .val (.int p6), .val (.int (2 : Int32)), .val (.int i), .val (.ref b1), .unset] [(.int (4 : Int32)), (.int (2 : Int32))])) _
      refine XS.icmpYes X5.here hx rfl (pc0 := 71) (pc' := 80) rfl (hb hby at_71) rfl (flt (by decide : ¬ ((4 : Int32) < (2 : Int32)))).2.2.2 (by decide) (by decide) ?_
      show Steps p.tables e below (T5.setTop (mkF m 80 #[.val (.int p1), .val (.int p2), .val (.int p3), .val (.int p4), .val (.int p5), .val (.int p6), .val (.int (2 : Int32)), .val (.int i), .val (.ref b1), .unset] [])) _
      refine stJ _ ?_
      show Steps p.tables e below (TJ.setTop (mkF m 161 #[.val (.int p1), .val (.int p2), .val (.int p3), .val (.int p4), .val (.int p5), .val (.int p6), .val (.int (2 : Int32)), .val (.int i), .val (.ref b1), .val (.int E)] [(.int (1 : Int32))])) _
      exact retN XJ hx (t := .boolean) Bd.returns (by simp) (hb hby at_161) hr
    · show Q_rm0 Z p1 p2 p3 p4 p5 p6 h0 n0 _ TJ.heap _
      rw [eJ]
      exact ⟨rfl, NJ⟩
  · obtain ⟨T1, h1, k1, X1, e1, E1, A1, st1⟩ := newP X0 hx hZ (hw _ (List.mem_of_getElem? (i := 0) rfl)) e0 (g := (mkF m 21 #[.val (.int p1), .val (.int p2), .val (.int p3), .val (.int p4), .val (.int p5), .val (.int p6), .val (.int (3 : Int32)), .val (.int i), .unset, .unset] [(.int (3 : Int32))])) rfl (hb hby at_21) rfl (by decide) (cap := 5) (by decide) (by decide) (by decide) (by decide)
    obtain ⟨b1, g1⟩ : ∃ z, z = h0.size := ⟨_, rfl⟩
    rw [← g1] at A1 st1
    have ge_b1 : n0 ≤ b1 := Nat.le_trans Z0 (Nat.le_of_eq g1.symm)
    have sz_b1 : h0.size ≤ b1 := Nat.le_trans (Keep.refl h0 []).1 (Nat.le_of_eq g1.symm)
    have Z1 : n0 ≤ h1.size := Nat.le_trans Z0 E1.1
    have Kp1 : Keep h0 h1 [] := (Keep.refl h0 []).ext E1
    have V_b1 : Arv Z h1 b1 k1 .int (3 : Int32) [(.int (0 : Int32)), (.int (0 : Int32)), (.int (0 : Int32))] (.int (0 : Int32)) := (Arv.new A1 (by decide)).pad (pad_rep [] (.int (0 : Int32)) 3)
    obtain ⟨cl2, Ar2, q2, S2, M2, Ha2, G2⟩ := id V_b1
    have hin34_cl2 : ¬ ((0 : Int32) < 0 ∨ cl2.slots.size ≤ ((0 : Int32)).toNatClampNeg) := inb_of S2 ⟨by decide, by decide⟩
    obtain ⟨T3, h3, X3, e3, W3, st3⟩ := stI X1 hx hZ e1 Ar2 (j := (0 : Int32)) hin34_cl2 (g := (mkF m 34 #[.val (.int p1), .val (.int p2), .val (.int p3), .val (.int p4), .val (.int p5), .val (.int p6), .val (.int (3 : Int32)), .val (.int i), .val (.ref b1), .unset] [(.int p1), (.int (0 : Int32)), (.ref b1)])) rfl rfl (hb hby at_34)
    have Z3 : n0 ≤ h3.size := Nat.le_trans Z1 (Keep.of_wr W3).1
    have Kp3 : Keep h0 h3 [] := Kp1.wr W3 (Or.inr sz_b1)
    have V_b1_3 : Arv Z h3 b1 k1 .int (3 : Int32) [(.int p1), (.int (0 : Int32)), (.int (0 : Int32))] (.int (0 : Int32)) := Arv.set Ar2 q2 S2 M2 Ha2 G2 rfl W3 0 rfl (Nat.le_of_ble_eq_true rfl)
    have N3 := Fr.snoc X3 N0 ge_b1
    obtain ⟨cl4, Ar4, q4, S4, M4, Ha4, G4⟩ := id V_b1_3
    have hin45_cl4 : ¬ ((1 : Int32) < 0 ∨ cl4.slots.size ≤ ((1 : Int32)).toNatClampNeg) := inb_of S4 ⟨by decide, by decide⟩
    obtain ⟨T5, h5, X5, e5, W5, st5⟩ := stI X3 hx hZ e3 Ar4 (j := (1 : Int32)) hin45_cl4 (g := (mkF m 45 #[.val (.int p1), .val (.int p2), .val (.int p3), .val (.int p4), .val (.int p5), .val (.int p6), .val (.int (3 : Int32)), .val (.int i), .val (.ref b1), .unset] [(.int p2), (.int (1 : Int32)), (.ref b1)])) rfl rfl (hb hby at_45)
    have Z5 : n0 ≤ h5.size := Nat.le_trans Z3 (Keep.of_wr W5).1
    have Kp5 : Keep h0 h5 [] := Kp3.wr W5 (Or.inr sz_b1)
    have V_b1_5 : Arv Z h5 b1 k1 .int (3 : Int32) [(.int p1), (.int p2), (.int (0 : Int32))] (.int (0 : Int32)) := Arv.set Ar4 q4 S4 M4 Ha4 G4 rfl W5 1 rfl (Nat.le_of_ble_eq_true rfl)
    have N5 := Fr.snoc X5 N3 ge_b1
    obtain ⟨cl6, Ar6, q6, S6, M6, Ha6, G6⟩ := id V_b1_5
    have hin56_cl6 : ¬ ((2 : Int32) < 0 ∨ cl6.slots.size ≤ ((2 : Int32)).toNatClampNeg) := inb_of S6 ⟨by decide, by decide⟩
    obtain ⟨T7, h7, X7, e7, W7, st7⟩ := stI X5 hx hZ e5 Ar6 (j := (2 : Int32)) hin56_cl6 (g := (mkF m 56 #[.val (.int p1), .val (.int p2), .val (.int p3), .val (.int p4), .val (.int p5), .val (.int p6), .val (.int (3 : Int32)), .val (.int i), .val (.ref b1), .unset] [(.int p3), (.int (2 : Int32)), (.ref b1)])) rfl rfl (hb hby at_56)
    have Z7 : n0 ≤ h7.size := Nat.le_trans Z5 (Keep.of_wr W7).1
    have Kp7 : Keep h0 h7 [] := Kp5.wr W7 (Or.inr sz_b1)
    have V_b1_7 : Arv Z h7 b1 k1 .int (3 : Int32) [(.int p1), (.int p2), (.int p3)] (.int (0 : Int32)) := Arv.set Ar6 q6 S6 M6 Ha6 G6 rfl W7 2 rfl (Nat.le_of_ble_eq_true rfl)
    have N7 := Fr.snoc X7 N5 ge_b1
    obtain ⟨TJ, locJ, E, XJ, eJ, NJ, stJ⟩ := own_tail p1 p2 p3 p4 p5 p6 (3 : Int32) i b1 k1 [(.int p1), (.int p2), (.int p3)] X7 hx hZ hw hby hml hown e7 N7 Z7 V_b1_7 hi0 (by decide) (fun _ => rfl) (fun _ => rfl) (fun _ => rfl) (fun q => absurd q (by decide)) (fun q => absurd q (by decide))
    obtain ⟨fs, hr, hrun, hended, hW, hsame⟩ := XJ.leave (v := some (.int (1 : Int32))) (fun h => by rw [Bd.returns] at h; cases h)
    refine ⟨_, _, pre0 _ ?_, hrun, hended, _, _, rfl, ?_, ⟨_, rfl⟩, hW, hsame.mono (by decide) (by decide)⟩
    · show Steps p.tables e below (s₁.setTop (mkF m 0 #[.val (.int p1), .val (.int p2), .val (.int p3), .val (.int p4), .val (.int p5), .val (.int p6), .unset, .unset, .unset, .unset] [])) _
      refine XS.iload X0.here hx rfl (hb hby at_0) rfl ?_
      show Steps p.tables e below (s₁.setTop (mkF m 2 #[.val (.int p1), .val (.int p2), .val (.int p3), .val (.int p4), .val (.int p5), .val (.int p6), .unset, .unset, .unset, .unset] [(.int p6)])) _
      refine XS.bipush X0.here hx rfl (hb hby at_2) ?_
      show Steps p.tables e below (s₁.setTop (mkF m 4 #[.val (.int p1), .val (.int p2), .val (.int p3), .val (.int p4), .val (.int p5), .val (.int p6), .unset, .unset, .unset, .unset] [(.int (7 : Int32)), (.int p6)])) _
      refine XS.iand X0.here hx rfl (hb hby at_4) rfl ?_
      show Steps p.tables e below (s₁.setTop (mkF m 5 #[.val (.int p1), .val (.int p2), .val (.int p3), .val (.int p4), .val (.int p5), .val (.int p6), .unset, .unset, .unset, .unset] [(.int (p6 &&& (7 : Int32)))])) _
      refine XS.bipush X0.here hx rfl (hb hby at_5) ?_
      show Steps p.tables e below (s₁.setTop (mkF m 7 #[.val (.int p1), .val (.int p2), .val (.int p3), .val (.int p4), .val (.int p5), .val (.int p6), .unset, .unset, .unset, .unset] [(.int (6 : Int32)), (.int (p6 &&& (7 : Int32)))])) _
      refine iremM X0 hx rfl (hb hby at_7) rfl (by decide) ?_
      rw [show ((p6 &&& (7 : Int32)) % (6 : Int32)) = (3 : Int32) from hn]
      show Steps p.tables e below (s₁.setTop (mkF m 8 #[.val (.int p1), .val (.int p2), .val (.int p3), .val (.int p4), .val (.int p5), .val (.int p6), .unset, .unset, .unset, .unset] [(.int (3 : Int32))])) _
      refine XS.istore X0.here hx rfl (hb hby at_8) rfl (l' := #[.val (.int p1), .val (.int p2), .val (.int p3), .val (.int p4), .val (.int p5), .val (.int p6), .val (.int (3 : Int32)), .unset, .unset, .unset]) rfl ?_
      show Steps p.tables e below (s₁.setTop (mkF m 10 #[.val (.int p1), .val (.int p2), .val (.int p3), .val (.int p4), .val (.int p5), .val (.int p6), .val (.int (3 : Int32)), .unset, .unset, .unset] [])) _
      refine XS.iload X0.here hx rfl (hb hby at_10) rfl ?_
      show Steps p.tables e below (s₁.setTop (mkF m 12 #[.val (.int p1), .val (.int p2), .val (.int p3), .val (.int p4), .val (.int p5), .val (.int p6), .val (.int (3 : Int32)), .unset, .unset, .unset] [(.int p6)])) _
      refine XS.iconst X0.here hx rfl (hb hby at_12) ?_
      show Steps p.tables e below (s₁.setTop (mkF m 13 #[.val (.int p1), .val (.int p2), .val (.int p3), .val (.int p4), .val (.int p5), .val (.int p6), .val (.int (3 : Int32)), .unset, .unset, .unset] [(.int (3 : Int32)), (.int p6)])) _
      refine XS.iushr X0.here hx rfl (hb hby at_13) rfl ?_
      show Steps p.tables e below (s₁.setTop (mkF m 14 #[.val (.int p1), .val (.int p2), .val (.int p3), .val (.int p4), .val (.int p5), .val (.int p6), .val (.int (3 : Int32)), .unset, .unset, .unset] [(.int ((p6.toUInt32 >>> ((3 : Int32) &&& 31).toUInt32).toInt32))])) _
      refine XS.bipush X0.here hx rfl (hb hby at_14) ?_
      show Steps p.tables e below (s₁.setTop (mkF m 16 #[.val (.int p1), .val (.int p2), .val (.int p3), .val (.int p4), .val (.int p5), .val (.int p6), .val (.int (3 : Int32)), .unset, .unset, .unset] [(.int (7 : Int32)), (.int ((p6.toUInt32 >>> ((3 : Int32) &&& 31).toUInt32).toInt32))])) _
      refine XS.iand X0.here hx rfl (hb hby at_16) rfl ?_
      rw [show (((p6.toUInt32 >>> ((3 : Int32) &&& 31).toUInt32).toInt32) &&& (7 : Int32)) = i from hi]
      show Steps p.tables e below (s₁.setTop (mkF m 17 #[.val (.int p1), .val (.int p2), .val (.int p3), .val (.int p4), .val (.int p5), .val (.int p6), .val (.int (3 : Int32)), .unset, .unset, .unset] [(.int i)])) _
      refine XS.istore X0.here hx rfl (hb hby at_17) rfl (l' := #[.val (.int p1), .val (.int p2), .val (.int p3), .val (.int p4), .val (.int p5), .val (.int p6), .val (.int (3 : Int32)), .val (.int i), .unset, .unset]) rfl ?_
      show Steps p.tables e below (s₁.setTop (mkF m 19 #[.val (.int p1), .val (.int p2), .val (.int p3), .val (.int p4), .val (.int p5), .val (.int p6), .val (.int (3 : Int32)), .val (.int i), .unset, .unset] [])) _
      refine XS.iload X0.here hx rfl (hb hby at_19) rfl ?_
      show Steps p.tables e below (s₁.setTop (mkF m 21 #[.val (.int p1), .val (.int p2), .val (.int p3), .val (.int p4), .val (.int p5), .val (.int p6), .val (.int (3 : Int32)), .val (.int i), .unset, .unset] [(.int (3 : Int32))])) _
      refine st1 _ ?_
      show Steps p.tables e below (T1.setTop (mkF m 23 #[.val (.int p1), .val (.int p2), .val (.int p3), .val (.int p4), .val (.int p5), .val (.int p6), .val (.int (3 : Int32)), .val (.int i), .unset, .unset] [(.ref b1)])) _
      refine XS.astore X1.here hx rfl (hb hby at_23) rfl rfl (l' := #[.val (.int p1), .val (.int p2), .val (.int p3), .val (.int p4), .val (.int p5), .val (.int p6), .val (.int (3 : Int32)), .val (.int i), .val (.ref b1), .unset]) rfl ?_
      show Steps p.tables e below (T1.setTop (mkF m 25 #[.val (.int p1), .val (.int p2), .val (.int p3), .val (.int p4), .val (.int p5), .val (.int p6), .val (.int (3 : Int32)), .val (.int i), .val (.ref b1), .unset] [])) _
      refine XS.iload X1.here hx rfl (hb hby at_25) rfl ?_
      show Steps p.tables e below (T1.setTop (mkF m 27 #[.val (.int p1), .val (.int p2), .val (.int p3), .val (.int p4), .val (.int p5), .val (.int p6), .val (.int (3 : Int32)), .val (.int i), .val (.ref b1), .unset] [(.int (3 : Int32))])) _
      refine XS.ifNo X1.here hx rfl (hb hby at_27) rfl ((if0 _ _).trans (tlt (by decide : (0 : Int32) < (3 : Int32))).2.2.2) ?_
      show Steps p.tables e below (T1.setTop (mkF m 30 #[.val (.int p1), .val (.int p2), .val (.int p3), .val (.int p4), .val (.int p5), .val (.int p6), .val (.int (3 : Int32)), .val (.int i), .val (.ref b1), .unset] [])) _
      refine XS.aload X1.here hx rfl (hb hby at_30) rfl rfl ?_
      show Steps p.tables e below (T1.setTop (mkF m 32 #[.val (.int p1), .val (.int p2), .val (.int p3), .val (.int p4), .val (.int p5), .val (.int p6), .val (.int (3 : Int32)), .val (.int i), .val (.ref b1), .unset] [(.ref b1)])) _
      refine XS.iconst X1.here hx rfl (hb hby at_32) ?_
      show Steps p.tables e below (T1.setTop (mkF m 33 #[.val (.int p1), .val (.int p2), .val (.int p3), .val (.int p4), .val (.int p5), .val (.int p6), .val (.int (3 : Int32)), .val (.int i), .val (.ref b1), .unset] [(.int (0 : Int32)), (.ref b1)])) _
      refine XS.iloadN X1.here hx rfl (hb hby at_33) rfl ?_
      show Steps p.tables e below (T1.setTop (mkF m 34 #[.val (.int p1), .val (.int p2), .val (.int p3), .val (.int p4), .val (.int p5), .val (.int p6), .val (.int (3 : Int32)), .val (.int i), .val (.ref b1), .unset] [(.int p1), (.int (0 : Int32)), (.ref b1)])) _
      refine st3 _ ?_
      show Steps p.tables e below (T3.setTop (mkF m 35 #[.val (.int p1), .val (.int p2), .val (.int p3), .val (.int p4), .val (.int p5), .val (.int p6), .val (.int (3 : Int32)), .val (.int i), .val (.ref b1), .unset] [])) _
      refine XS.iload X3.here hx rfl (hb hby at_35) rfl ?_
      show Steps p.tables e below (T3.setTop (mkF m 37 #[.val (.int p1), .val (.int p2), .val (.int p3), .val (.int p4), .val (.int p5), .val (.int p6), .val (.int (3 : Int32)), .val (.int i), .val (.ref b1), .unset] [(.int (3 : Int32))])) _
      refine XS.iconst X3.here hx rfl (hb hby at_37) ?_
      show Steps p.tables e below (T3.setTop (mkF m 38 #[.val (.int p1), .val (.int p2), .val (.int p3), .val (.int p4), .val (.int p5), .val (.int p6), .val (.int (3 : Int32)), .val (.int i), .val (.ref b1), .unset] [(.int (1 : Int32)), (.int (3 : Int32))])) _
      refine XS.icmpNo X3.here hx rfl (hb hby at_38) rfl (tlt (by decide : (1 : Int32) < (3 : Int32))).2.2.2 ?_
      show Steps p.tables e below (T3.setTop (mkF m 41 #[.val (.int p1), .val (.int p2), .val (.int p3), .val (.int p4), .val (.int p5), .val (.int p6), .val (.int (3 : Int32)), .val (.int i), .val (.ref b1), .unset] [])) _
      refine XS.aload X3.here hx rfl (hb hby at_41) rfl rfl ?_
      show Steps p.tables e below (T3.setTop (mkF m 43 #[.val (.int p1), .val (.int p2), .val (.int p3), .val (.int p4), .val (.int p5), .val (.int p6), .val (.int (3 : Int32)), .val (.int i), .val (.ref b1), .unset] [(.ref b1)])) _
      refine XS.iconst X3.here hx rfl (hb hby at_43) ?_
      show Steps p.tables e below (T3.setTop (mkF m 44 #[.val (.int p1), .val (.int p2), .val (.int p3), .val (.int p4), .val (.int p5), .val (.int p6), .val (.int (3 : Int32)), .val (.int i), .val (.ref b1), .unset] [(.int (1 : Int32)), (.ref b1)])) _
      refine XS.iloadN X3.here hx rfl (hb hby at_44) rfl ?_
      show Steps p.tables e below (T3.setTop (mkF m 45 #[.val (.int p1), .val (.int p2), .val (.int p3), .val (.int p4), .val (.int p5), .val (.int p6), .val (.int (3 : Int32)), .val (.int i), .val (.ref b1), .unset] [(.int p2), (.int (1 : Int32)), (.ref b1)])) _
      refine st5 _ ?_
      show Steps p.tables e below (T5.setTop (mkF m 46 #[.val (.int p1), .val (.int p2), .val (.int p3), .val (.int p4), .val (.int p5), .val (.int p6), .val (.int (3 : Int32)), .val (.int i), .val (.ref b1), .unset] [])) _
      refine XS.iload X5.here hx rfl (hb hby at_46) rfl ?_
      show Steps p.tables e below (T5.setTop (mkF m 48 #[.val (.int p1), .val (.int p2), .val (.int p3), .val (.int p4), .val (.int p5), .val (.int p6), .val (.int (3 : Int32)), .val (.int i), .val (.ref b1), .unset] [(.int (3 : Int32))])) _
      refine XS.iconst X5.here hx rfl (hb hby at_48) ?_
      show Steps p.tables e below (T5.setTop (mkF m 49 #[.val (.int p1), .val (.int p2), .val (.int p3), .val (.int p4), .val (.int p5), .val (.int p6), .val (.int (3 : Int32)), .val (.int i), .val (.ref b1), .unset] [(.int (2 : Int32)), (.int (3 : Int32))])) _
      refine XS.icmpNo X5.here hx rfl (hb hby at_49) rfl (tlt (by decide : (2 : Int32) < (3 : Int32))).2.2.2 ?_
      show Steps p.tables e below (T5.setTop (mkF m 52 #[.val (.int p1), .val (.int p2), .val (.int p3), .val (.int p4), .val (.int p5), .val (.int p6), .val (.int (3 : Int32)), .val (.int i), .val (.ref b1), .unset] [])) _
      refine XS.aload X5.here hx rfl (hb hby at_52) rfl rfl ?_
      show Steps p.tables e below (T5.setTop (mkF m 54 #[.val (.int p1), .val (.int p2), .val (.int p3), .val (.int p4), .val (.int p5), .val (.int p6), .val (.int (3 : Int32)), .val (.int i), .val (.ref b1), .unset] [(.ref b1)])) _
      refine XS.iconst X5.here hx rfl (hb hby at_54) ?_
      show Steps p.tables e below (T5.setTop (mkF m 55 #[.val (.int p1), .val (.int p2), .val (.int p3), .val (.int p4), .val (.int p5), .val (.int p6), .val (.int (3 : Int32)), .val (.int i), .val (.ref b1), .unset] [(.int (2 : Int32)), (.ref b1)])) _
      refine XS.iloadN X5.here hx rfl (hb hby at_55) rfl ?_
      show Steps p.tables e below (T5.setTop (mkF m 56 #[.val (.int p1), .val (.int p2), .val (.int p3), .val (.int p4), .val (.int p5), .val (.int p6), .val (.int (3 : Int32)), .val (.int i), .val (.ref b1), .unset] [(.int p3), (.int (2 : Int32)), (.ref b1)])) _
      refine st7 _ ?_
      show Steps p.tables e below (T7.setTop (mkF m 57 #[.val (.int p1), .val (.int p2), .val (.int p3), .val (.int p4), .val (.int p5), .val (.int p6), .val (.int (3 : Int32)), .val (.int i), .val (.ref b1), .unset] [])) _
      refine XS.iload X7.here hx rfl (hb hby at_57) rfl ?_
      show Steps p.tables e below (T7.setTop (mkF m 59 #[.val (.int p1), .val (.int p2), .val (.int p3), .val (.int p4), .val (.int p5), .val (.int p6), .val (.int (3 : Int32)), .val (.int i), .val (.ref b1), .unset] [(.int (3 : Int32))])) _
      refine XS.iconst X7.here hx rfl (hb hby at_59) ?_
      show Steps p.tables e below (T7.setTop (mkF m 60 #[.val (.int p1), .val (.int p2), .val (.int p3), .val (.int p4), .val (.int p5), .val (.int p6), .val (.int (3 : Int32)), .val (.int i), .val (.ref b1), .unset] [(.int (3 : Int32)), (.int (3 : Int32))])) _
      refine XS.icmpYes X7.here hx rfl (pc0 := 60) (pc' := 68) rfl (hb hby at_60) rfl (flt (by decide : ¬ ((3 : Int32) < (3 : Int32)))).2.2.2 (by decide) (by decide) ?_
      show Steps p.tables e below (T7.setTop (mkF m 68 #[.val (.int p1), .val (.int p2), .val (.int p3), .val (.int p4), .val (.int p5), .val (.int p6), .val (.int (3 : Int32)), .val (.int i), .val (.ref b1), .unset] [])) _
      refine XS.iload X7.here hx rfl (hb hby at_68) rfl ?_
      show Steps p.tables e below (T7.setTop (mkF m 70 #[.val (.int p1), .val (.int p2), .val (.int p3), .val (.int p4), .val (.int p5), .val (.int p6), .val (.int (3 : Int32)), .val (.int i), .val (.ref b1), .unset] [(.int (3 : Int32))])) _
      refine XS.iconst X7.here hx rfl (hb hby at_70) ?_
      show Steps p.tables e below (T7.setTop (mkF m 71 #[.val (.int p1), .val (.int p2), .val (.int p3), .val (.int p4), .val (.int p5), .val (.int p6), .val (.int (3 : Int32)), .val (.int i), .val (.ref b1), .unset] [(.int (4 : Int32)), (.int (3 : Int32))])) _
      refine XS.icmpYes X7.here hx rfl (pc0 := 71) (pc' := 80) rfl (hb hby at_71) rfl (flt (by decide : ¬ ((4 : Int32) < (3 : Int32)))).2.2.2 (by decide) (by decide) ?_
      show Steps p.tables e below (T7.setTop (mkF m 80 #[.val (.int p1), .val (.int p2), .val (.int p3), .val (.int p4), .val (.int p5), .val (.int p6), .val (.int (3 : Int32)), .val (.int i), .val (.ref b1), .unset] [])) _
      refine stJ _ ?_
      show Steps p.tables e below (TJ.setTop (mkF m 161 #[.val (.int p1), .val (.int p2), .val (.int p3), .val (.int p4), .val (.int p5), .val (.int p6), .val (.int (3 : Int32)), .val (.int i), .val (.ref b1), .val (.int E)] [(.int (1 : Int32))])) _
      exact retN XJ hx (t := .boolean) Bd.returns (by simp) (hb hby at_161) hr
    · show Q_rm0 Z p1 p2 p3 p4 p5 p6 h0 n0 _ TJ.heap _
      rw [eJ]
      exact ⟨rfl, NJ⟩
  · obtain ⟨T1, h1, k1, X1, e1, E1, A1, st1⟩ := newP X0 hx hZ (hw _ (List.mem_of_getElem? (i := 0) rfl)) e0 (g := (mkF m 21 #[.val (.int p1), .val (.int p2), .val (.int p3), .val (.int p4), .val (.int p5), .val (.int p6), .val (.int (4 : Int32)), .val (.int i), .unset, .unset] [(.int (4 : Int32))])) rfl (hb hby at_21) rfl (by decide) (cap := 5) (by decide) (by decide) (by decide) (by decide)
    obtain ⟨b1, g1⟩ : ∃ z, z = h0.size := ⟨_, rfl⟩
    rw [← g1] at A1 st1
    have ge_b1 : n0 ≤ b1 := Nat.le_trans Z0 (Nat.le_of_eq g1.symm)
    have sz_b1 : h0.size ≤ b1 := Nat.le_trans (Keep.refl h0 []).1 (Nat.le_of_eq g1.symm)
    have Z1 : n0 ≤ h1.size := Nat.le_trans Z0 E1.1
    have Kp1 : Keep h0 h1 [] := (Keep.refl h0 []).ext E1
    have V_b1 : Arv Z h1 b1 k1 .int (4 : Int32) [(.int (0 : Int32)), (.int (0 : Int32)), (.int (0 : Int32)), (.int (0 : Int32))] (.int (0 : Int32)) := (Arv.new A1 (by decide)).pad (pad_rep [] (.int (0 : Int32)) 4)
    obtain ⟨cl2, Ar2, q2, S2, M2, Ha2, G2⟩ := id V_b1
    have hin34_cl2 : ¬ ((0 : Int32) < 0 ∨ cl2.slots.size ≤ ((0 : Int32)).toNatClampNeg) := inb_of S2 ⟨by decide, by decide⟩
    obtain ⟨T3, h3, X3, e3, W3, st3⟩ := stI X1 hx hZ e1 Ar2 (j := (0 : Int32)) hin34_cl2 (g := (mkF m 34 #[.val (.int p1), .val (.int p2), .val (.int p3), .val (.int p4), .val (.int p5), .val (.int p6), .val (.int (4 : Int32)), .val (.int i), .val (.ref b1), .unset] [(.int p1), (.int (0 : Int32)), (.ref b1)])) rfl rfl (hb hby at_34)
    have Z3 : n0 ≤ h3.size := Nat.le_trans Z1 (Keep.of_wr W3).1
    have Kp3 : Keep h0 h3 [] := Kp1.wr W3 (Or.inr sz_b1)
    have V_b1_3 : Arv Z h3 b1 k1 .int (4 : Int32) [(.int p1), (.int (0 : Int32)), (.int (0 : Int32)), (.int (0 : Int32))] (.int (0 : Int32)) := Arv.set Ar2 q2 S2 M2 Ha2 G2 rfl W3 0 rfl (Nat.le_of_ble_eq_true rfl)
    have N3 := Fr.snoc X3 N0 ge_b1
    obtain ⟨cl4, Ar4, q4, S4, M4, Ha4, G4⟩ := id V_b1_3
    have hin45_cl4 : ¬ ((1 : Int32) < 0 ∨ cl4.slots.size ≤ ((1 : Int32)).toNatClampNeg) := inb_of S4 ⟨by decide, by decide⟩
    obtain ⟨T5, h5, X5, e5, W5, st5⟩ := stI X3 hx hZ e3 Ar4 (j := (1 : Int32)) hin45_cl4 (g := (mkF m 45 #[.val (.int p1), .val (.int p2), .val (.int p3), .val (.int p4), .val (.int p5), .val (.int p6), .val (.int (4 : Int32)), .val (.int i), .val (.ref b1), .unset] [(.int p2), (.int (1 : Int32)), (.ref b1)])) rfl rfl (hb hby at_45)
    have Z5 : n0 ≤ h5.size := Nat.le_trans Z3 (Keep.of_wr W5).1
    have Kp5 : Keep h0 h5 [] := Kp3.wr W5 (Or.inr sz_b1)
    have V_b1_5 : Arv Z h5 b1 k1 .int (4 : Int32) [(.int p1), (.int p2), (.int (0 : Int32)), (.int (0 : Int32))] (.int (0 : Int32)) := Arv.set Ar4 q4 S4 M4 Ha4 G4 rfl W5 1 rfl (Nat.le_of_ble_eq_true rfl)
    have N5 := Fr.snoc X5 N3 ge_b1
    obtain ⟨cl6, Ar6, q6, S6, M6, Ha6, G6⟩ := id V_b1_5
    have hin56_cl6 : ¬ ((2 : Int32) < 0 ∨ cl6.slots.size ≤ ((2 : Int32)).toNatClampNeg) := inb_of S6 ⟨by decide, by decide⟩
    obtain ⟨T7, h7, X7, e7, W7, st7⟩ := stI X5 hx hZ e5 Ar6 (j := (2 : Int32)) hin56_cl6 (g := (mkF m 56 #[.val (.int p1), .val (.int p2), .val (.int p3), .val (.int p4), .val (.int p5), .val (.int p6), .val (.int (4 : Int32)), .val (.int i), .val (.ref b1), .unset] [(.int p3), (.int (2 : Int32)), (.ref b1)])) rfl rfl (hb hby at_56)
    have Z7 : n0 ≤ h7.size := Nat.le_trans Z5 (Keep.of_wr W7).1
    have Kp7 : Keep h0 h7 [] := Kp5.wr W7 (Or.inr sz_b1)
    have V_b1_7 : Arv Z h7 b1 k1 .int (4 : Int32) [(.int p1), (.int p2), (.int p3), (.int (0 : Int32))] (.int (0 : Int32)) := Arv.set Ar6 q6 S6 M6 Ha6 G6 rfl W7 2 rfl (Nat.le_of_ble_eq_true rfl)
    have N7 := Fr.snoc X7 N5 ge_b1
    obtain ⟨cl8, Ar8, q8, S8, M8, Ha8, G8⟩ := id V_b1_7
    have hin67_cl8 : ¬ ((3 : Int32) < 0 ∨ cl8.slots.size ≤ ((3 : Int32)).toNatClampNeg) := inb_of S8 ⟨by decide, by decide⟩
    obtain ⟨T9, h9, X9, e9, W9, st9⟩ := stI X7 hx hZ e7 Ar8 (j := (3 : Int32)) hin67_cl8 (g := (mkF m 67 #[.val (.int p1), .val (.int p2), .val (.int p3), .val (.int p4), .val (.int p5), .val (.int p6), .val (.int (4 : Int32)), .val (.int i), .val (.ref b1), .unset] [(.int p4), (.int (3 : Int32)), (.ref b1)])) rfl rfl (hb hby at_67)
    have Z9 : n0 ≤ h9.size := Nat.le_trans Z7 (Keep.of_wr W9).1
    have Kp9 : Keep h0 h9 [] := Kp7.wr W9 (Or.inr sz_b1)
    have V_b1_9 : Arv Z h9 b1 k1 .int (4 : Int32) [(.int p1), (.int p2), (.int p3), (.int p4)] (.int (0 : Int32)) := Arv.set Ar8 q8 S8 M8 Ha8 G8 rfl W9 3 rfl (Nat.le_of_ble_eq_true rfl)
    have N9 := Fr.snoc X9 N7 ge_b1
    obtain ⟨TJ, locJ, E, XJ, eJ, NJ, stJ⟩ := own_tail p1 p2 p3 p4 p5 p6 (4 : Int32) i b1 k1 [(.int p1), (.int p2), (.int p3), (.int p4)] X9 hx hZ hw hby hml hown e9 N9 Z9 V_b1_9 hi0 (by decide) (fun _ => rfl) (fun _ => rfl) (fun _ => rfl) (fun _ => rfl) (fun q => absurd q (by decide))
    obtain ⟨fs, hr, hrun, hended, hW, hsame⟩ := XJ.leave (v := some (.int (1 : Int32))) (fun h => by rw [Bd.returns] at h; cases h)
    refine ⟨_, _, pre0 _ ?_, hrun, hended, _, _, rfl, ?_, ⟨_, rfl⟩, hW, hsame.mono (by decide) (by decide)⟩
    · show Steps p.tables e below (s₁.setTop (mkF m 0 #[.val (.int p1), .val (.int p2), .val (.int p3), .val (.int p4), .val (.int p5), .val (.int p6), .unset, .unset, .unset, .unset] [])) _
      refine XS.iload X0.here hx rfl (hb hby at_0) rfl ?_
      show Steps p.tables e below (s₁.setTop (mkF m 2 #[.val (.int p1), .val (.int p2), .val (.int p3), .val (.int p4), .val (.int p5), .val (.int p6), .unset, .unset, .unset, .unset] [(.int p6)])) _
      refine XS.bipush X0.here hx rfl (hb hby at_2) ?_
      show Steps p.tables e below (s₁.setTop (mkF m 4 #[.val (.int p1), .val (.int p2), .val (.int p3), .val (.int p4), .val (.int p5), .val (.int p6), .unset, .unset, .unset, .unset] [(.int (7 : Int32)), (.int p6)])) _
      refine XS.iand X0.here hx rfl (hb hby at_4) rfl ?_
      show Steps p.tables e below (s₁.setTop (mkF m 5 #[.val (.int p1), .val (.int p2), .val (.int p3), .val (.int p4), .val (.int p5), .val (.int p6), .unset, .unset, .unset, .unset] [(.int (p6 &&& (7 : Int32)))])) _
      refine XS.bipush X0.here hx rfl (hb hby at_5) ?_
      show Steps p.tables e below (s₁.setTop (mkF m 7 #[.val (.int p1), .val (.int p2), .val (.int p3), .val (.int p4), .val (.int p5), .val (.int p6), .unset, .unset, .unset, .unset] [(.int (6 : Int32)), (.int (p6 &&& (7 : Int32)))])) _
      refine iremM X0 hx rfl (hb hby at_7) rfl (by decide) ?_
      rw [show ((p6 &&& (7 : Int32)) % (6 : Int32)) = (4 : Int32) from hn]
      show Steps p.tables e below (s₁.setTop (mkF m 8 #[.val (.int p1), .val (.int p2), .val (.int p3), .val (.int p4), .val (.int p5), .val (.int p6), .unset, .unset, .unset, .unset] [(.int (4 : Int32))])) _
      refine XS.istore X0.here hx rfl (hb hby at_8) rfl (l' := #[.val (.int p1), .val (.int p2), .val (.int p3), .val (.int p4), .val (.int p5), .val (.int p6), .val (.int (4 : Int32)), .unset, .unset, .unset]) rfl ?_
      show Steps p.tables e below (s₁.setTop (mkF m 10 #[.val (.int p1), .val (.int p2), .val (.int p3), .val (.int p4), .val (.int p5), .val (.int p6), .val (.int (4 : Int32)), .unset, .unset, .unset] [])) _
      refine XS.iload X0.here hx rfl (hb hby at_10) rfl ?_
      show Steps p.tables e below (s₁.setTop (mkF m 12 #[.val (.int p1), .val (.int p2), .val (.int p3), .val (.int p4), .val (.int p5), .val (.int p6), .val (.int (4 : Int32)), .unset, .unset, .unset] [(.int p6)])) _
      refine XS.iconst X0.here hx rfl (hb hby at_12) ?_
      show Steps p.tables e below (s₁.setTop (mkF m 13 #[.val (.int p1), .val (.int p2), .val (.int p3), .val (.int p4), .val (.int p5), .val (.int p6), .val (.int (4 : Int32)), .unset, .unset, .unset] [(.int (3 : Int32)), (.int p6)])) _
      refine XS.iushr X0.here hx rfl (hb hby at_13) rfl ?_
      show Steps p.tables e below (s₁.setTop (mkF m 14 #[.val (.int p1), .val (.int p2), .val (.int p3), .val (.int p4), .val (.int p5), .val (.int p6), .val (.int (4 : Int32)), .unset, .unset, .unset] [(.int ((p6.toUInt32 >>> ((3 : Int32) &&& 31).toUInt32).toInt32))])) _
      refine XS.bipush X0.here hx rfl (hb hby at_14) ?_
      show Steps p.tables e below (s₁.setTop (mkF m 16 #[.val (.int p1), .val (.int p2), .val (.int p3), .val (.int p4), .val (.int p5), .val (.int p6), .val (.int (4 : Int32)), .unset, .unset, .unset] [(.int (7 : Int32)), (.int ((p6.toUInt32 >>> ((3 : Int32) &&& 31).toUInt32).toInt32))])) _
      refine XS.iand X0.here hx rfl (hb hby at_16) rfl ?_
      rw [show (((p6.toUInt32 >>> ((3 : Int32) &&& 31).toUInt32).toInt32) &&& (7 : Int32)) = i from hi]
      show Steps p.tables e below (s₁.setTop (mkF m 17 #[.val (.int p1), .val (.int p2), .val (.int p3), .val (.int p4), .val (.int p5), .val (.int p6), .val (.int (4 : Int32)), .unset, .unset, .unset] [(.int i)])) _
      refine XS.istore X0.here hx rfl (hb hby at_17) rfl (l' := #[.val (.int p1), .val (.int p2), .val (.int p3), .val (.int p4), .val (.int p5), .val (.int p6), .val (.int (4 : Int32)), .val (.int i), .unset, .unset]) rfl ?_
      show Steps p.tables e below (s₁.setTop (mkF m 19 #[.val (.int p1), .val (.int p2), .val (.int p3), .val (.int p4), .val (.int p5), .val (.int p6), .val (.int (4 : Int32)), .val (.int i), .unset, .unset] [])) _
      refine XS.iload X0.here hx rfl (hb hby at_19) rfl ?_
      show Steps p.tables e below (s₁.setTop (mkF m 21 #[.val (.int p1), .val (.int p2), .val (.int p3), .val (.int p4), .val (.int p5), .val (.int p6), .val (.int (4 : Int32)), .val (.int i), .unset, .unset] [(.int (4 : Int32))])) _
      refine st1 _ ?_
      show Steps p.tables e below (T1.setTop (mkF m 23 #[.val (.int p1), .val (.int p2), .val (.int p3), .val (.int p4), .val (.int p5), .val (.int p6), .val (.int (4 : Int32)), .val (.int i), .unset, .unset] [(.ref b1)])) _
      refine XS.astore X1.here hx rfl (hb hby at_23) rfl rfl (l' := #[.val (.int p1), .val (.int p2), .val (.int p3), .val (.int p4), .val (.int p5), .val (.int p6), .val (.int (4 : Int32)), .val (.int i), .val (.ref b1), .unset]) rfl ?_
      show Steps p.tables e below (T1.setTop (mkF m 25 #[.val (.int p1), .val (.int p2), .val (.int p3), .val (.int p4), .val (.int p5), .val (.int p6), .val (.int (4 : Int32)), .val (.int i), .val (.ref b1), .unset] [])) _
      refine XS.iload X1.here hx rfl (hb hby at_25) rfl ?_
      show Steps p.tables e below (T1.setTop (mkF m 27 #[.val (.int p1), .val (.int p2), .val (.int p3), .val (.int p4), .val (.int p5), .val (.int p6), .val (.int (4 : Int32)), .val (.int i), .val (.ref b1), .unset] [(.int (4 : Int32))])) _
      refine XS.ifNo X1.here hx rfl (hb hby at_27) rfl ((if0 _ _).trans (tlt (by decide : (0 : Int32) < (4 : Int32))).2.2.2) ?_
      show Steps p.tables e below (T1.setTop (mkF m 30 #[.val (.int p1), .val (.int p2), .val (.int p3), .val (.int p4), .val (.int p5), .val (.int p6), .val (.int (4 : Int32)), .val (.int i), .val (.ref b1), .unset] [])) _
      refine XS.aload X1.here hx rfl (hb hby at_30) rfl rfl ?_
      show Steps p.tables e below (T1.setTop (mkF m 32 #[.val (.int p1), .val (.int p2), .val (.int p3), .val (.int p4), .val (.int p5), .val (.int p6), .val (.int (4 : Int32)), .val (.int i), .val (.ref b1), .unset] [(.ref b1)])) _
      refine XS.iconst X1.here hx rfl (hb hby at_32) ?_
      show Steps p.tables e below (T1.setTop (mkF m 33 #[.val (.int p1), .val (.int p2), .val (.int p3), .val (.int p4), .val (.int p5), .val (.int p6), .val (.int (4 : Int32)), .val (.int i), .val (.ref b1), .unset] [(.int (0 : Int32)), (.ref b1)])) _
      refine XS.iloadN X1.here hx rfl (hb hby at_33) rfl ?_
      show Steps p.tables e below (T1.setTop (mkF m 34 #[.val (.int p1), .val (.int p2), .val (.int p3), .val (.int p4), .val (.int p5), .val (.int p6), .val (.int (4 : Int32)), .val (.int i), .val (.ref b1), .unset] [(.int p1), (.int (0 : Int32)), (.ref b1)])) _
      refine st3 _ ?_
      show Steps p.tables e below (T3.setTop (mkF m 35 #[.val (.int p1), .val (.int p2), .val (.int p3), .val (.int p4), .val (.int p5), .val (.int p6), .val (.int (4 : Int32)), .val (.int i), .val (.ref b1), .unset] [])) _
      refine XS.iload X3.here hx rfl (hb hby at_35) rfl ?_
      show Steps p.tables e below (T3.setTop (mkF m 37 #[.val (.int p1), .val (.int p2), .val (.int p3), .val (.int p4), .val (.int p5), .val (.int p6), .val (.int (4 : Int32)), .val (.int i), .val (.ref b1), .unset] [(.int (4 : Int32))])) _
      refine XS.iconst X3.here hx rfl (hb hby at_37) ?_
      show Steps p.tables e below (T3.setTop (mkF m 38 #[.val (.int p1), .val (.int p2), .val (.int p3), .val (.int p4), .val (.int p5), .val (.int p6), .val (.int (4 : Int32)), .val (.int i), .val (.ref b1), .unset] [(.int (1 : Int32)), (.int (4 : Int32))])) _
      refine XS.icmpNo X3.here hx rfl (hb hby at_38) rfl (tlt (by decide : (1 : Int32) < (4 : Int32))).2.2.2 ?_
      show Steps p.tables e below (T3.setTop (mkF m 41 #[.val (.int p1), .val (.int p2), .val (.int p3), .val (.int p4), .val (.int p5), .val (.int p6), .val (.int (4 : Int32)), .val (.int i), .val (.ref b1), .unset] [])) _
      refine XS.aload X3.here hx rfl (hb hby at_41) rfl rfl ?_
      show Steps p.tables e below (T3.setTop (mkF m 43 #[.val (.int p1), .val (.int p2), .val (.int p3), .val (.int p4), .val (.int p5), .val (.int p6), .val (.int (4 : Int32)), .val (.int i), .val (.ref b1), .unset] [(.ref b1)])) _
      refine XS.iconst X3.here hx rfl (hb hby at_43) ?_
      show Steps p.tables e below (T3.setTop (mkF m 44 #[.val (.int p1), .val (.int p2), .val (.int p3), .val (.int p4), .val (.int p5), .val (.int p6), .val (.int (4 : Int32)), .val (.int i), .val (.ref b1), .unset] [(.int (1 : Int32)), (.ref b1)])) _
      refine XS.iloadN X3.here hx rfl (hb hby at_44) rfl ?_
      show Steps p.tables e below (T3.setTop (mkF m 45 #[.val (.int p1), .val (.int p2), .val (.int p3), .val (.int p4), .val (.int p5), .val (.int p6), .val (.int (4 : Int32)), .val (.int i), .val (.ref b1), .unset] [(.int p2), (.int (1 : Int32)), (.ref b1)])) _
      refine st5 _ ?_
      show Steps p.tables e below (T5.setTop (mkF m 46 #[.val (.int p1), .val (.int p2), .val (.int p3), .val (.int p4), .val (.int p5), .val (.int p6), .val (.int (4 : Int32)), .val (.int i), .val (.ref b1), .unset] [])) _
      refine XS.iload X5.here hx rfl (hb hby at_46) rfl ?_
      show Steps p.tables e below (T5.setTop (mkF m 48 #[.val (.int p1), .val (.int p2), .val (.int p3), .val (.int p4), .val (.int p5), .val (.int p6), .val (.int (4 : Int32)), .val (.int i), .val (.ref b1), .unset] [(.int (4 : Int32))])) _
      refine XS.iconst X5.here hx rfl (hb hby at_48) ?_
      show Steps p.tables e below (T5.setTop (mkF m 49 #[.val (.int p1), .val (.int p2), .val (.int p3), .val (.int p4), .val (.int p5), .val (.int p6), .val (.int (4 : Int32)), .val (.int i), .val (.ref b1), .unset] [(.int (2 : Int32)), (.int (4 : Int32))])) _
      refine XS.icmpNo X5.here hx rfl (hb hby at_49) rfl (tlt (by decide : (2 : Int32) < (4 : Int32))).2.2.2 ?_
      show Steps p.tables e below (T5.setTop (mkF m 52 #[.val (.int p1), .val (.int p2), .val (.int p3), .val (.int p4), .val (.int p5), .val (.int p6), .val (.int (4 : Int32)), .val (.int i), .val (.ref b1), .unset] [])) _
      refine XS.aload X5.here hx rfl (hb hby at_52) rfl rfl ?_
      show Steps p.tables e below (T5.setTop (mkF m 54 #[.val (.int p1), .val (.int p2), .val (.int p3), .val (.int p4), .val (.int p5), .val (.int p6), .val (.int (4 : Int32)), .val (.int i), .val (.ref b1), .unset] [(.ref b1)])) _
      refine XS.iconst X5.here hx rfl (hb hby at_54) ?_
      show Steps p.tables e below (T5.setTop (mkF m 55 #[.val (.int p1), .val (.int p2), .val (.int p3), .val (.int p4), .val (.int p5), .val (.int p6), .val (.int (4 : Int32)), .val (.int i), .val (.ref b1), .unset] [(.int (2 : Int32)), (.ref b1)])) _
      refine XS.iloadN X5.here hx rfl (hb hby at_55) rfl ?_
      show Steps p.tables e below (T5.setTop (mkF m 56 #[.val (.int p1), .val (.int p2), .val (.int p3), .val (.int p4), .val (.int p5), .val (.int p6), .val (.int (4 : Int32)), .val (.int i), .val (.ref b1), .unset] [(.int p3), (.int (2 : Int32)), (.ref b1)])) _
      refine st7 _ ?_
      show Steps p.tables e below (T7.setTop (mkF m 57 #[.val (.int p1), .val (.int p2), .val (.int p3), .val (.int p4), .val (.int p5), .val (.int p6), .val (.int (4 : Int32)), .val (.int i), .val (.ref b1), .unset] [])) _
      refine XS.iload X7.here hx rfl (hb hby at_57) rfl ?_
      show Steps p.tables e below (T7.setTop (mkF m 59 #[.val (.int p1), .val (.int p2), .val (.int p3), .val (.int p4), .val (.int p5), .val (.int p6), .val (.int (4 : Int32)), .val (.int i), .val (.ref b1), .unset] [(.int (4 : Int32))])) _
      refine XS.iconst X7.here hx rfl (hb hby at_59) ?_
      show Steps p.tables e below (T7.setTop (mkF m 60 #[.val (.int p1), .val (.int p2), .val (.int p3), .val (.int p4), .val (.int p5), .val (.int p6), .val (.int (4 : Int32)), .val (.int i), .val (.ref b1), .unset] [(.int (3 : Int32)), (.int (4 : Int32))])) _
      refine XS.icmpNo X7.here hx rfl (hb hby at_60) rfl (tlt (by decide : (3 : Int32) < (4 : Int32))).2.2.2 ?_
      show Steps p.tables e below (T7.setTop (mkF m 63 #[.val (.int p1), .val (.int p2), .val (.int p3), .val (.int p4), .val (.int p5), .val (.int p6), .val (.int (4 : Int32)), .val (.int i), .val (.ref b1), .unset] [])) _
      refine XS.aload X7.here hx rfl (hb hby at_63) rfl rfl ?_
      show Steps p.tables e below (T7.setTop (mkF m 65 #[.val (.int p1), .val (.int p2), .val (.int p3), .val (.int p4), .val (.int p5), .val (.int p6), .val (.int (4 : Int32)), .val (.int i), .val (.ref b1), .unset] [(.ref b1)])) _
      refine XS.iconst X7.here hx rfl (hb hby at_65) ?_
      show Steps p.tables e below (T7.setTop (mkF m 66 #[.val (.int p1), .val (.int p2), .val (.int p3), .val (.int p4), .val (.int p5), .val (.int p6), .val (.int (4 : Int32)), .val (.int i), .val (.ref b1), .unset] [(.int (3 : Int32)), (.ref b1)])) _
      refine XS.iloadN X7.here hx rfl (hb hby at_66) rfl ?_
      show Steps p.tables e below (T7.setTop (mkF m 67 #[.val (.int p1), .val (.int p2), .val (.int p3), .val (.int p4), .val (.int p5), .val (.int p6), .val (.int (4 : Int32)), .val (.int i), .val (.ref b1), .unset] [(.int p4), (.int (3 : Int32)), (.ref b1)])) _
      refine st9 _ ?_
      show Steps p.tables e below (T9.setTop (mkF m 68 #[.val (.int p1), .val (.int p2), .val (.int p3), .val (.int p4), .val (.int p5), .val (.int p6), .val (.int (4 : Int32)), .val (.int i), .val (.ref b1), .unset] [])) _
      refine XS.iload X9.here hx rfl (hb hby at_68) rfl ?_
      show Steps p.tables e below (T9.setTop (mkF m 70 #[.val (.int p1), .val (.int p2), .val (.int p3), .val (.int p4), .val (.int p5), .val (.int p6), .val (.int (4 : Int32)), .val (.int i), .val (.ref b1), .unset] [(.int (4 : Int32))])) _
      refine XS.iconst X9.here hx rfl (hb hby at_70) ?_
      show Steps p.tables e below (T9.setTop (mkF m 71 #[.val (.int p1), .val (.int p2), .val (.int p3), .val (.int p4), .val (.int p5), .val (.int p6), .val (.int (4 : Int32)), .val (.int i), .val (.ref b1), .unset] [(.int (4 : Int32)), (.int (4 : Int32))])) _
      refine XS.icmpYes X9.here hx rfl (pc0 := 71) (pc' := 80) rfl (hb hby at_71) rfl (flt (by decide : ¬ ((4 : Int32) < (4 : Int32)))).2.2.2 (by decide) (by decide) ?_
      show Steps p.tables e below (T9.setTop (mkF m 80 #[.val (.int p1), .val (.int p2), .val (.int p3), .val (.int p4), .val (.int p5), .val (.int p6), .val (.int (4 : Int32)), .val (.int i), .val (.ref b1), .unset] [])) _
      refine stJ _ ?_
      show Steps p.tables e below (TJ.setTop (mkF m 161 #[.val (.int p1), .val (.int p2), .val (.int p3), .val (.int p4), .val (.int p5), .val (.int p6), .val (.int (4 : Int32)), .val (.int i), .val (.ref b1), .val (.int E)] [(.int (1 : Int32))])) _
      exact retN XJ hx (t := .boolean) Bd.returns (by simp) (hb hby at_161) hr
    · show Q_rm0 Z p1 p2 p3 p4 p5 p6 h0 n0 _ TJ.heap _
      rw [eJ]
      exact ⟨rfl, NJ⟩
  · obtain ⟨T1, h1, k1, X1, e1, E1, A1, st1⟩ := newP X0 hx hZ (hw _ (List.mem_of_getElem? (i := 0) rfl)) e0 (g := (mkF m 21 #[.val (.int p1), .val (.int p2), .val (.int p3), .val (.int p4), .val (.int p5), .val (.int p6), .val (.int (5 : Int32)), .val (.int i), .unset, .unset] [(.int (5 : Int32))])) rfl (hb hby at_21) rfl (by decide) (cap := 5) (by decide) (by decide) (by decide) (by decide)
    obtain ⟨b1, g1⟩ : ∃ z, z = h0.size := ⟨_, rfl⟩
    rw [← g1] at A1 st1
    have ge_b1 : n0 ≤ b1 := Nat.le_trans Z0 (Nat.le_of_eq g1.symm)
    have sz_b1 : h0.size ≤ b1 := Nat.le_trans (Keep.refl h0 []).1 (Nat.le_of_eq g1.symm)
    have Z1 : n0 ≤ h1.size := Nat.le_trans Z0 E1.1
    have Kp1 : Keep h0 h1 [] := (Keep.refl h0 []).ext E1
    have V_b1 : Arv Z h1 b1 k1 .int (5 : Int32) [(.int (0 : Int32)), (.int (0 : Int32)), (.int (0 : Int32)), (.int (0 : Int32)), (.int (0 : Int32))] (.int (0 : Int32)) := (Arv.new A1 (by decide)).pad (pad_rep [] (.int (0 : Int32)) 5)
    obtain ⟨cl2, Ar2, q2, S2, M2, Ha2, G2⟩ := id V_b1
    have hin34_cl2 : ¬ ((0 : Int32) < 0 ∨ cl2.slots.size ≤ ((0 : Int32)).toNatClampNeg) := inb_of S2 ⟨by decide, by decide⟩
    obtain ⟨T3, h3, X3, e3, W3, st3⟩ := stI X1 hx hZ e1 Ar2 (j := (0 : Int32)) hin34_cl2 (g := (mkF m 34 #[.val (.int p1), .val (.int p2), .val (.int p3), .val (.int p4), .val (.int p5), .val (.int p6), .val (.int (5 : Int32)), .val (.int i), .val (.ref b1), .unset] [(.int p1), (.int (0 : Int32)), (.ref b1)])) rfl rfl (hb hby at_34)
    have Z3 : n0 ≤ h3.size := Nat.le_trans Z1 (Keep.of_wr W3).1
    have Kp3 : Keep h0 h3 [] := Kp1.wr W3 (Or.inr sz_b1)
    have V_b1_3 : Arv Z h3 b1 k1 .int (5 : Int32) [(.int p1), (.int (0 : Int32)), (.int (0 : Int32)), (.int (0 : Int32)), (.int (0 : Int32))] (.int (0 : Int32)) := Arv.set Ar2 q2 S2 M2 Ha2 G2 rfl W3 0 rfl (Nat.le_of_ble_eq_true rfl)
    have N3 := Fr.snoc X3 N0 ge_b1
    obtain ⟨cl4, Ar4, q4, S4, M4, Ha4, G4⟩ := id V_b1_3
    have hin45_cl4 : ¬ ((1 : Int32) < 0 ∨ cl4.slots.size ≤ ((1 : Int32)).toNatClampNeg) := inb_of S4 ⟨by decide, by decide⟩
    obtain ⟨T5, h5, X5, e5, W5, st5⟩ := stI X3 hx hZ e3 Ar4 (j := (1 : Int32)) hin45_cl4 (g := (mkF m 45 #[.val (.int p1), .val (.int p2), .val (.int p3), .val (.int p4), .val (.int p5), .val (.int p6), .val (.int (5 : Int32)), .val (.int i), .val (.ref b1), .unset] [(.int p2), (.int (1 : Int32)), (.ref b1)])) rfl rfl (hb hby at_45)
    have Z5 : n0 ≤ h5.size := Nat.le_trans Z3 (Keep.of_wr W5).1
    have Kp5 : Keep h0 h5 [] := Kp3.wr W5 (Or.inr sz_b1)
    have V_b1_5 : Arv Z h5 b1 k1 .int (5 : Int32) [(.int p1), (.int p2), (.int (0 : Int32)), (.int (0 : Int32)), (.int (0 : Int32))] (.int (0 : Int32)) := Arv.set Ar4 q4 S4 M4 Ha4 G4 rfl W5 1 rfl (Nat.le_of_ble_eq_true rfl)
    have N5 := Fr.snoc X5 N3 ge_b1
    obtain ⟨cl6, Ar6, q6, S6, M6, Ha6, G6⟩ := id V_b1_5
    have hin56_cl6 : ¬ ((2 : Int32) < 0 ∨ cl6.slots.size ≤ ((2 : Int32)).toNatClampNeg) := inb_of S6 ⟨by decide, by decide⟩
    obtain ⟨T7, h7, X7, e7, W7, st7⟩ := stI X5 hx hZ e5 Ar6 (j := (2 : Int32)) hin56_cl6 (g := (mkF m 56 #[.val (.int p1), .val (.int p2), .val (.int p3), .val (.int p4), .val (.int p5), .val (.int p6), .val (.int (5 : Int32)), .val (.int i), .val (.ref b1), .unset] [(.int p3), (.int (2 : Int32)), (.ref b1)])) rfl rfl (hb hby at_56)
    have Z7 : n0 ≤ h7.size := Nat.le_trans Z5 (Keep.of_wr W7).1
    have Kp7 : Keep h0 h7 [] := Kp5.wr W7 (Or.inr sz_b1)
    have V_b1_7 : Arv Z h7 b1 k1 .int (5 : Int32) [(.int p1), (.int p2), (.int p3), (.int (0 : Int32)), (.int (0 : Int32))] (.int (0 : Int32)) := Arv.set Ar6 q6 S6 M6 Ha6 G6 rfl W7 2 rfl (Nat.le_of_ble_eq_true rfl)
    have N7 := Fr.snoc X7 N5 ge_b1
    obtain ⟨cl8, Ar8, q8, S8, M8, Ha8, G8⟩ := id V_b1_7
    have hin67_cl8 : ¬ ((3 : Int32) < 0 ∨ cl8.slots.size ≤ ((3 : Int32)).toNatClampNeg) := inb_of S8 ⟨by decide, by decide⟩
    obtain ⟨T9, h9, X9, e9, W9, st9⟩ := stI X7 hx hZ e7 Ar8 (j := (3 : Int32)) hin67_cl8 (g := (mkF m 67 #[.val (.int p1), .val (.int p2), .val (.int p3), .val (.int p4), .val (.int p5), .val (.int p6), .val (.int (5 : Int32)), .val (.int i), .val (.ref b1), .unset] [(.int p4), (.int (3 : Int32)), (.ref b1)])) rfl rfl (hb hby at_67)
    have Z9 : n0 ≤ h9.size := Nat.le_trans Z7 (Keep.of_wr W9).1
    have Kp9 : Keep h0 h9 [] := Kp7.wr W9 (Or.inr sz_b1)
    have V_b1_9 : Arv Z h9 b1 k1 .int (5 : Int32) [(.int p1), (.int p2), (.int p3), (.int p4), (.int (0 : Int32))] (.int (0 : Int32)) := Arv.set Ar8 q8 S8 M8 Ha8 G8 rfl W9 3 rfl (Nat.le_of_ble_eq_true rfl)
    have N9 := Fr.snoc X9 N7 ge_b1
    obtain ⟨cl10, Ar10, q10, S10, M10, Ha10, G10⟩ := id V_b1_9
    have hin79_cl10 : ¬ ((4 : Int32) < 0 ∨ cl10.slots.size ≤ ((4 : Int32)).toNatClampNeg) := inb_of S10 ⟨by decide, by decide⟩
    obtain ⟨T11, h11, X11, e11, W11, st11⟩ := stI X9 hx hZ e9 Ar10 (j := (4 : Int32)) hin79_cl10 (g := (mkF m 79 #[.val (.int p1), .val (.int p2), .val (.int p3), .val (.int p4), .val (.int p5), .val (.int p6), .val (.int (5 : Int32)), .val (.int i), .val (.ref b1), .unset] [(.int p5), (.int (4 : Int32)), (.ref b1)])) rfl rfl (hb hby at_79)
    have Z11 : n0 ≤ h11.size := Nat.le_trans Z9 (Keep.of_wr W11).1
    have Kp11 : Keep h0 h11 [] := Kp9.wr W11 (Or.inr sz_b1)
    have V_b1_11 : Arv Z h11 b1 k1 .int (5 : Int32) [(.int p1), (.int p2), (.int p3), (.int p4), (.int p5)] (.int (0 : Int32)) := Arv.set Ar10 q10 S10 M10 Ha10 G10 rfl W11 4 rfl (Nat.le_of_ble_eq_true rfl)
    have N11 := Fr.snoc X11 N9 ge_b1
    obtain ⟨TJ, locJ, E, XJ, eJ, NJ, stJ⟩ := own_tail p1 p2 p3 p4 p5 p6 (5 : Int32) i b1 k1 [(.int p1), (.int p2), (.int p3), (.int p4), (.int p5)] X11 hx hZ hw hby hml hown e11 N11 Z11 V_b1_11 hi0 (by decide) (fun _ => rfl) (fun _ => rfl) (fun _ => rfl) (fun _ => rfl) (fun _ => rfl)
    obtain ⟨fs, hr, hrun, hended, hW, hsame⟩ := XJ.leave (v := some (.int (1 : Int32))) (fun h => by rw [Bd.returns] at h; cases h)
    refine ⟨_, _, pre0 _ ?_, hrun, hended, _, _, rfl, ?_, ⟨_, rfl⟩, hW, hsame.mono (by decide) (by decide)⟩
    · show Steps p.tables e below (s₁.setTop (mkF m 0 #[.val (.int p1), .val (.int p2), .val (.int p3), .val (.int p4), .val (.int p5), .val (.int p6), .unset, .unset, .unset, .unset] [])) _
      refine XS.iload X0.here hx rfl (hb hby at_0) rfl ?_
      show Steps p.tables e below (s₁.setTop (mkF m 2 #[.val (.int p1), .val (.int p2), .val (.int p3), .val (.int p4), .val (.int p5), .val (.int p6), .unset, .unset, .unset, .unset] [(.int p6)])) _
      refine XS.bipush X0.here hx rfl (hb hby at_2) ?_
      show Steps p.tables e below (s₁.setTop (mkF m 4 #[.val (.int p1), .val (.int p2), .val (.int p3), .val (.int p4), .val (.int p5), .val (.int p6), .unset, .unset, .unset, .unset] [(.int (7 : Int32)), (.int p6)])) _
      refine XS.iand X0.here hx rfl (hb hby at_4) rfl ?_
      show Steps p.tables e below (s₁.setTop (mkF m 5 #[.val (.int p1), .val (.int p2), .val (.int p3), .val (.int p4), .val (.int p5), .val (.int p6), .unset, .unset, .unset, .unset] [(.int (p6 &&& (7 : Int32)))])) _
      refine XS.bipush X0.here hx rfl (hb hby at_5) ?_
      show Steps p.tables e below (s₁.setTop (mkF m 7 #[.val (.int p1), .val (.int p2), .val (.int p3), .val (.int p4), .val (.int p5), .val (.int p6), .unset, .unset, .unset, .unset] [(.int (6 : Int32)), (.int (p6 &&& (7 : Int32)))])) _
      refine iremM X0 hx rfl (hb hby at_7) rfl (by decide) ?_
      rw [show ((p6 &&& (7 : Int32)) % (6 : Int32)) = (5 : Int32) from hn]
      show Steps p.tables e below (s₁.setTop (mkF m 8 #[.val (.int p1), .val (.int p2), .val (.int p3), .val (.int p4), .val (.int p5), .val (.int p6), .unset, .unset, .unset, .unset] [(.int (5 : Int32))])) _
      refine XS.istore X0.here hx rfl (hb hby at_8) rfl (l' := #[.val (.int p1), .val (.int p2), .val (.int p3), .val (.int p4), .val (.int p5), .val (.int p6), .val (.int (5 : Int32)), .unset, .unset, .unset]) rfl ?_
      show Steps p.tables e below (s₁.setTop (mkF m 10 #[.val (.int p1), .val (.int p2), .val (.int p3), .val (.int p4), .val (.int p5), .val (.int p6), .val (.int (5 : Int32)), .unset, .unset, .unset] [])) _
      refine XS.iload X0.here hx rfl (hb hby at_10) rfl ?_
      show Steps p.tables e below (s₁.setTop (mkF m 12 #[.val (.int p1), .val (.int p2), .val (.int p3), .val (.int p4), .val (.int p5), .val (.int p6), .val (.int (5 : Int32)), .unset, .unset, .unset] [(.int p6)])) _
      refine XS.iconst X0.here hx rfl (hb hby at_12) ?_
      show Steps p.tables e below (s₁.setTop (mkF m 13 #[.val (.int p1), .val (.int p2), .val (.int p3), .val (.int p4), .val (.int p5), .val (.int p6), .val (.int (5 : Int32)), .unset, .unset, .unset] [(.int (3 : Int32)), (.int p6)])) _
      refine XS.iushr X0.here hx rfl (hb hby at_13) rfl ?_
      show Steps p.tables e below (s₁.setTop (mkF m 14 #[.val (.int p1), .val (.int p2), .val (.int p3), .val (.int p4), .val (.int p5), .val (.int p6), .val (.int (5 : Int32)), .unset, .unset, .unset] [(.int ((p6.toUInt32 >>> ((3 : Int32) &&& 31).toUInt32).toInt32))])) _
      refine XS.bipush X0.here hx rfl (hb hby at_14) ?_
      show Steps p.tables e below (s₁.setTop (mkF m 16 #[.val (.int p1), .val (.int p2), .val (.int p3), .val (.int p4), .val (.int p5), .val (.int p6), .val (.int (5 : Int32)), .unset, .unset, .unset] [(.int (7 : Int32)), (.int ((p6.toUInt32 >>> ((3 : Int32) &&& 31).toUInt32).toInt32))])) _
      refine XS.iand X0.here hx rfl (hb hby at_16) rfl ?_
      rw [show (((p6.toUInt32 >>> ((3 : Int32) &&& 31).toUInt32).toInt32) &&& (7 : Int32)) = i from hi]
      show Steps p.tables e below (s₁.setTop (mkF m 17 #[.val (.int p1), .val (.int p2), .val (.int p3), .val (.int p4), .val (.int p5), .val (.int p6), .val (.int (5 : Int32)), .unset, .unset, .unset] [(.int i)])) _
      refine XS.istore X0.here hx rfl (hb hby at_17) rfl (l' := #[.val (.int p1), .val (.int p2), .val (.int p3), .val (.int p4), .val (.int p5), .val (.int p6), .val (.int (5 : Int32)), .val (.int i), .unset, .unset]) rfl ?_
      show Steps p.tables e below (s₁.setTop (mkF m 19 #[.val (.int p1), .val (.int p2), .val (.int p3), .val (.int p4), .val (.int p5), .val (.int p6), .val (.int (5 : Int32)), .val (.int i), .unset, .unset] [])) _
      refine XS.iload X0.here hx rfl (hb hby at_19) rfl ?_
      show Steps p.tables e below (s₁.setTop (mkF m 21 #[.val (.int p1), .val (.int p2), .val (.int p3), .val (.int p4), .val (.int p5), .val (.int p6), .val (.int (5 : Int32)), .val (.int i), .unset, .unset] [(.int (5 : Int32))])) _
      refine st1 _ ?_
      show Steps p.tables e below (T1.setTop (mkF m 23 #[.val (.int p1), .val (.int p2), .val (.int p3), .val (.int p4), .val (.int p5), .val (.int p6), .val (.int (5 : Int32)), .val (.int i), .unset, .unset] [(.ref b1)])) _
      refine XS.astore X1.here hx rfl (hb hby at_23) rfl rfl (l' := #[.val (.int p1), .val (.int p2), .val (.int p3), .val (.int p4), .val (.int p5), .val (.int p6), .val (.int (5 : Int32)), .val (.int i), .val (.ref b1), .unset]) rfl ?_
      show Steps p.tables e below (T1.setTop (mkF m 25 #[.val (.int p1), .val (.int p2), .val (.int p3), .val (.int p4), .val (.int p5), .val (.int p6), .val (.int (5 : Int32)), .val (.int i), .val (.ref b1), .unset] [])) _
      refine XS.iload X1.here hx rfl (hb hby at_25) rfl ?_
      show Steps p.tables e below (T1.setTop (mkF m 27 #[.val (.int p1), .val (.int p2), .val (.int p3), .val (.int p4), .val (.int p5), .val (.int p6), .val (.int (5 : Int32)), .val (.int i), .val (.ref b1), .unset] [(.int (5 : Int32))])) _
      refine XS.ifNo X1.here hx rfl (hb hby at_27) rfl ((if0 _ _).trans (tlt (by decide : (0 : Int32) < (5 : Int32))).2.2.2) ?_
      show Steps p.tables e below (T1.setTop (mkF m 30 #[.val (.int p1), .val (.int p2), .val (.int p3), .val (.int p4), .val (.int p5), .val (.int p6), .val (.int (5 : Int32)), .val (.int i), .val (.ref b1), .unset] [])) _
      refine XS.aload X1.here hx rfl (hb hby at_30) rfl rfl ?_
      show Steps p.tables e below (T1.setTop (mkF m 32 #[.val (.int p1), .val (.int p2), .val (.int p3), .val (.int p4), .val (.int p5), .val (.int p6), .val (.int (5 : Int32)), .val (.int i), .val (.ref b1), .unset] [(.ref b1)])) _
      refine XS.iconst X1.here hx rfl (hb hby at_32) ?_
      show Steps p.tables e below (T1.setTop (mkF m 33 #[.val (.int p1), .val (.int p2), .val (.int p3), .val (.int p4), .val (.int p5), .val (.int p6), .val (.int (5 : Int32)), .val (.int i), .val (.ref b1), .unset] [(.int (0 : Int32)), (.ref b1)])) _
      refine XS.iloadN X1.here hx rfl (hb hby at_33) rfl ?_
      show Steps p.tables e below (T1.setTop (mkF m 34 #[.val (.int p1), .val (.int p2), .val (.int p3), .val (.int p4), .val (.int p5), .val (.int p6), .val (.int (5 : Int32)), .val (.int i), .val (.ref b1), .unset] [(.int p1), (.int (0 : Int32)), (.ref b1)])) _
      refine st3 _ ?_
      show Steps p.tables e below (T3.setTop (mkF m 35 #[.val (.int p1), .val (.int p2), .val (.int p3), .val (.int p4), .val (.int p5), .val (.int p6), .val (.int (5 : Int32)), .val (.int i), .val (.ref b1), .unset] [])) _
      refine XS.iload X3.here hx rfl (hb hby at_35) rfl ?_
      show Steps p.tables e below (T3.setTop (mkF m 37 #[.val (.int p1), .val (.int p2), .val (.int p3), .val (.int p4), .val (.int p5), .val (.int p6), .val (.int (5 : Int32)), .val (.int i), .val (.ref b1), .unset] [(.int (5 : Int32))])) _
      refine XS.iconst X3.here hx rfl (hb hby at_37) ?_
      show Steps p.tables e below (T3.setTop (mkF m 38 #[.val (.int p1), .val (.int p2), .val (.int p3), .val (.int p4), .val (.int p5), .val (.int p6), .val (.int (5 : Int32)), .val (.int i), .val (.ref b1), .unset] [(.int (1 : Int32)), (.int (5 : Int32))])) _
      refine XS.icmpNo X3.here hx rfl (hb hby at_38) rfl (tlt (by decide : (1 : Int32) < (5 : Int32))).2.2.2 ?_
      show Steps p.tables e below (T3.setTop (mkF m 41 #[.val (.int p1), .val (.int p2), .val (.int p3), .val (.int p4), .val (.int p5), .val (.int p6), .val (.int (5 : Int32)), .val (.int i), .val (.ref b1), .unset] [])) _
      refine XS.aload X3.here hx rfl (hb hby at_41) rfl rfl ?_
      show Steps p.tables e below (T3.setTop (mkF m 43 #[.val (.int p1), .val (.int p2), .val (.int p3), .val (.int p4), .val (.int p5), .val (.int p6), .val (.int (5 : Int32)), .val (.int i), .val (.ref b1), .unset] [(.ref b1)])) _
      refine XS.iconst X3.here hx rfl (hb hby at_43) ?_
      show Steps p.tables e below (T3.setTop (mkF m 44 #[.val (.int p1), .val (.int p2), .val (.int p3), .val (.int p4), .val (.int p5), .val (.int p6), .val (.int (5 : Int32)), .val (.int i), .val (.ref b1), .unset] [(.int (1 : Int32)), (.ref b1)])) _
      refine XS.iloadN X3.here hx rfl (hb hby at_44) rfl ?_
      show Steps p.tables e below (T3.setTop (mkF m 45 #[.val (.int p1), .val (.int p2), .val (.int p3), .val (.int p4), .val (.int p5), .val (.int p6), .val (.int (5 : Int32)), .val (.int i), .val (.ref b1), .unset] [(.int p2), (.int (1 : Int32)), (.ref b1)])) _
      refine st5 _ ?_
      show Steps p.tables e below (T5.setTop (mkF m 46 #[.val (.int p1), .val (.int p2), .val (.int p3), .val (.int p4), .val (.int p5), .val (.int p6), .val (.int (5 : Int32)), .val (.int i), .val (.ref b1), .unset] [])) _
      refine XS.iload X5.here hx rfl (hb hby at_46) rfl ?_
      show Steps p.tables e below (T5.setTop (mkF m 48 #[.val (.int p1), .val (.int p2), .val (.int p3), .val (.int p4), .val (.int p5), .val (.int p6), .val (.int (5 : Int32)), .val (.int i), .val (.ref b1), .unset] [(.int (5 : Int32))])) _
      refine XS.iconst X5.here hx rfl (hb hby at_48) ?_
      show Steps p.tables e below (T5.setTop (mkF m 49 #[.val (.int p1), .val (.int p2), .val (.int p3), .val (.int p4), .val (.int p5), .val (.int p6), .val (.int (5 : Int32)), .val (.int i), .val (.ref b1), .unset] [(.int (2 : Int32)), (.int (5 : Int32))])) _
      refine XS.icmpNo X5.here hx rfl (hb hby at_49) rfl (tlt (by decide : (2 : Int32) < (5 : Int32))).2.2.2 ?_
      show Steps p.tables e below (T5.setTop (mkF m 52 #[.val (.int p1), .val (.int p2), .val (.int p3), .val (.int p4), .val (.int p5), .val (.int p6), .val (.int (5 : Int32)), .val (.int i), .val (.ref b1), .unset] [])) _
      refine XS.aload X5.here hx rfl (hb hby at_52) rfl rfl ?_
      show Steps p.tables e below (T5.setTop (mkF m 54 #[.val (.int p1), .val (.int p2), .val (.int p3), .val (.int p4), .val (.int p5), .val (.int p6), .val (.int (5 : Int32)), .val (.int i), .val (.ref b1), .unset] [(.ref b1)])) _
      refine XS.iconst X5.here hx rfl (hb hby at_54) ?_
      show Steps p.tables e below (T5.setTop (mkF m 55 #[.val (.int p1), .val (.int p2), .val (.int p3), .val (.int p4), .val (.int p5), .val (.int p6), .val (.int (5 : Int32)), .val (.int i), .val (.ref b1), .unset] [(.int (2 : Int32)), (.ref b1)])) _
      refine XS.iloadN X5.here hx rfl (hb hby at_55) rfl ?_
      show Steps p.tables e below (T5.setTop (mkF m 56 #[.val (.int p1), .val (.int p2), .val (.int p3), .val (.int p4), .val (.int p5), .val (.int p6), .val (.int (5 : Int32)), .val (.int i), .val (.ref b1), .unset] [(.int p3), (.int (2 : Int32)), (.ref b1)])) _
      refine st7 _ ?_
      show Steps p.tables e below (T7.setTop (mkF m 57 #[.val (.int p1), .val (.int p2), .val (.int p3), .val (.int p4), .val (.int p5), .val (.int p6), .val (.int (5 : Int32)), .val (.int i), .val (.ref b1), .unset] [])) _
      refine XS.iload X7.here hx rfl (hb hby at_57) rfl ?_
      show Steps p.tables e below (T7.setTop (mkF m 59 #[.val (.int p1), .val (.int p2), .val (.int p3), .val (.int p4), .val (.int p5), .val (.int p6), .val (.int (5 : Int32)), .val (.int i), .val (.ref b1), .unset] [(.int (5 : Int32))])) _
      refine XS.iconst X7.here hx rfl (hb hby at_59) ?_
      show Steps p.tables e below (T7.setTop (mkF m 60 #[.val (.int p1), .val (.int p2), .val (.int p3), .val (.int p4), .val (.int p5), .val (.int p6), .val (.int (5 : Int32)), .val (.int i), .val (.ref b1), .unset] [(.int (3 : Int32)), (.int (5 : Int32))])) _
      refine XS.icmpNo X7.here hx rfl (hb hby at_60) rfl (tlt (by decide : (3 : Int32) < (5 : Int32))).2.2.2 ?_
      show Steps p.tables e below (T7.setTop (mkF m 63 #[.val (.int p1), .val (.int p2), .val (.int p3), .val (.int p4), .val (.int p5), .val (.int p6), .val (.int (5 : Int32)), .val (.int i), .val (.ref b1), .unset] [])) _
      refine XS.aload X7.here hx rfl (hb hby at_63) rfl rfl ?_
      show Steps p.tables e below (T7.setTop (mkF m 65 #[.val (.int p1), .val (.int p2), .val (.int p3), .val (.int p4), .val (.int p5), .val (.int p6), .val (.int (5 : Int32)), .val (.int i), .val (.ref b1), .unset] [(.ref b1)])) _
      refine XS.iconst X7.here hx rfl (hb hby at_65) ?_
      show Steps p.tables e below (T7.setTop (mkF m 66 #[.val (.int p1), .val (.int p2), .val (.int p3), .val (.int p4), .val (.int p5), .val (.int p6), .val (.int (5 : Int32)), .val (.int i), .val (.ref b1), .unset] [(.int (3 : Int32)), (.ref b1)])) _
      refine XS.iloadN X7.here hx rfl (hb hby at_66) rfl ?_
      show Steps p.tables e below (T7.setTop (mkF m 67 #[.val (.int p1), .val (.int p2), .val (.int p3), .val (.int p4), .val (.int p5), .val (.int p6), .val (.int (5 : Int32)), .val (.int i), .val (.ref b1), .unset] [(.int p4), (.int (3 : Int32)), (.ref b1)])) _
      refine st9 _ ?_
      show Steps p.tables e below (T9.setTop (mkF m 68 #[.val (.int p1), .val (.int p2), .val (.int p3), .val (.int p4), .val (.int p5), .val (.int p6), .val (.int (5 : Int32)), .val (.int i), .val (.ref b1), .unset] [])) _
      refine XS.iload X9.here hx rfl (hb hby at_68) rfl ?_
      show Steps p.tables e below (T9.setTop (mkF m 70 #[.val (.int p1), .val (.int p2), .val (.int p3), .val (.int p4), .val (.int p5), .val (.int p6), .val (.int (5 : Int32)), .val (.int i), .val (.ref b1), .unset] [(.int (5 : Int32))])) _
      refine XS.iconst X9.here hx rfl (hb hby at_70) ?_
      show Steps p.tables e below (T9.setTop (mkF m 71 #[.val (.int p1), .val (.int p2), .val (.int p3), .val (.int p4), .val (.int p5), .val (.int p6), .val (.int (5 : Int32)), .val (.int i), .val (.ref b1), .unset] [(.int (4 : Int32)), (.int (5 : Int32))])) _
      refine XS.icmpNo X9.here hx rfl (hb hby at_71) rfl (tlt (by decide : (4 : Int32) < (5 : Int32))).2.2.2 ?_
      show Steps p.tables e below (T9.setTop (mkF m 74 #[.val (.int p1), .val (.int p2), .val (.int p3), .val (.int p4), .val (.int p5), .val (.int p6), .val (.int (5 : Int32)), .val (.int i), .val (.ref b1), .unset] [])) _
      refine XS.aload X9.here hx rfl (hb hby at_74) rfl rfl ?_
      show Steps p.tables e below (T9.setTop (mkF m 76 #[.val (.int p1), .val (.int p2), .val (.int p3), .val (.int p4), .val (.int p5), .val (.int p6), .val (.int (5 : Int32)), .val (.int i), .val (.ref b1), .unset] [(.ref b1)])) _
      refine XS.iconst X9.here hx rfl (hb hby at_76) ?_
      show Steps p.tables e below (T9.setTop (mkF m 77 #[.val (.int p1), .val (.int p2), .val (.int p3), .val (.int p4), .val (.int p5), .val (.int p6), .val (.int (5 : Int32)), .val (.int i), .val (.ref b1), .unset] [(.int (4 : Int32)), (.ref b1)])) _
      refine XS.iload X9.here hx rfl (hb hby at_77) rfl ?_
      show Steps p.tables e below (T9.setTop (mkF m 79 #[.val (.int p1), .val (.int p2), .val (.int p3), .val (.int p4), .val (.int p5), .val (.int p6), .val (.int (5 : Int32)), .val (.int i), .val (.ref b1), .unset] [(.int p5), (.int (4 : Int32)), (.ref b1)])) _
      refine st11 _ ?_
      show Steps p.tables e below (T11.setTop (mkF m 80 #[.val (.int p1), .val (.int p2), .val (.int p3), .val (.int p4), .val (.int p5), .val (.int p6), .val (.int (5 : Int32)), .val (.int i), .val (.ref b1), .unset] [])) _
      refine stJ _ ?_
      show Steps p.tables e below (TJ.setTop (mkF m 161 #[.val (.int p1), .val (.int p2), .val (.int p3), .val (.int p4), .val (.int p5), .val (.int p6), .val (.int (5 : Int32)), .val (.int i), .val (.ref b1), .val (.int E)] [(.int (1 : Int32))])) _
      exact retN XJ hx (t := .boolean) Bd.returns (by simp) (hb hby at_161) hr
    · show Q_rm0 Z p1 p2 p3 p4 p5 p6 h0 n0 _ TJ.heap _
      rw [eJ]
      exact ⟨rfl, NJ⟩
set_option maxRecDepth 65536 in
set_option maxHeartbeats 40000000 in
theorem comes_1 {Post : Tables → Env → Array Value → State → Outcome → State → Prop} (hpost : ∀ tb e args s v u, (limb_1_1.after args s (.returned v) u = true ∧ limb_1_2.after args s (.returned v) u = true ∧ True) → FrameEnd s (.returned v) u (Jvm.fieldLocs frame_1_writes args s ++ Jvm.arrayLocs frame_1_arrays args s ++ Jvm.staticLocs frame_1_statics s) 16 128 → Post tb e args s (.returned v) u) :
    ArmFor flags0 classFile x code maxLocals ret World_1 tables_1 room_1 Calls_1 rest_1 Pre_1 Post := by
  intro l hfl _ _ p e ha hc hk s m args below hf hA hF happ hP
  obtain ⟨hcalls, hrest, hpre⟩ := hP
  obtain ⟨-, -, -, hnamed, -, -, -, hat⟩ := (Spec.applies_iff hf).mp happ
  obtain ⟨hg, hn⟩ := and_e (Cond.before_iff.mp (show (Jvm.Cond.and given_1 narrow_1).before args s = true from hpre))
  obtain ⟨g1, g2⟩ := and_e hg
  obtain ⟨g3, g4⟩ := and_e g2
  obtain ⟨g5, g6⟩ := and_e g4
  obtain ⟨g7, g8⟩ := and_e g6
  obtain ⟨g9, g10⟩ := and_e g8
  obtain ⟨g11, g12⟩ := and_e g10
  obtain ⟨w0, w1, w2, w3, w4, w5, rfl⟩ : ∃ w0 w1 w2 w3 w4 w5 : Value, args = #[w0, w1, w2, w3, w4, w5] := by
    have hs : args.size = 6 := by simpa [Cond.value, given_1] using g1
    obtain ⟨L⟩ := args
    match L, hs with
    | [w0, w1, w2, w3, w4, w5], _ => exact ⟨w0, w1, w2, w3, w4, w5, rfl⟩
  have hw := fun d (hd : d ∈ tables_1) => atoms_spec (ws := Jvm.Cond.code x code maxLocals ret :: tables_1) hat d (List.mem_cons_of_mem _ hd)
  have hfit : Fit s := fun {y c} hc i hi => by
    obtain ⟨ha, rfl⟩ := Array.getElem?_eq_some_iff.mp hc
    have q := List.all_eq_true.mp ((Array.all_eq_true_iff_forall_mem.mp hF) _ (Array.getElem_mem ha)) i (List.mem_range.mpr hi)
    simpa [Array.getElem?_eq_getElem hi] using q
  obtain ⟨i0, ei0⟩ := is_v g3
  obtain rfl : w0 = (.int i0) := Option.some.inj ei0
  obtain ⟨i1, ei1⟩ := is_v g5
  obtain rfl : w1 = (.int i1) := Option.some.inj ei1
  obtain ⟨i2, ei2⟩ := is_v g7
  obtain rfl : w2 = (.int i2) := Option.some.inj ei2
  obtain ⟨i3, ei3⟩ := is_v g9
  obtain rfl : w3 = (.int i3) := Option.some.inj ei3
  obtain ⟨i4, ei4⟩ := is_v g11
  obtain rfl : w4 = (.int i4) := Option.some.inj ei4
  obtain ⟨i5, ei5⟩ := is_v g12
  obtain rfl : w5 = (.int i5) := Option.some.inj ei5
  obtain ⟨n, o, h1, h2, h3, _, L, rfl, ⟨rfl, N⟩, hq⟩ := rm0 l s _ hw tables_1 i0 i1 i2 i3 i4 i5 s.heap s.heap.size (Nat.le_refl _)  p e ha hc hk s m _ below hf ((Spec.applies_iff_loose hf).mp happ).1 ⟨rfl, State.Warmed39.refl s, rfl⟩ trivial
  refine ⟨n, _, h1, h2, h3, hpost _ _ _ _ _ _ ⟨Cond.after_iff.mpr rfl, Cond.after_iff.mpr (eq_i res_at (Term.int_eval (1)) rfl), trivial⟩ ⟨hq.1, hq.2.1, (hq.2.2.sift fun y hy => Or.inr (N y hy)).mono (by decide) (by decide)⟩⟩
theorem main_1_1 : Claimed_1_1 := comes_1 fun _ _ _ _ _ _ h hF => ⟨h.1, hF⟩
theorem main_1_2 : Claimed_1_2 := comes_1 fun _ _ _ _ _ _ h hF => ⟨h.2.1, hF⟩
end Jvm.Pilot.@@N@@
namespace Jvm.Pilot.@@N@@
open Jvm Jvm.ClassFile Sem Op Lib Jvm.Free Jvm.Stand Jvm.Pilot.@@N@@.Jvm.D
/-! MADE BY PROGRAM (witnessworld.py) out of the Statement's table words and the real class files: 12 classes; the members and pool entries that the words name. The judged class is class 1, her method 1. -/
namespace start1
open Jvm.ClassFile
def u (s : String) : CpInfo := .utf8 (stringToUtf16 s)
/-- a pool by its gaps: so many unusable entries, then the entry; so many at the end -/
def gap : Nat → List CpInfo → List CpInfo
  | 0, r => r
  | n + 1, r => .unusable :: gap n r
def poolList (es : List (Nat × CpInfo)) (last : Nat) : List CpInfo := es.foldr (fun e r => gap e.1 (e.2 :: r)) (gap last [])
def pool (es : List (Nat × CpInfo)) (last : Nat) : Array CpInfo := ⟨poolList es last⟩
def fileOf (pool : Array CpInfo) (this : Nat) (attrs : Array Attribute := #[]) (ms : Array MethodInfo := #[]) (fl : Nat := 33) (sup : Nat := 0) (ifs : Array Nat := #[]) (fds : Array FieldInfo := #[]) : ClassFile where
  minorVersion := 0
  majorVersion := 65
  constantPool := pool
  accessFlags := fl
  thisClass := this
  superClass := sup
  interfaces := ifs
  fields := fds
  methods := ms
  attributes := attrs
def plain (name : String) (sup : Option ClassId) : Class where
  name := name
  kind := .ordinary
  loader := none
  accessFlags := 33
  super := sup
  interfaces := #[]
  cf := none
  fields := #[]
  methods := #[]
  instanceTypes := #[]
  staticTypes := #[]
  resolved := #[]
  callSites := []
  init := .initialized
  statics := none
  mirror := none

def pool0 : Array CpInfo := pool [(5, u "<init>"), (0, u "()V"), (1, .class_ 10), (1, u "java/lang/Object")] 113

def k0m0 : Method := { name := "<init>", desc := "()V", sig := { parameters := [], returnType := none }, accessFlags := 1, code := none }
/-- java/lang/Object -/
def k0 : Class := { plain "java/lang/Object" none with
  accessFlags := 33
  interfaces := #[]
  cf := some (fileOf pool0 8 #[] #[{ accessFlags := 1, nameIndex := 5, descriptorIndex := 6, attributes := #[] }] 33 0 #[] #[])
  fields := #[]
  methods := #[k0m0]
  instanceTypes := #[]
  staticTypes := #[]
  resolved := Array.replicate 124 none
  statics := none }

def pool1 : Array CpInfo := pool [(2, .class_ 4), (1, u "java/lang/Object"), (0, u "<init>"), (0, u "()V"), (0, .methodref 8 9), (0, .class_ 10), (0, .nameAndType 11 12), (0, u "com/example/leadout/leadout/store/ShapeIndex"), (0, u "indexed"), (0, u "([II)I"), (0, .class_ 14), (0, u "com/example/leadout/leadout/store/ShapeIndexIndexedPinLaw"), (2, u "law"), (0, u "(IIIIII)Z")] 5

def k1m0 : Method := { name := "<init>", desc := "()V", sig := { parameters := [], returnType := none }, accessFlags := 1, code := none }
def k1c1 : Code := { maxStack := 3, maxLocals := 10, code := code, exceptionTable := #[], attributes := #[] }
def k1m1 : Method := { name := "law", desc := "(IIIIII)Z", sig := { parameters := [.int, .int, .int, .int, .int, .int], returnType := some .boolean }, accessFlags := 9, code := some k1c1 }
/-- com/example/leadout/leadout/store/ShapeIndexIndexedPinLaw -/
def k1 : Class := { plain "com/example/leadout/leadout/store/ShapeIndexIndexedPinLaw" (some 0) with
  accessFlags := 49
  interfaces := #[]
  cf := some (fileOf pool1 13 #[] #[{ accessFlags := 1, nameIndex := 5, descriptorIndex := 6, attributes := #[] }, { accessFlags := 9, nameIndex := 17, descriptorIndex := 18, attributes := #[] }] 49 2 #[] #[])
  fields := #[]
  methods := #[k1m0, k1m1]
  instanceTypes := #[]
  staticTypes := #[]
  resolved := Array.replicate 24 none
  statics := none }

def pool2 : Array CpInfo := pool [(1, .class_ 2), (0, u "java/lang/AutoCloseable"), (0, .class_ 4), (0, u "java/lang/Object")] 7

/-- java/lang/AutoCloseable -/
def k2 : Class := { plain "java/lang/AutoCloseable" (some 0) with
  accessFlags := 1537
  interfaces := #[]
  cf := some (fileOf pool2 1 #[] #[] 1537 3 #[] #[])
  fields := #[]
  methods := #[]
  instanceTypes := #[]
  staticTypes := #[]
  resolved := Array.replicate 12 none
  statics := none }

def pool3 : Array CpInfo := pool [(2, .class_ 4), (1, u "java/lang/Object"), (0, u "<init>"), (0, u "()V"), (0, .class_ 8), (0, u "com/example/leadout/leadout/store/Index"), (0, .class_ 10), (0, u "java/lang/AutoCloseable")] 13

def k3m0 : Method := { name := "<init>", desc := "()V", sig := { parameters := [], returnType := none }, accessFlags := 0, code := none }
/-- com/example/leadout/leadout/store/Index -/
def k3 : Class := { plain "com/example/leadout/leadout/store/Index" (some 0) with
  accessFlags := 1056
  interfaces := #[2]
  cf := some (fileOf pool3 7 #[] #[{ accessFlags := 0, nameIndex := 5, descriptorIndex := 6, attributes := #[] }] 1056 2 #[9] #[])
  fields := #[]
  methods := #[k3m0]
  instanceTypes := #[]
  staticTypes := #[]
  resolved := Array.replicate 24 none
  statics := none }

def pool4 : Array CpInfo := pool [(2, .class_ 4), (1, u "com/example/leadout/leadout/store/Index"), (3, .class_ 10), (1, u "com/example/leadout/leadout/store/StagedIndex"), (0, u "connection"), (0, u "Ljava/sql/Connection;"), (6, u "staged"), (0, u "Ljava/lang/String;"), (3, u "forgotten"), (54, u "stage"), (0, u "Ljava/sql/PreparedStatement;"), (3, u "unstage"), (3, u "forgetLater"), (4, u "deleteForgotten"), (2, u "insertStaged"), (3, u "clearStaged"), (2, u "clearForgotten")] 61

/-- com/example/leadout/leadout/store/StagedIndex -/
def k4 : Class := { plain "com/example/leadout/leadout/store/StagedIndex" (some 3) with
  accessFlags := 1056
  interfaces := #[]
  cf := some (fileOf pool4 8 #[] #[] 1056 2 #[] #[{ accessFlags := 16, nameIndex := 79, descriptorIndex := 80, attributes := #[] }, { accessFlags := 18, nameIndex := 11, descriptorIndex := 12, attributes := #[] }, { accessFlags := 18, nameIndex := 19, descriptorIndex := 20, attributes := #[] }, { accessFlags := 18, nameIndex := 24, descriptorIndex := 20, attributes := #[] }, { accessFlags := 18, nameIndex := 84, descriptorIndex := 80, attributes := #[] }, { accessFlags := 18, nameIndex := 88, descriptorIndex := 80, attributes := #[] }, { accessFlags := 18, nameIndex := 93, descriptorIndex := 80, attributes := #[] }, { accessFlags := 18, nameIndex := 96, descriptorIndex := 80, attributes := #[] }, { accessFlags := 18, nameIndex := 100, descriptorIndex := 80, attributes := #[] }, { accessFlags := 18, nameIndex := 103, descriptorIndex := 80, attributes := #[] }])
  fields := #[{ name := "stage", type := (.object "java/sql/PreparedStatement"), accessFlags := 16, slot := 0, constantValue := 0 }, { name := "connection", type := (.object "java/sql/Connection"), accessFlags := 18, slot := 1, constantValue := 0 }, { name := "staged", type := (.object "java/lang/String"), accessFlags := 18, slot := 2, constantValue := 0 }, { name := "forgotten", type := (.object "java/lang/String"), accessFlags := 18, slot := 3, constantValue := 0 }, { name := "unstage", type := (.object "java/sql/PreparedStatement"), accessFlags := 18, slot := 4, constantValue := 0 }, { name := "forgetLater", type := (.object "java/sql/PreparedStatement"), accessFlags := 18, slot := 5, constantValue := 0 }, { name := "deleteForgotten", type := (.object "java/sql/PreparedStatement"), accessFlags := 18, slot := 6, constantValue := 0 }, { name := "insertStaged", type := (.object "java/sql/PreparedStatement"), accessFlags := 18, slot := 7, constantValue := 0 }, { name := "clearStaged", type := (.object "java/sql/PreparedStatement"), accessFlags := 18, slot := 8, constantValue := 0 }, { name := "clearForgotten", type := (.object "java/sql/PreparedStatement"), accessFlags := 18, slot := 9, constantValue := 0 }]
  methods := #[]
  instanceTypes := #[(.object "java/sql/PreparedStatement"), (.object "java/sql/Connection"), (.object "java/lang/String"), (.object "java/lang/String"), (.object "java/sql/PreparedStatement"), (.object "java/sql/PreparedStatement"), (.object "java/sql/PreparedStatement"), (.object "java/sql/PreparedStatement"), (.object "java/sql/PreparedStatement"), (.object "java/sql/PreparedStatement")]
  staticTypes := #[]
  resolved := Array.replicate 165 none
  statics := none }

def pool5 : Array CpInfo := pool [(1, .class_ 2), (0, u "com/example/leadout/leadout/store/ShapeIndex"), (9, .class_ 14), (1, u "com/example/leadout/leadout/store/StagedIndex"), (55, u "indexed"), (0, u "([II)I"), (4, u "INDEXED_TRACKS"), (0, u "I"), (2, u "POINT"), (0, u "Ljava/lang/String;"), (2, u "TABLE_AT_LAYOUT_3"), (2, u "TABLE")] 14

def k5c0 : Code := { maxStack := 2, maxLocals := 2, code := prog_79_method_2_code, exceptionTable := #[], attributes := #[] }
def k5m0 : Method := { name := "indexed", desc := "([II)I", sig := { parameters := [(.array .int), .int], returnType := some .int }, accessFlags := 8, code := some k5c0 }
/-- com/example/leadout/leadout/store/ShapeIndex -/
def k5 : Class := { plain "com/example/leadout/leadout/store/ShapeIndex" (some 4) with
  accessFlags := 48
  interfaces := #[]
  cf := some (fileOf pool5 1 #[] #[{ accessFlags := 8, nameIndex := 70, descriptorIndex := 71, attributes := #[] }] 48 12 #[] #[{ accessFlags := 24, nameIndex := 76, descriptorIndex := 77, attributes := #[] }, { accessFlags := 26, nameIndex := 80, descriptorIndex := 81, attributes := #[] }, { accessFlags := 24, nameIndex := 84, descriptorIndex := 81, attributes := #[] }, { accessFlags := 24, nameIndex := 87, descriptorIndex := 81, attributes := #[] }])
  fields := #[{ name := "INDEXED_TRACKS", type := .int, accessFlags := 24, slot := 0, constantValue := 0 }, { name := "POINT", type := (.object "java/lang/String"), accessFlags := 26, slot := 1, constantValue := 0 }, { name := "TABLE_AT_LAYOUT_3", type := (.object "java/lang/String"), accessFlags := 24, slot := 2, constantValue := 0 }, { name := "TABLE", type := (.object "java/lang/String"), accessFlags := 24, slot := 3, constantValue := 0 }]
  methods := #[k5m0]
  instanceTypes := #[(.object "java/sql/PreparedStatement"), (.object "java/sql/Connection"), (.object "java/lang/String"), (.object "java/lang/String"), (.object "java/sql/PreparedStatement"), (.object "java/sql/PreparedStatement"), (.object "java/sql/PreparedStatement"), (.object "java/sql/PreparedStatement"), (.object "java/sql/PreparedStatement"), (.object "java/sql/PreparedStatement")]
  staticTypes := #[.int, (.object "java/lang/String"), (.object "java/lang/String"), (.object "java/lang/String")]
  resolved := Array.replicate 102 none
  statics := none }

def pool6 : Array CpInfo := pool [(1, u "java/lang/Cloneable"), (0, .class_ 1), (0, u "java/lang/Object"), (0, .class_ 3)] 3

/-- java/lang/Cloneable -/
def k6 : Class := { plain "java/lang/Cloneable" (some 0) with
  accessFlags := 1537
  interfaces := #[]
  cf := some (fileOf pool6 2 #[] #[] 1537 4 #[] #[])
  fields := #[]
  methods := #[]
  instanceTypes := #[]
  staticTypes := #[]
  resolved := Array.replicate 8 none
  statics := none }

def pool7 : Array CpInfo := pool [(1, u "java/io/Serializable"), (0, .class_ 1), (0, u "java/lang/Object"), (0, .class_ 3)] 3

/-- java/io/Serializable -/
def k7 : Class := { plain "java/io/Serializable" (some 0) with
  accessFlags := 1537
  interfaces := #[]
  cf := some (fileOf pool7 2 #[] #[] 1537 4 #[] #[])
  fields := #[]
  methods := #[]
  instanceTypes := #[]
  staticTypes := #[]
  resolved := Array.replicate 8 none
  statics := none }

/-- the primitive byte -/
def k8 : Class := { plain "byte" none with kind := .primitive 'B', accessFlags := 0x411 }
/-- [B -/
def k9 : Class := { plain "[B" (some 0) with kind := .array 8 .byte, interfaces := #[6, 7], accessFlags := 1041 }

/-- the primitive int -/
def k10 : Class := { plain "int" none with kind := .primitive 'I', accessFlags := 0x411 }
/-- [I -/
def k11 : Class := { plain "[I" (some 0) with kind := .array 10 .int, interfaces := #[6, 7], accessFlags := 1041 }

def heap : Heap := #[]
def classes : Array Class := #[k0, k1, k2, k3, k4, k5, k6, k7, k8, k9, k10, k11]
def interned : List (Array UInt16 × Addr) := []
def slotsUsed : Nat := 0
def theMethod : MethodId := ⟨1, 1⟩
def args0 : Array Value := #[.int 3, .int 5, .int 6, .int 7, .int 8, .int 11]
def aboutOver (below : List Frame) : State where
  vm := { classes := classes, interned := interned.toArray }
  heap := heap
  slotsUsed := slotsUsed
  threads := #[{ frames := .invoking theMethod args0 :: below }]
def below0 : List Frame := [.native { method := ⟨0, 0⟩, args := #[] }]
def about1 : State := aboutOver below0
def p0 : Program := .bare "" "" ""
def e0 : Env := launch0.env 0 0 0
theorem w_frames : about1.frames = Frame.invoking theMethod args0 :: below0 := rfl
set_option maxRecDepth 65536 in
theorem w_args : argsFit about1.vm theMethod args0 = true := by decide +kernel
set_option maxRecDepth 65536 in
theorem w_heap : heapFits about1 = true := by decide +kernel
set_option maxRecDepth 65536 in
theorem w_runnable : about1.curStatus? = some .runnable := by decide +kernel
set_option maxRecDepth 65536 in
theorem w_alone : about1.alone = true := by decide +kernel
set_option maxRecDepth 65536 in
theorem w_named : about1.methodNamed? x = some theMethod := by decide +kernel
set_option maxRecDepth 65536 in
theorem w_hears : about1.hears theMethod below0 = true := by decide +kernel
set_option maxRecDepth 65536 in
theorem w_ripe : about1.ripe theMethod args0 below0 = true := by decide +kernel
theorem w_running : about1.status = .running := rfl
set_option maxRecDepth 65536 in
theorem w_room : about1.hasRoom e0.platform room_1 = true :=
  launch0.hasRoom_least _ room_1 (by decide +kernel) (by decide +kernel) (by decide +kernel) (by decide +kernel) (by decide +kernel) (by decide +kernel)
theorem allAtoms_all (ts : List Jvm.Cond) (a : Array Jvm.Value) (st : Jvm.State) : (allAtoms ts).before a st = ts.all (fun c => c.before a st) := by
  induction ts with
  | nil => rfl
  | cons c t ih =>
    show (Jvm.Cond.and c (allAtoms t)).before a st = _
    rw [Jvm.Cond.before_and, ih, List.all_cons]
def words1 : List Jvm.Cond := Jvm.Cond.code x code maxLocals ret :: tables_1
/-- a 'code' word, met by the world's own term for the bytes: nothing is compared byte by byte -/
theorem code_word {y : MethodName} {bytes : ByteArray} {mx : Nat} {rt : Option FieldType} {a : Array Value} {s : State} {m : MethodId} {meth : Method} {c : Code} (h1 : s.methodNamed? y = some m) (h2 : s.vm.method? m = some meth) (h3 : meth.code = some c) (h4 : c.code = bytes)
    (h5 : (c.maxLocals == mx && c.exceptionTable.isEmpty && decide (c.maxStack ≤ mostOperands) && decide (meth.sig.returnType = rt) && !meth.locks && decide (parseMethodDescriptor y.desc = some meth.sig)) = true) : (Jvm.Cond.code y bytes mx rt).before a s = true := by
  simp only [Bool.and_eq_true, beq_iff_eq, Bool.not_eq_true', decide_eq_true_eq] at h5
  obtain ⟨⟨⟨⟨⟨g1, g2⟩, g3⟩, g4⟩, g5⟩, g6⟩ := h5
  simp [Cond.before, Cond.holds, Cond.value, h1, h2, h3, h4, g1, g2, g3, g4, g5, g6]
def isCode : Jvm.Cond → Bool
  | .code _ _ _ _ => true
  | _ => false
theorem all_split {L : List Jvm.Cond} {P : Jvm.Cond → Bool} (h1 : L.all (fun c => isCode c || P c) = true) (h2 : ∀ c ∈ L.filter isCode, P c = true) : L.all P = true := by
  refine List.all_eq_true.mpr fun c hc => ?_
  have h := List.all_eq_true.mp h1 c hc
  rcases Bool.eq_false_or_eq_true (isCode c) with hi | hi
  · exact h2 c (List.mem_filter.mpr ⟨hc, hi⟩)
  · simpa [hi] using h
set_option maxRecDepth 65536 in
theorem w_c0 : (Jvm.Cond.code x code maxLocals ret).before args0 about1 = true := code_word (m := ⟨1, 1⟩) (meth := k1m1) (c := k1c1) (by decide +kernel) rfl rfl rfl (by decide +kernel)
set_option maxRecDepth 65536 in
theorem w_c1 : (Jvm.Cond.code ({ cls := "com/example/leadout/leadout/store/ShapeIndex", name := "indexed", desc := "([II)I" } : Jvm.MethodName) prog_79_method_2_code (2 : Nat) (Option.some Jvm.ClassFile.FieldType.int)).before args0 about1 = true := code_word (m := ⟨5, 0⟩) (meth := k5m0) (c := k5c0) (by decide +kernel) rfl rfl rfl (by decide +kernel)
def codes1 : List Jvm.Cond := [Jvm.Cond.code x code maxLocals ret, Jvm.Cond.code ({ cls := "com/example/leadout/leadout/store/ShapeIndex", name := "indexed", desc := "([II)I" } : Jvm.MethodName) prog_79_method_2_code (2 : Nat) (Option.some Jvm.ClassFile.FieldType.int)]
set_option maxRecDepth 65536 in
theorem codes_eq : words1.filter isCode = codes1 := rfl
theorem w_codes : ∀ c ∈ words1.filter isCode, c.before args0 about1 = true := by
  rw [codes_eq]
  intro c hc
  simp only [codes1, List.mem_cons, List.not_mem_nil, or_false] at hc
  rcases hc with rfl | rfl
  · exact w_c0
  · exact w_c1
set_option maxRecDepth 65536 in
theorem w_t1 : words1.all (fun c => isCode c || c.before args0 about1) = true := by decide +kernel
theorem w_tables : (allAtoms (Jvm.Cond.code x code maxLocals ret :: tables_1)).before args0 about1 = true := by
  rw [allAtoms_all]
  show words1.all (fun c => c.before args0 about1) = true
  refine all_split ?_ w_codes
  rw [w_t1]
set_option maxRecDepth 65536 in
theorem w_case : (Jvm.Cond.and given_1 narrow_1).before args0 about1 = true := by decide +kernel
theorem w_applies : (headSpec (Jvm.Cond.code x code maxLocals ret :: tables_1) room_1).applies x e0.platform about1 = true :=
  (Spec.applies_iff w_frames).mpr ⟨w_running, w_runnable, w_alone, w_named, w_hears, w_ripe, w_room, w_tables⟩
theorem atStart : AtStart classFile x code maxLocals ret World_1 tables_1 room_1 Calls_1 rest_1 Pre_1 launch0 p0 e0 about1 theMethod args0 below0 :=
  ⟨lists_1, trivial, launch0.admits_env _ _ _, launch0.least_env, fairChoices_fair.cas, fairChoices_fair.clock, w_frames, w_args, w_heap, w_applies, trivial, trivial, w_case⟩
end start1
theorem witness_1 : WitnessClaimed_1 := ⟨start1.p0, start1.e0, start1.about1, start1.theMethod, start1.args0, start1.below0, start1.atStart⟩
end Jvm.Pilot.@@N@@
