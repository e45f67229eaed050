import JvmDerived
import JvmDerived.Pilot.@@N@@Statement
import JvmDerived.Pilot.@@N@@Code
set_option linter.unusedVariables false
set_option linter.unusedSimpArgs false
namespace Jvm.RoadKit
open Sem ClassFile Op Lib Jvm.Stand Jvm.Free Jvm.LawKit
section New
variable {p : Program} {l : Launch} {e : Env} {R : Room} {s : State} {m : MethodId} {args : Array Value} {below : List Frame} {meth : Method} {c : Code} {T : State} {locs : List Loc} {cells slots : Nat}
theorem retI (X : Stand p l e R s m args below meth c T locs cells slots) (hx : p.tables.exec = Jvm.exec) {pc : Nat} {Ls : Array Slot} {z : Int32} {rest : List Value} (hret : meth.sig.returnType = some .int) (hd : decode c.code pc = .ok (.ireturn, 1)) {fs : List Frame}
    (hl : ∀ (f : JFrame) (acts : List Action), f.method = m → f.locked = none → f.entered = [] → (doReturn e (T.setTop f) acts (some (.int z))).1 = T.setFrames fs) : Steps p.tables e below (T.setTop (mkF m pc Ls (.int z :: rest))) (T.setFrames fs) := by
  have hm' : T.vm.method? m = some meth := X.method'
  have hn : narrow .int (.int z) = .int z := rfl
  show Steps p.tables e below (T.setTop { method := m, pc := pc, locals := Ls, stack := _ :: rest, locked := none }) _
  jvm_step X.here [X.here.top, hx, hd, hm', hret, hn]
  first | (intro acts; rw [hl _ acts rfl rfl rfl]) | rw [hl _ _ rfl rfl rfl]
  exact Steps.refl _
end New
end Jvm.RoadKit
namespace Jvm.Pilot.@@N@@
open Jvm Jvm.ClassFile Sem Op Lib Jvm.Free Jvm.Stand Jvm.LawKit Jvm.RoadKit Bundle Jvm.Pilot.@@N@@.Jvm.D
def own_A (Z : State) (h : Heap) (a : Addr) : Prop := ∃ cl : Cell, Arr Z h a cl .int ∧ cl.slots.size = 4096
theorem own_A.lt {Z : State} {h : Heap} {a : Addr} (F : own_A Z h a) : a < h.size := by obtain ⟨c, A, -⟩ := F; exact A.lt
theorem own_A.ext {Z : State} {h h' : Heap} {a : Addr} (F : own_A Z h a) (E : Ext h h') : own_A Z h' a := by obtain ⟨c, A, r⟩ := F; exact ⟨c, A.ext E, r⟩
theorem own_A.wr {Z : State} {h h' : Heap} {a b : Addr} {sl : Nat} {v : Value} (F : own_A Z h a) (W : Wr h h' b sl v) : own_A Z h' a := by
  obtain ⟨c, A, r⟩ := F
  by_cases q : a = b
  · subst q; exact ⟨_, A.same W, by rw [sz_set]; exact r⟩
  · exact ⟨c, A.other W q, r⟩
theorem own_A.keep {Z : State} {h h' : Heap} {a : Addr} {ws : List Addr} (F : own_A Z h a) (K : Keep h h' ws) : own_A Z h' a := by
  obtain ⟨c, ⟨A1, A2, A3⟩, r⟩ := F
  obtain ⟨c', q, r1, r2, r3⟩ := K.2.2 a c A1
  refine ⟨c', ⟨q, ⟨fun z => ?_, ?_⟩, ?_⟩, r3.trans r⟩
  · rw [r2]; exact A2.1 z
  · rw [r1]; exact A2.2
  · rw [r2]; exact A3
theorem own_A.new {Z : State} {h : Heap} {a : Addr} {k : ClassId} (A : Arr Z h a (newA k .int (4096 : Int32)) .int) : own_A Z h a := ⟨_, A, by rw [sz_new]; rfl⟩
theorem own_sel {Z s : State} {a0 args : Array Value} {y : MethodName} {n : Nat} (hZ : Z.Warmed39 s.vm) (wi : (Jvm.Cond.instantiable y.cls n).before a0 Z = true) (wp : (Jvm.Cond.privateMethod y).before a0 Z = true) (wm : (Jvm.Cond.instanceMethod y).before a0 Z = true) (hy : y.cls ≠ "java/lang/invoke/MethodHandle" ∧ y.cls ≠ "java/lang/invoke/VarHandle") : (Jvm.Cond.selects y.cls y y).before args s = true := by
  have wi' : (Jvm.Cond.instantiable y.cls n).before args s = true := mvT hZ wi
  obtain ⟨c, k, h1, h2, h3, h4, -⟩ := Cond.instantiable_spec wi'
  exact selects_self_of_private h1 h2 (Bool.or_eq_false_iff.mp h4).1 (Cond.privateMethod_at (mvP hZ wp (args := #[]))) (mvT hZ wm) hy
theorem own_i1 {i : Nat} (h : i < 4096) : Nat.toInt32 i < (4096 : Int32) := by
  rw [Int32.lt_iff_toInt_lt, len_toInt (by omega)]
  show (i : Int) < 4096
  omega
theorem own_i2 {i : Nat} (h : i < 4096) : Nat.toInt32 i + (1 : Int32) = Nat.toInt32 (i + 1) := by
  apply Int32.toInt_inj.mp
  rw [Int32.toInt_add, len_toInt (by omega), len_toInt (by omega)]
  show ((i : Int) + 1).bmod (2 ^ 32) = _
  rw [Int.bmod_def]; omega
theorem own_sta {Z : State} {h h' : Heap} {C n d : String} {v : Value} (F : Sta Z h C n d v) (K : Keep h h' []) : Sta Z h' C n d v := by
  obtain ⟨cf, i, k, f, st, cell, h1, h2, h3, h4, h5, r⟩ := F
  exact ⟨cf, i, k, f, st, cell, h1, h2, h3, h4, K.2.1 _ _ h5 nin0, r⟩
def own_cache (Z : State) (h : Heap) (ca : Addr) : Prop := ∃ cl : Cell, Arr Z h ca cl (.object "java/lang/Integer") ∧ ∀ w : Int32, ¬ w < (-128 : Int32) → ¬ (127 : Int32) < w → ∃ x : Addr, ¬ ((w + (128 : Int32)) < 0 ∨ cl.slots.size ≤ (w + (128 : Int32)).toNatClampNeg) ∧ cl.slots[(w + (128 : Int32)).toNatClampNeg]? = some (.ref x) ∧ Exa Z h x "java/lang/Integer"
theorem own_cache.keep {Z : State} {h h' : Heap} {ca : Addr} (F : own_cache Z h ca) (K : Keep h h' []) : own_cache Z h' ca := by
  obtain ⟨cl, A, r⟩ := F
  refine ⟨cl, ⟨K.2.1 _ _ A.1 nin0, A.2⟩, fun w h1 h2 => ?_⟩
  obtain ⟨x, q1, q2, q3⟩ := r w h1 h2
  exact ⟨x, q1, q2, q3.keep K⟩
theorem own_cache_start {s : State} {args : Array Value} {ca : Addr} (ec : (Term.static "java/lang/Integer$IntegerCache" "cache" "[Ljava/lang/Integer;").eval args s none [] s = some (.ref ca)) (ha : (Jvm.Cond.arrayOf (Term.static "java/lang/Integer$IntegerCache" "cache" "[Ljava/lang/Integer;") (.object "java/lang/Integer")).before args s = true) (hl : (Jvm.Cond.eq (.length (Term.static "java/lang/Integer$IntegerCache" "cache" "[Ljava/lang/Integer;")) (.int (256 : Int32))).before args s = true)
    {c2 : Jvm.Cond} (hall : (Jvm.Cond.all (Term.static "java/lang/Integer$IntegerCache" "cache" "[Ljava/lang/Integer;") (.and (.exactly (.elem (Term.static "java/lang/Integer$IntegerCache" "cache" "[Ljava/lang/Integer;") (.index 0)) "java/lang/Integer") c2)).before args s = true) : own_cache s s.heap ca := by
  obtain ⟨cl, A⟩ := Arr.start ec (Cond.before_iff.mp ha)
  have hat := Jvm.Free.IntBox.arrayAt_of A.1 A.2.1 A.2.2
  obtain ⟨hsz, hsize⟩ := Jvm.Free.IntBox.length_fwd hl ec A.1 A.2.1 A.2.2
  have hsz256 : cl.slots.size = 256 := by
    have e := len_toInt hsz
    rw [hsize] at e
    have e2 : (256 : Int32).toInt = 256 := rfl
    omega
  have hel := Cond.all_elim ec hat (Cond.before_iff.mp hall)
  refine ⟨cl, A, fun w h1 h2 => ?_⟩
  obtain ⟨hbnd, hlt⟩ := Jvm.Free.IntBox.place_ok w h1 h2
  have hj := hel _ (by rw [hsz256]; exact hlt)
  obtain ⟨hx, -⟩ := and_e hj
  obtain ⟨hnn, hback⟩ := Jvm.Free.IntBox.place_nonneg _ hlt
  have ec' : (Term.static "java/lang/Integer$IntegerCache" "cache" "[Ljava/lang/Integer;").eval args s none [(w + (128 : Int32)).toNatClampNeg] s = some (.ref ca) := ec
  have ev : (Term.elem (Term.static "java/lang/Integer$IntegerCache" "cache" "[Ljava/lang/Integer;") (.index 0)).eval args s none [(w + (128 : Int32)).toNatClampNeg] s = cl.slots[(w + (128 : Int32)).toNatClampNeg]? := by
    rw [elem_f (j := ((w + (128 : Int32)).toNatClampNeg).toInt32) ec' rfl hat hnn, hback]
  obtain ⟨x, c', cell, k, e1, e2, e3, e4, e5, e6, e7⟩ := Cond.exactly_spec (beq_iff_eq.mpr hx : (Jvm.Cond.exactly _ _).holds args s none s _ = true)
  subst e6
  exact ⟨x, by rw [hsz256]; exact hbnd, ev.symm.trans e1, cell, k, e3, e2, e4, e5, e7⟩
theorem own_ns_root {Z : State} {a0 : Array Value} {O K : String} {n : Nat} (w : (Jvm.Cond.noSuperclass O).before a0 Z = true) (wi : (Jvm.Cond.instantiable K n).before a0 Z = true) (hn : O ≠ K) : NS Z O K := by
  obtain ⟨c, k, h1, h2, h3, -, -⟩ := Cond.noSuperclass_spec w
  obtain ⟨tt, kt, g1, g2, -⟩ := Cond.instantiable_spec wi
  have ne := ids_ne h1 g1 hn
  refine ⟨c, tt, h1, g1, fun fuel => ?_⟩
  cases fuel with
  | zero => rfl
  | succ f => simp [Vm.isSubclassAux, ne, h2, h3]
theorem own_ns_no {Z : State} {a0 : Array Value} {C S K : String} {n : Nat} (w : (Jvm.Cond.superclass C S).before a0 Z = true) (wi : (Jvm.Cond.instantiable K n).before a0 Z = true) (ns : NS Z C K) (hn : C ≠ K) : ∃ c t, Z.vm.findClass C = some c ∧ Z.vm.findClass K = some t ∧ Z.vm.assignable c t = false := by
  obtain ⟨c, tt, h0, g0, n3⟩ := ns
  obtain ⟨p, k, kp, h1, h2, h3, h4, h5, -⟩ := Cond.superclass_spec h0 w
  obtain ⟨t', kt, g1, g2, g3, g4, -⟩ := Cond.instantiable_spec wi
  cases g0.symm.trans g1
  have ne := ids_ne h0 g0 hn
  refine ⟨c, tt, h0, g0, ?_⟩
  show Z.vm.assignableAux (255 + 1) c tt = false
  simp [Vm.assignableAux, ne, h2, g2, h5, g3, (Bool.or_eq_false_iff.mp g4).1, Vm.isSubclass, n3]
theorem own_sta_keep {Z : State} {h h' : Heap} {C n d : String} {v : Value} {ws : List Addr} (F : Sta Z h C n d v) (K : Keep h h' ws) (hs : ∀ x ∈ ws, ∀ cell : Cell, h[x]? = some cell → cell.vm.isStatics = false) : Sta Z h' C n d v := by
  obtain ⟨cf, i, k, f, st, cell, h1, h2, h3, h4, h5, h6, r⟩ := F
  exact ⟨cf, i, k, f, st, cell, h1, h2, h3, h4, K.2.1 _ _ h5 (fun q => by have q' := hs _ q _ h5; rw [q'] at h6; cases h6), h6, r⟩
theorem pn_4 : plainName "java/util/Arrays" = true := by first | (simp [plainName, overriddenIn]; done) | decide +kernel
theorem d4_5 : decode jdk_65_method_103_code 5 = .ok (.iload_n 2, 1) := by decide +kernel
theorem d4_6 : decode jdk_65_method_103_code 6 = .ok (.iload_n 3, 1) := by decide +kernel
theorem d4_7 : decode jdk_65_method_103_code 7 = .ok (.if_icmp .ge 13, 3) := by decide +kernel
theorem d4_10 : decode jdk_65_method_103_code 10 = .ok (.aload_n 0, 1) := by decide +kernel
theorem d4_11 : decode jdk_65_method_103_code 11 = .ok (.iload_n 2, 1) := by decide +kernel
theorem d4_12 : decode jdk_65_method_103_code 12 = .ok (.iload_n 1, 1) := by decide +kernel
theorem d4_13 : decode jdk_65_method_103_code 13 = .ok (.iastore, 1) := by decide +kernel
theorem d4_14 : decode jdk_65_method_103_code 14 = .ok (.iinc 2 1, 3) := by decide +kernel
theorem d4_17 : decode jdk_65_method_103_code 17 = .ok (.goto (-12), 3) := by decide +kernel
set_option maxRecDepth 65536 in
set_option maxHeartbeats 40000000 in
theorem own_turn {p : Program} {l : Launch} {e : Env} {R : Room} {s : State} {m : MethodId} {args : Array Value} {below : List Frame} {meth : Method} {c : Code} {T0 : State} {locs : List Loc} {Z : State} {a0 : Array Value} {h0 : Heap} {n0 : Nat} {cells slots : Nat} (a : Addr) (x : Int32) (i : Int32)
    (X0 : Stand p l e R s m args below meth c T0 locs cells slots) (hx : p.tables.exec = Jvm.exec) (hZ : Z.Warmed39 s.vm) (hw : ∀ d ∈ tables_1, d.before a0 Z = true) (hby : c.code = jdk_65_method_103_code) (hml : c.maxLocals = 4) (hown : s.vm.findClass "java/util/Arrays" = some m.cls) (e0 : T0.heap = h0) (N0 : Fr n0 locs) (Z0 : n0 ≤ h0.size) (A0 : own_A Z h0 a) (ga : n0 ≤ a) (hlt : i < (4096 : Int32)) (hin : ¬ (i < 0 ∨ 4096 ≤ i.toNatClampNeg)) :
    ∃ (T' : State) (locs' : List Loc) (h' : Heap), Stand p l e R s m args below meth c T' locs' cells slots ∧ T'.heap = h' ∧ Fr n0 locs' ∧ Keep h0 h' [a] ∧
      ∀ target, Steps p.tables e below (T'.setTop (mkF m 5 #[.val (.ref a), .val (.int x), .val (.int (i + (1 : Int32))), .val (.int (4096 : Int32))] [])) target → Steps p.tables e below (T0.setTop (mkF m 5 #[.val (.ref a), .val (.int x), .val (.int i), .val (.int (4096 : Int32))] [])) target := by
  obtain ⟨cl1, Ar1, S1⟩ := id A0
  obtain ⟨T2, h2, X2, e2, W2, st2⟩ := stI X0 hx hZ e0 Ar1 (j := i) (by rw [S1]; exact hin) (g := (mkF m 13 #[.val (.ref a), .val (.int x), .val (.int i), .val (.int (4096 : Int32))] [(.int x), (.int i), (.ref a)])) rfl rfl (hb hby d4_13)
  have A0_2 := A0.wr W2
  have Z2 : n0 ≤ h2.size := Nat.le_trans Z0 (Keep.of_wr W2).1
  have Kp2 : Keep h0 h2 [a] := (Keep.refl h0 [a]).wr W2 (Or.inl (by simp))
  have N2 := Fr.snoc X2 N0 ga
  refine ⟨T2, _, _, X2, e2, N2, Kp2, fun target kt => ?_⟩
  show Steps p.tables e below (T0.setTop (mkF m 5 #[.val (.ref a), .val (.int x), .val (.int i), .val (.int (4096 : Int32))] [])) _
  refine XS.iloadN X0.here hx rfl (hb hby d4_5) rfl ?_
  show Steps p.tables e below (T0.setTop (mkF m 6 #[.val (.ref a), .val (.int x), .val (.int i), .val (.int (4096 : Int32))] [(.int i)])) _
  refine XS.iloadN X0.here hx rfl (hb hby d4_6) rfl ?_
  show Steps p.tables e below (T0.setTop (mkF m 7 #[.val (.ref a), .val (.int x), .val (.int i), .val (.int (4096 : Int32))] [(.int (4096 : Int32)), (.int i)])) _
  refine XS.icmpNo X0.here hx rfl (hb hby d4_7) rfl (tlt hlt).2.1 ?_
  show Steps p.tables e below (T0.setTop (mkF m 10 #[.val (.ref a), .val (.int x), .val (.int i), .val (.int (4096 : Int32))] [])) _
  refine XS.aloadN X0.here hx rfl (hb hby d4_10) rfl rfl ?_
  show Steps p.tables e below (T0.setTop (mkF m 11 #[.val (.ref a), .val (.int x), .val (.int i), .val (.int (4096 : Int32))] [(.ref a)])) _
  refine XS.iloadN X0.here hx rfl (hb hby d4_11) rfl ?_
  show Steps p.tables e below (T0.setTop (mkF m 12 #[.val (.ref a), .val (.int x), .val (.int i), .val (.int (4096 : Int32))] [(.int i), (.ref a)])) _
  refine XS.iloadN X0.here hx rfl (hb hby d4_12) rfl ?_
  show Steps p.tables e below (T0.setTop (mkF m 13 #[.val (.ref a), .val (.int x), .val (.int i), .val (.int (4096 : Int32))] [(.int x), (.int i), (.ref a)])) _
  refine st2 _ ?_
  show Steps p.tables e below (T2.setTop (mkF m 14 #[.val (.ref a), .val (.int x), .val (.int i), .val (.int (4096 : Int32))] [])) _
  refine XS.iinc X2.here hx rfl (hb hby d4_14) rfl (l' := #[.val (.ref a), .val (.int x), .val (.int (i + (1 : Int32))), .val (.int (4096 : Int32))]) rfl ?_
  show Steps p.tables e below (T2.setTop (mkF m 17 #[.val (.ref a), .val (.int x), .val (.int (i + (1 : Int32))), .val (.int (4096 : Int32))] [])) _
  refine XS.goto X2.here hx rfl (pc0 := 17) (pc' := 5) rfl (hb hby d4_17) (by decide) (by decide) ?_
  exact kt
set_option maxRecDepth 65536 in
set_option maxHeartbeats 40000000 in
theorem own_leave {p : Program} {l : Launch} {e : Env} {R : Room} {s : State} {m : MethodId} {args : Array Value} {below : List Frame} {meth : Method} {c : Code} {T0 : State} {locs : List Loc} {Z : State} {a0 : Array Value} {h0 : Heap} {n0 : Nat} {cells slots : Nat} (a : Addr) (x : Int32) (i : Int32)
    (X0 : Stand p l e R s m args below meth c T0 locs cells slots) (hx : p.tables.exec = Jvm.exec) (hZ : Z.Warmed39 s.vm) (hw : ∀ d ∈ tables_1, d.before a0 Z = true) (hby : c.code = jdk_65_method_103_code) (hml : c.maxLocals = 4) (hown : s.vm.findClass "java/util/Arrays" = some m.cls) (e0 : T0.heap = h0) (N0 : Fr n0 locs) (Z0 : n0 ≤ h0.size) (hge : ¬ (i < (4096 : Int32))) :
    ∃ (T' : State) (locs' : List Loc), Stand p l e R s m args below meth c T' locs' cells slots ∧ T'.heap = h0 ∧ Fr n0 locs' ∧
      ∀ target, Steps p.tables e below (T'.setTop (mkF m 20 #[.val (.ref a), .val (.int x), .val (.int i), .val (.int (4096 : Int32))] [])) target → Steps p.tables e below (T0.setTop (mkF m 5 #[.val (.ref a), .val (.int x), .val (.int i), .val (.int (4096 : Int32))] [])) target := by
  refine ⟨T0, _, X0, e0, N0, fun target kt => ?_⟩
  show Steps p.tables e below (T0.setTop (mkF m 5 #[.val (.ref a), .val (.int x), .val (.int i), .val (.int (4096 : Int32))] [])) _
  refine XS.iloadN X0.here hx rfl (hb hby d4_5) rfl ?_
  show Steps p.tables e below (T0.setTop (mkF m 6 #[.val (.ref a), .val (.int x), .val (.int i), .val (.int (4096 : Int32))] [(.int i)])) _
  refine XS.iloadN X0.here hx rfl (hb hby d4_6) rfl ?_
  show Steps p.tables e below (T0.setTop (mkF m 7 #[.val (.ref a), .val (.int x), .val (.int i), .val (.int (4096 : Int32))] [(.int (4096 : Int32)), (.int i)])) _
  refine XS.icmpYes X0.here hx rfl (pc0 := 7) (pc' := 20) rfl (hb hby d4_7) rfl (flt hge).2.1 (by decide) (by decide) ?_
  exact kt
theorem own_fill {p : Program} {l : Launch} {e : Env} {R : Room} {s : State} {m : MethodId} {args : Array Value} {below : List Frame} {meth : Method} {c : Code} {Z : State} {a0 : Array Value} {n0 : Nat} {cells slots : Nat} (a : Addr) (x : Int32)
    (hx : p.tables.exec = Jvm.exec) (hZ : Z.Warmed39 s.vm) (hw : ∀ d ∈ tables_1, d.before a0 Z = true) (hby : c.code = jdk_65_method_103_code) (hml : c.maxLocals = 4) (hown : s.vm.findClass "java/util/Arrays" = some m.cls) (ga : n0 ≤ a) (k : Nat) :
    ∀ (i : Nat), i + k = 4096 → ∀ {T0 : State} {locs : List Loc} {h0 : Heap}, Stand p l e R s m args below meth c T0 locs cells slots → T0.heap = h0 → Fr n0 locs → n0 ≤ h0.size → own_A Z h0 a →
    ∃ (T' : State) (locs' : List Loc) (h' : Heap), Stand p l e R s m args below meth c T' locs' cells slots ∧ T'.heap = h' ∧ Fr n0 locs' ∧ Keep h0 h' [a] ∧
      ∀ target, Steps p.tables e below (T'.setTop (mkF m 20 #[.val (.ref a), .val (.int x), .val (.int (Nat.toInt32 4096)), .val (.int (4096 : Int32))] [])) target → Steps p.tables e below (T0.setTop (mkF m 5 #[.val (.ref a), .val (.int x), .val (.int (Nat.toInt32 i)), .val (.int (4096 : Int32))] [])) target := by
  induction k with
  | zero =>
    intro i hi T0 locs h0 X0 e0 N0 Z0 A0
    obtain rfl : i = 4096 := by omega
    obtain ⟨T', locs', X', e', N', st⟩ := own_leave a x (Nat.toInt32 4096) X0 hx hZ hw hby hml hown e0 N0 Z0 (by decide)
    exact ⟨T', locs', h0, X', e', N', Keep.refl _ _, st⟩
  | succ k ih =>
    intro i hi T0 locs h0 X0 e0 N0 Z0 A0
    have hlt : i < 4096 := by omega
    obtain ⟨T1, locs1, h1, X1, e1, N1, K1, st1⟩ := own_turn a x (Nat.toInt32 i) X0 hx hZ hw hby hml hown e0 N0 Z0 A0 ga (own_i1 hlt) (idx_in hlt (by omega))
    rw [own_i2 hlt] at st1
    obtain ⟨T2, locs2, h2, X2, e2, N2, K2, st2⟩ := ih (i + 1) (by omega) X1 e1 N1 (Nat.le_trans Z0 K1.1) (A0.keep K1)
    exact ⟨T2, locs2, h2, X2, e2, N2, K1.trans K2 (allS (Or.inl (by simp)) all0), fun target kt => st1 _ (st2 _ kt)⟩
theorem ef_4_RI (m : MethodId) (x0 : Addr) (x1 : Int32) : entryFrame m #[(.ref x0), (.int x1)] 4 = mkF m 0 #[.val (.ref x0), .val (.int x1), .unset, .unset] [] := by first | (simp [entryFrame, mkF, argsToLocals, Value.category]; done) | rfl
theorem d4_0 : decode jdk_65_method_103_code 0 = .ok (.iconst 0, 1) := by decide +kernel
theorem d4_1 : decode jdk_65_method_103_code 1 = .ok (.istore_n 2, 1) := by decide +kernel
theorem d4_2 : decode jdk_65_method_103_code 2 = .ok (.aload_n 0, 1) := by decide +kernel
theorem d4_3 : decode jdk_65_method_103_code 3 = .ok (.arraylength, 1) := by decide +kernel
theorem d4_4 : decode jdk_65_method_103_code 4 = .ok (.istore_n 3, 1) := by decide +kernel
theorem d4_20 : decode jdk_65_method_103_code 20 = .ok (.return_, 1) := by decide +kernel
def Q_rmF (Z : State) (a1 : Addr) (p2 : Int32) (h0 : Heap) (n0 : Nat) (v : Option Value) (h : Heap) (L : List Loc) : Prop := v = none ∧ Fr n0 L ∧ Keep h0 h [a1]
set_option maxRecDepth 65536 in
set_option maxHeartbeats 40000000 in
theorem rmF (l : Launch) (Z : State) (a0 : Array Value) (hw : ∀ d ∈ tables_1, d.before a0 Z = true) (ws : List Jvm.Cond) (a1 : Addr) (p2 : Int32) (h0 : Heap) (n0 : Nat) (Z0 : n0 ≤ h0.size) (A0 : own_A Z h0 a1) (g0 : n0 ≤ a1) :
    MetFree l (⟨"java/util/Arrays", "fill", "([II)V"⟩ : MethodName) (head1 (Jvm.Cond.code (⟨"java/util/Arrays", "fill", "([II)V"⟩ : MethodName) jdk_65_method_103_code 4 none :: ws) ({ frames := 0, cells := 0, slots := 0, locals := 0 } : Room)) (fun a U => a = #[(.ref a1), (.int p2)] ∧ Z.Warmed39 U.vm ∧ U.heap = h0) (fun _ _ _ _ _ => True) (fun _ U o U' => ∃ v L, o = .returned v ∧ Q_rmF Z a1 p2 h0 n0 v U'.heap L ∧ FrameEnd U o U' L ({ frames := 0, cells := 0, slots := 0, locals := 0 } : Room).cells ({ frames := 0, cells := 0, slots := 0, locals := 0 } : Room).slots) := by
  refine MetFree.of_bodySF (plainFor_of_name pn_4) hisR ?_
  intro p e s m args below meth c s₁ Bd hml0 hP hK
  obtain ⟨rfl, hZ, hh⟩ := hP
  have hx := Bd.exec
  have hby := Bd.bytes
  have hml : c.maxLocals = 4 := hml0
  have hown : s.vm.findClass "java/util/Arrays" = some m.cls := findClass_of_methodNamed Bd.named
  have hnm := (name_of_methodNamed Bd.named Bd.method).1
  have X0 : Stand p l e ({ frames := 0, cells := 0, slots := 0, locals := 0 } : Room) s m #[(.ref a1), (.int p2)] below meth c s₁ [] 0 0 := Stand.of_body Bd
  have e0 : s₁.heap = h0 := by rw [← hh, Bd.state]; rfl
  have N0 := Fr.nil n0
  have pre0 : ∀ t, Steps p.tables e below (s₁.setTop (mkF m 0 #[.val (.ref a1), .val (.int p2), .unset, .unset] [])) t → Steps p.tables e below (s₁.setTop (entryFrame m #[(.ref a1), (.int p2)] 4)) t := fun t k => castTop (ef_4_RI m a1 p2) k
  obtain ⟨cl1, Ar1, S1⟩ := id A0
  obtain ⟨TJ, locJ, hJ, XJ, eJ, NJ, KJ, stJ⟩ := own_fill a1 p2 hx hZ hw hby hml hown g0 4096 0 rfl X0 e0 N0 Z0 A0
  have A0_J := A0.keep KJ
  have ZJ : n0 ≤ hJ.size := Nat.le_trans Z0 KJ.1
  have KpJ : Keep h0 hJ [a1] := (Keep.refl h0 [a1]).trans KJ (allS (Or.inl (by simp)) all0)
  obtain ⟨fs, hr, hrun, hended, hW, hsame⟩ := XJ.leave (v := none) (fun _ => rfl)
  refine ⟨_, _, pre0 _ ?_, hrun, hended, _, _, rfl, ?_, ⟨_, rfl⟩, hW, hsame.mono (by decide) (by decide)⟩
  · show Steps p.tables e below (s₁.setTop (mkF m 0 #[.val (.ref a1), .val (.int p2), .unset, .unset] [])) _
    refine XS.iconst X0.here hx rfl (hb hby d4_0) ?_
    show Steps p.tables e below (s₁.setTop (mkF m 1 #[.val (.ref a1), .val (.int p2), .unset, .unset] [(.int (0 : Int32))])) _
    refine XS.istoreN X0.here hx rfl (hb hby d4_1) rfl (l' := #[.val (.ref a1), .val (.int p2), .val (.int (0 : Int32)), .unset]) rfl ?_
    show Steps p.tables e below (s₁.setTop (mkF m 2 #[.val (.ref a1), .val (.int p2), .val (.int (0 : Int32)), .unset] [])) _
    refine XS.aloadN X0.here hx rfl (hb hby d4_2) rfl rfl ?_
    show Steps p.tables e below (s₁.setTop (mkF m 3 #[.val (.ref a1), .val (.int p2), .val (.int (0 : Int32)), .unset] [(.ref a1)])) _
    refine X0.arraylength hx (by rw [e0]; exact Ar1.1) (State.isArrayOf_alike hZ.alike Ar1.2.1) (g := (mkF m 3 #[.val (.ref a1), .val (.int p2), .val (.int (0 : Int32)), .unset] [(.ref a1)])) rfl rfl (hb hby d4_3) _ ?_
    rw [S1, show (4096 : Nat).toInt32 = (4096 : Int32) from rfl]
    show Steps p.tables e below (s₁.setTop (mkF m 4 #[.val (.ref a1), .val (.int p2), .val (.int (0 : Int32)), .unset] [(.int (4096 : Int32))])) _
    refine XS.istoreN X0.here hx rfl (hb hby d4_4) rfl (l' := #[.val (.ref a1), .val (.int p2), .val (.int (0 : Int32)), .val (.int (4096 : Int32))]) rfl ?_
    show Steps p.tables e below (s₁.setTop (mkF m 5 #[.val (.ref a1), .val (.int p2), .val (.int (0 : Int32)), .val (.int (4096 : Int32))] [])) _
    refine stJ _ ?_
    show Steps p.tables e below (TJ.setTop (mkF m 20 #[.val (.ref a1), .val (.int p2), .val (.int (Nat.toInt32 4096)), .val (.int (4096 : Int32))] [])) _
    exact XJ.returnOut hx Bd.returns (hb hby d4_20) hr
  · show Q_rmF Z a1 p2 h0 n0 _ TJ.heap _
    rw [eJ]
    exact ⟨rfl, NJ, KpJ⟩
theorem pn_7 : plainName "com/example/brevi/brevi/bdd/Bdd" = true := by first | (simp [plainName, overriddenIn]; done) | decide +kernel
theorem ef_7_RRI (m : MethodId) (x0 : Addr) (x1 : Addr) (x2 : Int32) : entryFrame m #[(.ref x0), (.ref x1), (.int x2)] 3 = mkF m 0 #[.val (.ref x0), .val (.ref x1), .val (.int x2)] [] := by first | (simp [entryFrame, mkF, argsToLocals, Value.category]; done) | rfl
theorem d7_0 : decode prog_3_method_1_code 0 = .ok (.aload_n 0, 1) := by decide +kernel
theorem d7_1 : decode prog_3_method_1_code 1 = .ok (.invokespecial 1, 3) := by decide +kernel
theorem d7_4 : decode prog_3_method_1_code 4 = .ok (.aload_n 0, 1) := by decide +kernel
theorem d7_5 : decode prog_3_method_1_code 5 = .ok (.aload_n 1, 1) := by decide +kernel
theorem d7_6 : decode prog_3_method_1_code 6 = .ok (.putfield 7, 3) := by decide +kernel
theorem d7_9 : decode prog_3_method_1_code 9 = .ok (.aload_n 0, 1) := by decide +kernel
theorem d7_10 : decode prog_3_method_1_code 10 = .ok (.iload_n 2, 1) := by decide +kernel
theorem d7_11 : decode prog_3_method_1_code 11 = .ok (.putfield 13, 3) := by decide +kernel
theorem d7_14 : decode prog_3_method_1_code 14 = .ok (.return_, 1) := by decide +kernel
def Q_rmB (Z : State) (a1 : Addr) (a2 : Addr) (p3 : Int32) (h0 : Heap) (n0 : Nat) (v : Option Value) (h : Heap) (L : List Loc) : Prop := v = none ∧ Fr n0 L ∧ Keep h0 h [a1] ∧ Exa Z h a1 "com/example/brevi/brevi/bdd/Bdd" ∧ Fld Z h a1 "com/example/brevi/brevi/bdd/Bdd" "manager" "Lcom/example/brevi/brevi/bdd/BddManager;" (.ref a2) ∧ Fld Z h a1 "com/example/brevi/brevi/bdd/Bdd" "node" "I" (.int p3)
set_option maxRecDepth 65536 in
set_option maxHeartbeats 40000000 in
theorem rmB (l : Launch) (Z : State) (a0 : Array Value) (hw : ∀ d ∈ tables_1, d.before a0 Z = true) (ws : List Jvm.Cond) (a1 : Addr) (a2 : Addr) (p3 : Int32) (h0 : Heap) (n0 : Nat) (Z0 : n0 ≤ h0.size) (E0 : Exa Z h0 a1 "com/example/brevi/brevi/bdd/Bdd") (F0 : Fld Z h0 a1 "com/example/brevi/brevi/bdd/Bdd" "manager" "Lcom/example/brevi/brevi/bdd/BddManager;" .null) (F1 : Fld Z h0 a1 "com/example/brevi/brevi/bdd/Bdd" "node" "I" (.int (0 : Int32))) (g0 : n0 ≤ a1) :
    MetFree l (⟨"com/example/brevi/brevi/bdd/Bdd", "<init>", "(Lcom/example/brevi/brevi/bdd/BddManager;I)V"⟩ : MethodName) (head1 (Jvm.Cond.code (⟨"com/example/brevi/brevi/bdd/Bdd", "<init>", "(Lcom/example/brevi/brevi/bdd/BddManager;I)V"⟩ : MethodName) prog_3_method_1_code 3 none :: ws) ({ frames := 1, cells := 0, slots := 0, locals := 12 } : Room)) (fun a U => a = #[(.ref a1), (.ref a2), (.int p3)] ∧ Z.Warmed39 U.vm ∧ U.heap = h0) (fun _ _ _ _ _ => True) (fun _ U o U' => ∃ v L, o = .returned v ∧ Q_rmB Z a1 a2 p3 h0 n0 v U'.heap L ∧ FrameEnd U o U' L ({ frames := 1, cells := 0, slots := 0, locals := 12 } : Room).cells ({ frames := 1, cells := 0, slots := 0, locals := 12 } : Room).slots) := by
  refine MetFree.of_bodySF (plainFor_of_name pn_7) hisR ?_
  intro p e s m args below meth c s₁ Bd hml0 hP hK
  obtain ⟨rfl, hZ, hh⟩ := hP
  have hx := Bd.exec
  have hby := Bd.bytes
  have hml : c.maxLocals = 3 := hml0
  have hown : s.vm.findClass "com/example/brevi/brevi/bdd/Bdd" = some m.cls := findClass_of_methodNamed Bd.named
  have hnm := (name_of_methodNamed Bd.named Bd.method).1
  have X0 : Stand p l e ({ frames := 1, cells := 0, slots := 0, locals := 12 } : Room) s m #[(.ref a1), (.ref a2), (.int p3)] below meth c s₁ [] 0 0 := Stand.of_body Bd
  have e0 : s₁.heap = h0 := by rw [← hh, Bd.state]; rfl
  have N0 := Fr.nil n0
  have pre0 : ∀ t, Steps p.tables e below (s₁.setTop (mkF m 0 #[.val (.ref a1), .val (.ref a2), .val (.int p3)] [])) t → Steps p.tables e below (s₁.setTop (entryFrame m #[(.ref a1), (.ref a2), (.int p3)] 3)) t := fun t k => castTop (ef_7_RRI m a1 a2 p3) k
  obtain ⟨T1, X1, e1, st1⟩ := initO X0 hx hZ hown (hw _ (List.mem_of_getElem? (i := 55) rfl)) (hw _ (List.mem_of_getElem? (i := 7) rfl)) (hw _ (List.mem_of_getElem? (i := 8) rfl)) e0 (g := (mkF m 1 #[.val (.ref a1), .val (.ref a2), .val (.int p3)] [(.ref a1)])) rfl (by rw [hml]; rfl) rfl (hb hby d7_1) (by decide) (W := 0) (by show 2 * 0 + _ ≤ _; exact Nat.le_of_eq rfl) (by decide)
  obtain ⟨T2, h2, X2, e2, W2, st2⟩ := putF X1 hx hZ hown (host := "") (Or.inl (hw _ (List.mem_of_getElem? (i := 56) rfl))) Via.refl e1 F0 E0 (Or.inr ⟨(hw _ (List.mem_of_getElem? (i := 57) rfl)), rfl, hnm⟩) (hw _ (List.mem_of_getElem? (i := 50) rfl)) (ty := (.object "com/example/brevi/brevi/bdd/BddManager")) (by decide) rfl rfl (g := (mkF m 6 #[.val (.ref a1), .val (.ref a2), .val (.int p3)] [(.ref a2), (.ref a1)])) rfl rfl (hb hby d7_6)
  have E0_2 := E0.wr W2
  have F1_2 := F1.other W2 (Or.inr (slot_ne (Or.inr (hw _ (List.mem_of_getElem? (i := 59) rfl))) (Or.inr (hw _ (List.mem_of_getElem? (i := 57) rfl))) (by decide) (t := .int) (t' := (.object "com/example/brevi/brevi/bdd/BddManager")) (by decide) (by decide)))
  have Z2 : n0 ≤ h2.size := Nat.le_trans Z0 (Keep.of_wr W2).1
  have Kp2 : Keep h0 h2 [a1] := (Keep.refl h0 [a1]).wr W2 (Or.inl (by simp))
  have Fw2 : Fld Z h2 a1 "com/example/brevi/brevi/bdd/Bdd" "manager" "Lcom/example/brevi/brevi/bdd/BddManager;" (.ref a2) := F0.same W2
  have N2 := Fr.snoc X2 N0 g0
  obtain ⟨T3, h3, X3, e3, W3, st3⟩ := putF X2 hx hZ hown (host := "") (Or.inl (hw _ (List.mem_of_getElem? (i := 58) rfl))) Via.refl e2 F1_2 E0_2 (Or.inr ⟨(hw _ (List.mem_of_getElem? (i := 59) rfl)), rfl, hnm⟩) (hw _ (List.mem_of_getElem? (i := 50) rfl)) (ty := .int) (by decide) rfl rfl (g := (mkF m 11 #[.val (.ref a1), .val (.ref a2), .val (.int p3)] [(.int p3), (.ref a1)])) rfl rfl (hb hby d7_11)
  have E0_3 := E0_2.wr W3
  have Fw2_3 := Fw2.other W3 (Or.inr (slot_ne (Or.inr (hw _ (List.mem_of_getElem? (i := 57) rfl))) (Or.inr (hw _ (List.mem_of_getElem? (i := 59) rfl))) (by decide) (t := (.object "com/example/brevi/brevi/bdd/BddManager")) (t' := .int) (by decide) (by decide)))
  have Z3 : n0 ≤ h3.size := Nat.le_trans Z2 (Keep.of_wr W3).1
  have Kp3 : Keep h0 h3 [a1] := Kp2.wr W3 (Or.inl (by simp))
  have Fw3 : Fld Z h3 a1 "com/example/brevi/brevi/bdd/Bdd" "node" "I" (.int p3) := F1_2.same W3
  have N3 := Fr.snoc X3 N2 g0
  obtain ⟨fs, hr, hrun, hended, hW, hsame⟩ := X3.leave (v := none) (fun _ => rfl)
  refine ⟨_, _, pre0 _ ?_, hrun, hended, _, _, rfl, ?_, ⟨_, rfl⟩, hW, hsame.mono (by decide) (by decide)⟩
  · show Steps p.tables e below (s₁.setTop (mkF m 0 #[.val (.ref a1), .val (.ref a2), .val (.int p3)] [])) _
    refine XS.aloadN X0.here hx rfl (hb hby d7_0) rfl rfl ?_
    show Steps p.tables e below (s₁.setTop (mkF m 1 #[.val (.ref a1), .val (.ref a2), .val (.int p3)] [(.ref a1)])) _
    refine st1 _ ?_
    show Steps p.tables e below (T1.setTop (mkF m 4 #[.val (.ref a1), .val (.ref a2), .val (.int p3)] [])) _
    refine XS.aloadN X1.here hx rfl (hb hby d7_4) rfl rfl ?_
    show Steps p.tables e below (T1.setTop (mkF m 5 #[.val (.ref a1), .val (.ref a2), .val (.int p3)] [(.ref a1)])) _
    refine XS.aloadN X1.here hx rfl (hb hby d7_5) rfl rfl ?_
    show Steps p.tables e below (T1.setTop (mkF m 6 #[.val (.ref a1), .val (.ref a2), .val (.int p3)] [(.ref a2), (.ref a1)])) _
    refine st2 _ ?_
    show Steps p.tables e below (T2.setTop (mkF m 9 #[.val (.ref a1), .val (.ref a2), .val (.int p3)] [])) _
    refine XS.aloadN X2.here hx rfl (hb hby d7_9) rfl rfl ?_
    show Steps p.tables e below (T2.setTop (mkF m 10 #[.val (.ref a1), .val (.ref a2), .val (.int p3)] [(.ref a1)])) _
    refine XS.iloadN X2.here hx rfl (hb hby d7_10) rfl ?_
    show Steps p.tables e below (T2.setTop (mkF m 11 #[.val (.ref a1), .val (.ref a2), .val (.int p3)] [(.int p3), (.ref a1)])) _
    refine st3 _ ?_
    show Steps p.tables e below (T3.setTop (mkF m 14 #[.val (.ref a1), .val (.ref a2), .val (.int p3)] [])) _
    exact X3.returnOut hx Bd.returns (hb hby d7_14) hr
  · show Q_rmB Z a1 a2 p3 h0 n0 _ T3.heap _
    rw [e3]
    exact ⟨rfl, N3, Kp3, E0_3, Fw2_3, Fw3⟩
theorem pn_3 : plainName "com/example/brevi/brevi/bdd/BddManager" = true := by first | (simp [plainName, overriddenIn]; done) | decide +kernel
theorem ef_3_RI (m : MethodId) (x0 : Addr) (x1 : Int32) : entryFrame m #[(.ref x0), (.int x1)] 2 = mkF m 0 #[.val (.ref x0), .val (.int x1)] [] := by first | (simp [entryFrame, mkF, argsToLocals, Value.category]; done) | rfl
theorem pd_2 : parseMethodDescriptor "([II)V" = some ⟨[(.array .int), .int], none⟩ := by decide +kernel
theorem d3_0 : decode prog_5_method_29_code 0 = .ok (.aload_n 0, 1) := by decide +kernel
theorem d3_1 : decode prog_5_method_29_code 1 = .ok (.iload_n 1, 1) := by decide +kernel
theorem d3_2 : decode prog_5_method_29_code 2 = .ok (.newarray .int, 2) := by decide +kernel
theorem d3_4 : decode prog_5_method_29_code 4 = .ok (.putfield 94, 3) := by decide +kernel
theorem d3_7 : decode prog_5_method_29_code 7 = .ok (.aload_n 0, 1) := by decide +kernel
theorem d3_8 : decode prog_5_method_29_code 8 = .ok (.iload_n 1, 1) := by decide +kernel
theorem d3_9 : decode prog_5_method_29_code 9 = .ok (.newarray .int, 2) := by decide +kernel
theorem d3_11 : decode prog_5_method_29_code 11 = .ok (.putfield 116, 3) := by decide +kernel
theorem d3_14 : decode prog_5_method_29_code 14 = .ok (.aload_n 0, 1) := by decide +kernel
theorem d3_15 : decode prog_5_method_29_code 15 = .ok (.iload_n 1, 1) := by decide +kernel
theorem d3_16 : decode prog_5_method_29_code 16 = .ok (.newarray .int, 2) := by decide +kernel
theorem d3_18 : decode prog_5_method_29_code 18 = .ok (.putfield 113, 3) := by decide +kernel
theorem d3_21 : decode prog_5_method_29_code 21 = .ok (.aload_n 0, 1) := by decide +kernel
theorem d3_22 : decode prog_5_method_29_code 22 = .ok (.iload_n 1, 1) := by decide +kernel
theorem d3_23 : decode prog_5_method_29_code 23 = .ok (.newarray .int, 2) := by decide +kernel
theorem d3_25 : decode prog_5_method_29_code 25 = .ok (.putfield 265, 3) := by decide +kernel
theorem d3_28 : decode prog_5_method_29_code 28 = .ok (.aload_n 0, 1) := by decide +kernel
theorem d3_29 : decode prog_5_method_29_code 29 = .ok (.iload_n 1, 1) := by decide +kernel
theorem d3_30 : decode prog_5_method_29_code 30 = .ok (.newarray .int, 2) := by decide +kernel
theorem d3_32 : decode prog_5_method_29_code 32 = .ok (.putfield 262, 3) := by decide +kernel
theorem d3_35 : decode prog_5_method_29_code 35 = .ok (.aload_n 0, 1) := by decide +kernel
theorem d3_36 : decode prog_5_method_29_code 36 = .ok (.getfield 262, 3) := by decide +kernel
theorem d3_39 : decode prog_5_method_29_code 39 = .ok (.iconst (-1), 1) := by decide +kernel
theorem d3_40 : decode prog_5_method_29_code 40 = .ok (.invokestatic 142, 3) := by decide +kernel
theorem d3_43 : decode prog_5_method_29_code 43 = .ok (.return_, 1) := by decide +kernel
def Q_rmN (Z : State) (a1 : Addr) (p2 : Int32) (h0 : Heap) (n0 : Nat) (v : Option Value) (h : Heap) (L : List Loc) : Prop := v = none ∧ Fr n0 L ∧ Keep h0 h [a1] ∧ ∃ u_variableOf u_lowOf u_highOf : Addr, h0.size ≤ u_variableOf ∧ own_A Z h u_variableOf ∧ h0.size ≤ u_lowOf ∧ own_A Z h u_lowOf ∧ h0.size ≤ u_highOf ∧ own_A Z h u_highOf ∧ Exa Z h a1 "com/example/brevi/brevi/bdd/BddManager" ∧ Fld Z h a1 "com/example/brevi/brevi/bdd/BddManager" "variableOf" "[I" (.ref u_variableOf) ∧ Fld Z h a1 "com/example/brevi/brevi/bdd/BddManager" "lowOf" "[I" (.ref u_lowOf) ∧ Fld Z h a1 "com/example/brevi/brevi/bdd/BddManager" "highOf" "[I" (.ref u_highOf) ∧ Fld Z h a1 "com/example/brevi/brevi/bdd/BddManager" "cacheOperation" "[I" .null ∧ Fld Z h a1 "com/example/brevi/brevi/bdd/BddManager" "cacheFirst" "[I" .null ∧ Fld Z h a1 "com/example/brevi/brevi/bdd/BddManager" "cacheSecond" "[I" .null ∧ Fld Z h a1 "com/example/brevi/brevi/bdd/BddManager" "cacheThird" "[I" .null ∧ Fld Z h a1 "com/example/brevi/brevi/bdd/BddManager" "cacheResult" "[I" .null ∧ Fld Z h a1 "com/example/brevi/brevi/bdd/BddManager" "nodeCount" "I" (.int (0 : Int32)) ∧ Fld Z h a1 "com/example/brevi/brevi/bdd/BddManager" "falseBdd" "Lcom/example/brevi/brevi/bdd/Bdd;" .null ∧ Fld Z h a1 "com/example/brevi/brevi/bdd/BddManager" "trueBdd" "Lcom/example/brevi/brevi/bdd/Bdd;" .null
set_option maxRecDepth 65536 in
set_option maxHeartbeats 40000000 in
theorem rmN (l : Launch) (Z : State) (a0 : Array Value) (hw : ∀ d ∈ tables_1, d.before a0 Z = true) (ws : List Jvm.Cond) (a1 : Addr) (p2 : Int32) (h0 : Heap) (n0 : Nat) (Z0 : n0 ≤ h0.size) (E0 : Exa Z h0 a1 "com/example/brevi/brevi/bdd/BddManager") (F_variableOf : Fld Z h0 a1 "com/example/brevi/brevi/bdd/BddManager" "variableOf" "[I" .null) (F_lowOf : Fld Z h0 a1 "com/example/brevi/brevi/bdd/BddManager" "lowOf" "[I" .null) (F_highOf : Fld Z h0 a1 "com/example/brevi/brevi/bdd/BddManager" "highOf" "[I" .null) (F_nextInBucket : Fld Z h0 a1 "com/example/brevi/brevi/bdd/BddManager" "nextInBucket" "[I" .null) (F_bucketHead : Fld Z h0 a1 "com/example/brevi/brevi/bdd/BddManager" "bucketHead" "[I" .null) (F_cacheOperation : Fld Z h0 a1 "com/example/brevi/brevi/bdd/BddManager" "cacheOperation" "[I" .null) (F_cacheFirst : Fld Z h0 a1 "com/example/brevi/brevi/bdd/BddManager" "cacheFirst" "[I" .null) (F_cacheSecond : Fld Z h0 a1 "com/example/brevi/brevi/bdd/BddManager" "cacheSecond" "[I" .null) (F_cacheThird : Fld Z h0 a1 "com/example/brevi/brevi/bdd/BddManager" "cacheThird" "[I" .null) (F_cacheResult : Fld Z h0 a1 "com/example/brevi/brevi/bdd/BddManager" "cacheResult" "[I" .null) (F_nodeCount : Fld Z h0 a1 "com/example/brevi/brevi/bdd/BddManager" "nodeCount" "I" (.int (0 : Int32))) (F_falseBdd : Fld Z h0 a1 "com/example/brevi/brevi/bdd/BddManager" "falseBdd" "Lcom/example/brevi/brevi/bdd/Bdd;" .null) (F_trueBdd : Fld Z h0 a1 "com/example/brevi/brevi/bdd/BddManager" "trueBdd" "Lcom/example/brevi/brevi/bdd/Bdd;" .null) (g0 : n0 ≤ a1) (hp : p2 = (4096 : Int32)) :
    MetFree l (⟨"com/example/brevi/brevi/bdd/BddManager", "allocateNodes", "(I)V"⟩ : MethodName) (head1 (Jvm.Cond.code (⟨"com/example/brevi/brevi/bdd/BddManager", "allocateNodes", "(I)V"⟩ : MethodName) prog_5_method_29_code 2 none :: ws) ({ frames := 1, cells := 5, slots := 20480, locals := 15 } : Room)) (fun a U => a = #[(.ref a1), (.int p2)] ∧ Z.Warmed39 U.vm ∧ U.heap = h0) (fun _ _ _ _ _ => True) (fun _ U o U' => ∃ v L, o = .returned v ∧ Q_rmN Z a1 p2 h0 n0 v U'.heap L ∧ FrameEnd U o U' L ({ frames := 1, cells := 5, slots := 20480, locals := 15 } : Room).cells ({ frames := 1, cells := 5, slots := 20480, locals := 15 } : Room).slots) := by
  refine MetFree.of_bodySF (plainFor_of_name pn_3) hisR ?_
  intro p e s m args below meth c s₁ Bd hml0 hP hK
  obtain ⟨rfl, hZ, hh⟩ := hP
  have hx := Bd.exec
  have hby := Bd.bytes
  have hml : c.maxLocals = 2 := hml0
  have hown : s.vm.findClass "com/example/brevi/brevi/bdd/BddManager" = some m.cls := findClass_of_methodNamed Bd.named
  have hnm := (name_of_methodNamed Bd.named Bd.method).1
  have X0 : Stand p l e ({ frames := 1, cells := 5, slots := 20480, locals := 15 } : Room) s m #[(.ref a1), (.int p2)] below meth c s₁ [] 0 0 := Stand.of_body Bd
  have e0 : s₁.heap = h0 := by rw [← hh, Bd.state]; rfl
  have N0 := Fr.nil n0
  have pre0 : ∀ t, Steps p.tables e below (s₁.setTop (mkF m 0 #[.val (.ref a1), .val (.int p2)] [])) t → Steps p.tables e below (s₁.setTop (entryFrame m #[(.ref a1), (.int p2)] 2)) t := fun t k => castTop (ef_3_RI m a1 p2) k
  subst hp
  obtain ⟨T1, h1, k1, X1, e1, E1, A1, st1⟩ := newP X0 hx hZ (hw _ (List.mem_of_getElem? (i := 13) rfl)) e0 (g := (mkF m 2 #[.val (.ref a1), .val (.int (4096 : Int32))] [(.int (4096 : Int32)), (.ref a1)])) rfl (hb hby d3_2) rfl (by decide) (cap := 4096) (by decide) (by decide) (by decide) (by decide)
  obtain ⟨b1, g1⟩ : ∃ z, z = h0.size := ⟨_, rfl⟩
  rw [← g1] at A1 st1
  have ne_a1_b1 : a1 ≠ b1 := Nat.ne_of_lt (Nat.lt_of_lt_of_eq E0.lt g1.symm)
  have ge_b1 : n0 ≤ b1 := Nat.le_trans Z0 (Nat.le_of_eq g1.symm)
  have sz_b1 : h0.size ≤ b1 := Nat.le_trans (Keep.refl h0 [a1]).1 (Nat.le_of_eq g1.symm)
  have E0_1 := E0.ext E1
  have F_variableOf_1 := F_variableOf.ext E1
  have F_lowOf_1 := F_lowOf.ext E1
  have F_highOf_1 := F_highOf.ext E1
  have F_nextInBucket_1 := F_nextInBucket.ext E1
  have F_bucketHead_1 := F_bucketHead.ext E1
  have F_cacheOperation_1 := F_cacheOperation.ext E1
  have F_cacheFirst_1 := F_cacheFirst.ext E1
  have F_cacheSecond_1 := F_cacheSecond.ext E1
  have F_cacheThird_1 := F_cacheThird.ext E1
  have F_cacheResult_1 := F_cacheResult.ext E1
  have F_nodeCount_1 := F_nodeCount.ext E1
  have F_falseBdd_1 := F_falseBdd.ext E1
  have F_trueBdd_1 := F_trueBdd.ext E1
  have Z1 : n0 ≤ h1.size := Nat.le_trans Z0 E1.1
  have Kp1 : Keep h0 h1 [a1] := (Keep.refl h0 [a1]).ext E1
  have OA_b1 : own_A Z h1 b1 := own_A.new A1
  obtain ⟨T2, h2, X2, e2, W2, st2⟩ := putF X1 hx hZ hown (host := "") (Or.inl (hw _ (List.mem_of_getElem? (i := 14) rfl))) Via.refl e1 F_variableOf_1 E0_1 (Or.inl (hw _ (List.mem_of_getElem? (i := 15) rfl))) (hw _ (List.mem_of_getElem? (i := 1) rfl)) (ty := (.array .int)) (by decide) rfl rfl (g := (mkF m 4 #[.val (.ref a1), .val (.int (4096 : Int32))] [(.ref b1), (.ref a1)])) rfl rfl (hb hby d3_4)
  have E0_2 := E0_1.wr W2
  have F_lowOf_2 := F_lowOf_1.other W2 (Or.inr (slot_ne (Or.inl (hw _ (List.mem_of_getElem? (i := 17) rfl))) (Or.inl (hw _ (List.mem_of_getElem? (i := 15) rfl))) (by decide) (t := (.array .int)) (t' := (.array .int)) (by decide) (by decide)))
  have F_highOf_2 := F_highOf_1.other W2 (Or.inr (slot_ne (Or.inl (hw _ (List.mem_of_getElem? (i := 19) rfl))) (Or.inl (hw _ (List.mem_of_getElem? (i := 15) rfl))) (by decide) (t := (.array .int)) (t' := (.array .int)) (by decide) (by decide)))
  have F_nextInBucket_2 := F_nextInBucket_1.other W2 (Or.inr (slot_ne (Or.inl (hw _ (List.mem_of_getElem? (i := 21) rfl))) (Or.inl (hw _ (List.mem_of_getElem? (i := 15) rfl))) (by decide) (t := (.array .int)) (t' := (.array .int)) (by decide) (by decide)))
  have F_bucketHead_2 := F_bucketHead_1.other W2 (Or.inr (slot_ne (Or.inl (hw _ (List.mem_of_getElem? (i := 23) rfl))) (Or.inl (hw _ (List.mem_of_getElem? (i := 15) rfl))) (by decide) (t := (.array .int)) (t' := (.array .int)) (by decide) (by decide)))
  have F_cacheOperation_2 := F_cacheOperation_1.other W2 (Or.inr (slot_ne (Or.inl (hw _ (List.mem_of_getElem? (i := 33) rfl))) (Or.inl (hw _ (List.mem_of_getElem? (i := 15) rfl))) (by decide) (t := (.array .int)) (t' := (.array .int)) (by decide) (by decide)))
  have F_cacheFirst_2 := F_cacheFirst_1.other W2 (Or.inr (slot_ne (Or.inl (hw _ (List.mem_of_getElem? (i := 35) rfl))) (Or.inl (hw _ (List.mem_of_getElem? (i := 15) rfl))) (by decide) (t := (.array .int)) (t' := (.array .int)) (by decide) (by decide)))
  have F_cacheSecond_2 := F_cacheSecond_1.other W2 (Or.inr (slot_ne (Or.inl (hw _ (List.mem_of_getElem? (i := 37) rfl))) (Or.inl (hw _ (List.mem_of_getElem? (i := 15) rfl))) (by decide) (t := (.array .int)) (t' := (.array .int)) (by decide) (by decide)))
  have F_cacheThird_2 := F_cacheThird_1.other W2 (Or.inr (slot_ne (Or.inl (hw _ (List.mem_of_getElem? (i := 39) rfl))) (Or.inl (hw _ (List.mem_of_getElem? (i := 15) rfl))) (by decide) (t := (.array .int)) (t' := (.array .int)) (by decide) (by decide)))
  have F_cacheResult_2 := F_cacheResult_1.other W2 (Or.inr (slot_ne (Or.inl (hw _ (List.mem_of_getElem? (i := 41) rfl))) (Or.inl (hw _ (List.mem_of_getElem? (i := 15) rfl))) (by decide) (t := (.array .int)) (t' := (.array .int)) (by decide) (by decide)))
  have F_nodeCount_2 := F_nodeCount_1.other W2 (Or.inr (slot_ne (Or.inl (hw _ (List.mem_of_getElem? (i := 48) rfl))) (Or.inl (hw _ (List.mem_of_getElem? (i := 15) rfl))) (by decide) (t := .int) (t' := (.array .int)) (by decide) (by decide)))
  have F_falseBdd_2 := F_falseBdd_1.other W2 (Or.inr (slot_ne (Or.inr (hw _ (List.mem_of_getElem? (i := 61) rfl))) (Or.inl (hw _ (List.mem_of_getElem? (i := 15) rfl))) (by decide) (t := (.object "com/example/brevi/brevi/bdd/Bdd")) (t' := (.array .int)) (by decide) (by decide)))
  have F_trueBdd_2 := F_trueBdd_1.other W2 (Or.inr (slot_ne (Or.inr (hw _ (List.mem_of_getElem? (i := 63) rfl))) (Or.inl (hw _ (List.mem_of_getElem? (i := 15) rfl))) (by decide) (t := (.object "com/example/brevi/brevi/bdd/Bdd")) (t' := (.array .int)) (by decide) (by decide)))
  have OA_b1_2 := OA_b1.wr W2
  have Z2 : n0 ≤ h2.size := Nat.le_trans Z1 (Keep.of_wr W2).1
  have Kp2 : Keep h0 h2 [a1] := Kp1.wr W2 (Or.inl (by simp))
  have Fw2 : Fld Z h2 a1 "com/example/brevi/brevi/bdd/BddManager" "variableOf" "[I" (.ref b1) := F_variableOf_1.same W2
  have N2 := Fr.snoc X2 N0 g0
  obtain ⟨T3, h3, k3, X3, e3, E3, A3, st3⟩ := newP X2 hx hZ (hw _ (List.mem_of_getElem? (i := 13) rfl)) e2 (g := (mkF m 9 #[.val (.ref a1), .val (.int (4096 : Int32))] [(.int (4096 : Int32)), (.ref a1)])) rfl (hb hby d3_9) rfl (by decide) (cap := 4096) (by decide) (by decide) (by decide) (by decide)
  obtain ⟨b3, g3⟩ : ∃ z, z = h2.size := ⟨_, rfl⟩
  rw [← g3] at A3 st3
  have ne_a1_b3 : a1 ≠ b3 := Nat.ne_of_lt (Nat.lt_of_lt_of_eq E0_2.lt g3.symm)
  have ne_b1_b3 : b1 ≠ b3 := Nat.ne_of_lt (Nat.lt_of_lt_of_eq OA_b1_2.lt g3.symm)
  have ge_b3 : n0 ≤ b3 := Nat.le_trans Z2 (Nat.le_of_eq g3.symm)
  have sz_b3 : h0.size ≤ b3 := Nat.le_trans Kp2.1 (Nat.le_of_eq g3.symm)
  have E0_3 := E0_2.ext E3
  have F_lowOf_3 := F_lowOf_2.ext E3
  have F_highOf_3 := F_highOf_2.ext E3
  have F_nextInBucket_3 := F_nextInBucket_2.ext E3
  have F_bucketHead_3 := F_bucketHead_2.ext E3
  have F_cacheOperation_3 := F_cacheOperation_2.ext E3
  have F_cacheFirst_3 := F_cacheFirst_2.ext E3
  have F_cacheSecond_3 := F_cacheSecond_2.ext E3
  have F_cacheThird_3 := F_cacheThird_2.ext E3
  have F_cacheResult_3 := F_cacheResult_2.ext E3
  have F_nodeCount_3 := F_nodeCount_2.ext E3
  have F_falseBdd_3 := F_falseBdd_2.ext E3
  have F_trueBdd_3 := F_trueBdd_2.ext E3
  have OA_b1_3 := OA_b1_2.ext E3
  have Fw2_3 := Fw2.ext E3
  have Z3 : n0 ≤ h3.size := Nat.le_trans Z2 E3.1
  have Kp3 : Keep h0 h3 [a1] := Kp2.ext E3
  have OA_b3 : own_A Z h3 b3 := own_A.new A3
  obtain ⟨T4, h4, X4, e4, W4, st4⟩ := putF X3 hx hZ hown (host := "") (Or.inl (hw _ (List.mem_of_getElem? (i := 16) rfl))) Via.refl e3 F_lowOf_3 E0_3 (Or.inl (hw _ (List.mem_of_getElem? (i := 17) rfl))) (hw _ (List.mem_of_getElem? (i := 1) rfl)) (ty := (.array .int)) (by decide) rfl rfl (g := (mkF m 11 #[.val (.ref a1), .val (.int (4096 : Int32))] [(.ref b3), (.ref a1)])) rfl rfl (hb hby d3_11)
  have E0_4 := E0_3.wr W4
  have F_highOf_4 := F_highOf_3.other W4 (Or.inr (slot_ne (Or.inl (hw _ (List.mem_of_getElem? (i := 19) rfl))) (Or.inl (hw _ (List.mem_of_getElem? (i := 17) rfl))) (by decide) (t := (.array .int)) (t' := (.array .int)) (by decide) (by decide)))
  have F_nextInBucket_4 := F_nextInBucket_3.other W4 (Or.inr (slot_ne (Or.inl (hw _ (List.mem_of_getElem? (i := 21) rfl))) (Or.inl (hw _ (List.mem_of_getElem? (i := 17) rfl))) (by decide) (t := (.array .int)) (t' := (.array .int)) (by decide) (by decide)))
  have F_bucketHead_4 := F_bucketHead_3.other W4 (Or.inr (slot_ne (Or.inl (hw _ (List.mem_of_getElem? (i := 23) rfl))) (Or.inl (hw _ (List.mem_of_getElem? (i := 17) rfl))) (by decide) (t := (.array .int)) (t' := (.array .int)) (by decide) (by decide)))
  have F_cacheOperation_4 := F_cacheOperation_3.other W4 (Or.inr (slot_ne (Or.inl (hw _ (List.mem_of_getElem? (i := 33) rfl))) (Or.inl (hw _ (List.mem_of_getElem? (i := 17) rfl))) (by decide) (t := (.array .int)) (t' := (.array .int)) (by decide) (by decide)))
  have F_cacheFirst_4 := F_cacheFirst_3.other W4 (Or.inr (slot_ne (Or.inl (hw _ (List.mem_of_getElem? (i := 35) rfl))) (Or.inl (hw _ (List.mem_of_getElem? (i := 17) rfl))) (by decide) (t := (.array .int)) (t' := (.array .int)) (by decide) (by decide)))
  have F_cacheSecond_4 := F_cacheSecond_3.other W4 (Or.inr (slot_ne (Or.inl (hw _ (List.mem_of_getElem? (i := 37) rfl))) (Or.inl (hw _ (List.mem_of_getElem? (i := 17) rfl))) (by decide) (t := (.array .int)) (t' := (.array .int)) (by decide) (by decide)))
  have F_cacheThird_4 := F_cacheThird_3.other W4 (Or.inr (slot_ne (Or.inl (hw _ (List.mem_of_getElem? (i := 39) rfl))) (Or.inl (hw _ (List.mem_of_getElem? (i := 17) rfl))) (by decide) (t := (.array .int)) (t' := (.array .int)) (by decide) (by decide)))
  have F_cacheResult_4 := F_cacheResult_3.other W4 (Or.inr (slot_ne (Or.inl (hw _ (List.mem_of_getElem? (i := 41) rfl))) (Or.inl (hw _ (List.mem_of_getElem? (i := 17) rfl))) (by decide) (t := (.array .int)) (t' := (.array .int)) (by decide) (by decide)))
  have F_nodeCount_4 := F_nodeCount_3.other W4 (Or.inr (slot_ne (Or.inl (hw _ (List.mem_of_getElem? (i := 48) rfl))) (Or.inl (hw _ (List.mem_of_getElem? (i := 17) rfl))) (by decide) (t := .int) (t' := (.array .int)) (by decide) (by decide)))
  have F_falseBdd_4 := F_falseBdd_3.other W4 (Or.inr (slot_ne (Or.inr (hw _ (List.mem_of_getElem? (i := 61) rfl))) (Or.inl (hw _ (List.mem_of_getElem? (i := 17) rfl))) (by decide) (t := (.object "com/example/brevi/brevi/bdd/Bdd")) (t' := (.array .int)) (by decide) (by decide)))
  have F_trueBdd_4 := F_trueBdd_3.other W4 (Or.inr (slot_ne (Or.inr (hw _ (List.mem_of_getElem? (i := 63) rfl))) (Or.inl (hw _ (List.mem_of_getElem? (i := 17) rfl))) (by decide) (t := (.object "com/example/brevi/brevi/bdd/Bdd")) (t' := (.array .int)) (by decide) (by decide)))
  have OA_b1_4 := OA_b1_3.wr W4
  have Fw2_4 := Fw2_3.other W4 (Or.inr (slot_ne (Or.inl (hw _ (List.mem_of_getElem? (i := 15) rfl))) (Or.inl (hw _ (List.mem_of_getElem? (i := 17) rfl))) (by decide) (t := (.array .int)) (t' := (.array .int)) (by decide) (by decide)))
  have OA_b3_4 := OA_b3.wr W4
  have Z4 : n0 ≤ h4.size := Nat.le_trans Z3 (Keep.of_wr W4).1
  have Kp4 : Keep h0 h4 [a1] := Kp3.wr W4 (Or.inl (by simp))
  have Fw4 : Fld Z h4 a1 "com/example/brevi/brevi/bdd/BddManager" "lowOf" "[I" (.ref b3) := F_lowOf_3.same W4
  have N4 := Fr.snoc X4 N2 g0
  obtain ⟨T5, h5, k5, X5, e5, E5, A5, st5⟩ := newP X4 hx hZ (hw _ (List.mem_of_getElem? (i := 13) rfl)) e4 (g := (mkF m 16 #[.val (.ref a1), .val (.int (4096 : Int32))] [(.int (4096 : Int32)), (.ref a1)])) rfl (hb hby d3_16) rfl (by decide) (cap := 4096) (by decide) (by decide) (by decide) (by decide)
  obtain ⟨b5, g5⟩ : ∃ z, z = h4.size := ⟨_, rfl⟩
  rw [← g5] at A5 st5
  have ne_a1_b5 : a1 ≠ b5 := Nat.ne_of_lt (Nat.lt_of_lt_of_eq E0_4.lt g5.symm)
  have ne_b1_b5 : b1 ≠ b5 := Nat.ne_of_lt (Nat.lt_of_lt_of_eq OA_b1_4.lt g5.symm)
  have ne_b3_b5 : b3 ≠ b5 := Nat.ne_of_lt (Nat.lt_of_lt_of_eq OA_b3_4.lt g5.symm)
  have ge_b5 : n0 ≤ b5 := Nat.le_trans Z4 (Nat.le_of_eq g5.symm)
  have sz_b5 : h0.size ≤ b5 := Nat.le_trans Kp4.1 (Nat.le_of_eq g5.symm)
  have E0_5 := E0_4.ext E5
  have F_highOf_5 := F_highOf_4.ext E5
  have F_nextInBucket_5 := F_nextInBucket_4.ext E5
  have F_bucketHead_5 := F_bucketHead_4.ext E5
  have F_cacheOperation_5 := F_cacheOperation_4.ext E5
  have F_cacheFirst_5 := F_cacheFirst_4.ext E5
  have F_cacheSecond_5 := F_cacheSecond_4.ext E5
  have F_cacheThird_5 := F_cacheThird_4.ext E5
  have F_cacheResult_5 := F_cacheResult_4.ext E5
  have F_nodeCount_5 := F_nodeCount_4.ext E5
  have F_falseBdd_5 := F_falseBdd_4.ext E5
  have F_trueBdd_5 := F_trueBdd_4.ext E5
  have OA_b1_5 := OA_b1_4.ext E5
  have Fw2_5 := Fw2_4.ext E5
  have OA_b3_5 := OA_b3_4.ext E5
  have Fw4_5 := Fw4.ext E5
  have Z5 : n0 ≤ h5.size := Nat.le_trans Z4 E5.1
  have Kp5 : Keep h0 h5 [a1] := Kp4.ext E5
  have OA_b5 : own_A Z h5 b5 := own_A.new A5
  obtain ⟨T6, h6, X6, e6, W6, st6⟩ := putF X5 hx hZ hown (host := "") (Or.inl (hw _ (List.mem_of_getElem? (i := 18) rfl))) Via.refl e5 F_highOf_5 E0_5 (Or.inl (hw _ (List.mem_of_getElem? (i := 19) rfl))) (hw _ (List.mem_of_getElem? (i := 1) rfl)) (ty := (.array .int)) (by decide) rfl rfl (g := (mkF m 18 #[.val (.ref a1), .val (.int (4096 : Int32))] [(.ref b5), (.ref a1)])) rfl rfl (hb hby d3_18)
  have E0_6 := E0_5.wr W6
  have F_nextInBucket_6 := F_nextInBucket_5.other W6 (Or.inr (slot_ne (Or.inl (hw _ (List.mem_of_getElem? (i := 21) rfl))) (Or.inl (hw _ (List.mem_of_getElem? (i := 19) rfl))) (by decide) (t := (.array .int)) (t' := (.array .int)) (by decide) (by decide)))
  have F_bucketHead_6 := F_bucketHead_5.other W6 (Or.inr (slot_ne (Or.inl (hw _ (List.mem_of_getElem? (i := 23) rfl))) (Or.inl (hw _ (List.mem_of_getElem? (i := 19) rfl))) (by decide) (t := (.array .int)) (t' := (.array .int)) (by decide) (by decide)))
  have F_cacheOperation_6 := F_cacheOperation_5.other W6 (Or.inr (slot_ne (Or.inl (hw _ (List.mem_of_getElem? (i := 33) rfl))) (Or.inl (hw _ (List.mem_of_getElem? (i := 19) rfl))) (by decide) (t := (.array .int)) (t' := (.array .int)) (by decide) (by decide)))
  have F_cacheFirst_6 := F_cacheFirst_5.other W6 (Or.inr (slot_ne (Or.inl (hw _ (List.mem_of_getElem? (i := 35) rfl))) (Or.inl (hw _ (List.mem_of_getElem? (i := 19) rfl))) (by decide) (t := (.array .int)) (t' := (.array .int)) (by decide) (by decide)))
  have F_cacheSecond_6 := F_cacheSecond_5.other W6 (Or.inr (slot_ne (Or.inl (hw _ (List.mem_of_getElem? (i := 37) rfl))) (Or.inl (hw _ (List.mem_of_getElem? (i := 19) rfl))) (by decide) (t := (.array .int)) (t' := (.array .int)) (by decide) (by decide)))
  have F_cacheThird_6 := F_cacheThird_5.other W6 (Or.inr (slot_ne (Or.inl (hw _ (List.mem_of_getElem? (i := 39) rfl))) (Or.inl (hw _ (List.mem_of_getElem? (i := 19) rfl))) (by decide) (t := (.array .int)) (t' := (.array .int)) (by decide) (by decide)))
  have F_cacheResult_6 := F_cacheResult_5.other W6 (Or.inr (slot_ne (Or.inl (hw _ (List.mem_of_getElem? (i := 41) rfl))) (Or.inl (hw _ (List.mem_of_getElem? (i := 19) rfl))) (by decide) (t := (.array .int)) (t' := (.array .int)) (by decide) (by decide)))
  have F_nodeCount_6 := F_nodeCount_5.other W6 (Or.inr (slot_ne (Or.inl (hw _ (List.mem_of_getElem? (i := 48) rfl))) (Or.inl (hw _ (List.mem_of_getElem? (i := 19) rfl))) (by decide) (t := .int) (t' := (.array .int)) (by decide) (by decide)))
  have F_falseBdd_6 := F_falseBdd_5.other W6 (Or.inr (slot_ne (Or.inr (hw _ (List.mem_of_getElem? (i := 61) rfl))) (Or.inl (hw _ (List.mem_of_getElem? (i := 19) rfl))) (by decide) (t := (.object "com/example/brevi/brevi/bdd/Bdd")) (t' := (.array .int)) (by decide) (by decide)))
  have F_trueBdd_6 := F_trueBdd_5.other W6 (Or.inr (slot_ne (Or.inr (hw _ (List.mem_of_getElem? (i := 63) rfl))) (Or.inl (hw _ (List.mem_of_getElem? (i := 19) rfl))) (by decide) (t := (.object "com/example/brevi/brevi/bdd/Bdd")) (t' := (.array .int)) (by decide) (by decide)))
  have OA_b1_6 := OA_b1_5.wr W6
  have Fw2_6 := Fw2_5.other W6 (Or.inr (slot_ne (Or.inl (hw _ (List.mem_of_getElem? (i := 15) rfl))) (Or.inl (hw _ (List.mem_of_getElem? (i := 19) rfl))) (by decide) (t := (.array .int)) (t' := (.array .int)) (by decide) (by decide)))
  have OA_b3_6 := OA_b3_5.wr W6
  have Fw4_6 := Fw4_5.other W6 (Or.inr (slot_ne (Or.inl (hw _ (List.mem_of_getElem? (i := 17) rfl))) (Or.inl (hw _ (List.mem_of_getElem? (i := 19) rfl))) (by decide) (t := (.array .int)) (t' := (.array .int)) (by decide) (by decide)))
  have OA_b5_6 := OA_b5.wr W6
  have Z6 : n0 ≤ h6.size := Nat.le_trans Z5 (Keep.of_wr W6).1
  have Kp6 : Keep h0 h6 [a1] := Kp5.wr W6 (Or.inl (by simp))
  have Fw6 : Fld Z h6 a1 "com/example/brevi/brevi/bdd/BddManager" "highOf" "[I" (.ref b5) := F_highOf_5.same W6
  have N6 := Fr.snoc X6 N4 g0
  obtain ⟨T7, h7, k7, X7, e7, E7, A7, st7⟩ := newP X6 hx hZ (hw _ (List.mem_of_getElem? (i := 13) rfl)) e6 (g := (mkF m 23 #[.val (.ref a1), .val (.int (4096 : Int32))] [(.int (4096 : Int32)), (.ref a1)])) rfl (hb hby d3_23) rfl (by decide) (cap := 4096) (by decide) (by decide) (by decide) (by decide)
  obtain ⟨b7, g7⟩ : ∃ z, z = h6.size := ⟨_, rfl⟩
  rw [← g7] at A7 st7
  have ne_a1_b7 : a1 ≠ b7 := Nat.ne_of_lt (Nat.lt_of_lt_of_eq E0_6.lt g7.symm)
  have ne_b1_b7 : b1 ≠ b7 := Nat.ne_of_lt (Nat.lt_of_lt_of_eq OA_b1_6.lt g7.symm)
  have ne_b3_b7 : b3 ≠ b7 := Nat.ne_of_lt (Nat.lt_of_lt_of_eq OA_b3_6.lt g7.symm)
  have ne_b5_b7 : b5 ≠ b7 := Nat.ne_of_lt (Nat.lt_of_lt_of_eq OA_b5_6.lt g7.symm)
  have ge_b7 : n0 ≤ b7 := Nat.le_trans Z6 (Nat.le_of_eq g7.symm)
  have sz_b7 : h0.size ≤ b7 := Nat.le_trans Kp6.1 (Nat.le_of_eq g7.symm)
  have E0_7 := E0_6.ext E7
  have F_nextInBucket_7 := F_nextInBucket_6.ext E7
  have F_bucketHead_7 := F_bucketHead_6.ext E7
  have F_cacheOperation_7 := F_cacheOperation_6.ext E7
  have F_cacheFirst_7 := F_cacheFirst_6.ext E7
  have F_cacheSecond_7 := F_cacheSecond_6.ext E7
  have F_cacheThird_7 := F_cacheThird_6.ext E7
  have F_cacheResult_7 := F_cacheResult_6.ext E7
  have F_nodeCount_7 := F_nodeCount_6.ext E7
  have F_falseBdd_7 := F_falseBdd_6.ext E7
  have F_trueBdd_7 := F_trueBdd_6.ext E7
  have OA_b1_7 := OA_b1_6.ext E7
  have Fw2_7 := Fw2_6.ext E7
  have OA_b3_7 := OA_b3_6.ext E7
  have Fw4_7 := Fw4_6.ext E7
  have OA_b5_7 := OA_b5_6.ext E7
  have Fw6_7 := Fw6.ext E7
  have Z7 : n0 ≤ h7.size := Nat.le_trans Z6 E7.1
  have Kp7 : Keep h0 h7 [a1] := Kp6.ext E7
  have OA_b7 : own_A Z h7 b7 := own_A.new A7
  obtain ⟨T8, h8, X8, e8, W8, st8⟩ := putF X7 hx hZ hown (host := "") (Or.inl (hw _ (List.mem_of_getElem? (i := 20) rfl))) Via.refl e7 F_nextInBucket_7 E0_7 (Or.inl (hw _ (List.mem_of_getElem? (i := 21) rfl))) (hw _ (List.mem_of_getElem? (i := 1) rfl)) (ty := (.array .int)) (by decide) rfl rfl (g := (mkF m 25 #[.val (.ref a1), .val (.int (4096 : Int32))] [(.ref b7), (.ref a1)])) rfl rfl (hb hby d3_25)
  have E0_8 := E0_7.wr W8
  have F_bucketHead_8 := F_bucketHead_7.other W8 (Or.inr (slot_ne (Or.inl (hw _ (List.mem_of_getElem? (i := 23) rfl))) (Or.inl (hw _ (List.mem_of_getElem? (i := 21) rfl))) (by decide) (t := (.array .int)) (t' := (.array .int)) (by decide) (by decide)))
  have F_cacheOperation_8 := F_cacheOperation_7.other W8 (Or.inr (slot_ne (Or.inl (hw _ (List.mem_of_getElem? (i := 33) rfl))) (Or.inl (hw _ (List.mem_of_getElem? (i := 21) rfl))) (by decide) (t := (.array .int)) (t' := (.array .int)) (by decide) (by decide)))
  have F_cacheFirst_8 := F_cacheFirst_7.other W8 (Or.inr (slot_ne (Or.inl (hw _ (List.mem_of_getElem? (i := 35) rfl))) (Or.inl (hw _ (List.mem_of_getElem? (i := 21) rfl))) (by decide) (t := (.array .int)) (t' := (.array .int)) (by decide) (by decide)))
  have F_cacheSecond_8 := F_cacheSecond_7.other W8 (Or.inr (slot_ne (Or.inl (hw _ (List.mem_of_getElem? (i := 37) rfl))) (Or.inl (hw _ (List.mem_of_getElem? (i := 21) rfl))) (by decide) (t := (.array .int)) (t' := (.array .int)) (by decide) (by decide)))
  have F_cacheThird_8 := F_cacheThird_7.other W8 (Or.inr (slot_ne (Or.inl (hw _ (List.mem_of_getElem? (i := 39) rfl))) (Or.inl (hw _ (List.mem_of_getElem? (i := 21) rfl))) (by decide) (t := (.array .int)) (t' := (.array .int)) (by decide) (by decide)))
  have F_cacheResult_8 := F_cacheResult_7.other W8 (Or.inr (slot_ne (Or.inl (hw _ (List.mem_of_getElem? (i := 41) rfl))) (Or.inl (hw _ (List.mem_of_getElem? (i := 21) rfl))) (by decide) (t := (.array .int)) (t' := (.array .int)) (by decide) (by decide)))
  have F_nodeCount_8 := F_nodeCount_7.other W8 (Or.inr (slot_ne (Or.inl (hw _ (List.mem_of_getElem? (i := 48) rfl))) (Or.inl (hw _ (List.mem_of_getElem? (i := 21) rfl))) (by decide) (t := .int) (t' := (.array .int)) (by decide) (by decide)))
  have F_falseBdd_8 := F_falseBdd_7.other W8 (Or.inr (slot_ne (Or.inr (hw _ (List.mem_of_getElem? (i := 61) rfl))) (Or.inl (hw _ (List.mem_of_getElem? (i := 21) rfl))) (by decide) (t := (.object "com/example/brevi/brevi/bdd/Bdd")) (t' := (.array .int)) (by decide) (by decide)))
  have F_trueBdd_8 := F_trueBdd_7.other W8 (Or.inr (slot_ne (Or.inr (hw _ (List.mem_of_getElem? (i := 63) rfl))) (Or.inl (hw _ (List.mem_of_getElem? (i := 21) rfl))) (by decide) (t := (.object "com/example/brevi/brevi/bdd/Bdd")) (t' := (.array .int)) (by decide) (by decide)))
  have OA_b1_8 := OA_b1_7.wr W8
  have Fw2_8 := Fw2_7.other W8 (Or.inr (slot_ne (Or.inl (hw _ (List.mem_of_getElem? (i := 15) rfl))) (Or.inl (hw _ (List.mem_of_getElem? (i := 21) rfl))) (by decide) (t := (.array .int)) (t' := (.array .int)) (by decide) (by decide)))
  have OA_b3_8 := OA_b3_7.wr W8
  have Fw4_8 := Fw4_7.other W8 (Or.inr (slot_ne (Or.inl (hw _ (List.mem_of_getElem? (i := 17) rfl))) (Or.inl (hw _ (List.mem_of_getElem? (i := 21) rfl))) (by decide) (t := (.array .int)) (t' := (.array .int)) (by decide) (by decide)))
  have OA_b5_8 := OA_b5_7.wr W8
  have Fw6_8 := Fw6_7.other W8 (Or.inr (slot_ne (Or.inl (hw _ (List.mem_of_getElem? (i := 19) rfl))) (Or.inl (hw _ (List.mem_of_getElem? (i := 21) rfl))) (by decide) (t := (.array .int)) (t' := (.array .int)) (by decide) (by decide)))
  have OA_b7_8 := OA_b7.wr W8
  have Z8 : n0 ≤ h8.size := Nat.le_trans Z7 (Keep.of_wr W8).1
  have Kp8 : Keep h0 h8 [a1] := Kp7.wr W8 (Or.inl (by simp))
  have Fw8 : Fld Z h8 a1 "com/example/brevi/brevi/bdd/BddManager" "nextInBucket" "[I" (.ref b7) := F_nextInBucket_7.same W8
  have N8 := Fr.snoc X8 N6 g0
  obtain ⟨T9, h9, k9, X9, e9, E9, A9, st9⟩ := newP X8 hx hZ (hw _ (List.mem_of_getElem? (i := 13) rfl)) e8 (g := (mkF m 30 #[.val (.ref a1), .val (.int (4096 : Int32))] [(.int (4096 : Int32)), (.ref a1)])) rfl (hb hby d3_30) rfl (by decide) (cap := 4096) (by decide) (by decide) (by decide) (by decide)
  obtain ⟨b9, g9⟩ : ∃ z, z = h8.size := ⟨_, rfl⟩
  rw [← g9] at A9 st9
  have ne_a1_b9 : a1 ≠ b9 := Nat.ne_of_lt (Nat.lt_of_lt_of_eq E0_8.lt g9.symm)
  have ne_b1_b9 : b1 ≠ b9 := Nat.ne_of_lt (Nat.lt_of_lt_of_eq OA_b1_8.lt g9.symm)
  have ne_b3_b9 : b3 ≠ b9 := Nat.ne_of_lt (Nat.lt_of_lt_of_eq OA_b3_8.lt g9.symm)
  have ne_b5_b9 : b5 ≠ b9 := Nat.ne_of_lt (Nat.lt_of_lt_of_eq OA_b5_8.lt g9.symm)
  have ne_b7_b9 : b7 ≠ b9 := Nat.ne_of_lt (Nat.lt_of_lt_of_eq OA_b7_8.lt g9.symm)
  have ge_b9 : n0 ≤ b9 := Nat.le_trans Z8 (Nat.le_of_eq g9.symm)
  have sz_b9 : h0.size ≤ b9 := Nat.le_trans Kp8.1 (Nat.le_of_eq g9.symm)
  have E0_9 := E0_8.ext E9
  have F_bucketHead_9 := F_bucketHead_8.ext E9
  have F_cacheOperation_9 := F_cacheOperation_8.ext E9
  have F_cacheFirst_9 := F_cacheFirst_8.ext E9
  have F_cacheSecond_9 := F_cacheSecond_8.ext E9
  have F_cacheThird_9 := F_cacheThird_8.ext E9
  have F_cacheResult_9 := F_cacheResult_8.ext E9
  have F_nodeCount_9 := F_nodeCount_8.ext E9
  have F_falseBdd_9 := F_falseBdd_8.ext E9
  have F_trueBdd_9 := F_trueBdd_8.ext E9
  have OA_b1_9 := OA_b1_8.ext E9
  have Fw2_9 := Fw2_8.ext E9
  have OA_b3_9 := OA_b3_8.ext E9
  have Fw4_9 := Fw4_8.ext E9
  have OA_b5_9 := OA_b5_8.ext E9
  have Fw6_9 := Fw6_8.ext E9
  have OA_b7_9 := OA_b7_8.ext E9
  have Fw8_9 := Fw8.ext E9
  have Z9 : n0 ≤ h9.size := Nat.le_trans Z8 E9.1
  have Kp9 : Keep h0 h9 [a1] := Kp8.ext E9
  have OA_b9 : own_A Z h9 b9 := own_A.new A9
  obtain ⟨T10, h10, X10, e10, W10, st10⟩ := putF X9 hx hZ hown (host := "") (Or.inl (hw _ (List.mem_of_getElem? (i := 22) rfl))) Via.refl e9 F_bucketHead_9 E0_9 (Or.inl (hw _ (List.mem_of_getElem? (i := 23) rfl))) (hw _ (List.mem_of_getElem? (i := 1) rfl)) (ty := (.array .int)) (by decide) rfl rfl (g := (mkF m 32 #[.val (.ref a1), .val (.int (4096 : Int32))] [(.ref b9), (.ref a1)])) rfl rfl (hb hby d3_32)
  have E0_10 := E0_9.wr W10
  have F_cacheOperation_10 := F_cacheOperation_9.other W10 (Or.inr (slot_ne (Or.inl (hw _ (List.mem_of_getElem? (i := 33) rfl))) (Or.inl (hw _ (List.mem_of_getElem? (i := 23) rfl))) (by decide) (t := (.array .int)) (t' := (.array .int)) (by decide) (by decide)))
  have F_cacheFirst_10 := F_cacheFirst_9.other W10 (Or.inr (slot_ne (Or.inl (hw _ (List.mem_of_getElem? (i := 35) rfl))) (Or.inl (hw _ (List.mem_of_getElem? (i := 23) rfl))) (by decide) (t := (.array .int)) (t' := (.array .int)) (by decide) (by decide)))
  have F_cacheSecond_10 := F_cacheSecond_9.other W10 (Or.inr (slot_ne (Or.inl (hw _ (List.mem_of_getElem? (i := 37) rfl))) (Or.inl (hw _ (List.mem_of_getElem? (i := 23) rfl))) (by decide) (t := (.array .int)) (t' := (.array .int)) (by decide) (by decide)))
  have F_cacheThird_10 := F_cacheThird_9.other W10 (Or.inr (slot_ne (Or.inl (hw _ (List.mem_of_getElem? (i := 39) rfl))) (Or.inl (hw _ (List.mem_of_getElem? (i := 23) rfl))) (by decide) (t := (.array .int)) (t' := (.array .int)) (by decide) (by decide)))
  have F_cacheResult_10 := F_cacheResult_9.other W10 (Or.inr (slot_ne (Or.inl (hw _ (List.mem_of_getElem? (i := 41) rfl))) (Or.inl (hw _ (List.mem_of_getElem? (i := 23) rfl))) (by decide) (t := (.array .int)) (t' := (.array .int)) (by decide) (by decide)))
  have F_nodeCount_10 := F_nodeCount_9.other W10 (Or.inr (slot_ne (Or.inl (hw _ (List.mem_of_getElem? (i := 48) rfl))) (Or.inl (hw _ (List.mem_of_getElem? (i := 23) rfl))) (by decide) (t := .int) (t' := (.array .int)) (by decide) (by decide)))
  have F_falseBdd_10 := F_falseBdd_9.other W10 (Or.inr (slot_ne (Or.inr (hw _ (List.mem_of_getElem? (i := 61) rfl))) (Or.inl (hw _ (List.mem_of_getElem? (i := 23) rfl))) (by decide) (t := (.object "com/example/brevi/brevi/bdd/Bdd")) (t' := (.array .int)) (by decide) (by decide)))
  have F_trueBdd_10 := F_trueBdd_9.other W10 (Or.inr (slot_ne (Or.inr (hw _ (List.mem_of_getElem? (i := 63) rfl))) (Or.inl (hw _ (List.mem_of_getElem? (i := 23) rfl))) (by decide) (t := (.object "com/example/brevi/brevi/bdd/Bdd")) (t' := (.array .int)) (by decide) (by decide)))
  have OA_b1_10 := OA_b1_9.wr W10
  have Fw2_10 := Fw2_9.other W10 (Or.inr (slot_ne (Or.inl (hw _ (List.mem_of_getElem? (i := 15) rfl))) (Or.inl (hw _ (List.mem_of_getElem? (i := 23) rfl))) (by decide) (t := (.array .int)) (t' := (.array .int)) (by decide) (by decide)))
  have OA_b3_10 := OA_b3_9.wr W10
  have Fw4_10 := Fw4_9.other W10 (Or.inr (slot_ne (Or.inl (hw _ (List.mem_of_getElem? (i := 17) rfl))) (Or.inl (hw _ (List.mem_of_getElem? (i := 23) rfl))) (by decide) (t := (.array .int)) (t' := (.array .int)) (by decide) (by decide)))
  have OA_b5_10 := OA_b5_9.wr W10
  have Fw6_10 := Fw6_9.other W10 (Or.inr (slot_ne (Or.inl (hw _ (List.mem_of_getElem? (i := 19) rfl))) (Or.inl (hw _ (List.mem_of_getElem? (i := 23) rfl))) (by decide) (t := (.array .int)) (t' := (.array .int)) (by decide) (by decide)))
  have OA_b7_10 := OA_b7_9.wr W10
  have Fw8_10 := Fw8_9.other W10 (Or.inr (slot_ne (Or.inl (hw _ (List.mem_of_getElem? (i := 21) rfl))) (Or.inl (hw _ (List.mem_of_getElem? (i := 23) rfl))) (by decide) (t := (.array .int)) (t' := (.array .int)) (by decide) (by decide)))
  have OA_b9_10 := OA_b9.wr W10
  have Z10 : n0 ≤ h10.size := Nat.le_trans Z9 (Keep.of_wr W10).1
  have Kp10 : Keep h0 h10 [a1] := Kp9.wr W10 (Or.inl (by simp))
  have Fw10 : Fld Z h10 a1 "com/example/brevi/brevi/bdd/BddManager" "bucketHead" "[I" (.ref b9) := F_bucketHead_9.same W10
  have N10 := Fr.snoc X10 N8 g0
  obtain ⟨T11, X11, e11, st11⟩ := getF X10 hx hZ hown (host := "") (Or.inl (hw _ (List.mem_of_getElem? (i := 22) rfl))) Via.refl e10 Fw10 (g := (mkF m 36 #[.val (.ref a1), .val (.int (4096 : Int32))] [(.ref a1)])) rfl rfl (hb hby d3_36)
  obtain ⟨_, _, ⟨T12, L12, k12, n12⟩, -, X12, ⟨Lc12, hQ12, l12, y12, z12⟩, st12⟩ := Jvm.LawKit.callS X11 hx (y := (⟨"java/util/Arrays", "fill", "([II)V"⟩ : MethodName)) hown (mvT hZ (hw _ (List.mem_of_getElem? (i := 24) rfl))) (mvT hZ (hw _ (List.mem_of_getElem? (i := 25) rfl))) (mvT hZ (hw _ (List.mem_of_getElem? (i := 26) rfl))) (mvT hZ (hw _ (List.mem_of_getElem? (i := 27) rfl))) (by decide) (backOf (W := 0) (rmF l Z a0 hw [] b9 (-1 : Int32) h10 n0 Z10 OA_b9_10 ge_b9) hZ (hw _ (List.mem_of_getElem? (i := 27) rfl)) (hw _ (List.mem_of_getElem? (i := 26) rfl)) (by decide) (by decide)) (g := (mkF m 40 #[.val (.ref a1), .val (.int (4096 : Int32))] [(.int (-1 : Int32)), (.ref b9)])) rfl (by rw [hml]; rfl) (argsL := [(.ref b9), (.int (-1 : Int32))]) (rest := []) (lenOf pd_2 rfl) rfl (by show 2 * 0 + _ ≤ _; exact Nat.le_of_eq rfl) (hb hby d3_40) (fun _ _ => ⟨rfl, e11, (by decide : 5 + 0 ≤ _), (by decide : 20480 + 0 ≤ _)⟩)
  dsimp only [Pt.U, Pt.locs, Pt.cells, Pt.slots] at X12 l12 y12 z12 st12 hQ12
  subst l12 y12 z12
  obtain ⟨rfl, Nq12, K12⟩ := hQ12
  have E0_12 := E0_10.keep K12
  have F_cacheOperation_12 := F_cacheOperation_10.keep K12 (ninS ne_a1_b9 nin0)
  have F_cacheFirst_12 := F_cacheFirst_10.keep K12 (ninS ne_a1_b9 nin0)
  have F_cacheSecond_12 := F_cacheSecond_10.keep K12 (ninS ne_a1_b9 nin0)
  have F_cacheThird_12 := F_cacheThird_10.keep K12 (ninS ne_a1_b9 nin0)
  have F_cacheResult_12 := F_cacheResult_10.keep K12 (ninS ne_a1_b9 nin0)
  have F_nodeCount_12 := F_nodeCount_10.keep K12 (ninS ne_a1_b9 nin0)
  have F_falseBdd_12 := F_falseBdd_10.keep K12 (ninS ne_a1_b9 nin0)
  have F_trueBdd_12 := F_trueBdd_10.keep K12 (ninS ne_a1_b9 nin0)
  have OA_b1_12 := OA_b1_10.keep K12
  have Fw2_12 := Fw2_10.keep K12 (ninS ne_a1_b9 nin0)
  have OA_b3_12 := OA_b3_10.keep K12
  have Fw4_12 := Fw4_10.keep K12 (ninS ne_a1_b9 nin0)
  have OA_b5_12 := OA_b5_10.keep K12
  have Fw6_12 := Fw6_10.keep K12 (ninS ne_a1_b9 nin0)
  have OA_b7_12 := OA_b7_10.keep K12
  have Fw8_12 := Fw8_10.keep K12 (ninS ne_a1_b9 nin0)
  have OA_b9_12 := OA_b9_10.keep K12
  have Fw10_12 := Fw10.keep K12 (ninS ne_a1_b9 nin0)
  have Z12 : n0 ≤ T12.heap.size := Nat.le_trans Z10 K12.1
  have Kp12 : Keep h0 T12.heap [a1] := Kp10.trans K12 (allS (Or.inr sz_b9) all0)
  have N12 := Fr.app N10 Nq12
  obtain ⟨fs, hr, hrun, hended, hW, hsame⟩ := X12.leave (v := none) (fun _ => rfl)
  refine ⟨_, _, pre0 _ ?_, hrun, hended, _, _, rfl, ?_, ⟨_, rfl⟩, hW, hsame.mono (by decide) (by decide)⟩
  · show Steps p.tables e below (s₁.setTop (mkF m 0 #[.val (.ref a1), .val (.int (4096 : Int32))] [])) _
    refine XS.aloadN X0.here hx rfl (hb hby d3_0) rfl rfl ?_
    show Steps p.tables e below (s₁.setTop (mkF m 1 #[.val (.ref a1), .val (.int (4096 : Int32))] [(.ref a1)])) _
    refine XS.iloadN X0.here hx rfl (hb hby d3_1) rfl ?_
    show Steps p.tables e below (s₁.setTop (mkF m 2 #[.val (.ref a1), .val (.int (4096 : Int32))] [(.int (4096 : Int32)), (.ref a1)])) _
    refine st1 _ ?_
    show Steps p.tables e below (T1.setTop (mkF m 4 #[.val (.ref a1), .val (.int (4096 : Int32))] [(.ref b1), (.ref a1)])) _
    refine st2 _ ?_
    show Steps p.tables e below (T2.setTop (mkF m 7 #[.val (.ref a1), .val (.int (4096 : Int32))] [])) _
    refine XS.aloadN X2.here hx rfl (hb hby d3_7) rfl rfl ?_
    show Steps p.tables e below (T2.setTop (mkF m 8 #[.val (.ref a1), .val (.int (4096 : Int32))] [(.ref a1)])) _
    refine XS.iloadN X2.here hx rfl (hb hby d3_8) rfl ?_
    show Steps p.tables e below (T2.setTop (mkF m 9 #[.val (.ref a1), .val (.int (4096 : Int32))] [(.int (4096 : Int32)), (.ref a1)])) _
    refine st3 _ ?_
    show Steps p.tables e below (T3.setTop (mkF m 11 #[.val (.ref a1), .val (.int (4096 : Int32))] [(.ref b3), (.ref a1)])) _
    refine st4 _ ?_
    show Steps p.tables e below (T4.setTop (mkF m 14 #[.val (.ref a1), .val (.int (4096 : Int32))] [])) _
    refine XS.aloadN X4.here hx rfl (hb hby d3_14) rfl rfl ?_
    show Steps p.tables e below (T4.setTop (mkF m 15 #[.val (.ref a1), .val (.int (4096 : Int32))] [(.ref a1)])) _
    refine XS.iloadN X4.here hx rfl (hb hby d3_15) rfl ?_
    show Steps p.tables e below (T4.setTop (mkF m 16 #[.val (.ref a1), .val (.int (4096 : Int32))] [(.int (4096 : Int32)), (.ref a1)])) _
    refine st5 _ ?_
    show Steps p.tables e below (T5.setTop (mkF m 18 #[.val (.ref a1), .val (.int (4096 : Int32))] [(.ref b5), (.ref a1)])) _
    refine st6 _ ?_
    show Steps p.tables e below (T6.setTop (mkF m 21 #[.val (.ref a1), .val (.int (4096 : Int32))] [])) _
    refine XS.aloadN X6.here hx rfl (hb hby d3_21) rfl rfl ?_
    show Steps p.tables e below (T6.setTop (mkF m 22 #[.val (.ref a1), .val (.int (4096 : Int32))] [(.ref a1)])) _
    refine XS.iloadN X6.here hx rfl (hb hby d3_22) rfl ?_
    show Steps p.tables e below (T6.setTop (mkF m 23 #[.val (.ref a1), .val (.int (4096 : Int32))] [(.int (4096 : Int32)), (.ref a1)])) _
    refine st7 _ ?_
    show Steps p.tables e below (T7.setTop (mkF m 25 #[.val (.ref a1), .val (.int (4096 : Int32))] [(.ref b7), (.ref a1)])) _
    refine st8 _ ?_
    show Steps p.tables e below (T8.setTop (mkF m 28 #[.val (.ref a1), .val (.int (4096 : Int32))] [])) _
    refine XS.aloadN X8.here hx rfl (hb hby d3_28) rfl rfl ?_
    show Steps p.tables e below (T8.setTop (mkF m 29 #[.val (.ref a1), .val (.int (4096 : Int32))] [(.ref a1)])) _
    refine XS.iloadN X8.here hx rfl (hb hby d3_29) rfl ?_
    show Steps p.tables e below (T8.setTop (mkF m 30 #[.val (.ref a1), .val (.int (4096 : Int32))] [(.int (4096 : Int32)), (.ref a1)])) _
    refine st9 _ ?_
    show Steps p.tables e below (T9.setTop (mkF m 32 #[.val (.ref a1), .val (.int (4096 : Int32))] [(.ref b9), (.ref a1)])) _
    refine st10 _ ?_
    show Steps p.tables e below (T10.setTop (mkF m 35 #[.val (.ref a1), .val (.int (4096 : Int32))] [])) _
    refine XS.aloadN X10.here hx rfl (hb hby d3_35) rfl rfl ?_
    show Steps p.tables e below (T10.setTop (mkF m 36 #[.val (.ref a1), .val (.int (4096 : Int32))] [(.ref a1)])) _
    refine st11 _ ?_
    show Steps p.tables e below (T11.setTop (mkF m 39 #[.val (.ref a1), .val (.int (4096 : Int32))] [(.ref b9)])) _
    refine XS.iconst X11.here hx rfl (hb hby d3_39) ?_
    show Steps p.tables e below (T11.setTop (mkF m 40 #[.val (.ref a1), .val (.int (4096 : Int32))] [(.int (-1 : Int32)), (.ref b9)])) _
    refine st12 _ ?_
    show Steps p.tables e below (T12.setTop (mkF m 43 #[.val (.ref a1), .val (.int (4096 : Int32))] [])) _
    exact X12.returnOut hx Bd.returns (hb hby d3_43) hr
  · show Q_rmN Z a1 (4096 : Int32) h0 n0 _ T12.heap _
    exact ⟨rfl, N12, Kp12, b1, b3, b5, sz_b1, OA_b1_12, sz_b3, OA_b3_12, sz_b5, OA_b5_12, E0_12, Fw2_12, Fw4_12, Fw6_12, F_cacheOperation_12, F_cacheFirst_12, F_cacheSecond_12, F_cacheThird_12, F_cacheResult_12, F_nodeCount_12, F_falseBdd_12, F_trueBdd_12⟩
theorem pn_5 : plainName "com/example/brevi/brevi/bdd/BddManager" = true := by first | (simp [plainName, overriddenIn]; done) | decide +kernel
theorem ef_5_RI (m : MethodId) (x0 : Addr) (x1 : Int32) : entryFrame m #[(.ref x0), (.int x1)] 2 = mkF m 0 #[.val (.ref x0), .val (.int x1)] [] := by first | (simp [entryFrame, mkF, argsToLocals, Value.category]; done) | rfl
theorem d5_0 : decode prog_5_method_31_code 0 = .ok (.aload_n 0, 1) := by decide +kernel
theorem d5_1 : decode prog_5_method_31_code 1 = .ok (.iload_n 1, 1) := by decide +kernel
theorem d5_2 : decode prog_5_method_31_code 2 = .ok (.newarray .int, 2) := by decide +kernel
theorem d5_4 : decode prog_5_method_31_code 4 = .ok (.putfield 290, 3) := by decide +kernel
theorem d5_7 : decode prog_5_method_31_code 7 = .ok (.aload_n 0, 1) := by decide +kernel
theorem d5_8 : decode prog_5_method_31_code 8 = .ok (.iload_n 1, 1) := by decide +kernel
theorem d5_9 : decode prog_5_method_31_code 9 = .ok (.newarray .int, 2) := by decide +kernel
theorem d5_11 : decode prog_5_method_31_code 11 = .ok (.putfield 293, 3) := by decide +kernel
theorem d5_14 : decode prog_5_method_31_code 14 = .ok (.aload_n 0, 1) := by decide +kernel
theorem d5_15 : decode prog_5_method_31_code 15 = .ok (.iload_n 1, 1) := by decide +kernel
theorem d5_16 : decode prog_5_method_31_code 16 = .ok (.newarray .int, 2) := by decide +kernel
theorem d5_18 : decode prog_5_method_31_code 18 = .ok (.putfield 296, 3) := by decide +kernel
theorem d5_21 : decode prog_5_method_31_code 21 = .ok (.aload_n 0, 1) := by decide +kernel
theorem d5_22 : decode prog_5_method_31_code 22 = .ok (.iload_n 1, 1) := by decide +kernel
theorem d5_23 : decode prog_5_method_31_code 23 = .ok (.newarray .int, 2) := by decide +kernel
theorem d5_25 : decode prog_5_method_31_code 25 = .ok (.putfield 299, 3) := by decide +kernel
theorem d5_28 : decode prog_5_method_31_code 28 = .ok (.aload_n 0, 1) := by decide +kernel
theorem d5_29 : decode prog_5_method_31_code 29 = .ok (.iload_n 1, 1) := by decide +kernel
theorem d5_30 : decode prog_5_method_31_code 30 = .ok (.newarray .int, 2) := by decide +kernel
theorem d5_32 : decode prog_5_method_31_code 32 = .ok (.putfield 286, 3) := by decide +kernel
theorem d5_35 : decode prog_5_method_31_code 35 = .ok (.aload_n 0, 1) := by decide +kernel
theorem d5_36 : decode prog_5_method_31_code 36 = .ok (.getfield 290, 3) := by decide +kernel
theorem d5_39 : decode prog_5_method_31_code 39 = .ok (.iconst (-1), 1) := by decide +kernel
theorem d5_40 : decode prog_5_method_31_code 40 = .ok (.invokestatic 142, 3) := by decide +kernel
theorem d5_43 : decode prog_5_method_31_code 43 = .ok (.return_, 1) := by decide +kernel
def Q_rmC (Z : State) (a1 : Addr) (p2 : Int32) (w_variableOf : Addr) (w_lowOf : Addr) (w_highOf : Addr) (h0 : Heap) (n0 : Nat) (v : Option Value) (h : Heap) (L : List Loc) : Prop := v = none ∧ Fr n0 L ∧ Keep h0 h [a1] ∧ Exa Z h a1 "com/example/brevi/brevi/bdd/BddManager" ∧ Fld Z h a1 "com/example/brevi/brevi/bdd/BddManager" "variableOf" "[I" (.ref w_variableOf) ∧ Fld Z h a1 "com/example/brevi/brevi/bdd/BddManager" "lowOf" "[I" (.ref w_lowOf) ∧ Fld Z h a1 "com/example/brevi/brevi/bdd/BddManager" "highOf" "[I" (.ref w_highOf) ∧ Fld Z h a1 "com/example/brevi/brevi/bdd/BddManager" "nodeCount" "I" (.int (0 : Int32)) ∧ Fld Z h a1 "com/example/brevi/brevi/bdd/BddManager" "falseBdd" "Lcom/example/brevi/brevi/bdd/Bdd;" .null ∧ Fld Z h a1 "com/example/brevi/brevi/bdd/BddManager" "trueBdd" "Lcom/example/brevi/brevi/bdd/Bdd;" .null
set_option maxRecDepth 65536 in
set_option maxHeartbeats 40000000 in
theorem rmC (l : Launch) (Z : State) (a0 : Array Value) (hw : ∀ d ∈ tables_1, d.before a0 Z = true) (ws : List Jvm.Cond) (a1 : Addr) (p2 : Int32) (w_variableOf : Addr) (w_lowOf : Addr) (w_highOf : Addr) (h0 : Heap) (n0 : Nat) (Z0 : n0 ≤ h0.size) (E0 : Exa Z h0 a1 "com/example/brevi/brevi/bdd/BddManager") (F_cacheOperation : Fld Z h0 a1 "com/example/brevi/brevi/bdd/BddManager" "cacheOperation" "[I" .null) (F_cacheFirst : Fld Z h0 a1 "com/example/brevi/brevi/bdd/BddManager" "cacheFirst" "[I" .null) (F_cacheSecond : Fld Z h0 a1 "com/example/brevi/brevi/bdd/BddManager" "cacheSecond" "[I" .null) (F_cacheThird : Fld Z h0 a1 "com/example/brevi/brevi/bdd/BddManager" "cacheThird" "[I" .null) (F_cacheResult : Fld Z h0 a1 "com/example/brevi/brevi/bdd/BddManager" "cacheResult" "[I" .null) (F_variableOf : Fld Z h0 a1 "com/example/brevi/brevi/bdd/BddManager" "variableOf" "[I" (.ref w_variableOf)) (F_lowOf : Fld Z h0 a1 "com/example/brevi/brevi/bdd/BddManager" "lowOf" "[I" (.ref w_lowOf)) (F_highOf : Fld Z h0 a1 "com/example/brevi/brevi/bdd/BddManager" "highOf" "[I" (.ref w_highOf)) (F_nodeCount : Fld Z h0 a1 "com/example/brevi/brevi/bdd/BddManager" "nodeCount" "I" (.int (0 : Int32))) (F_falseBdd : Fld Z h0 a1 "com/example/brevi/brevi/bdd/BddManager" "falseBdd" "Lcom/example/brevi/brevi/bdd/Bdd;" .null) (F_trueBdd : Fld Z h0 a1 "com/example/brevi/brevi/bdd/BddManager" "trueBdd" "Lcom/example/brevi/brevi/bdd/Bdd;" .null) (g0 : n0 ≤ a1) (hp : p2 = (4096 : Int32)) :
    MetFree l (⟨"com/example/brevi/brevi/bdd/BddManager", "allocateCache", "(I)V"⟩ : MethodName) (head1 (Jvm.Cond.code (⟨"com/example/brevi/brevi/bdd/BddManager", "allocateCache", "(I)V"⟩ : MethodName) prog_5_method_31_code 2 none :: ws) ({ frames := 1, cells := 5, slots := 20480, locals := 15 } : Room)) (fun a U => a = #[(.ref a1), (.int p2)] ∧ Z.Warmed39 U.vm ∧ U.heap = h0) (fun _ _ _ _ _ => True) (fun _ U o U' => ∃ v L, o = .returned v ∧ Q_rmC Z a1 p2 w_variableOf w_lowOf w_highOf h0 n0 v U'.heap L ∧ FrameEnd U o U' L ({ frames := 1, cells := 5, slots := 20480, locals := 15 } : Room).cells ({ frames := 1, cells := 5, slots := 20480, locals := 15 } : Room).slots) := by
  refine MetFree.of_bodySF (plainFor_of_name pn_5) hisR ?_
  intro p e s m args below meth c s₁ Bd hml0 hP hK
  obtain ⟨rfl, hZ, hh⟩ := hP
  have hx := Bd.exec
  have hby := Bd.bytes
  have hml : c.maxLocals = 2 := hml0
  have hown : s.vm.findClass "com/example/brevi/brevi/bdd/BddManager" = some m.cls := findClass_of_methodNamed Bd.named
  have hnm := (name_of_methodNamed Bd.named Bd.method).1
  have X0 : Stand p l e ({ frames := 1, cells := 5, slots := 20480, locals := 15 } : Room) s m #[(.ref a1), (.int p2)] below meth c s₁ [] 0 0 := Stand.of_body Bd
  have e0 : s₁.heap = h0 := by rw [← hh, Bd.state]; rfl
  have N0 := Fr.nil n0
  have pre0 : ∀ t, Steps p.tables e below (s₁.setTop (mkF m 0 #[.val (.ref a1), .val (.int p2)] [])) t → Steps p.tables e below (s₁.setTop (entryFrame m #[(.ref a1), (.int p2)] 2)) t := fun t k => castTop (ef_5_RI m a1 p2) k
  subst hp
  obtain ⟨T1, h1, k1, X1, e1, E1, A1, st1⟩ := newP X0 hx hZ (hw _ (List.mem_of_getElem? (i := 13) rfl)) e0 (g := (mkF m 2 #[.val (.ref a1), .val (.int (4096 : Int32))] [(.int (4096 : Int32)), (.ref a1)])) rfl (hb hby d5_2) rfl (by decide) (cap := 4096) (by decide) (by decide) (by decide) (by decide)
  obtain ⟨b1, g1⟩ : ∃ z, z = h0.size := ⟨_, rfl⟩
  rw [← g1] at A1 st1
  have ne_a1_b1 : a1 ≠ b1 := Nat.ne_of_lt (Nat.lt_of_lt_of_eq E0.lt g1.symm)
  have ge_b1 : n0 ≤ b1 := Nat.le_trans Z0 (Nat.le_of_eq g1.symm)
  have sz_b1 : h0.size ≤ b1 := Nat.le_trans (Keep.refl h0 [a1]).1 (Nat.le_of_eq g1.symm)
  have E0_1 := E0.ext E1
  have F_cacheOperation_1 := F_cacheOperation.ext E1
  have F_cacheFirst_1 := F_cacheFirst.ext E1
  have F_cacheSecond_1 := F_cacheSecond.ext E1
  have F_cacheThird_1 := F_cacheThird.ext E1
  have F_cacheResult_1 := F_cacheResult.ext E1
  have F_variableOf_1 := F_variableOf.ext E1
  have F_lowOf_1 := F_lowOf.ext E1
  have F_highOf_1 := F_highOf.ext E1
  have F_nodeCount_1 := F_nodeCount.ext E1
  have F_falseBdd_1 := F_falseBdd.ext E1
  have F_trueBdd_1 := F_trueBdd.ext E1
  have Z1 : n0 ≤ h1.size := Nat.le_trans Z0 E1.1
  have Kp1 : Keep h0 h1 [a1] := (Keep.refl h0 [a1]).ext E1
  have OA_b1 : own_A Z h1 b1 := own_A.new A1
  obtain ⟨T2, h2, X2, e2, W2, st2⟩ := putF X1 hx hZ hown (host := "") (Or.inl (hw _ (List.mem_of_getElem? (i := 32) rfl))) Via.refl e1 F_cacheOperation_1 E0_1 (Or.inl (hw _ (List.mem_of_getElem? (i := 33) rfl))) (hw _ (List.mem_of_getElem? (i := 1) rfl)) (ty := (.array .int)) (by decide) rfl rfl (g := (mkF m 4 #[.val (.ref a1), .val (.int (4096 : Int32))] [(.ref b1), (.ref a1)])) rfl rfl (hb hby d5_4)
  have E0_2 := E0_1.wr W2
  have F_cacheFirst_2 := F_cacheFirst_1.other W2 (Or.inr (slot_ne (Or.inl (hw _ (List.mem_of_getElem? (i := 35) rfl))) (Or.inl (hw _ (List.mem_of_getElem? (i := 33) rfl))) (by decide) (t := (.array .int)) (t' := (.array .int)) (by decide) (by decide)))
  have F_cacheSecond_2 := F_cacheSecond_1.other W2 (Or.inr (slot_ne (Or.inl (hw _ (List.mem_of_getElem? (i := 37) rfl))) (Or.inl (hw _ (List.mem_of_getElem? (i := 33) rfl))) (by decide) (t := (.array .int)) (t' := (.array .int)) (by decide) (by decide)))
  have F_cacheThird_2 := F_cacheThird_1.other W2 (Or.inr (slot_ne (Or.inl (hw _ (List.mem_of_getElem? (i := 39) rfl))) (Or.inl (hw _ (List.mem_of_getElem? (i := 33) rfl))) (by decide) (t := (.array .int)) (t' := (.array .int)) (by decide) (by decide)))
  have F_cacheResult_2 := F_cacheResult_1.other W2 (Or.inr (slot_ne (Or.inl (hw _ (List.mem_of_getElem? (i := 41) rfl))) (Or.inl (hw _ (List.mem_of_getElem? (i := 33) rfl))) (by decide) (t := (.array .int)) (t' := (.array .int)) (by decide) (by decide)))
  have F_variableOf_2 := F_variableOf_1.other W2 (Or.inr (slot_ne (Or.inl (hw _ (List.mem_of_getElem? (i := 15) rfl))) (Or.inl (hw _ (List.mem_of_getElem? (i := 33) rfl))) (by decide) (t := (.array .int)) (t' := (.array .int)) (by decide) (by decide)))
  have F_lowOf_2 := F_lowOf_1.other W2 (Or.inr (slot_ne (Or.inl (hw _ (List.mem_of_getElem? (i := 17) rfl))) (Or.inl (hw _ (List.mem_of_getElem? (i := 33) rfl))) (by decide) (t := (.array .int)) (t' := (.array .int)) (by decide) (by decide)))
  have F_highOf_2 := F_highOf_1.other W2 (Or.inr (slot_ne (Or.inl (hw _ (List.mem_of_getElem? (i := 19) rfl))) (Or.inl (hw _ (List.mem_of_getElem? (i := 33) rfl))) (by decide) (t := (.array .int)) (t' := (.array .int)) (by decide) (by decide)))
  have F_nodeCount_2 := F_nodeCount_1.other W2 (Or.inr (slot_ne (Or.inl (hw _ (List.mem_of_getElem? (i := 48) rfl))) (Or.inl (hw _ (List.mem_of_getElem? (i := 33) rfl))) (by decide) (t := .int) (t' := (.array .int)) (by decide) (by decide)))
  have F_falseBdd_2 := F_falseBdd_1.other W2 (Or.inr (slot_ne (Or.inr (hw _ (List.mem_of_getElem? (i := 61) rfl))) (Or.inl (hw _ (List.mem_of_getElem? (i := 33) rfl))) (by decide) (t := (.object "com/example/brevi/brevi/bdd/Bdd")) (t' := (.array .int)) (by decide) (by decide)))
  have F_trueBdd_2 := F_trueBdd_1.other W2 (Or.inr (slot_ne (Or.inr (hw _ (List.mem_of_getElem? (i := 63) rfl))) (Or.inl (hw _ (List.mem_of_getElem? (i := 33) rfl))) (by decide) (t := (.object "com/example/brevi/brevi/bdd/Bdd")) (t' := (.array .int)) (by decide) (by decide)))
  have OA_b1_2 := OA_b1.wr W2
  have Z2 : n0 ≤ h2.size := Nat.le_trans Z1 (Keep.of_wr W2).1
  have Kp2 : Keep h0 h2 [a1] := Kp1.wr W2 (Or.inl (by simp))
  have Fw2 : Fld Z h2 a1 "com/example/brevi/brevi/bdd/BddManager" "cacheOperation" "[I" (.ref b1) := F_cacheOperation_1.same W2
  have N2 := Fr.snoc X2 N0 g0
  obtain ⟨T3, h3, k3, X3, e3, E3, A3, st3⟩ := newP X2 hx hZ (hw _ (List.mem_of_getElem? (i := 13) rfl)) e2 (g := (mkF m 9 #[.val (.ref a1), .val (.int (4096 : Int32))] [(.int (4096 : Int32)), (.ref a1)])) rfl (hb hby d5_9) rfl (by decide) (cap := 4096) (by decide) (by decide) (by decide) (by decide)
  obtain ⟨b3, g3⟩ : ∃ z, z = h2.size := ⟨_, rfl⟩
  rw [← g3] at A3 st3
  have ne_a1_b3 : a1 ≠ b3 := Nat.ne_of_lt (Nat.lt_of_lt_of_eq E0_2.lt g3.symm)
  have ne_b1_b3 : b1 ≠ b3 := Nat.ne_of_lt (Nat.lt_of_lt_of_eq OA_b1_2.lt g3.symm)
  have ge_b3 : n0 ≤ b3 := Nat.le_trans Z2 (Nat.le_of_eq g3.symm)
  have sz_b3 : h0.size ≤ b3 := Nat.le_trans Kp2.1 (Nat.le_of_eq g3.symm)
  have E0_3 := E0_2.ext E3
  have F_cacheFirst_3 := F_cacheFirst_2.ext E3
  have F_cacheSecond_3 := F_cacheSecond_2.ext E3
  have F_cacheThird_3 := F_cacheThird_2.ext E3
  have F_cacheResult_3 := F_cacheResult_2.ext E3
  have F_variableOf_3 := F_variableOf_2.ext E3
  have F_lowOf_3 := F_lowOf_2.ext E3
  have F_highOf_3 := F_highOf_2.ext E3
  have F_nodeCount_3 := F_nodeCount_2.ext E3
  have F_falseBdd_3 := F_falseBdd_2.ext E3
  have F_trueBdd_3 := F_trueBdd_2.ext E3
  have OA_b1_3 := OA_b1_2.ext E3
  have Fw2_3 := Fw2.ext E3
  have Z3 : n0 ≤ h3.size := Nat.le_trans Z2 E3.1
  have Kp3 : Keep h0 h3 [a1] := Kp2.ext E3
  have OA_b3 : own_A Z h3 b3 := own_A.new A3
  obtain ⟨T4, h4, X4, e4, W4, st4⟩ := putF X3 hx hZ hown (host := "") (Or.inl (hw _ (List.mem_of_getElem? (i := 34) rfl))) Via.refl e3 F_cacheFirst_3 E0_3 (Or.inl (hw _ (List.mem_of_getElem? (i := 35) rfl))) (hw _ (List.mem_of_getElem? (i := 1) rfl)) (ty := (.array .int)) (by decide) rfl rfl (g := (mkF m 11 #[.val (.ref a1), .val (.int (4096 : Int32))] [(.ref b3), (.ref a1)])) rfl rfl (hb hby d5_11)
  have E0_4 := E0_3.wr W4
  have F_cacheSecond_4 := F_cacheSecond_3.other W4 (Or.inr (slot_ne (Or.inl (hw _ (List.mem_of_getElem? (i := 37) rfl))) (Or.inl (hw _ (List.mem_of_getElem? (i := 35) rfl))) (by decide) (t := (.array .int)) (t' := (.array .int)) (by decide) (by decide)))
  have F_cacheThird_4 := F_cacheThird_3.other W4 (Or.inr (slot_ne (Or.inl (hw _ (List.mem_of_getElem? (i := 39) rfl))) (Or.inl (hw _ (List.mem_of_getElem? (i := 35) rfl))) (by decide) (t := (.array .int)) (t' := (.array .int)) (by decide) (by decide)))
  have F_cacheResult_4 := F_cacheResult_3.other W4 (Or.inr (slot_ne (Or.inl (hw _ (List.mem_of_getElem? (i := 41) rfl))) (Or.inl (hw _ (List.mem_of_getElem? (i := 35) rfl))) (by decide) (t := (.array .int)) (t' := (.array .int)) (by decide) (by decide)))
  have F_variableOf_4 := F_variableOf_3.other W4 (Or.inr (slot_ne (Or.inl (hw _ (List.mem_of_getElem? (i := 15) rfl))) (Or.inl (hw _ (List.mem_of_getElem? (i := 35) rfl))) (by decide) (t := (.array .int)) (t' := (.array .int)) (by decide) (by decide)))
  have F_lowOf_4 := F_lowOf_3.other W4 (Or.inr (slot_ne (Or.inl (hw _ (List.mem_of_getElem? (i := 17) rfl))) (Or.inl (hw _ (List.mem_of_getElem? (i := 35) rfl))) (by decide) (t := (.array .int)) (t' := (.array .int)) (by decide) (by decide)))
  have F_highOf_4 := F_highOf_3.other W4 (Or.inr (slot_ne (Or.inl (hw _ (List.mem_of_getElem? (i := 19) rfl))) (Or.inl (hw _ (List.mem_of_getElem? (i := 35) rfl))) (by decide) (t := (.array .int)) (t' := (.array .int)) (by decide) (by decide)))
  have F_nodeCount_4 := F_nodeCount_3.other W4 (Or.inr (slot_ne (Or.inl (hw _ (List.mem_of_getElem? (i := 48) rfl))) (Or.inl (hw _ (List.mem_of_getElem? (i := 35) rfl))) (by decide) (t := .int) (t' := (.array .int)) (by decide) (by decide)))
  have F_falseBdd_4 := F_falseBdd_3.other W4 (Or.inr (slot_ne (Or.inr (hw _ (List.mem_of_getElem? (i := 61) rfl))) (Or.inl (hw _ (List.mem_of_getElem? (i := 35) rfl))) (by decide) (t := (.object "com/example/brevi/brevi/bdd/Bdd")) (t' := (.array .int)) (by decide) (by decide)))
  have F_trueBdd_4 := F_trueBdd_3.other W4 (Or.inr (slot_ne (Or.inr (hw _ (List.mem_of_getElem? (i := 63) rfl))) (Or.inl (hw _ (List.mem_of_getElem? (i := 35) rfl))) (by decide) (t := (.object "com/example/brevi/brevi/bdd/Bdd")) (t' := (.array .int)) (by decide) (by decide)))
  have OA_b1_4 := OA_b1_3.wr W4
  have Fw2_4 := Fw2_3.other W4 (Or.inr (slot_ne (Or.inl (hw _ (List.mem_of_getElem? (i := 33) rfl))) (Or.inl (hw _ (List.mem_of_getElem? (i := 35) rfl))) (by decide) (t := (.array .int)) (t' := (.array .int)) (by decide) (by decide)))
  have OA_b3_4 := OA_b3.wr W4
  have Z4 : n0 ≤ h4.size := Nat.le_trans Z3 (Keep.of_wr W4).1
  have Kp4 : Keep h0 h4 [a1] := Kp3.wr W4 (Or.inl (by simp))
  have Fw4 : Fld Z h4 a1 "com/example/brevi/brevi/bdd/BddManager" "cacheFirst" "[I" (.ref b3) := F_cacheFirst_3.same W4
  have N4 := Fr.snoc X4 N2 g0
  obtain ⟨T5, h5, k5, X5, e5, E5, A5, st5⟩ := newP X4 hx hZ (hw _ (List.mem_of_getElem? (i := 13) rfl)) e4 (g := (mkF m 16 #[.val (.ref a1), .val (.int (4096 : Int32))] [(.int (4096 : Int32)), (.ref a1)])) rfl (hb hby d5_16) rfl (by decide) (cap := 4096) (by decide) (by decide) (by decide) (by decide)
  obtain ⟨b5, g5⟩ : ∃ z, z = h4.size := ⟨_, rfl⟩
  rw [← g5] at A5 st5
  have ne_a1_b5 : a1 ≠ b5 := Nat.ne_of_lt (Nat.lt_of_lt_of_eq E0_4.lt g5.symm)
  have ne_b1_b5 : b1 ≠ b5 := Nat.ne_of_lt (Nat.lt_of_lt_of_eq OA_b1_4.lt g5.symm)
  have ne_b3_b5 : b3 ≠ b5 := Nat.ne_of_lt (Nat.lt_of_lt_of_eq OA_b3_4.lt g5.symm)
  have ge_b5 : n0 ≤ b5 := Nat.le_trans Z4 (Nat.le_of_eq g5.symm)
  have sz_b5 : h0.size ≤ b5 := Nat.le_trans Kp4.1 (Nat.le_of_eq g5.symm)
  have E0_5 := E0_4.ext E5
  have F_cacheSecond_5 := F_cacheSecond_4.ext E5
  have F_cacheThird_5 := F_cacheThird_4.ext E5
  have F_cacheResult_5 := F_cacheResult_4.ext E5
  have F_variableOf_5 := F_variableOf_4.ext E5
  have F_lowOf_5 := F_lowOf_4.ext E5
  have F_highOf_5 := F_highOf_4.ext E5
  have F_nodeCount_5 := F_nodeCount_4.ext E5
  have F_falseBdd_5 := F_falseBdd_4.ext E5
  have F_trueBdd_5 := F_trueBdd_4.ext E5
  have OA_b1_5 := OA_b1_4.ext E5
  have Fw2_5 := Fw2_4.ext E5
  have OA_b3_5 := OA_b3_4.ext E5
  have Fw4_5 := Fw4.ext E5
  have Z5 : n0 ≤ h5.size := Nat.le_trans Z4 E5.1
  have Kp5 : Keep h0 h5 [a1] := Kp4.ext E5
  have OA_b5 : own_A Z h5 b5 := own_A.new A5
  obtain ⟨T6, h6, X6, e6, W6, st6⟩ := putF X5 hx hZ hown (host := "") (Or.inl (hw _ (List.mem_of_getElem? (i := 36) rfl))) Via.refl e5 F_cacheSecond_5 E0_5 (Or.inl (hw _ (List.mem_of_getElem? (i := 37) rfl))) (hw _ (List.mem_of_getElem? (i := 1) rfl)) (ty := (.array .int)) (by decide) rfl rfl (g := (mkF m 18 #[.val (.ref a1), .val (.int (4096 : Int32))] [(.ref b5), (.ref a1)])) rfl rfl (hb hby d5_18)
  have E0_6 := E0_5.wr W6
  have F_cacheThird_6 := F_cacheThird_5.other W6 (Or.inr (slot_ne (Or.inl (hw _ (List.mem_of_getElem? (i := 39) rfl))) (Or.inl (hw _ (List.mem_of_getElem? (i := 37) rfl))) (by decide) (t := (.array .int)) (t' := (.array .int)) (by decide) (by decide)))
  have F_cacheResult_6 := F_cacheResult_5.other W6 (Or.inr (slot_ne (Or.inl (hw _ (List.mem_of_getElem? (i := 41) rfl))) (Or.inl (hw _ (List.mem_of_getElem? (i := 37) rfl))) (by decide) (t := (.array .int)) (t' := (.array .int)) (by decide) (by decide)))
  have F_variableOf_6 := F_variableOf_5.other W6 (Or.inr (slot_ne (Or.inl (hw _ (List.mem_of_getElem? (i := 15) rfl))) (Or.inl (hw _ (List.mem_of_getElem? (i := 37) rfl))) (by decide) (t := (.array .int)) (t' := (.array .int)) (by decide) (by decide)))
  have F_lowOf_6 := F_lowOf_5.other W6 (Or.inr (slot_ne (Or.inl (hw _ (List.mem_of_getElem? (i := 17) rfl))) (Or.inl (hw _ (List.mem_of_getElem? (i := 37) rfl))) (by decide) (t := (.array .int)) (t' := (.array .int)) (by decide) (by decide)))
  have F_highOf_6 := F_highOf_5.other W6 (Or.inr (slot_ne (Or.inl (hw _ (List.mem_of_getElem? (i := 19) rfl))) (Or.inl (hw _ (List.mem_of_getElem? (i := 37) rfl))) (by decide) (t := (.array .int)) (t' := (.array .int)) (by decide) (by decide)))
  have F_nodeCount_6 := F_nodeCount_5.other W6 (Or.inr (slot_ne (Or.inl (hw _ (List.mem_of_getElem? (i := 48) rfl))) (Or.inl (hw _ (List.mem_of_getElem? (i := 37) rfl))) (by decide) (t := .int) (t' := (.array .int)) (by decide) (by decide)))
  have F_falseBdd_6 := F_falseBdd_5.other W6 (Or.inr (slot_ne (Or.inr (hw _ (List.mem_of_getElem? (i := 61) rfl))) (Or.inl (hw _ (List.mem_of_getElem? (i := 37) rfl))) (by decide) (t := (.object "com/example/brevi/brevi/bdd/Bdd")) (t' := (.array .int)) (by decide) (by decide)))
  have F_trueBdd_6 := F_trueBdd_5.other W6 (Or.inr (slot_ne (Or.inr (hw _ (List.mem_of_getElem? (i := 63) rfl))) (Or.inl (hw _ (List.mem_of_getElem? (i := 37) rfl))) (by decide) (t := (.object "com/example/brevi/brevi/bdd/Bdd")) (t' := (.array .int)) (by decide) (by decide)))
  have OA_b1_6 := OA_b1_5.wr W6
  have Fw2_6 := Fw2_5.other W6 (Or.inr (slot_ne (Or.inl (hw _ (List.mem_of_getElem? (i := 33) rfl))) (Or.inl (hw _ (List.mem_of_getElem? (i := 37) rfl))) (by decide) (t := (.array .int)) (t' := (.array .int)) (by decide) (by decide)))
  have OA_b3_6 := OA_b3_5.wr W6
  have Fw4_6 := Fw4_5.other W6 (Or.inr (slot_ne (Or.inl (hw _ (List.mem_of_getElem? (i := 35) rfl))) (Or.inl (hw _ (List.mem_of_getElem? (i := 37) rfl))) (by decide) (t := (.array .int)) (t' := (.array .int)) (by decide) (by decide)))
  have OA_b5_6 := OA_b5.wr W6
  have Z6 : n0 ≤ h6.size := Nat.le_trans Z5 (Keep.of_wr W6).1
  have Kp6 : Keep h0 h6 [a1] := Kp5.wr W6 (Or.inl (by simp))
  have Fw6 : Fld Z h6 a1 "com/example/brevi/brevi/bdd/BddManager" "cacheSecond" "[I" (.ref b5) := F_cacheSecond_5.same W6
  have N6 := Fr.snoc X6 N4 g0
  obtain ⟨T7, h7, k7, X7, e7, E7, A7, st7⟩ := newP X6 hx hZ (hw _ (List.mem_of_getElem? (i := 13) rfl)) e6 (g := (mkF m 23 #[.val (.ref a1), .val (.int (4096 : Int32))] [(.int (4096 : Int32)), (.ref a1)])) rfl (hb hby d5_23) rfl (by decide) (cap := 4096) (by decide) (by decide) (by decide) (by decide)
  obtain ⟨b7, g7⟩ : ∃ z, z = h6.size := ⟨_, rfl⟩
  rw [← g7] at A7 st7
  have ne_a1_b7 : a1 ≠ b7 := Nat.ne_of_lt (Nat.lt_of_lt_of_eq E0_6.lt g7.symm)
  have ne_b1_b7 : b1 ≠ b7 := Nat.ne_of_lt (Nat.lt_of_lt_of_eq OA_b1_6.lt g7.symm)
  have ne_b3_b7 : b3 ≠ b7 := Nat.ne_of_lt (Nat.lt_of_lt_of_eq OA_b3_6.lt g7.symm)
  have ne_b5_b7 : b5 ≠ b7 := Nat.ne_of_lt (Nat.lt_of_lt_of_eq OA_b5_6.lt g7.symm)
  have ge_b7 : n0 ≤ b7 := Nat.le_trans Z6 (Nat.le_of_eq g7.symm)
  have sz_b7 : h0.size ≤ b7 := Nat.le_trans Kp6.1 (Nat.le_of_eq g7.symm)
  have E0_7 := E0_6.ext E7
  have F_cacheThird_7 := F_cacheThird_6.ext E7
  have F_cacheResult_7 := F_cacheResult_6.ext E7
  have F_variableOf_7 := F_variableOf_6.ext E7
  have F_lowOf_7 := F_lowOf_6.ext E7
  have F_highOf_7 := F_highOf_6.ext E7
  have F_nodeCount_7 := F_nodeCount_6.ext E7
  have F_falseBdd_7 := F_falseBdd_6.ext E7
  have F_trueBdd_7 := F_trueBdd_6.ext E7
  have OA_b1_7 := OA_b1_6.ext E7
  have Fw2_7 := Fw2_6.ext E7
  have OA_b3_7 := OA_b3_6.ext E7
  have Fw4_7 := Fw4_6.ext E7
  have OA_b5_7 := OA_b5_6.ext E7
  have Fw6_7 := Fw6.ext E7
  have Z7 : n0 ≤ h7.size := Nat.le_trans Z6 E7.1
  have Kp7 : Keep h0 h7 [a1] := Kp6.ext E7
  have OA_b7 : own_A Z h7 b7 := own_A.new A7
  obtain ⟨T8, h8, X8, e8, W8, st8⟩ := putF X7 hx hZ hown (host := "") (Or.inl (hw _ (List.mem_of_getElem? (i := 38) rfl))) Via.refl e7 F_cacheThird_7 E0_7 (Or.inl (hw _ (List.mem_of_getElem? (i := 39) rfl))) (hw _ (List.mem_of_getElem? (i := 1) rfl)) (ty := (.array .int)) (by decide) rfl rfl (g := (mkF m 25 #[.val (.ref a1), .val (.int (4096 : Int32))] [(.ref b7), (.ref a1)])) rfl rfl (hb hby d5_25)
  have E0_8 := E0_7.wr W8
  have F_cacheResult_8 := F_cacheResult_7.other W8 (Or.inr (slot_ne (Or.inl (hw _ (List.mem_of_getElem? (i := 41) rfl))) (Or.inl (hw _ (List.mem_of_getElem? (i := 39) rfl))) (by decide) (t := (.array .int)) (t' := (.array .int)) (by decide) (by decide)))
  have F_variableOf_8 := F_variableOf_7.other W8 (Or.inr (slot_ne (Or.inl (hw _ (List.mem_of_getElem? (i := 15) rfl))) (Or.inl (hw _ (List.mem_of_getElem? (i := 39) rfl))) (by decide) (t := (.array .int)) (t' := (.array .int)) (by decide) (by decide)))
  have F_lowOf_8 := F_lowOf_7.other W8 (Or.inr (slot_ne (Or.inl (hw _ (List.mem_of_getElem? (i := 17) rfl))) (Or.inl (hw _ (List.mem_of_getElem? (i := 39) rfl))) (by decide) (t := (.array .int)) (t' := (.array .int)) (by decide) (by decide)))
  have F_highOf_8 := F_highOf_7.other W8 (Or.inr (slot_ne (Or.inl (hw _ (List.mem_of_getElem? (i := 19) rfl))) (Or.inl (hw _ (List.mem_of_getElem? (i := 39) rfl))) (by decide) (t := (.array .int)) (t' := (.array .int)) (by decide) (by decide)))
  have F_nodeCount_8 := F_nodeCount_7.other W8 (Or.inr (slot_ne (Or.inl (hw _ (List.mem_of_getElem? (i := 48) rfl))) (Or.inl (hw _ (List.mem_of_getElem? (i := 39) rfl))) (by decide) (t := .int) (t' := (.array .int)) (by decide) (by decide)))
  have F_falseBdd_8 := F_falseBdd_7.other W8 (Or.inr (slot_ne (Or.inr (hw _ (List.mem_of_getElem? (i := 61) rfl))) (Or.inl (hw _ (List.mem_of_getElem? (i := 39) rfl))) (by decide) (t := (.object "com/example/brevi/brevi/bdd/Bdd")) (t' := (.array .int)) (by decide) (by decide)))
  have F_trueBdd_8 := F_trueBdd_7.other W8 (Or.inr (slot_ne (Or.inr (hw _ (List.mem_of_getElem? (i := 63) rfl))) (Or.inl (hw _ (List.mem_of_getElem? (i := 39) rfl))) (by decide) (t := (.object "com/example/brevi/brevi/bdd/Bdd")) (t' := (.array .int)) (by decide) (by decide)))
  have OA_b1_8 := OA_b1_7.wr W8
  have Fw2_8 := Fw2_7.other W8 (Or.inr (slot_ne (Or.inl (hw _ (List.mem_of_getElem? (i := 33) rfl))) (Or.inl (hw _ (List.mem_of_getElem? (i := 39) rfl))) (by decide) (t := (.array .int)) (t' := (.array .int)) (by decide) (by decide)))
  have OA_b3_8 := OA_b3_7.wr W8
  have Fw4_8 := Fw4_7.other W8 (Or.inr (slot_ne (Or.inl (hw _ (List.mem_of_getElem? (i := 35) rfl))) (Or.inl (hw _ (List.mem_of_getElem? (i := 39) rfl))) (by decide) (t := (.array .int)) (t' := (.array .int)) (by decide) (by decide)))
  have OA_b5_8 := OA_b5_7.wr W8
  have Fw6_8 := Fw6_7.other W8 (Or.inr (slot_ne (Or.inl (hw _ (List.mem_of_getElem? (i := 37) rfl))) (Or.inl (hw _ (List.mem_of_getElem? (i := 39) rfl))) (by decide) (t := (.array .int)) (t' := (.array .int)) (by decide) (by decide)))
  have OA_b7_8 := OA_b7.wr W8
  have Z8 : n0 ≤ h8.size := Nat.le_trans Z7 (Keep.of_wr W8).1
  have Kp8 : Keep h0 h8 [a1] := Kp7.wr W8 (Or.inl (by simp))
  have Fw8 : Fld Z h8 a1 "com/example/brevi/brevi/bdd/BddManager" "cacheThird" "[I" (.ref b7) := F_cacheThird_7.same W8
  have N8 := Fr.snoc X8 N6 g0
  obtain ⟨T9, h9, k9, X9, e9, E9, A9, st9⟩ := newP X8 hx hZ (hw _ (List.mem_of_getElem? (i := 13) rfl)) e8 (g := (mkF m 30 #[.val (.ref a1), .val (.int (4096 : Int32))] [(.int (4096 : Int32)), (.ref a1)])) rfl (hb hby d5_30) rfl (by decide) (cap := 4096) (by decide) (by decide) (by decide) (by decide)
  obtain ⟨b9, g9⟩ : ∃ z, z = h8.size := ⟨_, rfl⟩
  rw [← g9] at A9 st9
  have ne_a1_b9 : a1 ≠ b9 := Nat.ne_of_lt (Nat.lt_of_lt_of_eq E0_8.lt g9.symm)
  have ne_b1_b9 : b1 ≠ b9 := Nat.ne_of_lt (Nat.lt_of_lt_of_eq OA_b1_8.lt g9.symm)
  have ne_b3_b9 : b3 ≠ b9 := Nat.ne_of_lt (Nat.lt_of_lt_of_eq OA_b3_8.lt g9.symm)
  have ne_b5_b9 : b5 ≠ b9 := Nat.ne_of_lt (Nat.lt_of_lt_of_eq OA_b5_8.lt g9.symm)
  have ne_b7_b9 : b7 ≠ b9 := Nat.ne_of_lt (Nat.lt_of_lt_of_eq OA_b7_8.lt g9.symm)
  have ge_b9 : n0 ≤ b9 := Nat.le_trans Z8 (Nat.le_of_eq g9.symm)
  have sz_b9 : h0.size ≤ b9 := Nat.le_trans Kp8.1 (Nat.le_of_eq g9.symm)
  have E0_9 := E0_8.ext E9
  have F_cacheResult_9 := F_cacheResult_8.ext E9
  have F_variableOf_9 := F_variableOf_8.ext E9
  have F_lowOf_9 := F_lowOf_8.ext E9
  have F_highOf_9 := F_highOf_8.ext E9
  have F_nodeCount_9 := F_nodeCount_8.ext E9
  have F_falseBdd_9 := F_falseBdd_8.ext E9
  have F_trueBdd_9 := F_trueBdd_8.ext E9
  have OA_b1_9 := OA_b1_8.ext E9
  have Fw2_9 := Fw2_8.ext E9
  have OA_b3_9 := OA_b3_8.ext E9
  have Fw4_9 := Fw4_8.ext E9
  have OA_b5_9 := OA_b5_8.ext E9
  have Fw6_9 := Fw6_8.ext E9
  have OA_b7_9 := OA_b7_8.ext E9
  have Fw8_9 := Fw8.ext E9
  have Z9 : n0 ≤ h9.size := Nat.le_trans Z8 E9.1
  have Kp9 : Keep h0 h9 [a1] := Kp8.ext E9
  have OA_b9 : own_A Z h9 b9 := own_A.new A9
  obtain ⟨T10, h10, X10, e10, W10, st10⟩ := putF X9 hx hZ hown (host := "") (Or.inl (hw _ (List.mem_of_getElem? (i := 40) rfl))) Via.refl e9 F_cacheResult_9 E0_9 (Or.inl (hw _ (List.mem_of_getElem? (i := 41) rfl))) (hw _ (List.mem_of_getElem? (i := 1) rfl)) (ty := (.array .int)) (by decide) rfl rfl (g := (mkF m 32 #[.val (.ref a1), .val (.int (4096 : Int32))] [(.ref b9), (.ref a1)])) rfl rfl (hb hby d5_32)
  have E0_10 := E0_9.wr W10
  have F_variableOf_10 := F_variableOf_9.other W10 (Or.inr (slot_ne (Or.inl (hw _ (List.mem_of_getElem? (i := 15) rfl))) (Or.inl (hw _ (List.mem_of_getElem? (i := 41) rfl))) (by decide) (t := (.array .int)) (t' := (.array .int)) (by decide) (by decide)))
  have F_lowOf_10 := F_lowOf_9.other W10 (Or.inr (slot_ne (Or.inl (hw _ (List.mem_of_getElem? (i := 17) rfl))) (Or.inl (hw _ (List.mem_of_getElem? (i := 41) rfl))) (by decide) (t := (.array .int)) (t' := (.array .int)) (by decide) (by decide)))
  have F_highOf_10 := F_highOf_9.other W10 (Or.inr (slot_ne (Or.inl (hw _ (List.mem_of_getElem? (i := 19) rfl))) (Or.inl (hw _ (List.mem_of_getElem? (i := 41) rfl))) (by decide) (t := (.array .int)) (t' := (.array .int)) (by decide) (by decide)))
  have F_nodeCount_10 := F_nodeCount_9.other W10 (Or.inr (slot_ne (Or.inl (hw _ (List.mem_of_getElem? (i := 48) rfl))) (Or.inl (hw _ (List.mem_of_getElem? (i := 41) rfl))) (by decide) (t := .int) (t' := (.array .int)) (by decide) (by decide)))
  have F_falseBdd_10 := F_falseBdd_9.other W10 (Or.inr (slot_ne (Or.inr (hw _ (List.mem_of_getElem? (i := 61) rfl))) (Or.inl (hw _ (List.mem_of_getElem? (i := 41) rfl))) (by decide) (t := (.object "com/example/brevi/brevi/bdd/Bdd")) (t' := (.array .int)) (by decide) (by decide)))
  have F_trueBdd_10 := F_trueBdd_9.other W10 (Or.inr (slot_ne (Or.inr (hw _ (List.mem_of_getElem? (i := 63) rfl))) (Or.inl (hw _ (List.mem_of_getElem? (i := 41) rfl))) (by decide) (t := (.object "com/example/brevi/brevi/bdd/Bdd")) (t' := (.array .int)) (by decide) (by decide)))
  have OA_b1_10 := OA_b1_9.wr W10
  have Fw2_10 := Fw2_9.other W10 (Or.inr (slot_ne (Or.inl (hw _ (List.mem_of_getElem? (i := 33) rfl))) (Or.inl (hw _ (List.mem_of_getElem? (i := 41) rfl))) (by decide) (t := (.array .int)) (t' := (.array .int)) (by decide) (by decide)))
  have OA_b3_10 := OA_b3_9.wr W10
  have Fw4_10 := Fw4_9.other W10 (Or.inr (slot_ne (Or.inl (hw _ (List.mem_of_getElem? (i := 35) rfl))) (Or.inl (hw _ (List.mem_of_getElem? (i := 41) rfl))) (by decide) (t := (.array .int)) (t' := (.array .int)) (by decide) (by decide)))
  have OA_b5_10 := OA_b5_9.wr W10
  have Fw6_10 := Fw6_9.other W10 (Or.inr (slot_ne (Or.inl (hw _ (List.mem_of_getElem? (i := 37) rfl))) (Or.inl (hw _ (List.mem_of_getElem? (i := 41) rfl))) (by decide) (t := (.array .int)) (t' := (.array .int)) (by decide) (by decide)))
  have OA_b7_10 := OA_b7_9.wr W10
  have Fw8_10 := Fw8_9.other W10 (Or.inr (slot_ne (Or.inl (hw _ (List.mem_of_getElem? (i := 39) rfl))) (Or.inl (hw _ (List.mem_of_getElem? (i := 41) rfl))) (by decide) (t := (.array .int)) (t' := (.array .int)) (by decide) (by decide)))
  have OA_b9_10 := OA_b9.wr W10
  have Z10 : n0 ≤ h10.size := Nat.le_trans Z9 (Keep.of_wr W10).1
  have Kp10 : Keep h0 h10 [a1] := Kp9.wr W10 (Or.inl (by simp))
  have Fw10 : Fld Z h10 a1 "com/example/brevi/brevi/bdd/BddManager" "cacheResult" "[I" (.ref b9) := F_cacheResult_9.same W10
  have N10 := Fr.snoc X10 N8 g0
  obtain ⟨T11, X11, e11, st11⟩ := getF X10 hx hZ hown (host := "") (Or.inl (hw _ (List.mem_of_getElem? (i := 32) rfl))) Via.refl e10 Fw2_10 (g := (mkF m 36 #[.val (.ref a1), .val (.int (4096 : Int32))] [(.ref a1)])) rfl rfl (hb hby d5_36)
  obtain ⟨_, _, ⟨T12, L12, k12, n12⟩, -, X12, ⟨Lc12, hQ12, l12, y12, z12⟩, st12⟩ := Jvm.LawKit.callS X11 hx (y := (⟨"java/util/Arrays", "fill", "([II)V"⟩ : MethodName)) hown (mvT hZ (hw _ (List.mem_of_getElem? (i := 24) rfl))) (mvT hZ (hw _ (List.mem_of_getElem? (i := 25) rfl))) (mvT hZ (hw _ (List.mem_of_getElem? (i := 26) rfl))) (mvT hZ (hw _ (List.mem_of_getElem? (i := 27) rfl))) (by decide) (backOf (W := 0) (rmF l Z a0 hw [] b1 (-1 : Int32) h10 n0 Z10 OA_b1_10 ge_b1) hZ (hw _ (List.mem_of_getElem? (i := 27) rfl)) (hw _ (List.mem_of_getElem? (i := 26) rfl)) (by decide) (by decide)) (g := (mkF m 40 #[.val (.ref a1), .val (.int (4096 : Int32))] [(.int (-1 : Int32)), (.ref b1)])) rfl (by rw [hml]; rfl) (argsL := [(.ref b1), (.int (-1 : Int32))]) (rest := []) (lenOf pd_2 rfl) rfl (by show 2 * 0 + _ ≤ _; exact Nat.le_of_eq rfl) (hb hby d5_40) (fun _ _ => ⟨rfl, e11, (by decide : 5 + 0 ≤ _), (by decide : 20480 + 0 ≤ _)⟩)
  dsimp only [Pt.U, Pt.locs, Pt.cells, Pt.slots] at X12 l12 y12 z12 st12 hQ12
  subst l12 y12 z12
  obtain ⟨rfl, Nq12, K12⟩ := hQ12
  have E0_12 := E0_10.keep K12
  have F_variableOf_12 := F_variableOf_10.keep K12 (ninS ne_a1_b1 nin0)
  have F_lowOf_12 := F_lowOf_10.keep K12 (ninS ne_a1_b1 nin0)
  have F_highOf_12 := F_highOf_10.keep K12 (ninS ne_a1_b1 nin0)
  have F_nodeCount_12 := F_nodeCount_10.keep K12 (ninS ne_a1_b1 nin0)
  have F_falseBdd_12 := F_falseBdd_10.keep K12 (ninS ne_a1_b1 nin0)
  have F_trueBdd_12 := F_trueBdd_10.keep K12 (ninS ne_a1_b1 nin0)
  have OA_b1_12 := OA_b1_10.keep K12
  have Fw2_12 := Fw2_10.keep K12 (ninS ne_a1_b1 nin0)
  have OA_b3_12 := OA_b3_10.keep K12
  have Fw4_12 := Fw4_10.keep K12 (ninS ne_a1_b1 nin0)
  have OA_b5_12 := OA_b5_10.keep K12
  have Fw6_12 := Fw6_10.keep K12 (ninS ne_a1_b1 nin0)
  have OA_b7_12 := OA_b7_10.keep K12
  have Fw8_12 := Fw8_10.keep K12 (ninS ne_a1_b1 nin0)
  have OA_b9_12 := OA_b9_10.keep K12
  have Fw10_12 := Fw10.keep K12 (ninS ne_a1_b1 nin0)
  have Z12 : n0 ≤ T12.heap.size := Nat.le_trans Z10 K12.1
  have Kp12 : Keep h0 T12.heap [a1] := Kp10.trans K12 (allS (Or.inr sz_b1) all0)
  have N12 := Fr.app N10 Nq12
  obtain ⟨fs, hr, hrun, hended, hW, hsame⟩ := X12.leave (v := none) (fun _ => rfl)
  refine ⟨_, _, pre0 _ ?_, hrun, hended, _, _, rfl, ?_, ⟨_, rfl⟩, hW, hsame.mono (by decide) (by decide)⟩
  · show Steps p.tables e below (s₁.setTop (mkF m 0 #[.val (.ref a1), .val (.int (4096 : Int32))] [])) _
    refine XS.aloadN X0.here hx rfl (hb hby d5_0) rfl rfl ?_
    show Steps p.tables e below (s₁.setTop (mkF m 1 #[.val (.ref a1), .val (.int (4096 : Int32))] [(.ref a1)])) _
    refine XS.iloadN X0.here hx rfl (hb hby d5_1) rfl ?_
    show Steps p.tables e below (s₁.setTop (mkF m 2 #[.val (.ref a1), .val (.int (4096 : Int32))] [(.int (4096 : Int32)), (.ref a1)])) _
    refine st1 _ ?_
    show Steps p.tables e below (T1.setTop (mkF m 4 #[.val (.ref a1), .val (.int (4096 : Int32))] [(.ref b1), (.ref a1)])) _
    refine st2 _ ?_
    show Steps p.tables e below (T2.setTop (mkF m 7 #[.val (.ref a1), .val (.int (4096 : Int32))] [])) _
    refine XS.aloadN X2.here hx rfl (hb hby d5_7) rfl rfl ?_
    show Steps p.tables e below (T2.setTop (mkF m 8 #[.val (.ref a1), .val (.int (4096 : Int32))] [(.ref a1)])) _
    refine XS.iloadN X2.here hx rfl (hb hby d5_8) rfl ?_
    show Steps p.tables e below (T2.setTop (mkF m 9 #[.val (.ref a1), .val (.int (4096 : Int32))] [(.int (4096 : Int32)), (.ref a1)])) _
    refine st3 _ ?_
    show Steps p.tables e below (T3.setTop (mkF m 11 #[.val (.ref a1), .val (.int (4096 : Int32))] [(.ref b3), (.ref a1)])) _
    refine st4 _ ?_
    show Steps p.tables e below (T4.setTop (mkF m 14 #[.val (.ref a1), .val (.int (4096 : Int32))] [])) _
    refine XS.aloadN X4.here hx rfl (hb hby d5_14) rfl rfl ?_
    show Steps p.tables e below (T4.setTop (mkF m 15 #[.val (.ref a1), .val (.int (4096 : Int32))] [(.ref a1)])) _
    refine XS.iloadN X4.here hx rfl (hb hby d5_15) rfl ?_
    show Steps p.tables e below (T4.setTop (mkF m 16 #[.val (.ref a1), .val (.int (4096 : Int32))] [(.int (4096 : Int32)), (.ref a1)])) _
    refine st5 _ ?_
    show Steps p.tables e below (T5.setTop (mkF m 18 #[.val (.ref a1), .val (.int (4096 : Int32))] [(.ref b5), (.ref a1)])) _
    refine st6 _ ?_
    show Steps p.tables e below (T6.setTop (mkF m 21 #[.val (.ref a1), .val (.int (4096 : Int32))] [])) _
    refine XS.aloadN X6.here hx rfl (hb hby d5_21) rfl rfl ?_
    show Steps p.tables e below (T6.setTop (mkF m 22 #[.val (.ref a1), .val (.int (4096 : Int32))] [(.ref a1)])) _
    refine XS.iloadN X6.here hx rfl (hb hby d5_22) rfl ?_
    show Steps p.tables e below (T6.setTop (mkF m 23 #[.val (.ref a1), .val (.int (4096 : Int32))] [(.int (4096 : Int32)), (.ref a1)])) _
    refine st7 _ ?_
    show Steps p.tables e below (T7.setTop (mkF m 25 #[.val (.ref a1), .val (.int (4096 : Int32))] [(.ref b7), (.ref a1)])) _
    refine st8 _ ?_
    show Steps p.tables e below (T8.setTop (mkF m 28 #[.val (.ref a1), .val (.int (4096 : Int32))] [])) _
    refine XS.aloadN X8.here hx rfl (hb hby d5_28) rfl rfl ?_
    show Steps p.tables e below (T8.setTop (mkF m 29 #[.val (.ref a1), .val (.int (4096 : Int32))] [(.ref a1)])) _
    refine XS.iloadN X8.here hx rfl (hb hby d5_29) rfl ?_
    show Steps p.tables e below (T8.setTop (mkF m 30 #[.val (.ref a1), .val (.int (4096 : Int32))] [(.int (4096 : Int32)), (.ref a1)])) _
    refine st9 _ ?_
    show Steps p.tables e below (T9.setTop (mkF m 32 #[.val (.ref a1), .val (.int (4096 : Int32))] [(.ref b9), (.ref a1)])) _
    refine st10 _ ?_
    show Steps p.tables e below (T10.setTop (mkF m 35 #[.val (.ref a1), .val (.int (4096 : Int32))] [])) _
    refine XS.aloadN X10.here hx rfl (hb hby d5_35) rfl rfl ?_
    show Steps p.tables e below (T10.setTop (mkF m 36 #[.val (.ref a1), .val (.int (4096 : Int32))] [(.ref a1)])) _
    refine st11 _ ?_
    show Steps p.tables e below (T11.setTop (mkF m 39 #[.val (.ref a1), .val (.int (4096 : Int32))] [(.ref b1)])) _
    refine XS.iconst X11.here hx rfl (hb hby d5_39) ?_
    show Steps p.tables e below (T11.setTop (mkF m 40 #[.val (.ref a1), .val (.int (4096 : Int32))] [(.int (-1 : Int32)), (.ref b1)])) _
    refine st12 _ ?_
    show Steps p.tables e below (T12.setTop (mkF m 43 #[.val (.ref a1), .val (.int (4096 : Int32))] [])) _
    exact X12.returnOut hx Bd.returns (hb hby d5_43) hr
  · show Q_rmC Z a1 (4096 : Int32) w_variableOf w_lowOf w_highOf h0 n0 _ T12.heap _
    exact ⟨rfl, N12, Kp12, E0_12, F_variableOf_12, F_lowOf_12, F_highOf_12, F_nodeCount_12, F_falseBdd_12, F_trueBdd_12⟩
theorem pn_6 : plainName "com/example/brevi/brevi/bdd/BddManager" = true := by first | (simp [plainName, overriddenIn]; done) | decide +kernel
theorem ef_6_RIII (m : MethodId) (x0 : Addr) (x1 : Int32) (x2 : Int32) (x3 : Int32) : entryFrame m #[(.ref x0), (.int x1), (.int x2), (.int x3)] 5 = mkF m 0 #[.val (.ref x0), .val (.int x1), .val (.int x2), .val (.int x3), .unset] [] := by first | (simp [entryFrame, mkF, argsToLocals, Value.category]; done) | rfl
theorem d6_0 : decode prog_5_method_28_code 0 = .ok (.aload_n 0, 1) := by decide +kernel
theorem d6_1 : decode prog_5_method_28_code 1 = .ok (.dup, 1) := by decide +kernel
theorem d6_2 : decode prog_5_method_28_code 2 = .ok (.getfield 268, 3) := by decide +kernel
theorem d6_5 : decode prog_5_method_28_code 5 = .ok (.dup_x1, 1) := by decide +kernel
theorem d6_6 : decode prog_5_method_28_code 6 = .ok (.iconst 1, 1) := by decide +kernel
theorem d6_7 : decode prog_5_method_28_code 7 = .ok (.iadd, 1) := by decide +kernel
theorem d6_8 : decode prog_5_method_28_code 8 = .ok (.putfield 268, 3) := by decide +kernel
theorem d6_11 : decode prog_5_method_28_code 11 = .ok (.istore 4, 2) := by decide +kernel
theorem d6_13 : decode prog_5_method_28_code 13 = .ok (.aload_n 0, 1) := by decide +kernel
theorem d6_14 : decode prog_5_method_28_code 14 = .ok (.getfield 94, 3) := by decide +kernel
theorem d6_17 : decode prog_5_method_28_code 17 = .ok (.iload 4, 2) := by decide +kernel
theorem d6_19 : decode prog_5_method_28_code 19 = .ok (.iload_n 1, 1) := by decide +kernel
theorem d6_20 : decode prog_5_method_28_code 20 = .ok (.iastore, 1) := by decide +kernel
theorem d6_21 : decode prog_5_method_28_code 21 = .ok (.aload_n 0, 1) := by decide +kernel
theorem d6_22 : decode prog_5_method_28_code 22 = .ok (.getfield 116, 3) := by decide +kernel
theorem d6_25 : decode prog_5_method_28_code 25 = .ok (.iload 4, 2) := by decide +kernel
theorem d6_27 : decode prog_5_method_28_code 27 = .ok (.iload_n 2, 1) := by decide +kernel
theorem d6_28 : decode prog_5_method_28_code 28 = .ok (.iastore, 1) := by decide +kernel
theorem d6_29 : decode prog_5_method_28_code 29 = .ok (.aload_n 0, 1) := by decide +kernel
theorem d6_30 : decode prog_5_method_28_code 30 = .ok (.getfield 113, 3) := by decide +kernel
theorem d6_33 : decode prog_5_method_28_code 33 = .ok (.iload 4, 2) := by decide +kernel
theorem d6_35 : decode prog_5_method_28_code 35 = .ok (.iload_n 3, 1) := by decide +kernel
theorem d6_36 : decode prog_5_method_28_code 36 = .ok (.iastore, 1) := by decide +kernel
theorem d6_37 : decode prog_5_method_28_code 37 = .ok (.iload 4, 2) := by decide +kernel
theorem d6_39 : decode prog_5_method_28_code 39 = .ok (.ireturn, 1) := by decide +kernel
def Q_rmA (Z : State) (a1 : Addr) (p1 : Int32) (p2 : Int32) (p3 : Int32) (c0 : Int32) (w_variableOf : Addr) (w_lowOf : Addr) (w_highOf : Addr) (h0 : Heap) (n0 : Nat) (v : Option Value) (h : Heap) (L : List Loc) : Prop := v = some (.int c0) ∧ Fr n0 L ∧ Keep h0 h [a1, w_variableOf, w_lowOf, w_highOf] ∧ Exa Z h a1 "com/example/brevi/brevi/bdd/BddManager" ∧ Fld Z h a1 "com/example/brevi/brevi/bdd/BddManager" "nodeCount" "I" (.int (c0 + (1 : Int32))) ∧ Fld Z h a1 "com/example/brevi/brevi/bdd/BddManager" "variableOf" "[I" (.ref w_variableOf) ∧ Fld Z h a1 "com/example/brevi/brevi/bdd/BddManager" "lowOf" "[I" (.ref w_lowOf) ∧ Fld Z h a1 "com/example/brevi/brevi/bdd/BddManager" "highOf" "[I" (.ref w_highOf) ∧ Fld Z h a1 "com/example/brevi/brevi/bdd/BddManager" "falseBdd" "Lcom/example/brevi/brevi/bdd/Bdd;" .null ∧ Fld Z h a1 "com/example/brevi/brevi/bdd/BddManager" "trueBdd" "Lcom/example/brevi/brevi/bdd/Bdd;" .null
set_option maxRecDepth 65536 in
set_option maxHeartbeats 40000000 in
theorem rmA (l : Launch) (Z : State) (a0 : Array Value) (hw : ∀ d ∈ tables_1, d.before a0 Z = true) (ws : List Jvm.Cond) (a1 : Addr) (p1 : Int32) (p2 : Int32) (p3 : Int32) (c0 : Int32) (w_variableOf : Addr) (w_lowOf : Addr) (w_highOf : Addr) (h0 : Heap) (n0 : Nat) (Z0 : n0 ≤ h0.size) (E0 : Exa Z h0 a1 "com/example/brevi/brevi/bdd/BddManager") (Fn : Fld Z h0 a1 "com/example/brevi/brevi/bdd/BddManager" "nodeCount" "I" (.int c0)) (F_variableOf : Fld Z h0 a1 "com/example/brevi/brevi/bdd/BddManager" "variableOf" "[I" (.ref w_variableOf)) (F_lowOf : Fld Z h0 a1 "com/example/brevi/brevi/bdd/BddManager" "lowOf" "[I" (.ref w_lowOf)) (F_highOf : Fld Z h0 a1 "com/example/brevi/brevi/bdd/BddManager" "highOf" "[I" (.ref w_highOf)) (F_falseBdd : Fld Z h0 a1 "com/example/brevi/brevi/bdd/BddManager" "falseBdd" "Lcom/example/brevi/brevi/bdd/Bdd;" .null) (F_trueBdd : Fld Z h0 a1 "com/example/brevi/brevi/bdd/BddManager" "trueBdd" "Lcom/example/brevi/brevi/bdd/Bdd;" .null) (A_variableOf : own_A Z h0 w_variableOf) (A_lowOf : own_A Z h0 w_lowOf) (A_highOf : own_A Z h0 w_highOf) (g0 : n0 ≤ a1) (g_variableOf : n0 ≤ w_variableOf) (g_lowOf : n0 ≤ w_lowOf) (g_highOf : n0 ≤ w_highOf) (hc : ¬ (c0 < 0 ∨ 4096 ≤ c0.toNatClampNeg)) :
    MetFree l (⟨"com/example/brevi/brevi/bdd/BddManager", "addNode", "(III)I"⟩ : MethodName) (head1 (Jvm.Cond.code (⟨"com/example/brevi/brevi/bdd/BddManager", "addNode", "(III)I"⟩ : MethodName) prog_5_method_28_code 5 (some .int) :: ws) ({ frames := 0, cells := 0, slots := 0, locals := 0 } : Room)) (fun a U => a = #[(.ref a1), (.int p1), (.int p2), (.int p3)] ∧ Z.Warmed39 U.vm ∧ U.heap = h0) (fun _ _ _ _ _ => True) (fun _ U o U' => ∃ v L, o = .returned v ∧ Q_rmA Z a1 p1 p2 p3 c0 w_variableOf w_lowOf w_highOf h0 n0 v U'.heap L ∧ FrameEnd U o U' L ({ frames := 0, cells := 0, slots := 0, locals := 0 } : Room).cells ({ frames := 0, cells := 0, slots := 0, locals := 0 } : Room).slots) := by
  refine MetFree.of_bodySF (plainFor_of_name pn_6) hisR ?_
  intro p e s m args below meth c s₁ Bd hml0 hP hK
  obtain ⟨rfl, hZ, hh⟩ := hP
  have hx := Bd.exec
  have hby := Bd.bytes
  have hml : c.maxLocals = 5 := hml0
  have hown : s.vm.findClass "com/example/brevi/brevi/bdd/BddManager" = some m.cls := findClass_of_methodNamed Bd.named
  have hnm := (name_of_methodNamed Bd.named Bd.method).1
  have X0 : Stand p l e ({ frames := 0, cells := 0, slots := 0, locals := 0 } : Room) s m #[(.ref a1), (.int p1), (.int p2), (.int p3)] below meth c s₁ [] 0 0 := Stand.of_body Bd
  have e0 : s₁.heap = h0 := by rw [← hh, Bd.state]; rfl
  have N0 := Fr.nil n0
  have pre0 : ∀ t, Steps p.tables e below (s₁.setTop (mkF m 0 #[.val (.ref a1), .val (.int p1), .val (.int p2), .val (.int p3), .unset] [])) t → Steps p.tables e below (s₁.setTop (entryFrame m #[(.ref a1), (.int p1), (.int p2), (.int p3)] 5)) t := fun t k => castTop (ef_6_RIII m a1 p1 p2 p3) k
  have ne_variableOf : a1 ≠ w_variableOf := by obtain ⟨_, Ar, -⟩ := id A_variableOf; exact ne_arr E0 (hw _ (List.mem_of_getElem? (i := 1) rfl)) Ar
  have ne_lowOf : a1 ≠ w_lowOf := by obtain ⟨_, Ar, -⟩ := id A_lowOf; exact ne_arr E0 (hw _ (List.mem_of_getElem? (i := 1) rfl)) Ar
  have ne_highOf : a1 ≠ w_highOf := by obtain ⟨_, Ar, -⟩ := id A_highOf; exact ne_arr E0 (hw _ (List.mem_of_getElem? (i := 1) rfl)) Ar
  obtain ⟨T1, X1, e1, st1⟩ := getF X0 hx hZ hown (host := "") (Or.inl (hw _ (List.mem_of_getElem? (i := 47) rfl))) Via.refl e0 Fn (g := (mkF m 2 #[.val (.ref a1), .val (.int p1), .val (.int p2), .val (.int p3), .unset] [(.ref a1), (.ref a1)])) rfl rfl (hb hby d6_2)
  obtain ⟨T2, h2, X2, e2, W2, st2⟩ := putF X1 hx hZ hown (host := "") (Or.inl (hw _ (List.mem_of_getElem? (i := 47) rfl))) Via.refl e1 Fn E0 (Or.inl (hw _ (List.mem_of_getElem? (i := 48) rfl))) (hw _ (List.mem_of_getElem? (i := 1) rfl)) (ty := .int) (by decide) rfl rfl (g := (mkF m 8 #[.val (.ref a1), .val (.int p1), .val (.int p2), .val (.int p3), .unset] [(.int (c0 + (1 : Int32))), (.ref a1), (.int c0)])) rfl rfl (hb hby d6_8)
  have E0_2 := E0.wr W2
  have F_variableOf_2 := F_variableOf.other W2 (Or.inr (slot_ne (Or.inl (hw _ (List.mem_of_getElem? (i := 15) rfl))) (Or.inl (hw _ (List.mem_of_getElem? (i := 48) rfl))) (by decide) (t := (.array .int)) (t' := .int) (by decide) (by decide)))
  have F_lowOf_2 := F_lowOf.other W2 (Or.inr (slot_ne (Or.inl (hw _ (List.mem_of_getElem? (i := 17) rfl))) (Or.inl (hw _ (List.mem_of_getElem? (i := 48) rfl))) (by decide) (t := (.array .int)) (t' := .int) (by decide) (by decide)))
  have F_highOf_2 := F_highOf.other W2 (Or.inr (slot_ne (Or.inl (hw _ (List.mem_of_getElem? (i := 19) rfl))) (Or.inl (hw _ (List.mem_of_getElem? (i := 48) rfl))) (by decide) (t := (.array .int)) (t' := .int) (by decide) (by decide)))
  have F_falseBdd_2 := F_falseBdd.other W2 (Or.inr (slot_ne (Or.inr (hw _ (List.mem_of_getElem? (i := 61) rfl))) (Or.inl (hw _ (List.mem_of_getElem? (i := 48) rfl))) (by decide) (t := (.object "com/example/brevi/brevi/bdd/Bdd")) (t' := .int) (by decide) (by decide)))
  have F_trueBdd_2 := F_trueBdd.other W2 (Or.inr (slot_ne (Or.inr (hw _ (List.mem_of_getElem? (i := 63) rfl))) (Or.inl (hw _ (List.mem_of_getElem? (i := 48) rfl))) (by decide) (t := (.object "com/example/brevi/brevi/bdd/Bdd")) (t' := .int) (by decide) (by decide)))
  have A_variableOf_2 := A_variableOf.wr W2
  have A_lowOf_2 := A_lowOf.wr W2
  have A_highOf_2 := A_highOf.wr W2
  have Z2 : n0 ≤ h2.size := Nat.le_trans Z0 (Keep.of_wr W2).1
  have Kp2 : Keep h0 h2 [a1, w_variableOf, w_lowOf, w_highOf] := (Keep.refl h0 [a1, w_variableOf, w_lowOf, w_highOf]).wr W2 (Or.inl (by simp))
  have Fw2 : Fld Z h2 a1 "com/example/brevi/brevi/bdd/BddManager" "nodeCount" "I" (.int (c0 + (1 : Int32))) := Fn.same W2
  have N2 := Fr.snoc X2 N0 g0
  obtain ⟨T3, X3, e3, st3⟩ := getF X2 hx hZ hown (host := "") (Or.inl (hw _ (List.mem_of_getElem? (i := 14) rfl))) Via.refl e2 F_variableOf_2 (g := (mkF m 14 #[.val (.ref a1), .val (.int p1), .val (.int p2), .val (.int p3), .val (.int c0)] [(.ref a1)])) rfl rfl (hb hby d6_14)
  obtain ⟨cl4, Ar4, S4⟩ := id A_variableOf_2
  obtain ⟨T5, h5, X5, e5, W5, st5⟩ := stI X3 hx hZ e3 Ar4 (j := c0) (by rw [S4]; exact hc) (g := (mkF m 20 #[.val (.ref a1), .val (.int p1), .val (.int p2), .val (.int p3), .val (.int c0)] [(.int p1), (.int c0), (.ref w_variableOf)])) rfl rfl (hb hby d6_20)
  have E0_5 := E0_2.wr W5
  have F_variableOf_5 := F_variableOf_2.other W5 (Or.inl ne_variableOf)
  have F_lowOf_5 := F_lowOf_2.other W5 (Or.inl ne_variableOf)
  have F_highOf_5 := F_highOf_2.other W5 (Or.inl ne_variableOf)
  have F_falseBdd_5 := F_falseBdd_2.other W5 (Or.inl ne_variableOf)
  have F_trueBdd_5 := F_trueBdd_2.other W5 (Or.inl ne_variableOf)
  have A_variableOf_5 := A_variableOf_2.wr W5
  have A_lowOf_5 := A_lowOf_2.wr W5
  have A_highOf_5 := A_highOf_2.wr W5
  have Fw2_5 := Fw2.other W5 (Or.inl ne_variableOf)
  have Z5 : n0 ≤ h5.size := Nat.le_trans Z2 (Keep.of_wr W5).1
  have Kp5 : Keep h0 h5 [a1, w_variableOf, w_lowOf, w_highOf] := Kp2.wr W5 (Or.inl (by simp))
  have N5 := Fr.snoc X5 N2 g_variableOf
  obtain ⟨T6, X6, e6, st6⟩ := getF X5 hx hZ hown (host := "") (Or.inl (hw _ (List.mem_of_getElem? (i := 16) rfl))) Via.refl e5 F_lowOf_5 (g := (mkF m 22 #[.val (.ref a1), .val (.int p1), .val (.int p2), .val (.int p3), .val (.int c0)] [(.ref a1)])) rfl rfl (hb hby d6_22)
  obtain ⟨cl7, Ar7, S7⟩ := id A_lowOf_5
  obtain ⟨T8, h8, X8, e8, W8, st8⟩ := stI X6 hx hZ e6 Ar7 (j := c0) (by rw [S7]; exact hc) (g := (mkF m 28 #[.val (.ref a1), .val (.int p1), .val (.int p2), .val (.int p3), .val (.int c0)] [(.int p2), (.int c0), (.ref w_lowOf)])) rfl rfl (hb hby d6_28)
  have E0_8 := E0_5.wr W8
  have F_variableOf_8 := F_variableOf_5.other W8 (Or.inl ne_lowOf)
  have F_lowOf_8 := F_lowOf_5.other W8 (Or.inl ne_lowOf)
  have F_highOf_8 := F_highOf_5.other W8 (Or.inl ne_lowOf)
  have F_falseBdd_8 := F_falseBdd_5.other W8 (Or.inl ne_lowOf)
  have F_trueBdd_8 := F_trueBdd_5.other W8 (Or.inl ne_lowOf)
  have A_variableOf_8 := A_variableOf_5.wr W8
  have A_lowOf_8 := A_lowOf_5.wr W8
  have A_highOf_8 := A_highOf_5.wr W8
  have Fw2_8 := Fw2_5.other W8 (Or.inl ne_lowOf)
  have Z8 : n0 ≤ h8.size := Nat.le_trans Z5 (Keep.of_wr W8).1
  have Kp8 : Keep h0 h8 [a1, w_variableOf, w_lowOf, w_highOf] := Kp5.wr W8 (Or.inl (by simp))
  have N8 := Fr.snoc X8 N5 g_lowOf
  obtain ⟨T9, X9, e9, st9⟩ := getF X8 hx hZ hown (host := "") (Or.inl (hw _ (List.mem_of_getElem? (i := 18) rfl))) Via.refl e8 F_highOf_8 (g := (mkF m 30 #[.val (.ref a1), .val (.int p1), .val (.int p2), .val (.int p3), .val (.int c0)] [(.ref a1)])) rfl rfl (hb hby d6_30)
  obtain ⟨cl10, Ar10, S10⟩ := id A_highOf_8
  obtain ⟨T11, h11, X11, e11, W11, st11⟩ := stI X9 hx hZ e9 Ar10 (j := c0) (by rw [S10]; exact hc) (g := (mkF m 36 #[.val (.ref a1), .val (.int p1), .val (.int p2), .val (.int p3), .val (.int c0)] [(.int p3), (.int c0), (.ref w_highOf)])) rfl rfl (hb hby d6_36)
  have E0_11 := E0_8.wr W11
  have F_variableOf_11 := F_variableOf_8.other W11 (Or.inl ne_highOf)
  have F_lowOf_11 := F_lowOf_8.other W11 (Or.inl ne_highOf)
  have F_highOf_11 := F_highOf_8.other W11 (Or.inl ne_highOf)
  have F_falseBdd_11 := F_falseBdd_8.other W11 (Or.inl ne_highOf)
  have F_trueBdd_11 := F_trueBdd_8.other W11 (Or.inl ne_highOf)
  have A_variableOf_11 := A_variableOf_8.wr W11
  have A_lowOf_11 := A_lowOf_8.wr W11
  have A_highOf_11 := A_highOf_8.wr W11
  have Fw2_11 := Fw2_8.other W11 (Or.inl ne_highOf)
  have Z11 : n0 ≤ h11.size := Nat.le_trans Z8 (Keep.of_wr W11).1
  have Kp11 : Keep h0 h11 [a1, w_variableOf, w_lowOf, w_highOf] := Kp8.wr W11 (Or.inl (by simp))
  have N11 := Fr.snoc X11 N8 g_highOf
  obtain ⟨fs, hr, hrun, hended, hW, hsame⟩ := X11.leave (v := some (.int c0)) (fun h => by rw [Bd.returns] at h; cases h)
  refine ⟨_, _, pre0 _ ?_, hrun, hended, _, _, rfl, ?_, ⟨_, rfl⟩, hW, hsame.mono (by decide) (by decide)⟩
  · show Steps p.tables e below (s₁.setTop (mkF m 0 #[.val (.ref a1), .val (.int p1), .val (.int p2), .val (.int p3), .unset] [])) _
    refine XS.aloadN X0.here hx rfl (hb hby d6_0) rfl rfl ?_
    show Steps p.tables e below (s₁.setTop (mkF m 1 #[.val (.ref a1), .val (.int p1), .val (.int p2), .val (.int p3), .unset] [(.ref a1)])) _
    refine XS.dup X0.here hx rfl (hb hby d6_1) rfl rfl ?_
    show Steps p.tables e below (s₁.setTop (mkF m 2 #[.val (.ref a1), .val (.int p1), .val (.int p2), .val (.int p3), .unset] [(.ref a1), (.ref a1)])) _
    refine st1 _ ?_
    show Steps p.tables e below (T1.setTop (mkF m 5 #[.val (.ref a1), .val (.int p1), .val (.int p2), .val (.int p3), .unset] [(.int c0), (.ref a1)])) _
    refine XS.dupX1 X1.here hx rfl (hb hby d6_5) rfl rfl rfl ?_
    show Steps p.tables e below (T1.setTop (mkF m 6 #[.val (.ref a1), .val (.int p1), .val (.int p2), .val (.int p3), .unset] [(.int c0), (.ref a1), (.int c0)])) _
    refine XS.iconst X1.here hx rfl (hb hby d6_6) ?_
    show Steps p.tables e below (T1.setTop (mkF m 7 #[.val (.ref a1), .val (.int p1), .val (.int p2), .val (.int p3), .unset] [(.int (1 : Int32)), (.int c0), (.ref a1), (.int c0)])) _
    refine XS.iadd X1.here hx rfl (hb hby d6_7) rfl ?_
    show Steps p.tables e below (T1.setTop (mkF m 8 #[.val (.ref a1), .val (.int p1), .val (.int p2), .val (.int p3), .unset] [(.int (c0 + (1 : Int32))), (.ref a1), (.int c0)])) _
    refine st2 _ ?_
    show Steps p.tables e below (T2.setTop (mkF m 11 #[.val (.ref a1), .val (.int p1), .val (.int p2), .val (.int p3), .unset] [(.int c0)])) _
    refine XS.istore X2.here hx rfl (hb hby d6_11) rfl (l' := #[.val (.ref a1), .val (.int p1), .val (.int p2), .val (.int p3), .val (.int c0)]) rfl ?_
    show Steps p.tables e below (T2.setTop (mkF m 13 #[.val (.ref a1), .val (.int p1), .val (.int p2), .val (.int p3), .val (.int c0)] [])) _
    refine XS.aloadN X2.here hx rfl (hb hby d6_13) rfl rfl ?_
    show Steps p.tables e below (T2.setTop (mkF m 14 #[.val (.ref a1), .val (.int p1), .val (.int p2), .val (.int p3), .val (.int c0)] [(.ref a1)])) _
    refine st3 _ ?_
    show Steps p.tables e below (T3.setTop (mkF m 17 #[.val (.ref a1), .val (.int p1), .val (.int p2), .val (.int p3), .val (.int c0)] [(.ref w_variableOf)])) _
    refine XS.iload X3.here hx rfl (hb hby d6_17) rfl ?_
    show Steps p.tables e below (T3.setTop (mkF m 19 #[.val (.ref a1), .val (.int p1), .val (.int p2), .val (.int p3), .val (.int c0)] [(.int c0), (.ref w_variableOf)])) _
    refine XS.iloadN X3.here hx rfl (hb hby d6_19) rfl ?_
    show Steps p.tables e below (T3.setTop (mkF m 20 #[.val (.ref a1), .val (.int p1), .val (.int p2), .val (.int p3), .val (.int c0)] [(.int p1), (.int c0), (.ref w_variableOf)])) _
    refine st5 _ ?_
    show Steps p.tables e below (T5.setTop (mkF m 21 #[.val (.ref a1), .val (.int p1), .val (.int p2), .val (.int p3), .val (.int c0)] [])) _
    refine XS.aloadN X5.here hx rfl (hb hby d6_21) rfl rfl ?_
    show Steps p.tables e below (T5.setTop (mkF m 22 #[.val (.ref a1), .val (.int p1), .val (.int p2), .val (.int p3), .val (.int c0)] [(.ref a1)])) _
    refine st6 _ ?_
    show Steps p.tables e below (T6.setTop (mkF m 25 #[.val (.ref a1), .val (.int p1), .val (.int p2), .val (.int p3), .val (.int c0)] [(.ref w_lowOf)])) _
    refine XS.iload X6.here hx rfl (hb hby d6_25) rfl ?_
    show Steps p.tables e below (T6.setTop (mkF m 27 #[.val (.ref a1), .val (.int p1), .val (.int p2), .val (.int p3), .val (.int c0)] [(.int c0), (.ref w_lowOf)])) _
    refine XS.iloadN X6.here hx rfl (hb hby d6_27) rfl ?_
    show Steps p.tables e below (T6.setTop (mkF m 28 #[.val (.ref a1), .val (.int p1), .val (.int p2), .val (.int p3), .val (.int c0)] [(.int p2), (.int c0), (.ref w_lowOf)])) _
    refine st8 _ ?_
    show Steps p.tables e below (T8.setTop (mkF m 29 #[.val (.ref a1), .val (.int p1), .val (.int p2), .val (.int p3), .val (.int c0)] [])) _
    refine XS.aloadN X8.here hx rfl (hb hby d6_29) rfl rfl ?_
    show Steps p.tables e below (T8.setTop (mkF m 30 #[.val (.ref a1), .val (.int p1), .val (.int p2), .val (.int p3), .val (.int c0)] [(.ref a1)])) _
    refine st9 _ ?_
    show Steps p.tables e below (T9.setTop (mkF m 33 #[.val (.ref a1), .val (.int p1), .val (.int p2), .val (.int p3), .val (.int c0)] [(.ref w_highOf)])) _
    refine XS.iload X9.here hx rfl (hb hby d6_33) rfl ?_
    show Steps p.tables e below (T9.setTop (mkF m 35 #[.val (.ref a1), .val (.int p1), .val (.int p2), .val (.int p3), .val (.int c0)] [(.int c0), (.ref w_highOf)])) _
    refine XS.iloadN X9.here hx rfl (hb hby d6_35) rfl ?_
    show Steps p.tables e below (T9.setTop (mkF m 36 #[.val (.ref a1), .val (.int p1), .val (.int p2), .val (.int p3), .val (.int c0)] [(.int p3), (.int c0), (.ref w_highOf)])) _
    refine st11 _ ?_
    show Steps p.tables e below (T11.setTop (mkF m 37 #[.val (.ref a1), .val (.int p1), .val (.int p2), .val (.int p3), .val (.int c0)] [])) _
    refine XS.iload X11.here hx rfl (hb hby d6_37) rfl ?_
    show Steps p.tables e below (T11.setTop (mkF m 39 #[.val (.ref a1), .val (.int p1), .val (.int p2), .val (.int p3), .val (.int c0)] [(.int c0)])) _
    exact retI X11 hx Bd.returns (hb hby d6_39) hr
  · show Q_rmA Z a1 p1 p2 p3 c0 w_variableOf w_lowOf w_highOf h0 n0 _ T11.heap _
    rw [e11]
    exact ⟨rfl, N11, Kp11, E0_11, Fw2_11, F_variableOf_11, F_lowOf_11, F_highOf_11, F_falseBdd_11, F_trueBdd_11⟩
theorem pn_1 : plainName "com/example/brevi/brevi/bdd/BddManager" = true := by first | (simp [plainName, overriddenIn]; done) | decide +kernel
theorem ef_1_R (m : MethodId) (x0 : Addr) : entryFrame m #[(.ref x0)] 1 = mkF m 0 #[.val (.ref x0)] [] := by first | (simp [entryFrame, mkF, argsToLocals, Value.category]; done) | rfl
theorem pd_1 : parseMethodDescriptor "(I)V" = some ⟨[.int], none⟩ := by decide +kernel
theorem pd_3 : parseMethodDescriptor "(III)I" = some ⟨[.int, .int, .int], some .int⟩ := by decide +kernel
theorem pd_4 : parseMethodDescriptor "(Lcom/example/brevi/brevi/bdd/BddManager;I)V" = some ⟨[(.object "com/example/brevi/brevi/bdd/BddManager"), .int], none⟩ := by decide +kernel
theorem d1_0 : decode prog_5_method_1_code 0 = .ok (.aload_n 0, 1) := by decide +kernel
theorem d1_1 : decode prog_5_method_1_code 1 = .ok (.invokespecial 3, 3) := by decide +kernel
theorem d1_4 : decode prog_5_method_1_code 4 = .ok (.aload_n 0, 1) := by decide +kernel
theorem d1_5 : decode prog_5_method_1_code 5 = .ok (.sipush 4096, 3) := by decide +kernel
theorem d1_8 : decode prog_5_method_1_code 8 = .ok (.invokevirtual 11, 3) := by decide +kernel
theorem d1_11 : decode prog_5_method_1_code 11 = .ok (.aload_n 0, 1) := by decide +kernel
theorem d1_12 : decode prog_5_method_1_code 12 = .ok (.sipush 4096, 3) := by decide +kernel
theorem d1_15 : decode prog_5_method_1_code 15 = .ok (.invokevirtual 15, 3) := by decide +kernel
theorem d1_18 : decode prog_5_method_1_code 18 = .ok (.aload_n 0, 1) := by decide +kernel
theorem d1_19 : decode prog_5_method_1_code 19 = .ok (.ldc 18, 2) := by decide +kernel
theorem d1_21 : decode prog_5_method_1_code 21 = .ok (.iconst 0, 1) := by decide +kernel
theorem d1_22 : decode prog_5_method_1_code 22 = .ok (.iconst 0, 1) := by decide +kernel
theorem d1_23 : decode prog_5_method_1_code 23 = .ok (.invokevirtual 19, 3) := by decide +kernel
theorem d1_26 : decode prog_5_method_1_code 26 = .ok (.pop, 1) := by decide +kernel
theorem d1_27 : decode prog_5_method_1_code 27 = .ok (.aload_n 0, 1) := by decide +kernel
theorem d1_28 : decode prog_5_method_1_code 28 = .ok (.ldc 18, 2) := by decide +kernel
theorem d1_30 : decode prog_5_method_1_code 30 = .ok (.iconst 1, 1) := by decide +kernel
theorem d1_31 : decode prog_5_method_1_code 31 = .ok (.iconst 1, 1) := by decide +kernel
theorem d1_32 : decode prog_5_method_1_code 32 = .ok (.invokevirtual 19, 3) := by decide +kernel
theorem d1_35 : decode prog_5_method_1_code 35 = .ok (.pop, 1) := by decide +kernel
theorem d1_36 : decode prog_5_method_1_code 36 = .ok (.aload_n 0, 1) := by decide +kernel
theorem d1_37 : decode prog_5_method_1_code 37 = .ok (.new 23, 3) := by decide +kernel
theorem d1_40 : decode prog_5_method_1_code 40 = .ok (.dup, 1) := by decide +kernel
theorem d1_41 : decode prog_5_method_1_code 41 = .ok (.aload_n 0, 1) := by decide +kernel
theorem d1_42 : decode prog_5_method_1_code 42 = .ok (.iconst 0, 1) := by decide +kernel
theorem d1_43 : decode prog_5_method_1_code 43 = .ok (.invokespecial 25, 3) := by decide +kernel
theorem d1_46 : decode prog_5_method_1_code 46 = .ok (.putfield 28, 3) := by decide +kernel
theorem d1_49 : decode prog_5_method_1_code 49 = .ok (.aload_n 0, 1) := by decide +kernel
theorem d1_50 : decode prog_5_method_1_code 50 = .ok (.new 23, 3) := by decide +kernel
theorem d1_53 : decode prog_5_method_1_code 53 = .ok (.dup, 1) := by decide +kernel
theorem d1_54 : decode prog_5_method_1_code 54 = .ok (.aload_n 0, 1) := by decide +kernel
theorem d1_55 : decode prog_5_method_1_code 55 = .ok (.iconst 1, 1) := by decide +kernel
theorem d1_56 : decode prog_5_method_1_code 56 = .ok (.invokespecial 25, 3) := by decide +kernel
theorem d1_59 : decode prog_5_method_1_code 59 = .ok (.putfield 32, 3) := by decide +kernel
theorem d1_62 : decode prog_5_method_1_code 62 = .ok (.return_, 1) := by decide +kernel
def Q_rmM (Z : State) (a1 : Addr) (h0 : Heap) (n0 : Nat) (v : Option Value) (h : Heap) (L : List Loc) : Prop := v = none ∧ Fr n0 L ∧ Keep h0 h [a1]
set_option maxRecDepth 65536 in
set_option maxHeartbeats 40000000 in
theorem rmM (l : Launch) (Z : State) (a0 : Array Value) (hw : ∀ d ∈ tables_1, d.before a0 Z = true) (ws : List Jvm.Cond) (a1 : Addr) (h0 : Heap) (n0 : Nat) (Z0 : n0 ≤ h0.size) (E0 : Exa Z h0 a1 "com/example/brevi/brevi/bdd/BddManager") (F_variableOf : Fld Z h0 a1 "com/example/brevi/brevi/bdd/BddManager" "variableOf" "[I" .null) (F_lowOf : Fld Z h0 a1 "com/example/brevi/brevi/bdd/BddManager" "lowOf" "[I" .null) (F_highOf : Fld Z h0 a1 "com/example/brevi/brevi/bdd/BddManager" "highOf" "[I" .null) (F_nextInBucket : Fld Z h0 a1 "com/example/brevi/brevi/bdd/BddManager" "nextInBucket" "[I" .null) (F_bucketHead : Fld Z h0 a1 "com/example/brevi/brevi/bdd/BddManager" "bucketHead" "[I" .null) (F_cacheOperation : Fld Z h0 a1 "com/example/brevi/brevi/bdd/BddManager" "cacheOperation" "[I" .null) (F_cacheFirst : Fld Z h0 a1 "com/example/brevi/brevi/bdd/BddManager" "cacheFirst" "[I" .null) (F_cacheSecond : Fld Z h0 a1 "com/example/brevi/brevi/bdd/BddManager" "cacheSecond" "[I" .null) (F_cacheThird : Fld Z h0 a1 "com/example/brevi/brevi/bdd/BddManager" "cacheThird" "[I" .null) (F_cacheResult : Fld Z h0 a1 "com/example/brevi/brevi/bdd/BddManager" "cacheResult" "[I" .null) (F_nodeCount : Fld Z h0 a1 "com/example/brevi/brevi/bdd/BddManager" "nodeCount" "I" (.int (0 : Int32))) (F_falseBdd : Fld Z h0 a1 "com/example/brevi/brevi/bdd/BddManager" "falseBdd" "Lcom/example/brevi/brevi/bdd/Bdd;" .null) (F_trueBdd : Fld Z h0 a1 "com/example/brevi/brevi/bdd/BddManager" "trueBdd" "Lcom/example/brevi/brevi/bdd/Bdd;" .null) (g0 : n0 ≤ a1) :
    MetFree l (⟨"com/example/brevi/brevi/bdd/BddManager", "<init>", "()V"⟩ : MethodName) (head1 (Jvm.Cond.code (⟨"com/example/brevi/brevi/bdd/BddManager", "<init>", "()V"⟩ : MethodName) prog_5_method_1_code 1 none :: ws) ({ frames := 2, cells := 12, slots := 40964, locals := 28 } : Room)) (fun a U => a = #[(.ref a1)] ∧ Z.Warmed39 U.vm ∧ U.heap = h0) (fun _ _ _ _ _ => True) (fun _ U o U' => ∃ v L, o = .returned v ∧ Q_rmM Z a1 h0 n0 v U'.heap L ∧ FrameEnd U o U' L ({ frames := 2, cells := 12, slots := 40964, locals := 28 } : Room).cells ({ frames := 2, cells := 12, slots := 40964, locals := 28 } : Room).slots) := by
  refine MetFree.of_bodySF (plainFor_of_name pn_1) hisR ?_
  intro p e s m args below meth c s₁ Bd hml0 hP hK
  obtain ⟨rfl, hZ, hh⟩ := hP
  have hx := Bd.exec
  have hby := Bd.bytes
  have hml : c.maxLocals = 1 := hml0
  have hown : s.vm.findClass "com/example/brevi/brevi/bdd/BddManager" = some m.cls := findClass_of_methodNamed Bd.named
  have hnm := (name_of_methodNamed Bd.named Bd.method).1
  have X0 : Stand p l e ({ frames := 2, cells := 12, slots := 40964, locals := 28 } : Room) s m #[(.ref a1)] below meth c s₁ [] 0 0 := Stand.of_body Bd
  have e0 : s₁.heap = h0 := by rw [← hh, Bd.state]; rfl
  have N0 := Fr.nil n0
  have pre0 : ∀ t, Steps p.tables e below (s₁.setTop (mkF m 0 #[.val (.ref a1)] [])) t → Steps p.tables e below (s₁.setTop (entryFrame m #[(.ref a1)] 1)) t := fun t k => castTop (ef_1_R m a1) k
  obtain ⟨T1, X1, e1, st1⟩ := initO X0 hx hZ hown (hw _ (List.mem_of_getElem? (i := 6) rfl)) (hw _ (List.mem_of_getElem? (i := 7) rfl)) (hw _ (List.mem_of_getElem? (i := 8) rfl)) e0 (g := (mkF m 1 #[.val (.ref a1)] [(.ref a1)])) rfl (by rw [hml]; rfl) rfl (hb hby d1_1) (by decide) (W := 0) (by show 2 * 0 + _ ≤ _; exact Nat.le_of_eq rfl) (by decide)
  obtain ⟨cq2, q2, q2'⟩ := E0.cell
  obtain ⟨_, _, ⟨T2, L2, k2, n2⟩, -, X2, ⟨Lc2, hQ2, l2, y2, z2⟩, st2⟩ := X1.privateBack hx (y := (⟨"com/example/brevi/brevi/bdd/BddManager", "allocateNodes", "(I)V"⟩ : MethodName)) hown (mvT hZ (hw _ (List.mem_of_getElem? (i := 9) rfl))) (mvT hZ (hw _ (List.mem_of_getElem? (i := 10) rfl))) (own_sel hZ (y := (⟨"com/example/brevi/brevi/bdd/BddManager", "allocateNodes", "(I)V"⟩ : MethodName)) (hw _ (List.mem_of_getElem? (i := 1) rfl)) (hw _ (List.mem_of_getElem? (i := 11) rfl)) (hw _ (List.mem_of_getElem? (i := 10) rfl)) (by decide)) (Cond.privateMethod_at (mvP hZ (hw _ (List.mem_of_getElem? (i := 11) rfl)) (args := #[]))) (mvT hZ (hw _ (List.mem_of_getElem? (i := 12) rfl))) (by decide) (backOf (W := 0) (rmN l Z a0 hw [] a1 (4096 : Int32) h0 n0 Z0 E0 F_variableOf F_lowOf F_highOf F_nextInBucket F_bucketHead F_cacheOperation F_cacheFirst F_cacheSecond F_cacheThird F_cacheResult F_nodeCount F_falseBdd F_trueBdd g0 rfl) hZ (hw _ (List.mem_of_getElem? (i := 12) rfl)) (hw _ (List.mem_of_getElem? (i := 2) rfl)) (by decide) (by decide)) (g := (mkF m 8 #[.val (.ref a1)] [(.int (4096 : Int32)), (.ref a1)])) rfl (by rw [hml]; rfl) (Steps.refl _) (a := a1) (by rw [e1]; exact q2) q2' (argsL := [(.int (4096 : Int32))]) (rest := []) (lenOf pd_1 rfl) rfl (by show 2 * 0 + _ ≤ _; exact Nat.le_of_eq rfl) (hb hby d1_8) (fun _ _ => ⟨rfl, e1, (by decide : 0 + 5 ≤ _), (by decide : 0 + 20480 ≤ _)⟩)
  dsimp only [Pt.U, Pt.locs, Pt.cells, Pt.slots] at X2 l2 y2 z2 st2 hQ2
  subst l2 y2 z2
  obtain ⟨rfl, Nq2, K2, u_variableOf_2, u_lowOf_2, u_highOf_2, s_variableOf_2, oa_variableOf_2, s_lowOf_2, oa_lowOf_2, s_highOf_2, oa_highOf_2, ex2, f_variableOf_2, f_lowOf_2, f_highOf_2, f_cacheOperation_2, f_cacheFirst_2, f_cacheSecond_2, f_cacheThird_2, f_cacheResult_2, f_nodeCount_2, f_falseBdd_2, f_trueBdd_2⟩ := hQ2
  have E0_2 := E0.keep K2
  have Z2 : n0 ≤ T2.heap.size := Nat.le_trans Z0 K2.1
  have Kp2 : Keep h0 T2.heap [a1] := (Keep.refl h0 [a1]).trans K2 (allS (Or.inl (by simp)) all0)
  have N2 := Fr.app N0 Nq2
  have ge_u_variableOf_2 : n0 ≤ u_variableOf_2 := Nat.le_trans Z0 s_variableOf_2
  have sz_u_variableOf_2 : h0.size ≤ u_variableOf_2 := Nat.le_trans (Keep.refl h0 [a1]).1 s_variableOf_2
  have ge_u_lowOf_2 : n0 ≤ u_lowOf_2 := Nat.le_trans Z0 s_lowOf_2
  have sz_u_lowOf_2 : h0.size ≤ u_lowOf_2 := Nat.le_trans (Keep.refl h0 [a1]).1 s_lowOf_2
  have ge_u_highOf_2 : n0 ≤ u_highOf_2 := Nat.le_trans Z0 s_highOf_2
  have sz_u_highOf_2 : h0.size ≤ u_highOf_2 := Nat.le_trans (Keep.refl h0 [a1]).1 s_highOf_2
  obtain ⟨cq3, q3, q3'⟩ := ex2.cell
  obtain ⟨_, _, ⟨T3, L3, k3, n3⟩, -, X3, ⟨Lc3, hQ3, l3, y3, z3⟩, st3⟩ := X2.privateBack hx (y := (⟨"com/example/brevi/brevi/bdd/BddManager", "allocateCache", "(I)V"⟩ : MethodName)) hown (mvT hZ (hw _ (List.mem_of_getElem? (i := 28) rfl))) (mvT hZ (hw _ (List.mem_of_getElem? (i := 29) rfl))) (own_sel hZ (y := (⟨"com/example/brevi/brevi/bdd/BddManager", "allocateCache", "(I)V"⟩ : MethodName)) (hw _ (List.mem_of_getElem? (i := 1) rfl)) (hw _ (List.mem_of_getElem? (i := 30) rfl)) (hw _ (List.mem_of_getElem? (i := 29) rfl)) (by decide)) (Cond.privateMethod_at (mvP hZ (hw _ (List.mem_of_getElem? (i := 30) rfl)) (args := #[]))) (mvT hZ (hw _ (List.mem_of_getElem? (i := 31) rfl))) (by decide) (backOf (W := 0) (rmC l Z a0 hw [] a1 (4096 : Int32) u_variableOf_2 u_lowOf_2 u_highOf_2 T2.heap n0 Z2 ex2 f_cacheOperation_2 f_cacheFirst_2 f_cacheSecond_2 f_cacheThird_2 f_cacheResult_2 f_variableOf_2 f_lowOf_2 f_highOf_2 f_nodeCount_2 f_falseBdd_2 f_trueBdd_2 g0 rfl) hZ (hw _ (List.mem_of_getElem? (i := 31) rfl)) (hw _ (List.mem_of_getElem? (i := 2) rfl)) (by decide) (by decide)) (g := (mkF m 15 #[.val (.ref a1)] [(.int (4096 : Int32)), (.ref a1)])) rfl (by rw [hml]; rfl) (Steps.refl _) (a := a1) q3 q3' (argsL := [(.int (4096 : Int32))]) (rest := []) (lenOf pd_1 rfl) rfl (by show 2 * 0 + _ ≤ _; exact Nat.le_of_eq rfl) (hb hby d1_15) (fun _ _ => ⟨rfl, rfl, (by decide : 5 + 5 ≤ _), (by decide : 20480 + 20480 ≤ _)⟩)
  dsimp only [Pt.U, Pt.locs, Pt.cells, Pt.slots] at X3 l3 y3 z3 st3 hQ3
  subst l3 y3 z3
  obtain ⟨rfl, Nq3, K3, ex3, f_variableOf_3, f_lowOf_3, f_highOf_3, f_nodeCount_3, f_falseBdd_3, f_trueBdd_3⟩ := hQ3
  have ex2_3 := ex2.keep K3
  have oa_variableOf_2_3 := oa_variableOf_2.keep K3
  have oa_lowOf_2_3 := oa_lowOf_2.keep K3
  have oa_highOf_2_3 := oa_highOf_2.keep K3
  have Z3 : n0 ≤ T3.heap.size := Nat.le_trans Z2 K3.1
  have Kp3 : Keep h0 T3.heap [a1] := Kp2.trans K3 (allS (Or.inl (by simp)) all0)
  have N3 := Fr.app N2 Nq3
  obtain ⟨cq4, q4, q4'⟩ := ex3.cell
  obtain ⟨_, _, ⟨T4, L4, k4, n4⟩, -, X4, ⟨Lc4, hQ4, l4, y4, z4⟩, st4⟩ := X3.privateBack hx (y := (⟨"com/example/brevi/brevi/bdd/BddManager", "addNode", "(III)I"⟩ : MethodName)) hown (mvT hZ (hw _ (List.mem_of_getElem? (i := 43) rfl))) (mvT hZ (hw _ (List.mem_of_getElem? (i := 44) rfl))) (own_sel hZ (y := (⟨"com/example/brevi/brevi/bdd/BddManager", "addNode", "(III)I"⟩ : MethodName)) (hw _ (List.mem_of_getElem? (i := 1) rfl)) (hw _ (List.mem_of_getElem? (i := 45) rfl)) (hw _ (List.mem_of_getElem? (i := 44) rfl)) (by decide)) (Cond.privateMethod_at (mvP hZ (hw _ (List.mem_of_getElem? (i := 45) rfl)) (args := #[]))) (mvT hZ (hw _ (List.mem_of_getElem? (i := 46) rfl))) (by decide) (backOf (W := 0) (rmA l Z a0 hw [] a1 (2147483647 : Int32) (0 : Int32) (0 : Int32) (0 : Int32) u_variableOf_2 u_lowOf_2 u_highOf_2 T3.heap n0 Z3 ex3 f_nodeCount_3 f_variableOf_3 f_lowOf_3 f_highOf_3 f_falseBdd_3 f_trueBdd_3 oa_variableOf_2_3 oa_lowOf_2_3 oa_highOf_2_3 g0 ge_u_variableOf_2 ge_u_lowOf_2 ge_u_highOf_2 (by decide)) hZ (hw _ (List.mem_of_getElem? (i := 46) rfl)) (hw _ (List.mem_of_getElem? (i := 2) rfl)) (by decide) (by decide)) (g := (mkF m 23 #[.val (.ref a1)] [(.int (0 : Int32)), (.int (0 : Int32)), (.int (2147483647 : Int32)), (.ref a1)])) rfl (by rw [hml]; rfl) (Steps.refl _) (a := a1) q4 q4' (argsL := [(.int (2147483647 : Int32)), (.int (0 : Int32)), (.int (0 : Int32))]) (rest := []) (lenOf pd_3 rfl) rfl (by show 2 * 0 + _ ≤ _; exact Nat.le_of_eq rfl) (hb hby d1_23) (fun _ _ => ⟨rfl, rfl, (by decide : 10 + 0 ≤ _), (by decide : 40960 + 0 ≤ _)⟩)
  dsimp only [Pt.U, Pt.locs, Pt.cells, Pt.slots] at X4 l4 y4 z4 st4 hQ4
  subst l4 y4 z4
  obtain ⟨rfl, Nq4, K4, ex4, f_nodeCount_4, f_variableOf_4, f_lowOf_4, f_highOf_4, f_falseBdd_4, f_trueBdd_4⟩ := hQ4
  have ex3_4 := ex3.keep K4
  have oa_variableOf_2_4 := oa_variableOf_2_3.keep K4
  have oa_lowOf_2_4 := oa_lowOf_2_3.keep K4
  have oa_highOf_2_4 := oa_highOf_2_3.keep K4
  have Z4 : n0 ≤ T4.heap.size := Nat.le_trans Z3 K4.1
  have Kp4 : Keep h0 T4.heap [a1] := Kp3.trans K4 (allS (Or.inl (by simp)) (allS (Or.inr sz_u_variableOf_2) (allS (Or.inr sz_u_lowOf_2) (allS (Or.inr sz_u_highOf_2) all0))))
  have N4 := Fr.app N3 Nq4
  obtain ⟨cq5, q5, q5'⟩ := ex4.cell
  obtain ⟨_, _, ⟨T5, L5, k5, n5⟩, -, X5, ⟨Lc5, hQ5, l5, y5, z5⟩, st5⟩ := X4.privateBack hx (y := (⟨"com/example/brevi/brevi/bdd/BddManager", "addNode", "(III)I"⟩ : MethodName)) hown (mvT hZ (hw _ (List.mem_of_getElem? (i := 43) rfl))) (mvT hZ (hw _ (List.mem_of_getElem? (i := 44) rfl))) (own_sel hZ (y := (⟨"com/example/brevi/brevi/bdd/BddManager", "addNode", "(III)I"⟩ : MethodName)) (hw _ (List.mem_of_getElem? (i := 1) rfl)) (hw _ (List.mem_of_getElem? (i := 45) rfl)) (hw _ (List.mem_of_getElem? (i := 44) rfl)) (by decide)) (Cond.privateMethod_at (mvP hZ (hw _ (List.mem_of_getElem? (i := 45) rfl)) (args := #[]))) (mvT hZ (hw _ (List.mem_of_getElem? (i := 46) rfl))) (by decide) (backOf (W := 0) (rmA l Z a0 hw [] a1 (2147483647 : Int32) (1 : Int32) (1 : Int32) ((0 : Int32) + (1 : Int32)) u_variableOf_2 u_lowOf_2 u_highOf_2 T4.heap n0 Z4 ex4 f_nodeCount_4 f_variableOf_4 f_lowOf_4 f_highOf_4 f_falseBdd_4 f_trueBdd_4 oa_variableOf_2_4 oa_lowOf_2_4 oa_highOf_2_4 g0 ge_u_variableOf_2 ge_u_lowOf_2 ge_u_highOf_2 (by decide)) hZ (hw _ (List.mem_of_getElem? (i := 46) rfl)) (hw _ (List.mem_of_getElem? (i := 2) rfl)) (by decide) (by decide)) (g := (mkF m 32 #[.val (.ref a1)] [(.int (1 : Int32)), (.int (1 : Int32)), (.int (2147483647 : Int32)), (.ref a1)])) rfl (by rw [hml]; rfl) (Steps.refl _) (a := a1) q5 q5' (argsL := [(.int (2147483647 : Int32)), (.int (1 : Int32)), (.int (1 : Int32))]) (rest := []) (lenOf pd_3 rfl) rfl (by show 2 * 0 + _ ≤ _; exact Nat.le_of_eq rfl) (hb hby d1_32) (fun _ _ => ⟨rfl, rfl, (by decide : 10 + 0 ≤ _), (by decide : 40960 + 0 ≤ _)⟩)
  dsimp only [Pt.U, Pt.locs, Pt.cells, Pt.slots] at X5 l5 y5 z5 st5 hQ5
  subst l5 y5 z5
  obtain ⟨rfl, Nq5, K5, ex5, f_nodeCount_5, f_variableOf_5, f_lowOf_5, f_highOf_5, f_falseBdd_5, f_trueBdd_5⟩ := hQ5
  have ex4_5 := ex4.keep K5
  have oa_variableOf_2_5 := oa_variableOf_2_4.keep K5
  have oa_lowOf_2_5 := oa_lowOf_2_4.keep K5
  have oa_highOf_2_5 := oa_highOf_2_4.keep K5
  have Z5 : n0 ≤ T5.heap.size := Nat.le_trans Z4 K5.1
  have Kp5 : Keep h0 T5.heap [a1] := Kp4.trans K5 (allS (Or.inl (by simp)) (allS (Or.inr sz_u_variableOf_2) (allS (Or.inr sz_u_lowOf_2) (allS (Or.inr sz_u_highOf_2) all0))))
  have N5 := Fr.app N4 Nq5
  obtain ⟨T6, h6, X6, e6, E6, A6, D6, -, st6⟩ := newO X5 hx hZ hown (hw _ (List.mem_of_getElem? (i := 49) rfl)) (hw _ (List.mem_of_getElem? (i := 50) rfl)) (hw _ (List.mem_of_getElem? (i := 51) rfl)) rfl (g := (mkF m 37 #[.val (.ref a1)] [(.ref a1)])) rfl (hb hby d1_37) (by decide) (by decide)
  obtain ⟨b6, g6⟩ : ∃ z, z = T5.heap.size := ⟨_, rfl⟩
  rw [← g6] at A6 D6 st6
  have ne_a1_b6 : a1 ≠ b6 := Nat.ne_of_lt (Nat.lt_of_lt_of_eq ex5.lt g6.symm)
  have ne_u_variableOf_2_b6 : u_variableOf_2 ≠ b6 := Nat.ne_of_lt (Nat.lt_of_lt_of_eq oa_variableOf_2_5.lt g6.symm)
  have ne_u_lowOf_2_b6 : u_lowOf_2 ≠ b6 := Nat.ne_of_lt (Nat.lt_of_lt_of_eq oa_lowOf_2_5.lt g6.symm)
  have ne_u_highOf_2_b6 : u_highOf_2 ≠ b6 := Nat.ne_of_lt (Nat.lt_of_lt_of_eq oa_highOf_2_5.lt g6.symm)
  have ge_b6 : n0 ≤ b6 := Nat.le_trans Z5 (Nat.le_of_eq g6.symm)
  have sz_b6 : h0.size ≤ b6 := Nat.le_trans Kp5.1 (Nat.le_of_eq g6.symm)
  have ex5_6 := ex5.ext E6
  have oa_variableOf_2_6 := oa_variableOf_2_5.ext E6
  have oa_lowOf_2_6 := oa_lowOf_2_5.ext E6
  have oa_highOf_2_6 := oa_highOf_2_5.ext E6
  have f_nodeCount_5_6 := f_nodeCount_5.ext E6
  have f_variableOf_5_6 := f_variableOf_5.ext E6
  have f_lowOf_5_6 := f_lowOf_5.ext E6
  have f_highOf_5_6 := f_highOf_5.ext E6
  have f_falseBdd_5_6 := f_falseBdd_5.ext E6
  have f_trueBdd_5_6 := f_trueBdd_5.ext E6
  have Z6 : n0 ≤ h6.size := Nat.le_trans Z5 E6.1
  have Kp6 : Keep h0 h6 [a1] := Kp5.ext E6
  have F_manager_b6 : Fld Z h6 b6 "com/example/brevi/brevi/bdd/Bdd" "manager" "Lcom/example/brevi/brevi/bdd/BddManager;" .null := D6 (Or.inr (hw _ (List.mem_of_getElem? (i := 57) rfl))) (ty := (.object "com/example/brevi/brevi/bdd/BddManager")) (by decide)
  have F_node_b6 : Fld Z h6 b6 "com/example/brevi/brevi/bdd/Bdd" "node" "I" (.int (0 : Int32)) := D6 (Or.inr (hw _ (List.mem_of_getElem? (i := 59) rfl))) (ty := .int) (by decide)
  obtain ⟨_, _, ⟨T7, L7, k7, n7⟩, -, X7, ⟨Lc7, hQ7, l7, y7, z7⟩, st7⟩ := X6.specialBack hx (y := (⟨"com/example/brevi/brevi/bdd/Bdd", "<init>", "(Lcom/example/brevi/brevi/bdd/BddManager;I)V"⟩ : MethodName)) rfl hown (mvT hZ (hw _ (List.mem_of_getElem? (i := 52) rfl))) (mvT hZ (hw _ (List.mem_of_getElem? (i := 53) rfl))) (mvT hZ (hw _ (List.mem_of_getElem? (i := 54) rfl))) (by decide) (backOf (W := 2) (rmB l Z a0 hw [] b6 a1 (0 : Int32) h6 n0 Z6 A6 F_manager_b6 F_node_b6 ge_b6) hZ (hw _ (List.mem_of_getElem? (i := 54) rfl)) (hw _ (List.mem_of_getElem? (i := 51) rfl)) (by decide) (by decide)) (g := (mkF m 43 #[.val (.ref a1)] [(.int (0 : Int32)), (.ref a1), (.ref b6), (.ref b6), (.ref a1)])) rfl (by rw [hml]; rfl) (Steps.refl _) (a := b6) (argsL := [(.ref a1), (.int (0 : Int32))]) (rest := [(.ref b6), (.ref a1)]) (lenOf pd_4 rfl) rfl (by show 2 * 0 + _ ≤ _; exact Nat.le_of_eq rfl) (hb hby d1_43) (fun _ _ => ⟨rfl, e6, (by decide : 11 + 0 ≤ _), (by decide : 40962 + 0 ≤ _)⟩)
  dsimp only [Pt.U, Pt.locs, Pt.cells, Pt.slots] at X7 l7 y7 z7 st7 hQ7
  subst l7 y7 z7
  obtain ⟨rfl, Nq7, K7, ex7, fm7, fn7⟩ := hQ7
  have ex5_7 := ex5_6.keep K7
  have oa_variableOf_2_7 := oa_variableOf_2_6.keep K7
  have oa_lowOf_2_7 := oa_lowOf_2_6.keep K7
  have oa_highOf_2_7 := oa_highOf_2_6.keep K7
  have f_nodeCount_5_7 := f_nodeCount_5_6.keep K7 (ninS ne_a1_b6 nin0)
  have f_variableOf_5_7 := f_variableOf_5_6.keep K7 (ninS ne_a1_b6 nin0)
  have f_lowOf_5_7 := f_lowOf_5_6.keep K7 (ninS ne_a1_b6 nin0)
  have f_highOf_5_7 := f_highOf_5_6.keep K7 (ninS ne_a1_b6 nin0)
  have f_falseBdd_5_7 := f_falseBdd_5_6.keep K7 (ninS ne_a1_b6 nin0)
  have f_trueBdd_5_7 := f_trueBdd_5_6.keep K7 (ninS ne_a1_b6 nin0)
  have A6_7 := A6.keep K7
  have Z7 : n0 ≤ T7.heap.size := Nat.le_trans Z6 K7.1
  have Kp7 : Keep h0 T7.heap [a1] := Kp6.trans K7 (allS (Or.inr sz_b6) all0)
  have N7 := Fr.app N5 Nq7
  obtain ⟨T8, h8, X8, e8, W8, st8⟩ := putF X7 hx hZ hown (host := "") (Or.inl (hw _ (List.mem_of_getElem? (i := 60) rfl))) Via.refl rfl f_falseBdd_5_7 ex5_7 (Or.inr ⟨(hw _ (List.mem_of_getElem? (i := 61) rfl)), rfl, hnm⟩) (hw _ (List.mem_of_getElem? (i := 1) rfl)) (ty := (.object "com/example/brevi/brevi/bdd/Bdd")) (by decide) rfl rfl (g := (mkF m 46 #[.val (.ref a1)] [(.ref b6), (.ref a1)])) rfl rfl (hb hby d1_46)
  have ex5_8 := ex5_7.wr W8
  have oa_variableOf_2_8 := oa_variableOf_2_7.wr W8
  have oa_lowOf_2_8 := oa_lowOf_2_7.wr W8
  have oa_highOf_2_8 := oa_highOf_2_7.wr W8
  have f_nodeCount_5_8 := f_nodeCount_5_7.other W8 (Or.inr (slot_ne (Or.inl (hw _ (List.mem_of_getElem? (i := 48) rfl))) (Or.inr (hw _ (List.mem_of_getElem? (i := 61) rfl))) (by decide) (t := .int) (t' := (.object "com/example/brevi/brevi/bdd/Bdd")) (by decide) (by decide)))
  have f_variableOf_5_8 := f_variableOf_5_7.other W8 (Or.inr (slot_ne (Or.inl (hw _ (List.mem_of_getElem? (i := 15) rfl))) (Or.inr (hw _ (List.mem_of_getElem? (i := 61) rfl))) (by decide) (t := (.array .int)) (t' := (.object "com/example/brevi/brevi/bdd/Bdd")) (by decide) (by decide)))
  have f_lowOf_5_8 := f_lowOf_5_7.other W8 (Or.inr (slot_ne (Or.inl (hw _ (List.mem_of_getElem? (i := 17) rfl))) (Or.inr (hw _ (List.mem_of_getElem? (i := 61) rfl))) (by decide) (t := (.array .int)) (t' := (.object "com/example/brevi/brevi/bdd/Bdd")) (by decide) (by decide)))
  have f_highOf_5_8 := f_highOf_5_7.other W8 (Or.inr (slot_ne (Or.inl (hw _ (List.mem_of_getElem? (i := 19) rfl))) (Or.inr (hw _ (List.mem_of_getElem? (i := 61) rfl))) (by decide) (t := (.array .int)) (t' := (.object "com/example/brevi/brevi/bdd/Bdd")) (by decide) (by decide)))
  have f_trueBdd_5_8 := f_trueBdd_5_7.other W8 (Or.inr (slot_ne (Or.inr (hw _ (List.mem_of_getElem? (i := 63) rfl))) (Or.inr (hw _ (List.mem_of_getElem? (i := 61) rfl))) (by decide) (t := (.object "com/example/brevi/brevi/bdd/Bdd")) (t' := (.object "com/example/brevi/brevi/bdd/Bdd")) (by decide) (by decide)))
  have ex7_8 := ex7.wr W8
  have fm7_8 := fm7.other W8 (Or.inl (Ne.symm ne_a1_b6))
  have fn7_8 := fn7.other W8 (Or.inl (Ne.symm ne_a1_b6))
  have Z8 : n0 ≤ h8.size := Nat.le_trans Z7 (Keep.of_wr W8).1
  have Kp8 : Keep h0 h8 [a1] := Kp7.wr W8 (Or.inl (by simp))
  have Fw8 : Fld Z h8 a1 "com/example/brevi/brevi/bdd/BddManager" "falseBdd" "Lcom/example/brevi/brevi/bdd/Bdd;" (.ref b6) := f_falseBdd_5_7.same W8
  have N8 := Fr.snoc X8 N7 g0
  obtain ⟨T9, h9, X9, e9, E9, A9, D9, -, st9⟩ := newO X8 hx hZ hown (hw _ (List.mem_of_getElem? (i := 49) rfl)) (hw _ (List.mem_of_getElem? (i := 50) rfl)) (hw _ (List.mem_of_getElem? (i := 51) rfl)) e8 (g := (mkF m 50 #[.val (.ref a1)] [(.ref a1)])) rfl (hb hby d1_50) (by decide) (by decide)
  obtain ⟨b9, g9⟩ : ∃ z, z = h8.size := ⟨_, rfl⟩
  rw [← g9] at A9 D9 st9
  have ne_a1_b9 : a1 ≠ b9 := Nat.ne_of_lt (Nat.lt_of_lt_of_eq ex5_8.lt g9.symm)
  have ne_u_variableOf_2_b9 : u_variableOf_2 ≠ b9 := Nat.ne_of_lt (Nat.lt_of_lt_of_eq oa_variableOf_2_8.lt g9.symm)
  have ne_u_lowOf_2_b9 : u_lowOf_2 ≠ b9 := Nat.ne_of_lt (Nat.lt_of_lt_of_eq oa_lowOf_2_8.lt g9.symm)
  have ne_u_highOf_2_b9 : u_highOf_2 ≠ b9 := Nat.ne_of_lt (Nat.lt_of_lt_of_eq oa_highOf_2_8.lt g9.symm)
  have ne_b6_b9 : b6 ≠ b9 := Nat.ne_of_lt (Nat.lt_of_lt_of_eq ex7_8.lt g9.symm)
  have ge_b9 : n0 ≤ b9 := Nat.le_trans Z8 (Nat.le_of_eq g9.symm)
  have sz_b9 : h0.size ≤ b9 := Nat.le_trans Kp8.1 (Nat.le_of_eq g9.symm)
  have ex5_9 := ex5_8.ext E9
  have oa_variableOf_2_9 := oa_variableOf_2_8.ext E9
  have oa_lowOf_2_9 := oa_lowOf_2_8.ext E9
  have oa_highOf_2_9 := oa_highOf_2_8.ext E9
  have f_nodeCount_5_9 := f_nodeCount_5_8.ext E9
  have f_variableOf_5_9 := f_variableOf_5_8.ext E9
  have f_lowOf_5_9 := f_lowOf_5_8.ext E9
  have f_highOf_5_9 := f_highOf_5_8.ext E9
  have f_trueBdd_5_9 := f_trueBdd_5_8.ext E9
  have ex7_9 := ex7_8.ext E9
  have fm7_9 := fm7_8.ext E9
  have fn7_9 := fn7_8.ext E9
  have Fw8_9 := Fw8.ext E9
  have Z9 : n0 ≤ h9.size := Nat.le_trans Z8 E9.1
  have Kp9 : Keep h0 h9 [a1] := Kp8.ext E9
  have F_manager_b9 : Fld Z h9 b9 "com/example/brevi/brevi/bdd/Bdd" "manager" "Lcom/example/brevi/brevi/bdd/BddManager;" .null := D9 (Or.inr (hw _ (List.mem_of_getElem? (i := 57) rfl))) (ty := (.object "com/example/brevi/brevi/bdd/BddManager")) (by decide)
  have F_node_b9 : Fld Z h9 b9 "com/example/brevi/brevi/bdd/Bdd" "node" "I" (.int (0 : Int32)) := D9 (Or.inr (hw _ (List.mem_of_getElem? (i := 59) rfl))) (ty := .int) (by decide)
  obtain ⟨_, _, ⟨T10, L10, k10, n10⟩, -, X10, ⟨Lc10, hQ10, l10, y10, z10⟩, st10⟩ := X9.specialBack hx (y := (⟨"com/example/brevi/brevi/bdd/Bdd", "<init>", "(Lcom/example/brevi/brevi/bdd/BddManager;I)V"⟩ : MethodName)) rfl hown (mvT hZ (hw _ (List.mem_of_getElem? (i := 52) rfl))) (mvT hZ (hw _ (List.mem_of_getElem? (i := 53) rfl))) (mvT hZ (hw _ (List.mem_of_getElem? (i := 54) rfl))) (by decide) (backOf (W := 2) (rmB l Z a0 hw [] b9 a1 (1 : Int32) h9 n0 Z9 A9 F_manager_b9 F_node_b9 ge_b9) hZ (hw _ (List.mem_of_getElem? (i := 54) rfl)) (hw _ (List.mem_of_getElem? (i := 51) rfl)) (by decide) (by decide)) (g := (mkF m 56 #[.val (.ref a1)] [(.int (1 : Int32)), (.ref a1), (.ref b9), (.ref b9), (.ref a1)])) rfl (by rw [hml]; rfl) (Steps.refl _) (a := b9) (argsL := [(.ref a1), (.int (1 : Int32))]) (rest := [(.ref b9), (.ref a1)]) (lenOf pd_4 rfl) rfl (by show 2 * 0 + _ ≤ _; exact Nat.le_of_eq rfl) (hb hby d1_56) (fun _ _ => ⟨rfl, e9, (by decide : 12 + 0 ≤ _), (by decide : 40964 + 0 ≤ _)⟩)
  dsimp only [Pt.U, Pt.locs, Pt.cells, Pt.slots] at X10 l10 y10 z10 st10 hQ10
  subst l10 y10 z10
  obtain ⟨rfl, Nq10, K10, ex10, fm10, fn10⟩ := hQ10
  have ex5_10 := ex5_9.keep K10
  have oa_variableOf_2_10 := oa_variableOf_2_9.keep K10
  have oa_lowOf_2_10 := oa_lowOf_2_9.keep K10
  have oa_highOf_2_10 := oa_highOf_2_9.keep K10
  have f_nodeCount_5_10 := f_nodeCount_5_9.keep K10 (ninS ne_a1_b9 nin0)
  have f_variableOf_5_10 := f_variableOf_5_9.keep K10 (ninS ne_a1_b9 nin0)
  have f_lowOf_5_10 := f_lowOf_5_9.keep K10 (ninS ne_a1_b9 nin0)
  have f_highOf_5_10 := f_highOf_5_9.keep K10 (ninS ne_a1_b9 nin0)
  have f_trueBdd_5_10 := f_trueBdd_5_9.keep K10 (ninS ne_a1_b9 nin0)
  have ex7_10 := ex7_9.keep K10
  have fm7_10 := fm7_9.keep K10 (ninS ne_b6_b9 nin0)
  have fn7_10 := fn7_9.keep K10 (ninS ne_b6_b9 nin0)
  have Fw8_10 := Fw8_9.keep K10 (ninS ne_a1_b9 nin0)
  have A9_10 := A9.keep K10
  have Z10 : n0 ≤ T10.heap.size := Nat.le_trans Z9 K10.1
  have Kp10 : Keep h0 T10.heap [a1] := Kp9.trans K10 (allS (Or.inr sz_b9) all0)
  have N10 := Fr.app N8 Nq10
  obtain ⟨T11, h11, X11, e11, W11, st11⟩ := putF X10 hx hZ hown (host := "") (Or.inl (hw _ (List.mem_of_getElem? (i := 62) rfl))) Via.refl rfl f_trueBdd_5_10 ex5_10 (Or.inr ⟨(hw _ (List.mem_of_getElem? (i := 63) rfl)), rfl, hnm⟩) (hw _ (List.mem_of_getElem? (i := 1) rfl)) (ty := (.object "com/example/brevi/brevi/bdd/Bdd")) (by decide) rfl rfl (g := (mkF m 59 #[.val (.ref a1)] [(.ref b9), (.ref a1)])) rfl rfl (hb hby d1_59)
  have ex5_11 := ex5_10.wr W11
  have oa_variableOf_2_11 := oa_variableOf_2_10.wr W11
  have oa_lowOf_2_11 := oa_lowOf_2_10.wr W11
  have oa_highOf_2_11 := oa_highOf_2_10.wr W11
  have f_nodeCount_5_11 := f_nodeCount_5_10.other W11 (Or.inr (slot_ne (Or.inl (hw _ (List.mem_of_getElem? (i := 48) rfl))) (Or.inr (hw _ (List.mem_of_getElem? (i := 63) rfl))) (by decide) (t := .int) (t' := (.object "com/example/brevi/brevi/bdd/Bdd")) (by decide) (by decide)))
  have f_variableOf_5_11 := f_variableOf_5_10.other W11 (Or.inr (slot_ne (Or.inl (hw _ (List.mem_of_getElem? (i := 15) rfl))) (Or.inr (hw _ (List.mem_of_getElem? (i := 63) rfl))) (by decide) (t := (.array .int)) (t' := (.object "com/example/brevi/brevi/bdd/Bdd")) (by decide) (by decide)))
  have f_lowOf_5_11 := f_lowOf_5_10.other W11 (Or.inr (slot_ne (Or.inl (hw _ (List.mem_of_getElem? (i := 17) rfl))) (Or.inr (hw _ (List.mem_of_getElem? (i := 63) rfl))) (by decide) (t := (.array .int)) (t' := (.object "com/example/brevi/brevi/bdd/Bdd")) (by decide) (by decide)))
  have f_highOf_5_11 := f_highOf_5_10.other W11 (Or.inr (slot_ne (Or.inl (hw _ (List.mem_of_getElem? (i := 19) rfl))) (Or.inr (hw _ (List.mem_of_getElem? (i := 63) rfl))) (by decide) (t := (.array .int)) (t' := (.object "com/example/brevi/brevi/bdd/Bdd")) (by decide) (by decide)))
  have ex7_11 := ex7_10.wr W11
  have fm7_11 := fm7_10.other W11 (Or.inl (Ne.symm ne_a1_b6))
  have fn7_11 := fn7_10.other W11 (Or.inl (Ne.symm ne_a1_b6))
  have Fw8_11 := Fw8_10.other W11 (Or.inr (slot_ne (Or.inr (hw _ (List.mem_of_getElem? (i := 61) rfl))) (Or.inr (hw _ (List.mem_of_getElem? (i := 63) rfl))) (by decide) (t := (.object "com/example/brevi/brevi/bdd/Bdd")) (t' := (.object "com/example/brevi/brevi/bdd/Bdd")) (by decide) (by decide)))
  have ex10_11 := ex10.wr W11
  have fm10_11 := fm10.other W11 (Or.inl (Ne.symm ne_a1_b9))
  have fn10_11 := fn10.other W11 (Or.inl (Ne.symm ne_a1_b9))
  have Z11 : n0 ≤ h11.size := Nat.le_trans Z10 (Keep.of_wr W11).1
  have Kp11 : Keep h0 h11 [a1] := Kp10.wr W11 (Or.inl (by simp))
  have Fw11 : Fld Z h11 a1 "com/example/brevi/brevi/bdd/BddManager" "trueBdd" "Lcom/example/brevi/brevi/bdd/Bdd;" (.ref b9) := f_trueBdd_5_10.same W11
  have N11 := Fr.snoc X11 N10 g0
  obtain ⟨fs, hr, hrun, hended, hW, hsame⟩ := X11.leave (v := none) (fun _ => rfl)
  refine ⟨_, _, pre0 _ ?_, hrun, hended, _, _, rfl, ?_, ⟨_, rfl⟩, hW, hsame.mono (by decide) (by decide)⟩
  · show Steps p.tables e below (s₁.setTop (mkF m 0 #[.val (.ref a1)] [])) _
    refine XS.aloadN X0.here hx rfl (hb hby d1_0) rfl rfl ?_
    show Steps p.tables e below (s₁.setTop (mkF m 1 #[.val (.ref a1)] [(.ref a1)])) _
    refine st1 _ ?_
    show Steps p.tables e below (T1.setTop (mkF m 4 #[.val (.ref a1)] [])) _
    refine XS.aloadN X1.here hx rfl (hb hby d1_4) rfl rfl ?_
    show Steps p.tables e below (T1.setTop (mkF m 5 #[.val (.ref a1)] [(.ref a1)])) _
    refine XS.sipush X1.here hx rfl (hb hby d1_5) ?_
    show Steps p.tables e below (T1.setTop (mkF m 8 #[.val (.ref a1)] [(.int (4096 : Int32)), (.ref a1)])) _
    refine st2.trans ?_
    show Steps p.tables e below (T2.setTop (mkF m 11 #[.val (.ref a1)] [])) _
    refine XS.aloadN X2.here hx rfl (hb hby d1_11) rfl rfl ?_
    show Steps p.tables e below (T2.setTop (mkF m 12 #[.val (.ref a1)] [(.ref a1)])) _
    refine XS.sipush X2.here hx rfl (hb hby d1_12) ?_
    show Steps p.tables e below (T2.setTop (mkF m 15 #[.val (.ref a1)] [(.int (4096 : Int32)), (.ref a1)])) _
    refine st3.trans ?_
    show Steps p.tables e below (T3.setTop (mkF m 18 #[.val (.ref a1)] [])) _
    refine XS.aloadN X3.here hx rfl (hb hby d1_18) rfl rfl ?_
    show Steps p.tables e below (T3.setTop (mkF m 19 #[.val (.ref a1)] [(.ref a1)])) _
    refine X3.ldcInt hx hown (mvT hZ (hw _ (List.mem_of_getElem? (i := 42) rfl))) (g := (mkF m 19 #[.val (.ref a1)] [(.ref a1)])) rfl (hb hby d1_19) _ ?_
    show Steps p.tables e below (T3.setTop (mkF m 21 #[.val (.ref a1)] [(.int (2147483647 : Int32)), (.ref a1)])) _
    refine XS.iconst X3.here hx rfl (hb hby d1_21) ?_
    show Steps p.tables e below (T3.setTop (mkF m 22 #[.val (.ref a1)] [(.int (0 : Int32)), (.int (2147483647 : Int32)), (.ref a1)])) _
    refine XS.iconst X3.here hx rfl (hb hby d1_22) ?_
    show Steps p.tables e below (T3.setTop (mkF m 23 #[.val (.ref a1)] [(.int (0 : Int32)), (.int (0 : Int32)), (.int (2147483647 : Int32)), (.ref a1)])) _
    refine st4.trans ?_
    show Steps p.tables e below (T4.setTop (mkF m 26 #[.val (.ref a1)] [(.int (0 : Int32))])) _
    refine XS.pop X4.here hx rfl (hb hby d1_26) rfl rfl ?_
    show Steps p.tables e below (T4.setTop (mkF m 27 #[.val (.ref a1)] [])) _
    refine XS.aloadN X4.here hx rfl (hb hby d1_27) rfl rfl ?_
    show Steps p.tables e below (T4.setTop (mkF m 28 #[.val (.ref a1)] [(.ref a1)])) _
    refine X4.ldcInt hx hown (mvT hZ (hw _ (List.mem_of_getElem? (i := 42) rfl))) (g := (mkF m 28 #[.val (.ref a1)] [(.ref a1)])) rfl (hb hby d1_28) _ ?_
    show Steps p.tables e below (T4.setTop (mkF m 30 #[.val (.ref a1)] [(.int (2147483647 : Int32)), (.ref a1)])) _
    refine XS.iconst X4.here hx rfl (hb hby d1_30) ?_
    show Steps p.tables e below (T4.setTop (mkF m 31 #[.val (.ref a1)] [(.int (1 : Int32)), (.int (2147483647 : Int32)), (.ref a1)])) _
    refine XS.iconst X4.here hx rfl (hb hby d1_31) ?_
    show Steps p.tables e below (T4.setTop (mkF m 32 #[.val (.ref a1)] [(.int (1 : Int32)), (.int (1 : Int32)), (.int (2147483647 : Int32)), (.ref a1)])) _
    refine st5.trans ?_
    show Steps p.tables e below (T5.setTop (mkF m 35 #[.val (.ref a1)] [(.int ((0 : Int32) + (1 : Int32)))])) _
    refine XS.pop X5.here hx rfl (hb hby d1_35) rfl rfl ?_
    show Steps p.tables e below (T5.setTop (mkF m 36 #[.val (.ref a1)] [])) _
    refine XS.aloadN X5.here hx rfl (hb hby d1_36) rfl rfl ?_
    show Steps p.tables e below (T5.setTop (mkF m 37 #[.val (.ref a1)] [(.ref a1)])) _
    refine st6 _ ?_
    show Steps p.tables e below (T6.setTop (mkF m 40 #[.val (.ref a1)] [(.ref b6), (.ref a1)])) _
    refine XS.dup X6.here hx rfl (hb hby d1_40) rfl rfl ?_
    show Steps p.tables e below (T6.setTop (mkF m 41 #[.val (.ref a1)] [(.ref b6), (.ref b6), (.ref a1)])) _
    refine XS.aloadN X6.here hx rfl (hb hby d1_41) rfl rfl ?_
    show Steps p.tables e below (T6.setTop (mkF m 42 #[.val (.ref a1)] [(.ref a1), (.ref b6), (.ref b6), (.ref a1)])) _
    refine XS.iconst X6.here hx rfl (hb hby d1_42) ?_
    show Steps p.tables e below (T6.setTop (mkF m 43 #[.val (.ref a1)] [(.int (0 : Int32)), (.ref a1), (.ref b6), (.ref b6), (.ref a1)])) _
    refine st7.trans ?_
    show Steps p.tables e below (T7.setTop (mkF m 46 #[.val (.ref a1)] [(.ref b6), (.ref a1)])) _
    refine st8 _ ?_
    show Steps p.tables e below (T8.setTop (mkF m 49 #[.val (.ref a1)] [])) _
    refine XS.aloadN X8.here hx rfl (hb hby d1_49) rfl rfl ?_
    show Steps p.tables e below (T8.setTop (mkF m 50 #[.val (.ref a1)] [(.ref a1)])) _
    refine st9 _ ?_
    show Steps p.tables e below (T9.setTop (mkF m 53 #[.val (.ref a1)] [(.ref b9), (.ref a1)])) _
    refine XS.dup X9.here hx rfl (hb hby d1_53) rfl rfl ?_
    show Steps p.tables e below (T9.setTop (mkF m 54 #[.val (.ref a1)] [(.ref b9), (.ref b9), (.ref a1)])) _
    refine XS.aloadN X9.here hx rfl (hb hby d1_54) rfl rfl ?_
    show Steps p.tables e below (T9.setTop (mkF m 55 #[.val (.ref a1)] [(.ref a1), (.ref b9), (.ref b9), (.ref a1)])) _
    refine XS.iconst X9.here hx rfl (hb hby d1_55) ?_
    show Steps p.tables e below (T9.setTop (mkF m 56 #[.val (.ref a1)] [(.int (1 : Int32)), (.ref a1), (.ref b9), (.ref b9), (.ref a1)])) _
    refine st10.trans ?_
    show Steps p.tables e below (T10.setTop (mkF m 59 #[.val (.ref a1)] [(.ref b9), (.ref a1)])) _
    refine st11 _ ?_
    show Steps p.tables e below (T11.setTop (mkF m 62 #[.val (.ref a1)] [])) _
    exact X11.returnOut hx Bd.returns (hb hby d1_62) hr
  · show Q_rmM Z a1 h0 n0 _ T11.heap _
    rw [e11]
    exact ⟨rfl, N11, Kp11⟩
theorem pn_11 : plainName "java/lang/Number" = true := by first | (simp [plainName, overriddenIn]; done) | decide +kernel
theorem ef_11_R (m : MethodId) (x0 : Addr) : entryFrame m #[(.ref x0)] 1 = mkF m 0 #[.val (.ref x0)] [] := by first | (simp [entryFrame, mkF, argsToLocals, Value.category]; done) | rfl
theorem d11_0 : decode jdk_18_method_1_code 0 = .ok (.aload_n 0, 1) := by decide +kernel
theorem d11_1 : decode jdk_18_method_1_code 1 = .ok (.invokespecial 1, 3) := by decide +kernel
theorem d11_4 : decode jdk_18_method_1_code 4 = .ok (.return_, 1) := by decide +kernel
def Q_rmU (Z : State) (a1 : Addr) (h0 : Heap) (n0 : Nat) (v : Option Value) (h : Heap) (L : List Loc) : Prop := v = none ∧ Fr n0 L ∧ h = h0
set_option maxRecDepth 65536 in
set_option maxHeartbeats 40000000 in
theorem rmU (l : Launch) (Z : State) (a0 : Array Value) (hw : ∀ d ∈ tables_1, d.before a0 Z = true) (ws : List Jvm.Cond) (a1 : Addr) (h0 : Heap) (n0 : Nat) (Z0 : n0 ≤ h0.size) :
    MetFree l (⟨"java/lang/Number", "<init>", "()V"⟩ : MethodName) (head1 (Jvm.Cond.code (⟨"java/lang/Number", "<init>", "()V"⟩ : MethodName) jdk_18_method_1_code 1 none :: ws) ({ frames := 1, cells := 0, slots := 0, locals := 12 } : Room)) (fun a U => a = #[(.ref a1)] ∧ Z.Warmed39 U.vm ∧ U.heap = h0) (fun _ _ _ _ _ => True) (fun _ U o U' => ∃ v L, o = .returned v ∧ Q_rmU Z a1 h0 n0 v U'.heap L ∧ FrameEnd U o U' L ({ frames := 1, cells := 0, slots := 0, locals := 12 } : Room).cells ({ frames := 1, cells := 0, slots := 0, locals := 12 } : Room).slots) := by
  refine MetFree.of_bodySF (plainFor_of_name pn_11) hisR ?_
  intro p e s m args below meth c s₁ Bd hml0 hP hK
  obtain ⟨rfl, hZ, hh⟩ := hP
  have hx := Bd.exec
  have hby := Bd.bytes
  have hml : c.maxLocals = 1 := hml0
  have hown : s.vm.findClass "java/lang/Number" = some m.cls := findClass_of_methodNamed Bd.named
  have hnm := (name_of_methodNamed Bd.named Bd.method).1
  have X0 : Stand p l e ({ frames := 1, cells := 0, slots := 0, locals := 12 } : Room) s m #[(.ref a1)] below meth c s₁ [] 0 0 := Stand.of_body Bd
  have e0 : s₁.heap = h0 := by rw [← hh, Bd.state]; rfl
  have N0 := Fr.nil n0
  have pre0 : ∀ t, Steps p.tables e below (s₁.setTop (mkF m 0 #[.val (.ref a1)] [])) t → Steps p.tables e below (s₁.setTop (entryFrame m #[(.ref a1)] 1)) t := fun t k => castTop (ef_11_R m a1) k
  obtain ⟨T1, X1, e1, st1⟩ := initO X0 hx hZ hown (hw _ (List.mem_of_getElem? (i := 95) rfl)) (hw _ (List.mem_of_getElem? (i := 7) rfl)) (hw _ (List.mem_of_getElem? (i := 8) rfl)) e0 (g := (mkF m 1 #[.val (.ref a1)] [(.ref a1)])) rfl (by rw [hml]; rfl) rfl (hb hby d11_1) (by decide) (W := 0) (by show 2 * 0 + _ ≤ _; exact Nat.le_of_eq rfl) (by decide)
  obtain ⟨fs, hr, hrun, hended, hW, hsame⟩ := X1.leave (v := none) (fun _ => rfl)
  refine ⟨_, _, pre0 _ ?_, hrun, hended, _, _, rfl, ?_, ⟨_, rfl⟩, hW, hsame.mono (by decide) (by decide)⟩
  · show Steps p.tables e below (s₁.setTop (mkF m 0 #[.val (.ref a1)] [])) _
    refine XS.aloadN X0.here hx rfl (hb hby d11_0) rfl rfl ?_
    show Steps p.tables e below (s₁.setTop (mkF m 1 #[.val (.ref a1)] [(.ref a1)])) _
    refine st1 _ ?_
    show Steps p.tables e below (T1.setTop (mkF m 4 #[.val (.ref a1)] [])) _
    exact X1.returnOut hx Bd.returns (hb hby d11_4) hr
  · show Q_rmU Z a1 h0 n0 _ T1.heap _
    rw [e1]
    exact ⟨rfl, N0, rfl⟩
theorem pn_10 : plainName "java/lang/Integer" = true := by first | (simp [plainName, overriddenIn]; done) | decide +kernel
theorem ef_10_RI (m : MethodId) (x0 : Addr) (x1 : Int32) : entryFrame m #[(.ref x0), (.int x1)] 2 = mkF m 0 #[.val (.ref x0), .val (.int x1)] [] := by first | (simp [entryFrame, mkF, argsToLocals, Value.category]; done) | rfl
theorem pd_0 : parseMethodDescriptor "()V" = some ⟨[], none⟩ := by decide +kernel
theorem d10_0 : decode jdk_33_method_23_code 0 = .ok (.aload_n 0, 1) := by decide +kernel
theorem d10_1 : decode jdk_33_method_23_code 1 = .ok (.invokespecial 202, 3) := by decide +kernel
theorem d10_4 : decode jdk_33_method_23_code 4 = .ok (.aload_n 0, 1) := by decide +kernel
theorem d10_5 : decode jdk_33_method_23_code 5 = .ok (.iload_n 1, 1) := by decide +kernel
theorem d10_6 : decode jdk_33_method_23_code 6 = .ok (.putfield 205, 3) := by decide +kernel
theorem d10_9 : decode jdk_33_method_23_code 9 = .ok (.return_, 1) := by decide +kernel
def Q_rmII (Z : State) (a1 : Addr) (p2 : Int32) (h0 : Heap) (n0 : Nat) (v : Option Value) (h : Heap) (L : List Loc) : Prop := v = none ∧ Fr n0 L ∧ Keep h0 h [a1] ∧ Exa Z h a1 "java/lang/Integer"
set_option maxRecDepth 65536 in
set_option maxHeartbeats 40000000 in
theorem rmII (l : Launch) (Z : State) (a0 : Array Value) (hw : ∀ d ∈ tables_1, d.before a0 Z = true) (ws : List Jvm.Cond) (a1 : Addr) (p2 : Int32) (h0 : Heap) (n0 : Nat) (Z0 : n0 ≤ h0.size) (E0 : Exa Z h0 a1 "java/lang/Integer") (F0 : Fld Z h0 a1 "java/lang/Integer" "value" "I" (.int (0 : Int32))) (g0 : n0 ≤ a1) :
    MetFree l (⟨"java/lang/Integer", "<init>", "(I)V"⟩ : MethodName) (head1 (Jvm.Cond.code (⟨"java/lang/Integer", "<init>", "(I)V"⟩ : MethodName) jdk_33_method_23_code 2 none :: ws) ({ frames := 2, cells := 0, slots := 0, locals := 24 } : Room)) (fun a U => a = #[(.ref a1), (.int p2)] ∧ Z.Warmed39 U.vm ∧ U.heap = h0) (fun _ _ _ _ _ => True) (fun _ U o U' => ∃ v L, o = .returned v ∧ Q_rmII Z a1 p2 h0 n0 v U'.heap L ∧ FrameEnd U o U' L ({ frames := 2, cells := 0, slots := 0, locals := 24 } : Room).cells ({ frames := 2, cells := 0, slots := 0, locals := 24 } : Room).slots) := by
  refine MetFree.of_bodySF (plainFor_of_name pn_10) hisR ?_
  intro p e s m args below meth c s₁ Bd hml0 hP hK
  obtain ⟨rfl, hZ, hh⟩ := hP
  have hx := Bd.exec
  have hby := Bd.bytes
  have hml : c.maxLocals = 2 := hml0
  have hown : s.vm.findClass "java/lang/Integer" = some m.cls := findClass_of_methodNamed Bd.named
  have hnm := (name_of_methodNamed Bd.named Bd.method).1
  have X0 : Stand p l e ({ frames := 2, cells := 0, slots := 0, locals := 24 } : Room) s m #[(.ref a1), (.int p2)] below meth c s₁ [] 0 0 := Stand.of_body Bd
  have e0 : s₁.heap = h0 := by rw [← hh, Bd.state]; rfl
  have N0 := Fr.nil n0
  have pre0 : ∀ t, Steps p.tables e below (s₁.setTop (mkF m 0 #[.val (.ref a1), .val (.int p2)] [])) t → Steps p.tables e below (s₁.setTop (entryFrame m #[(.ref a1), (.int p2)] 2)) t := fun t k => castTop (ef_10_RI m a1 p2) k
  obtain ⟨_, _, ⟨T1, L1, k1, n1⟩, -, X1, ⟨Lc1, hQ1, l1, y1, z1⟩, st1⟩ := X0.specialBack hx (y := (⟨"java/lang/Number", "<init>", "()V"⟩ : MethodName)) rfl hown (mvT hZ (hw _ (List.mem_of_getElem? (i := 89) rfl))) (mvT hZ (hw _ (List.mem_of_getElem? (i := 90) rfl))) (mvT hZ (hw _ (List.mem_of_getElem? (i := 94) rfl))) (by decide) (backOf (W := 0) (rmU l Z a0 hw [] a1 h0 n0 Z0 ) hZ (hw _ (List.mem_of_getElem? (i := 94) rfl)) (hw _ (List.mem_of_getElem? (i := 93) rfl)) (by decide) (by decide)) (g := (mkF m 1 #[.val (.ref a1), .val (.int p2)] [(.ref a1)])) rfl (by rw [hml]; rfl) (Steps.refl _) (a := a1) (argsL := []) (rest := []) (lenOf pd_0 rfl) rfl (by show 2 * 0 + _ ≤ _; exact Nat.le_of_eq rfl) (hb hby d10_1) (fun _ _ => ⟨rfl, e0, (by decide : 0 + 0 ≤ _), (by decide : 0 + 0 ≤ _)⟩)
  dsimp only [Pt.U, Pt.locs, Pt.cells, Pt.slots] at X1 l1 y1 z1 st1 hQ1
  subst l1 y1 z1
  obtain ⟨rfl, Nq1, e1⟩ := hQ1
  have N1 := Fr.app N0 Nq1
  obtain ⟨T2, h2, X2, e2, W2, st2⟩ := putF X1 hx hZ hown (host := "") (Or.inl (hw _ (List.mem_of_getElem? (i := 96) rfl))) Via.refl e1 F0 E0 (Or.inr ⟨(hw _ (List.mem_of_getElem? (i := 97) rfl)), rfl, hnm⟩) (hw _ (List.mem_of_getElem? (i := 84) rfl)) (ty := .int) (by decide) rfl rfl (g := (mkF m 6 #[.val (.ref a1), .val (.int p2)] [(.int p2), (.ref a1)])) rfl rfl (hb hby d10_6)
  have E0_2 := E0.wr W2
  have Z2 : n0 ≤ h2.size := Nat.le_trans Z0 (Keep.of_wr W2).1
  have Kp2 : Keep h0 h2 [a1] := (Keep.refl h0 [a1]).wr W2 (Or.inl (by simp))
  have Fw2 : Fld Z h2 a1 "java/lang/Integer" "value" "I" (.int p2) := F0.same W2
  have N2 := Fr.snoc X2 N1 g0
  obtain ⟨fs, hr, hrun, hended, hW, hsame⟩ := X2.leave (v := none) (fun _ => rfl)
  refine ⟨_, _, pre0 _ ?_, hrun, hended, _, _, rfl, ?_, ⟨_, rfl⟩, hW, hsame.mono (by decide) (by decide)⟩
  · show Steps p.tables e below (s₁.setTop (mkF m 0 #[.val (.ref a1), .val (.int p2)] [])) _
    refine XS.aloadN X0.here hx rfl (hb hby d10_0) rfl rfl ?_
    show Steps p.tables e below (s₁.setTop (mkF m 1 #[.val (.ref a1), .val (.int p2)] [(.ref a1)])) _
    refine st1.trans ?_
    show Steps p.tables e below (T1.setTop (mkF m 4 #[.val (.ref a1), .val (.int p2)] [])) _
    refine XS.aloadN X1.here hx rfl (hb hby d10_4) rfl rfl ?_
    show Steps p.tables e below (T1.setTop (mkF m 5 #[.val (.ref a1), .val (.int p2)] [(.ref a1)])) _
    refine XS.iloadN X1.here hx rfl (hb hby d10_5) rfl ?_
    show Steps p.tables e below (T1.setTop (mkF m 6 #[.val (.ref a1), .val (.int p2)] [(.int p2), (.ref a1)])) _
    refine st2 _ ?_
    show Steps p.tables e below (T2.setTop (mkF m 9 #[.val (.ref a1), .val (.int p2)] [])) _
    exact X2.returnOut hx Bd.returns (hb hby d10_9) hr
  · show Q_rmII Z a1 p2 h0 n0 _ T2.heap _
    rw [e2]
    exact ⟨rfl, N2, Kp2, E0_2⟩
theorem pn_8 : plainName "java/lang/Integer" = true := by first | (simp [plainName, overriddenIn]; done) | decide +kernel
theorem ef_8_I (m : MethodId) (x0 : Int32) : entryFrame m #[(.int x0)] 1 = mkF m 0 #[.val (.int x0)] [] := by first | (simp [entryFrame, mkF, argsToLocals, Value.category]; done) | rfl
theorem d8_0 : decode jdk_33_method_22_code 0 = .ok (.iload_n 0, 1) := by decide +kernel
theorem d8_1 : decode jdk_33_method_22_code 1 = .ok (.bipush (-128), 2) := by decide +kernel
theorem d8_3 : decode jdk_33_method_22_code 3 = .ok (.if_icmp .lt 20, 3) := by decide +kernel
theorem d8_6 : decode jdk_33_method_22_code 6 = .ok (.iload_n 0, 1) := by decide +kernel
theorem d8_7 : decode jdk_33_method_22_code 7 = .ok (.getstatic 191, 3) := by decide +kernel
theorem d8_10 : decode jdk_33_method_22_code 10 = .ok (.if_icmp .gt 13, 3) := by decide +kernel
theorem d8_13 : decode jdk_33_method_22_code 13 = .ok (.getstatic 195, 3) := by decide +kernel
theorem d8_16 : decode jdk_33_method_22_code 16 = .ok (.iload_n 0, 1) := by decide +kernel
theorem d8_17 : decode jdk_33_method_22_code 17 = .ok (.sipush 128, 3) := by decide +kernel
theorem d8_20 : decode jdk_33_method_22_code 20 = .ok (.iadd, 1) := by decide +kernel
theorem d8_21 : decode jdk_33_method_22_code 21 = .ok (.aaload, 1) := by decide +kernel
theorem d8_22 : decode jdk_33_method_22_code 22 = .ok (.areturn, 1) := by decide +kernel
theorem d8_23 : decode jdk_33_method_22_code 23 = .ok (.new 1, 3) := by decide +kernel
theorem d8_26 : decode jdk_33_method_22_code 26 = .ok (.dup, 1) := by decide +kernel
theorem d8_27 : decode jdk_33_method_22_code 27 = .ok (.iload_n 0, 1) := by decide +kernel
theorem d8_28 : decode jdk_33_method_22_code 28 = .ok (.invokespecial 199, 3) := by decide +kernel
theorem d8_31 : decode jdk_33_method_22_code 31 = .ok (.areturn, 1) := by decide +kernel
def Q_rmV (Z : State) (p1 : Int32) (ca : Addr) (h0 : Heap) (n0 : Nat) (v : Option Value) (h : Heap) (L : List Loc) : Prop := ∃ bx : Addr, v = some (.ref bx) ∧ Fr n0 L ∧ Keep h0 h [] ∧ Exa Z h bx "java/lang/Integer"
set_option maxRecDepth 65536 in
set_option maxHeartbeats 40000000 in
theorem rmV (l : Launch) (Z : State) (a0 : Array Value) (hw : ∀ d ∈ tables_1, d.before a0 Z = true) (ws : List Jvm.Cond) (p1 : Int32) (ca : Addr) (h0 : Heap) (n0 : Nat) (Z0 : n0 ≤ h0.size) (S_hi : Sta Z h0 "java/lang/Integer$IntegerCache" "high" "I" (.int (127 : Int32))) (S_ca : Sta Z h0 "java/lang/Integer$IntegerCache" "cache" "[Ljava/lang/Integer;" (.ref ca)) (C0 : own_cache Z h0 ca) :
    MetFree l (⟨"java/lang/Integer", "valueOf", "(I)Ljava/lang/Integer;"⟩ : MethodName) (head1 (Jvm.Cond.code (⟨"java/lang/Integer", "valueOf", "(I)Ljava/lang/Integer;"⟩ : MethodName) jdk_33_method_22_code 1 (some (.object "java/lang/Integer")) :: ws) ({ frames := 3, cells := 1, slots := 1, locals := 38 } : Room)) (fun a U => a = #[(.int p1)] ∧ Z.Warmed39 U.vm ∧ U.heap = h0) (fun _ _ _ _ _ => True) (fun _ U o U' => ∃ v L, o = .returned v ∧ Q_rmV Z p1 ca h0 n0 v U'.heap L ∧ FrameEnd U o U' L ({ frames := 3, cells := 1, slots := 1, locals := 38 } : Room).cells ({ frames := 3, cells := 1, slots := 1, locals := 38 } : Room).slots) := by
  refine MetFree.of_bodySF (plainFor_of_name pn_8) hisR ?_
  intro p e s m args below meth c s₁ Bd hml0 hP hK
  obtain ⟨rfl, hZ, hh⟩ := hP
  have hx := Bd.exec
  have hby := Bd.bytes
  have hml : c.maxLocals = 1 := hml0
  have hown : s.vm.findClass "java/lang/Integer" = some m.cls := findClass_of_methodNamed Bd.named
  have hnm := (name_of_methodNamed Bd.named Bd.method).1
  have X0 : Stand p l e ({ frames := 3, cells := 1, slots := 1, locals := 38 } : Room) s m #[(.int p1)] below meth c s₁ [] 0 0 := Stand.of_body Bd
  have e0 : s₁.heap = h0 := by rw [← hh, Bd.state]; rfl
  have N0 := Fr.nil n0
  have pre0 : ∀ t, Steps p.tables e below (s₁.setTop (mkF m 0 #[.val (.int p1)] [])) t → Steps p.tables e below (s₁.setTop (entryFrame m #[(.int p1)] 1)) t := fun t k => castTop (ef_8_I m p1) k
  by_cases hlo : p1 < (-128 : Int32)
  · obtain ⟨T1, h1, X1, e1, E1, A1, D1, -, st1⟩ := newO X0 hx hZ hown (hw _ (List.mem_of_getElem? (i := 83) rfl)) (hw _ (List.mem_of_getElem? (i := 84) rfl)) (hw _ (List.mem_of_getElem? (i := 68) rfl)) e0 (g := (mkF m 23 #[.val (.int p1)] [])) rfl (hb hby d8_23) (by decide) (by decide)
    obtain ⟨b1, g1⟩ : ∃ z, z = h0.size := ⟨_, rfl⟩
    rw [← g1] at A1 D1 st1
    have ge_b1 : n0 ≤ b1 := Nat.le_trans Z0 (Nat.le_of_eq g1.symm)
    have sz_b1 : h0.size ≤ b1 := Nat.le_trans (Keep.refl h0 []).1 (Nat.le_of_eq g1.symm)
    have S_hi_1 := S_hi.ext E1
    have S_ca_1 := S_ca.ext E1
    have Z1 : n0 ≤ h1.size := Nat.le_trans Z0 E1.1
    have Kp1 : Keep h0 h1 [] := (Keep.refl h0 []).ext E1
    have F_value_b1 : Fld Z h1 b1 "java/lang/Integer" "value" "I" (.int (0 : Int32)) := D1 (Or.inr (hw _ (List.mem_of_getElem? (i := 97) rfl))) (ty := .int) (by decide)
    obtain ⟨_, _, ⟨T2, L2, k2, n2⟩, -, X2, ⟨Lc2, hQ2, l2, y2, z2⟩, st2⟩ := X1.specialBack hx (y := (⟨"java/lang/Integer", "<init>", "(I)V"⟩ : MethodName)) rfl hown (mvT hZ (hw _ (List.mem_of_getElem? (i := 85) rfl))) (mvT hZ (hw _ (List.mem_of_getElem? (i := 86) rfl))) (mvT hZ (hw _ (List.mem_of_getElem? (i := 88) rfl))) (by decide) (backOf (W := 1) (rmII l Z a0 hw [] b1 p1 h1 n0 Z1 A1 F_value_b1 ge_b1) hZ (hw _ (List.mem_of_getElem? (i := 88) rfl)) (hw _ (List.mem_of_getElem? (i := 68) rfl)) (by decide) (by decide)) (g := (mkF m 28 #[.val (.int p1)] [(.int p1), (.ref b1), (.ref b1)])) rfl (by rw [hml]; rfl) (Steps.refl _) (a := b1) (argsL := [(.int p1)]) (rest := [(.ref b1)]) (lenOf pd_1 rfl) rfl (by show 2 * 0 + _ ≤ _; exact Nat.le_of_eq rfl) (hb hby d8_28) (fun _ _ => ⟨rfl, e1, (by decide : 1 + 0 ≤ _), (by decide : 1 + 0 ≤ _)⟩)
    dsimp only [Pt.U, Pt.locs, Pt.cells, Pt.slots] at X2 l2 y2 z2 st2 hQ2
    subst l2 y2 z2
    obtain ⟨rfl, Nq2, K2, ex2⟩ := hQ2
    have S_hi_2 := own_sta_keep S_hi_1 K2 (allS (Exa.nostat A1) all0)
    have S_ca_2 := own_sta_keep S_ca_1 K2 (allS (Exa.nostat A1) all0)
    have A1_2 := A1.keep K2
    have Z2 : n0 ≤ T2.heap.size := Nat.le_trans Z1 K2.1
    have Kp2 : Keep h0 T2.heap [] := Kp1.trans K2 (allS (Or.inr sz_b1) all0)
    have N2 := Fr.app N0 Nq2
    obtain ⟨fs, hr, hrun, hended, hW, hsame⟩ := X2.leave (v := some (.ref b1)) (fun h => by rw [Bd.returns] at h; cases h)
    refine ⟨_, _, pre0 _ ?_, hrun, hended, _, _, rfl, ?_, ⟨_, rfl⟩, hW, hsame.mono (by decide) (by decide)⟩
    · show Steps p.tables e below (s₁.setTop (mkF m 0 #[.val (.int p1)] [])) _
      refine XS.iloadN X0.here hx rfl (hb hby d8_0) rfl ?_
      show Steps p.tables e below (s₁.setTop (mkF m 1 #[.val (.int p1)] [(.int p1)])) _
      refine XS.bipush X0.here hx rfl (hb hby d8_1) ?_
      show Steps p.tables e below (s₁.setTop (mkF m 3 #[.val (.int p1)] [(.int (-128 : Int32)), (.int p1)])) _
      refine XS.icmpYes X0.here hx rfl (pc0 := 3) (pc' := 23) rfl (hb hby d8_3) rfl (tlt hlo).1 (by decide) (by decide) ?_
      show Steps p.tables e below (s₁.setTop (mkF m 23 #[.val (.int p1)] [])) _
      refine st1 _ ?_
      show Steps p.tables e below (T1.setTop (mkF m 26 #[.val (.int p1)] [(.ref b1)])) _
      refine XS.dup X1.here hx rfl (hb hby d8_26) rfl rfl ?_
      show Steps p.tables e below (T1.setTop (mkF m 27 #[.val (.int p1)] [(.ref b1), (.ref b1)])) _
      refine XS.iloadN X1.here hx rfl (hb hby d8_27) rfl ?_
      show Steps p.tables e below (T1.setTop (mkF m 28 #[.val (.int p1)] [(.int p1), (.ref b1), (.ref b1)])) _
      refine st2.trans ?_
      show Steps p.tables e below (T2.setTop (mkF m 31 #[.val (.int p1)] [(.ref b1)])) _
      jvm_step X2.here [X2.here.top, hx, (hb hby d8_31), X2.method', Bd.returns, Value.isRef, FieldType.isReference]
      first | (intro acts; rw [hr _ acts rfl rfl rfl]) | rw [hr _ _ rfl rfl rfl]
      exact Steps.refl _
    · show Q_rmV Z p1 ca h0 n0 _ T2.heap _
      exact ⟨b1, rfl, N2, Kp2, ex2⟩
  · by_cases hhi : (127 : Int32) < p1
    · obtain ⟨T1, X1, e1, st1⟩ := getS2 X0 hx hZ hown (host := "") (Or.inl (hw _ (List.mem_of_getElem? (i := 70) rfl))) Via.refl e0 S_hi (g := (mkF m 7 #[.val (.int p1)] [(.int p1)])) rfl (hb hby d8_7)
      obtain ⟨T2, h2, X2, e2, E2, A2, D2, -, st2⟩ := newO X1 hx hZ hown (hw _ (List.mem_of_getElem? (i := 83) rfl)) (hw _ (List.mem_of_getElem? (i := 84) rfl)) (hw _ (List.mem_of_getElem? (i := 68) rfl)) e1 (g := (mkF m 23 #[.val (.int p1)] [])) rfl (hb hby d8_23) (by decide) (by decide)
      obtain ⟨b2, g2⟩ : ∃ z, z = h0.size := ⟨_, rfl⟩
      rw [← g2] at A2 D2 st2
      have ge_b2 : n0 ≤ b2 := Nat.le_trans Z0 (Nat.le_of_eq g2.symm)
      have sz_b2 : h0.size ≤ b2 := Nat.le_trans (Keep.refl h0 []).1 (Nat.le_of_eq g2.symm)
      have S_hi_2 := S_hi.ext E2
      have S_ca_2 := S_ca.ext E2
      have Z2 : n0 ≤ h2.size := Nat.le_trans Z0 E2.1
      have Kp2 : Keep h0 h2 [] := (Keep.refl h0 []).ext E2
      have F_value_b2 : Fld Z h2 b2 "java/lang/Integer" "value" "I" (.int (0 : Int32)) := D2 (Or.inr (hw _ (List.mem_of_getElem? (i := 97) rfl))) (ty := .int) (by decide)
      obtain ⟨_, _, ⟨T3, L3, k3, n3⟩, -, X3, ⟨Lc3, hQ3, l3, y3, z3⟩, st3⟩ := X2.specialBack hx (y := (⟨"java/lang/Integer", "<init>", "(I)V"⟩ : MethodName)) rfl hown (mvT hZ (hw _ (List.mem_of_getElem? (i := 85) rfl))) (mvT hZ (hw _ (List.mem_of_getElem? (i := 86) rfl))) (mvT hZ (hw _ (List.mem_of_getElem? (i := 88) rfl))) (by decide) (backOf (W := 1) (rmII l Z a0 hw [] b2 p1 h2 n0 Z2 A2 F_value_b2 ge_b2) hZ (hw _ (List.mem_of_getElem? (i := 88) rfl)) (hw _ (List.mem_of_getElem? (i := 68) rfl)) (by decide) (by decide)) (g := (mkF m 28 #[.val (.int p1)] [(.int p1), (.ref b2), (.ref b2)])) rfl (by rw [hml]; rfl) (Steps.refl _) (a := b2) (argsL := [(.int p1)]) (rest := [(.ref b2)]) (lenOf pd_1 rfl) rfl (by show 2 * 0 + _ ≤ _; exact Nat.le_of_eq rfl) (hb hby d8_28) (fun _ _ => ⟨rfl, e2, (by decide : 1 + 0 ≤ _), (by decide : 1 + 0 ≤ _)⟩)
      dsimp only [Pt.U, Pt.locs, Pt.cells, Pt.slots] at X3 l3 y3 z3 st3 hQ3
      subst l3 y3 z3
      obtain ⟨rfl, Nq3, K3, ex3⟩ := hQ3
      have S_hi_3 := own_sta_keep S_hi_2 K3 (allS (Exa.nostat A2) all0)
      have S_ca_3 := own_sta_keep S_ca_2 K3 (allS (Exa.nostat A2) all0)
      have A2_3 := A2.keep K3
      have Z3 : n0 ≤ T3.heap.size := Nat.le_trans Z2 K3.1
      have Kp3 : Keep h0 T3.heap [] := Kp2.trans K3 (allS (Or.inr sz_b2) all0)
      have N3 := Fr.app N0 Nq3
      obtain ⟨fs, hr, hrun, hended, hW, hsame⟩ := X3.leave (v := some (.ref b2)) (fun h => by rw [Bd.returns] at h; cases h)
      refine ⟨_, _, pre0 _ ?_, hrun, hended, _, _, rfl, ?_, ⟨_, rfl⟩, hW, hsame.mono (by decide) (by decide)⟩
      · show Steps p.tables e below (s₁.setTop (mkF m 0 #[.val (.int p1)] [])) _
        refine XS.iloadN X0.here hx rfl (hb hby d8_0) rfl ?_
        show Steps p.tables e below (s₁.setTop (mkF m 1 #[.val (.int p1)] [(.int p1)])) _
        refine XS.bipush X0.here hx rfl (hb hby d8_1) ?_
        show Steps p.tables e below (s₁.setTop (mkF m 3 #[.val (.int p1)] [(.int (-128 : Int32)), (.int p1)])) _
        refine XS.icmpNo X0.here hx rfl (hb hby d8_3) rfl (flt hlo).1 ?_
        show Steps p.tables e below (s₁.setTop (mkF m 6 #[.val (.int p1)] [])) _
        refine XS.iloadN X0.here hx rfl (hb hby d8_6) rfl ?_
        show Steps p.tables e below (s₁.setTop (mkF m 7 #[.val (.int p1)] [(.int p1)])) _
        refine st1 _ ?_
        show Steps p.tables e below (T1.setTop (mkF m 10 #[.val (.int p1)] [(.int (127 : Int32)), (.int p1)])) _
        refine XS.icmpYes X1.here hx rfl (pc0 := 10) (pc' := 23) rfl (hb hby d8_10) rfl (tlt hhi).2.2.1 (by decide) (by decide) ?_
        show Steps p.tables e below (T1.setTop (mkF m 23 #[.val (.int p1)] [])) _
        refine st2 _ ?_
        show Steps p.tables e below (T2.setTop (mkF m 26 #[.val (.int p1)] [(.ref b2)])) _
        refine XS.dup X2.here hx rfl (hb hby d8_26) rfl rfl ?_
        show Steps p.tables e below (T2.setTop (mkF m 27 #[.val (.int p1)] [(.ref b2), (.ref b2)])) _
        refine XS.iloadN X2.here hx rfl (hb hby d8_27) rfl ?_
        show Steps p.tables e below (T2.setTop (mkF m 28 #[.val (.int p1)] [(.int p1), (.ref b2), (.ref b2)])) _
        refine st3.trans ?_
        show Steps p.tables e below (T3.setTop (mkF m 31 #[.val (.int p1)] [(.ref b2)])) _
        jvm_step X3.here [X3.here.top, hx, (hb hby d8_31), X3.method', Bd.returns, Value.isRef, FieldType.isReference]
        first | (intro acts; rw [hr _ acts rfl rfl rfl]) | rw [hr _ _ rfl rfl rfl]
        exact Steps.refl _
      · show Q_rmV Z p1 ca h0 n0 _ T3.heap _
        exact ⟨b2, rfl, N3, Kp3, ex3⟩
    · obtain ⟨cl, Ar, hel⟩ := C0
      obtain ⟨bx, hin, hat, Ex⟩ := hel p1 hlo hhi
      obtain ⟨T1, X1, e1, st1⟩ := getS2 X0 hx hZ hown (host := "") (Or.inl (hw _ (List.mem_of_getElem? (i := 70) rfl))) Via.refl e0 S_hi (g := (mkF m 7 #[.val (.int p1)] [(.int p1)])) rfl (hb hby d8_7)
      obtain ⟨T2, X2, e2, st2⟩ := getS2 X1 hx hZ hown (host := "") (Or.inl (hw _ (List.mem_of_getElem? (i := 72) rfl))) Via.refl e1 S_ca (g := (mkF m 13 #[.val (.int p1)] [])) rfl (hb hby d8_13)
      obtain ⟨fs, hr, hrun, hended, hW, hsame⟩ := X2.leave (v := some (.ref bx)) (fun h => by rw [Bd.returns] at h; cases h)
      refine ⟨_, _, pre0 _ ?_, hrun, hended, _, _, rfl, ?_, ⟨_, rfl⟩, hW, hsame.mono (by decide) (by decide)⟩
      · show Steps p.tables e below (s₁.setTop (mkF m 0 #[.val (.int p1)] [])) _
        refine XS.iloadN X0.here hx rfl (hb hby d8_0) rfl ?_
        show Steps p.tables e below (s₁.setTop (mkF m 1 #[.val (.int p1)] [(.int p1)])) _
        refine XS.bipush X0.here hx rfl (hb hby d8_1) ?_
        show Steps p.tables e below (s₁.setTop (mkF m 3 #[.val (.int p1)] [(.int (-128 : Int32)), (.int p1)])) _
        refine XS.icmpNo X0.here hx rfl (hb hby d8_3) rfl (flt hlo).1 ?_
        show Steps p.tables e below (s₁.setTop (mkF m 6 #[.val (.int p1)] [])) _
        refine XS.iloadN X0.here hx rfl (hb hby d8_6) rfl ?_
        show Steps p.tables e below (s₁.setTop (mkF m 7 #[.val (.int p1)] [(.int p1)])) _
        refine st1 _ ?_
        show Steps p.tables e below (T1.setTop (mkF m 10 #[.val (.int p1)] [(.int (127 : Int32)), (.int p1)])) _
        refine XS.icmpNo X1.here hx rfl (hb hby d8_10) rfl (flt hhi).2.2.1 ?_
        show Steps p.tables e below (T1.setTop (mkF m 13 #[.val (.int p1)] [])) _
        refine st2 _ ?_
        show Steps p.tables e below (T2.setTop (mkF m 16 #[.val (.int p1)] [(.ref ca)])) _
        refine XS.iloadN X2.here hx rfl (hb hby d8_16) rfl ?_
        show Steps p.tables e below (T2.setTop (mkF m 17 #[.val (.int p1)] [(.int p1), (.ref ca)])) _
        refine XS.sipush X2.here hx rfl (hb hby d8_17) ?_
        show Steps p.tables e below (T2.setTop (mkF m 20 #[.val (.int p1)] [(.int (128 : Int32)), (.int p1), (.ref ca)])) _
        refine XS.iadd X2.here hx rfl (hb hby d8_20) rfl ?_
        show Steps p.tables e below (T2.setTop (mkF m 21 #[.val (.int p1)] [(.int (p1 + (128 : Int32))), (.ref ca)])) _
        refine X2.aaload hx (j := (p1 + (128 : Int32))) (v := (.ref bx)) (by rw [e2]; exact Ar.1) (State.isArrayOf_alike hZ.alike Ar.2.1) rfl Ar.2.2 hin hat (g := (mkF m 21 #[.val (.int p1)] [(.int (p1 + (128 : Int32))), (.ref ca)])) rfl rfl (hb hby d8_21) _ ?_
        show Steps p.tables e below (T2.setTop (mkF m 22 #[.val (.int p1)] [(.ref bx)])) _
        jvm_step X2.here [X2.here.top, hx, (hb hby d8_22), X2.method', Bd.returns, Value.isRef, FieldType.isReference]
        first | (intro acts; rw [hr _ acts rfl rfl rfl]) | rw [hr _ _ rfl rfl rfl]
        exact Steps.refl _
      · show Q_rmV Z p1 ca h0 n0 _ T2.heap _
        rw [e2]
        exact ⟨bx, rfl, N0, Keep.refl _ _, Ex⟩
theorem pn_9 : plainName "com/example/brevi/brevi/bdd/Bdd" = true := by first | (simp [plainName, overriddenIn]; done) | decide +kernel
theorem ef_9_RN (m : MethodId) (x0 : Addr) : entryFrame m #[(.ref x0), .null] 3 = mkF m 0 #[.val (.ref x0), .val .null, .unset] [] := by first | (simp [entryFrame, mkF, argsToLocals, Value.category]; done) | rfl
theorem d9_0 : decode prog_3_method_19_code 0 = .ok (.aload_n 1, 1) := by decide +kernel
theorem d9_1 : decode prog_3_method_19_code 1 = .ok (.instanceof 8, 3) := by decide +kernel
theorem d9_4 : decode prog_3_method_19_code 4 = .ok (.ifCond .eq 34, 3) := by decide +kernel
theorem d9_38 : decode prog_3_method_19_code 38 = .ok (.iconst 0, 1) := by decide +kernel
theorem d9_39 : decode prog_3_method_19_code 39 = .ok (.ireturn, 1) := by decide +kernel
def Q_rmE_n (Z : State) (a1 : Addr) (h0 : Heap) (n0 : Nat) (v : Option Value) (h : Heap) (L : List Loc) : Prop := v = some (.int (0 : Int32)) ∧ Fr n0 L ∧ h = h0
set_option maxRecDepth 65536 in
set_option maxHeartbeats 40000000 in
theorem rmE_n (l : Launch) (Z : State) (a0 : Array Value) (hw : ∀ d ∈ tables_1, d.before a0 Z = true) (ws : List Jvm.Cond) (a1 : Addr) (h0 : Heap) (n0 : Nat) (Z0 : n0 ≤ h0.size) :
    MetFree l (⟨"com/example/brevi/brevi/bdd/Bdd", "equals", "(Ljava/lang/Object;)Z"⟩ : MethodName) (head1 (Jvm.Cond.code (⟨"com/example/brevi/brevi/bdd/Bdd", "equals", "(Ljava/lang/Object;)Z"⟩ : MethodName) prog_3_method_19_code 3 (some .boolean) :: ws) ({ frames := 0, cells := 0, slots := 0, locals := 0 } : Room)) (fun a U => a = #[(.ref a1), .null] ∧ Z.Warmed39 U.vm ∧ U.heap = h0) (fun _ _ _ _ _ => True) (fun _ U o U' => ∃ v L, o = .returned v ∧ Q_rmE_n Z a1 h0 n0 v U'.heap L ∧ FrameEnd U o U' L ({ frames := 0, cells := 0, slots := 0, locals := 0 } : Room).cells ({ frames := 0, cells := 0, slots := 0, locals := 0 } : Room).slots) := by
  refine MetFree.of_bodySF (plainFor_of_name pn_9) hisR ?_
  intro p e s m args below meth c s₁ Bd hml0 hP hK
  obtain ⟨rfl, hZ, hh⟩ := hP
  have hx := Bd.exec
  have hby := Bd.bytes
  have hml : c.maxLocals = 3 := hml0
  have hown : s.vm.findClass "com/example/brevi/brevi/bdd/Bdd" = some m.cls := findClass_of_methodNamed Bd.named
  have hnm := (name_of_methodNamed Bd.named Bd.method).1
  have X0 : Stand p l e ({ frames := 0, cells := 0, slots := 0, locals := 0 } : Room) s m #[(.ref a1), .null] below meth c s₁ [] 0 0 := Stand.of_body Bd
  have e0 : s₁.heap = h0 := by rw [← hh, Bd.state]; rfl
  have N0 := Fr.nil n0
  have pre0 : ∀ t, Steps p.tables e below (s₁.setTop (mkF m 0 #[.val (.ref a1), .val .null, .unset] [])) t → Steps p.tables e below (s₁.setTop (entryFrame m #[(.ref a1), .null] 3)) t := fun t k => castTop (ef_9_RN m a1) k
  obtain ⟨fs, hr, hrun, hended, hW, hsame⟩ := X0.leave (v := some (.int (0 : Int32))) (fun h => by rw [Bd.returns] at h; cases h)
  refine ⟨_, _, pre0 _ ?_, hrun, hended, _, _, rfl, ?_, ⟨_, rfl⟩, hW, hsame.mono (by decide) (by decide)⟩
  · show Steps p.tables e below (s₁.setTop (mkF m 0 #[.val (.ref a1), .val .null, .unset] [])) _
    refine XS.aloadN X0.here hx rfl (hb hby d9_0) rfl rfl ?_
    show Steps p.tables e below (s₁.setTop (mkF m 1 #[.val (.ref a1), .val .null, .unset] [.null])) _
    refine X0.instanceofNull hx (g := (mkF m 1 #[.val (.ref a1), .val .null, .unset] [.null])) rfl rfl (hb hby d9_1) _ ?_
    show Steps p.tables e below (s₁.setTop (mkF m 4 #[.val (.ref a1), .val .null, .unset] [(.int (0 : Int32))])) _
    refine XS.ifYes X0.here hx rfl (pc0 := 4) (pc' := 38) rfl (hb hby d9_4) rfl ((if0 _ _).trans (teq (by decide : (0 : Int32) = (0 : Int32))).1) (by decide) (by decide) ?_
    show Steps p.tables e below (s₁.setTop (mkF m 38 #[.val (.ref a1), .val .null, .unset] [])) _
    refine XS.iconst X0.here hx rfl (hb hby d9_38) ?_
    show Steps p.tables e below (s₁.setTop (mkF m 39 #[.val (.ref a1), .val .null, .unset] [(.int (0 : Int32))])) _
    exact retN X0 hx (t := .boolean) Bd.returns (by simp) (hb hby d9_39) hr
  · show Q_rmE_n Z a1 h0 n0 _ s₁.heap _
    rw [e0]
    exact ⟨rfl, N0, rfl⟩
theorem ef_9_RR (m : MethodId) (x0 : Addr) (x1 : Addr) : entryFrame m #[(.ref x0), (.ref x1)] 3 = mkF m 0 #[.val (.ref x0), .val (.ref x1), .unset] [] := by first | (simp [entryFrame, mkF, argsToLocals, Value.category]; done) | rfl
def Q_rmE_i (Z : State) (a1 : Addr) (a2 : Addr) (h0 : Heap) (n0 : Nat) (v : Option Value) (h : Heap) (L : List Loc) : Prop := v = some (.int (0 : Int32)) ∧ Fr n0 L ∧ h = h0
set_option maxRecDepth 65536 in
set_option maxHeartbeats 40000000 in
theorem rmE_i (l : Launch) (Z : State) (a0 : Array Value) (hw : ∀ d ∈ tables_1, d.before a0 Z = true) (ws : List Jvm.Cond) (a1 : Addr) (a2 : Addr) (h0 : Heap) (n0 : Nat) (Z0 : n0 ≤ h0.size) (E2 : Exa Z h0 a2 "java/lang/Integer") :
    MetFree l (⟨"com/example/brevi/brevi/bdd/Bdd", "equals", "(Ljava/lang/Object;)Z"⟩ : MethodName) (head1 (Jvm.Cond.code (⟨"com/example/brevi/brevi/bdd/Bdd", "equals", "(Ljava/lang/Object;)Z"⟩ : MethodName) prog_3_method_19_code 3 (some .boolean) :: ws) ({ frames := 0, cells := 0, slots := 0, locals := 0 } : Room)) (fun a U => a = #[(.ref a1), (.ref a2)] ∧ Z.Warmed39 U.vm ∧ U.heap = h0) (fun _ _ _ _ _ => True) (fun _ U o U' => ∃ v L, o = .returned v ∧ Q_rmE_i Z a1 a2 h0 n0 v U'.heap L ∧ FrameEnd U o U' L ({ frames := 0, cells := 0, slots := 0, locals := 0 } : Room).cells ({ frames := 0, cells := 0, slots := 0, locals := 0 } : Room).slots) := by
  refine MetFree.of_bodySF (plainFor_of_name pn_9) hisR ?_
  intro p e s m args below meth c s₁ Bd hml0 hP hK
  obtain ⟨rfl, hZ, hh⟩ := hP
  have hx := Bd.exec
  have hby := Bd.bytes
  have hml : c.maxLocals = 3 := hml0
  have hown : s.vm.findClass "com/example/brevi/brevi/bdd/Bdd" = some m.cls := findClass_of_methodNamed Bd.named
  have hnm := (name_of_methodNamed Bd.named Bd.method).1
  have X0 : Stand p l e ({ frames := 0, cells := 0, slots := 0, locals := 0 } : Room) s m #[(.ref a1), (.ref a2)] below meth c s₁ [] 0 0 := Stand.of_body Bd
  have e0 : s₁.heap = h0 := by rw [← hh, Bd.state]; rfl
  have N0 := Fr.nil n0
  have pre0 : ∀ t, Steps p.tables e below (s₁.setTop (mkF m 0 #[.val (.ref a1), .val (.ref a2), .unset] [])) t → Steps p.tables e below (s₁.setTop (entryFrame m #[(.ref a1), (.ref a2)] 3)) t := fun t k => castTop (ef_9_RR m a1 a2) k
  obtain ⟨T1, X1, e1, st1⟩ := instNo X0 hx hZ hown (hw _ (List.mem_of_getElem? (i := 78) rfl)) e0 E2 (own_ns_no (hw _ (List.mem_of_getElem? (i := 80) rfl)) (hw _ (List.mem_of_getElem? (i := 50) rfl)) (NS.step (hw _ (List.mem_of_getElem? (i := 80) rfl)) (NS.step (hw _ (List.mem_of_getElem? (i := 81) rfl)) (own_ns_root (hw _ (List.mem_of_getElem? (i := 82) rfl)) (hw _ (List.mem_of_getElem? (i := 50) rfl)) (by decide)) (by decide)) (by decide)) (by decide)) (g := (mkF m 1 #[.val (.ref a1), .val (.ref a2), .unset] [(.ref a2)])) rfl rfl (hb hby d9_1)
  obtain ⟨fs, hr, hrun, hended, hW, hsame⟩ := X1.leave (v := some (.int (0 : Int32))) (fun h => by rw [Bd.returns] at h; cases h)
  refine ⟨_, _, pre0 _ ?_, hrun, hended, _, _, rfl, ?_, ⟨_, rfl⟩, hW, hsame.mono (by decide) (by decide)⟩
  · show Steps p.tables e below (s₁.setTop (mkF m 0 #[.val (.ref a1), .val (.ref a2), .unset] [])) _
    refine XS.aloadN X0.here hx rfl (hb hby d9_0) rfl rfl ?_
    show Steps p.tables e below (s₁.setTop (mkF m 1 #[.val (.ref a1), .val (.ref a2), .unset] [(.ref a2)])) _
    refine st1 _ ?_
    show Steps p.tables e below (T1.setTop (mkF m 4 #[.val (.ref a1), .val (.ref a2), .unset] [(.int (0 : Int32))])) _
    refine XS.ifYes X1.here hx rfl (pc0 := 4) (pc' := 38) rfl (hb hby d9_4) rfl ((if0 _ _).trans (teq (by decide : (0 : Int32) = (0 : Int32))).1) (by decide) (by decide) ?_
    show Steps p.tables e below (T1.setTop (mkF m 38 #[.val (.ref a1), .val (.ref a2), .unset] [])) _
    refine XS.iconst X1.here hx rfl (hb hby d9_38) ?_
    show Steps p.tables e below (T1.setTop (mkF m 39 #[.val (.ref a1), .val (.ref a2), .unset] [(.int (0 : Int32))])) _
    exact retN X1 hx (t := .boolean) Bd.returns (by simp) (hb hby d9_39) hr
  · show Q_rmE_i Z a1 a2 h0 n0 _ T1.heap _
    rw [e1]
    exact ⟨rfl, N0, rfl⟩
theorem d9_7 : decode prog_3_method_19_code 7 = .ok (.aload_n 1, 1) := by decide +kernel
theorem d9_8 : decode prog_3_method_19_code 8 = .ok (.checkcast 8, 3) := by decide +kernel
theorem d9_11 : decode prog_3_method_19_code 11 = .ok (.astore_n 2, 1) := by decide +kernel
theorem d9_12 : decode prog_3_method_19_code 12 = .ok (.aload_n 2, 1) := by decide +kernel
theorem d9_13 : decode prog_3_method_19_code 13 = .ok (.getfield 7, 3) := by decide +kernel
theorem d9_16 : decode prog_3_method_19_code 16 = .ok (.aload_n 0, 1) := by decide +kernel
theorem d9_17 : decode prog_3_method_19_code 17 = .ok (.getfield 7, 3) := by decide +kernel
theorem d9_20 : decode prog_3_method_19_code 20 = .ok (.if_acmp .ne 18, 3) := by decide +kernel
def Q_rmE_m (Z : State) (a1 : Addr) (a2 : Addr) (m1 : Addr) (m2 : Addr) (n1 : Int32) (n2 : Int32) (h0 : Heap) (n0 : Nat) (v : Option Value) (h : Heap) (L : List Loc) : Prop := v = some (.int (0 : Int32)) ∧ Fr n0 L ∧ h = h0
set_option maxRecDepth 65536 in
set_option maxHeartbeats 40000000 in
theorem rmE_m (l : Launch) (Z : State) (a0 : Array Value) (hw : ∀ d ∈ tables_1, d.before a0 Z = true) (ws : List Jvm.Cond) (a1 : Addr) (a2 : Addr) (m1 : Addr) (m2 : Addr) (n1 : Int32) (n2 : Int32) (h0 : Heap) (n0 : Nat) (Z0 : n0 ≤ h0.size) (E2 : Exa Z h0 a2 "com/example/brevi/brevi/bdd/Bdd") (M1 : Fld Z h0 a1 "com/example/brevi/brevi/bdd/Bdd" "manager" "Lcom/example/brevi/brevi/bdd/BddManager;" (.ref m1)) (M2 : Fld Z h0 a2 "com/example/brevi/brevi/bdd/Bdd" "manager" "Lcom/example/brevi/brevi/bdd/BddManager;" (.ref m2)) (N1 : Fld Z h0 a1 "com/example/brevi/brevi/bdd/Bdd" "node" "I" (.int n1)) (N2 : Fld Z h0 a2 "com/example/brevi/brevi/bdd/Bdd" "node" "I" (.int n2)) (hm : ¬ (m2 = m1)) :
    MetFree l (⟨"com/example/brevi/brevi/bdd/Bdd", "equals", "(Ljava/lang/Object;)Z"⟩ : MethodName) (head1 (Jvm.Cond.code (⟨"com/example/brevi/brevi/bdd/Bdd", "equals", "(Ljava/lang/Object;)Z"⟩ : MethodName) prog_3_method_19_code 3 (some .boolean) :: ws) ({ frames := 0, cells := 0, slots := 0, locals := 0 } : Room)) (fun a U => a = #[(.ref a1), (.ref a2)] ∧ Z.Warmed39 U.vm ∧ U.heap = h0) (fun _ _ _ _ _ => True) (fun _ U o U' => ∃ v L, o = .returned v ∧ Q_rmE_m Z a1 a2 m1 m2 n1 n2 h0 n0 v U'.heap L ∧ FrameEnd U o U' L ({ frames := 0, cells := 0, slots := 0, locals := 0 } : Room).cells ({ frames := 0, cells := 0, slots := 0, locals := 0 } : Room).slots) := by
  refine MetFree.of_bodySF (plainFor_of_name pn_9) hisR ?_
  intro p e s m args below meth c s₁ Bd hml0 hP hK
  obtain ⟨rfl, hZ, hh⟩ := hP
  have hx := Bd.exec
  have hby := Bd.bytes
  have hml : c.maxLocals = 3 := hml0
  have hown : s.vm.findClass "com/example/brevi/brevi/bdd/Bdd" = some m.cls := findClass_of_methodNamed Bd.named
  have hnm := (name_of_methodNamed Bd.named Bd.method).1
  have X0 : Stand p l e ({ frames := 0, cells := 0, slots := 0, locals := 0 } : Room) s m #[(.ref a1), (.ref a2)] below meth c s₁ [] 0 0 := Stand.of_body Bd
  have e0 : s₁.heap = h0 := by rw [← hh, Bd.state]; rfl
  have N0 := Fr.nil n0
  have pre0 : ∀ t, Steps p.tables e below (s₁.setTop (mkF m 0 #[.val (.ref a1), .val (.ref a2), .unset] [])) t → Steps p.tables e below (s₁.setTop (entryFrame m #[(.ref a1), (.ref a2)] 3)) t := fun t k => castTop (ef_9_RR m a1 a2) k
  obtain ⟨T1, X1, e1, st1⟩ := instY X0 hx hZ hown (hw _ (List.mem_of_getElem? (i := 78) rfl)) e0 (Ins.self E2) (g := (mkF m 1 #[.val (.ref a1), .val (.ref a2), .unset] [(.ref a2)])) rfl rfl (hb hby d9_1)
  obtain ⟨T2, X2, e2, st2⟩ := castY X1 hx hZ hown (hw _ (List.mem_of_getElem? (i := 78) rfl)) e1 (Ins.self E2) (g := (mkF m 8 #[.val (.ref a1), .val (.ref a2), .unset] [(.ref a2)])) rfl rfl (hb hby d9_8)
  obtain ⟨T3, X3, e3, st3⟩ := getF X2 hx hZ hown (host := "") (Or.inl (hw _ (List.mem_of_getElem? (i := 56) rfl))) Via.refl e2 M2 (g := (mkF m 13 #[.val (.ref a1), .val (.ref a2), .val (.ref a2)] [(.ref a2)])) rfl rfl (hb hby d9_13)
  obtain ⟨T4, X4, e4, st4⟩ := getF X3 hx hZ hown (host := "") (Or.inl (hw _ (List.mem_of_getElem? (i := 56) rfl))) Via.refl e3 M1 (g := (mkF m 17 #[.val (.ref a1), .val (.ref a2), .val (.ref a2)] [(.ref a1), (.ref m2)])) rfl rfl (hb hby d9_17)
  obtain ⟨fs, hr, hrun, hended, hW, hsame⟩ := X4.leave (v := some (.int (0 : Int32))) (fun h => by rw [Bd.returns] at h; cases h)
  refine ⟨_, _, pre0 _ ?_, hrun, hended, _, _, rfl, ?_, ⟨_, rfl⟩, hW, hsame.mono (by decide) (by decide)⟩
  · show Steps p.tables e below (s₁.setTop (mkF m 0 #[.val (.ref a1), .val (.ref a2), .unset] [])) _
    refine XS.aloadN X0.here hx rfl (hb hby d9_0) rfl rfl ?_
    show Steps p.tables e below (s₁.setTop (mkF m 1 #[.val (.ref a1), .val (.ref a2), .unset] [(.ref a2)])) _
    refine st1 _ ?_
    show Steps p.tables e below (T1.setTop (mkF m 4 #[.val (.ref a1), .val (.ref a2), .unset] [(.int (1 : Int32))])) _
    refine XS.ifNo X1.here hx rfl (hb hby d9_4) rfl ((if0 _ _).trans (feq (by decide : ¬ ((1 : Int32) = (0 : Int32)))).1) ?_
    show Steps p.tables e below (T1.setTop (mkF m 7 #[.val (.ref a1), .val (.ref a2), .unset] [])) _
    refine XS.aloadN X1.here hx rfl (hb hby d9_7) rfl rfl ?_
    show Steps p.tables e below (T1.setTop (mkF m 8 #[.val (.ref a1), .val (.ref a2), .unset] [(.ref a2)])) _
    refine st2 _ ?_
    show Steps p.tables e below (T2.setTop (mkF m 11 #[.val (.ref a1), .val (.ref a2), .unset] [(.ref a2)])) _
    refine XS.astoreN X2.here hx rfl (hb hby d9_11) rfl rfl (l' := #[.val (.ref a1), .val (.ref a2), .val (.ref a2)]) rfl ?_
    show Steps p.tables e below (T2.setTop (mkF m 12 #[.val (.ref a1), .val (.ref a2), .val (.ref a2)] [])) _
    refine XS.aloadN X2.here hx rfl (hb hby d9_12) rfl rfl ?_
    show Steps p.tables e below (T2.setTop (mkF m 13 #[.val (.ref a1), .val (.ref a2), .val (.ref a2)] [(.ref a2)])) _
    refine st3 _ ?_
    show Steps p.tables e below (T3.setTop (mkF m 16 #[.val (.ref a1), .val (.ref a2), .val (.ref a2)] [(.ref m2)])) _
    refine XS.aloadN X3.here hx rfl (hb hby d9_16) rfl rfl ?_
    show Steps p.tables e below (T3.setTop (mkF m 17 #[.val (.ref a1), .val (.ref a2), .val (.ref a2)] [(.ref a1), (.ref m2)])) _
    refine st4 _ ?_
    show Steps p.tables e below (T4.setTop (mkF m 20 #[.val (.ref a1), .val (.ref a2), .val (.ref a2)] [(.ref m1), (.ref m2)])) _
    refine Jvm.RoadKit.acmp (g := (mkF m 20 #[.val (.ref a1), .val (.ref a2), .val (.ref a2)] [(.ref m1), (.ref m2)])) X4 hx rfl rfl rfl (pc0 := 20) (pc' := 38) (same := false) rfl (hb hby d9_20) rfl (decide_eq_false fun q => hm (Value.ref.inj q)) (by decide) (by decide) ?_
    show Steps p.tables e below (T4.setTop (mkF m 38 #[.val (.ref a1), .val (.ref a2), .val (.ref a2)] [])) _
    refine XS.iconst X4.here hx rfl (hb hby d9_38) ?_
    show Steps p.tables e below (T4.setTop (mkF m 39 #[.val (.ref a1), .val (.ref a2), .val (.ref a2)] [(.int (0 : Int32))])) _
    exact retN X4 hx (t := .boolean) Bd.returns (by simp) (hb hby d9_39) hr
  · show Q_rmE_m Z a1 a2 m1 m2 n1 n2 h0 n0 _ T4.heap _
    rw [e4]
    exact ⟨rfl, N0, rfl⟩
theorem d9_23 : decode prog_3_method_19_code 23 = .ok (.aload_n 2, 1) := by decide +kernel
theorem d9_24 : decode prog_3_method_19_code 24 = .ok (.getfield 13, 3) := by decide +kernel
theorem d9_27 : decode prog_3_method_19_code 27 = .ok (.aload_n 0, 1) := by decide +kernel
theorem d9_28 : decode prog_3_method_19_code 28 = .ok (.getfield 13, 3) := by decide +kernel
theorem d9_31 : decode prog_3_method_19_code 31 = .ok (.if_icmp .ne 7, 3) := by decide +kernel
def Q_rmE_d (Z : State) (a1 : Addr) (a2 : Addr) (m1 : Addr) (m2 : Addr) (n1 : Int32) (n2 : Int32) (h0 : Heap) (n0 : Nat) (v : Option Value) (h : Heap) (L : List Loc) : Prop := v = some (.int (0 : Int32)) ∧ Fr n0 L ∧ h = h0
set_option maxRecDepth 65536 in
set_option maxHeartbeats 40000000 in
theorem rmE_d (l : Launch) (Z : State) (a0 : Array Value) (hw : ∀ d ∈ tables_1, d.before a0 Z = true) (ws : List Jvm.Cond) (a1 : Addr) (a2 : Addr) (m1 : Addr) (m2 : Addr) (n1 : Int32) (n2 : Int32) (h0 : Heap) (n0 : Nat) (Z0 : n0 ≤ h0.size) (E2 : Exa Z h0 a2 "com/example/brevi/brevi/bdd/Bdd") (M1 : Fld Z h0 a1 "com/example/brevi/brevi/bdd/Bdd" "manager" "Lcom/example/brevi/brevi/bdd/BddManager;" (.ref m1)) (M2 : Fld Z h0 a2 "com/example/brevi/brevi/bdd/Bdd" "manager" "Lcom/example/brevi/brevi/bdd/BddManager;" (.ref m2)) (N1 : Fld Z h0 a1 "com/example/brevi/brevi/bdd/Bdd" "node" "I" (.int n1)) (N2 : Fld Z h0 a2 "com/example/brevi/brevi/bdd/Bdd" "node" "I" (.int n2)) (hm : m2 = m1) (hd : ¬ (n2 = n1)) :
    MetFree l (⟨"com/example/brevi/brevi/bdd/Bdd", "equals", "(Ljava/lang/Object;)Z"⟩ : MethodName) (head1 (Jvm.Cond.code (⟨"com/example/brevi/brevi/bdd/Bdd", "equals", "(Ljava/lang/Object;)Z"⟩ : MethodName) prog_3_method_19_code 3 (some .boolean) :: ws) ({ frames := 0, cells := 0, slots := 0, locals := 0 } : Room)) (fun a U => a = #[(.ref a1), (.ref a2)] ∧ Z.Warmed39 U.vm ∧ U.heap = h0) (fun _ _ _ _ _ => True) (fun _ U o U' => ∃ v L, o = .returned v ∧ Q_rmE_d Z a1 a2 m1 m2 n1 n2 h0 n0 v U'.heap L ∧ FrameEnd U o U' L ({ frames := 0, cells := 0, slots := 0, locals := 0 } : Room).cells ({ frames := 0, cells := 0, slots := 0, locals := 0 } : Room).slots) := by
  refine MetFree.of_bodySF (plainFor_of_name pn_9) hisR ?_
  intro p e s m args below meth c s₁ Bd hml0 hP hK
  obtain ⟨rfl, hZ, hh⟩ := hP
  have hx := Bd.exec
  have hby := Bd.bytes
  have hml : c.maxLocals = 3 := hml0
  have hown : s.vm.findClass "com/example/brevi/brevi/bdd/Bdd" = some m.cls := findClass_of_methodNamed Bd.named
  have hnm := (name_of_methodNamed Bd.named Bd.method).1
  have X0 : Stand p l e ({ frames := 0, cells := 0, slots := 0, locals := 0 } : Room) s m #[(.ref a1), (.ref a2)] below meth c s₁ [] 0 0 := Stand.of_body Bd
  have e0 : s₁.heap = h0 := by rw [← hh, Bd.state]; rfl
  have N0 := Fr.nil n0
  have pre0 : ∀ t, Steps p.tables e below (s₁.setTop (mkF m 0 #[.val (.ref a1), .val (.ref a2), .unset] [])) t → Steps p.tables e below (s₁.setTop (entryFrame m #[(.ref a1), (.ref a2)] 3)) t := fun t k => castTop (ef_9_RR m a1 a2) k
  obtain ⟨T1, X1, e1, st1⟩ := instY X0 hx hZ hown (hw _ (List.mem_of_getElem? (i := 78) rfl)) e0 (Ins.self E2) (g := (mkF m 1 #[.val (.ref a1), .val (.ref a2), .unset] [(.ref a2)])) rfl rfl (hb hby d9_1)
  obtain ⟨T2, X2, e2, st2⟩ := castY X1 hx hZ hown (hw _ (List.mem_of_getElem? (i := 78) rfl)) e1 (Ins.self E2) (g := (mkF m 8 #[.val (.ref a1), .val (.ref a2), .unset] [(.ref a2)])) rfl rfl (hb hby d9_8)
  obtain ⟨T3, X3, e3, st3⟩ := getF X2 hx hZ hown (host := "") (Or.inl (hw _ (List.mem_of_getElem? (i := 56) rfl))) Via.refl e2 M2 (g := (mkF m 13 #[.val (.ref a1), .val (.ref a2), .val (.ref a2)] [(.ref a2)])) rfl rfl (hb hby d9_13)
  obtain ⟨T4, X4, e4, st4⟩ := getF X3 hx hZ hown (host := "") (Or.inl (hw _ (List.mem_of_getElem? (i := 56) rfl))) Via.refl e3 M1 (g := (mkF m 17 #[.val (.ref a1), .val (.ref a2), .val (.ref a2)] [(.ref a1), (.ref m2)])) rfl rfl (hb hby d9_17)
  obtain ⟨T5, X5, e5, st5⟩ := getF X4 hx hZ hown (host := "") (Or.inl (hw _ (List.mem_of_getElem? (i := 58) rfl))) Via.refl e4 N2 (g := (mkF m 24 #[.val (.ref a1), .val (.ref a2), .val (.ref a2)] [(.ref a2)])) rfl rfl (hb hby d9_24)
  obtain ⟨T6, X6, e6, st6⟩ := getF X5 hx hZ hown (host := "") (Or.inl (hw _ (List.mem_of_getElem? (i := 58) rfl))) Via.refl e5 N1 (g := (mkF m 28 #[.val (.ref a1), .val (.ref a2), .val (.ref a2)] [(.ref a1), (.int n2)])) rfl rfl (hb hby d9_28)
  obtain ⟨fs, hr, hrun, hended, hW, hsame⟩ := X6.leave (v := some (.int (0 : Int32))) (fun h => by rw [Bd.returns] at h; cases h)
  refine ⟨_, _, pre0 _ ?_, hrun, hended, _, _, rfl, ?_, ⟨_, rfl⟩, hW, hsame.mono (by decide) (by decide)⟩
  · show Steps p.tables e below (s₁.setTop (mkF m 0 #[.val (.ref a1), .val (.ref a2), .unset] [])) _
    refine XS.aloadN X0.here hx rfl (hb hby d9_0) rfl rfl ?_
    show Steps p.tables e below (s₁.setTop (mkF m 1 #[.val (.ref a1), .val (.ref a2), .unset] [(.ref a2)])) _
    refine st1 _ ?_
    show Steps p.tables e below (T1.setTop (mkF m 4 #[.val (.ref a1), .val (.ref a2), .unset] [(.int (1 : Int32))])) _
    refine XS.ifNo X1.here hx rfl (hb hby d9_4) rfl ((if0 _ _).trans (feq (by decide : ¬ ((1 : Int32) = (0 : Int32)))).1) ?_
    show Steps p.tables e below (T1.setTop (mkF m 7 #[.val (.ref a1), .val (.ref a2), .unset] [])) _
    refine XS.aloadN X1.here hx rfl (hb hby d9_7) rfl rfl ?_
    show Steps p.tables e below (T1.setTop (mkF m 8 #[.val (.ref a1), .val (.ref a2), .unset] [(.ref a2)])) _
    refine st2 _ ?_
    show Steps p.tables e below (T2.setTop (mkF m 11 #[.val (.ref a1), .val (.ref a2), .unset] [(.ref a2)])) _
    refine XS.astoreN X2.here hx rfl (hb hby d9_11) rfl rfl (l' := #[.val (.ref a1), .val (.ref a2), .val (.ref a2)]) rfl ?_
    show Steps p.tables e below (T2.setTop (mkF m 12 #[.val (.ref a1), .val (.ref a2), .val (.ref a2)] [])) _
    refine XS.aloadN X2.here hx rfl (hb hby d9_12) rfl rfl ?_
    show Steps p.tables e below (T2.setTop (mkF m 13 #[.val (.ref a1), .val (.ref a2), .val (.ref a2)] [(.ref a2)])) _
    refine st3 _ ?_
    show Steps p.tables e below (T3.setTop (mkF m 16 #[.val (.ref a1), .val (.ref a2), .val (.ref a2)] [(.ref m2)])) _
    refine XS.aloadN X3.here hx rfl (hb hby d9_16) rfl rfl ?_
    show Steps p.tables e below (T3.setTop (mkF m 17 #[.val (.ref a1), .val (.ref a2), .val (.ref a2)] [(.ref a1), (.ref m2)])) _
    refine st4 _ ?_
    show Steps p.tables e below (T4.setTop (mkF m 20 #[.val (.ref a1), .val (.ref a2), .val (.ref a2)] [(.ref m1), (.ref m2)])) _
    refine Jvm.RoadKit.acmp (g := (mkF m 20 #[.val (.ref a1), .val (.ref a2), .val (.ref a2)] [(.ref m1), (.ref m2)])) X4 hx rfl rfl rfl (pc0 := 20) (pc' := 23) (same := true) rfl (hb hby d9_20) rfl (decide_eq_true (congrArg Value.ref hm)) (by decide) (by decide) ?_
    show Steps p.tables e below (T4.setTop (mkF m 23 #[.val (.ref a1), .val (.ref a2), .val (.ref a2)] [])) _
    refine XS.aloadN X4.here hx rfl (hb hby d9_23) rfl rfl ?_
    show Steps p.tables e below (T4.setTop (mkF m 24 #[.val (.ref a1), .val (.ref a2), .val (.ref a2)] [(.ref a2)])) _
    refine st5 _ ?_
    show Steps p.tables e below (T5.setTop (mkF m 27 #[.val (.ref a1), .val (.ref a2), .val (.ref a2)] [(.int n2)])) _
    refine XS.aloadN X5.here hx rfl (hb hby d9_27) rfl rfl ?_
    show Steps p.tables e below (T5.setTop (mkF m 28 #[.val (.ref a1), .val (.ref a2), .val (.ref a2)] [(.ref a1), (.int n2)])) _
    refine st6 _ ?_
    show Steps p.tables e below (T6.setTop (mkF m 31 #[.val (.ref a1), .val (.ref a2), .val (.ref a2)] [(.int n1), (.int n2)])) _
    refine XS.icmpYes X6.here hx rfl (pc0 := 31) (pc' := 38) rfl (hb hby d9_31) rfl (feq hd).2 (by decide) (by decide) ?_
    show Steps p.tables e below (T6.setTop (mkF m 38 #[.val (.ref a1), .val (.ref a2), .val (.ref a2)] [])) _
    refine XS.iconst X6.here hx rfl (hb hby d9_38) ?_
    show Steps p.tables e below (T6.setTop (mkF m 39 #[.val (.ref a1), .val (.ref a2), .val (.ref a2)] [(.int (0 : Int32))])) _
    exact retN X6 hx (t := .boolean) Bd.returns (by simp) (hb hby d9_39) hr
  · show Q_rmE_d Z a1 a2 m1 m2 n1 n2 h0 n0 _ T6.heap _
    rw [e6]
    exact ⟨rfl, N0, rfl⟩
theorem d9_34 : decode prog_3_method_19_code 34 = .ok (.iconst 1, 1) := by decide +kernel
theorem d9_35 : decode prog_3_method_19_code 35 = .ok (.goto 4, 3) := by decide +kernel
def Q_rmE_e (Z : State) (a1 : Addr) (a2 : Addr) (m1 : Addr) (m2 : Addr) (n1 : Int32) (n2 : Int32) (h0 : Heap) (n0 : Nat) (v : Option Value) (h : Heap) (L : List Loc) : Prop := v = some (.int (1 : Int32)) ∧ Fr n0 L ∧ h = h0
set_option maxRecDepth 65536 in
set_option maxHeartbeats 40000000 in
theorem rmE_e (l : Launch) (Z : State) (a0 : Array Value) (hw : ∀ d ∈ tables_1, d.before a0 Z = true) (ws : List Jvm.Cond) (a1 : Addr) (a2 : Addr) (m1 : Addr) (m2 : Addr) (n1 : Int32) (n2 : Int32) (h0 : Heap) (n0 : Nat) (Z0 : n0 ≤ h0.size) (E2 : Exa Z h0 a2 "com/example/brevi/brevi/bdd/Bdd") (M1 : Fld Z h0 a1 "com/example/brevi/brevi/bdd/Bdd" "manager" "Lcom/example/brevi/brevi/bdd/BddManager;" (.ref m1)) (M2 : Fld Z h0 a2 "com/example/brevi/brevi/bdd/Bdd" "manager" "Lcom/example/brevi/brevi/bdd/BddManager;" (.ref m2)) (N1 : Fld Z h0 a1 "com/example/brevi/brevi/bdd/Bdd" "node" "I" (.int n1)) (N2 : Fld Z h0 a2 "com/example/brevi/brevi/bdd/Bdd" "node" "I" (.int n2)) (hm : m2 = m1) (hd : n2 = n1) :
    MetFree l (⟨"com/example/brevi/brevi/bdd/Bdd", "equals", "(Ljava/lang/Object;)Z"⟩ : MethodName) (head1 (Jvm.Cond.code (⟨"com/example/brevi/brevi/bdd/Bdd", "equals", "(Ljava/lang/Object;)Z"⟩ : MethodName) prog_3_method_19_code 3 (some .boolean) :: ws) ({ frames := 0, cells := 0, slots := 0, locals := 0 } : Room)) (fun a U => a = #[(.ref a1), (.ref a2)] ∧ Z.Warmed39 U.vm ∧ U.heap = h0) (fun _ _ _ _ _ => True) (fun _ U o U' => ∃ v L, o = .returned v ∧ Q_rmE_e Z a1 a2 m1 m2 n1 n2 h0 n0 v U'.heap L ∧ FrameEnd U o U' L ({ frames := 0, cells := 0, slots := 0, locals := 0 } : Room).cells ({ frames := 0, cells := 0, slots := 0, locals := 0 } : Room).slots) := by
  refine MetFree.of_bodySF (plainFor_of_name pn_9) hisR ?_
  intro p e s m args below meth c s₁ Bd hml0 hP hK
  obtain ⟨rfl, hZ, hh⟩ := hP
  have hx := Bd.exec
  have hby := Bd.bytes
  have hml : c.maxLocals = 3 := hml0
  have hown : s.vm.findClass "com/example/brevi/brevi/bdd/Bdd" = some m.cls := findClass_of_methodNamed Bd.named
  have hnm := (name_of_methodNamed Bd.named Bd.method).1
  have X0 : Stand p l e ({ frames := 0, cells := 0, slots := 0, locals := 0 } : Room) s m #[(.ref a1), (.ref a2)] below meth c s₁ [] 0 0 := Stand.of_body Bd
  have e0 : s₁.heap = h0 := by rw [← hh, Bd.state]; rfl
  have N0 := Fr.nil n0
  have pre0 : ∀ t, Steps p.tables e below (s₁.setTop (mkF m 0 #[.val (.ref a1), .val (.ref a2), .unset] [])) t → Steps p.tables e below (s₁.setTop (entryFrame m #[(.ref a1), (.ref a2)] 3)) t := fun t k => castTop (ef_9_RR m a1 a2) k
  obtain ⟨T1, X1, e1, st1⟩ := instY X0 hx hZ hown (hw _ (List.mem_of_getElem? (i := 78) rfl)) e0 (Ins.self E2) (g := (mkF m 1 #[.val (.ref a1), .val (.ref a2), .unset] [(.ref a2)])) rfl rfl (hb hby d9_1)
  obtain ⟨T2, X2, e2, st2⟩ := castY X1 hx hZ hown (hw _ (List.mem_of_getElem? (i := 78) rfl)) e1 (Ins.self E2) (g := (mkF m 8 #[.val (.ref a1), .val (.ref a2), .unset] [(.ref a2)])) rfl rfl (hb hby d9_8)
  obtain ⟨T3, X3, e3, st3⟩ := getF X2 hx hZ hown (host := "") (Or.inl (hw _ (List.mem_of_getElem? (i := 56) rfl))) Via.refl e2 M2 (g := (mkF m 13 #[.val (.ref a1), .val (.ref a2), .val (.ref a2)] [(.ref a2)])) rfl rfl (hb hby d9_13)
  obtain ⟨T4, X4, e4, st4⟩ := getF X3 hx hZ hown (host := "") (Or.inl (hw _ (List.mem_of_getElem? (i := 56) rfl))) Via.refl e3 M1 (g := (mkF m 17 #[.val (.ref a1), .val (.ref a2), .val (.ref a2)] [(.ref a1), (.ref m2)])) rfl rfl (hb hby d9_17)
  obtain ⟨T5, X5, e5, st5⟩ := getF X4 hx hZ hown (host := "") (Or.inl (hw _ (List.mem_of_getElem? (i := 58) rfl))) Via.refl e4 N2 (g := (mkF m 24 #[.val (.ref a1), .val (.ref a2), .val (.ref a2)] [(.ref a2)])) rfl rfl (hb hby d9_24)
  obtain ⟨T6, X6, e6, st6⟩ := getF X5 hx hZ hown (host := "") (Or.inl (hw _ (List.mem_of_getElem? (i := 58) rfl))) Via.refl e5 N1 (g := (mkF m 28 #[.val (.ref a1), .val (.ref a2), .val (.ref a2)] [(.ref a1), (.int n2)])) rfl rfl (hb hby d9_28)
  obtain ⟨fs, hr, hrun, hended, hW, hsame⟩ := X6.leave (v := some (.int (1 : Int32))) (fun h => by rw [Bd.returns] at h; cases h)
  refine ⟨_, _, pre0 _ ?_, hrun, hended, _, _, rfl, ?_, ⟨_, rfl⟩, hW, hsame.mono (by decide) (by decide)⟩
  · show Steps p.tables e below (s₁.setTop (mkF m 0 #[.val (.ref a1), .val (.ref a2), .unset] [])) _
    refine XS.aloadN X0.here hx rfl (hb hby d9_0) rfl rfl ?_
    show Steps p.tables e below (s₁.setTop (mkF m 1 #[.val (.ref a1), .val (.ref a2), .unset] [(.ref a2)])) _
    refine st1 _ ?_
    show Steps p.tables e below (T1.setTop (mkF m 4 #[.val (.ref a1), .val (.ref a2), .unset] [(.int (1 : Int32))])) _
    refine XS.ifNo X1.here hx rfl (hb hby d9_4) rfl ((if0 _ _).trans (feq (by decide : ¬ ((1 : Int32) = (0 : Int32)))).1) ?_
    show Steps p.tables e below (T1.setTop (mkF m 7 #[.val (.ref a1), .val (.ref a2), .unset] [])) _
    refine XS.aloadN X1.here hx rfl (hb hby d9_7) rfl rfl ?_
    show Steps p.tables e below (T1.setTop (mkF m 8 #[.val (.ref a1), .val (.ref a2), .unset] [(.ref a2)])) _
    refine st2 _ ?_
    show Steps p.tables e below (T2.setTop (mkF m 11 #[.val (.ref a1), .val (.ref a2), .unset] [(.ref a2)])) _
    refine XS.astoreN X2.here hx rfl (hb hby d9_11) rfl rfl (l' := #[.val (.ref a1), .val (.ref a2), .val (.ref a2)]) rfl ?_
    show Steps p.tables e below (T2.setTop (mkF m 12 #[.val (.ref a1), .val (.ref a2), .val (.ref a2)] [])) _
    refine XS.aloadN X2.here hx rfl (hb hby d9_12) rfl rfl ?_
    show Steps p.tables e below (T2.setTop (mkF m 13 #[.val (.ref a1), .val (.ref a2), .val (.ref a2)] [(.ref a2)])) _
    refine st3 _ ?_
    show Steps p.tables e below (T3.setTop (mkF m 16 #[.val (.ref a1), .val (.ref a2), .val (.ref a2)] [(.ref m2)])) _
    refine XS.aloadN X3.here hx rfl (hb hby d9_16) rfl rfl ?_
    show Steps p.tables e below (T3.setTop (mkF m 17 #[.val (.ref a1), .val (.ref a2), .val (.ref a2)] [(.ref a1), (.ref m2)])) _
    refine st4 _ ?_
    show Steps p.tables e below (T4.setTop (mkF m 20 #[.val (.ref a1), .val (.ref a2), .val (.ref a2)] [(.ref m1), (.ref m2)])) _
    refine Jvm.RoadKit.acmp (g := (mkF m 20 #[.val (.ref a1), .val (.ref a2), .val (.ref a2)] [(.ref m1), (.ref m2)])) X4 hx rfl rfl rfl (pc0 := 20) (pc' := 23) (same := true) rfl (hb hby d9_20) rfl (decide_eq_true (congrArg Value.ref hm)) (by decide) (by decide) ?_
    show Steps p.tables e below (T4.setTop (mkF m 23 #[.val (.ref a1), .val (.ref a2), .val (.ref a2)] [])) _
    refine XS.aloadN X4.here hx rfl (hb hby d9_23) rfl rfl ?_
    show Steps p.tables e below (T4.setTop (mkF m 24 #[.val (.ref a1), .val (.ref a2), .val (.ref a2)] [(.ref a2)])) _
    refine st5 _ ?_
    show Steps p.tables e below (T5.setTop (mkF m 27 #[.val (.ref a1), .val (.ref a2), .val (.ref a2)] [(.int n2)])) _
    refine XS.aloadN X5.here hx rfl (hb hby d9_27) rfl rfl ?_
    show Steps p.tables e below (T5.setTop (mkF m 28 #[.val (.ref a1), .val (.ref a2), .val (.ref a2)] [(.ref a1), (.int n2)])) _
    refine st6 _ ?_
    show Steps p.tables e below (T6.setTop (mkF m 31 #[.val (.ref a1), .val (.ref a2), .val (.ref a2)] [(.int n1), (.int n2)])) _
    refine XS.icmpNo X6.here hx rfl (hb hby d9_31) rfl (teq hd).2 ?_
    show Steps p.tables e below (T6.setTop (mkF m 34 #[.val (.ref a1), .val (.ref a2), .val (.ref a2)] [])) _
    refine XS.iconst X6.here hx rfl (hb hby d9_34) ?_
    show Steps p.tables e below (T6.setTop (mkF m 35 #[.val (.ref a1), .val (.ref a2), .val (.ref a2)] [(.int (1 : Int32))])) _
    refine XS.goto X6.here hx rfl (pc0 := 35) (pc' := 39) rfl (hb hby d9_35) (by decide) (by decide) ?_
    show Steps p.tables e below (T6.setTop (mkF m 39 #[.val (.ref a1), .val (.ref a2), .val (.ref a2)] [(.int (1 : Int32))])) _
    exact retN X6 hx (t := .boolean) Bd.returns (by simp) (hb hby d9_39) hr
  · show Q_rmE_e Z a1 a2 m1 m2 n1 n2 h0 n0 _ T6.heap _
    rw [e6]
    exact ⟨rfl, N0, rfl⟩
theorem pn_0 : plainName "com/example/brevi/brevi/bdd/BddEqualsPinLaw" = true := by first | (simp [plainName, overriddenIn]; done) | decide +kernel
theorem ef_0_III (m : MethodId) (x0 : Int32) (x1 : Int32) (x2 : Int32) : entryFrame m #[(.int x0), (.int x1), (.int x2)] maxLocals = mkF m 0 #[.val (.int x0), .val (.int x1), .val (.int x2), .unset, .unset, .unset, .unset, .unset, .unset, .unset, .unset, .unset, .unset, .unset] [] := by first | (simp [entryFrame, mkF, argsToLocals, Value.category, maxLocals]; done) | rfl
theorem pd_5 : parseMethodDescriptor "(I)Ljava/lang/Integer;" = some ⟨[.int], some (.object "java/lang/Integer")⟩ := by decide +kernel
theorem pd_6 : parseMethodDescriptor "(Ljava/lang/Object;)Z" = some ⟨[(.object "java/lang/Object")], some .boolean⟩ := by decide +kernel
def Q_rm0 (Z : State) (p1 : Int32) (p2 : Int32) (p3 : Int32) (ca : Addr) (h0 : Heap) (n0 : Nat) (v : Option Value) (h : Heap) (L : List Loc) : Prop := v = some (.int (1 : Int32)) ∧ Fr n0 L
set_option maxRecDepth 65536 in
set_option maxHeartbeats 40000000 in
theorem rm0 (l : Launch) (Z : State) (a0 : Array Value) (hw : ∀ d ∈ tables_1, d.before a0 Z = true) (ws : List Jvm.Cond) (p1 : Int32) (p2 : Int32) (p3 : Int32) (ca : Addr) (h0 : Heap) (n0 : Nat) (Z0 : n0 ≤ h0.size) (S_hi : Sta Z h0 "java/lang/Integer$IntegerCache" "high" "I" (.int (127 : Int32))) (S_ca : Sta Z h0 "java/lang/Integer$IntegerCache" "cache" "[Ljava/lang/Integer;" (.ref ca)) (C0 : own_cache Z h0 ca) :
    MetFree l x (head1 (Jvm.Cond.code x code maxLocals ret :: ws) room_1) (fun a U => a = #[(.int p1), (.int p2), (.int p3)] ∧ Z.Warmed39 U.vm ∧ U.heap = h0) (fun _ _ _ _ _ => True) (fun _ U o U' => ∃ v L, o = .returned v ∧ Q_rm0 Z p1 p2 p3 ca h0 n0 v U'.heap L ∧ FrameEnd U o U' L room_1.cells room_1.slots) := by
  refine MetFree.of_bodySF (plainFor_of_name pn_0) hisR ?_
  intro p e s m args below meth c s₁ Bd hml0 hP hK
  obtain ⟨rfl, hZ, hh⟩ := hP
  have hx := Bd.exec
  have hby := Bd.bytes
  have hml : c.maxLocals = 14 := hml0
  have hown : s.vm.findClass "com/example/brevi/brevi/bdd/BddEqualsPinLaw" = some m.cls := findClass_of_methodNamed Bd.named
  have hnm := (name_of_methodNamed Bd.named Bd.method).1
  have X0 : Stand p l e room_1 s m #[(.int p1), (.int p2), (.int p3)] below meth c s₁ [] 0 0 := Stand.of_body Bd
  have e0 : s₁.heap = h0 := by rw [← hh, Bd.state]; rfl
  have N0 := Fr.nil n0
  have pre0 : ∀ t, Steps p.tables e below (s₁.setTop (mkF m 0 #[.val (.int p1), .val (.int p2), .val (.int p3), .unset, .unset, .unset, .unset, .unset, .unset, .unset, .unset, .unset, .unset, .unset] [])) t → Steps p.tables e below (s₁.setTop (entryFrame m #[(.int p1), (.int p2), (.int p3)] maxLocals)) t := fun t k => castTop (ef_0_III m p1 p2 p3) k
  by_cases hs1 : (p3 &&& (1 : Int32)) = (0 : Int32)
  · by_cases hs2 : (p3 &&& (2 : Int32)) = (0 : Int32)
    · obtain ⟨T1, h1, X1, e1, E1, A1, D1, -, st1⟩ := newO X0 hx hZ hown (hw _ (List.mem_of_getElem? (i := 0) rfl)) (hw _ (List.mem_of_getElem? (i := 1) rfl)) (hw _ (List.mem_of_getElem? (i := 2) rfl)) e0 (g := (mkF m 0 #[.val (.int p1), .val (.int p2), .val (.int p3), .unset, .unset, .unset, .unset, .unset, .unset, .unset, .unset, .unset, .unset, .unset] [])) rfl (hb hby at_0) (by decide) (by decide)
      obtain ⟨b1, g1⟩ : ∃ z, z = h0.size := ⟨_, rfl⟩
      rw [← g1] at A1 D1 st1
      have ge_b1 : n0 ≤ b1 := Nat.le_trans Z0 (Nat.le_of_eq g1.symm)
      have sz_b1 : h0.size ≤ b1 := Nat.le_trans (Keep.refl h0 []).1 (Nat.le_of_eq g1.symm)
      have Z1 : n0 ≤ h1.size := Nat.le_trans Z0 E1.1
      have Kp1 : Keep h0 h1 [] := (Keep.refl h0 []).ext E1
      have F_variableOf_b1 : Fld Z h1 b1 "com/example/brevi/brevi/bdd/BddManager" "variableOf" "[I" .null := D1 (Or.inl (hw _ (List.mem_of_getElem? (i := 15) rfl))) (ty := (.array .int)) (by decide)
      have F_lowOf_b1 : Fld Z h1 b1 "com/example/brevi/brevi/bdd/BddManager" "lowOf" "[I" .null := D1 (Or.inl (hw _ (List.mem_of_getElem? (i := 17) rfl))) (ty := (.array .int)) (by decide)
      have F_highOf_b1 : Fld Z h1 b1 "com/example/brevi/brevi/bdd/BddManager" "highOf" "[I" .null := D1 (Or.inl (hw _ (List.mem_of_getElem? (i := 19) rfl))) (ty := (.array .int)) (by decide)
      have F_nextInBucket_b1 : Fld Z h1 b1 "com/example/brevi/brevi/bdd/BddManager" "nextInBucket" "[I" .null := D1 (Or.inl (hw _ (List.mem_of_getElem? (i := 21) rfl))) (ty := (.array .int)) (by decide)
      have F_bucketHead_b1 : Fld Z h1 b1 "com/example/brevi/brevi/bdd/BddManager" "bucketHead" "[I" .null := D1 (Or.inl (hw _ (List.mem_of_getElem? (i := 23) rfl))) (ty := (.array .int)) (by decide)
      have F_cacheOperation_b1 : Fld Z h1 b1 "com/example/brevi/brevi/bdd/BddManager" "cacheOperation" "[I" .null := D1 (Or.inl (hw _ (List.mem_of_getElem? (i := 33) rfl))) (ty := (.array .int)) (by decide)
      have F_cacheFirst_b1 : Fld Z h1 b1 "com/example/brevi/brevi/bdd/BddManager" "cacheFirst" "[I" .null := D1 (Or.inl (hw _ (List.mem_of_getElem? (i := 35) rfl))) (ty := (.array .int)) (by decide)
      have F_cacheSecond_b1 : Fld Z h1 b1 "com/example/brevi/brevi/bdd/BddManager" "cacheSecond" "[I" .null := D1 (Or.inl (hw _ (List.mem_of_getElem? (i := 37) rfl))) (ty := (.array .int)) (by decide)
      have F_cacheThird_b1 : Fld Z h1 b1 "com/example/brevi/brevi/bdd/BddManager" "cacheThird" "[I" .null := D1 (Or.inl (hw _ (List.mem_of_getElem? (i := 39) rfl))) (ty := (.array .int)) (by decide)
      have F_cacheResult_b1 : Fld Z h1 b1 "com/example/brevi/brevi/bdd/BddManager" "cacheResult" "[I" .null := D1 (Or.inl (hw _ (List.mem_of_getElem? (i := 41) rfl))) (ty := (.array .int)) (by decide)
      have F_nodeCount_b1 : Fld Z h1 b1 "com/example/brevi/brevi/bdd/BddManager" "nodeCount" "I" (.int (0 : Int32)) := D1 (Or.inl (hw _ (List.mem_of_getElem? (i := 48) rfl))) (ty := .int) (by decide)
      have F_falseBdd_b1 : Fld Z h1 b1 "com/example/brevi/brevi/bdd/BddManager" "falseBdd" "Lcom/example/brevi/brevi/bdd/Bdd;" .null := D1 (Or.inr (hw _ (List.mem_of_getElem? (i := 61) rfl))) (ty := (.object "com/example/brevi/brevi/bdd/Bdd")) (by decide)
      have F_trueBdd_b1 : Fld Z h1 b1 "com/example/brevi/brevi/bdd/BddManager" "trueBdd" "Lcom/example/brevi/brevi/bdd/Bdd;" .null := D1 (Or.inr (hw _ (List.mem_of_getElem? (i := 63) rfl))) (ty := (.object "com/example/brevi/brevi/bdd/Bdd")) (by decide)
      obtain ⟨_, _, ⟨T2, L2, k2, n2⟩, -, X2, ⟨Lc2, hQ2, l2, y2, z2⟩, st2⟩ := X1.specialBack hx (y := (⟨"com/example/brevi/brevi/bdd/BddManager", "<init>", "()V"⟩ : MethodName)) rfl hown (mvT hZ (hw _ (List.mem_of_getElem? (i := 3) rfl))) (mvT hZ (hw _ (List.mem_of_getElem? (i := 4) rfl))) (mvT hZ (hw _ (List.mem_of_getElem? (i := 5) rfl))) (by decide) (backOf (W := 1) (rmM l Z a0 hw [] b1 h1 n0 Z1 A1 F_variableOf_b1 F_lowOf_b1 F_highOf_b1 F_nextInBucket_b1 F_bucketHead_b1 F_cacheOperation_b1 F_cacheFirst_b1 F_cacheSecond_b1 F_cacheThird_b1 F_cacheResult_b1 F_nodeCount_b1 F_falseBdd_b1 F_trueBdd_b1 ge_b1) hZ (hw _ (List.mem_of_getElem? (i := 5) rfl)) (hw _ (List.mem_of_getElem? (i := 2) rfl)) (by decide) (by decide)) (g := (mkF m 4 #[.val (.int p1), .val (.int p2), .val (.int p3), .unset, .unset, .unset, .unset, .unset, .unset, .unset, .unset, .unset, .unset, .unset] [(.ref b1), (.ref b1)])) rfl (by rw [hml]; rfl) (Steps.refl _) (a := b1) (argsL := []) (rest := [(.ref b1)]) (lenOf pd_0 rfl) rfl (by show 2 * 0 + _ ≤ _; exact Nat.le_of_eq rfl) (hb hby at_4) (fun _ _ => ⟨rfl, e1, (by decide : 1 + 12 ≤ _), (by decide : 15 + 40964 ≤ _)⟩)
      dsimp only [Pt.U, Pt.locs, Pt.cells, Pt.slots] at X2 l2 y2 z2 st2 hQ2
      subst l2 y2 z2
      obtain ⟨rfl, Nq2, K2⟩ := hQ2
      have A1_2 := A1.keep K2
      have Z2 : n0 ≤ T2.heap.size := Nat.le_trans Z1 K2.1
      have Kp2 : Keep h0 T2.heap [] := Kp1.trans K2 (allS (Or.inr sz_b1) all0)
      have N2 := Fr.app N0 Nq2
      obtain ⟨T3, h3, X3, e3, E3, A3, D3, -, st3⟩ := newO X2 hx hZ hown (hw _ (List.mem_of_getElem? (i := 0) rfl)) (hw _ (List.mem_of_getElem? (i := 1) rfl)) (hw _ (List.mem_of_getElem? (i := 2) rfl)) rfl (g := (mkF m 8 #[.val (.int p1), .val (.int p2), .val (.int p3), .val (.ref b1), .unset, .unset, .unset, .unset, .unset, .unset, .unset, .unset, .unset, .unset] [])) rfl (hb hby at_8) (by decide) (by decide)
      obtain ⟨b3, g3⟩ : ∃ z, z = T2.heap.size := ⟨_, rfl⟩
      rw [← g3] at A3 D3 st3
      have ne_b1_b3 : b1 ≠ b3 := Nat.ne_of_lt (Nat.lt_of_lt_of_eq A1_2.lt g3.symm)
      have ge_b3 : n0 ≤ b3 := Nat.le_trans Z2 (Nat.le_of_eq g3.symm)
      have sz_b3 : h0.size ≤ b3 := Nat.le_trans Kp2.1 (Nat.le_of_eq g3.symm)
      have A1_3 := A1_2.ext E3
      have Z3 : n0 ≤ h3.size := Nat.le_trans Z2 E3.1
      have Kp3 : Keep h0 h3 [] := Kp2.ext E3
      have F_variableOf_b3 : Fld Z h3 b3 "com/example/brevi/brevi/bdd/BddManager" "variableOf" "[I" .null := D3 (Or.inl (hw _ (List.mem_of_getElem? (i := 15) rfl))) (ty := (.array .int)) (by decide)
      have F_lowOf_b3 : Fld Z h3 b3 "com/example/brevi/brevi/bdd/BddManager" "lowOf" "[I" .null := D3 (Or.inl (hw _ (List.mem_of_getElem? (i := 17) rfl))) (ty := (.array .int)) (by decide)
      have F_highOf_b3 : Fld Z h3 b3 "com/example/brevi/brevi/bdd/BddManager" "highOf" "[I" .null := D3 (Or.inl (hw _ (List.mem_of_getElem? (i := 19) rfl))) (ty := (.array .int)) (by decide)
      have F_nextInBucket_b3 : Fld Z h3 b3 "com/example/brevi/brevi/bdd/BddManager" "nextInBucket" "[I" .null := D3 (Or.inl (hw _ (List.mem_of_getElem? (i := 21) rfl))) (ty := (.array .int)) (by decide)
      have F_bucketHead_b3 : Fld Z h3 b3 "com/example/brevi/brevi/bdd/BddManager" "bucketHead" "[I" .null := D3 (Or.inl (hw _ (List.mem_of_getElem? (i := 23) rfl))) (ty := (.array .int)) (by decide)
      have F_cacheOperation_b3 : Fld Z h3 b3 "com/example/brevi/brevi/bdd/BddManager" "cacheOperation" "[I" .null := D3 (Or.inl (hw _ (List.mem_of_getElem? (i := 33) rfl))) (ty := (.array .int)) (by decide)
      have F_cacheFirst_b3 : Fld Z h3 b3 "com/example/brevi/brevi/bdd/BddManager" "cacheFirst" "[I" .null := D3 (Or.inl (hw _ (List.mem_of_getElem? (i := 35) rfl))) (ty := (.array .int)) (by decide)
      have F_cacheSecond_b3 : Fld Z h3 b3 "com/example/brevi/brevi/bdd/BddManager" "cacheSecond" "[I" .null := D3 (Or.inl (hw _ (List.mem_of_getElem? (i := 37) rfl))) (ty := (.array .int)) (by decide)
      have F_cacheThird_b3 : Fld Z h3 b3 "com/example/brevi/brevi/bdd/BddManager" "cacheThird" "[I" .null := D3 (Or.inl (hw _ (List.mem_of_getElem? (i := 39) rfl))) (ty := (.array .int)) (by decide)
      have F_cacheResult_b3 : Fld Z h3 b3 "com/example/brevi/brevi/bdd/BddManager" "cacheResult" "[I" .null := D3 (Or.inl (hw _ (List.mem_of_getElem? (i := 41) rfl))) (ty := (.array .int)) (by decide)
      have F_nodeCount_b3 : Fld Z h3 b3 "com/example/brevi/brevi/bdd/BddManager" "nodeCount" "I" (.int (0 : Int32)) := D3 (Or.inl (hw _ (List.mem_of_getElem? (i := 48) rfl))) (ty := .int) (by decide)
      have F_falseBdd_b3 : Fld Z h3 b3 "com/example/brevi/brevi/bdd/BddManager" "falseBdd" "Lcom/example/brevi/brevi/bdd/Bdd;" .null := D3 (Or.inr (hw _ (List.mem_of_getElem? (i := 61) rfl))) (ty := (.object "com/example/brevi/brevi/bdd/Bdd")) (by decide)
      have F_trueBdd_b3 : Fld Z h3 b3 "com/example/brevi/brevi/bdd/BddManager" "trueBdd" "Lcom/example/brevi/brevi/bdd/Bdd;" .null := D3 (Or.inr (hw _ (List.mem_of_getElem? (i := 63) rfl))) (ty := (.object "com/example/brevi/brevi/bdd/Bdd")) (by decide)
      obtain ⟨_, _, ⟨T4, L4, k4, n4⟩, -, X4, ⟨Lc4, hQ4, l4, y4, z4⟩, st4⟩ := X3.specialBack hx (y := (⟨"com/example/brevi/brevi/bdd/BddManager", "<init>", "()V"⟩ : MethodName)) rfl hown (mvT hZ (hw _ (List.mem_of_getElem? (i := 3) rfl))) (mvT hZ (hw _ (List.mem_of_getElem? (i := 4) rfl))) (mvT hZ (hw _ (List.mem_of_getElem? (i := 5) rfl))) (by decide) (backOf (W := 1) (rmM l Z a0 hw [] b3 h3 n0 Z3 A3 F_variableOf_b3 F_lowOf_b3 F_highOf_b3 F_nextInBucket_b3 F_bucketHead_b3 F_cacheOperation_b3 F_cacheFirst_b3 F_cacheSecond_b3 F_cacheThird_b3 F_cacheResult_b3 F_nodeCount_b3 F_falseBdd_b3 F_trueBdd_b3 ge_b3) hZ (hw _ (List.mem_of_getElem? (i := 5) rfl)) (hw _ (List.mem_of_getElem? (i := 2) rfl)) (by decide) (by decide)) (g := (mkF m 12 #[.val (.int p1), .val (.int p2), .val (.int p3), .val (.ref b1), .unset, .unset, .unset, .unset, .unset, .unset, .unset, .unset, .unset, .unset] [(.ref b3), (.ref b3)])) rfl (by rw [hml]; rfl) (Steps.refl _) (a := b3) (argsL := []) (rest := [(.ref b3)]) (lenOf pd_0 rfl) rfl (by show 2 * 0 + _ ≤ _; exact Nat.le_of_eq rfl) (hb hby at_12) (fun _ _ => ⟨rfl, e3, (by decide : 14 + 12 ≤ _), (by decide : 40994 + 40964 ≤ _)⟩)
      dsimp only [Pt.U, Pt.locs, Pt.cells, Pt.slots] at X4 l4 y4 z4 st4 hQ4
      subst l4 y4 z4
      obtain ⟨rfl, Nq4, K4⟩ := hQ4
      have A1_4 := A1_3.keep K4
      have A3_4 := A3.keep K4
      have Z4 : n0 ≤ T4.heap.size := Nat.le_trans Z3 K4.1
      have Kp4 : Keep h0 T4.heap [] := Kp3.trans K4 (allS (Or.inr sz_b3) all0)
      have N4 := Fr.app N2 Nq4
      obtain ⟨T5, h5, X5, e5, E5, A5, D5, -, st5⟩ := newO X4 hx hZ hown (hw _ (List.mem_of_getElem? (i := 64) rfl)) (hw _ (List.mem_of_getElem? (i := 50) rfl)) (hw _ (List.mem_of_getElem? (i := 51) rfl)) rfl (g := (mkF m 70 #[.val (.int p1), .val (.int p2), .val (.int p3), .val (.ref b1), .val (.ref b3), .val (.int (0 : Int32)), .val (.int (0 : Int32)), .val (.int (p1 ^^^ p2)), .val (.ref b3), .unset, .unset, .unset, .unset, .unset] [])) rfl (hb hby at_70) (by decide) (by decide)
      obtain ⟨b5, g5⟩ : ∃ z, z = T4.heap.size := ⟨_, rfl⟩
      rw [← g5] at A5 D5 st5
      have ne_b1_b5 : b1 ≠ b5 := Nat.ne_of_lt (Nat.lt_of_lt_of_eq A1_4.lt g5.symm)
      have ne_b3_b5 : b3 ≠ b5 := Nat.ne_of_lt (Nat.lt_of_lt_of_eq A3_4.lt g5.symm)
      have ge_b5 : n0 ≤ b5 := Nat.le_trans Z4 (Nat.le_of_eq g5.symm)
      have sz_b5 : h0.size ≤ b5 := Nat.le_trans Kp4.1 (Nat.le_of_eq g5.symm)
      have A1_5 := A1_4.ext E5
      have A3_5 := A3_4.ext E5
      have Z5 : n0 ≤ h5.size := Nat.le_trans Z4 E5.1
      have Kp5 : Keep h0 h5 [] := Kp4.ext E5
      have F_manager_b5 : Fld Z h5 b5 "com/example/brevi/brevi/bdd/Bdd" "manager" "Lcom/example/brevi/brevi/bdd/BddManager;" .null := D5 (Or.inr (hw _ (List.mem_of_getElem? (i := 57) rfl))) (ty := (.object "com/example/brevi/brevi/bdd/BddManager")) (by decide)
      have F_node_b5 : Fld Z h5 b5 "com/example/brevi/brevi/bdd/Bdd" "node" "I" (.int (0 : Int32)) := D5 (Or.inr (hw _ (List.mem_of_getElem? (i := 59) rfl))) (ty := .int) (by decide)
      obtain ⟨_, _, ⟨T6, L6, k6, n6⟩, -, X6, ⟨Lc6, hQ6, l6, y6, z6⟩, st6⟩ := X5.specialBack hx (y := (⟨"com/example/brevi/brevi/bdd/Bdd", "<init>", "(Lcom/example/brevi/brevi/bdd/BddManager;I)V"⟩ : MethodName)) rfl hown (mvT hZ (hw _ (List.mem_of_getElem? (i := 65) rfl))) (mvT hZ (hw _ (List.mem_of_getElem? (i := 53) rfl))) (mvT hZ (hw _ (List.mem_of_getElem? (i := 54) rfl))) (by decide) (backOf (W := 1) (rmB l Z a0 hw [] b5 b1 p1 h5 n0 Z5 A5 F_manager_b5 F_node_b5 ge_b5) hZ (hw _ (List.mem_of_getElem? (i := 54) rfl)) (hw _ (List.mem_of_getElem? (i := 51) rfl)) (by decide) (by decide)) (g := (mkF m 76 #[.val (.int p1), .val (.int p2), .val (.int p3), .val (.ref b1), .val (.ref b3), .val (.int (0 : Int32)), .val (.int (0 : Int32)), .val (.int (p1 ^^^ p2)), .val (.ref b3), .unset, .unset, .unset, .unset, .unset] [(.int p1), (.ref b1), (.ref b5), (.ref b5)])) rfl (by rw [hml]; rfl) (Steps.refl _) (a := b5) (argsL := [(.ref b1), (.int p1)]) (rest := [(.ref b5)]) (lenOf pd_4 rfl) rfl (by show 2 * 0 + _ ≤ _; exact Nat.le_of_eq rfl) (hb hby at_76) (fun _ _ => ⟨rfl, e5, (by decide : 27 + 0 ≤ _), (by decide : 81960 + 0 ≤ _)⟩)
      dsimp only [Pt.U, Pt.locs, Pt.cells, Pt.slots] at X6 l6 y6 z6 st6 hQ6
      subst l6 y6 z6
      obtain ⟨rfl, Nq6, K6, ex6, fm6, fn6⟩ := hQ6
      have A1_6 := A1_5.keep K6
      have A3_6 := A3_5.keep K6
      have A5_6 := A5.keep K6
      have Z6 : n0 ≤ T6.heap.size := Nat.le_trans Z5 K6.1
      have Kp6 : Keep h0 T6.heap [] := Kp5.trans K6 (allS (Or.inr sz_b5) all0)
      have N6 := Fr.app N4 Nq6
      obtain ⟨T7, h7, X7, e7, E7, A7, D7, -, st7⟩ := newO X6 hx hZ hown (hw _ (List.mem_of_getElem? (i := 64) rfl)) (hw _ (List.mem_of_getElem? (i := 50) rfl)) (hw _ (List.mem_of_getElem? (i := 51) rfl)) rfl (g := (mkF m 81 #[.val (.int p1), .val (.int p2), .val (.int p3), .val (.ref b1), .val (.ref b3), .val (.int (0 : Int32)), .val (.int (0 : Int32)), .val (.int (p1 ^^^ p2)), .val (.ref b3), .val (.ref b5), .unset, .unset, .unset, .unset] [])) rfl (hb hby at_81) (by decide) (by decide)
      obtain ⟨b7, g7⟩ : ∃ z, z = T6.heap.size := ⟨_, rfl⟩
      rw [← g7] at A7 D7 st7
      have ne_b1_b7 : b1 ≠ b7 := Nat.ne_of_lt (Nat.lt_of_lt_of_eq A1_6.lt g7.symm)
      have ne_b3_b7 : b3 ≠ b7 := Nat.ne_of_lt (Nat.lt_of_lt_of_eq A3_6.lt g7.symm)
      have ne_b5_b7 : b5 ≠ b7 := Nat.ne_of_lt (Nat.lt_of_lt_of_eq ex6.lt g7.symm)
      have ge_b7 : n0 ≤ b7 := Nat.le_trans Z6 (Nat.le_of_eq g7.symm)
      have sz_b7 : h0.size ≤ b7 := Nat.le_trans Kp6.1 (Nat.le_of_eq g7.symm)
      have A1_7 := A1_6.ext E7
      have A3_7 := A3_6.ext E7
      have ex6_7 := ex6.ext E7
      have fm6_7 := fm6.ext E7
      have fn6_7 := fn6.ext E7
      have Z7 : n0 ≤ h7.size := Nat.le_trans Z6 E7.1
      have Kp7 : Keep h0 h7 [] := Kp6.ext E7
      have F_manager_b7 : Fld Z h7 b7 "com/example/brevi/brevi/bdd/Bdd" "manager" "Lcom/example/brevi/brevi/bdd/BddManager;" .null := D7 (Or.inr (hw _ (List.mem_of_getElem? (i := 57) rfl))) (ty := (.object "com/example/brevi/brevi/bdd/BddManager")) (by decide)
      have F_node_b7 : Fld Z h7 b7 "com/example/brevi/brevi/bdd/Bdd" "node" "I" (.int (0 : Int32)) := D7 (Or.inr (hw _ (List.mem_of_getElem? (i := 59) rfl))) (ty := .int) (by decide)
      obtain ⟨_, _, ⟨T8, L8, k8, n8⟩, -, X8, ⟨Lc8, hQ8, l8, y8, z8⟩, st8⟩ := X7.specialBack hx (y := (⟨"com/example/brevi/brevi/bdd/Bdd", "<init>", "(Lcom/example/brevi/brevi/bdd/BddManager;I)V"⟩ : MethodName)) rfl hown (mvT hZ (hw _ (List.mem_of_getElem? (i := 65) rfl))) (mvT hZ (hw _ (List.mem_of_getElem? (i := 53) rfl))) (mvT hZ (hw _ (List.mem_of_getElem? (i := 54) rfl))) (by decide) (backOf (W := 1) (rmB l Z a0 hw [] b7 b3 (p1 ^^^ p2) h7 n0 Z7 A7 F_manager_b7 F_node_b7 ge_b7) hZ (hw _ (List.mem_of_getElem? (i := 54) rfl)) (hw _ (List.mem_of_getElem? (i := 51) rfl)) (by decide) (by decide)) (g := (mkF m 89 #[.val (.int p1), .val (.int p2), .val (.int p3), .val (.ref b1), .val (.ref b3), .val (.int (0 : Int32)), .val (.int (0 : Int32)), .val (.int (p1 ^^^ p2)), .val (.ref b3), .val (.ref b5), .unset, .unset, .unset, .unset] [(.int (p1 ^^^ p2)), (.ref b3), (.ref b7), (.ref b7)])) rfl (by rw [hml]; rfl) (Steps.refl _) (a := b7) (argsL := [(.ref b3), (.int (p1 ^^^ p2))]) (rest := [(.ref b7)]) (lenOf pd_4 rfl) rfl (by show 2 * 0 + _ ≤ _; exact Nat.le_of_eq rfl) (hb hby at_89) (fun _ _ => ⟨rfl, e7, (by decide : 28 + 0 ≤ _), (by decide : 81962 + 0 ≤ _)⟩)
      dsimp only [Pt.U, Pt.locs, Pt.cells, Pt.slots] at X8 l8 y8 z8 st8 hQ8
      subst l8 y8 z8
      obtain ⟨rfl, Nq8, K8, ex8, fm8, fn8⟩ := hQ8
      have A1_8 := A1_7.keep K8
      have A3_8 := A3_7.keep K8
      have ex6_8 := ex6_7.keep K8
      have fm6_8 := fm6_7.keep K8 (ninS ne_b5_b7 nin0)
      have fn6_8 := fn6_7.keep K8 (ninS ne_b5_b7 nin0)
      have A7_8 := A7.keep K8
      have Z8 : n0 ≤ T8.heap.size := Nat.le_trans Z7 K8.1
      have Kp8 : Keep h0 T8.heap [] := Kp7.trans K8 (allS (Or.inr sz_b7) all0)
      have N8 := Fr.app N6 Nq8
      obtain ⟨_, _, ⟨T9, L9, k9, n9⟩, -, X9, ⟨Lc9, hQ9, l9, y9, z9⟩, st9⟩ := Jvm.LawKit.callS X8 hx (y := (⟨"java/lang/Integer", "valueOf", "(I)Ljava/lang/Integer;"⟩ : MethodName)) hown (mvT hZ (hw _ (List.mem_of_getElem? (i := 66) rfl))) (mvT hZ (hw _ (List.mem_of_getElem? (i := 67) rfl))) (mvT hZ (hw _ (List.mem_of_getElem? (i := 68) rfl))) (mvT hZ (hw _ (List.mem_of_getElem? (i := 69) rfl))) (by decide) (backOf (W := 0) (rmV l Z a0 hw [] p1 ca T8.heap n0 Z8 (own_sta S_hi Kp8) (own_sta S_ca Kp8) (C0.keep Kp8)) hZ (hw _ (List.mem_of_getElem? (i := 69) rfl)) (hw _ (List.mem_of_getElem? (i := 68) rfl)) (by decide) (by decide)) (g := (mkF m 113 #[.val (.int p1), .val (.int p2), .val (.int p3), .val (.ref b1), .val (.ref b3), .val (.int (0 : Int32)), .val (.int (0 : Int32)), .val (.int (p1 ^^^ p2)), .val (.ref b3), .val (.ref b5), .val (.ref b7), .val (.int (0 : Int32)), .unset, .unset] [(.int p1)])) rfl (by rw [hml]; rfl) (argsL := [(.int p1)]) (rest := []) (lenOf pd_5 rfl) rfl (by show 2 * 0 + _ ≤ _; exact Nat.le_of_eq rfl) (hb hby at_113) (fun _ _ => ⟨rfl, rfl, (by decide : 28 + 1 ≤ _), (by decide : 81962 + 1 ≤ _)⟩)
      dsimp only [Pt.U, Pt.locs, Pt.cells, Pt.slots] at X9 l9 y9 z9 st9 hQ9
      subst l9 y9 z9
      obtain ⟨bx9, rfl, Nq9, K9, ex9⟩ := hQ9
      have A1_9 := A1_8.keep K9
      have A3_9 := A3_8.keep K9
      have ex6_9 := ex6_8.keep K9
      have fm6_9 := fm6_8.keep K9 nin0
      have fn6_9 := fn6_8.keep K9 nin0
      have ex8_9 := ex8.keep K9
      have fm8_9 := fm8.keep K9 nin0
      have fn8_9 := fn8.keep K9 nin0
      have Z9 : n0 ≤ T9.heap.size := Nat.le_trans Z8 K9.1
      have Kp9 : Keep h0 T9.heap [] := Kp8.trans K9 all0
      have N9 := Fr.app N8 Nq9
      obtain ⟨cq10, kq10, q10a, q10b, q10c⟩ := isOf hZ rfl ex6_9
      obtain ⟨_, _, ⟨T10, L10, k10, n10⟩, -, X10, ⟨Lc10, hQ10, l10, y10, z10⟩, st10⟩ := X9.virtualBack hx (y := (⟨"com/example/brevi/brevi/bdd/Bdd", "equals", "(Ljava/lang/Object;)Z"⟩ : MethodName)) (z := (⟨"com/example/brevi/brevi/bdd/Bdd", "equals", "(Ljava/lang/Object;)Z"⟩ : MethodName)) hown (mvT hZ (hw _ (List.mem_of_getElem? (i := 73) rfl))) (mvT hZ (hw _ (List.mem_of_getElem? (i := 74) rfl))) (notFace_of_selects (args := #[]) (mvT hZ (hw _ (List.mem_of_getElem? (i := 76) rfl)))) (mvT hZ (hw _ (List.mem_of_getElem? (i := 76) rfl))) (mvT hZ (hw _ (List.mem_of_getElem? (i := 75) rfl))) (by decide) (backOf (W := 0) (rmE_m l Z a0 hw [] b5 b7 b1 b3 p1 (p1 ^^^ p2) T9.heap n0 Z9 ex8_9 fm6_9 fm8_9 fn6_9 fn8_9 (Ne.symm ne_b1_b3)) hZ (hw _ (List.mem_of_getElem? (i := 77) rfl)) (hw _ (List.mem_of_getElem? (i := 51) rfl)) (by decide) (by decide)) q10a q10c (g := (mkF m 125 #[.val (.int p1), .val (.int p2), .val (.int p3), .val (.ref b1), .val (.ref b3), .val (.int (0 : Int32)), .val (.int (0 : Int32)), .val (.int (p1 ^^^ p2)), .val (.ref b3), .val (.ref b5), .val (.ref b7), .val (.int (0 : Int32)), .val (.ref bx9), .val .null] [(.ref b7), (.ref b5)])) rfl (by rw [hml]; rfl) (Steps.refl _) (argsL := [(.ref b7)]) (rest := []) (lenOf pd_6 rfl) rfl (by show 2 * 0 + _ ≤ _; exact Nat.le_of_eq rfl) (hb hby at_125) (fun _ _ => ⟨rfl, rfl, (by decide : 29 + 0 ≤ _), (by decide : 81963 + 0 ≤ _)⟩)
      dsimp only [Pt.U, Pt.locs, Pt.cells, Pt.slots] at X10 l10 y10 z10 st10 hQ10
      subst l10 y10 z10
      obtain ⟨rfl, Nq10, e10⟩ := hQ10
      have N10 := Fr.app N9 Nq10
      obtain ⟨cq11, kq11, q11a, q11b, q11c⟩ := isOf hZ e10 ex8_9
      obtain ⟨_, _, ⟨T11, L11, k11, n11⟩, -, X11, ⟨Lc11, hQ11, l11, y11, z11⟩, st11⟩ := X10.virtualBack hx (y := (⟨"com/example/brevi/brevi/bdd/Bdd", "equals", "(Ljava/lang/Object;)Z"⟩ : MethodName)) (z := (⟨"com/example/brevi/brevi/bdd/Bdd", "equals", "(Ljava/lang/Object;)Z"⟩ : MethodName)) hown (mvT hZ (hw _ (List.mem_of_getElem? (i := 73) rfl))) (mvT hZ (hw _ (List.mem_of_getElem? (i := 74) rfl))) (notFace_of_selects (args := #[]) (mvT hZ (hw _ (List.mem_of_getElem? (i := 76) rfl)))) (mvT hZ (hw _ (List.mem_of_getElem? (i := 76) rfl))) (mvT hZ (hw _ (List.mem_of_getElem? (i := 75) rfl))) (by decide) (backOf (W := 0) (rmE_m l Z a0 hw [] b7 b5 b3 b1 (p1 ^^^ p2) p1 T9.heap n0 Z9 ex6_9 fm8_9 fm6_9 fn8_9 fn6_9 ne_b1_b3) hZ (hw _ (List.mem_of_getElem? (i := 77) rfl)) (hw _ (List.mem_of_getElem? (i := 51) rfl)) (by decide) (by decide)) q11a q11c (g := (mkF m 137 #[.val (.int p1), .val (.int p2), .val (.int p3), .val (.ref b1), .val (.ref b3), .val (.int (0 : Int32)), .val (.int (0 : Int32)), .val (.int (p1 ^^^ p2)), .val (.ref b3), .val (.ref b5), .val (.ref b7), .val (.int (0 : Int32)), .val (.ref bx9), .val .null] [(.ref b5), (.ref b7)])) rfl (by rw [hml]; rfl) (Steps.refl _) (argsL := [(.ref b5)]) (rest := []) (lenOf pd_6 rfl) rfl (by show 2 * 0 + _ ≤ _; exact Nat.le_of_eq rfl) (hb hby at_137) (fun _ _ => ⟨rfl, e10, (by decide : 29 + 0 ≤ _), (by decide : 81963 + 0 ≤ _)⟩)
      dsimp only [Pt.U, Pt.locs, Pt.cells, Pt.slots] at X11 l11 y11 z11 st11 hQ11
      subst l11 y11 z11
      obtain ⟨rfl, Nq11, e11⟩ := hQ11
      have N11 := Fr.app N10 Nq11
      obtain ⟨cq12, kq12, q12a, q12b, q12c⟩ := isOf hZ e11 ex6_9
      obtain ⟨_, _, ⟨T12, L12, k12, n12⟩, -, X12, ⟨Lc12, hQ12, l12, y12, z12⟩, st12⟩ := X11.virtualBack hx (y := (⟨"com/example/brevi/brevi/bdd/Bdd", "equals", "(Ljava/lang/Object;)Z"⟩ : MethodName)) (z := (⟨"com/example/brevi/brevi/bdd/Bdd", "equals", "(Ljava/lang/Object;)Z"⟩ : MethodName)) hown (mvT hZ (hw _ (List.mem_of_getElem? (i := 73) rfl))) (mvT hZ (hw _ (List.mem_of_getElem? (i := 74) rfl))) (notFace_of_selects (args := #[]) (mvT hZ (hw _ (List.mem_of_getElem? (i := 76) rfl)))) (mvT hZ (hw _ (List.mem_of_getElem? (i := 76) rfl))) (mvT hZ (hw _ (List.mem_of_getElem? (i := 75) rfl))) (by decide) (backOf (W := 0) (rmE_e l Z a0 hw [] b5 b5 b1 b1 p1 p1 T9.heap n0 Z9 ex6_9 fm6_9 fm6_9 fn6_9 fn6_9 rfl rfl) hZ (hw _ (List.mem_of_getElem? (i := 77) rfl)) (hw _ (List.mem_of_getElem? (i := 51) rfl)) (by decide) (by decide)) q12a q12c (g := (mkF m 149 #[.val (.int p1), .val (.int p2), .val (.int p3), .val (.ref b1), .val (.ref b3), .val (.int (0 : Int32)), .val (.int (0 : Int32)), .val (.int (p1 ^^^ p2)), .val (.ref b3), .val (.ref b5), .val (.ref b7), .val (.int (0 : Int32)), .val (.ref bx9), .val .null] [(.ref b5), (.ref b5)])) rfl (by rw [hml]; rfl) (Steps.refl _) (argsL := [(.ref b5)]) (rest := []) (lenOf pd_6 rfl) rfl (by show 2 * 0 + _ ≤ _; exact Nat.le_of_eq rfl) (hb hby at_149) (fun _ _ => ⟨rfl, e11, (by decide : 29 + 0 ≤ _), (by decide : 81963 + 0 ≤ _)⟩)
      dsimp only [Pt.U, Pt.locs, Pt.cells, Pt.slots] at X12 l12 y12 z12 st12 hQ12
      subst l12 y12 z12
      obtain ⟨rfl, Nq12, e12⟩ := hQ12
      have N12 := Fr.app N11 Nq12
      obtain ⟨cq13, kq13, q13a, q13b, q13c⟩ := isOf hZ e12 ex6_9
      obtain ⟨_, _, ⟨T13, L13, k13, n13⟩, -, X13, ⟨Lc13, hQ13, l13, y13, z13⟩, st13⟩ := X12.virtualBack hx (y := (⟨"com/example/brevi/brevi/bdd/Bdd", "equals", "(Ljava/lang/Object;)Z"⟩ : MethodName)) (z := (⟨"com/example/brevi/brevi/bdd/Bdd", "equals", "(Ljava/lang/Object;)Z"⟩ : MethodName)) hown (mvT hZ (hw _ (List.mem_of_getElem? (i := 73) rfl))) (mvT hZ (hw _ (List.mem_of_getElem? (i := 74) rfl))) (notFace_of_selects (args := #[]) (mvT hZ (hw _ (List.mem_of_getElem? (i := 76) rfl)))) (mvT hZ (hw _ (List.mem_of_getElem? (i := 76) rfl))) (mvT hZ (hw _ (List.mem_of_getElem? (i := 75) rfl))) (by decide) (backOf (W := 0) (rmE_i l Z a0 hw [] b5 bx9 T9.heap n0 Z9 ex9) hZ (hw _ (List.mem_of_getElem? (i := 77) rfl)) (hw _ (List.mem_of_getElem? (i := 51) rfl)) (by decide) (by decide)) q13a q13c (g := (mkF m 159 #[.val (.int p1), .val (.int p2), .val (.int p3), .val (.ref b1), .val (.ref b3), .val (.int (0 : Int32)), .val (.int (0 : Int32)), .val (.int (p1 ^^^ p2)), .val (.ref b3), .val (.ref b5), .val (.ref b7), .val (.int (0 : Int32)), .val (.ref bx9), .val .null] [(.ref bx9), (.ref b5)])) rfl (by rw [hml]; rfl) (Steps.refl _) (argsL := [(.ref bx9)]) (rest := []) (lenOf pd_6 rfl) rfl (by show 2 * 0 + _ ≤ _; exact Nat.le_of_eq rfl) (hb hby at_159) (fun _ _ => ⟨rfl, e12, (by decide : 29 + 0 ≤ _), (by decide : 81963 + 0 ≤ _)⟩)
      dsimp only [Pt.U, Pt.locs, Pt.cells, Pt.slots] at X13 l13 y13 z13 st13 hQ13
      subst l13 y13 z13
      obtain ⟨rfl, Nq13, e13⟩ := hQ13
      have N13 := Fr.app N12 Nq13
      obtain ⟨cq14, kq14, q14a, q14b, q14c⟩ := isOf hZ e13 ex6_9
      obtain ⟨_, _, ⟨T14, L14, k14, n14⟩, -, X14, ⟨Lc14, hQ14, l14, y14, z14⟩, st14⟩ := X13.virtualBack hx (y := (⟨"com/example/brevi/brevi/bdd/Bdd", "equals", "(Ljava/lang/Object;)Z"⟩ : MethodName)) (z := (⟨"com/example/brevi/brevi/bdd/Bdd", "equals", "(Ljava/lang/Object;)Z"⟩ : MethodName)) hown (mvT hZ (hw _ (List.mem_of_getElem? (i := 73) rfl))) (mvT hZ (hw _ (List.mem_of_getElem? (i := 74) rfl))) (notFace_of_selects (args := #[]) (mvT hZ (hw _ (List.mem_of_getElem? (i := 76) rfl)))) (mvT hZ (hw _ (List.mem_of_getElem? (i := 76) rfl))) (mvT hZ (hw _ (List.mem_of_getElem? (i := 75) rfl))) (by decide) (backOf (W := 0) (rmE_n l Z a0 hw [] b5 T9.heap n0 Z9 ) hZ (hw _ (List.mem_of_getElem? (i := 77) rfl)) (hw _ (List.mem_of_getElem? (i := 51) rfl)) (by decide) (by decide)) q14a q14c (g := (mkF m 169 #[.val (.int p1), .val (.int p2), .val (.int p3), .val (.ref b1), .val (.ref b3), .val (.int (0 : Int32)), .val (.int (0 : Int32)), .val (.int (p1 ^^^ p2)), .val (.ref b3), .val (.ref b5), .val (.ref b7), .val (.int (0 : Int32)), .val (.ref bx9), .val .null] [.null, (.ref b5)])) rfl (by rw [hml]; rfl) (Steps.refl _) (argsL := [.null]) (rest := []) (lenOf pd_6 rfl) rfl (by show 2 * 0 + _ ≤ _; exact Nat.le_of_eq rfl) (hb hby at_169) (fun _ _ => ⟨rfl, e13, (by decide : 29 + 0 ≤ _), (by decide : 81963 + 0 ≤ _)⟩)
      dsimp only [Pt.U, Pt.locs, Pt.cells, Pt.slots] at X14 l14 y14 z14 st14 hQ14
      subst l14 y14 z14
      obtain ⟨rfl, Nq14, e14⟩ := hQ14
      have N14 := Fr.app N13 Nq14
      obtain ⟨fs, hr, hrun, hended, hW, hsame⟩ := X14.leave (v := some (.int (1 : Int32))) (fun h => by rw [Bd.returns] at h; cases h)
      refine ⟨_, _, pre0 _ ?_, hrun, hended, _, _, rfl, ?_, ⟨_, rfl⟩, hW, hsame.mono (by decide) (by decide)⟩
      · show Steps p.tables e below (s₁.setTop (mkF m 0 #[.val (.int p1), .val (.int p2), .val (.int p3), .unset, .unset, .unset, .unset, .unset, .unset, .unset, .unset, .unset, .unset, .unset] [])) _
        refine st1 _ ?_
        show Steps p.tables e below (T1.setTop (mkF m 3 #[.val (.int p1), .val (.int p2), .val (.int p3), .unset, .unset, .unset, .unset, .unset, .unset, .unset, .unset, .unset, .unset, .unset] [(.ref b1)])) _
        refine XS.dup X1.here hx rfl (hb hby at_3) rfl rfl ?_
        show Steps p.tables e below (T1.setTop (mkF m 4 #[.val (.int p1), .val (.int p2), .val (.int p3), .unset, .unset, .unset, .unset, .unset, .unset, .unset, .unset, .unset, .unset, .unset] [(.ref b1), (.ref b1)])) _
        refine st2.trans ?_
        show Steps p.tables e below (T2.setTop (mkF m 7 #[.val (.int p1), .val (.int p2), .val (.int p3), .unset, .unset, .unset, .unset, .unset, .unset, .unset, .unset, .unset, .unset, .unset] [(.ref b1)])) _
        refine XS.astoreN X2.here hx rfl (hb hby at_7) rfl rfl (l' := #[.val (.int p1), .val (.int p2), .val (.int p3), .val (.ref b1), .unset, .unset, .unset, .unset, .unset, .unset, .unset, .unset, .unset, .unset]) rfl ?_
        show Steps p.tables e below (T2.setTop (mkF m 8 #[.val (.int p1), .val (.int p2), .val (.int p3), .val (.ref b1), .unset, .unset, .unset, .unset, .unset, .unset, .unset, .unset, .unset, .unset] [])) _
        refine st3 _ ?_
        show Steps p.tables e below (T3.setTop (mkF m 11 #[.val (.int p1), .val (.int p2), .val (.int p3), .val (.ref b1), .unset, .unset, .unset, .unset, .unset, .unset, .unset, .unset, .unset, .unset] [(.ref b3)])) _
        refine XS.dup X3.here hx rfl (hb hby at_11) rfl rfl ?_
        show Steps p.tables e below (T3.setTop (mkF m 12 #[.val (.int p1), .val (.int p2), .val (.int p3), .val (.ref b1), .unset, .unset, .unset, .unset, .unset, .unset, .unset, .unset, .unset, .unset] [(.ref b3), (.ref b3)])) _
        refine st4.trans ?_
        show Steps p.tables e below (T4.setTop (mkF m 15 #[.val (.int p1), .val (.int p2), .val (.int p3), .val (.ref b1), .unset, .unset, .unset, .unset, .unset, .unset, .unset, .unset, .unset, .unset] [(.ref b3)])) _
        refine XS.astore X4.here hx rfl (hb hby at_15) rfl rfl (l' := #[.val (.int p1), .val (.int p2), .val (.int p3), .val (.ref b1), .val (.ref b3), .unset, .unset, .unset, .unset, .unset, .unset, .unset, .unset, .unset]) rfl ?_
        show Steps p.tables e below (T4.setTop (mkF m 17 #[.val (.int p1), .val (.int p2), .val (.int p3), .val (.ref b1), .val (.ref b3), .unset, .unset, .unset, .unset, .unset, .unset, .unset, .unset, .unset] [])) _
        refine XS.iloadN X4.here hx rfl (hb hby at_17) rfl ?_
        show Steps p.tables e below (T4.setTop (mkF m 18 #[.val (.int p1), .val (.int p2), .val (.int p3), .val (.ref b1), .val (.ref b3), .unset, .unset, .unset, .unset, .unset, .unset, .unset, .unset, .unset] [(.int p3)])) _
        refine XS.iconst X4.here hx rfl (hb hby at_18) ?_
        show Steps p.tables e below (T4.setTop (mkF m 19 #[.val (.int p1), .val (.int p2), .val (.int p3), .val (.ref b1), .val (.ref b3), .unset, .unset, .unset, .unset, .unset, .unset, .unset, .unset, .unset] [(.int (1 : Int32)), (.int p3)])) _
        refine XS.iand X4.here hx rfl (hb hby at_19) rfl ?_
        show Steps p.tables e below (T4.setTop (mkF m 20 #[.val (.int p1), .val (.int p2), .val (.int p3), .val (.ref b1), .val (.ref b3), .unset, .unset, .unset, .unset, .unset, .unset, .unset, .unset, .unset] [(.int (p3 &&& (1 : Int32)))])) _
        refine XS.ifYes X4.here hx rfl (pc0 := 20) (pc' := 27) rfl (hb hby at_20) rfl ((if0 _ _).trans (teq hs1).1) (by decide) (by decide) ?_
        show Steps p.tables e below (T4.setTop (mkF m 27 #[.val (.int p1), .val (.int p2), .val (.int p3), .val (.ref b1), .val (.ref b3), .unset, .unset, .unset, .unset, .unset, .unset, .unset, .unset, .unset] [])) _
        refine XS.iconst X4.here hx rfl (hb hby at_27) ?_
        show Steps p.tables e below (T4.setTop (mkF m 28 #[.val (.int p1), .val (.int p2), .val (.int p3), .val (.ref b1), .val (.ref b3), .unset, .unset, .unset, .unset, .unset, .unset, .unset, .unset, .unset] [(.int (0 : Int32))])) _
        refine XS.istore X4.here hx rfl (hb hby at_28) rfl (l' := #[.val (.int p1), .val (.int p2), .val (.int p3), .val (.ref b1), .val (.ref b3), .val (.int (0 : Int32)), .unset, .unset, .unset, .unset, .unset, .unset, .unset, .unset]) rfl ?_
        show Steps p.tables e below (T4.setTop (mkF m 30 #[.val (.int p1), .val (.int p2), .val (.int p3), .val (.ref b1), .val (.ref b3), .val (.int (0 : Int32)), .unset, .unset, .unset, .unset, .unset, .unset, .unset, .unset] [])) _
        refine XS.iloadN X4.here hx rfl (hb hby at_30) rfl ?_
        show Steps p.tables e below (T4.setTop (mkF m 31 #[.val (.int p1), .val (.int p2), .val (.int p3), .val (.ref b1), .val (.ref b3), .val (.int (0 : Int32)), .unset, .unset, .unset, .unset, .unset, .unset, .unset, .unset] [(.int p3)])) _
        refine XS.iconst X4.here hx rfl (hb hby at_31) ?_
        show Steps p.tables e below (T4.setTop (mkF m 32 #[.val (.int p1), .val (.int p2), .val (.int p3), .val (.ref b1), .val (.ref b3), .val (.int (0 : Int32)), .unset, .unset, .unset, .unset, .unset, .unset, .unset, .unset] [(.int (2 : Int32)), (.int p3)])) _
        refine XS.iand X4.here hx rfl (hb hby at_32) rfl ?_
        show Steps p.tables e below (T4.setTop (mkF m 33 #[.val (.int p1), .val (.int p2), .val (.int p3), .val (.ref b1), .val (.ref b3), .val (.int (0 : Int32)), .unset, .unset, .unset, .unset, .unset, .unset, .unset, .unset] [(.int (p3 &&& (2 : Int32)))])) _
        refine XS.ifYes X4.here hx rfl (pc0 := 33) (pc' := 40) rfl (hb hby at_33) rfl ((if0 _ _).trans (teq hs2).1) (by decide) (by decide) ?_
        show Steps p.tables e below (T4.setTop (mkF m 40 #[.val (.int p1), .val (.int p2), .val (.int p3), .val (.ref b1), .val (.ref b3), .val (.int (0 : Int32)), .unset, .unset, .unset, .unset, .unset, .unset, .unset, .unset] [])) _
        refine XS.iconst X4.here hx rfl (hb hby at_40) ?_
        show Steps p.tables e below (T4.setTop (mkF m 41 #[.val (.int p1), .val (.int p2), .val (.int p3), .val (.ref b1), .val (.ref b3), .val (.int (0 : Int32)), .unset, .unset, .unset, .unset, .unset, .unset, .unset, .unset] [(.int (0 : Int32))])) _
        refine XS.istore X4.here hx rfl (hb hby at_41) rfl (l' := #[.val (.int p1), .val (.int p2), .val (.int p3), .val (.ref b1), .val (.ref b3), .val (.int (0 : Int32)), .val (.int (0 : Int32)), .unset, .unset, .unset, .unset, .unset, .unset, .unset]) rfl ?_
        show Steps p.tables e below (T4.setTop (mkF m 43 #[.val (.int p1), .val (.int p2), .val (.int p3), .val (.ref b1), .val (.ref b3), .val (.int (0 : Int32)), .val (.int (0 : Int32)), .unset, .unset, .unset, .unset, .unset, .unset, .unset] [])) _
        refine XS.iload X4.here hx rfl (hb hby at_43) rfl ?_
        show Steps p.tables e below (T4.setTop (mkF m 45 #[.val (.int p1), .val (.int p2), .val (.int p3), .val (.ref b1), .val (.ref b3), .val (.int (0 : Int32)), .val (.int (0 : Int32)), .unset, .unset, .unset, .unset, .unset, .unset, .unset] [(.int (0 : Int32))])) _
        refine XS.ifYes X4.here hx rfl (pc0 := 45) (pc' := 52) rfl (hb hby at_45) rfl ((if0 _ _).trans (teq (by decide : (0 : Int32) = (0 : Int32))).1) (by decide) (by decide) ?_
        show Steps p.tables e below (T4.setTop (mkF m 52 #[.val (.int p1), .val (.int p2), .val (.int p3), .val (.ref b1), .val (.ref b3), .val (.int (0 : Int32)), .val (.int (0 : Int32)), .unset, .unset, .unset, .unset, .unset, .unset, .unset] [])) _
        refine XS.iloadN X4.here hx rfl (hb hby at_52) rfl ?_
        show Steps p.tables e below (T4.setTop (mkF m 53 #[.val (.int p1), .val (.int p2), .val (.int p3), .val (.ref b1), .val (.ref b3), .val (.int (0 : Int32)), .val (.int (0 : Int32)), .unset, .unset, .unset, .unset, .unset, .unset, .unset] [(.int p1)])) _
        refine XS.iloadN X4.here hx rfl (hb hby at_53) rfl ?_
        show Steps p.tables e below (T4.setTop (mkF m 54 #[.val (.int p1), .val (.int p2), .val (.int p3), .val (.ref b1), .val (.ref b3), .val (.int (0 : Int32)), .val (.int (0 : Int32)), .unset, .unset, .unset, .unset, .unset, .unset, .unset] [(.int p2), (.int p1)])) _
        refine XS.ixor X4.here hx rfl (hb hby at_54) rfl ?_
        show Steps p.tables e below (T4.setTop (mkF m 55 #[.val (.int p1), .val (.int p2), .val (.int p3), .val (.ref b1), .val (.ref b3), .val (.int (0 : Int32)), .val (.int (0 : Int32)), .unset, .unset, .unset, .unset, .unset, .unset, .unset] [(.int (p1 ^^^ p2))])) _
        refine XS.istore X4.here hx rfl (hb hby at_55) rfl (l' := #[.val (.int p1), .val (.int p2), .val (.int p3), .val (.ref b1), .val (.ref b3), .val (.int (0 : Int32)), .val (.int (0 : Int32)), .val (.int (p1 ^^^ p2)), .unset, .unset, .unset, .unset, .unset, .unset]) rfl ?_
        show Steps p.tables e below (T4.setTop (mkF m 57 #[.val (.int p1), .val (.int p2), .val (.int p3), .val (.ref b1), .val (.ref b3), .val (.int (0 : Int32)), .val (.int (0 : Int32)), .val (.int (p1 ^^^ p2)), .unset, .unset, .unset, .unset, .unset, .unset] [])) _
        refine XS.iload X4.here hx rfl (hb hby at_57) rfl ?_
        show Steps p.tables e below (T4.setTop (mkF m 59 #[.val (.int p1), .val (.int p2), .val (.int p3), .val (.ref b1), .val (.ref b3), .val (.int (0 : Int32)), .val (.int (0 : Int32)), .val (.int (p1 ^^^ p2)), .unset, .unset, .unset, .unset, .unset, .unset] [(.int (0 : Int32))])) _
        refine XS.ifYes X4.here hx rfl (pc0 := 59) (pc' := 66) rfl (hb hby at_59) rfl ((if0 _ _).trans (teq (by decide : (0 : Int32) = (0 : Int32))).1) (by decide) (by decide) ?_
        show Steps p.tables e below (T4.setTop (mkF m 66 #[.val (.int p1), .val (.int p2), .val (.int p3), .val (.ref b1), .val (.ref b3), .val (.int (0 : Int32)), .val (.int (0 : Int32)), .val (.int (p1 ^^^ p2)), .unset, .unset, .unset, .unset, .unset, .unset] [])) _
        refine XS.aload X4.here hx rfl (hb hby at_66) rfl rfl ?_
        show Steps p.tables e below (T4.setTop (mkF m 68 #[.val (.int p1), .val (.int p2), .val (.int p3), .val (.ref b1), .val (.ref b3), .val (.int (0 : Int32)), .val (.int (0 : Int32)), .val (.int (p1 ^^^ p2)), .unset, .unset, .unset, .unset, .unset, .unset] [(.ref b3)])) _
        refine XS.astore X4.here hx rfl (hb hby at_68) rfl rfl (l' := #[.val (.int p1), .val (.int p2), .val (.int p3), .val (.ref b1), .val (.ref b3), .val (.int (0 : Int32)), .val (.int (0 : Int32)), .val (.int (p1 ^^^ p2)), .val (.ref b3), .unset, .unset, .unset, .unset, .unset]) rfl ?_
        show Steps p.tables e below (T4.setTop (mkF m 70 #[.val (.int p1), .val (.int p2), .val (.int p3), .val (.ref b1), .val (.ref b3), .val (.int (0 : Int32)), .val (.int (0 : Int32)), .val (.int (p1 ^^^ p2)), .val (.ref b3), .unset, .unset, .unset, .unset, .unset] [])) _
        refine st5 _ ?_
        show Steps p.tables e below (T5.setTop (mkF m 73 #[.val (.int p1), .val (.int p2), .val (.int p3), .val (.ref b1), .val (.ref b3), .val (.int (0 : Int32)), .val (.int (0 : Int32)), .val (.int (p1 ^^^ p2)), .val (.ref b3), .unset, .unset, .unset, .unset, .unset] [(.ref b5)])) _
        refine XS.dup X5.here hx rfl (hb hby at_73) rfl rfl ?_
        show Steps p.tables e below (T5.setTop (mkF m 74 #[.val (.int p1), .val (.int p2), .val (.int p3), .val (.ref b1), .val (.ref b3), .val (.int (0 : Int32)), .val (.int (0 : Int32)), .val (.int (p1 ^^^ p2)), .val (.ref b3), .unset, .unset, .unset, .unset, .unset] [(.ref b5), (.ref b5)])) _
        refine XS.aloadN X5.here hx rfl (hb hby at_74) rfl rfl ?_
        show Steps p.tables e below (T5.setTop (mkF m 75 #[.val (.int p1), .val (.int p2), .val (.int p3), .val (.ref b1), .val (.ref b3), .val (.int (0 : Int32)), .val (.int (0 : Int32)), .val (.int (p1 ^^^ p2)), .val (.ref b3), .unset, .unset, .unset, .unset, .unset] [(.ref b1), (.ref b5), (.ref b5)])) _
        refine XS.iloadN X5.here hx rfl (hb hby at_75) rfl ?_
        show Steps p.tables e below (T5.setTop (mkF m 76 #[.val (.int p1), .val (.int p2), .val (.int p3), .val (.ref b1), .val (.ref b3), .val (.int (0 : Int32)), .val (.int (0 : Int32)), .val (.int (p1 ^^^ p2)), .val (.ref b3), .unset, .unset, .unset, .unset, .unset] [(.int p1), (.ref b1), (.ref b5), (.ref b5)])) _
        refine st6.trans ?_
        show Steps p.tables e below (T6.setTop (mkF m 79 #[.val (.int p1), .val (.int p2), .val (.int p3), .val (.ref b1), .val (.ref b3), .val (.int (0 : Int32)), .val (.int (0 : Int32)), .val (.int (p1 ^^^ p2)), .val (.ref b3), .unset, .unset, .unset, .unset, .unset] [(.ref b5)])) _
        refine XS.astore X6.here hx rfl (hb hby at_79) rfl rfl (l' := #[.val (.int p1), .val (.int p2), .val (.int p3), .val (.ref b1), .val (.ref b3), .val (.int (0 : Int32)), .val (.int (0 : Int32)), .val (.int (p1 ^^^ p2)), .val (.ref b3), .val (.ref b5), .unset, .unset, .unset, .unset]) rfl ?_
        show Steps p.tables e below (T6.setTop (mkF m 81 #[.val (.int p1), .val (.int p2), .val (.int p3), .val (.ref b1), .val (.ref b3), .val (.int (0 : Int32)), .val (.int (0 : Int32)), .val (.int (p1 ^^^ p2)), .val (.ref b3), .val (.ref b5), .unset, .unset, .unset, .unset] [])) _
        refine st7 _ ?_
        show Steps p.tables e below (T7.setTop (mkF m 84 #[.val (.int p1), .val (.int p2), .val (.int p3), .val (.ref b1), .val (.ref b3), .val (.int (0 : Int32)), .val (.int (0 : Int32)), .val (.int (p1 ^^^ p2)), .val (.ref b3), .val (.ref b5), .unset, .unset, .unset, .unset] [(.ref b7)])) _
        refine XS.dup X7.here hx rfl (hb hby at_84) rfl rfl ?_
        show Steps p.tables e below (T7.setTop (mkF m 85 #[.val (.int p1), .val (.int p2), .val (.int p3), .val (.ref b1), .val (.ref b3), .val (.int (0 : Int32)), .val (.int (0 : Int32)), .val (.int (p1 ^^^ p2)), .val (.ref b3), .val (.ref b5), .unset, .unset, .unset, .unset] [(.ref b7), (.ref b7)])) _
        refine XS.aload X7.here hx rfl (hb hby at_85) rfl rfl ?_
        show Steps p.tables e below (T7.setTop (mkF m 87 #[.val (.int p1), .val (.int p2), .val (.int p3), .val (.ref b1), .val (.ref b3), .val (.int (0 : Int32)), .val (.int (0 : Int32)), .val (.int (p1 ^^^ p2)), .val (.ref b3), .val (.ref b5), .unset, .unset, .unset, .unset] [(.ref b3), (.ref b7), (.ref b7)])) _
        refine XS.iload X7.here hx rfl (hb hby at_87) rfl ?_
        show Steps p.tables e below (T7.setTop (mkF m 89 #[.val (.int p1), .val (.int p2), .val (.int p3), .val (.ref b1), .val (.ref b3), .val (.int (0 : Int32)), .val (.int (0 : Int32)), .val (.int (p1 ^^^ p2)), .val (.ref b3), .val (.ref b5), .unset, .unset, .unset, .unset] [(.int (p1 ^^^ p2)), (.ref b3), (.ref b7), (.ref b7)])) _
        refine st8.trans ?_
        show Steps p.tables e below (T8.setTop (mkF m 92 #[.val (.int p1), .val (.int p2), .val (.int p3), .val (.ref b1), .val (.ref b3), .val (.int (0 : Int32)), .val (.int (0 : Int32)), .val (.int (p1 ^^^ p2)), .val (.ref b3), .val (.ref b5), .unset, .unset, .unset, .unset] [(.ref b7)])) _
        refine XS.astore X8.here hx rfl (hb hby at_92) rfl rfl (l' := #[.val (.int p1), .val (.int p2), .val (.int p3), .val (.ref b1), .val (.ref b3), .val (.int (0 : Int32)), .val (.int (0 : Int32)), .val (.int (p1 ^^^ p2)), .val (.ref b3), .val (.ref b5), .val (.ref b7), .unset, .unset, .unset]) rfl ?_
        show Steps p.tables e below (T8.setTop (mkF m 94 #[.val (.int p1), .val (.int p2), .val (.int p3), .val (.ref b1), .val (.ref b3), .val (.int (0 : Int32)), .val (.int (0 : Int32)), .val (.int (p1 ^^^ p2)), .val (.ref b3), .val (.ref b5), .val (.ref b7), .unset, .unset, .unset] [])) _
        refine XS.iload X8.here hx rfl (hb hby at_94) rfl ?_
        show Steps p.tables e below (T8.setTop (mkF m 96 #[.val (.int p1), .val (.int p2), .val (.int p3), .val (.ref b1), .val (.ref b3), .val (.int (0 : Int32)), .val (.int (0 : Int32)), .val (.int (p1 ^^^ p2)), .val (.ref b3), .val (.ref b5), .val (.ref b7), .unset, .unset, .unset] [(.int (0 : Int32))])) _
        refine XS.ifYes X8.here hx rfl (pc0 := 96) (pc' := 109) rfl (hb hby at_96) rfl ((if0 _ _).trans (teq (by decide : (0 : Int32) = (0 : Int32))).1) (by decide) (by decide) ?_
        show Steps p.tables e below (T8.setTop (mkF m 109 #[.val (.int p1), .val (.int p2), .val (.int p3), .val (.ref b1), .val (.ref b3), .val (.int (0 : Int32)), .val (.int (0 : Int32)), .val (.int (p1 ^^^ p2)), .val (.ref b3), .val (.ref b5), .val (.ref b7), .unset, .unset, .unset] [])) _
        refine XS.iconst X8.here hx rfl (hb hby at_109) ?_
        show Steps p.tables e below (T8.setTop (mkF m 110 #[.val (.int p1), .val (.int p2), .val (.int p3), .val (.ref b1), .val (.ref b3), .val (.int (0 : Int32)), .val (.int (0 : Int32)), .val (.int (p1 ^^^ p2)), .val (.ref b3), .val (.ref b5), .val (.ref b7), .unset, .unset, .unset] [(.int (0 : Int32))])) _
        refine XS.istore X8.here hx rfl (hb hby at_110) rfl (l' := #[.val (.int p1), .val (.int p2), .val (.int p3), .val (.ref b1), .val (.ref b3), .val (.int (0 : Int32)), .val (.int (0 : Int32)), .val (.int (p1 ^^^ p2)), .val (.ref b3), .val (.ref b5), .val (.ref b7), .val (.int (0 : Int32)), .unset, .unset]) rfl ?_
        show Steps p.tables e below (T8.setTop (mkF m 112 #[.val (.int p1), .val (.int p2), .val (.int p3), .val (.ref b1), .val (.ref b3), .val (.int (0 : Int32)), .val (.int (0 : Int32)), .val (.int (p1 ^^^ p2)), .val (.ref b3), .val (.ref b5), .val (.ref b7), .val (.int (0 : Int32)), .unset, .unset] [])) _
        refine XS.iloadN X8.here hx rfl (hb hby at_112) rfl ?_
        show Steps p.tables e below (T8.setTop (mkF m 113 #[.val (.int p1), .val (.int p2), .val (.int p3), .val (.ref b1), .val (.ref b3), .val (.int (0 : Int32)), .val (.int (0 : Int32)), .val (.int (p1 ^^^ p2)), .val (.ref b3), .val (.ref b5), .val (.ref b7), .val (.int (0 : Int32)), .unset, .unset] [(.int p1)])) _
        refine st9 _ ?_
        show Steps p.tables e below (T9.setTop (mkF m 116 #[.val (.int p1), .val (.int p2), .val (.int p3), .val (.ref b1), .val (.ref b3), .val (.int (0 : Int32)), .val (.int (0 : Int32)), .val (.int (p1 ^^^ p2)), .val (.ref b3), .val (.ref b5), .val (.ref b7), .val (.int (0 : Int32)), .unset, .unset] [(.ref bx9)])) _
        refine XS.astore X9.here hx rfl (hb hby at_116) rfl rfl (l' := #[.val (.int p1), .val (.int p2), .val (.int p3), .val (.ref b1), .val (.ref b3), .val (.int (0 : Int32)), .val (.int (0 : Int32)), .val (.int (p1 ^^^ p2)), .val (.ref b3), .val (.ref b5), .val (.ref b7), .val (.int (0 : Int32)), .val (.ref bx9), .unset]) rfl ?_
        show Steps p.tables e below (T9.setTop (mkF m 118 #[.val (.int p1), .val (.int p2), .val (.int p3), .val (.ref b1), .val (.ref b3), .val (.int (0 : Int32)), .val (.int (0 : Int32)), .val (.int (p1 ^^^ p2)), .val (.ref b3), .val (.ref b5), .val (.ref b7), .val (.int (0 : Int32)), .val (.ref bx9), .unset] [])) _
        refine XS.aconstNull X9.here hx rfl (hb hby at_118) ?_
        show Steps p.tables e below (T9.setTop (mkF m 119 #[.val (.int p1), .val (.int p2), .val (.int p3), .val (.ref b1), .val (.ref b3), .val (.int (0 : Int32)), .val (.int (0 : Int32)), .val (.int (p1 ^^^ p2)), .val (.ref b3), .val (.ref b5), .val (.ref b7), .val (.int (0 : Int32)), .val (.ref bx9), .unset] [.null])) _
        refine XS.astore X9.here hx rfl (hb hby at_119) rfl rfl (l' := #[.val (.int p1), .val (.int p2), .val (.int p3), .val (.ref b1), .val (.ref b3), .val (.int (0 : Int32)), .val (.int (0 : Int32)), .val (.int (p1 ^^^ p2)), .val (.ref b3), .val (.ref b5), .val (.ref b7), .val (.int (0 : Int32)), .val (.ref bx9), .val .null]) rfl ?_
        show Steps p.tables e below (T9.setTop (mkF m 121 #[.val (.int p1), .val (.int p2), .val (.int p3), .val (.ref b1), .val (.ref b3), .val (.int (0 : Int32)), .val (.int (0 : Int32)), .val (.int (p1 ^^^ p2)), .val (.ref b3), .val (.ref b5), .val (.ref b7), .val (.int (0 : Int32)), .val (.ref bx9), .val .null] [])) _
        refine XS.aload X9.here hx rfl (hb hby at_121) rfl rfl ?_
        show Steps p.tables e below (T9.setTop (mkF m 123 #[.val (.int p1), .val (.int p2), .val (.int p3), .val (.ref b1), .val (.ref b3), .val (.int (0 : Int32)), .val (.int (0 : Int32)), .val (.int (p1 ^^^ p2)), .val (.ref b3), .val (.ref b5), .val (.ref b7), .val (.int (0 : Int32)), .val (.ref bx9), .val .null] [(.ref b5)])) _
        refine XS.aload X9.here hx rfl (hb hby at_123) rfl rfl ?_
        show Steps p.tables e below (T9.setTop (mkF m 125 #[.val (.int p1), .val (.int p2), .val (.int p3), .val (.ref b1), .val (.ref b3), .val (.int (0 : Int32)), .val (.int (0 : Int32)), .val (.int (p1 ^^^ p2)), .val (.ref b3), .val (.ref b5), .val (.ref b7), .val (.int (0 : Int32)), .val (.ref bx9), .val .null] [(.ref b7), (.ref b5)])) _
        refine st10.trans ?_
        show Steps p.tables e below (T10.setTop (mkF m 128 #[.val (.int p1), .val (.int p2), .val (.int p3), .val (.ref b1), .val (.ref b3), .val (.int (0 : Int32)), .val (.int (0 : Int32)), .val (.int (p1 ^^^ p2)), .val (.ref b3), .val (.ref b5), .val (.ref b7), .val (.int (0 : Int32)), .val (.ref bx9), .val .null] [(.int (0 : Int32))])) _
        refine XS.iload X10.here hx rfl (hb hby at_128) rfl ?_
        show Steps p.tables e below (T10.setTop (mkF m 130 #[.val (.int p1), .val (.int p2), .val (.int p3), .val (.ref b1), .val (.ref b3), .val (.int (0 : Int32)), .val (.int (0 : Int32)), .val (.int (p1 ^^^ p2)), .val (.ref b3), .val (.ref b5), .val (.ref b7), .val (.int (0 : Int32)), .val (.ref bx9), .val .null] [(.int (0 : Int32)), (.int (0 : Int32))])) _
        refine XS.icmpNo X10.here hx rfl (hb hby at_130) rfl (teq (by decide : (0 : Int32) = (0 : Int32))).2 ?_
        show Steps p.tables e below (T10.setTop (mkF m 133 #[.val (.int p1), .val (.int p2), .val (.int p3), .val (.ref b1), .val (.ref b3), .val (.int (0 : Int32)), .val (.int (0 : Int32)), .val (.int (p1 ^^^ p2)), .val (.ref b3), .val (.ref b5), .val (.ref b7), .val (.int (0 : Int32)), .val (.ref bx9), .val .null] [])) _
        refine XS.aload X10.here hx rfl (hb hby at_133) rfl rfl ?_
        show Steps p.tables e below (T10.setTop (mkF m 135 #[.val (.int p1), .val (.int p2), .val (.int p3), .val (.ref b1), .val (.ref b3), .val (.int (0 : Int32)), .val (.int (0 : Int32)), .val (.int (p1 ^^^ p2)), .val (.ref b3), .val (.ref b5), .val (.ref b7), .val (.int (0 : Int32)), .val (.ref bx9), .val .null] [(.ref b7)])) _
        refine XS.aload X10.here hx rfl (hb hby at_135) rfl rfl ?_
        show Steps p.tables e below (T10.setTop (mkF m 137 #[.val (.int p1), .val (.int p2), .val (.int p3), .val (.ref b1), .val (.ref b3), .val (.int (0 : Int32)), .val (.int (0 : Int32)), .val (.int (p1 ^^^ p2)), .val (.ref b3), .val (.ref b5), .val (.ref b7), .val (.int (0 : Int32)), .val (.ref bx9), .val .null] [(.ref b5), (.ref b7)])) _
        refine st11.trans ?_
        show Steps p.tables e below (T11.setTop (mkF m 140 #[.val (.int p1), .val (.int p2), .val (.int p3), .val (.ref b1), .val (.ref b3), .val (.int (0 : Int32)), .val (.int (0 : Int32)), .val (.int (p1 ^^^ p2)), .val (.ref b3), .val (.ref b5), .val (.ref b7), .val (.int (0 : Int32)), .val (.ref bx9), .val .null] [(.int (0 : Int32))])) _
        refine XS.iload X11.here hx rfl (hb hby at_140) rfl ?_
        show Steps p.tables e below (T11.setTop (mkF m 142 #[.val (.int p1), .val (.int p2), .val (.int p3), .val (.ref b1), .val (.ref b3), .val (.int (0 : Int32)), .val (.int (0 : Int32)), .val (.int (p1 ^^^ p2)), .val (.ref b3), .val (.ref b5), .val (.ref b7), .val (.int (0 : Int32)), .val (.ref bx9), .val .null] [(.int (0 : Int32)), (.int (0 : Int32))])) _
        refine XS.icmpNo X11.here hx rfl (hb hby at_142) rfl (teq (by decide : (0 : Int32) = (0 : Int32))).2 ?_
        show Steps p.tables e below (T11.setTop (mkF m 145 #[.val (.int p1), .val (.int p2), .val (.int p3), .val (.ref b1), .val (.ref b3), .val (.int (0 : Int32)), .val (.int (0 : Int32)), .val (.int (p1 ^^^ p2)), .val (.ref b3), .val (.ref b5), .val (.ref b7), .val (.int (0 : Int32)), .val (.ref bx9), .val .null] [])) _
        refine XS.aload X11.here hx rfl (hb hby at_145) rfl rfl ?_
        show Steps p.tables e below (T11.setTop (mkF m 147 #[.val (.int p1), .val (.int p2), .val (.int p3), .val (.ref b1), .val (.ref b3), .val (.int (0 : Int32)), .val (.int (0 : Int32)), .val (.int (p1 ^^^ p2)), .val (.ref b3), .val (.ref b5), .val (.ref b7), .val (.int (0 : Int32)), .val (.ref bx9), .val .null] [(.ref b5)])) _
        refine XS.aload X11.here hx rfl (hb hby at_147) rfl rfl ?_
        show Steps p.tables e below (T11.setTop (mkF m 149 #[.val (.int p1), .val (.int p2), .val (.int p3), .val (.ref b1), .val (.ref b3), .val (.int (0 : Int32)), .val (.int (0 : Int32)), .val (.int (p1 ^^^ p2)), .val (.ref b3), .val (.ref b5), .val (.ref b7), .val (.int (0 : Int32)), .val (.ref bx9), .val .null] [(.ref b5), (.ref b5)])) _
        refine st12.trans ?_
        show Steps p.tables e below (T12.setTop (mkF m 152 #[.val (.int p1), .val (.int p2), .val (.int p3), .val (.ref b1), .val (.ref b3), .val (.int (0 : Int32)), .val (.int (0 : Int32)), .val (.int (p1 ^^^ p2)), .val (.ref b3), .val (.ref b5), .val (.ref b7), .val (.int (0 : Int32)), .val (.ref bx9), .val .null] [(.int (1 : Int32))])) _
        refine XS.ifNo X12.here hx rfl (hb hby at_152) rfl ((if0 _ _).trans (feq (by decide : ¬ ((1 : Int32) = (0 : Int32)))).1) ?_
        show Steps p.tables e below (T12.setTop (mkF m 155 #[.val (.int p1), .val (.int p2), .val (.int p3), .val (.ref b1), .val (.ref b3), .val (.int (0 : Int32)), .val (.int (0 : Int32)), .val (.int (p1 ^^^ p2)), .val (.ref b3), .val (.ref b5), .val (.ref b7), .val (.int (0 : Int32)), .val (.ref bx9), .val .null] [])) _
        refine XS.aload X12.here hx rfl (hb hby at_155) rfl rfl ?_
        show Steps p.tables e below (T12.setTop (mkF m 157 #[.val (.int p1), .val (.int p2), .val (.int p3), .val (.ref b1), .val (.ref b3), .val (.int (0 : Int32)), .val (.int (0 : Int32)), .val (.int (p1 ^^^ p2)), .val (.ref b3), .val (.ref b5), .val (.ref b7), .val (.int (0 : Int32)), .val (.ref bx9), .val .null] [(.ref b5)])) _
        refine XS.aload X12.here hx rfl (hb hby at_157) rfl rfl ?_
        show Steps p.tables e below (T12.setTop (mkF m 159 #[.val (.int p1), .val (.int p2), .val (.int p3), .val (.ref b1), .val (.ref b3), .val (.int (0 : Int32)), .val (.int (0 : Int32)), .val (.int (p1 ^^^ p2)), .val (.ref b3), .val (.ref b5), .val (.ref b7), .val (.int (0 : Int32)), .val (.ref bx9), .val .null] [(.ref bx9), (.ref b5)])) _
        refine st13.trans ?_
        show Steps p.tables e below (T13.setTop (mkF m 162 #[.val (.int p1), .val (.int p2), .val (.int p3), .val (.ref b1), .val (.ref b3), .val (.int (0 : Int32)), .val (.int (0 : Int32)), .val (.int (p1 ^^^ p2)), .val (.ref b3), .val (.ref b5), .val (.ref b7), .val (.int (0 : Int32)), .val (.ref bx9), .val .null] [(.int (0 : Int32))])) _
        refine XS.ifNo X13.here hx rfl (hb hby at_162) rfl ((if0 _ _).trans (teq (by decide : (0 : Int32) = (0 : Int32))).2) ?_
        show Steps p.tables e below (T13.setTop (mkF m 165 #[.val (.int p1), .val (.int p2), .val (.int p3), .val (.ref b1), .val (.ref b3), .val (.int (0 : Int32)), .val (.int (0 : Int32)), .val (.int (p1 ^^^ p2)), .val (.ref b3), .val (.ref b5), .val (.ref b7), .val (.int (0 : Int32)), .val (.ref bx9), .val .null] [])) _
        refine XS.aload X13.here hx rfl (hb hby at_165) rfl rfl ?_
        show Steps p.tables e below (T13.setTop (mkF m 167 #[.val (.int p1), .val (.int p2), .val (.int p3), .val (.ref b1), .val (.ref b3), .val (.int (0 : Int32)), .val (.int (0 : Int32)), .val (.int (p1 ^^^ p2)), .val (.ref b3), .val (.ref b5), .val (.ref b7), .val (.int (0 : Int32)), .val (.ref bx9), .val .null] [(.ref b5)])) _
        refine XS.aload X13.here hx rfl (hb hby at_167) rfl rfl ?_
        show Steps p.tables e below (T13.setTop (mkF m 169 #[.val (.int p1), .val (.int p2), .val (.int p3), .val (.ref b1), .val (.ref b3), .val (.int (0 : Int32)), .val (.int (0 : Int32)), .val (.int (p1 ^^^ p2)), .val (.ref b3), .val (.ref b5), .val (.ref b7), .val (.int (0 : Int32)), .val (.ref bx9), .val .null] [.null, (.ref b5)])) _
        refine st14.trans ?_
        show Steps p.tables e below (T14.setTop (mkF m 172 #[.val (.int p1), .val (.int p2), .val (.int p3), .val (.ref b1), .val (.ref b3), .val (.int (0 : Int32)), .val (.int (0 : Int32)), .val (.int (p1 ^^^ p2)), .val (.ref b3), .val (.ref b5), .val (.ref b7), .val (.int (0 : Int32)), .val (.ref bx9), .val .null] [(.int (0 : Int32))])) _
        refine XS.ifNo X14.here hx rfl (hb hby at_172) rfl ((if0 _ _).trans (teq (by decide : (0 : Int32) = (0 : Int32))).2) ?_
        show Steps p.tables e below (T14.setTop (mkF m 175 #[.val (.int p1), .val (.int p2), .val (.int p3), .val (.ref b1), .val (.ref b3), .val (.int (0 : Int32)), .val (.int (0 : Int32)), .val (.int (p1 ^^^ p2)), .val (.ref b3), .val (.ref b5), .val (.ref b7), .val (.int (0 : Int32)), .val (.ref bx9), .val .null] [])) _
        refine XS.iconst X14.here hx rfl (hb hby at_175) ?_
        show Steps p.tables e below (T14.setTop (mkF m 176 #[.val (.int p1), .val (.int p2), .val (.int p3), .val (.ref b1), .val (.ref b3), .val (.int (0 : Int32)), .val (.int (0 : Int32)), .val (.int (p1 ^^^ p2)), .val (.ref b3), .val (.ref b5), .val (.ref b7), .val (.int (0 : Int32)), .val (.ref bx9), .val .null] [(.int (1 : Int32))])) _
        refine XS.goto X14.here hx rfl (pc0 := 176) (pc' := 180) rfl (hb hby at_176) (by decide) (by decide) ?_
        show Steps p.tables e below (T14.setTop (mkF m 180 #[.val (.int p1), .val (.int p2), .val (.int p3), .val (.ref b1), .val (.ref b3), .val (.int (0 : Int32)), .val (.int (0 : Int32)), .val (.int (p1 ^^^ p2)), .val (.ref b3), .val (.ref b5), .val (.ref b7), .val (.int (0 : Int32)), .val (.ref bx9), .val .null] [(.int (1 : Int32))])) _
        exact retN X14 hx (t := .boolean) Bd.returns (by simp) (hb hby at_180) hr
      · show Q_rm0 Z p1 p2 p3 ca h0 n0 _ T14.heap _
        rw [e14]
        exact ⟨rfl, N14⟩
    · by_cases hn : p1 = (p1 ^^^ p2)
      · obtain ⟨T1, h1, X1, e1, E1, A1, D1, -, st1⟩ := newO X0 hx hZ hown (hw _ (List.mem_of_getElem? (i := 0) rfl)) (hw _ (List.mem_of_getElem? (i := 1) rfl)) (hw _ (List.mem_of_getElem? (i := 2) rfl)) e0 (g := (mkF m 0 #[.val (.int p1), .val (.int p2), .val (.int p3), .unset, .unset, .unset, .unset, .unset, .unset, .unset, .unset, .unset, .unset, .unset] [])) rfl (hb hby at_0) (by decide) (by decide)
        obtain ⟨b1, g1⟩ : ∃ z, z = h0.size := ⟨_, rfl⟩
        rw [← g1] at A1 D1 st1
        have ge_b1 : n0 ≤ b1 := Nat.le_trans Z0 (Nat.le_of_eq g1.symm)
        have sz_b1 : h0.size ≤ b1 := Nat.le_trans (Keep.refl h0 []).1 (Nat.le_of_eq g1.symm)
        have Z1 : n0 ≤ h1.size := Nat.le_trans Z0 E1.1
        have Kp1 : Keep h0 h1 [] := (Keep.refl h0 []).ext E1
        have F_variableOf_b1 : Fld Z h1 b1 "com/example/brevi/brevi/bdd/BddManager" "variableOf" "[I" .null := D1 (Or.inl (hw _ (List.mem_of_getElem? (i := 15) rfl))) (ty := (.array .int)) (by decide)
        have F_lowOf_b1 : Fld Z h1 b1 "com/example/brevi/brevi/bdd/BddManager" "lowOf" "[I" .null := D1 (Or.inl (hw _ (List.mem_of_getElem? (i := 17) rfl))) (ty := (.array .int)) (by decide)
        have F_highOf_b1 : Fld Z h1 b1 "com/example/brevi/brevi/bdd/BddManager" "highOf" "[I" .null := D1 (Or.inl (hw _ (List.mem_of_getElem? (i := 19) rfl))) (ty := (.array .int)) (by decide)
        have F_nextInBucket_b1 : Fld Z h1 b1 "com/example/brevi/brevi/bdd/BddManager" "nextInBucket" "[I" .null := D1 (Or.inl (hw _ (List.mem_of_getElem? (i := 21) rfl))) (ty := (.array .int)) (by decide)
        have F_bucketHead_b1 : Fld Z h1 b1 "com/example/brevi/brevi/bdd/BddManager" "bucketHead" "[I" .null := D1 (Or.inl (hw _ (List.mem_of_getElem? (i := 23) rfl))) (ty := (.array .int)) (by decide)
        have F_cacheOperation_b1 : Fld Z h1 b1 "com/example/brevi/brevi/bdd/BddManager" "cacheOperation" "[I" .null := D1 (Or.inl (hw _ (List.mem_of_getElem? (i := 33) rfl))) (ty := (.array .int)) (by decide)
        have F_cacheFirst_b1 : Fld Z h1 b1 "com/example/brevi/brevi/bdd/BddManager" "cacheFirst" "[I" .null := D1 (Or.inl (hw _ (List.mem_of_getElem? (i := 35) rfl))) (ty := (.array .int)) (by decide)
        have F_cacheSecond_b1 : Fld Z h1 b1 "com/example/brevi/brevi/bdd/BddManager" "cacheSecond" "[I" .null := D1 (Or.inl (hw _ (List.mem_of_getElem? (i := 37) rfl))) (ty := (.array .int)) (by decide)
        have F_cacheThird_b1 : Fld Z h1 b1 "com/example/brevi/brevi/bdd/BddManager" "cacheThird" "[I" .null := D1 (Or.inl (hw _ (List.mem_of_getElem? (i := 39) rfl))) (ty := (.array .int)) (by decide)
        have F_cacheResult_b1 : Fld Z h1 b1 "com/example/brevi/brevi/bdd/BddManager" "cacheResult" "[I" .null := D1 (Or.inl (hw _ (List.mem_of_getElem? (i := 41) rfl))) (ty := (.array .int)) (by decide)
        have F_nodeCount_b1 : Fld Z h1 b1 "com/example/brevi/brevi/bdd/BddManager" "nodeCount" "I" (.int (0 : Int32)) := D1 (Or.inl (hw _ (List.mem_of_getElem? (i := 48) rfl))) (ty := .int) (by decide)
        have F_falseBdd_b1 : Fld Z h1 b1 "com/example/brevi/brevi/bdd/BddManager" "falseBdd" "Lcom/example/brevi/brevi/bdd/Bdd;" .null := D1 (Or.inr (hw _ (List.mem_of_getElem? (i := 61) rfl))) (ty := (.object "com/example/brevi/brevi/bdd/Bdd")) (by decide)
        have F_trueBdd_b1 : Fld Z h1 b1 "com/example/brevi/brevi/bdd/BddManager" "trueBdd" "Lcom/example/brevi/brevi/bdd/Bdd;" .null := D1 (Or.inr (hw _ (List.mem_of_getElem? (i := 63) rfl))) (ty := (.object "com/example/brevi/brevi/bdd/Bdd")) (by decide)
        obtain ⟨_, _, ⟨T2, L2, k2, n2⟩, -, X2, ⟨Lc2, hQ2, l2, y2, z2⟩, st2⟩ := X1.specialBack hx (y := (⟨"com/example/brevi/brevi/bdd/BddManager", "<init>", "()V"⟩ : MethodName)) rfl hown (mvT hZ (hw _ (List.mem_of_getElem? (i := 3) rfl))) (mvT hZ (hw _ (List.mem_of_getElem? (i := 4) rfl))) (mvT hZ (hw _ (List.mem_of_getElem? (i := 5) rfl))) (by decide) (backOf (W := 1) (rmM l Z a0 hw [] b1 h1 n0 Z1 A1 F_variableOf_b1 F_lowOf_b1 F_highOf_b1 F_nextInBucket_b1 F_bucketHead_b1 F_cacheOperation_b1 F_cacheFirst_b1 F_cacheSecond_b1 F_cacheThird_b1 F_cacheResult_b1 F_nodeCount_b1 F_falseBdd_b1 F_trueBdd_b1 ge_b1) hZ (hw _ (List.mem_of_getElem? (i := 5) rfl)) (hw _ (List.mem_of_getElem? (i := 2) rfl)) (by decide) (by decide)) (g := (mkF m 4 #[.val (.int p1), .val (.int p2), .val (.int p3), .unset, .unset, .unset, .unset, .unset, .unset, .unset, .unset, .unset, .unset, .unset] [(.ref b1), (.ref b1)])) rfl (by rw [hml]; rfl) (Steps.refl _) (a := b1) (argsL := []) (rest := [(.ref b1)]) (lenOf pd_0 rfl) rfl (by show 2 * 0 + _ ≤ _; exact Nat.le_of_eq rfl) (hb hby at_4) (fun _ _ => ⟨rfl, e1, (by decide : 1 + 12 ≤ _), (by decide : 15 + 40964 ≤ _)⟩)
        dsimp only [Pt.U, Pt.locs, Pt.cells, Pt.slots] at X2 l2 y2 z2 st2 hQ2
        subst l2 y2 z2
        obtain ⟨rfl, Nq2, K2⟩ := hQ2
        have A1_2 := A1.keep K2
        have Z2 : n0 ≤ T2.heap.size := Nat.le_trans Z1 K2.1
        have Kp2 : Keep h0 T2.heap [] := Kp1.trans K2 (allS (Or.inr sz_b1) all0)
        have N2 := Fr.app N0 Nq2
        obtain ⟨T3, h3, X3, e3, E3, A3, D3, -, st3⟩ := newO X2 hx hZ hown (hw _ (List.mem_of_getElem? (i := 0) rfl)) (hw _ (List.mem_of_getElem? (i := 1) rfl)) (hw _ (List.mem_of_getElem? (i := 2) rfl)) rfl (g := (mkF m 8 #[.val (.int p1), .val (.int p2), .val (.int p3), .val (.ref b1), .unset, .unset, .unset, .unset, .unset, .unset, .unset, .unset, .unset, .unset] [])) rfl (hb hby at_8) (by decide) (by decide)
        obtain ⟨b3, g3⟩ : ∃ z, z = T2.heap.size := ⟨_, rfl⟩
        rw [← g3] at A3 D3 st3
        have ne_b1_b3 : b1 ≠ b3 := Nat.ne_of_lt (Nat.lt_of_lt_of_eq A1_2.lt g3.symm)
        have ge_b3 : n0 ≤ b3 := Nat.le_trans Z2 (Nat.le_of_eq g3.symm)
        have sz_b3 : h0.size ≤ b3 := Nat.le_trans Kp2.1 (Nat.le_of_eq g3.symm)
        have A1_3 := A1_2.ext E3
        have Z3 : n0 ≤ h3.size := Nat.le_trans Z2 E3.1
        have Kp3 : Keep h0 h3 [] := Kp2.ext E3
        have F_variableOf_b3 : Fld Z h3 b3 "com/example/brevi/brevi/bdd/BddManager" "variableOf" "[I" .null := D3 (Or.inl (hw _ (List.mem_of_getElem? (i := 15) rfl))) (ty := (.array .int)) (by decide)
        have F_lowOf_b3 : Fld Z h3 b3 "com/example/brevi/brevi/bdd/BddManager" "lowOf" "[I" .null := D3 (Or.inl (hw _ (List.mem_of_getElem? (i := 17) rfl))) (ty := (.array .int)) (by decide)
        have F_highOf_b3 : Fld Z h3 b3 "com/example/brevi/brevi/bdd/BddManager" "highOf" "[I" .null := D3 (Or.inl (hw _ (List.mem_of_getElem? (i := 19) rfl))) (ty := (.array .int)) (by decide)
        have F_nextInBucket_b3 : Fld Z h3 b3 "com/example/brevi/brevi/bdd/BddManager" "nextInBucket" "[I" .null := D3 (Or.inl (hw _ (List.mem_of_getElem? (i := 21) rfl))) (ty := (.array .int)) (by decide)
        have F_bucketHead_b3 : Fld Z h3 b3 "com/example/brevi/brevi/bdd/BddManager" "bucketHead" "[I" .null := D3 (Or.inl (hw _ (List.mem_of_getElem? (i := 23) rfl))) (ty := (.array .int)) (by decide)
        have F_cacheOperation_b3 : Fld Z h3 b3 "com/example/brevi/brevi/bdd/BddManager" "cacheOperation" "[I" .null := D3 (Or.inl (hw _ (List.mem_of_getElem? (i := 33) rfl))) (ty := (.array .int)) (by decide)
        have F_cacheFirst_b3 : Fld Z h3 b3 "com/example/brevi/brevi/bdd/BddManager" "cacheFirst" "[I" .null := D3 (Or.inl (hw _ (List.mem_of_getElem? (i := 35) rfl))) (ty := (.array .int)) (by decide)
        have F_cacheSecond_b3 : Fld Z h3 b3 "com/example/brevi/brevi/bdd/BddManager" "cacheSecond" "[I" .null := D3 (Or.inl (hw _ (List.mem_of_getElem? (i := 37) rfl))) (ty := (.array .int)) (by decide)
        have F_cacheThird_b3 : Fld Z h3 b3 "com/example/brevi/brevi/bdd/BddManager" "cacheThird" "[I" .null := D3 (Or.inl (hw _ (List.mem_of_getElem? (i := 39) rfl))) (ty := (.array .int)) (by decide)
        have F_cacheResult_b3 : Fld Z h3 b3 "com/example/brevi/brevi/bdd/BddManager" "cacheResult" "[I" .null := D3 (Or.inl (hw _ (List.mem_of_getElem? (i := 41) rfl))) (ty := (.array .int)) (by decide)
        have F_nodeCount_b3 : Fld Z h3 b3 "com/example/brevi/brevi/bdd/BddManager" "nodeCount" "I" (.int (0 : Int32)) := D3 (Or.inl (hw _ (List.mem_of_getElem? (i := 48) rfl))) (ty := .int) (by decide)
        have F_falseBdd_b3 : Fld Z h3 b3 "com/example/brevi/brevi/bdd/BddManager" "falseBdd" "Lcom/example/brevi/brevi/bdd/Bdd;" .null := D3 (Or.inr (hw _ (List.mem_of_getElem? (i := 61) rfl))) (ty := (.object "com/example/brevi/brevi/bdd/Bdd")) (by decide)
        have F_trueBdd_b3 : Fld Z h3 b3 "com/example/brevi/brevi/bdd/BddManager" "trueBdd" "Lcom/example/brevi/brevi/bdd/Bdd;" .null := D3 (Or.inr (hw _ (List.mem_of_getElem? (i := 63) rfl))) (ty := (.object "com/example/brevi/brevi/bdd/Bdd")) (by decide)
        obtain ⟨_, _, ⟨T4, L4, k4, n4⟩, -, X4, ⟨Lc4, hQ4, l4, y4, z4⟩, st4⟩ := X3.specialBack hx (y := (⟨"com/example/brevi/brevi/bdd/BddManager", "<init>", "()V"⟩ : MethodName)) rfl hown (mvT hZ (hw _ (List.mem_of_getElem? (i := 3) rfl))) (mvT hZ (hw _ (List.mem_of_getElem? (i := 4) rfl))) (mvT hZ (hw _ (List.mem_of_getElem? (i := 5) rfl))) (by decide) (backOf (W := 1) (rmM l Z a0 hw [] b3 h3 n0 Z3 A3 F_variableOf_b3 F_lowOf_b3 F_highOf_b3 F_nextInBucket_b3 F_bucketHead_b3 F_cacheOperation_b3 F_cacheFirst_b3 F_cacheSecond_b3 F_cacheThird_b3 F_cacheResult_b3 F_nodeCount_b3 F_falseBdd_b3 F_trueBdd_b3 ge_b3) hZ (hw _ (List.mem_of_getElem? (i := 5) rfl)) (hw _ (List.mem_of_getElem? (i := 2) rfl)) (by decide) (by decide)) (g := (mkF m 12 #[.val (.int p1), .val (.int p2), .val (.int p3), .val (.ref b1), .unset, .unset, .unset, .unset, .unset, .unset, .unset, .unset, .unset, .unset] [(.ref b3), (.ref b3)])) rfl (by rw [hml]; rfl) (Steps.refl _) (a := b3) (argsL := []) (rest := [(.ref b3)]) (lenOf pd_0 rfl) rfl (by show 2 * 0 + _ ≤ _; exact Nat.le_of_eq rfl) (hb hby at_12) (fun _ _ => ⟨rfl, e3, (by decide : 14 + 12 ≤ _), (by decide : 40994 + 40964 ≤ _)⟩)
        dsimp only [Pt.U, Pt.locs, Pt.cells, Pt.slots] at X4 l4 y4 z4 st4 hQ4
        subst l4 y4 z4
        obtain ⟨rfl, Nq4, K4⟩ := hQ4
        have A1_4 := A1_3.keep K4
        have A3_4 := A3.keep K4
        have Z4 : n0 ≤ T4.heap.size := Nat.le_trans Z3 K4.1
        have Kp4 : Keep h0 T4.heap [] := Kp3.trans K4 (allS (Or.inr sz_b3) all0)
        have N4 := Fr.app N2 Nq4
        obtain ⟨T5, h5, X5, e5, E5, A5, D5, -, st5⟩ := newO X4 hx hZ hown (hw _ (List.mem_of_getElem? (i := 64) rfl)) (hw _ (List.mem_of_getElem? (i := 50) rfl)) (hw _ (List.mem_of_getElem? (i := 51) rfl)) rfl (g := (mkF m 70 #[.val (.int p1), .val (.int p2), .val (.int p3), .val (.ref b1), .val (.ref b3), .val (.int (0 : Int32)), .val (.int (1 : Int32)), .val (.int (p1 ^^^ p2)), .val (.ref b1), .unset, .unset, .unset, .unset, .unset] [])) rfl (hb hby at_70) (by decide) (by decide)
        obtain ⟨b5, g5⟩ : ∃ z, z = T4.heap.size := ⟨_, rfl⟩
        rw [← g5] at A5 D5 st5
        have ne_b1_b5 : b1 ≠ b5 := Nat.ne_of_lt (Nat.lt_of_lt_of_eq A1_4.lt g5.symm)
        have ne_b3_b5 : b3 ≠ b5 := Nat.ne_of_lt (Nat.lt_of_lt_of_eq A3_4.lt g5.symm)
        have ge_b5 : n0 ≤ b5 := Nat.le_trans Z4 (Nat.le_of_eq g5.symm)
        have sz_b5 : h0.size ≤ b5 := Nat.le_trans Kp4.1 (Nat.le_of_eq g5.symm)
        have A1_5 := A1_4.ext E5
        have A3_5 := A3_4.ext E5
        have Z5 : n0 ≤ h5.size := Nat.le_trans Z4 E5.1
        have Kp5 : Keep h0 h5 [] := Kp4.ext E5
        have F_manager_b5 : Fld Z h5 b5 "com/example/brevi/brevi/bdd/Bdd" "manager" "Lcom/example/brevi/brevi/bdd/BddManager;" .null := D5 (Or.inr (hw _ (List.mem_of_getElem? (i := 57) rfl))) (ty := (.object "com/example/brevi/brevi/bdd/BddManager")) (by decide)
        have F_node_b5 : Fld Z h5 b5 "com/example/brevi/brevi/bdd/Bdd" "node" "I" (.int (0 : Int32)) := D5 (Or.inr (hw _ (List.mem_of_getElem? (i := 59) rfl))) (ty := .int) (by decide)
        obtain ⟨_, _, ⟨T6, L6, k6, n6⟩, -, X6, ⟨Lc6, hQ6, l6, y6, z6⟩, st6⟩ := X5.specialBack hx (y := (⟨"com/example/brevi/brevi/bdd/Bdd", "<init>", "(Lcom/example/brevi/brevi/bdd/BddManager;I)V"⟩ : MethodName)) rfl hown (mvT hZ (hw _ (List.mem_of_getElem? (i := 65) rfl))) (mvT hZ (hw _ (List.mem_of_getElem? (i := 53) rfl))) (mvT hZ (hw _ (List.mem_of_getElem? (i := 54) rfl))) (by decide) (backOf (W := 1) (rmB l Z a0 hw [] b5 b1 p1 h5 n0 Z5 A5 F_manager_b5 F_node_b5 ge_b5) hZ (hw _ (List.mem_of_getElem? (i := 54) rfl)) (hw _ (List.mem_of_getElem? (i := 51) rfl)) (by decide) (by decide)) (g := (mkF m 76 #[.val (.int p1), .val (.int p2), .val (.int p3), .val (.ref b1), .val (.ref b3), .val (.int (0 : Int32)), .val (.int (1 : Int32)), .val (.int (p1 ^^^ p2)), .val (.ref b1), .unset, .unset, .unset, .unset, .unset] [(.int p1), (.ref b1), (.ref b5), (.ref b5)])) rfl (by rw [hml]; rfl) (Steps.refl _) (a := b5) (argsL := [(.ref b1), (.int p1)]) (rest := [(.ref b5)]) (lenOf pd_4 rfl) rfl (by show 2 * 0 + _ ≤ _; exact Nat.le_of_eq rfl) (hb hby at_76) (fun _ _ => ⟨rfl, e5, (by decide : 27 + 0 ≤ _), (by decide : 81960 + 0 ≤ _)⟩)
        dsimp only [Pt.U, Pt.locs, Pt.cells, Pt.slots] at X6 l6 y6 z6 st6 hQ6
        subst l6 y6 z6
        obtain ⟨rfl, Nq6, K6, ex6, fm6, fn6⟩ := hQ6
        have A1_6 := A1_5.keep K6
        have A3_6 := A3_5.keep K6
        have A5_6 := A5.keep K6
        have Z6 : n0 ≤ T6.heap.size := Nat.le_trans Z5 K6.1
        have Kp6 : Keep h0 T6.heap [] := Kp5.trans K6 (allS (Or.inr sz_b5) all0)
        have N6 := Fr.app N4 Nq6
        obtain ⟨T7, h7, X7, e7, E7, A7, D7, -, st7⟩ := newO X6 hx hZ hown (hw _ (List.mem_of_getElem? (i := 64) rfl)) (hw _ (List.mem_of_getElem? (i := 50) rfl)) (hw _ (List.mem_of_getElem? (i := 51) rfl)) rfl (g := (mkF m 81 #[.val (.int p1), .val (.int p2), .val (.int p3), .val (.ref b1), .val (.ref b3), .val (.int (0 : Int32)), .val (.int (1 : Int32)), .val (.int (p1 ^^^ p2)), .val (.ref b1), .val (.ref b5), .unset, .unset, .unset, .unset] [])) rfl (hb hby at_81) (by decide) (by decide)
        obtain ⟨b7, g7⟩ : ∃ z, z = T6.heap.size := ⟨_, rfl⟩
        rw [← g7] at A7 D7 st7
        have ne_b1_b7 : b1 ≠ b7 := Nat.ne_of_lt (Nat.lt_of_lt_of_eq A1_6.lt g7.symm)
        have ne_b3_b7 : b3 ≠ b7 := Nat.ne_of_lt (Nat.lt_of_lt_of_eq A3_6.lt g7.symm)
        have ne_b5_b7 : b5 ≠ b7 := Nat.ne_of_lt (Nat.lt_of_lt_of_eq ex6.lt g7.symm)
        have ge_b7 : n0 ≤ b7 := Nat.le_trans Z6 (Nat.le_of_eq g7.symm)
        have sz_b7 : h0.size ≤ b7 := Nat.le_trans Kp6.1 (Nat.le_of_eq g7.symm)
        have A1_7 := A1_6.ext E7
        have A3_7 := A3_6.ext E7
        have ex6_7 := ex6.ext E7
        have fm6_7 := fm6.ext E7
        have fn6_7 := fn6.ext E7
        have Z7 : n0 ≤ h7.size := Nat.le_trans Z6 E7.1
        have Kp7 : Keep h0 h7 [] := Kp6.ext E7
        have F_manager_b7 : Fld Z h7 b7 "com/example/brevi/brevi/bdd/Bdd" "manager" "Lcom/example/brevi/brevi/bdd/BddManager;" .null := D7 (Or.inr (hw _ (List.mem_of_getElem? (i := 57) rfl))) (ty := (.object "com/example/brevi/brevi/bdd/BddManager")) (by decide)
        have F_node_b7 : Fld Z h7 b7 "com/example/brevi/brevi/bdd/Bdd" "node" "I" (.int (0 : Int32)) := D7 (Or.inr (hw _ (List.mem_of_getElem? (i := 59) rfl))) (ty := .int) (by decide)
        obtain ⟨_, _, ⟨T8, L8, k8, n8⟩, -, X8, ⟨Lc8, hQ8, l8, y8, z8⟩, st8⟩ := X7.specialBack hx (y := (⟨"com/example/brevi/brevi/bdd/Bdd", "<init>", "(Lcom/example/brevi/brevi/bdd/BddManager;I)V"⟩ : MethodName)) rfl hown (mvT hZ (hw _ (List.mem_of_getElem? (i := 65) rfl))) (mvT hZ (hw _ (List.mem_of_getElem? (i := 53) rfl))) (mvT hZ (hw _ (List.mem_of_getElem? (i := 54) rfl))) (by decide) (backOf (W := 1) (rmB l Z a0 hw [] b7 b1 (p1 ^^^ p2) h7 n0 Z7 A7 F_manager_b7 F_node_b7 ge_b7) hZ (hw _ (List.mem_of_getElem? (i := 54) rfl)) (hw _ (List.mem_of_getElem? (i := 51) rfl)) (by decide) (by decide)) (g := (mkF m 89 #[.val (.int p1), .val (.int p2), .val (.int p3), .val (.ref b1), .val (.ref b3), .val (.int (0 : Int32)), .val (.int (1 : Int32)), .val (.int (p1 ^^^ p2)), .val (.ref b1), .val (.ref b5), .unset, .unset, .unset, .unset] [(.int (p1 ^^^ p2)), (.ref b1), (.ref b7), (.ref b7)])) rfl (by rw [hml]; rfl) (Steps.refl _) (a := b7) (argsL := [(.ref b1), (.int (p1 ^^^ p2))]) (rest := [(.ref b7)]) (lenOf pd_4 rfl) rfl (by show 2 * 0 + _ ≤ _; exact Nat.le_of_eq rfl) (hb hby at_89) (fun _ _ => ⟨rfl, e7, (by decide : 28 + 0 ≤ _), (by decide : 81962 + 0 ≤ _)⟩)
        dsimp only [Pt.U, Pt.locs, Pt.cells, Pt.slots] at X8 l8 y8 z8 st8 hQ8
        subst l8 y8 z8
        obtain ⟨rfl, Nq8, K8, ex8, fm8, fn8⟩ := hQ8
        have A1_8 := A1_7.keep K8
        have A3_8 := A3_7.keep K8
        have ex6_8 := ex6_7.keep K8
        have fm6_8 := fm6_7.keep K8 (ninS ne_b5_b7 nin0)
        have fn6_8 := fn6_7.keep K8 (ninS ne_b5_b7 nin0)
        have A7_8 := A7.keep K8
        have Z8 : n0 ≤ T8.heap.size := Nat.le_trans Z7 K8.1
        have Kp8 : Keep h0 T8.heap [] := Kp7.trans K8 (allS (Or.inr sz_b7) all0)
        have N8 := Fr.app N6 Nq8
        obtain ⟨_, _, ⟨T9, L9, k9, n9⟩, -, X9, ⟨Lc9, hQ9, l9, y9, z9⟩, st9⟩ := Jvm.LawKit.callS X8 hx (y := (⟨"java/lang/Integer", "valueOf", "(I)Ljava/lang/Integer;"⟩ : MethodName)) hown (mvT hZ (hw _ (List.mem_of_getElem? (i := 66) rfl))) (mvT hZ (hw _ (List.mem_of_getElem? (i := 67) rfl))) (mvT hZ (hw _ (List.mem_of_getElem? (i := 68) rfl))) (mvT hZ (hw _ (List.mem_of_getElem? (i := 69) rfl))) (by decide) (backOf (W := 0) (rmV l Z a0 hw [] p1 ca T8.heap n0 Z8 (own_sta S_hi Kp8) (own_sta S_ca Kp8) (C0.keep Kp8)) hZ (hw _ (List.mem_of_getElem? (i := 69) rfl)) (hw _ (List.mem_of_getElem? (i := 68) rfl)) (by decide) (by decide)) (g := (mkF m 113 #[.val (.int p1), .val (.int p2), .val (.int p3), .val (.ref b1), .val (.ref b3), .val (.int (0 : Int32)), .val (.int (1 : Int32)), .val (.int (p1 ^^^ p2)), .val (.ref b1), .val (.ref b5), .val (.ref b7), .val (.int (1 : Int32)), .unset, .unset] [(.int p1)])) rfl (by rw [hml]; rfl) (argsL := [(.int p1)]) (rest := []) (lenOf pd_5 rfl) rfl (by show 2 * 0 + _ ≤ _; exact Nat.le_of_eq rfl) (hb hby at_113) (fun _ _ => ⟨rfl, rfl, (by decide : 28 + 1 ≤ _), (by decide : 81962 + 1 ≤ _)⟩)
        dsimp only [Pt.U, Pt.locs, Pt.cells, Pt.slots] at X9 l9 y9 z9 st9 hQ9
        subst l9 y9 z9
        obtain ⟨bx9, rfl, Nq9, K9, ex9⟩ := hQ9
        have A1_9 := A1_8.keep K9
        have A3_9 := A3_8.keep K9
        have ex6_9 := ex6_8.keep K9
        have fm6_9 := fm6_8.keep K9 nin0
        have fn6_9 := fn6_8.keep K9 nin0
        have ex8_9 := ex8.keep K9
        have fm8_9 := fm8.keep K9 nin0
        have fn8_9 := fn8.keep K9 nin0
        have Z9 : n0 ≤ T9.heap.size := Nat.le_trans Z8 K9.1
        have Kp9 : Keep h0 T9.heap [] := Kp8.trans K9 all0
        have N9 := Fr.app N8 Nq9
        obtain ⟨cq10, kq10, q10a, q10b, q10c⟩ := isOf hZ rfl ex6_9
        obtain ⟨_, _, ⟨T10, L10, k10, n10⟩, -, X10, ⟨Lc10, hQ10, l10, y10, z10⟩, st10⟩ := X9.virtualBack hx (y := (⟨"com/example/brevi/brevi/bdd/Bdd", "equals", "(Ljava/lang/Object;)Z"⟩ : MethodName)) (z := (⟨"com/example/brevi/brevi/bdd/Bdd", "equals", "(Ljava/lang/Object;)Z"⟩ : MethodName)) hown (mvT hZ (hw _ (List.mem_of_getElem? (i := 73) rfl))) (mvT hZ (hw _ (List.mem_of_getElem? (i := 74) rfl))) (notFace_of_selects (args := #[]) (mvT hZ (hw _ (List.mem_of_getElem? (i := 76) rfl)))) (mvT hZ (hw _ (List.mem_of_getElem? (i := 76) rfl))) (mvT hZ (hw _ (List.mem_of_getElem? (i := 75) rfl))) (by decide) (backOf (W := 0) (rmE_e l Z a0 hw [] b5 b7 b1 b1 p1 (p1 ^^^ p2) T9.heap n0 Z9 ex8_9 fm6_9 fm8_9 fn6_9 fn8_9 rfl hn.symm) hZ (hw _ (List.mem_of_getElem? (i := 77) rfl)) (hw _ (List.mem_of_getElem? (i := 51) rfl)) (by decide) (by decide)) q10a q10c (g := (mkF m 125 #[.val (.int p1), .val (.int p2), .val (.int p3), .val (.ref b1), .val (.ref b3), .val (.int (0 : Int32)), .val (.int (1 : Int32)), .val (.int (p1 ^^^ p2)), .val (.ref b1), .val (.ref b5), .val (.ref b7), .val (.int (1 : Int32)), .val (.ref bx9), .val .null] [(.ref b7), (.ref b5)])) rfl (by rw [hml]; rfl) (Steps.refl _) (argsL := [(.ref b7)]) (rest := []) (lenOf pd_6 rfl) rfl (by show 2 * 0 + _ ≤ _; exact Nat.le_of_eq rfl) (hb hby at_125) (fun _ _ => ⟨rfl, rfl, (by decide : 29 + 0 ≤ _), (by decide : 81963 + 0 ≤ _)⟩)
        dsimp only [Pt.U, Pt.locs, Pt.cells, Pt.slots] at X10 l10 y10 z10 st10 hQ10
        subst l10 y10 z10
        obtain ⟨rfl, Nq10, e10⟩ := hQ10
        have N10 := Fr.app N9 Nq10
        obtain ⟨cq11, kq11, q11a, q11b, q11c⟩ := isOf hZ e10 ex8_9
        obtain ⟨_, _, ⟨T11, L11, k11, n11⟩, -, X11, ⟨Lc11, hQ11, l11, y11, z11⟩, st11⟩ := X10.virtualBack hx (y := (⟨"com/example/brevi/brevi/bdd/Bdd", "equals", "(Ljava/lang/Object;)Z"⟩ : MethodName)) (z := (⟨"com/example/brevi/brevi/bdd/Bdd", "equals", "(Ljava/lang/Object;)Z"⟩ : MethodName)) hown (mvT hZ (hw _ (List.mem_of_getElem? (i := 73) rfl))) (mvT hZ (hw _ (List.mem_of_getElem? (i := 74) rfl))) (notFace_of_selects (args := #[]) (mvT hZ (hw _ (List.mem_of_getElem? (i := 76) rfl)))) (mvT hZ (hw _ (List.mem_of_getElem? (i := 76) rfl))) (mvT hZ (hw _ (List.mem_of_getElem? (i := 75) rfl))) (by decide) (backOf (W := 0) (rmE_e l Z a0 hw [] b7 b5 b1 b1 (p1 ^^^ p2) p1 T9.heap n0 Z9 ex6_9 fm8_9 fm6_9 fn8_9 fn6_9 rfl hn) hZ (hw _ (List.mem_of_getElem? (i := 77) rfl)) (hw _ (List.mem_of_getElem? (i := 51) rfl)) (by decide) (by decide)) q11a q11c (g := (mkF m 137 #[.val (.int p1), .val (.int p2), .val (.int p3), .val (.ref b1), .val (.ref b3), .val (.int (0 : Int32)), .val (.int (1 : Int32)), .val (.int (p1 ^^^ p2)), .val (.ref b1), .val (.ref b5), .val (.ref b7), .val (.int (1 : Int32)), .val (.ref bx9), .val .null] [(.ref b5), (.ref b7)])) rfl (by rw [hml]; rfl) (Steps.refl _) (argsL := [(.ref b5)]) (rest := []) (lenOf pd_6 rfl) rfl (by show 2 * 0 + _ ≤ _; exact Nat.le_of_eq rfl) (hb hby at_137) (fun _ _ => ⟨rfl, e10, (by decide : 29 + 0 ≤ _), (by decide : 81963 + 0 ≤ _)⟩)
        dsimp only [Pt.U, Pt.locs, Pt.cells, Pt.slots] at X11 l11 y11 z11 st11 hQ11
        subst l11 y11 z11
        obtain ⟨rfl, Nq11, e11⟩ := hQ11
        have N11 := Fr.app N10 Nq11
        obtain ⟨cq12, kq12, q12a, q12b, q12c⟩ := isOf hZ e11 ex6_9
        obtain ⟨_, _, ⟨T12, L12, k12, n12⟩, -, X12, ⟨Lc12, hQ12, l12, y12, z12⟩, st12⟩ := X11.virtualBack hx (y := (⟨"com/example/brevi/brevi/bdd/Bdd", "equals", "(Ljava/lang/Object;)Z"⟩ : MethodName)) (z := (⟨"com/example/brevi/brevi/bdd/Bdd", "equals", "(Ljava/lang/Object;)Z"⟩ : MethodName)) hown (mvT hZ (hw _ (List.mem_of_getElem? (i := 73) rfl))) (mvT hZ (hw _ (List.mem_of_getElem? (i := 74) rfl))) (notFace_of_selects (args := #[]) (mvT hZ (hw _ (List.mem_of_getElem? (i := 76) rfl)))) (mvT hZ (hw _ (List.mem_of_getElem? (i := 76) rfl))) (mvT hZ (hw _ (List.mem_of_getElem? (i := 75) rfl))) (by decide) (backOf (W := 0) (rmE_e l Z a0 hw [] b5 b5 b1 b1 p1 p1 T9.heap n0 Z9 ex6_9 fm6_9 fm6_9 fn6_9 fn6_9 rfl rfl) hZ (hw _ (List.mem_of_getElem? (i := 77) rfl)) (hw _ (List.mem_of_getElem? (i := 51) rfl)) (by decide) (by decide)) q12a q12c (g := (mkF m 149 #[.val (.int p1), .val (.int p2), .val (.int p3), .val (.ref b1), .val (.ref b3), .val (.int (0 : Int32)), .val (.int (1 : Int32)), .val (.int (p1 ^^^ p2)), .val (.ref b1), .val (.ref b5), .val (.ref b7), .val (.int (1 : Int32)), .val (.ref bx9), .val .null] [(.ref b5), (.ref b5)])) rfl (by rw [hml]; rfl) (Steps.refl _) (argsL := [(.ref b5)]) (rest := []) (lenOf pd_6 rfl) rfl (by show 2 * 0 + _ ≤ _; exact Nat.le_of_eq rfl) (hb hby at_149) (fun _ _ => ⟨rfl, e11, (by decide : 29 + 0 ≤ _), (by decide : 81963 + 0 ≤ _)⟩)
        dsimp only [Pt.U, Pt.locs, Pt.cells, Pt.slots] at X12 l12 y12 z12 st12 hQ12
        subst l12 y12 z12
        obtain ⟨rfl, Nq12, e12⟩ := hQ12
        have N12 := Fr.app N11 Nq12
        obtain ⟨cq13, kq13, q13a, q13b, q13c⟩ := isOf hZ e12 ex6_9
        obtain ⟨_, _, ⟨T13, L13, k13, n13⟩, -, X13, ⟨Lc13, hQ13, l13, y13, z13⟩, st13⟩ := X12.virtualBack hx (y := (⟨"com/example/brevi/brevi/bdd/Bdd", "equals", "(Ljava/lang/Object;)Z"⟩ : MethodName)) (z := (⟨"com/example/brevi/brevi/bdd/Bdd", "equals", "(Ljava/lang/Object;)Z"⟩ : MethodName)) hown (mvT hZ (hw _ (List.mem_of_getElem? (i := 73) rfl))) (mvT hZ (hw _ (List.mem_of_getElem? (i := 74) rfl))) (notFace_of_selects (args := #[]) (mvT hZ (hw _ (List.mem_of_getElem? (i := 76) rfl)))) (mvT hZ (hw _ (List.mem_of_getElem? (i := 76) rfl))) (mvT hZ (hw _ (List.mem_of_getElem? (i := 75) rfl))) (by decide) (backOf (W := 0) (rmE_i l Z a0 hw [] b5 bx9 T9.heap n0 Z9 ex9) hZ (hw _ (List.mem_of_getElem? (i := 77) rfl)) (hw _ (List.mem_of_getElem? (i := 51) rfl)) (by decide) (by decide)) q13a q13c (g := (mkF m 159 #[.val (.int p1), .val (.int p2), .val (.int p3), .val (.ref b1), .val (.ref b3), .val (.int (0 : Int32)), .val (.int (1 : Int32)), .val (.int (p1 ^^^ p2)), .val (.ref b1), .val (.ref b5), .val (.ref b7), .val (.int (1 : Int32)), .val (.ref bx9), .val .null] [(.ref bx9), (.ref b5)])) rfl (by rw [hml]; rfl) (Steps.refl _) (argsL := [(.ref bx9)]) (rest := []) (lenOf pd_6 rfl) rfl (by show 2 * 0 + _ ≤ _; exact Nat.le_of_eq rfl) (hb hby at_159) (fun _ _ => ⟨rfl, e12, (by decide : 29 + 0 ≤ _), (by decide : 81963 + 0 ≤ _)⟩)
        dsimp only [Pt.U, Pt.locs, Pt.cells, Pt.slots] at X13 l13 y13 z13 st13 hQ13
        subst l13 y13 z13
        obtain ⟨rfl, Nq13, e13⟩ := hQ13
        have N13 := Fr.app N12 Nq13
        obtain ⟨cq14, kq14, q14a, q14b, q14c⟩ := isOf hZ e13 ex6_9
        obtain ⟨_, _, ⟨T14, L14, k14, n14⟩, -, X14, ⟨Lc14, hQ14, l14, y14, z14⟩, st14⟩ := X13.virtualBack hx (y := (⟨"com/example/brevi/brevi/bdd/Bdd", "equals", "(Ljava/lang/Object;)Z"⟩ : MethodName)) (z := (⟨"com/example/brevi/brevi/bdd/Bdd", "equals", "(Ljava/lang/Object;)Z"⟩ : MethodName)) hown (mvT hZ (hw _ (List.mem_of_getElem? (i := 73) rfl))) (mvT hZ (hw _ (List.mem_of_getElem? (i := 74) rfl))) (notFace_of_selects (args := #[]) (mvT hZ (hw _ (List.mem_of_getElem? (i := 76) rfl)))) (mvT hZ (hw _ (List.mem_of_getElem? (i := 76) rfl))) (mvT hZ (hw _ (List.mem_of_getElem? (i := 75) rfl))) (by decide) (backOf (W := 0) (rmE_n l Z a0 hw [] b5 T9.heap n0 Z9 ) hZ (hw _ (List.mem_of_getElem? (i := 77) rfl)) (hw _ (List.mem_of_getElem? (i := 51) rfl)) (by decide) (by decide)) q14a q14c (g := (mkF m 169 #[.val (.int p1), .val (.int p2), .val (.int p3), .val (.ref b1), .val (.ref b3), .val (.int (0 : Int32)), .val (.int (1 : Int32)), .val (.int (p1 ^^^ p2)), .val (.ref b1), .val (.ref b5), .val (.ref b7), .val (.int (1 : Int32)), .val (.ref bx9), .val .null] [.null, (.ref b5)])) rfl (by rw [hml]; rfl) (Steps.refl _) (argsL := [.null]) (rest := []) (lenOf pd_6 rfl) rfl (by show 2 * 0 + _ ≤ _; exact Nat.le_of_eq rfl) (hb hby at_169) (fun _ _ => ⟨rfl, e13, (by decide : 29 + 0 ≤ _), (by decide : 81963 + 0 ≤ _)⟩)
        dsimp only [Pt.U, Pt.locs, Pt.cells, Pt.slots] at X14 l14 y14 z14 st14 hQ14
        subst l14 y14 z14
        obtain ⟨rfl, Nq14, e14⟩ := hQ14
        have N14 := Fr.app N13 Nq14
        obtain ⟨fs, hr, hrun, hended, hW, hsame⟩ := X14.leave (v := some (.int (1 : Int32))) (fun h => by rw [Bd.returns] at h; cases h)
        refine ⟨_, _, pre0 _ ?_, hrun, hended, _, _, rfl, ?_, ⟨_, rfl⟩, hW, hsame.mono (by decide) (by decide)⟩
        · show Steps p.tables e below (s₁.setTop (mkF m 0 #[.val (.int p1), .val (.int p2), .val (.int p3), .unset, .unset, .unset, .unset, .unset, .unset, .unset, .unset, .unset, .unset, .unset] [])) _
          refine st1 _ ?_
          show Steps p.tables e below (T1.setTop (mkF m 3 #[.val (.int p1), .val (.int p2), .val (.int p3), .unset, .unset, .unset, .unset, .unset, .unset, .unset, .unset, .unset, .unset, .unset] [(.ref b1)])) _
          refine XS.dup X1.here hx rfl (hb hby at_3) rfl rfl ?_
          show Steps p.tables e below (T1.setTop (mkF m 4 #[.val (.int p1), .val (.int p2), .val (.int p3), .unset, .unset, .unset, .unset, .unset, .unset, .unset, .unset, .unset, .unset, .unset] [(.ref b1), (.ref b1)])) _
          refine st2.trans ?_
          show Steps p.tables e below (T2.setTop (mkF m 7 #[.val (.int p1), .val (.int p2), .val (.int p3), .unset, .unset, .unset, .unset, .unset, .unset, .unset, .unset, .unset, .unset, .unset] [(.ref b1)])) _
          refine XS.astoreN X2.here hx rfl (hb hby at_7) rfl rfl (l' := #[.val (.int p1), .val (.int p2), .val (.int p3), .val (.ref b1), .unset, .unset, .unset, .unset, .unset, .unset, .unset, .unset, .unset, .unset]) rfl ?_
          show Steps p.tables e below (T2.setTop (mkF m 8 #[.val (.int p1), .val (.int p2), .val (.int p3), .val (.ref b1), .unset, .unset, .unset, .unset, .unset, .unset, .unset, .unset, .unset, .unset] [])) _
          refine st3 _ ?_
          show Steps p.tables e below (T3.setTop (mkF m 11 #[.val (.int p1), .val (.int p2), .val (.int p3), .val (.ref b1), .unset, .unset, .unset, .unset, .unset, .unset, .unset, .unset, .unset, .unset] [(.ref b3)])) _
          refine XS.dup X3.here hx rfl (hb hby at_11) rfl rfl ?_
          show Steps p.tables e below (T3.setTop (mkF m 12 #[.val (.int p1), .val (.int p2), .val (.int p3), .val (.ref b1), .unset, .unset, .unset, .unset, .unset, .unset, .unset, .unset, .unset, .unset] [(.ref b3), (.ref b3)])) _
          refine st4.trans ?_
          show Steps p.tables e below (T4.setTop (mkF m 15 #[.val (.int p1), .val (.int p2), .val (.int p3), .val (.ref b1), .unset, .unset, .unset, .unset, .unset, .unset, .unset, .unset, .unset, .unset] [(.ref b3)])) _
          refine XS.astore X4.here hx rfl (hb hby at_15) rfl rfl (l' := #[.val (.int p1), .val (.int p2), .val (.int p3), .val (.ref b1), .val (.ref b3), .unset, .unset, .unset, .unset, .unset, .unset, .unset, .unset, .unset]) rfl ?_
          show Steps p.tables e below (T4.setTop (mkF m 17 #[.val (.int p1), .val (.int p2), .val (.int p3), .val (.ref b1), .val (.ref b3), .unset, .unset, .unset, .unset, .unset, .unset, .unset, .unset, .unset] [])) _
          refine XS.iloadN X4.here hx rfl (hb hby at_17) rfl ?_
          show Steps p.tables e below (T4.setTop (mkF m 18 #[.val (.int p1), .val (.int p2), .val (.int p3), .val (.ref b1), .val (.ref b3), .unset, .unset, .unset, .unset, .unset, .unset, .unset, .unset, .unset] [(.int p3)])) _
          refine XS.iconst X4.here hx rfl (hb hby at_18) ?_
          show Steps p.tables e below (T4.setTop (mkF m 19 #[.val (.int p1), .val (.int p2), .val (.int p3), .val (.ref b1), .val (.ref b3), .unset, .unset, .unset, .unset, .unset, .unset, .unset, .unset, .unset] [(.int (1 : Int32)), (.int p3)])) _
          refine XS.iand X4.here hx rfl (hb hby at_19) rfl ?_
          show Steps p.tables e below (T4.setTop (mkF m 20 #[.val (.int p1), .val (.int p2), .val (.int p3), .val (.ref b1), .val (.ref b3), .unset, .unset, .unset, .unset, .unset, .unset, .unset, .unset, .unset] [(.int (p3 &&& (1 : Int32)))])) _
          refine XS.ifYes X4.here hx rfl (pc0 := 20) (pc' := 27) rfl (hb hby at_20) rfl ((if0 _ _).trans (teq hs1).1) (by decide) (by decide) ?_
          show Steps p.tables e below (T4.setTop (mkF m 27 #[.val (.int p1), .val (.int p2), .val (.int p3), .val (.ref b1), .val (.ref b3), .unset, .unset, .unset, .unset, .unset, .unset, .unset, .unset, .unset] [])) _
          refine XS.iconst X4.here hx rfl (hb hby at_27) ?_
          show Steps p.tables e below (T4.setTop (mkF m 28 #[.val (.int p1), .val (.int p2), .val (.int p3), .val (.ref b1), .val (.ref b3), .unset, .unset, .unset, .unset, .unset, .unset, .unset, .unset, .unset] [(.int (0 : Int32))])) _
          refine XS.istore X4.here hx rfl (hb hby at_28) rfl (l' := #[.val (.int p1), .val (.int p2), .val (.int p3), .val (.ref b1), .val (.ref b3), .val (.int (0 : Int32)), .unset, .unset, .unset, .unset, .unset, .unset, .unset, .unset]) rfl ?_
          show Steps p.tables e below (T4.setTop (mkF m 30 #[.val (.int p1), .val (.int p2), .val (.int p3), .val (.ref b1), .val (.ref b3), .val (.int (0 : Int32)), .unset, .unset, .unset, .unset, .unset, .unset, .unset, .unset] [])) _
          refine XS.iloadN X4.here hx rfl (hb hby at_30) rfl ?_
          show Steps p.tables e below (T4.setTop (mkF m 31 #[.val (.int p1), .val (.int p2), .val (.int p3), .val (.ref b1), .val (.ref b3), .val (.int (0 : Int32)), .unset, .unset, .unset, .unset, .unset, .unset, .unset, .unset] [(.int p3)])) _
          refine XS.iconst X4.here hx rfl (hb hby at_31) ?_
          show Steps p.tables e below (T4.setTop (mkF m 32 #[.val (.int p1), .val (.int p2), .val (.int p3), .val (.ref b1), .val (.ref b3), .val (.int (0 : Int32)), .unset, .unset, .unset, .unset, .unset, .unset, .unset, .unset] [(.int (2 : Int32)), (.int p3)])) _
          refine XS.iand X4.here hx rfl (hb hby at_32) rfl ?_
          show Steps p.tables e below (T4.setTop (mkF m 33 #[.val (.int p1), .val (.int p2), .val (.int p3), .val (.ref b1), .val (.ref b3), .val (.int (0 : Int32)), .unset, .unset, .unset, .unset, .unset, .unset, .unset, .unset] [(.int (p3 &&& (2 : Int32)))])) _
          refine XS.ifNo X4.here hx rfl (hb hby at_33) rfl ((if0 _ _).trans (feq hs2).1) ?_
          show Steps p.tables e below (T4.setTop (mkF m 36 #[.val (.int p1), .val (.int p2), .val (.int p3), .val (.ref b1), .val (.ref b3), .val (.int (0 : Int32)), .unset, .unset, .unset, .unset, .unset, .unset, .unset, .unset] [])) _
          refine XS.iconst X4.here hx rfl (hb hby at_36) ?_
          show Steps p.tables e below (T4.setTop (mkF m 37 #[.val (.int p1), .val (.int p2), .val (.int p3), .val (.ref b1), .val (.ref b3), .val (.int (0 : Int32)), .unset, .unset, .unset, .unset, .unset, .unset, .unset, .unset] [(.int (1 : Int32))])) _
          refine XS.goto X4.here hx rfl (pc0 := 37) (pc' := 41) rfl (hb hby at_37) (by decide) (by decide) ?_
          show Steps p.tables e below (T4.setTop (mkF m 41 #[.val (.int p1), .val (.int p2), .val (.int p3), .val (.ref b1), .val (.ref b3), .val (.int (0 : Int32)), .unset, .unset, .unset, .unset, .unset, .unset, .unset, .unset] [(.int (1 : Int32))])) _
          refine XS.istore X4.here hx rfl (hb hby at_41) rfl (l' := #[.val (.int p1), .val (.int p2), .val (.int p3), .val (.ref b1), .val (.ref b3), .val (.int (0 : Int32)), .val (.int (1 : Int32)), .unset, .unset, .unset, .unset, .unset, .unset, .unset]) rfl ?_
          show Steps p.tables e below (T4.setTop (mkF m 43 #[.val (.int p1), .val (.int p2), .val (.int p3), .val (.ref b1), .val (.ref b3), .val (.int (0 : Int32)), .val (.int (1 : Int32)), .unset, .unset, .unset, .unset, .unset, .unset, .unset] [])) _
          refine XS.iload X4.here hx rfl (hb hby at_43) rfl ?_
          show Steps p.tables e below (T4.setTop (mkF m 45 #[.val (.int p1), .val (.int p2), .val (.int p3), .val (.ref b1), .val (.ref b3), .val (.int (0 : Int32)), .val (.int (1 : Int32)), .unset, .unset, .unset, .unset, .unset, .unset, .unset] [(.int (0 : Int32))])) _
          refine XS.ifYes X4.here hx rfl (pc0 := 45) (pc' := 52) rfl (hb hby at_45) rfl ((if0 _ _).trans (teq (by decide : (0 : Int32) = (0 : Int32))).1) (by decide) (by decide) ?_
          show Steps p.tables e below (T4.setTop (mkF m 52 #[.val (.int p1), .val (.int p2), .val (.int p3), .val (.ref b1), .val (.ref b3), .val (.int (0 : Int32)), .val (.int (1 : Int32)), .unset, .unset, .unset, .unset, .unset, .unset, .unset] [])) _
          refine XS.iloadN X4.here hx rfl (hb hby at_52) rfl ?_
          show Steps p.tables e below (T4.setTop (mkF m 53 #[.val (.int p1), .val (.int p2), .val (.int p3), .val (.ref b1), .val (.ref b3), .val (.int (0 : Int32)), .val (.int (1 : Int32)), .unset, .unset, .unset, .unset, .unset, .unset, .unset] [(.int p1)])) _
          refine XS.iloadN X4.here hx rfl (hb hby at_53) rfl ?_
          show Steps p.tables e below (T4.setTop (mkF m 54 #[.val (.int p1), .val (.int p2), .val (.int p3), .val (.ref b1), .val (.ref b3), .val (.int (0 : Int32)), .val (.int (1 : Int32)), .unset, .unset, .unset, .unset, .unset, .unset, .unset] [(.int p2), (.int p1)])) _
          refine XS.ixor X4.here hx rfl (hb hby at_54) rfl ?_
          show Steps p.tables e below (T4.setTop (mkF m 55 #[.val (.int p1), .val (.int p2), .val (.int p3), .val (.ref b1), .val (.ref b3), .val (.int (0 : Int32)), .val (.int (1 : Int32)), .unset, .unset, .unset, .unset, .unset, .unset, .unset] [(.int (p1 ^^^ p2))])) _
          refine XS.istore X4.here hx rfl (hb hby at_55) rfl (l' := #[.val (.int p1), .val (.int p2), .val (.int p3), .val (.ref b1), .val (.ref b3), .val (.int (0 : Int32)), .val (.int (1 : Int32)), .val (.int (p1 ^^^ p2)), .unset, .unset, .unset, .unset, .unset, .unset]) rfl ?_
          show Steps p.tables e below (T4.setTop (mkF m 57 #[.val (.int p1), .val (.int p2), .val (.int p3), .val (.ref b1), .val (.ref b3), .val (.int (0 : Int32)), .val (.int (1 : Int32)), .val (.int (p1 ^^^ p2)), .unset, .unset, .unset, .unset, .unset, .unset] [])) _
          refine XS.iload X4.here hx rfl (hb hby at_57) rfl ?_
          show Steps p.tables e below (T4.setTop (mkF m 59 #[.val (.int p1), .val (.int p2), .val (.int p3), .val (.ref b1), .val (.ref b3), .val (.int (0 : Int32)), .val (.int (1 : Int32)), .val (.int (p1 ^^^ p2)), .unset, .unset, .unset, .unset, .unset, .unset] [(.int (1 : Int32))])) _
          refine XS.ifNo X4.here hx rfl (hb hby at_59) rfl ((if0 _ _).trans (feq (by decide : ¬ ((1 : Int32) = (0 : Int32)))).1) ?_
          show Steps p.tables e below (T4.setTop (mkF m 62 #[.val (.int p1), .val (.int p2), .val (.int p3), .val (.ref b1), .val (.ref b3), .val (.int (0 : Int32)), .val (.int (1 : Int32)), .val (.int (p1 ^^^ p2)), .unset, .unset, .unset, .unset, .unset, .unset] [])) _
          refine XS.aloadN X4.here hx rfl (hb hby at_62) rfl rfl ?_
          show Steps p.tables e below (T4.setTop (mkF m 63 #[.val (.int p1), .val (.int p2), .val (.int p3), .val (.ref b1), .val (.ref b3), .val (.int (0 : Int32)), .val (.int (1 : Int32)), .val (.int (p1 ^^^ p2)), .unset, .unset, .unset, .unset, .unset, .unset] [(.ref b1)])) _
          refine XS.goto X4.here hx rfl (pc0 := 63) (pc' := 68) rfl (hb hby at_63) (by decide) (by decide) ?_
          show Steps p.tables e below (T4.setTop (mkF m 68 #[.val (.int p1), .val (.int p2), .val (.int p3), .val (.ref b1), .val (.ref b3), .val (.int (0 : Int32)), .val (.int (1 : Int32)), .val (.int (p1 ^^^ p2)), .unset, .unset, .unset, .unset, .unset, .unset] [(.ref b1)])) _
          refine XS.astore X4.here hx rfl (hb hby at_68) rfl rfl (l' := #[.val (.int p1), .val (.int p2), .val (.int p3), .val (.ref b1), .val (.ref b3), .val (.int (0 : Int32)), .val (.int (1 : Int32)), .val (.int (p1 ^^^ p2)), .val (.ref b1), .unset, .unset, .unset, .unset, .unset]) rfl ?_
          show Steps p.tables e below (T4.setTop (mkF m 70 #[.val (.int p1), .val (.int p2), .val (.int p3), .val (.ref b1), .val (.ref b3), .val (.int (0 : Int32)), .val (.int (1 : Int32)), .val (.int (p1 ^^^ p2)), .val (.ref b1), .unset, .unset, .unset, .unset, .unset] [])) _
          refine st5 _ ?_
          show Steps p.tables e below (T5.setTop (mkF m 73 #[.val (.int p1), .val (.int p2), .val (.int p3), .val (.ref b1), .val (.ref b3), .val (.int (0 : Int32)), .val (.int (1 : Int32)), .val (.int (p1 ^^^ p2)), .val (.ref b1), .unset, .unset, .unset, .unset, .unset] [(.ref b5)])) _
          refine XS.dup X5.here hx rfl (hb hby at_73) rfl rfl ?_
          show Steps p.tables e below (T5.setTop (mkF m 74 #[.val (.int p1), .val (.int p2), .val (.int p3), .val (.ref b1), .val (.ref b3), .val (.int (0 : Int32)), .val (.int (1 : Int32)), .val (.int (p1 ^^^ p2)), .val (.ref b1), .unset, .unset, .unset, .unset, .unset] [(.ref b5), (.ref b5)])) _
          refine XS.aloadN X5.here hx rfl (hb hby at_74) rfl rfl ?_
          show Steps p.tables e below (T5.setTop (mkF m 75 #[.val (.int p1), .val (.int p2), .val (.int p3), .val (.ref b1), .val (.ref b3), .val (.int (0 : Int32)), .val (.int (1 : Int32)), .val (.int (p1 ^^^ p2)), .val (.ref b1), .unset, .unset, .unset, .unset, .unset] [(.ref b1), (.ref b5), (.ref b5)])) _
          refine XS.iloadN X5.here hx rfl (hb hby at_75) rfl ?_
          show Steps p.tables e below (T5.setTop (mkF m 76 #[.val (.int p1), .val (.int p2), .val (.int p3), .val (.ref b1), .val (.ref b3), .val (.int (0 : Int32)), .val (.int (1 : Int32)), .val (.int (p1 ^^^ p2)), .val (.ref b1), .unset, .unset, .unset, .unset, .unset] [(.int p1), (.ref b1), (.ref b5), (.ref b5)])) _
          refine st6.trans ?_
          show Steps p.tables e below (T6.setTop (mkF m 79 #[.val (.int p1), .val (.int p2), .val (.int p3), .val (.ref b1), .val (.ref b3), .val (.int (0 : Int32)), .val (.int (1 : Int32)), .val (.int (p1 ^^^ p2)), .val (.ref b1), .unset, .unset, .unset, .unset, .unset] [(.ref b5)])) _
          refine XS.astore X6.here hx rfl (hb hby at_79) rfl rfl (l' := #[.val (.int p1), .val (.int p2), .val (.int p3), .val (.ref b1), .val (.ref b3), .val (.int (0 : Int32)), .val (.int (1 : Int32)), .val (.int (p1 ^^^ p2)), .val (.ref b1), .val (.ref b5), .unset, .unset, .unset, .unset]) rfl ?_
          show Steps p.tables e below (T6.setTop (mkF m 81 #[.val (.int p1), .val (.int p2), .val (.int p3), .val (.ref b1), .val (.ref b3), .val (.int (0 : Int32)), .val (.int (1 : Int32)), .val (.int (p1 ^^^ p2)), .val (.ref b1), .val (.ref b5), .unset, .unset, .unset, .unset] [])) _
          refine st7 _ ?_
          show Steps p.tables e below (T7.setTop (mkF m 84 #[.val (.int p1), .val (.int p2), .val (.int p3), .val (.ref b1), .val (.ref b3), .val (.int (0 : Int32)), .val (.int (1 : Int32)), .val (.int (p1 ^^^ p2)), .val (.ref b1), .val (.ref b5), .unset, .unset, .unset, .unset] [(.ref b7)])) _
          refine XS.dup X7.here hx rfl (hb hby at_84) rfl rfl ?_
          show Steps p.tables e below (T7.setTop (mkF m 85 #[.val (.int p1), .val (.int p2), .val (.int p3), .val (.ref b1), .val (.ref b3), .val (.int (0 : Int32)), .val (.int (1 : Int32)), .val (.int (p1 ^^^ p2)), .val (.ref b1), .val (.ref b5), .unset, .unset, .unset, .unset] [(.ref b7), (.ref b7)])) _
          refine XS.aload X7.here hx rfl (hb hby at_85) rfl rfl ?_
          show Steps p.tables e below (T7.setTop (mkF m 87 #[.val (.int p1), .val (.int p2), .val (.int p3), .val (.ref b1), .val (.ref b3), .val (.int (0 : Int32)), .val (.int (1 : Int32)), .val (.int (p1 ^^^ p2)), .val (.ref b1), .val (.ref b5), .unset, .unset, .unset, .unset] [(.ref b1), (.ref b7), (.ref b7)])) _
          refine XS.iload X7.here hx rfl (hb hby at_87) rfl ?_
          show Steps p.tables e below (T7.setTop (mkF m 89 #[.val (.int p1), .val (.int p2), .val (.int p3), .val (.ref b1), .val (.ref b3), .val (.int (0 : Int32)), .val (.int (1 : Int32)), .val (.int (p1 ^^^ p2)), .val (.ref b1), .val (.ref b5), .unset, .unset, .unset, .unset] [(.int (p1 ^^^ p2)), (.ref b1), (.ref b7), (.ref b7)])) _
          refine st8.trans ?_
          show Steps p.tables e below (T8.setTop (mkF m 92 #[.val (.int p1), .val (.int p2), .val (.int p3), .val (.ref b1), .val (.ref b3), .val (.int (0 : Int32)), .val (.int (1 : Int32)), .val (.int (p1 ^^^ p2)), .val (.ref b1), .val (.ref b5), .unset, .unset, .unset, .unset] [(.ref b7)])) _
          refine XS.astore X8.here hx rfl (hb hby at_92) rfl rfl (l' := #[.val (.int p1), .val (.int p2), .val (.int p3), .val (.ref b1), .val (.ref b3), .val (.int (0 : Int32)), .val (.int (1 : Int32)), .val (.int (p1 ^^^ p2)), .val (.ref b1), .val (.ref b5), .val (.ref b7), .unset, .unset, .unset]) rfl ?_
          show Steps p.tables e below (T8.setTop (mkF m 94 #[.val (.int p1), .val (.int p2), .val (.int p3), .val (.ref b1), .val (.ref b3), .val (.int (0 : Int32)), .val (.int (1 : Int32)), .val (.int (p1 ^^^ p2)), .val (.ref b1), .val (.ref b5), .val (.ref b7), .unset, .unset, .unset] [])) _
          refine XS.iload X8.here hx rfl (hb hby at_94) rfl ?_
          show Steps p.tables e below (T8.setTop (mkF m 96 #[.val (.int p1), .val (.int p2), .val (.int p3), .val (.ref b1), .val (.ref b3), .val (.int (0 : Int32)), .val (.int (1 : Int32)), .val (.int (p1 ^^^ p2)), .val (.ref b1), .val (.ref b5), .val (.ref b7), .unset, .unset, .unset] [(.int (1 : Int32))])) _
          refine XS.ifNo X8.here hx rfl (hb hby at_96) rfl ((if0 _ _).trans (feq (by decide : ¬ ((1 : Int32) = (0 : Int32)))).1) ?_
          show Steps p.tables e below (T8.setTop (mkF m 99 #[.val (.int p1), .val (.int p2), .val (.int p3), .val (.ref b1), .val (.ref b3), .val (.int (0 : Int32)), .val (.int (1 : Int32)), .val (.int (p1 ^^^ p2)), .val (.ref b1), .val (.ref b5), .val (.ref b7), .unset, .unset, .unset] [])) _
          refine XS.iloadN X8.here hx rfl (hb hby at_99) rfl ?_
          show Steps p.tables e below (T8.setTop (mkF m 100 #[.val (.int p1), .val (.int p2), .val (.int p3), .val (.ref b1), .val (.ref b3), .val (.int (0 : Int32)), .val (.int (1 : Int32)), .val (.int (p1 ^^^ p2)), .val (.ref b1), .val (.ref b5), .val (.ref b7), .unset, .unset, .unset] [(.int p1)])) _
          refine XS.iload X8.here hx rfl (hb hby at_100) rfl ?_
          show Steps p.tables e below (T8.setTop (mkF m 102 #[.val (.int p1), .val (.int p2), .val (.int p3), .val (.ref b1), .val (.ref b3), .val (.int (0 : Int32)), .val (.int (1 : Int32)), .val (.int (p1 ^^^ p2)), .val (.ref b1), .val (.ref b5), .val (.ref b7), .unset, .unset, .unset] [(.int (p1 ^^^ p2)), (.int p1)])) _
          refine XS.icmpNo X8.here hx rfl (hb hby at_102) rfl (teq hn).2 ?_
          show Steps p.tables e below (T8.setTop (mkF m 105 #[.val (.int p1), .val (.int p2), .val (.int p3), .val (.ref b1), .val (.ref b3), .val (.int (0 : Int32)), .val (.int (1 : Int32)), .val (.int (p1 ^^^ p2)), .val (.ref b1), .val (.ref b5), .val (.ref b7), .unset, .unset, .unset] [])) _
          refine XS.iconst X8.here hx rfl (hb hby at_105) ?_
          show Steps p.tables e below (T8.setTop (mkF m 106 #[.val (.int p1), .val (.int p2), .val (.int p3), .val (.ref b1), .val (.ref b3), .val (.int (0 : Int32)), .val (.int (1 : Int32)), .val (.int (p1 ^^^ p2)), .val (.ref b1), .val (.ref b5), .val (.ref b7), .unset, .unset, .unset] [(.int (1 : Int32))])) _
          refine XS.goto X8.here hx rfl (pc0 := 106) (pc' := 110) rfl (hb hby at_106) (by decide) (by decide) ?_
          show Steps p.tables e below (T8.setTop (mkF m 110 #[.val (.int p1), .val (.int p2), .val (.int p3), .val (.ref b1), .val (.ref b3), .val (.int (0 : Int32)), .val (.int (1 : Int32)), .val (.int (p1 ^^^ p2)), .val (.ref b1), .val (.ref b5), .val (.ref b7), .unset, .unset, .unset] [(.int (1 : Int32))])) _
          refine XS.istore X8.here hx rfl (hb hby at_110) rfl (l' := #[.val (.int p1), .val (.int p2), .val (.int p3), .val (.ref b1), .val (.ref b3), .val (.int (0 : Int32)), .val (.int (1 : Int32)), .val (.int (p1 ^^^ p2)), .val (.ref b1), .val (.ref b5), .val (.ref b7), .val (.int (1 : Int32)), .unset, .unset]) rfl ?_
          show Steps p.tables e below (T8.setTop (mkF m 112 #[.val (.int p1), .val (.int p2), .val (.int p3), .val (.ref b1), .val (.ref b3), .val (.int (0 : Int32)), .val (.int (1 : Int32)), .val (.int (p1 ^^^ p2)), .val (.ref b1), .val (.ref b5), .val (.ref b7), .val (.int (1 : Int32)), .unset, .unset] [])) _
          refine XS.iloadN X8.here hx rfl (hb hby at_112) rfl ?_
          show Steps p.tables e below (T8.setTop (mkF m 113 #[.val (.int p1), .val (.int p2), .val (.int p3), .val (.ref b1), .val (.ref b3), .val (.int (0 : Int32)), .val (.int (1 : Int32)), .val (.int (p1 ^^^ p2)), .val (.ref b1), .val (.ref b5), .val (.ref b7), .val (.int (1 : Int32)), .unset, .unset] [(.int p1)])) _
          refine st9 _ ?_
          show Steps p.tables e below (T9.setTop (mkF m 116 #[.val (.int p1), .val (.int p2), .val (.int p3), .val (.ref b1), .val (.ref b3), .val (.int (0 : Int32)), .val (.int (1 : Int32)), .val (.int (p1 ^^^ p2)), .val (.ref b1), .val (.ref b5), .val (.ref b7), .val (.int (1 : Int32)), .unset, .unset] [(.ref bx9)])) _
          refine XS.astore X9.here hx rfl (hb hby at_116) rfl rfl (l' := #[.val (.int p1), .val (.int p2), .val (.int p3), .val (.ref b1), .val (.ref b3), .val (.int (0 : Int32)), .val (.int (1 : Int32)), .val (.int (p1 ^^^ p2)), .val (.ref b1), .val (.ref b5), .val (.ref b7), .val (.int (1 : Int32)), .val (.ref bx9), .unset]) rfl ?_
          show Steps p.tables e below (T9.setTop (mkF m 118 #[.val (.int p1), .val (.int p2), .val (.int p3), .val (.ref b1), .val (.ref b3), .val (.int (0 : Int32)), .val (.int (1 : Int32)), .val (.int (p1 ^^^ p2)), .val (.ref b1), .val (.ref b5), .val (.ref b7), .val (.int (1 : Int32)), .val (.ref bx9), .unset] [])) _
          refine XS.aconstNull X9.here hx rfl (hb hby at_118) ?_
          show Steps p.tables e below (T9.setTop (mkF m 119 #[.val (.int p1), .val (.int p2), .val (.int p3), .val (.ref b1), .val (.ref b3), .val (.int (0 : Int32)), .val (.int (1 : Int32)), .val (.int (p1 ^^^ p2)), .val (.ref b1), .val (.ref b5), .val (.ref b7), .val (.int (1 : Int32)), .val (.ref bx9), .unset] [.null])) _
          refine XS.astore X9.here hx rfl (hb hby at_119) rfl rfl (l' := #[.val (.int p1), .val (.int p2), .val (.int p3), .val (.ref b1), .val (.ref b3), .val (.int (0 : Int32)), .val (.int (1 : Int32)), .val (.int (p1 ^^^ p2)), .val (.ref b1), .val (.ref b5), .val (.ref b7), .val (.int (1 : Int32)), .val (.ref bx9), .val .null]) rfl ?_
          show Steps p.tables e below (T9.setTop (mkF m 121 #[.val (.int p1), .val (.int p2), .val (.int p3), .val (.ref b1), .val (.ref b3), .val (.int (0 : Int32)), .val (.int (1 : Int32)), .val (.int (p1 ^^^ p2)), .val (.ref b1), .val (.ref b5), .val (.ref b7), .val (.int (1 : Int32)), .val (.ref bx9), .val .null] [])) _
          refine XS.aload X9.here hx rfl (hb hby at_121) rfl rfl ?_
          show Steps p.tables e below (T9.setTop (mkF m 123 #[.val (.int p1), .val (.int p2), .val (.int p3), .val (.ref b1), .val (.ref b3), .val (.int (0 : Int32)), .val (.int (1 : Int32)), .val (.int (p1 ^^^ p2)), .val (.ref b1), .val (.ref b5), .val (.ref b7), .val (.int (1 : Int32)), .val (.ref bx9), .val .null] [(.ref b5)])) _
          refine XS.aload X9.here hx rfl (hb hby at_123) rfl rfl ?_
          show Steps p.tables e below (T9.setTop (mkF m 125 #[.val (.int p1), .val (.int p2), .val (.int p3), .val (.ref b1), .val (.ref b3), .val (.int (0 : Int32)), .val (.int (1 : Int32)), .val (.int (p1 ^^^ p2)), .val (.ref b1), .val (.ref b5), .val (.ref b7), .val (.int (1 : Int32)), .val (.ref bx9), .val .null] [(.ref b7), (.ref b5)])) _
          refine st10.trans ?_
          show Steps p.tables e below (T10.setTop (mkF m 128 #[.val (.int p1), .val (.int p2), .val (.int p3), .val (.ref b1), .val (.ref b3), .val (.int (0 : Int32)), .val (.int (1 : Int32)), .val (.int (p1 ^^^ p2)), .val (.ref b1), .val (.ref b5), .val (.ref b7), .val (.int (1 : Int32)), .val (.ref bx9), .val .null] [(.int (1 : Int32))])) _
          refine XS.iload X10.here hx rfl (hb hby at_128) rfl ?_
          show Steps p.tables e below (T10.setTop (mkF m 130 #[.val (.int p1), .val (.int p2), .val (.int p3), .val (.ref b1), .val (.ref b3), .val (.int (0 : Int32)), .val (.int (1 : Int32)), .val (.int (p1 ^^^ p2)), .val (.ref b1), .val (.ref b5), .val (.ref b7), .val (.int (1 : Int32)), .val (.ref bx9), .val .null] [(.int (1 : Int32)), (.int (1 : Int32))])) _
          refine XS.icmpNo X10.here hx rfl (hb hby at_130) rfl (teq (by decide : (1 : Int32) = (1 : Int32))).2 ?_
          show Steps p.tables e below (T10.setTop (mkF m 133 #[.val (.int p1), .val (.int p2), .val (.int p3), .val (.ref b1), .val (.ref b3), .val (.int (0 : Int32)), .val (.int (1 : Int32)), .val (.int (p1 ^^^ p2)), .val (.ref b1), .val (.ref b5), .val (.ref b7), .val (.int (1 : Int32)), .val (.ref bx9), .val .null] [])) _
          refine XS.aload X10.here hx rfl (hb hby at_133) rfl rfl ?_
          show Steps p.tables e below (T10.setTop (mkF m 135 #[.val (.int p1), .val (.int p2), .val (.int p3), .val (.ref b1), .val (.ref b3), .val (.int (0 : Int32)), .val (.int (1 : Int32)), .val (.int (p1 ^^^ p2)), .val (.ref b1), .val (.ref b5), .val (.ref b7), .val (.int (1 : Int32)), .val (.ref bx9), .val .null] [(.ref b7)])) _
          refine XS.aload X10.here hx rfl (hb hby at_135) rfl rfl ?_
          show Steps p.tables e below (T10.setTop (mkF m 137 #[.val (.int p1), .val (.int p2), .val (.int p3), .val (.ref b1), .val (.ref b3), .val (.int (0 : Int32)), .val (.int (1 : Int32)), .val (.int (p1 ^^^ p2)), .val (.ref b1), .val (.ref b5), .val (.ref b7), .val (.int (1 : Int32)), .val (.ref bx9), .val .null] [(.ref b5), (.ref b7)])) _
          refine st11.trans ?_
          show Steps p.tables e below (T11.setTop (mkF m 140 #[.val (.int p1), .val (.int p2), .val (.int p3), .val (.ref b1), .val (.ref b3), .val (.int (0 : Int32)), .val (.int (1 : Int32)), .val (.int (p1 ^^^ p2)), .val (.ref b1), .val (.ref b5), .val (.ref b7), .val (.int (1 : Int32)), .val (.ref bx9), .val .null] [(.int (1 : Int32))])) _
          refine XS.iload X11.here hx rfl (hb hby at_140) rfl ?_
          show Steps p.tables e below (T11.setTop (mkF m 142 #[.val (.int p1), .val (.int p2), .val (.int p3), .val (.ref b1), .val (.ref b3), .val (.int (0 : Int32)), .val (.int (1 : Int32)), .val (.int (p1 ^^^ p2)), .val (.ref b1), .val (.ref b5), .val (.ref b7), .val (.int (1 : Int32)), .val (.ref bx9), .val .null] [(.int (1 : Int32)), (.int (1 : Int32))])) _
          refine XS.icmpNo X11.here hx rfl (hb hby at_142) rfl (teq (by decide : (1 : Int32) = (1 : Int32))).2 ?_
          show Steps p.tables e below (T11.setTop (mkF m 145 #[.val (.int p1), .val (.int p2), .val (.int p3), .val (.ref b1), .val (.ref b3), .val (.int (0 : Int32)), .val (.int (1 : Int32)), .val (.int (p1 ^^^ p2)), .val (.ref b1), .val (.ref b5), .val (.ref b7), .val (.int (1 : Int32)), .val (.ref bx9), .val .null] [])) _
          refine XS.aload X11.here hx rfl (hb hby at_145) rfl rfl ?_
          show Steps p.tables e below (T11.setTop (mkF m 147 #[.val (.int p1), .val (.int p2), .val (.int p3), .val (.ref b1), .val (.ref b3), .val (.int (0 : Int32)), .val (.int (1 : Int32)), .val (.int (p1 ^^^ p2)), .val (.ref b1), .val (.ref b5), .val (.ref b7), .val (.int (1 : Int32)), .val (.ref bx9), .val .null] [(.ref b5)])) _
          refine XS.aload X11.here hx rfl (hb hby at_147) rfl rfl ?_
          show Steps p.tables e below (T11.setTop (mkF m 149 #[.val (.int p1), .val (.int p2), .val (.int p3), .val (.ref b1), .val (.ref b3), .val (.int (0 : Int32)), .val (.int (1 : Int32)), .val (.int (p1 ^^^ p2)), .val (.ref b1), .val (.ref b5), .val (.ref b7), .val (.int (1 : Int32)), .val (.ref bx9), .val .null] [(.ref b5), (.ref b5)])) _
          refine st12.trans ?_
          show Steps p.tables e below (T12.setTop (mkF m 152 #[.val (.int p1), .val (.int p2), .val (.int p3), .val (.ref b1), .val (.ref b3), .val (.int (0 : Int32)), .val (.int (1 : Int32)), .val (.int (p1 ^^^ p2)), .val (.ref b1), .val (.ref b5), .val (.ref b7), .val (.int (1 : Int32)), .val (.ref bx9), .val .null] [(.int (1 : Int32))])) _
          refine XS.ifNo X12.here hx rfl (hb hby at_152) rfl ((if0 _ _).trans (feq (by decide : ¬ ((1 : Int32) = (0 : Int32)))).1) ?_
          show Steps p.tables e below (T12.setTop (mkF m 155 #[.val (.int p1), .val (.int p2), .val (.int p3), .val (.ref b1), .val (.ref b3), .val (.int (0 : Int32)), .val (.int (1 : Int32)), .val (.int (p1 ^^^ p2)), .val (.ref b1), .val (.ref b5), .val (.ref b7), .val (.int (1 : Int32)), .val (.ref bx9), .val .null] [])) _
          refine XS.aload X12.here hx rfl (hb hby at_155) rfl rfl ?_
          show Steps p.tables e below (T12.setTop (mkF m 157 #[.val (.int p1), .val (.int p2), .val (.int p3), .val (.ref b1), .val (.ref b3), .val (.int (0 : Int32)), .val (.int (1 : Int32)), .val (.int (p1 ^^^ p2)), .val (.ref b1), .val (.ref b5), .val (.ref b7), .val (.int (1 : Int32)), .val (.ref bx9), .val .null] [(.ref b5)])) _
          refine XS.aload X12.here hx rfl (hb hby at_157) rfl rfl ?_
          show Steps p.tables e below (T12.setTop (mkF m 159 #[.val (.int p1), .val (.int p2), .val (.int p3), .val (.ref b1), .val (.ref b3), .val (.int (0 : Int32)), .val (.int (1 : Int32)), .val (.int (p1 ^^^ p2)), .val (.ref b1), .val (.ref b5), .val (.ref b7), .val (.int (1 : Int32)), .val (.ref bx9), .val .null] [(.ref bx9), (.ref b5)])) _
          refine st13.trans ?_
          show Steps p.tables e below (T13.setTop (mkF m 162 #[.val (.int p1), .val (.int p2), .val (.int p3), .val (.ref b1), .val (.ref b3), .val (.int (0 : Int32)), .val (.int (1 : Int32)), .val (.int (p1 ^^^ p2)), .val (.ref b1), .val (.ref b5), .val (.ref b7), .val (.int (1 : Int32)), .val (.ref bx9), .val .null] [(.int (0 : Int32))])) _
          refine XS.ifNo X13.here hx rfl (hb hby at_162) rfl ((if0 _ _).trans (teq (by decide : (0 : Int32) = (0 : Int32))).2) ?_
          show Steps p.tables e below (T13.setTop (mkF m 165 #[.val (.int p1), .val (.int p2), .val (.int p3), .val (.ref b1), .val (.ref b3), .val (.int (0 : Int32)), .val (.int (1 : Int32)), .val (.int (p1 ^^^ p2)), .val (.ref b1), .val (.ref b5), .val (.ref b7), .val (.int (1 : Int32)), .val (.ref bx9), .val .null] [])) _
          refine XS.aload X13.here hx rfl (hb hby at_165) rfl rfl ?_
          show Steps p.tables e below (T13.setTop (mkF m 167 #[.val (.int p1), .val (.int p2), .val (.int p3), .val (.ref b1), .val (.ref b3), .val (.int (0 : Int32)), .val (.int (1 : Int32)), .val (.int (p1 ^^^ p2)), .val (.ref b1), .val (.ref b5), .val (.ref b7), .val (.int (1 : Int32)), .val (.ref bx9), .val .null] [(.ref b5)])) _
          refine XS.aload X13.here hx rfl (hb hby at_167) rfl rfl ?_
          show Steps p.tables e below (T13.setTop (mkF m 169 #[.val (.int p1), .val (.int p2), .val (.int p3), .val (.ref b1), .val (.ref b3), .val (.int (0 : Int32)), .val (.int (1 : Int32)), .val (.int (p1 ^^^ p2)), .val (.ref b1), .val (.ref b5), .val (.ref b7), .val (.int (1 : Int32)), .val (.ref bx9), .val .null] [.null, (.ref b5)])) _
          refine st14.trans ?_
          show Steps p.tables e below (T14.setTop (mkF m 172 #[.val (.int p1), .val (.int p2), .val (.int p3), .val (.ref b1), .val (.ref b3), .val (.int (0 : Int32)), .val (.int (1 : Int32)), .val (.int (p1 ^^^ p2)), .val (.ref b1), .val (.ref b5), .val (.ref b7), .val (.int (1 : Int32)), .val (.ref bx9), .val .null] [(.int (0 : Int32))])) _
          refine XS.ifNo X14.here hx rfl (hb hby at_172) rfl ((if0 _ _).trans (teq (by decide : (0 : Int32) = (0 : Int32))).2) ?_
          show Steps p.tables e below (T14.setTop (mkF m 175 #[.val (.int p1), .val (.int p2), .val (.int p3), .val (.ref b1), .val (.ref b3), .val (.int (0 : Int32)), .val (.int (1 : Int32)), .val (.int (p1 ^^^ p2)), .val (.ref b1), .val (.ref b5), .val (.ref b7), .val (.int (1 : Int32)), .val (.ref bx9), .val .null] [])) _
          refine XS.iconst X14.here hx rfl (hb hby at_175) ?_
          show Steps p.tables e below (T14.setTop (mkF m 176 #[.val (.int p1), .val (.int p2), .val (.int p3), .val (.ref b1), .val (.ref b3), .val (.int (0 : Int32)), .val (.int (1 : Int32)), .val (.int (p1 ^^^ p2)), .val (.ref b1), .val (.ref b5), .val (.ref b7), .val (.int (1 : Int32)), .val (.ref bx9), .val .null] [(.int (1 : Int32))])) _
          refine XS.goto X14.here hx rfl (pc0 := 176) (pc' := 180) rfl (hb hby at_176) (by decide) (by decide) ?_
          show Steps p.tables e below (T14.setTop (mkF m 180 #[.val (.int p1), .val (.int p2), .val (.int p3), .val (.ref b1), .val (.ref b3), .val (.int (0 : Int32)), .val (.int (1 : Int32)), .val (.int (p1 ^^^ p2)), .val (.ref b1), .val (.ref b5), .val (.ref b7), .val (.int (1 : Int32)), .val (.ref bx9), .val .null] [(.int (1 : Int32))])) _
          exact retN X14 hx (t := .boolean) Bd.returns (by simp) (hb hby at_180) hr
        · show Q_rm0 Z p1 p2 p3 ca h0 n0 _ T14.heap _
          rw [e14]
          exact ⟨rfl, N14⟩
      · obtain ⟨T1, h1, X1, e1, E1, A1, D1, -, st1⟩ := newO X0 hx hZ hown (hw _ (List.mem_of_getElem? (i := 0) rfl)) (hw _ (List.mem_of_getElem? (i := 1) rfl)) (hw _ (List.mem_of_getElem? (i := 2) rfl)) e0 (g := (mkF m 0 #[.val (.int p1), .val (.int p2), .val (.int p3), .unset, .unset, .unset, .unset, .unset, .unset, .unset, .unset, .unset, .unset, .unset] [])) rfl (hb hby at_0) (by decide) (by decide)
        obtain ⟨b1, g1⟩ : ∃ z, z = h0.size := ⟨_, rfl⟩
        rw [← g1] at A1 D1 st1
        have ge_b1 : n0 ≤ b1 := Nat.le_trans Z0 (Nat.le_of_eq g1.symm)
        have sz_b1 : h0.size ≤ b1 := Nat.le_trans (Keep.refl h0 []).1 (Nat.le_of_eq g1.symm)
        have Z1 : n0 ≤ h1.size := Nat.le_trans Z0 E1.1
        have Kp1 : Keep h0 h1 [] := (Keep.refl h0 []).ext E1
        have F_variableOf_b1 : Fld Z h1 b1 "com/example/brevi/brevi/bdd/BddManager" "variableOf" "[I" .null := D1 (Or.inl (hw _ (List.mem_of_getElem? (i := 15) rfl))) (ty := (.array .int)) (by decide)
        have F_lowOf_b1 : Fld Z h1 b1 "com/example/brevi/brevi/bdd/BddManager" "lowOf" "[I" .null := D1 (Or.inl (hw _ (List.mem_of_getElem? (i := 17) rfl))) (ty := (.array .int)) (by decide)
        have F_highOf_b1 : Fld Z h1 b1 "com/example/brevi/brevi/bdd/BddManager" "highOf" "[I" .null := D1 (Or.inl (hw _ (List.mem_of_getElem? (i := 19) rfl))) (ty := (.array .int)) (by decide)
        have F_nextInBucket_b1 : Fld Z h1 b1 "com/example/brevi/brevi/bdd/BddManager" "nextInBucket" "[I" .null := D1 (Or.inl (hw _ (List.mem_of_getElem? (i := 21) rfl))) (ty := (.array .int)) (by decide)
        have F_bucketHead_b1 : Fld Z h1 b1 "com/example/brevi/brevi/bdd/BddManager" "bucketHead" "[I" .null := D1 (Or.inl (hw _ (List.mem_of_getElem? (i := 23) rfl))) (ty := (.array .int)) (by decide)
        have F_cacheOperation_b1 : Fld Z h1 b1 "com/example/brevi/brevi/bdd/BddManager" "cacheOperation" "[I" .null := D1 (Or.inl (hw _ (List.mem_of_getElem? (i := 33) rfl))) (ty := (.array .int)) (by decide)
        have F_cacheFirst_b1 : Fld Z h1 b1 "com/example/brevi/brevi/bdd/BddManager" "cacheFirst" "[I" .null := D1 (Or.inl (hw _ (List.mem_of_getElem? (i := 35) rfl))) (ty := (.array .int)) (by decide)
        have F_cacheSecond_b1 : Fld Z h1 b1 "com/example/brevi/brevi/bdd/BddManager" "cacheSecond" "[I" .null := D1 (Or.inl (hw _ (List.mem_of_getElem? (i := 37) rfl))) (ty := (.array .int)) (by decide)
        have F_cacheThird_b1 : Fld Z h1 b1 "com/example/brevi/brevi/bdd/BddManager" "cacheThird" "[I" .null := D1 (Or.inl (hw _ (List.mem_of_getElem? (i := 39) rfl))) (ty := (.array .int)) (by decide)
        have F_cacheResult_b1 : Fld Z h1 b1 "com/example/brevi/brevi/bdd/BddManager" "cacheResult" "[I" .null := D1 (Or.inl (hw _ (List.mem_of_getElem? (i := 41) rfl))) (ty := (.array .int)) (by decide)
        have F_nodeCount_b1 : Fld Z h1 b1 "com/example/brevi/brevi/bdd/BddManager" "nodeCount" "I" (.int (0 : Int32)) := D1 (Or.inl (hw _ (List.mem_of_getElem? (i := 48) rfl))) (ty := .int) (by decide)
        have F_falseBdd_b1 : Fld Z h1 b1 "com/example/brevi/brevi/bdd/BddManager" "falseBdd" "Lcom/example/brevi/brevi/bdd/Bdd;" .null := D1 (Or.inr (hw _ (List.mem_of_getElem? (i := 61) rfl))) (ty := (.object "com/example/brevi/brevi/bdd/Bdd")) (by decide)
        have F_trueBdd_b1 : Fld Z h1 b1 "com/example/brevi/brevi/bdd/BddManager" "trueBdd" "Lcom/example/brevi/brevi/bdd/Bdd;" .null := D1 (Or.inr (hw _ (List.mem_of_getElem? (i := 63) rfl))) (ty := (.object "com/example/brevi/brevi/bdd/Bdd")) (by decide)
        obtain ⟨_, _, ⟨T2, L2, k2, n2⟩, -, X2, ⟨Lc2, hQ2, l2, y2, z2⟩, st2⟩ := X1.specialBack hx (y := (⟨"com/example/brevi/brevi/bdd/BddManager", "<init>", "()V"⟩ : MethodName)) rfl hown (mvT hZ (hw _ (List.mem_of_getElem? (i := 3) rfl))) (mvT hZ (hw _ (List.mem_of_getElem? (i := 4) rfl))) (mvT hZ (hw _ (List.mem_of_getElem? (i := 5) rfl))) (by decide) (backOf (W := 1) (rmM l Z a0 hw [] b1 h1 n0 Z1 A1 F_variableOf_b1 F_lowOf_b1 F_highOf_b1 F_nextInBucket_b1 F_bucketHead_b1 F_cacheOperation_b1 F_cacheFirst_b1 F_cacheSecond_b1 F_cacheThird_b1 F_cacheResult_b1 F_nodeCount_b1 F_falseBdd_b1 F_trueBdd_b1 ge_b1) hZ (hw _ (List.mem_of_getElem? (i := 5) rfl)) (hw _ (List.mem_of_getElem? (i := 2) rfl)) (by decide) (by decide)) (g := (mkF m 4 #[.val (.int p1), .val (.int p2), .val (.int p3), .unset, .unset, .unset, .unset, .unset, .unset, .unset, .unset, .unset, .unset, .unset] [(.ref b1), (.ref b1)])) rfl (by rw [hml]; rfl) (Steps.refl _) (a := b1) (argsL := []) (rest := [(.ref b1)]) (lenOf pd_0 rfl) rfl (by show 2 * 0 + _ ≤ _; exact Nat.le_of_eq rfl) (hb hby at_4) (fun _ _ => ⟨rfl, e1, (by decide : 1 + 12 ≤ _), (by decide : 15 + 40964 ≤ _)⟩)
        dsimp only [Pt.U, Pt.locs, Pt.cells, Pt.slots] at X2 l2 y2 z2 st2 hQ2
        subst l2 y2 z2
        obtain ⟨rfl, Nq2, K2⟩ := hQ2
        have A1_2 := A1.keep K2
        have Z2 : n0 ≤ T2.heap.size := Nat.le_trans Z1 K2.1
        have Kp2 : Keep h0 T2.heap [] := Kp1.trans K2 (allS (Or.inr sz_b1) all0)
        have N2 := Fr.app N0 Nq2
        obtain ⟨T3, h3, X3, e3, E3, A3, D3, -, st3⟩ := newO X2 hx hZ hown (hw _ (List.mem_of_getElem? (i := 0) rfl)) (hw _ (List.mem_of_getElem? (i := 1) rfl)) (hw _ (List.mem_of_getElem? (i := 2) rfl)) rfl (g := (mkF m 8 #[.val (.int p1), .val (.int p2), .val (.int p3), .val (.ref b1), .unset, .unset, .unset, .unset, .unset, .unset, .unset, .unset, .unset, .unset] [])) rfl (hb hby at_8) (by decide) (by decide)
        obtain ⟨b3, g3⟩ : ∃ z, z = T2.heap.size := ⟨_, rfl⟩
        rw [← g3] at A3 D3 st3
        have ne_b1_b3 : b1 ≠ b3 := Nat.ne_of_lt (Nat.lt_of_lt_of_eq A1_2.lt g3.symm)
        have ge_b3 : n0 ≤ b3 := Nat.le_trans Z2 (Nat.le_of_eq g3.symm)
        have sz_b3 : h0.size ≤ b3 := Nat.le_trans Kp2.1 (Nat.le_of_eq g3.symm)
        have A1_3 := A1_2.ext E3
        have Z3 : n0 ≤ h3.size := Nat.le_trans Z2 E3.1
        have Kp3 : Keep h0 h3 [] := Kp2.ext E3
        have F_variableOf_b3 : Fld Z h3 b3 "com/example/brevi/brevi/bdd/BddManager" "variableOf" "[I" .null := D3 (Or.inl (hw _ (List.mem_of_getElem? (i := 15) rfl))) (ty := (.array .int)) (by decide)
        have F_lowOf_b3 : Fld Z h3 b3 "com/example/brevi/brevi/bdd/BddManager" "lowOf" "[I" .null := D3 (Or.inl (hw _ (List.mem_of_getElem? (i := 17) rfl))) (ty := (.array .int)) (by decide)
        have F_highOf_b3 : Fld Z h3 b3 "com/example/brevi/brevi/bdd/BddManager" "highOf" "[I" .null := D3 (Or.inl (hw _ (List.mem_of_getElem? (i := 19) rfl))) (ty := (.array .int)) (by decide)
        have F_nextInBucket_b3 : Fld Z h3 b3 "com/example/brevi/brevi/bdd/BddManager" "nextInBucket" "[I" .null := D3 (Or.inl (hw _ (List.mem_of_getElem? (i := 21) rfl))) (ty := (.array .int)) (by decide)
        have F_bucketHead_b3 : Fld Z h3 b3 "com/example/brevi/brevi/bdd/BddManager" "bucketHead" "[I" .null := D3 (Or.inl (hw _ (List.mem_of_getElem? (i := 23) rfl))) (ty := (.array .int)) (by decide)
        have F_cacheOperation_b3 : Fld Z h3 b3 "com/example/brevi/brevi/bdd/BddManager" "cacheOperation" "[I" .null := D3 (Or.inl (hw _ (List.mem_of_getElem? (i := 33) rfl))) (ty := (.array .int)) (by decide)
        have F_cacheFirst_b3 : Fld Z h3 b3 "com/example/brevi/brevi/bdd/BddManager" "cacheFirst" "[I" .null := D3 (Or.inl (hw _ (List.mem_of_getElem? (i := 35) rfl))) (ty := (.array .int)) (by decide)
        have F_cacheSecond_b3 : Fld Z h3 b3 "com/example/brevi/brevi/bdd/BddManager" "cacheSecond" "[I" .null := D3 (Or.inl (hw _ (List.mem_of_getElem? (i := 37) rfl))) (ty := (.array .int)) (by decide)
        have F_cacheThird_b3 : Fld Z h3 b3 "com/example/brevi/brevi/bdd/BddManager" "cacheThird" "[I" .null := D3 (Or.inl (hw _ (List.mem_of_getElem? (i := 39) rfl))) (ty := (.array .int)) (by decide)
        have F_cacheResult_b3 : Fld Z h3 b3 "com/example/brevi/brevi/bdd/BddManager" "cacheResult" "[I" .null := D3 (Or.inl (hw _ (List.mem_of_getElem? (i := 41) rfl))) (ty := (.array .int)) (by decide)
        have F_nodeCount_b3 : Fld Z h3 b3 "com/example/brevi/brevi/bdd/BddManager" "nodeCount" "I" (.int (0 : Int32)) := D3 (Or.inl (hw _ (List.mem_of_getElem? (i := 48) rfl))) (ty := .int) (by decide)
        have F_falseBdd_b3 : Fld Z h3 b3 "com/example/brevi/brevi/bdd/BddManager" "falseBdd" "Lcom/example/brevi/brevi/bdd/Bdd;" .null := D3 (Or.inr (hw _ (List.mem_of_getElem? (i := 61) rfl))) (ty := (.object "com/example/brevi/brevi/bdd/Bdd")) (by decide)
        have F_trueBdd_b3 : Fld Z h3 b3 "com/example/brevi/brevi/bdd/BddManager" "trueBdd" "Lcom/example/brevi/brevi/bdd/Bdd;" .null := D3 (Or.inr (hw _ (List.mem_of_getElem? (i := 63) rfl))) (ty := (.object "com/example/brevi/brevi/bdd/Bdd")) (by decide)
        obtain ⟨_, _, ⟨T4, L4, k4, n4⟩, -, X4, ⟨Lc4, hQ4, l4, y4, z4⟩, st4⟩ := X3.specialBack hx (y := (⟨"com/example/brevi/brevi/bdd/BddManager", "<init>", "()V"⟩ : MethodName)) rfl hown (mvT hZ (hw _ (List.mem_of_getElem? (i := 3) rfl))) (mvT hZ (hw _ (List.mem_of_getElem? (i := 4) rfl))) (mvT hZ (hw _ (List.mem_of_getElem? (i := 5) rfl))) (by decide) (backOf (W := 1) (rmM l Z a0 hw [] b3 h3 n0 Z3 A3 F_variableOf_b3 F_lowOf_b3 F_highOf_b3 F_nextInBucket_b3 F_bucketHead_b3 F_cacheOperation_b3 F_cacheFirst_b3 F_cacheSecond_b3 F_cacheThird_b3 F_cacheResult_b3 F_nodeCount_b3 F_falseBdd_b3 F_trueBdd_b3 ge_b3) hZ (hw _ (List.mem_of_getElem? (i := 5) rfl)) (hw _ (List.mem_of_getElem? (i := 2) rfl)) (by decide) (by decide)) (g := (mkF m 12 #[.val (.int p1), .val (.int p2), .val (.int p3), .val (.ref b1), .unset, .unset, .unset, .unset, .unset, .unset, .unset, .unset, .unset, .unset] [(.ref b3), (.ref b3)])) rfl (by rw [hml]; rfl) (Steps.refl _) (a := b3) (argsL := []) (rest := [(.ref b3)]) (lenOf pd_0 rfl) rfl (by show 2 * 0 + _ ≤ _; exact Nat.le_of_eq rfl) (hb hby at_12) (fun _ _ => ⟨rfl, e3, (by decide : 14 + 12 ≤ _), (by decide : 40994 + 40964 ≤ _)⟩)
        dsimp only [Pt.U, Pt.locs, Pt.cells, Pt.slots] at X4 l4 y4 z4 st4 hQ4
        subst l4 y4 z4
        obtain ⟨rfl, Nq4, K4⟩ := hQ4
        have A1_4 := A1_3.keep K4
        have A3_4 := A3.keep K4
        have Z4 : n0 ≤ T4.heap.size := Nat.le_trans Z3 K4.1
        have Kp4 : Keep h0 T4.heap [] := Kp3.trans K4 (allS (Or.inr sz_b3) all0)
        have N4 := Fr.app N2 Nq4
        obtain ⟨T5, h5, X5, e5, E5, A5, D5, -, st5⟩ := newO X4 hx hZ hown (hw _ (List.mem_of_getElem? (i := 64) rfl)) (hw _ (List.mem_of_getElem? (i := 50) rfl)) (hw _ (List.mem_of_getElem? (i := 51) rfl)) rfl (g := (mkF m 70 #[.val (.int p1), .val (.int p2), .val (.int p3), .val (.ref b1), .val (.ref b3), .val (.int (0 : Int32)), .val (.int (1 : Int32)), .val (.int (p1 ^^^ p2)), .val (.ref b1), .unset, .unset, .unset, .unset, .unset] [])) rfl (hb hby at_70) (by decide) (by decide)
        obtain ⟨b5, g5⟩ : ∃ z, z = T4.heap.size := ⟨_, rfl⟩
        rw [← g5] at A5 D5 st5
        have ne_b1_b5 : b1 ≠ b5 := Nat.ne_of_lt (Nat.lt_of_lt_of_eq A1_4.lt g5.symm)
        have ne_b3_b5 : b3 ≠ b5 := Nat.ne_of_lt (Nat.lt_of_lt_of_eq A3_4.lt g5.symm)
        have ge_b5 : n0 ≤ b5 := Nat.le_trans Z4 (Nat.le_of_eq g5.symm)
        have sz_b5 : h0.size ≤ b5 := Nat.le_trans Kp4.1 (Nat.le_of_eq g5.symm)
        have A1_5 := A1_4.ext E5
        have A3_5 := A3_4.ext E5
        have Z5 : n0 ≤ h5.size := Nat.le_trans Z4 E5.1
        have Kp5 : Keep h0 h5 [] := Kp4.ext E5
        have F_manager_b5 : Fld Z h5 b5 "com/example/brevi/brevi/bdd/Bdd" "manager" "Lcom/example/brevi/brevi/bdd/BddManager;" .null := D5 (Or.inr (hw _ (List.mem_of_getElem? (i := 57) rfl))) (ty := (.object "com/example/brevi/brevi/bdd/BddManager")) (by decide)
        have F_node_b5 : Fld Z h5 b5 "com/example/brevi/brevi/bdd/Bdd" "node" "I" (.int (0 : Int32)) := D5 (Or.inr (hw _ (List.mem_of_getElem? (i := 59) rfl))) (ty := .int) (by decide)
        obtain ⟨_, _, ⟨T6, L6, k6, n6⟩, -, X6, ⟨Lc6, hQ6, l6, y6, z6⟩, st6⟩ := X5.specialBack hx (y := (⟨"com/example/brevi/brevi/bdd/Bdd", "<init>", "(Lcom/example/brevi/brevi/bdd/BddManager;I)V"⟩ : MethodName)) rfl hown (mvT hZ (hw _ (List.mem_of_getElem? (i := 65) rfl))) (mvT hZ (hw _ (List.mem_of_getElem? (i := 53) rfl))) (mvT hZ (hw _ (List.mem_of_getElem? (i := 54) rfl))) (by decide) (backOf (W := 1) (rmB l Z a0 hw [] b5 b1 p1 h5 n0 Z5 A5 F_manager_b5 F_node_b5 ge_b5) hZ (hw _ (List.mem_of_getElem? (i := 54) rfl)) (hw _ (List.mem_of_getElem? (i := 51) rfl)) (by decide) (by decide)) (g := (mkF m 76 #[.val (.int p1), .val (.int p2), .val (.int p3), .val (.ref b1), .val (.ref b3), .val (.int (0 : Int32)), .val (.int (1 : Int32)), .val (.int (p1 ^^^ p2)), .val (.ref b1), .unset, .unset, .unset, .unset, .unset] [(.int p1), (.ref b1), (.ref b5), (.ref b5)])) rfl (by rw [hml]; rfl) (Steps.refl _) (a := b5) (argsL := [(.ref b1), (.int p1)]) (rest := [(.ref b5)]) (lenOf pd_4 rfl) rfl (by show 2 * 0 + _ ≤ _; exact Nat.le_of_eq rfl) (hb hby at_76) (fun _ _ => ⟨rfl, e5, (by decide : 27 + 0 ≤ _), (by decide : 81960 + 0 ≤ _)⟩)
        dsimp only [Pt.U, Pt.locs, Pt.cells, Pt.slots] at X6 l6 y6 z6 st6 hQ6
        subst l6 y6 z6
        obtain ⟨rfl, Nq6, K6, ex6, fm6, fn6⟩ := hQ6
        have A1_6 := A1_5.keep K6
        have A3_6 := A3_5.keep K6
        have A5_6 := A5.keep K6
        have Z6 : n0 ≤ T6.heap.size := Nat.le_trans Z5 K6.1
        have Kp6 : Keep h0 T6.heap [] := Kp5.trans K6 (allS (Or.inr sz_b5) all0)
        have N6 := Fr.app N4 Nq6
        obtain ⟨T7, h7, X7, e7, E7, A7, D7, -, st7⟩ := newO X6 hx hZ hown (hw _ (List.mem_of_getElem? (i := 64) rfl)) (hw _ (List.mem_of_getElem? (i := 50) rfl)) (hw _ (List.mem_of_getElem? (i := 51) rfl)) rfl (g := (mkF m 81 #[.val (.int p1), .val (.int p2), .val (.int p3), .val (.ref b1), .val (.ref b3), .val (.int (0 : Int32)), .val (.int (1 : Int32)), .val (.int (p1 ^^^ p2)), .val (.ref b1), .val (.ref b5), .unset, .unset, .unset, .unset] [])) rfl (hb hby at_81) (by decide) (by decide)
        obtain ⟨b7, g7⟩ : ∃ z, z = T6.heap.size := ⟨_, rfl⟩
        rw [← g7] at A7 D7 st7
        have ne_b1_b7 : b1 ≠ b7 := Nat.ne_of_lt (Nat.lt_of_lt_of_eq A1_6.lt g7.symm)
        have ne_b3_b7 : b3 ≠ b7 := Nat.ne_of_lt (Nat.lt_of_lt_of_eq A3_6.lt g7.symm)
        have ne_b5_b7 : b5 ≠ b7 := Nat.ne_of_lt (Nat.lt_of_lt_of_eq ex6.lt g7.symm)
        have ge_b7 : n0 ≤ b7 := Nat.le_trans Z6 (Nat.le_of_eq g7.symm)
        have sz_b7 : h0.size ≤ b7 := Nat.le_trans Kp6.1 (Nat.le_of_eq g7.symm)
        have A1_7 := A1_6.ext E7
        have A3_7 := A3_6.ext E7
        have ex6_7 := ex6.ext E7
        have fm6_7 := fm6.ext E7
        have fn6_7 := fn6.ext E7
        have Z7 : n0 ≤ h7.size := Nat.le_trans Z6 E7.1
        have Kp7 : Keep h0 h7 [] := Kp6.ext E7
        have F_manager_b7 : Fld Z h7 b7 "com/example/brevi/brevi/bdd/Bdd" "manager" "Lcom/example/brevi/brevi/bdd/BddManager;" .null := D7 (Or.inr (hw _ (List.mem_of_getElem? (i := 57) rfl))) (ty := (.object "com/example/brevi/brevi/bdd/BddManager")) (by decide)
        have F_node_b7 : Fld Z h7 b7 "com/example/brevi/brevi/bdd/Bdd" "node" "I" (.int (0 : Int32)) := D7 (Or.inr (hw _ (List.mem_of_getElem? (i := 59) rfl))) (ty := .int) (by decide)
        obtain ⟨_, _, ⟨T8, L8, k8, n8⟩, -, X8, ⟨Lc8, hQ8, l8, y8, z8⟩, st8⟩ := X7.specialBack hx (y := (⟨"com/example/brevi/brevi/bdd/Bdd", "<init>", "(Lcom/example/brevi/brevi/bdd/BddManager;I)V"⟩ : MethodName)) rfl hown (mvT hZ (hw _ (List.mem_of_getElem? (i := 65) rfl))) (mvT hZ (hw _ (List.mem_of_getElem? (i := 53) rfl))) (mvT hZ (hw _ (List.mem_of_getElem? (i := 54) rfl))) (by decide) (backOf (W := 1) (rmB l Z a0 hw [] b7 b1 (p1 ^^^ p2) h7 n0 Z7 A7 F_manager_b7 F_node_b7 ge_b7) hZ (hw _ (List.mem_of_getElem? (i := 54) rfl)) (hw _ (List.mem_of_getElem? (i := 51) rfl)) (by decide) (by decide)) (g := (mkF m 89 #[.val (.int p1), .val (.int p2), .val (.int p3), .val (.ref b1), .val (.ref b3), .val (.int (0 : Int32)), .val (.int (1 : Int32)), .val (.int (p1 ^^^ p2)), .val (.ref b1), .val (.ref b5), .unset, .unset, .unset, .unset] [(.int (p1 ^^^ p2)), (.ref b1), (.ref b7), (.ref b7)])) rfl (by rw [hml]; rfl) (Steps.refl _) (a := b7) (argsL := [(.ref b1), (.int (p1 ^^^ p2))]) (rest := [(.ref b7)]) (lenOf pd_4 rfl) rfl (by show 2 * 0 + _ ≤ _; exact Nat.le_of_eq rfl) (hb hby at_89) (fun _ _ => ⟨rfl, e7, (by decide : 28 + 0 ≤ _), (by decide : 81962 + 0 ≤ _)⟩)
        dsimp only [Pt.U, Pt.locs, Pt.cells, Pt.slots] at X8 l8 y8 z8 st8 hQ8
        subst l8 y8 z8
        obtain ⟨rfl, Nq8, K8, ex8, fm8, fn8⟩ := hQ8
        have A1_8 := A1_7.keep K8
        have A3_8 := A3_7.keep K8
        have ex6_8 := ex6_7.keep K8
        have fm6_8 := fm6_7.keep K8 (ninS ne_b5_b7 nin0)
        have fn6_8 := fn6_7.keep K8 (ninS ne_b5_b7 nin0)
        have A7_8 := A7.keep K8
        have Z8 : n0 ≤ T8.heap.size := Nat.le_trans Z7 K8.1
        have Kp8 : Keep h0 T8.heap [] := Kp7.trans K8 (allS (Or.inr sz_b7) all0)
        have N8 := Fr.app N6 Nq8
        obtain ⟨_, _, ⟨T9, L9, k9, n9⟩, -, X9, ⟨Lc9, hQ9, l9, y9, z9⟩, st9⟩ := Jvm.LawKit.callS X8 hx (y := (⟨"java/lang/Integer", "valueOf", "(I)Ljava/lang/Integer;"⟩ : MethodName)) hown (mvT hZ (hw _ (List.mem_of_getElem? (i := 66) rfl))) (mvT hZ (hw _ (List.mem_of_getElem? (i := 67) rfl))) (mvT hZ (hw _ (List.mem_of_getElem? (i := 68) rfl))) (mvT hZ (hw _ (List.mem_of_getElem? (i := 69) rfl))) (by decide) (backOf (W := 0) (rmV l Z a0 hw [] p1 ca T8.heap n0 Z8 (own_sta S_hi Kp8) (own_sta S_ca Kp8) (C0.keep Kp8)) hZ (hw _ (List.mem_of_getElem? (i := 69) rfl)) (hw _ (List.mem_of_getElem? (i := 68) rfl)) (by decide) (by decide)) (g := (mkF m 113 #[.val (.int p1), .val (.int p2), .val (.int p3), .val (.ref b1), .val (.ref b3), .val (.int (0 : Int32)), .val (.int (1 : Int32)), .val (.int (p1 ^^^ p2)), .val (.ref b1), .val (.ref b5), .val (.ref b7), .val (.int (0 : Int32)), .unset, .unset] [(.int p1)])) rfl (by rw [hml]; rfl) (argsL := [(.int p1)]) (rest := []) (lenOf pd_5 rfl) rfl (by show 2 * 0 + _ ≤ _; exact Nat.le_of_eq rfl) (hb hby at_113) (fun _ _ => ⟨rfl, rfl, (by decide : 28 + 1 ≤ _), (by decide : 81962 + 1 ≤ _)⟩)
        dsimp only [Pt.U, Pt.locs, Pt.cells, Pt.slots] at X9 l9 y9 z9 st9 hQ9
        subst l9 y9 z9
        obtain ⟨bx9, rfl, Nq9, K9, ex9⟩ := hQ9
        have A1_9 := A1_8.keep K9
        have A3_9 := A3_8.keep K9
        have ex6_9 := ex6_8.keep K9
        have fm6_9 := fm6_8.keep K9 nin0
        have fn6_9 := fn6_8.keep K9 nin0
        have ex8_9 := ex8.keep K9
        have fm8_9 := fm8.keep K9 nin0
        have fn8_9 := fn8.keep K9 nin0
        have Z9 : n0 ≤ T9.heap.size := Nat.le_trans Z8 K9.1
        have Kp9 : Keep h0 T9.heap [] := Kp8.trans K9 all0
        have N9 := Fr.app N8 Nq9
        obtain ⟨cq10, kq10, q10a, q10b, q10c⟩ := isOf hZ rfl ex6_9
        obtain ⟨_, _, ⟨T10, L10, k10, n10⟩, -, X10, ⟨Lc10, hQ10, l10, y10, z10⟩, st10⟩ := X9.virtualBack hx (y := (⟨"com/example/brevi/brevi/bdd/Bdd", "equals", "(Ljava/lang/Object;)Z"⟩ : MethodName)) (z := (⟨"com/example/brevi/brevi/bdd/Bdd", "equals", "(Ljava/lang/Object;)Z"⟩ : MethodName)) hown (mvT hZ (hw _ (List.mem_of_getElem? (i := 73) rfl))) (mvT hZ (hw _ (List.mem_of_getElem? (i := 74) rfl))) (notFace_of_selects (args := #[]) (mvT hZ (hw _ (List.mem_of_getElem? (i := 76) rfl)))) (mvT hZ (hw _ (List.mem_of_getElem? (i := 76) rfl))) (mvT hZ (hw _ (List.mem_of_getElem? (i := 75) rfl))) (by decide) (backOf (W := 0) (rmE_d l Z a0 hw [] b5 b7 b1 b1 p1 (p1 ^^^ p2) T9.heap n0 Z9 ex8_9 fm6_9 fm8_9 fn6_9 fn8_9 rfl (fun q => hn q.symm)) hZ (hw _ (List.mem_of_getElem? (i := 77) rfl)) (hw _ (List.mem_of_getElem? (i := 51) rfl)) (by decide) (by decide)) q10a q10c (g := (mkF m 125 #[.val (.int p1), .val (.int p2), .val (.int p3), .val (.ref b1), .val (.ref b3), .val (.int (0 : Int32)), .val (.int (1 : Int32)), .val (.int (p1 ^^^ p2)), .val (.ref b1), .val (.ref b5), .val (.ref b7), .val (.int (0 : Int32)), .val (.ref bx9), .val .null] [(.ref b7), (.ref b5)])) rfl (by rw [hml]; rfl) (Steps.refl _) (argsL := [(.ref b7)]) (rest := []) (lenOf pd_6 rfl) rfl (by show 2 * 0 + _ ≤ _; exact Nat.le_of_eq rfl) (hb hby at_125) (fun _ _ => ⟨rfl, rfl, (by decide : 29 + 0 ≤ _), (by decide : 81963 + 0 ≤ _)⟩)
        dsimp only [Pt.U, Pt.locs, Pt.cells, Pt.slots] at X10 l10 y10 z10 st10 hQ10
        subst l10 y10 z10
        obtain ⟨rfl, Nq10, e10⟩ := hQ10
        have N10 := Fr.app N9 Nq10
        obtain ⟨cq11, kq11, q11a, q11b, q11c⟩ := isOf hZ e10 ex8_9
        obtain ⟨_, _, ⟨T11, L11, k11, n11⟩, -, X11, ⟨Lc11, hQ11, l11, y11, z11⟩, st11⟩ := X10.virtualBack hx (y := (⟨"com/example/brevi/brevi/bdd/Bdd", "equals", "(Ljava/lang/Object;)Z"⟩ : MethodName)) (z := (⟨"com/example/brevi/brevi/bdd/Bdd", "equals", "(Ljava/lang/Object;)Z"⟩ : MethodName)) hown (mvT hZ (hw _ (List.mem_of_getElem? (i := 73) rfl))) (mvT hZ (hw _ (List.mem_of_getElem? (i := 74) rfl))) (notFace_of_selects (args := #[]) (mvT hZ (hw _ (List.mem_of_getElem? (i := 76) rfl)))) (mvT hZ (hw _ (List.mem_of_getElem? (i := 76) rfl))) (mvT hZ (hw _ (List.mem_of_getElem? (i := 75) rfl))) (by decide) (backOf (W := 0) (rmE_d l Z a0 hw [] b7 b5 b1 b1 (p1 ^^^ p2) p1 T9.heap n0 Z9 ex6_9 fm8_9 fm6_9 fn8_9 fn6_9 rfl hn) hZ (hw _ (List.mem_of_getElem? (i := 77) rfl)) (hw _ (List.mem_of_getElem? (i := 51) rfl)) (by decide) (by decide)) q11a q11c (g := (mkF m 137 #[.val (.int p1), .val (.int p2), .val (.int p3), .val (.ref b1), .val (.ref b3), .val (.int (0 : Int32)), .val (.int (1 : Int32)), .val (.int (p1 ^^^ p2)), .val (.ref b1), .val (.ref b5), .val (.ref b7), .val (.int (0 : Int32)), .val (.ref bx9), .val .null] [(.ref b5), (.ref b7)])) rfl (by rw [hml]; rfl) (Steps.refl _) (argsL := [(.ref b5)]) (rest := []) (lenOf pd_6 rfl) rfl (by show 2 * 0 + _ ≤ _; exact Nat.le_of_eq rfl) (hb hby at_137) (fun _ _ => ⟨rfl, e10, (by decide : 29 + 0 ≤ _), (by decide : 81963 + 0 ≤ _)⟩)
        dsimp only [Pt.U, Pt.locs, Pt.cells, Pt.slots] at X11 l11 y11 z11 st11 hQ11
        subst l11 y11 z11
        obtain ⟨rfl, Nq11, e11⟩ := hQ11
        have N11 := Fr.app N10 Nq11
        obtain ⟨cq12, kq12, q12a, q12b, q12c⟩ := isOf hZ e11 ex6_9
        obtain ⟨_, _, ⟨T12, L12, k12, n12⟩, -, X12, ⟨Lc12, hQ12, l12, y12, z12⟩, st12⟩ := X11.virtualBack hx (y := (⟨"com/example/brevi/brevi/bdd/Bdd", "equals", "(Ljava/lang/Object;)Z"⟩ : MethodName)) (z := (⟨"com/example/brevi/brevi/bdd/Bdd", "equals", "(Ljava/lang/Object;)Z"⟩ : MethodName)) hown (mvT hZ (hw _ (List.mem_of_getElem? (i := 73) rfl))) (mvT hZ (hw _ (List.mem_of_getElem? (i := 74) rfl))) (notFace_of_selects (args := #[]) (mvT hZ (hw _ (List.mem_of_getElem? (i := 76) rfl)))) (mvT hZ (hw _ (List.mem_of_getElem? (i := 76) rfl))) (mvT hZ (hw _ (List.mem_of_getElem? (i := 75) rfl))) (by decide) (backOf (W := 0) (rmE_e l Z a0 hw [] b5 b5 b1 b1 p1 p1 T9.heap n0 Z9 ex6_9 fm6_9 fm6_9 fn6_9 fn6_9 rfl rfl) hZ (hw _ (List.mem_of_getElem? (i := 77) rfl)) (hw _ (List.mem_of_getElem? (i := 51) rfl)) (by decide) (by decide)) q12a q12c (g := (mkF m 149 #[.val (.int p1), .val (.int p2), .val (.int p3), .val (.ref b1), .val (.ref b3), .val (.int (0 : Int32)), .val (.int (1 : Int32)), .val (.int (p1 ^^^ p2)), .val (.ref b1), .val (.ref b5), .val (.ref b7), .val (.int (0 : Int32)), .val (.ref bx9), .val .null] [(.ref b5), (.ref b5)])) rfl (by rw [hml]; rfl) (Steps.refl _) (argsL := [(.ref b5)]) (rest := []) (lenOf pd_6 rfl) rfl (by show 2 * 0 + _ ≤ _; exact Nat.le_of_eq rfl) (hb hby at_149) (fun _ _ => ⟨rfl, e11, (by decide : 29 + 0 ≤ _), (by decide : 81963 + 0 ≤ _)⟩)
        dsimp only [Pt.U, Pt.locs, Pt.cells, Pt.slots] at X12 l12 y12 z12 st12 hQ12
        subst l12 y12 z12
        obtain ⟨rfl, Nq12, e12⟩ := hQ12
        have N12 := Fr.app N11 Nq12
        obtain ⟨cq13, kq13, q13a, q13b, q13c⟩ := isOf hZ e12 ex6_9
        obtain ⟨_, _, ⟨T13, L13, k13, n13⟩, -, X13, ⟨Lc13, hQ13, l13, y13, z13⟩, st13⟩ := X12.virtualBack hx (y := (⟨"com/example/brevi/brevi/bdd/Bdd", "equals", "(Ljava/lang/Object;)Z"⟩ : MethodName)) (z := (⟨"com/example/brevi/brevi/bdd/Bdd", "equals", "(Ljava/lang/Object;)Z"⟩ : MethodName)) hown (mvT hZ (hw _ (List.mem_of_getElem? (i := 73) rfl))) (mvT hZ (hw _ (List.mem_of_getElem? (i := 74) rfl))) (notFace_of_selects (args := #[]) (mvT hZ (hw _ (List.mem_of_getElem? (i := 76) rfl)))) (mvT hZ (hw _ (List.mem_of_getElem? (i := 76) rfl))) (mvT hZ (hw _ (List.mem_of_getElem? (i := 75) rfl))) (by decide) (backOf (W := 0) (rmE_i l Z a0 hw [] b5 bx9 T9.heap n0 Z9 ex9) hZ (hw _ (List.mem_of_getElem? (i := 77) rfl)) (hw _ (List.mem_of_getElem? (i := 51) rfl)) (by decide) (by decide)) q13a q13c (g := (mkF m 159 #[.val (.int p1), .val (.int p2), .val (.int p3), .val (.ref b1), .val (.ref b3), .val (.int (0 : Int32)), .val (.int (1 : Int32)), .val (.int (p1 ^^^ p2)), .val (.ref b1), .val (.ref b5), .val (.ref b7), .val (.int (0 : Int32)), .val (.ref bx9), .val .null] [(.ref bx9), (.ref b5)])) rfl (by rw [hml]; rfl) (Steps.refl _) (argsL := [(.ref bx9)]) (rest := []) (lenOf pd_6 rfl) rfl (by show 2 * 0 + _ ≤ _; exact Nat.le_of_eq rfl) (hb hby at_159) (fun _ _ => ⟨rfl, e12, (by decide : 29 + 0 ≤ _), (by decide : 81963 + 0 ≤ _)⟩)
        dsimp only [Pt.U, Pt.locs, Pt.cells, Pt.slots] at X13 l13 y13 z13 st13 hQ13
        subst l13 y13 z13
        obtain ⟨rfl, Nq13, e13⟩ := hQ13
        have N13 := Fr.app N12 Nq13
        obtain ⟨cq14, kq14, q14a, q14b, q14c⟩ := isOf hZ e13 ex6_9
        obtain ⟨_, _, ⟨T14, L14, k14, n14⟩, -, X14, ⟨Lc14, hQ14, l14, y14, z14⟩, st14⟩ := X13.virtualBack hx (y := (⟨"com/example/brevi/brevi/bdd/Bdd", "equals", "(Ljava/lang/Object;)Z"⟩ : MethodName)) (z := (⟨"com/example/brevi/brevi/bdd/Bdd", "equals", "(Ljava/lang/Object;)Z"⟩ : MethodName)) hown (mvT hZ (hw _ (List.mem_of_getElem? (i := 73) rfl))) (mvT hZ (hw _ (List.mem_of_getElem? (i := 74) rfl))) (notFace_of_selects (args := #[]) (mvT hZ (hw _ (List.mem_of_getElem? (i := 76) rfl)))) (mvT hZ (hw _ (List.mem_of_getElem? (i := 76) rfl))) (mvT hZ (hw _ (List.mem_of_getElem? (i := 75) rfl))) (by decide) (backOf (W := 0) (rmE_n l Z a0 hw [] b5 T9.heap n0 Z9 ) hZ (hw _ (List.mem_of_getElem? (i := 77) rfl)) (hw _ (List.mem_of_getElem? (i := 51) rfl)) (by decide) (by decide)) q14a q14c (g := (mkF m 169 #[.val (.int p1), .val (.int p2), .val (.int p3), .val (.ref b1), .val (.ref b3), .val (.int (0 : Int32)), .val (.int (1 : Int32)), .val (.int (p1 ^^^ p2)), .val (.ref b1), .val (.ref b5), .val (.ref b7), .val (.int (0 : Int32)), .val (.ref bx9), .val .null] [.null, (.ref b5)])) rfl (by rw [hml]; rfl) (Steps.refl _) (argsL := [.null]) (rest := []) (lenOf pd_6 rfl) rfl (by show 2 * 0 + _ ≤ _; exact Nat.le_of_eq rfl) (hb hby at_169) (fun _ _ => ⟨rfl, e13, (by decide : 29 + 0 ≤ _), (by decide : 81963 + 0 ≤ _)⟩)
        dsimp only [Pt.U, Pt.locs, Pt.cells, Pt.slots] at X14 l14 y14 z14 st14 hQ14
        subst l14 y14 z14
        obtain ⟨rfl, Nq14, e14⟩ := hQ14
        have N14 := Fr.app N13 Nq14
        obtain ⟨fs, hr, hrun, hended, hW, hsame⟩ := X14.leave (v := some (.int (1 : Int32))) (fun h => by rw [Bd.returns] at h; cases h)
        refine ⟨_, _, pre0 _ ?_, hrun, hended, _, _, rfl, ?_, ⟨_, rfl⟩, hW, hsame.mono (by decide) (by decide)⟩
        · show Steps p.tables e below (s₁.setTop (mkF m 0 #[.val (.int p1), .val (.int p2), .val (.int p3), .unset, .unset, .unset, .unset, .unset, .unset, .unset, .unset, .unset, .unset, .unset] [])) _
          refine st1 _ ?_
          show Steps p.tables e below (T1.setTop (mkF m 3 #[.val (.int p1), .val (.int p2), .val (.int p3), .unset, .unset, .unset, .unset, .unset, .unset, .unset, .unset, .unset, .unset, .unset] [(.ref b1)])) _
          refine XS.dup X1.here hx rfl (hb hby at_3) rfl rfl ?_
          show Steps p.tables e below (T1.setTop (mkF m 4 #[.val (.int p1), .val (.int p2), .val (.int p3), .unset, .unset, .unset, .unset, .unset, .unset, .unset, .unset, .unset, .unset, .unset] [(.ref b1), (.ref b1)])) _
          refine st2.trans ?_
          show Steps p.tables e below (T2.setTop (mkF m 7 #[.val (.int p1), .val (.int p2), .val (.int p3), .unset, .unset, .unset, .unset, .unset, .unset, .unset, .unset, .unset, .unset, .unset] [(.ref b1)])) _
          refine XS.astoreN X2.here hx rfl (hb hby at_7) rfl rfl (l' := #[.val (.int p1), .val (.int p2), .val (.int p3), .val (.ref b1), .unset, .unset, .unset, .unset, .unset, .unset, .unset, .unset, .unset, .unset]) rfl ?_
          show Steps p.tables e below (T2.setTop (mkF m 8 #[.val (.int p1), .val (.int p2), .val (.int p3), .val (.ref b1), .unset, .unset, .unset, .unset, .unset, .unset, .unset, .unset, .unset, .unset] [])) _
          refine st3 _ ?_
          show Steps p.tables e below (T3.setTop (mkF m 11 #[.val (.int p1), .val (.int p2), .val (.int p3), .val (.ref b1), .unset, .unset, .unset, .unset, .unset, .unset, .unset, .unset, .unset, .unset] [(.ref b3)])) _
          refine XS.dup X3.here hx rfl (hb hby at_11) rfl rfl ?_
          show Steps p.tables e below (T3.setTop (mkF m 12 #[.val (.int p1), .val (.int p2), .val (.int p3), .val (.ref b1), .unset, .unset, .unset, .unset, .unset, .unset, .unset, .unset, .unset, .unset] [(.ref b3), (.ref b3)])) _
          refine st4.trans ?_
          show Steps p.tables e below (T4.setTop (mkF m 15 #[.val (.int p1), .val (.int p2), .val (.int p3), .val (.ref b1), .unset, .unset, .unset, .unset, .unset, .unset, .unset, .unset, .unset, .unset] [(.ref b3)])) _
          refine XS.astore X4.here hx rfl (hb hby at_15) rfl rfl (l' := #[.val (.int p1), .val (.int p2), .val (.int p3), .val (.ref b1), .val (.ref b3), .unset, .unset, .unset, .unset, .unset, .unset, .unset, .unset, .unset]) rfl ?_
          show Steps p.tables e below (T4.setTop (mkF m 17 #[.val (.int p1), .val (.int p2), .val (.int p3), .val (.ref b1), .val (.ref b3), .unset, .unset, .unset, .unset, .unset, .unset, .unset, .unset, .unset] [])) _
          refine XS.iloadN X4.here hx rfl (hb hby at_17) rfl ?_
          show Steps p.tables e below (T4.setTop (mkF m 18 #[.val (.int p1), .val (.int p2), .val (.int p3), .val (.ref b1), .val (.ref b3), .unset, .unset, .unset, .unset, .unset, .unset, .unset, .unset, .unset] [(.int p3)])) _
          refine XS.iconst X4.here hx rfl (hb hby at_18) ?_
          show Steps p.tables e below (T4.setTop (mkF m 19 #[.val (.int p1), .val (.int p2), .val (.int p3), .val (.ref b1), .val (.ref b3), .unset, .unset, .unset, .unset, .unset, .unset, .unset, .unset, .unset] [(.int (1 : Int32)), (.int p3)])) _
          refine XS.iand X4.here hx rfl (hb hby at_19) rfl ?_
          show Steps p.tables e below (T4.setTop (mkF m 20 #[.val (.int p1), .val (.int p2), .val (.int p3), .val (.ref b1), .val (.ref b3), .unset, .unset, .unset, .unset, .unset, .unset, .unset, .unset, .unset] [(.int (p3 &&& (1 : Int32)))])) _
          refine XS.ifYes X4.here hx rfl (pc0 := 20) (pc' := 27) rfl (hb hby at_20) rfl ((if0 _ _).trans (teq hs1).1) (by decide) (by decide) ?_
          show Steps p.tables e below (T4.setTop (mkF m 27 #[.val (.int p1), .val (.int p2), .val (.int p3), .val (.ref b1), .val (.ref b3), .unset, .unset, .unset, .unset, .unset, .unset, .unset, .unset, .unset] [])) _
          refine XS.iconst X4.here hx rfl (hb hby at_27) ?_
          show Steps p.tables e below (T4.setTop (mkF m 28 #[.val (.int p1), .val (.int p2), .val (.int p3), .val (.ref b1), .val (.ref b3), .unset, .unset, .unset, .unset, .unset, .unset, .unset, .unset, .unset] [(.int (0 : Int32))])) _
          refine XS.istore X4.here hx rfl (hb hby at_28) rfl (l' := #[.val (.int p1), .val (.int p2), .val (.int p3), .val (.ref b1), .val (.ref b3), .val (.int (0 : Int32)), .unset, .unset, .unset, .unset, .unset, .unset, .unset, .unset]) rfl ?_
          show Steps p.tables e below (T4.setTop (mkF m 30 #[.val (.int p1), .val (.int p2), .val (.int p3), .val (.ref b1), .val (.ref b3), .val (.int (0 : Int32)), .unset, .unset, .unset, .unset, .unset, .unset, .unset, .unset] [])) _
          refine XS.iloadN X4.here hx rfl (hb hby at_30) rfl ?_
          show Steps p.tables e below (T4.setTop (mkF m 31 #[.val (.int p1), .val (.int p2), .val (.int p3), .val (.ref b1), .val (.ref b3), .val (.int (0 : Int32)), .unset, .unset, .unset, .unset, .unset, .unset, .unset, .unset] [(.int p3)])) _
          refine XS.iconst X4.here hx rfl (hb hby at_31) ?_
          show Steps p.tables e below (T4.setTop (mkF m 32 #[.val (.int p1), .val (.int p2), .val (.int p3), .val (.ref b1), .val (.ref b3), .val (.int (0 : Int32)), .unset, .unset, .unset, .unset, .unset, .unset, .unset, .unset] [(.int (2 : Int32)), (.int p3)])) _
          refine XS.iand X4.here hx rfl (hb hby at_32) rfl ?_
          show Steps p.tables e below (T4.setTop (mkF m 33 #[.val (.int p1), .val (.int p2), .val (.int p3), .val (.ref b1), .val (.ref b3), .val (.int (0 : Int32)), .unset, .unset, .unset, .unset, .unset, .unset, .unset, .unset] [(.int (p3 &&& (2 : Int32)))])) _
          refine XS.ifNo X4.here hx rfl (hb hby at_33) rfl ((if0 _ _).trans (feq hs2).1) ?_
          show Steps p.tables e below (T4.setTop (mkF m 36 #[.val (.int p1), .val (.int p2), .val (.int p3), .val (.ref b1), .val (.ref b3), .val (.int (0 : Int32)), .unset, .unset, .unset, .unset, .unset, .unset, .unset, .unset] [])) _
          refine XS.iconst X4.here hx rfl (hb hby at_36) ?_
          show Steps p.tables e below (T4.setTop (mkF m 37 #[.val (.int p1), .val (.int p2), .val (.int p3), .val (.ref b1), .val (.ref b3), .val (.int (0 : Int32)), .unset, .unset, .unset, .unset, .unset, .unset, .unset, .unset] [(.int (1 : Int32))])) _
          refine XS.goto X4.here hx rfl (pc0 := 37) (pc' := 41) rfl (hb hby at_37) (by decide) (by decide) ?_
          show Steps p.tables e below (T4.setTop (mkF m 41 #[.val (.int p1), .val (.int p2), .val (.int p3), .val (.ref b1), .val (.ref b3), .val (.int (0 : Int32)), .unset, .unset, .unset, .unset, .unset, .unset, .unset, .unset] [(.int (1 : Int32))])) _
          refine XS.istore X4.here hx rfl (hb hby at_41) rfl (l' := #[.val (.int p1), .val (.int p2), .val (.int p3), .val (.ref b1), .val (.ref b3), .val (.int (0 : Int32)), .val (.int (1 : Int32)), .unset, .unset, .unset, .unset, .unset, .unset, .unset]) rfl ?_
          show Steps p.tables e below (T4.setTop (mkF m 43 #[.val (.int p1), .val (.int p2), .val (.int p3), .val (.ref b1), .val (.ref b3), .val (.int (0 : Int32)), .val (.int (1 : Int32)), .unset, .unset, .unset, .unset, .unset, .unset, .unset] [])) _
          refine XS.iload X4.here hx rfl (hb hby at_43) rfl ?_
          show Steps p.tables e below (T4.setTop (mkF m 45 #[.val (.int p1), .val (.int p2), .val (.int p3), .val (.ref b1), .val (.ref b3), .val (.int (0 : Int32)), .val (.int (1 : Int32)), .unset, .unset, .unset, .unset, .unset, .unset, .unset] [(.int (0 : Int32))])) _
          refine XS.ifYes X4.here hx rfl (pc0 := 45) (pc' := 52) rfl (hb hby at_45) rfl ((if0 _ _).trans (teq (by decide : (0 : Int32) = (0 : Int32))).1) (by decide) (by decide) ?_
          show Steps p.tables e below (T4.setTop (mkF m 52 #[.val (.int p1), .val (.int p2), .val (.int p3), .val (.ref b1), .val (.ref b3), .val (.int (0 : Int32)), .val (.int (1 : Int32)), .unset, .unset, .unset, .unset, .unset, .unset, .unset] [])) _
          refine XS.iloadN X4.here hx rfl (hb hby at_52) rfl ?_
          show Steps p.tables e below (T4.setTop (mkF m 53 #[.val (.int p1), .val (.int p2), .val (.int p3), .val (.ref b1), .val (.ref b3), .val (.int (0 : Int32)), .val (.int (1 : Int32)), .unset, .unset, .unset, .unset, .unset, .unset, .unset] [(.int p1)])) _
          refine XS.iloadN X4.here hx rfl (hb hby at_53) rfl ?_
          show Steps p.tables e below (T4.setTop (mkF m 54 #[.val (.int p1), .val (.int p2), .val (.int p3), .val (.ref b1), .val (.ref b3), .val (.int (0 : Int32)), .val (.int (1 : Int32)), .unset, .unset, .unset, .unset, .unset, .unset, .unset] [(.int p2), (.int p1)])) _
          refine XS.ixor X4.here hx rfl (hb hby at_54) rfl ?_
          show Steps p.tables e below (T4.setTop (mkF m 55 #[.val (.int p1), .val (.int p2), .val (.int p3), .val (.ref b1), .val (.ref b3), .val (.int (0 : Int32)), .val (.int (1 : Int32)), .unset, .unset, .unset, .unset, .unset, .unset, .unset] [(.int (p1 ^^^ p2))])) _
          refine XS.istore X4.here hx rfl (hb hby at_55) rfl (l' := #[.val (.int p1), .val (.int p2), .val (.int p3), .val (.ref b1), .val (.ref b3), .val (.int (0 : Int32)), .val (.int (1 : Int32)), .val (.int (p1 ^^^ p2)), .unset, .unset, .unset, .unset, .unset, .unset]) rfl ?_
          show Steps p.tables e below (T4.setTop (mkF m 57 #[.val (.int p1), .val (.int p2), .val (.int p3), .val (.ref b1), .val (.ref b3), .val (.int (0 : Int32)), .val (.int (1 : Int32)), .val (.int (p1 ^^^ p2)), .unset, .unset, .unset, .unset, .unset, .unset] [])) _
          refine XS.iload X4.here hx rfl (hb hby at_57) rfl ?_
          show Steps p.tables e below (T4.setTop (mkF m 59 #[.val (.int p1), .val (.int p2), .val (.int p3), .val (.ref b1), .val (.ref b3), .val (.int (0 : Int32)), .val (.int (1 : Int32)), .val (.int (p1 ^^^ p2)), .unset, .unset, .unset, .unset, .unset, .unset] [(.int (1 : Int32))])) _
          refine XS.ifNo X4.here hx rfl (hb hby at_59) rfl ((if0 _ _).trans (feq (by decide : ¬ ((1 : Int32) = (0 : Int32)))).1) ?_
          show Steps p.tables e below (T4.setTop (mkF m 62 #[.val (.int p1), .val (.int p2), .val (.int p3), .val (.ref b1), .val (.ref b3), .val (.int (0 : Int32)), .val (.int (1 : Int32)), .val (.int (p1 ^^^ p2)), .unset, .unset, .unset, .unset, .unset, .unset] [])) _
          refine XS.aloadN X4.here hx rfl (hb hby at_62) rfl rfl ?_
          show Steps p.tables e below (T4.setTop (mkF m 63 #[.val (.int p1), .val (.int p2), .val (.int p3), .val (.ref b1), .val (.ref b3), .val (.int (0 : Int32)), .val (.int (1 : Int32)), .val (.int (p1 ^^^ p2)), .unset, .unset, .unset, .unset, .unset, .unset] [(.ref b1)])) _
          refine XS.goto X4.here hx rfl (pc0 := 63) (pc' := 68) rfl (hb hby at_63) (by decide) (by decide) ?_
          show Steps p.tables e below (T4.setTop (mkF m 68 #[.val (.int p1), .val (.int p2), .val (.int p3), .val (.ref b1), .val (.ref b3), .val (.int (0 : Int32)), .val (.int (1 : Int32)), .val (.int (p1 ^^^ p2)), .unset, .unset, .unset, .unset, .unset, .unset] [(.ref b1)])) _
          refine XS.astore X4.here hx rfl (hb hby at_68) rfl rfl (l' := #[.val (.int p1), .val (.int p2), .val (.int p3), .val (.ref b1), .val (.ref b3), .val (.int (0 : Int32)), .val (.int (1 : Int32)), .val (.int (p1 ^^^ p2)), .val (.ref b1), .unset, .unset, .unset, .unset, .unset]) rfl ?_
          show Steps p.tables e below (T4.setTop (mkF m 70 #[.val (.int p1), .val (.int p2), .val (.int p3), .val (.ref b1), .val (.ref b3), .val (.int (0 : Int32)), .val (.int (1 : Int32)), .val (.int (p1 ^^^ p2)), .val (.ref b1), .unset, .unset, .unset, .unset, .unset] [])) _
          refine st5 _ ?_
          show Steps p.tables e below (T5.setTop (mkF m 73 #[.val (.int p1), .val (.int p2), .val (.int p3), .val (.ref b1), .val (.ref b3), .val (.int (0 : Int32)), .val (.int (1 : Int32)), .val (.int (p1 ^^^ p2)), .val (.ref b1), .unset, .unset, .unset, .unset, .unset] [(.ref b5)])) _
          refine XS.dup X5.here hx rfl (hb hby at_73) rfl rfl ?_
          show Steps p.tables e below (T5.setTop (mkF m 74 #[.val (.int p1), .val (.int p2), .val (.int p3), .val (.ref b1), .val (.ref b3), .val (.int (0 : Int32)), .val (.int (1 : Int32)), .val (.int (p1 ^^^ p2)), .val (.ref b1), .unset, .unset, .unset, .unset, .unset] [(.ref b5), (.ref b5)])) _
          refine XS.aloadN X5.here hx rfl (hb hby at_74) rfl rfl ?_
          show Steps p.tables e below (T5.setTop (mkF m 75 #[.val (.int p1), .val (.int p2), .val (.int p3), .val (.ref b1), .val (.ref b3), .val (.int (0 : Int32)), .val (.int (1 : Int32)), .val (.int (p1 ^^^ p2)), .val (.ref b1), .unset, .unset, .unset, .unset, .unset] [(.ref b1), (.ref b5), (.ref b5)])) _
          refine XS.iloadN X5.here hx rfl (hb hby at_75) rfl ?_
          show Steps p.tables e below (T5.setTop (mkF m 76 #[.val (.int p1), .val (.int p2), .val (.int p3), .val (.ref b1), .val (.ref b3), .val (.int (0 : Int32)), .val (.int (1 : Int32)), .val (.int (p1 ^^^ p2)), .val (.ref b1), .unset, .unset, .unset, .unset, .unset] [(.int p1), (.ref b1), (.ref b5), (.ref b5)])) _
          refine st6.trans ?_
          show Steps p.tables e below (T6.setTop (mkF m 79 #[.val (.int p1), .val (.int p2), .val (.int p3), .val (.ref b1), .val (.ref b3), .val (.int (0 : Int32)), .val (.int (1 : Int32)), .val (.int (p1 ^^^ p2)), .val (.ref b1), .unset, .unset, .unset, .unset, .unset] [(.ref b5)])) _
          refine XS.astore X6.here hx rfl (hb hby at_79) rfl rfl (l' := #[.val (.int p1), .val (.int p2), .val (.int p3), .val (.ref b1), .val (.ref b3), .val (.int (0 : Int32)), .val (.int (1 : Int32)), .val (.int (p1 ^^^ p2)), .val (.ref b1), .val (.ref b5), .unset, .unset, .unset, .unset]) rfl ?_
          show Steps p.tables e below (T6.setTop (mkF m 81 #[.val (.int p1), .val (.int p2), .val (.int p3), .val (.ref b1), .val (.ref b3), .val (.int (0 : Int32)), .val (.int (1 : Int32)), .val (.int (p1 ^^^ p2)), .val (.ref b1), .val (.ref b5), .unset, .unset, .unset, .unset] [])) _
          refine st7 _ ?_
          show Steps p.tables e below (T7.setTop (mkF m 84 #[.val (.int p1), .val (.int p2), .val (.int p3), .val (.ref b1), .val (.ref b3), .val (.int (0 : Int32)), .val (.int (1 : Int32)), .val (.int (p1 ^^^ p2)), .val (.ref b1), .val (.ref b5), .unset, .unset, .unset, .unset] [(.ref b7)])) _
          refine XS.dup X7.here hx rfl (hb hby at_84) rfl rfl ?_
          show Steps p.tables e below (T7.setTop (mkF m 85 #[.val (.int p1), .val (.int p2), .val (.int p3), .val (.ref b1), .val (.ref b3), .val (.int (0 : Int32)), .val (.int (1 : Int32)), .val (.int (p1 ^^^ p2)), .val (.ref b1), .val (.ref b5), .unset, .unset, .unset, .unset] [(.ref b7), (.ref b7)])) _
          refine XS.aload X7.here hx rfl (hb hby at_85) rfl rfl ?_
          show Steps p.tables e below (T7.setTop (mkF m 87 #[.val (.int p1), .val (.int p2), .val (.int p3), .val (.ref b1), .val (.ref b3), .val (.int (0 : Int32)), .val (.int (1 : Int32)), .val (.int (p1 ^^^ p2)), .val (.ref b1), .val (.ref b5), .unset, .unset, .unset, .unset] [(.ref b1), (.ref b7), (.ref b7)])) _
          refine XS.iload X7.here hx rfl (hb hby at_87) rfl ?_
          show Steps p.tables e below (T7.setTop (mkF m 89 #[.val (.int p1), .val (.int p2), .val (.int p3), .val (.ref b1), .val (.ref b3), .val (.int (0 : Int32)), .val (.int (1 : Int32)), .val (.int (p1 ^^^ p2)), .val (.ref b1), .val (.ref b5), .unset, .unset, .unset, .unset] [(.int (p1 ^^^ p2)), (.ref b1), (.ref b7), (.ref b7)])) _
          refine st8.trans ?_
          show Steps p.tables e below (T8.setTop (mkF m 92 #[.val (.int p1), .val (.int p2), .val (.int p3), .val (.ref b1), .val (.ref b3), .val (.int (0 : Int32)), .val (.int (1 : Int32)), .val (.int (p1 ^^^ p2)), .val (.ref b1), .val (.ref b5), .unset, .unset, .unset, .unset] [(.ref b7)])) _
          refine XS.astore X8.here hx rfl (hb hby at_92) rfl rfl (l' := #[.val (.int p1), .val (.int p2), .val (.int p3), .val (.ref b1), .val (.ref b3), .val (.int (0 : Int32)), .val (.int (1 : Int32)), .val (.int (p1 ^^^ p2)), .val (.ref b1), .val (.ref b5), .val (.ref b7), .unset, .unset, .unset]) rfl ?_
          show Steps p.tables e below (T8.setTop (mkF m 94 #[.val (.int p1), .val (.int p2), .val (.int p3), .val (.ref b1), .val (.ref b3), .val (.int (0 : Int32)), .val (.int (1 : Int32)), .val (.int (p1 ^^^ p2)), .val (.ref b1), .val (.ref b5), .val (.ref b7), .unset, .unset, .unset] [])) _
          refine XS.iload X8.here hx rfl (hb hby at_94) rfl ?_
          show Steps p.tables e below (T8.setTop (mkF m 96 #[.val (.int p1), .val (.int p2), .val (.int p3), .val (.ref b1), .val (.ref b3), .val (.int (0 : Int32)), .val (.int (1 : Int32)), .val (.int (p1 ^^^ p2)), .val (.ref b1), .val (.ref b5), .val (.ref b7), .unset, .unset, .unset] [(.int (1 : Int32))])) _
          refine XS.ifNo X8.here hx rfl (hb hby at_96) rfl ((if0 _ _).trans (feq (by decide : ¬ ((1 : Int32) = (0 : Int32)))).1) ?_
          show Steps p.tables e below (T8.setTop (mkF m 99 #[.val (.int p1), .val (.int p2), .val (.int p3), .val (.ref b1), .val (.ref b3), .val (.int (0 : Int32)), .val (.int (1 : Int32)), .val (.int (p1 ^^^ p2)), .val (.ref b1), .val (.ref b5), .val (.ref b7), .unset, .unset, .unset] [])) _
          refine XS.iloadN X8.here hx rfl (hb hby at_99) rfl ?_
          show Steps p.tables e below (T8.setTop (mkF m 100 #[.val (.int p1), .val (.int p2), .val (.int p3), .val (.ref b1), .val (.ref b3), .val (.int (0 : Int32)), .val (.int (1 : Int32)), .val (.int (p1 ^^^ p2)), .val (.ref b1), .val (.ref b5), .val (.ref b7), .unset, .unset, .unset] [(.int p1)])) _
          refine XS.iload X8.here hx rfl (hb hby at_100) rfl ?_
          show Steps p.tables e below (T8.setTop (mkF m 102 #[.val (.int p1), .val (.int p2), .val (.int p3), .val (.ref b1), .val (.ref b3), .val (.int (0 : Int32)), .val (.int (1 : Int32)), .val (.int (p1 ^^^ p2)), .val (.ref b1), .val (.ref b5), .val (.ref b7), .unset, .unset, .unset] [(.int (p1 ^^^ p2)), (.int p1)])) _
          refine XS.icmpYes X8.here hx rfl (pc0 := 102) (pc' := 109) rfl (hb hby at_102) rfl (feq hn).2 (by decide) (by decide) ?_
          show Steps p.tables e below (T8.setTop (mkF m 109 #[.val (.int p1), .val (.int p2), .val (.int p3), .val (.ref b1), .val (.ref b3), .val (.int (0 : Int32)), .val (.int (1 : Int32)), .val (.int (p1 ^^^ p2)), .val (.ref b1), .val (.ref b5), .val (.ref b7), .unset, .unset, .unset] [])) _
          refine XS.iconst X8.here hx rfl (hb hby at_109) ?_
          show Steps p.tables e below (T8.setTop (mkF m 110 #[.val (.int p1), .val (.int p2), .val (.int p3), .val (.ref b1), .val (.ref b3), .val (.int (0 : Int32)), .val (.int (1 : Int32)), .val (.int (p1 ^^^ p2)), .val (.ref b1), .val (.ref b5), .val (.ref b7), .unset, .unset, .unset] [(.int (0 : Int32))])) _
          refine XS.istore X8.here hx rfl (hb hby at_110) rfl (l' := #[.val (.int p1), .val (.int p2), .val (.int p3), .val (.ref b1), .val (.ref b3), .val (.int (0 : Int32)), .val (.int (1 : Int32)), .val (.int (p1 ^^^ p2)), .val (.ref b1), .val (.ref b5), .val (.ref b7), .val (.int (0 : Int32)), .unset, .unset]) rfl ?_
          show Steps p.tables e below (T8.setTop (mkF m 112 #[.val (.int p1), .val (.int p2), .val (.int p3), .val (.ref b1), .val (.ref b3), .val (.int (0 : Int32)), .val (.int (1 : Int32)), .val (.int (p1 ^^^ p2)), .val (.ref b1), .val (.ref b5), .val (.ref b7), .val (.int (0 : Int32)), .unset, .unset] [])) _
          refine XS.iloadN X8.here hx rfl (hb hby at_112) rfl ?_
          show Steps p.tables e below (T8.setTop (mkF m 113 #[.val (.int p1), .val (.int p2), .val (.int p3), .val (.ref b1), .val (.ref b3), .val (.int (0 : Int32)), .val (.int (1 : Int32)), .val (.int (p1 ^^^ p2)), .val (.ref b1), .val (.ref b5), .val (.ref b7), .val (.int (0 : Int32)), .unset, .unset] [(.int p1)])) _
          refine st9 _ ?_
          show Steps p.tables e below (T9.setTop (mkF m 116 #[.val (.int p1), .val (.int p2), .val (.int p3), .val (.ref b1), .val (.ref b3), .val (.int (0 : Int32)), .val (.int (1 : Int32)), .val (.int (p1 ^^^ p2)), .val (.ref b1), .val (.ref b5), .val (.ref b7), .val (.int (0 : Int32)), .unset, .unset] [(.ref bx9)])) _
          refine XS.astore X9.here hx rfl (hb hby at_116) rfl rfl (l' := #[.val (.int p1), .val (.int p2), .val (.int p3), .val (.ref b1), .val (.ref b3), .val (.int (0 : Int32)), .val (.int (1 : Int32)), .val (.int (p1 ^^^ p2)), .val (.ref b1), .val (.ref b5), .val (.ref b7), .val (.int (0 : Int32)), .val (.ref bx9), .unset]) rfl ?_
          show Steps p.tables e below (T9.setTop (mkF m 118 #[.val (.int p1), .val (.int p2), .val (.int p3), .val (.ref b1), .val (.ref b3), .val (.int (0 : Int32)), .val (.int (1 : Int32)), .val (.int (p1 ^^^ p2)), .val (.ref b1), .val (.ref b5), .val (.ref b7), .val (.int (0 : Int32)), .val (.ref bx9), .unset] [])) _
          refine XS.aconstNull X9.here hx rfl (hb hby at_118) ?_
          show Steps p.tables e below (T9.setTop (mkF m 119 #[.val (.int p1), .val (.int p2), .val (.int p3), .val (.ref b1), .val (.ref b3), .val (.int (0 : Int32)), .val (.int (1 : Int32)), .val (.int (p1 ^^^ p2)), .val (.ref b1), .val (.ref b5), .val (.ref b7), .val (.int (0 : Int32)), .val (.ref bx9), .unset] [.null])) _
          refine XS.astore X9.here hx rfl (hb hby at_119) rfl rfl (l' := #[.val (.int p1), .val (.int p2), .val (.int p3), .val (.ref b1), .val (.ref b3), .val (.int (0 : Int32)), .val (.int (1 : Int32)), .val (.int (p1 ^^^ p2)), .val (.ref b1), .val (.ref b5), .val (.ref b7), .val (.int (0 : Int32)), .val (.ref bx9), .val .null]) rfl ?_
          show Steps p.tables e below (T9.setTop (mkF m 121 #[.val (.int p1), .val (.int p2), .val (.int p3), .val (.ref b1), .val (.ref b3), .val (.int (0 : Int32)), .val (.int (1 : Int32)), .val (.int (p1 ^^^ p2)), .val (.ref b1), .val (.ref b5), .val (.ref b7), .val (.int (0 : Int32)), .val (.ref bx9), .val .null] [])) _
          refine XS.aload X9.here hx rfl (hb hby at_121) rfl rfl ?_
          show Steps p.tables e below (T9.setTop (mkF m 123 #[.val (.int p1), .val (.int p2), .val (.int p3), .val (.ref b1), .val (.ref b3), .val (.int (0 : Int32)), .val (.int (1 : Int32)), .val (.int (p1 ^^^ p2)), .val (.ref b1), .val (.ref b5), .val (.ref b7), .val (.int (0 : Int32)), .val (.ref bx9), .val .null] [(.ref b5)])) _
          refine XS.aload X9.here hx rfl (hb hby at_123) rfl rfl ?_
          show Steps p.tables e below (T9.setTop (mkF m 125 #[.val (.int p1), .val (.int p2), .val (.int p3), .val (.ref b1), .val (.ref b3), .val (.int (0 : Int32)), .val (.int (1 : Int32)), .val (.int (p1 ^^^ p2)), .val (.ref b1), .val (.ref b5), .val (.ref b7), .val (.int (0 : Int32)), .val (.ref bx9), .val .null] [(.ref b7), (.ref b5)])) _
          refine st10.trans ?_
          show Steps p.tables e below (T10.setTop (mkF m 128 #[.val (.int p1), .val (.int p2), .val (.int p3), .val (.ref b1), .val (.ref b3), .val (.int (0 : Int32)), .val (.int (1 : Int32)), .val (.int (p1 ^^^ p2)), .val (.ref b1), .val (.ref b5), .val (.ref b7), .val (.int (0 : Int32)), .val (.ref bx9), .val .null] [(.int (0 : Int32))])) _
          refine XS.iload X10.here hx rfl (hb hby at_128) rfl ?_
          show Steps p.tables e below (T10.setTop (mkF m 130 #[.val (.int p1), .val (.int p2), .val (.int p3), .val (.ref b1), .val (.ref b3), .val (.int (0 : Int32)), .val (.int (1 : Int32)), .val (.int (p1 ^^^ p2)), .val (.ref b1), .val (.ref b5), .val (.ref b7), .val (.int (0 : Int32)), .val (.ref bx9), .val .null] [(.int (0 : Int32)), (.int (0 : Int32))])) _
          refine XS.icmpNo X10.here hx rfl (hb hby at_130) rfl (teq (by decide : (0 : Int32) = (0 : Int32))).2 ?_
          show Steps p.tables e below (T10.setTop (mkF m 133 #[.val (.int p1), .val (.int p2), .val (.int p3), .val (.ref b1), .val (.ref b3), .val (.int (0 : Int32)), .val (.int (1 : Int32)), .val (.int (p1 ^^^ p2)), .val (.ref b1), .val (.ref b5), .val (.ref b7), .val (.int (0 : Int32)), .val (.ref bx9), .val .null] [])) _
          refine XS.aload X10.here hx rfl (hb hby at_133) rfl rfl ?_
          show Steps p.tables e below (T10.setTop (mkF m 135 #[.val (.int p1), .val (.int p2), .val (.int p3), .val (.ref b1), .val (.ref b3), .val (.int (0 : Int32)), .val (.int (1 : Int32)), .val (.int (p1 ^^^ p2)), .val (.ref b1), .val (.ref b5), .val (.ref b7), .val (.int (0 : Int32)), .val (.ref bx9), .val .null] [(.ref b7)])) _
          refine XS.aload X10.here hx rfl (hb hby at_135) rfl rfl ?_
          show Steps p.tables e below (T10.setTop (mkF m 137 #[.val (.int p1), .val (.int p2), .val (.int p3), .val (.ref b1), .val (.ref b3), .val (.int (0 : Int32)), .val (.int (1 : Int32)), .val (.int (p1 ^^^ p2)), .val (.ref b1), .val (.ref b5), .val (.ref b7), .val (.int (0 : Int32)), .val (.ref bx9), .val .null] [(.ref b5), (.ref b7)])) _
          refine st11.trans ?_
          show Steps p.tables e below (T11.setTop (mkF m 140 #[.val (.int p1), .val (.int p2), .val (.int p3), .val (.ref b1), .val (.ref b3), .val (.int (0 : Int32)), .val (.int (1 : Int32)), .val (.int (p1 ^^^ p2)), .val (.ref b1), .val (.ref b5), .val (.ref b7), .val (.int (0 : Int32)), .val (.ref bx9), .val .null] [(.int (0 : Int32))])) _
          refine XS.iload X11.here hx rfl (hb hby at_140) rfl ?_
          show Steps p.tables e below (T11.setTop (mkF m 142 #[.val (.int p1), .val (.int p2), .val (.int p3), .val (.ref b1), .val (.ref b3), .val (.int (0 : Int32)), .val (.int (1 : Int32)), .val (.int (p1 ^^^ p2)), .val (.ref b1), .val (.ref b5), .val (.ref b7), .val (.int (0 : Int32)), .val (.ref bx9), .val .null] [(.int (0 : Int32)), (.int (0 : Int32))])) _
          refine XS.icmpNo X11.here hx rfl (hb hby at_142) rfl (teq (by decide : (0 : Int32) = (0 : Int32))).2 ?_
          show Steps p.tables e below (T11.setTop (mkF m 145 #[.val (.int p1), .val (.int p2), .val (.int p3), .val (.ref b1), .val (.ref b3), .val (.int (0 : Int32)), .val (.int (1 : Int32)), .val (.int (p1 ^^^ p2)), .val (.ref b1), .val (.ref b5), .val (.ref b7), .val (.int (0 : Int32)), .val (.ref bx9), .val .null] [])) _
          refine XS.aload X11.here hx rfl (hb hby at_145) rfl rfl ?_
          show Steps p.tables e below (T11.setTop (mkF m 147 #[.val (.int p1), .val (.int p2), .val (.int p3), .val (.ref b1), .val (.ref b3), .val (.int (0 : Int32)), .val (.int (1 : Int32)), .val (.int (p1 ^^^ p2)), .val (.ref b1), .val (.ref b5), .val (.ref b7), .val (.int (0 : Int32)), .val (.ref bx9), .val .null] [(.ref b5)])) _
          refine XS.aload X11.here hx rfl (hb hby at_147) rfl rfl ?_
          show Steps p.tables e below (T11.setTop (mkF m 149 #[.val (.int p1), .val (.int p2), .val (.int p3), .val (.ref b1), .val (.ref b3), .val (.int (0 : Int32)), .val (.int (1 : Int32)), .val (.int (p1 ^^^ p2)), .val (.ref b1), .val (.ref b5), .val (.ref b7), .val (.int (0 : Int32)), .val (.ref bx9), .val .null] [(.ref b5), (.ref b5)])) _
          refine st12.trans ?_
          show Steps p.tables e below (T12.setTop (mkF m 152 #[.val (.int p1), .val (.int p2), .val (.int p3), .val (.ref b1), .val (.ref b3), .val (.int (0 : Int32)), .val (.int (1 : Int32)), .val (.int (p1 ^^^ p2)), .val (.ref b1), .val (.ref b5), .val (.ref b7), .val (.int (0 : Int32)), .val (.ref bx9), .val .null] [(.int (1 : Int32))])) _
          refine XS.ifNo X12.here hx rfl (hb hby at_152) rfl ((if0 _ _).trans (feq (by decide : ¬ ((1 : Int32) = (0 : Int32)))).1) ?_
          show Steps p.tables e below (T12.setTop (mkF m 155 #[.val (.int p1), .val (.int p2), .val (.int p3), .val (.ref b1), .val (.ref b3), .val (.int (0 : Int32)), .val (.int (1 : Int32)), .val (.int (p1 ^^^ p2)), .val (.ref b1), .val (.ref b5), .val (.ref b7), .val (.int (0 : Int32)), .val (.ref bx9), .val .null] [])) _
          refine XS.aload X12.here hx rfl (hb hby at_155) rfl rfl ?_
          show Steps p.tables e below (T12.setTop (mkF m 157 #[.val (.int p1), .val (.int p2), .val (.int p3), .val (.ref b1), .val (.ref b3), .val (.int (0 : Int32)), .val (.int (1 : Int32)), .val (.int (p1 ^^^ p2)), .val (.ref b1), .val (.ref b5), .val (.ref b7), .val (.int (0 : Int32)), .val (.ref bx9), .val .null] [(.ref b5)])) _
          refine XS.aload X12.here hx rfl (hb hby at_157) rfl rfl ?_
          show Steps p.tables e below (T12.setTop (mkF m 159 #[.val (.int p1), .val (.int p2), .val (.int p3), .val (.ref b1), .val (.ref b3), .val (.int (0 : Int32)), .val (.int (1 : Int32)), .val (.int (p1 ^^^ p2)), .val (.ref b1), .val (.ref b5), .val (.ref b7), .val (.int (0 : Int32)), .val (.ref bx9), .val .null] [(.ref bx9), (.ref b5)])) _
          refine st13.trans ?_
          show Steps p.tables e below (T13.setTop (mkF m 162 #[.val (.int p1), .val (.int p2), .val (.int p3), .val (.ref b1), .val (.ref b3), .val (.int (0 : Int32)), .val (.int (1 : Int32)), .val (.int (p1 ^^^ p2)), .val (.ref b1), .val (.ref b5), .val (.ref b7), .val (.int (0 : Int32)), .val (.ref bx9), .val .null] [(.int (0 : Int32))])) _
          refine XS.ifNo X13.here hx rfl (hb hby at_162) rfl ((if0 _ _).trans (teq (by decide : (0 : Int32) = (0 : Int32))).2) ?_
          show Steps p.tables e below (T13.setTop (mkF m 165 #[.val (.int p1), .val (.int p2), .val (.int p3), .val (.ref b1), .val (.ref b3), .val (.int (0 : Int32)), .val (.int (1 : Int32)), .val (.int (p1 ^^^ p2)), .val (.ref b1), .val (.ref b5), .val (.ref b7), .val (.int (0 : Int32)), .val (.ref bx9), .val .null] [])) _
          refine XS.aload X13.here hx rfl (hb hby at_165) rfl rfl ?_
          show Steps p.tables e below (T13.setTop (mkF m 167 #[.val (.int p1), .val (.int p2), .val (.int p3), .val (.ref b1), .val (.ref b3), .val (.int (0 : Int32)), .val (.int (1 : Int32)), .val (.int (p1 ^^^ p2)), .val (.ref b1), .val (.ref b5), .val (.ref b7), .val (.int (0 : Int32)), .val (.ref bx9), .val .null] [(.ref b5)])) _
          refine XS.aload X13.here hx rfl (hb hby at_167) rfl rfl ?_
          show Steps p.tables e below (T13.setTop (mkF m 169 #[.val (.int p1), .val (.int p2), .val (.int p3), .val (.ref b1), .val (.ref b3), .val (.int (0 : Int32)), .val (.int (1 : Int32)), .val (.int (p1 ^^^ p2)), .val (.ref b1), .val (.ref b5), .val (.ref b7), .val (.int (0 : Int32)), .val (.ref bx9), .val .null] [.null, (.ref b5)])) _
          refine st14.trans ?_
          show Steps p.tables e below (T14.setTop (mkF m 172 #[.val (.int p1), .val (.int p2), .val (.int p3), .val (.ref b1), .val (.ref b3), .val (.int (0 : Int32)), .val (.int (1 : Int32)), .val (.int (p1 ^^^ p2)), .val (.ref b1), .val (.ref b5), .val (.ref b7), .val (.int (0 : Int32)), .val (.ref bx9), .val .null] [(.int (0 : Int32))])) _
          refine XS.ifNo X14.here hx rfl (hb hby at_172) rfl ((if0 _ _).trans (teq (by decide : (0 : Int32) = (0 : Int32))).2) ?_
          show Steps p.tables e below (T14.setTop (mkF m 175 #[.val (.int p1), .val (.int p2), .val (.int p3), .val (.ref b1), .val (.ref b3), .val (.int (0 : Int32)), .val (.int (1 : Int32)), .val (.int (p1 ^^^ p2)), .val (.ref b1), .val (.ref b5), .val (.ref b7), .val (.int (0 : Int32)), .val (.ref bx9), .val .null] [])) _
          refine XS.iconst X14.here hx rfl (hb hby at_175) ?_
          show Steps p.tables e below (T14.setTop (mkF m 176 #[.val (.int p1), .val (.int p2), .val (.int p3), .val (.ref b1), .val (.ref b3), .val (.int (0 : Int32)), .val (.int (1 : Int32)), .val (.int (p1 ^^^ p2)), .val (.ref b1), .val (.ref b5), .val (.ref b7), .val (.int (0 : Int32)), .val (.ref bx9), .val .null] [(.int (1 : Int32))])) _
          refine XS.goto X14.here hx rfl (pc0 := 176) (pc' := 180) rfl (hb hby at_176) (by decide) (by decide) ?_
          show Steps p.tables e below (T14.setTop (mkF m 180 #[.val (.int p1), .val (.int p2), .val (.int p3), .val (.ref b1), .val (.ref b3), .val (.int (0 : Int32)), .val (.int (1 : Int32)), .val (.int (p1 ^^^ p2)), .val (.ref b1), .val (.ref b5), .val (.ref b7), .val (.int (0 : Int32)), .val (.ref bx9), .val .null] [(.int (1 : Int32))])) _
          exact retN X14 hx (t := .boolean) Bd.returns (by simp) (hb hby at_180) hr
        · show Q_rm0 Z p1 p2 p3 ca h0 n0 _ T14.heap _
          rw [e14]
          exact ⟨rfl, N14⟩
  · by_cases hs2 : (p3 &&& (2 : Int32)) = (0 : Int32)
    · obtain ⟨T1, h1, X1, e1, E1, A1, D1, -, st1⟩ := newO X0 hx hZ hown (hw _ (List.mem_of_getElem? (i := 0) rfl)) (hw _ (List.mem_of_getElem? (i := 1) rfl)) (hw _ (List.mem_of_getElem? (i := 2) rfl)) e0 (g := (mkF m 0 #[.val (.int p1), .val (.int p2), .val (.int p3), .unset, .unset, .unset, .unset, .unset, .unset, .unset, .unset, .unset, .unset, .unset] [])) rfl (hb hby at_0) (by decide) (by decide)
      obtain ⟨b1, g1⟩ : ∃ z, z = h0.size := ⟨_, rfl⟩
      rw [← g1] at A1 D1 st1
      have ge_b1 : n0 ≤ b1 := Nat.le_trans Z0 (Nat.le_of_eq g1.symm)
      have sz_b1 : h0.size ≤ b1 := Nat.le_trans (Keep.refl h0 []).1 (Nat.le_of_eq g1.symm)
      have Z1 : n0 ≤ h1.size := Nat.le_trans Z0 E1.1
      have Kp1 : Keep h0 h1 [] := (Keep.refl h0 []).ext E1
      have F_variableOf_b1 : Fld Z h1 b1 "com/example/brevi/brevi/bdd/BddManager" "variableOf" "[I" .null := D1 (Or.inl (hw _ (List.mem_of_getElem? (i := 15) rfl))) (ty := (.array .int)) (by decide)
      have F_lowOf_b1 : Fld Z h1 b1 "com/example/brevi/brevi/bdd/BddManager" "lowOf" "[I" .null := D1 (Or.inl (hw _ (List.mem_of_getElem? (i := 17) rfl))) (ty := (.array .int)) (by decide)
      have F_highOf_b1 : Fld Z h1 b1 "com/example/brevi/brevi/bdd/BddManager" "highOf" "[I" .null := D1 (Or.inl (hw _ (List.mem_of_getElem? (i := 19) rfl))) (ty := (.array .int)) (by decide)
      have F_nextInBucket_b1 : Fld Z h1 b1 "com/example/brevi/brevi/bdd/BddManager" "nextInBucket" "[I" .null := D1 (Or.inl (hw _ (List.mem_of_getElem? (i := 21) rfl))) (ty := (.array .int)) (by decide)
      have F_bucketHead_b1 : Fld Z h1 b1 "com/example/brevi/brevi/bdd/BddManager" "bucketHead" "[I" .null := D1 (Or.inl (hw _ (List.mem_of_getElem? (i := 23) rfl))) (ty := (.array .int)) (by decide)
      have F_cacheOperation_b1 : Fld Z h1 b1 "com/example/brevi/brevi/bdd/BddManager" "cacheOperation" "[I" .null := D1 (Or.inl (hw _ (List.mem_of_getElem? (i := 33) rfl))) (ty := (.array .int)) (by decide)
      have F_cacheFirst_b1 : Fld Z h1 b1 "com/example/brevi/brevi/bdd/BddManager" "cacheFirst" "[I" .null := D1 (Or.inl (hw _ (List.mem_of_getElem? (i := 35) rfl))) (ty := (.array .int)) (by decide)
      have F_cacheSecond_b1 : Fld Z h1 b1 "com/example/brevi/brevi/bdd/BddManager" "cacheSecond" "[I" .null := D1 (Or.inl (hw _ (List.mem_of_getElem? (i := 37) rfl))) (ty := (.array .int)) (by decide)
      have F_cacheThird_b1 : Fld Z h1 b1 "com/example/brevi/brevi/bdd/BddManager" "cacheThird" "[I" .null := D1 (Or.inl (hw _ (List.mem_of_getElem? (i := 39) rfl))) (ty := (.array .int)) (by decide)
      have F_cacheResult_b1 : Fld Z h1 b1 "com/example/brevi/brevi/bdd/BddManager" "cacheResult" "[I" .null := D1 (Or.inl (hw _ (List.mem_of_getElem? (i := 41) rfl))) (ty := (.array .int)) (by decide)
      have F_nodeCount_b1 : Fld Z h1 b1 "com/example/brevi/brevi/bdd/BddManager" "nodeCount" "I" (.int (0 : Int32)) := D1 (Or.inl (hw _ (List.mem_of_getElem? (i := 48) rfl))) (ty := .int) (by decide)
      have F_falseBdd_b1 : Fld Z h1 b1 "com/example/brevi/brevi/bdd/BddManager" "falseBdd" "Lcom/example/brevi/brevi/bdd/Bdd;" .null := D1 (Or.inr (hw _ (List.mem_of_getElem? (i := 61) rfl))) (ty := (.object "com/example/brevi/brevi/bdd/Bdd")) (by decide)
      have F_trueBdd_b1 : Fld Z h1 b1 "com/example/brevi/brevi/bdd/BddManager" "trueBdd" "Lcom/example/brevi/brevi/bdd/Bdd;" .null := D1 (Or.inr (hw _ (List.mem_of_getElem? (i := 63) rfl))) (ty := (.object "com/example/brevi/brevi/bdd/Bdd")) (by decide)
      obtain ⟨_, _, ⟨T2, L2, k2, n2⟩, -, X2, ⟨Lc2, hQ2, l2, y2, z2⟩, st2⟩ := X1.specialBack hx (y := (⟨"com/example/brevi/brevi/bdd/BddManager", "<init>", "()V"⟩ : MethodName)) rfl hown (mvT hZ (hw _ (List.mem_of_getElem? (i := 3) rfl))) (mvT hZ (hw _ (List.mem_of_getElem? (i := 4) rfl))) (mvT hZ (hw _ (List.mem_of_getElem? (i := 5) rfl))) (by decide) (backOf (W := 1) (rmM l Z a0 hw [] b1 h1 n0 Z1 A1 F_variableOf_b1 F_lowOf_b1 F_highOf_b1 F_nextInBucket_b1 F_bucketHead_b1 F_cacheOperation_b1 F_cacheFirst_b1 F_cacheSecond_b1 F_cacheThird_b1 F_cacheResult_b1 F_nodeCount_b1 F_falseBdd_b1 F_trueBdd_b1 ge_b1) hZ (hw _ (List.mem_of_getElem? (i := 5) rfl)) (hw _ (List.mem_of_getElem? (i := 2) rfl)) (by decide) (by decide)) (g := (mkF m 4 #[.val (.int p1), .val (.int p2), .val (.int p3), .unset, .unset, .unset, .unset, .unset, .unset, .unset, .unset, .unset, .unset, .unset] [(.ref b1), (.ref b1)])) rfl (by rw [hml]; rfl) (Steps.refl _) (a := b1) (argsL := []) (rest := [(.ref b1)]) (lenOf pd_0 rfl) rfl (by show 2 * 0 + _ ≤ _; exact Nat.le_of_eq rfl) (hb hby at_4) (fun _ _ => ⟨rfl, e1, (by decide : 1 + 12 ≤ _), (by decide : 15 + 40964 ≤ _)⟩)
      dsimp only [Pt.U, Pt.locs, Pt.cells, Pt.slots] at X2 l2 y2 z2 st2 hQ2
      subst l2 y2 z2
      obtain ⟨rfl, Nq2, K2⟩ := hQ2
      have A1_2 := A1.keep K2
      have Z2 : n0 ≤ T2.heap.size := Nat.le_trans Z1 K2.1
      have Kp2 : Keep h0 T2.heap [] := Kp1.trans K2 (allS (Or.inr sz_b1) all0)
      have N2 := Fr.app N0 Nq2
      obtain ⟨T3, h3, X3, e3, E3, A3, D3, -, st3⟩ := newO X2 hx hZ hown (hw _ (List.mem_of_getElem? (i := 0) rfl)) (hw _ (List.mem_of_getElem? (i := 1) rfl)) (hw _ (List.mem_of_getElem? (i := 2) rfl)) rfl (g := (mkF m 8 #[.val (.int p1), .val (.int p2), .val (.int p3), .val (.ref b1), .unset, .unset, .unset, .unset, .unset, .unset, .unset, .unset, .unset, .unset] [])) rfl (hb hby at_8) (by decide) (by decide)
      obtain ⟨b3, g3⟩ : ∃ z, z = T2.heap.size := ⟨_, rfl⟩
      rw [← g3] at A3 D3 st3
      have ne_b1_b3 : b1 ≠ b3 := Nat.ne_of_lt (Nat.lt_of_lt_of_eq A1_2.lt g3.symm)
      have ge_b3 : n0 ≤ b3 := Nat.le_trans Z2 (Nat.le_of_eq g3.symm)
      have sz_b3 : h0.size ≤ b3 := Nat.le_trans Kp2.1 (Nat.le_of_eq g3.symm)
      have A1_3 := A1_2.ext E3
      have Z3 : n0 ≤ h3.size := Nat.le_trans Z2 E3.1
      have Kp3 : Keep h0 h3 [] := Kp2.ext E3
      have F_variableOf_b3 : Fld Z h3 b3 "com/example/brevi/brevi/bdd/BddManager" "variableOf" "[I" .null := D3 (Or.inl (hw _ (List.mem_of_getElem? (i := 15) rfl))) (ty := (.array .int)) (by decide)
      have F_lowOf_b3 : Fld Z h3 b3 "com/example/brevi/brevi/bdd/BddManager" "lowOf" "[I" .null := D3 (Or.inl (hw _ (List.mem_of_getElem? (i := 17) rfl))) (ty := (.array .int)) (by decide)
      have F_highOf_b3 : Fld Z h3 b3 "com/example/brevi/brevi/bdd/BddManager" "highOf" "[I" .null := D3 (Or.inl (hw _ (List.mem_of_getElem? (i := 19) rfl))) (ty := (.array .int)) (by decide)
      have F_nextInBucket_b3 : Fld Z h3 b3 "com/example/brevi/brevi/bdd/BddManager" "nextInBucket" "[I" .null := D3 (Or.inl (hw _ (List.mem_of_getElem? (i := 21) rfl))) (ty := (.array .int)) (by decide)
      have F_bucketHead_b3 : Fld Z h3 b3 "com/example/brevi/brevi/bdd/BddManager" "bucketHead" "[I" .null := D3 (Or.inl (hw _ (List.mem_of_getElem? (i := 23) rfl))) (ty := (.array .int)) (by decide)
      have F_cacheOperation_b3 : Fld Z h3 b3 "com/example/brevi/brevi/bdd/BddManager" "cacheOperation" "[I" .null := D3 (Or.inl (hw _ (List.mem_of_getElem? (i := 33) rfl))) (ty := (.array .int)) (by decide)
      have F_cacheFirst_b3 : Fld Z h3 b3 "com/example/brevi/brevi/bdd/BddManager" "cacheFirst" "[I" .null := D3 (Or.inl (hw _ (List.mem_of_getElem? (i := 35) rfl))) (ty := (.array .int)) (by decide)
      have F_cacheSecond_b3 : Fld Z h3 b3 "com/example/brevi/brevi/bdd/BddManager" "cacheSecond" "[I" .null := D3 (Or.inl (hw _ (List.mem_of_getElem? (i := 37) rfl))) (ty := (.array .int)) (by decide)
      have F_cacheThird_b3 : Fld Z h3 b3 "com/example/brevi/brevi/bdd/BddManager" "cacheThird" "[I" .null := D3 (Or.inl (hw _ (List.mem_of_getElem? (i := 39) rfl))) (ty := (.array .int)) (by decide)
      have F_cacheResult_b3 : Fld Z h3 b3 "com/example/brevi/brevi/bdd/BddManager" "cacheResult" "[I" .null := D3 (Or.inl (hw _ (List.mem_of_getElem? (i := 41) rfl))) (ty := (.array .int)) (by decide)
      have F_nodeCount_b3 : Fld Z h3 b3 "com/example/brevi/brevi/bdd/BddManager" "nodeCount" "I" (.int (0 : Int32)) := D3 (Or.inl (hw _ (List.mem_of_getElem? (i := 48) rfl))) (ty := .int) (by decide)
      have F_falseBdd_b3 : Fld Z h3 b3 "com/example/brevi/brevi/bdd/BddManager" "falseBdd" "Lcom/example/brevi/brevi/bdd/Bdd;" .null := D3 (Or.inr (hw _ (List.mem_of_getElem? (i := 61) rfl))) (ty := (.object "com/example/brevi/brevi/bdd/Bdd")) (by decide)
      have F_trueBdd_b3 : Fld Z h3 b3 "com/example/brevi/brevi/bdd/BddManager" "trueBdd" "Lcom/example/brevi/brevi/bdd/Bdd;" .null := D3 (Or.inr (hw _ (List.mem_of_getElem? (i := 63) rfl))) (ty := (.object "com/example/brevi/brevi/bdd/Bdd")) (by decide)
      obtain ⟨_, _, ⟨T4, L4, k4, n4⟩, -, X4, ⟨Lc4, hQ4, l4, y4, z4⟩, st4⟩ := X3.specialBack hx (y := (⟨"com/example/brevi/brevi/bdd/BddManager", "<init>", "()V"⟩ : MethodName)) rfl hown (mvT hZ (hw _ (List.mem_of_getElem? (i := 3) rfl))) (mvT hZ (hw _ (List.mem_of_getElem? (i := 4) rfl))) (mvT hZ (hw _ (List.mem_of_getElem? (i := 5) rfl))) (by decide) (backOf (W := 1) (rmM l Z a0 hw [] b3 h3 n0 Z3 A3 F_variableOf_b3 F_lowOf_b3 F_highOf_b3 F_nextInBucket_b3 F_bucketHead_b3 F_cacheOperation_b3 F_cacheFirst_b3 F_cacheSecond_b3 F_cacheThird_b3 F_cacheResult_b3 F_nodeCount_b3 F_falseBdd_b3 F_trueBdd_b3 ge_b3) hZ (hw _ (List.mem_of_getElem? (i := 5) rfl)) (hw _ (List.mem_of_getElem? (i := 2) rfl)) (by decide) (by decide)) (g := (mkF m 12 #[.val (.int p1), .val (.int p2), .val (.int p3), .val (.ref b1), .unset, .unset, .unset, .unset, .unset, .unset, .unset, .unset, .unset, .unset] [(.ref b3), (.ref b3)])) rfl (by rw [hml]; rfl) (Steps.refl _) (a := b3) (argsL := []) (rest := [(.ref b3)]) (lenOf pd_0 rfl) rfl (by show 2 * 0 + _ ≤ _; exact Nat.le_of_eq rfl) (hb hby at_12) (fun _ _ => ⟨rfl, e3, (by decide : 14 + 12 ≤ _), (by decide : 40994 + 40964 ≤ _)⟩)
      dsimp only [Pt.U, Pt.locs, Pt.cells, Pt.slots] at X4 l4 y4 z4 st4 hQ4
      subst l4 y4 z4
      obtain ⟨rfl, Nq4, K4⟩ := hQ4
      have A1_4 := A1_3.keep K4
      have A3_4 := A3.keep K4
      have Z4 : n0 ≤ T4.heap.size := Nat.le_trans Z3 K4.1
      have Kp4 : Keep h0 T4.heap [] := Kp3.trans K4 (allS (Or.inr sz_b3) all0)
      have N4 := Fr.app N2 Nq4
      obtain ⟨T5, h5, X5, e5, E5, A5, D5, -, st5⟩ := newO X4 hx hZ hown (hw _ (List.mem_of_getElem? (i := 64) rfl)) (hw _ (List.mem_of_getElem? (i := 50) rfl)) (hw _ (List.mem_of_getElem? (i := 51) rfl)) rfl (g := (mkF m 70 #[.val (.int p1), .val (.int p2), .val (.int p3), .val (.ref b1), .val (.ref b3), .val (.int (1 : Int32)), .val (.int (0 : Int32)), .val (.int p1), .val (.ref b3), .unset, .unset, .unset, .unset, .unset] [])) rfl (hb hby at_70) (by decide) (by decide)
      obtain ⟨b5, g5⟩ : ∃ z, z = T4.heap.size := ⟨_, rfl⟩
      rw [← g5] at A5 D5 st5
      have ne_b1_b5 : b1 ≠ b5 := Nat.ne_of_lt (Nat.lt_of_lt_of_eq A1_4.lt g5.symm)
      have ne_b3_b5 : b3 ≠ b5 := Nat.ne_of_lt (Nat.lt_of_lt_of_eq A3_4.lt g5.symm)
      have ge_b5 : n0 ≤ b5 := Nat.le_trans Z4 (Nat.le_of_eq g5.symm)
      have sz_b5 : h0.size ≤ b5 := Nat.le_trans Kp4.1 (Nat.le_of_eq g5.symm)
      have A1_5 := A1_4.ext E5
      have A3_5 := A3_4.ext E5
      have Z5 : n0 ≤ h5.size := Nat.le_trans Z4 E5.1
      have Kp5 : Keep h0 h5 [] := Kp4.ext E5
      have F_manager_b5 : Fld Z h5 b5 "com/example/brevi/brevi/bdd/Bdd" "manager" "Lcom/example/brevi/brevi/bdd/BddManager;" .null := D5 (Or.inr (hw _ (List.mem_of_getElem? (i := 57) rfl))) (ty := (.object "com/example/brevi/brevi/bdd/BddManager")) (by decide)
      have F_node_b5 : Fld Z h5 b5 "com/example/brevi/brevi/bdd/Bdd" "node" "I" (.int (0 : Int32)) := D5 (Or.inr (hw _ (List.mem_of_getElem? (i := 59) rfl))) (ty := .int) (by decide)
      obtain ⟨_, _, ⟨T6, L6, k6, n6⟩, -, X6, ⟨Lc6, hQ6, l6, y6, z6⟩, st6⟩ := X5.specialBack hx (y := (⟨"com/example/brevi/brevi/bdd/Bdd", "<init>", "(Lcom/example/brevi/brevi/bdd/BddManager;I)V"⟩ : MethodName)) rfl hown (mvT hZ (hw _ (List.mem_of_getElem? (i := 65) rfl))) (mvT hZ (hw _ (List.mem_of_getElem? (i := 53) rfl))) (mvT hZ (hw _ (List.mem_of_getElem? (i := 54) rfl))) (by decide) (backOf (W := 1) (rmB l Z a0 hw [] b5 b1 p1 h5 n0 Z5 A5 F_manager_b5 F_node_b5 ge_b5) hZ (hw _ (List.mem_of_getElem? (i := 54) rfl)) (hw _ (List.mem_of_getElem? (i := 51) rfl)) (by decide) (by decide)) (g := (mkF m 76 #[.val (.int p1), .val (.int p2), .val (.int p3), .val (.ref b1), .val (.ref b3), .val (.int (1 : Int32)), .val (.int (0 : Int32)), .val (.int p1), .val (.ref b3), .unset, .unset, .unset, .unset, .unset] [(.int p1), (.ref b1), (.ref b5), (.ref b5)])) rfl (by rw [hml]; rfl) (Steps.refl _) (a := b5) (argsL := [(.ref b1), (.int p1)]) (rest := [(.ref b5)]) (lenOf pd_4 rfl) rfl (by show 2 * 0 + _ ≤ _; exact Nat.le_of_eq rfl) (hb hby at_76) (fun _ _ => ⟨rfl, e5, (by decide : 27 + 0 ≤ _), (by decide : 81960 + 0 ≤ _)⟩)
      dsimp only [Pt.U, Pt.locs, Pt.cells, Pt.slots] at X6 l6 y6 z6 st6 hQ6
      subst l6 y6 z6
      obtain ⟨rfl, Nq6, K6, ex6, fm6, fn6⟩ := hQ6
      have A1_6 := A1_5.keep K6
      have A3_6 := A3_5.keep K6
      have A5_6 := A5.keep K6
      have Z6 : n0 ≤ T6.heap.size := Nat.le_trans Z5 K6.1
      have Kp6 : Keep h0 T6.heap [] := Kp5.trans K6 (allS (Or.inr sz_b5) all0)
      have N6 := Fr.app N4 Nq6
      obtain ⟨T7, h7, X7, e7, E7, A7, D7, -, st7⟩ := newO X6 hx hZ hown (hw _ (List.mem_of_getElem? (i := 64) rfl)) (hw _ (List.mem_of_getElem? (i := 50) rfl)) (hw _ (List.mem_of_getElem? (i := 51) rfl)) rfl (g := (mkF m 81 #[.val (.int p1), .val (.int p2), .val (.int p3), .val (.ref b1), .val (.ref b3), .val (.int (1 : Int32)), .val (.int (0 : Int32)), .val (.int p1), .val (.ref b3), .val (.ref b5), .unset, .unset, .unset, .unset] [])) rfl (hb hby at_81) (by decide) (by decide)
      obtain ⟨b7, g7⟩ : ∃ z, z = T6.heap.size := ⟨_, rfl⟩
      rw [← g7] at A7 D7 st7
      have ne_b1_b7 : b1 ≠ b7 := Nat.ne_of_lt (Nat.lt_of_lt_of_eq A1_6.lt g7.symm)
      have ne_b3_b7 : b3 ≠ b7 := Nat.ne_of_lt (Nat.lt_of_lt_of_eq A3_6.lt g7.symm)
      have ne_b5_b7 : b5 ≠ b7 := Nat.ne_of_lt (Nat.lt_of_lt_of_eq ex6.lt g7.symm)
      have ge_b7 : n0 ≤ b7 := Nat.le_trans Z6 (Nat.le_of_eq g7.symm)
      have sz_b7 : h0.size ≤ b7 := Nat.le_trans Kp6.1 (Nat.le_of_eq g7.symm)
      have A1_7 := A1_6.ext E7
      have A3_7 := A3_6.ext E7
      have ex6_7 := ex6.ext E7
      have fm6_7 := fm6.ext E7
      have fn6_7 := fn6.ext E7
      have Z7 : n0 ≤ h7.size := Nat.le_trans Z6 E7.1
      have Kp7 : Keep h0 h7 [] := Kp6.ext E7
      have F_manager_b7 : Fld Z h7 b7 "com/example/brevi/brevi/bdd/Bdd" "manager" "Lcom/example/brevi/brevi/bdd/BddManager;" .null := D7 (Or.inr (hw _ (List.mem_of_getElem? (i := 57) rfl))) (ty := (.object "com/example/brevi/brevi/bdd/BddManager")) (by decide)
      have F_node_b7 : Fld Z h7 b7 "com/example/brevi/brevi/bdd/Bdd" "node" "I" (.int (0 : Int32)) := D7 (Or.inr (hw _ (List.mem_of_getElem? (i := 59) rfl))) (ty := .int) (by decide)
      obtain ⟨_, _, ⟨T8, L8, k8, n8⟩, -, X8, ⟨Lc8, hQ8, l8, y8, z8⟩, st8⟩ := X7.specialBack hx (y := (⟨"com/example/brevi/brevi/bdd/Bdd", "<init>", "(Lcom/example/brevi/brevi/bdd/BddManager;I)V"⟩ : MethodName)) rfl hown (mvT hZ (hw _ (List.mem_of_getElem? (i := 65) rfl))) (mvT hZ (hw _ (List.mem_of_getElem? (i := 53) rfl))) (mvT hZ (hw _ (List.mem_of_getElem? (i := 54) rfl))) (by decide) (backOf (W := 1) (rmB l Z a0 hw [] b7 b3 p1 h7 n0 Z7 A7 F_manager_b7 F_node_b7 ge_b7) hZ (hw _ (List.mem_of_getElem? (i := 54) rfl)) (hw _ (List.mem_of_getElem? (i := 51) rfl)) (by decide) (by decide)) (g := (mkF m 89 #[.val (.int p1), .val (.int p2), .val (.int p3), .val (.ref b1), .val (.ref b3), .val (.int (1 : Int32)), .val (.int (0 : Int32)), .val (.int p1), .val (.ref b3), .val (.ref b5), .unset, .unset, .unset, .unset] [(.int p1), (.ref b3), (.ref b7), (.ref b7)])) rfl (by rw [hml]; rfl) (Steps.refl _) (a := b7) (argsL := [(.ref b3), (.int p1)]) (rest := [(.ref b7)]) (lenOf pd_4 rfl) rfl (by show 2 * 0 + _ ≤ _; exact Nat.le_of_eq rfl) (hb hby at_89) (fun _ _ => ⟨rfl, e7, (by decide : 28 + 0 ≤ _), (by decide : 81962 + 0 ≤ _)⟩)
      dsimp only [Pt.U, Pt.locs, Pt.cells, Pt.slots] at X8 l8 y8 z8 st8 hQ8
      subst l8 y8 z8
      obtain ⟨rfl, Nq8, K8, ex8, fm8, fn8⟩ := hQ8
      have A1_8 := A1_7.keep K8
      have A3_8 := A3_7.keep K8
      have ex6_8 := ex6_7.keep K8
      have fm6_8 := fm6_7.keep K8 (ninS ne_b5_b7 nin0)
      have fn6_8 := fn6_7.keep K8 (ninS ne_b5_b7 nin0)
      have A7_8 := A7.keep K8
      have Z8 : n0 ≤ T8.heap.size := Nat.le_trans Z7 K8.1
      have Kp8 : Keep h0 T8.heap [] := Kp7.trans K8 (allS (Or.inr sz_b7) all0)
      have N8 := Fr.app N6 Nq8
      obtain ⟨_, _, ⟨T9, L9, k9, n9⟩, -, X9, ⟨Lc9, hQ9, l9, y9, z9⟩, st9⟩ := Jvm.LawKit.callS X8 hx (y := (⟨"java/lang/Integer", "valueOf", "(I)Ljava/lang/Integer;"⟩ : MethodName)) hown (mvT hZ (hw _ (List.mem_of_getElem? (i := 66) rfl))) (mvT hZ (hw _ (List.mem_of_getElem? (i := 67) rfl))) (mvT hZ (hw _ (List.mem_of_getElem? (i := 68) rfl))) (mvT hZ (hw _ (List.mem_of_getElem? (i := 69) rfl))) (by decide) (backOf (W := 0) (rmV l Z a0 hw [] p1 ca T8.heap n0 Z8 (own_sta S_hi Kp8) (own_sta S_ca Kp8) (C0.keep Kp8)) hZ (hw _ (List.mem_of_getElem? (i := 69) rfl)) (hw _ (List.mem_of_getElem? (i := 68) rfl)) (by decide) (by decide)) (g := (mkF m 113 #[.val (.int p1), .val (.int p2), .val (.int p3), .val (.ref b1), .val (.ref b3), .val (.int (1 : Int32)), .val (.int (0 : Int32)), .val (.int p1), .val (.ref b3), .val (.ref b5), .val (.ref b7), .val (.int (0 : Int32)), .unset, .unset] [(.int p1)])) rfl (by rw [hml]; rfl) (argsL := [(.int p1)]) (rest := []) (lenOf pd_5 rfl) rfl (by show 2 * 0 + _ ≤ _; exact Nat.le_of_eq rfl) (hb hby at_113) (fun _ _ => ⟨rfl, rfl, (by decide : 28 + 1 ≤ _), (by decide : 81962 + 1 ≤ _)⟩)
      dsimp only [Pt.U, Pt.locs, Pt.cells, Pt.slots] at X9 l9 y9 z9 st9 hQ9
      subst l9 y9 z9
      obtain ⟨bx9, rfl, Nq9, K9, ex9⟩ := hQ9
      have A1_9 := A1_8.keep K9
      have A3_9 := A3_8.keep K9
      have ex6_9 := ex6_8.keep K9
      have fm6_9 := fm6_8.keep K9 nin0
      have fn6_9 := fn6_8.keep K9 nin0
      have ex8_9 := ex8.keep K9
      have fm8_9 := fm8.keep K9 nin0
      have fn8_9 := fn8.keep K9 nin0
      have Z9 : n0 ≤ T9.heap.size := Nat.le_trans Z8 K9.1
      have Kp9 : Keep h0 T9.heap [] := Kp8.trans K9 all0
      have N9 := Fr.app N8 Nq9
      obtain ⟨cq10, kq10, q10a, q10b, q10c⟩ := isOf hZ rfl ex6_9
      obtain ⟨_, _, ⟨T10, L10, k10, n10⟩, -, X10, ⟨Lc10, hQ10, l10, y10, z10⟩, st10⟩ := X9.virtualBack hx (y := (⟨"com/example/brevi/brevi/bdd/Bdd", "equals", "(Ljava/lang/Object;)Z"⟩ : MethodName)) (z := (⟨"com/example/brevi/brevi/bdd/Bdd", "equals", "(Ljava/lang/Object;)Z"⟩ : MethodName)) hown (mvT hZ (hw _ (List.mem_of_getElem? (i := 73) rfl))) (mvT hZ (hw _ (List.mem_of_getElem? (i := 74) rfl))) (notFace_of_selects (args := #[]) (mvT hZ (hw _ (List.mem_of_getElem? (i := 76) rfl)))) (mvT hZ (hw _ (List.mem_of_getElem? (i := 76) rfl))) (mvT hZ (hw _ (List.mem_of_getElem? (i := 75) rfl))) (by decide) (backOf (W := 0) (rmE_m l Z a0 hw [] b5 b7 b1 b3 p1 p1 T9.heap n0 Z9 ex8_9 fm6_9 fm8_9 fn6_9 fn8_9 (Ne.symm ne_b1_b3)) hZ (hw _ (List.mem_of_getElem? (i := 77) rfl)) (hw _ (List.mem_of_getElem? (i := 51) rfl)) (by decide) (by decide)) q10a q10c (g := (mkF m 125 #[.val (.int p1), .val (.int p2), .val (.int p3), .val (.ref b1), .val (.ref b3), .val (.int (1 : Int32)), .val (.int (0 : Int32)), .val (.int p1), .val (.ref b3), .val (.ref b5), .val (.ref b7), .val (.int (0 : Int32)), .val (.ref bx9), .val .null] [(.ref b7), (.ref b5)])) rfl (by rw [hml]; rfl) (Steps.refl _) (argsL := [(.ref b7)]) (rest := []) (lenOf pd_6 rfl) rfl (by show 2 * 0 + _ ≤ _; exact Nat.le_of_eq rfl) (hb hby at_125) (fun _ _ => ⟨rfl, rfl, (by decide : 29 + 0 ≤ _), (by decide : 81963 + 0 ≤ _)⟩)
      dsimp only [Pt.U, Pt.locs, Pt.cells, Pt.slots] at X10 l10 y10 z10 st10 hQ10
      subst l10 y10 z10
      obtain ⟨rfl, Nq10, e10⟩ := hQ10
      have N10 := Fr.app N9 Nq10
      obtain ⟨cq11, kq11, q11a, q11b, q11c⟩ := isOf hZ e10 ex8_9
      obtain ⟨_, _, ⟨T11, L11, k11, n11⟩, -, X11, ⟨Lc11, hQ11, l11, y11, z11⟩, st11⟩ := X10.virtualBack hx (y := (⟨"com/example/brevi/brevi/bdd/Bdd", "equals", "(Ljava/lang/Object;)Z"⟩ : MethodName)) (z := (⟨"com/example/brevi/brevi/bdd/Bdd", "equals", "(Ljava/lang/Object;)Z"⟩ : MethodName)) hown (mvT hZ (hw _ (List.mem_of_getElem? (i := 73) rfl))) (mvT hZ (hw _ (List.mem_of_getElem? (i := 74) rfl))) (notFace_of_selects (args := #[]) (mvT hZ (hw _ (List.mem_of_getElem? (i := 76) rfl)))) (mvT hZ (hw _ (List.mem_of_getElem? (i := 76) rfl))) (mvT hZ (hw _ (List.mem_of_getElem? (i := 75) rfl))) (by decide) (backOf (W := 0) (rmE_m l Z a0 hw [] b7 b5 b3 b1 p1 p1 T9.heap n0 Z9 ex6_9 fm8_9 fm6_9 fn8_9 fn6_9 ne_b1_b3) hZ (hw _ (List.mem_of_getElem? (i := 77) rfl)) (hw _ (List.mem_of_getElem? (i := 51) rfl)) (by decide) (by decide)) q11a q11c (g := (mkF m 137 #[.val (.int p1), .val (.int p2), .val (.int p3), .val (.ref b1), .val (.ref b3), .val (.int (1 : Int32)), .val (.int (0 : Int32)), .val (.int p1), .val (.ref b3), .val (.ref b5), .val (.ref b7), .val (.int (0 : Int32)), .val (.ref bx9), .val .null] [(.ref b5), (.ref b7)])) rfl (by rw [hml]; rfl) (Steps.refl _) (argsL := [(.ref b5)]) (rest := []) (lenOf pd_6 rfl) rfl (by show 2 * 0 + _ ≤ _; exact Nat.le_of_eq rfl) (hb hby at_137) (fun _ _ => ⟨rfl, e10, (by decide : 29 + 0 ≤ _), (by decide : 81963 + 0 ≤ _)⟩)
      dsimp only [Pt.U, Pt.locs, Pt.cells, Pt.slots] at X11 l11 y11 z11 st11 hQ11
      subst l11 y11 z11
      obtain ⟨rfl, Nq11, e11⟩ := hQ11
      have N11 := Fr.app N10 Nq11
      obtain ⟨cq12, kq12, q12a, q12b, q12c⟩ := isOf hZ e11 ex6_9
      obtain ⟨_, _, ⟨T12, L12, k12, n12⟩, -, X12, ⟨Lc12, hQ12, l12, y12, z12⟩, st12⟩ := X11.virtualBack hx (y := (⟨"com/example/brevi/brevi/bdd/Bdd", "equals", "(Ljava/lang/Object;)Z"⟩ : MethodName)) (z := (⟨"com/example/brevi/brevi/bdd/Bdd", "equals", "(Ljava/lang/Object;)Z"⟩ : MethodName)) hown (mvT hZ (hw _ (List.mem_of_getElem? (i := 73) rfl))) (mvT hZ (hw _ (List.mem_of_getElem? (i := 74) rfl))) (notFace_of_selects (args := #[]) (mvT hZ (hw _ (List.mem_of_getElem? (i := 76) rfl)))) (mvT hZ (hw _ (List.mem_of_getElem? (i := 76) rfl))) (mvT hZ (hw _ (List.mem_of_getElem? (i := 75) rfl))) (by decide) (backOf (W := 0) (rmE_e l Z a0 hw [] b5 b5 b1 b1 p1 p1 T9.heap n0 Z9 ex6_9 fm6_9 fm6_9 fn6_9 fn6_9 rfl rfl) hZ (hw _ (List.mem_of_getElem? (i := 77) rfl)) (hw _ (List.mem_of_getElem? (i := 51) rfl)) (by decide) (by decide)) q12a q12c (g := (mkF m 149 #[.val (.int p1), .val (.int p2), .val (.int p3), .val (.ref b1), .val (.ref b3), .val (.int (1 : Int32)), .val (.int (0 : Int32)), .val (.int p1), .val (.ref b3), .val (.ref b5), .val (.ref b7), .val (.int (0 : Int32)), .val (.ref bx9), .val .null] [(.ref b5), (.ref b5)])) rfl (by rw [hml]; rfl) (Steps.refl _) (argsL := [(.ref b5)]) (rest := []) (lenOf pd_6 rfl) rfl (by show 2 * 0 + _ ≤ _; exact Nat.le_of_eq rfl) (hb hby at_149) (fun _ _ => ⟨rfl, e11, (by decide : 29 + 0 ≤ _), (by decide : 81963 + 0 ≤ _)⟩)
      dsimp only [Pt.U, Pt.locs, Pt.cells, Pt.slots] at X12 l12 y12 z12 st12 hQ12
      subst l12 y12 z12
      obtain ⟨rfl, Nq12, e12⟩ := hQ12
      have N12 := Fr.app N11 Nq12
      obtain ⟨cq13, kq13, q13a, q13b, q13c⟩ := isOf hZ e12 ex6_9
      obtain ⟨_, _, ⟨T13, L13, k13, n13⟩, -, X13, ⟨Lc13, hQ13, l13, y13, z13⟩, st13⟩ := X12.virtualBack hx (y := (⟨"com/example/brevi/brevi/bdd/Bdd", "equals", "(Ljava/lang/Object;)Z"⟩ : MethodName)) (z := (⟨"com/example/brevi/brevi/bdd/Bdd", "equals", "(Ljava/lang/Object;)Z"⟩ : MethodName)) hown (mvT hZ (hw _ (List.mem_of_getElem? (i := 73) rfl))) (mvT hZ (hw _ (List.mem_of_getElem? (i := 74) rfl))) (notFace_of_selects (args := #[]) (mvT hZ (hw _ (List.mem_of_getElem? (i := 76) rfl)))) (mvT hZ (hw _ (List.mem_of_getElem? (i := 76) rfl))) (mvT hZ (hw _ (List.mem_of_getElem? (i := 75) rfl))) (by decide) (backOf (W := 0) (rmE_i l Z a0 hw [] b5 bx9 T9.heap n0 Z9 ex9) hZ (hw _ (List.mem_of_getElem? (i := 77) rfl)) (hw _ (List.mem_of_getElem? (i := 51) rfl)) (by decide) (by decide)) q13a q13c (g := (mkF m 159 #[.val (.int p1), .val (.int p2), .val (.int p3), .val (.ref b1), .val (.ref b3), .val (.int (1 : Int32)), .val (.int (0 : Int32)), .val (.int p1), .val (.ref b3), .val (.ref b5), .val (.ref b7), .val (.int (0 : Int32)), .val (.ref bx9), .val .null] [(.ref bx9), (.ref b5)])) rfl (by rw [hml]; rfl) (Steps.refl _) (argsL := [(.ref bx9)]) (rest := []) (lenOf pd_6 rfl) rfl (by show 2 * 0 + _ ≤ _; exact Nat.le_of_eq rfl) (hb hby at_159) (fun _ _ => ⟨rfl, e12, (by decide : 29 + 0 ≤ _), (by decide : 81963 + 0 ≤ _)⟩)
      dsimp only [Pt.U, Pt.locs, Pt.cells, Pt.slots] at X13 l13 y13 z13 st13 hQ13
      subst l13 y13 z13
      obtain ⟨rfl, Nq13, e13⟩ := hQ13
      have N13 := Fr.app N12 Nq13
      obtain ⟨cq14, kq14, q14a, q14b, q14c⟩ := isOf hZ e13 ex6_9
      obtain ⟨_, _, ⟨T14, L14, k14, n14⟩, -, X14, ⟨Lc14, hQ14, l14, y14, z14⟩, st14⟩ := X13.virtualBack hx (y := (⟨"com/example/brevi/brevi/bdd/Bdd", "equals", "(Ljava/lang/Object;)Z"⟩ : MethodName)) (z := (⟨"com/example/brevi/brevi/bdd/Bdd", "equals", "(Ljava/lang/Object;)Z"⟩ : MethodName)) hown (mvT hZ (hw _ (List.mem_of_getElem? (i := 73) rfl))) (mvT hZ (hw _ (List.mem_of_getElem? (i := 74) rfl))) (notFace_of_selects (args := #[]) (mvT hZ (hw _ (List.mem_of_getElem? (i := 76) rfl)))) (mvT hZ (hw _ (List.mem_of_getElem? (i := 76) rfl))) (mvT hZ (hw _ (List.mem_of_getElem? (i := 75) rfl))) (by decide) (backOf (W := 0) (rmE_n l Z a0 hw [] b5 T9.heap n0 Z9 ) hZ (hw _ (List.mem_of_getElem? (i := 77) rfl)) (hw _ (List.mem_of_getElem? (i := 51) rfl)) (by decide) (by decide)) q14a q14c (g := (mkF m 169 #[.val (.int p1), .val (.int p2), .val (.int p3), .val (.ref b1), .val (.ref b3), .val (.int (1 : Int32)), .val (.int (0 : Int32)), .val (.int p1), .val (.ref b3), .val (.ref b5), .val (.ref b7), .val (.int (0 : Int32)), .val (.ref bx9), .val .null] [.null, (.ref b5)])) rfl (by rw [hml]; rfl) (Steps.refl _) (argsL := [.null]) (rest := []) (lenOf pd_6 rfl) rfl (by show 2 * 0 + _ ≤ _; exact Nat.le_of_eq rfl) (hb hby at_169) (fun _ _ => ⟨rfl, e13, (by decide : 29 + 0 ≤ _), (by decide : 81963 + 0 ≤ _)⟩)
      dsimp only [Pt.U, Pt.locs, Pt.cells, Pt.slots] at X14 l14 y14 z14 st14 hQ14
      subst l14 y14 z14
      obtain ⟨rfl, Nq14, e14⟩ := hQ14
      have N14 := Fr.app N13 Nq14
      obtain ⟨fs, hr, hrun, hended, hW, hsame⟩ := X14.leave (v := some (.int (1 : Int32))) (fun h => by rw [Bd.returns] at h; cases h)
      refine ⟨_, _, pre0 _ ?_, hrun, hended, _, _, rfl, ?_, ⟨_, rfl⟩, hW, hsame.mono (by decide) (by decide)⟩
      · show Steps p.tables e below (s₁.setTop (mkF m 0 #[.val (.int p1), .val (.int p2), .val (.int p3), .unset, .unset, .unset, .unset, .unset, .unset, .unset, .unset, .unset, .unset, .unset] [])) _
        refine st1 _ ?_
        show Steps p.tables e below (T1.setTop (mkF m 3 #[.val (.int p1), .val (.int p2), .val (.int p3), .unset, .unset, .unset, .unset, .unset, .unset, .unset, .unset, .unset, .unset, .unset] [(.ref b1)])) _
        refine XS.dup X1.here hx rfl (hb hby at_3) rfl rfl ?_
        show Steps p.tables e below (T1.setTop (mkF m 4 #[.val (.int p1), .val (.int p2), .val (.int p3), .unset, .unset, .unset, .unset, .unset, .unset, .unset, .unset, .unset, .unset, .unset] [(.ref b1), (.ref b1)])) _
        refine st2.trans ?_
        show Steps p.tables e below (T2.setTop (mkF m 7 #[.val (.int p1), .val (.int p2), .val (.int p3), .unset, .unset, .unset, .unset, .unset, .unset, .unset, .unset, .unset, .unset, .unset] [(.ref b1)])) _
        refine XS.astoreN X2.here hx rfl (hb hby at_7) rfl rfl (l' := #[.val (.int p1), .val (.int p2), .val (.int p3), .val (.ref b1), .unset, .unset, .unset, .unset, .unset, .unset, .unset, .unset, .unset, .unset]) rfl ?_
        show Steps p.tables e below (T2.setTop (mkF m 8 #[.val (.int p1), .val (.int p2), .val (.int p3), .val (.ref b1), .unset, .unset, .unset, .unset, .unset, .unset, .unset, .unset, .unset, .unset] [])) _
        refine st3 _ ?_
        show Steps p.tables e below (T3.setTop (mkF m 11 #[.val (.int p1), .val (.int p2), .val (.int p3), .val (.ref b1), .unset, .unset, .unset, .unset, .unset, .unset, .unset, .unset, .unset, .unset] [(.ref b3)])) _
        refine XS.dup X3.here hx rfl (hb hby at_11) rfl rfl ?_
        show Steps p.tables e below (T3.setTop (mkF m 12 #[.val (.int p1), .val (.int p2), .val (.int p3), .val (.ref b1), .unset, .unset, .unset, .unset, .unset, .unset, .unset, .unset, .unset, .unset] [(.ref b3), (.ref b3)])) _
        refine st4.trans ?_
        show Steps p.tables e below (T4.setTop (mkF m 15 #[.val (.int p1), .val (.int p2), .val (.int p3), .val (.ref b1), .unset, .unset, .unset, .unset, .unset, .unset, .unset, .unset, .unset, .unset] [(.ref b3)])) _
        refine XS.astore X4.here hx rfl (hb hby at_15) rfl rfl (l' := #[.val (.int p1), .val (.int p2), .val (.int p3), .val (.ref b1), .val (.ref b3), .unset, .unset, .unset, .unset, .unset, .unset, .unset, .unset, .unset]) rfl ?_
        show Steps p.tables e below (T4.setTop (mkF m 17 #[.val (.int p1), .val (.int p2), .val (.int p3), .val (.ref b1), .val (.ref b3), .unset, .unset, .unset, .unset, .unset, .unset, .unset, .unset, .unset] [])) _
        refine XS.iloadN X4.here hx rfl (hb hby at_17) rfl ?_
        show Steps p.tables e below (T4.setTop (mkF m 18 #[.val (.int p1), .val (.int p2), .val (.int p3), .val (.ref b1), .val (.ref b3), .unset, .unset, .unset, .unset, .unset, .unset, .unset, .unset, .unset] [(.int p3)])) _
        refine XS.iconst X4.here hx rfl (hb hby at_18) ?_
        show Steps p.tables e below (T4.setTop (mkF m 19 #[.val (.int p1), .val (.int p2), .val (.int p3), .val (.ref b1), .val (.ref b3), .unset, .unset, .unset, .unset, .unset, .unset, .unset, .unset, .unset] [(.int (1 : Int32)), (.int p3)])) _
        refine XS.iand X4.here hx rfl (hb hby at_19) rfl ?_
        show Steps p.tables e below (T4.setTop (mkF m 20 #[.val (.int p1), .val (.int p2), .val (.int p3), .val (.ref b1), .val (.ref b3), .unset, .unset, .unset, .unset, .unset, .unset, .unset, .unset, .unset] [(.int (p3 &&& (1 : Int32)))])) _
        refine XS.ifNo X4.here hx rfl (hb hby at_20) rfl ((if0 _ _).trans (feq hs1).1) ?_
        show Steps p.tables e below (T4.setTop (mkF m 23 #[.val (.int p1), .val (.int p2), .val (.int p3), .val (.ref b1), .val (.ref b3), .unset, .unset, .unset, .unset, .unset, .unset, .unset, .unset, .unset] [])) _
        refine XS.iconst X4.here hx rfl (hb hby at_23) ?_
        show Steps p.tables e below (T4.setTop (mkF m 24 #[.val (.int p1), .val (.int p2), .val (.int p3), .val (.ref b1), .val (.ref b3), .unset, .unset, .unset, .unset, .unset, .unset, .unset, .unset, .unset] [(.int (1 : Int32))])) _
        refine XS.goto X4.here hx rfl (pc0 := 24) (pc' := 28) rfl (hb hby at_24) (by decide) (by decide) ?_
        show Steps p.tables e below (T4.setTop (mkF m 28 #[.val (.int p1), .val (.int p2), .val (.int p3), .val (.ref b1), .val (.ref b3), .unset, .unset, .unset, .unset, .unset, .unset, .unset, .unset, .unset] [(.int (1 : Int32))])) _
        refine XS.istore X4.here hx rfl (hb hby at_28) rfl (l' := #[.val (.int p1), .val (.int p2), .val (.int p3), .val (.ref b1), .val (.ref b3), .val (.int (1 : Int32)), .unset, .unset, .unset, .unset, .unset, .unset, .unset, .unset]) rfl ?_
        show Steps p.tables e below (T4.setTop (mkF m 30 #[.val (.int p1), .val (.int p2), .val (.int p3), .val (.ref b1), .val (.ref b3), .val (.int (1 : Int32)), .unset, .unset, .unset, .unset, .unset, .unset, .unset, .unset] [])) _
        refine XS.iloadN X4.here hx rfl (hb hby at_30) rfl ?_
        show Steps p.tables e below (T4.setTop (mkF m 31 #[.val (.int p1), .val (.int p2), .val (.int p3), .val (.ref b1), .val (.ref b3), .val (.int (1 : Int32)), .unset, .unset, .unset, .unset, .unset, .unset, .unset, .unset] [(.int p3)])) _
        refine XS.iconst X4.here hx rfl (hb hby at_31) ?_
        show Steps p.tables e below (T4.setTop (mkF m 32 #[.val (.int p1), .val (.int p2), .val (.int p3), .val (.ref b1), .val (.ref b3), .val (.int (1 : Int32)), .unset, .unset, .unset, .unset, .unset, .unset, .unset, .unset] [(.int (2 : Int32)), (.int p3)])) _
        refine XS.iand X4.here hx rfl (hb hby at_32) rfl ?_
        show Steps p.tables e below (T4.setTop (mkF m 33 #[.val (.int p1), .val (.int p2), .val (.int p3), .val (.ref b1), .val (.ref b3), .val (.int (1 : Int32)), .unset, .unset, .unset, .unset, .unset, .unset, .unset, .unset] [(.int (p3 &&& (2 : Int32)))])) _
        refine XS.ifYes X4.here hx rfl (pc0 := 33) (pc' := 40) rfl (hb hby at_33) rfl ((if0 _ _).trans (teq hs2).1) (by decide) (by decide) ?_
        show Steps p.tables e below (T4.setTop (mkF m 40 #[.val (.int p1), .val (.int p2), .val (.int p3), .val (.ref b1), .val (.ref b3), .val (.int (1 : Int32)), .unset, .unset, .unset, .unset, .unset, .unset, .unset, .unset] [])) _
        refine XS.iconst X4.here hx rfl (hb hby at_40) ?_
        show Steps p.tables e below (T4.setTop (mkF m 41 #[.val (.int p1), .val (.int p2), .val (.int p3), .val (.ref b1), .val (.ref b3), .val (.int (1 : Int32)), .unset, .unset, .unset, .unset, .unset, .unset, .unset, .unset] [(.int (0 : Int32))])) _
        refine XS.istore X4.here hx rfl (hb hby at_41) rfl (l' := #[.val (.int p1), .val (.int p2), .val (.int p3), .val (.ref b1), .val (.ref b3), .val (.int (1 : Int32)), .val (.int (0 : Int32)), .unset, .unset, .unset, .unset, .unset, .unset, .unset]) rfl ?_
        show Steps p.tables e below (T4.setTop (mkF m 43 #[.val (.int p1), .val (.int p2), .val (.int p3), .val (.ref b1), .val (.ref b3), .val (.int (1 : Int32)), .val (.int (0 : Int32)), .unset, .unset, .unset, .unset, .unset, .unset, .unset] [])) _
        refine XS.iload X4.here hx rfl (hb hby at_43) rfl ?_
        show Steps p.tables e below (T4.setTop (mkF m 45 #[.val (.int p1), .val (.int p2), .val (.int p3), .val (.ref b1), .val (.ref b3), .val (.int (1 : Int32)), .val (.int (0 : Int32)), .unset, .unset, .unset, .unset, .unset, .unset, .unset] [(.int (1 : Int32))])) _
        refine XS.ifNo X4.here hx rfl (hb hby at_45) rfl ((if0 _ _).trans (feq (by decide : ¬ ((1 : Int32) = (0 : Int32)))).1) ?_
        show Steps p.tables e below (T4.setTop (mkF m 48 #[.val (.int p1), .val (.int p2), .val (.int p3), .val (.ref b1), .val (.ref b3), .val (.int (1 : Int32)), .val (.int (0 : Int32)), .unset, .unset, .unset, .unset, .unset, .unset, .unset] [])) _
        refine XS.iloadN X4.here hx rfl (hb hby at_48) rfl ?_
        show Steps p.tables e below (T4.setTop (mkF m 49 #[.val (.int p1), .val (.int p2), .val (.int p3), .val (.ref b1), .val (.ref b3), .val (.int (1 : Int32)), .val (.int (0 : Int32)), .unset, .unset, .unset, .unset, .unset, .unset, .unset] [(.int p1)])) _
        refine XS.goto X4.here hx rfl (pc0 := 49) (pc' := 55) rfl (hb hby at_49) (by decide) (by decide) ?_
        show Steps p.tables e below (T4.setTop (mkF m 55 #[.val (.int p1), .val (.int p2), .val (.int p3), .val (.ref b1), .val (.ref b3), .val (.int (1 : Int32)), .val (.int (0 : Int32)), .unset, .unset, .unset, .unset, .unset, .unset, .unset] [(.int p1)])) _
        refine XS.istore X4.here hx rfl (hb hby at_55) rfl (l' := #[.val (.int p1), .val (.int p2), .val (.int p3), .val (.ref b1), .val (.ref b3), .val (.int (1 : Int32)), .val (.int (0 : Int32)), .val (.int p1), .unset, .unset, .unset, .unset, .unset, .unset]) rfl ?_
        show Steps p.tables e below (T4.setTop (mkF m 57 #[.val (.int p1), .val (.int p2), .val (.int p3), .val (.ref b1), .val (.ref b3), .val (.int (1 : Int32)), .val (.int (0 : Int32)), .val (.int p1), .unset, .unset, .unset, .unset, .unset, .unset] [])) _
        refine XS.iload X4.here hx rfl (hb hby at_57) rfl ?_
        show Steps p.tables e below (T4.setTop (mkF m 59 #[.val (.int p1), .val (.int p2), .val (.int p3), .val (.ref b1), .val (.ref b3), .val (.int (1 : Int32)), .val (.int (0 : Int32)), .val (.int p1), .unset, .unset, .unset, .unset, .unset, .unset] [(.int (0 : Int32))])) _
        refine XS.ifYes X4.here hx rfl (pc0 := 59) (pc' := 66) rfl (hb hby at_59) rfl ((if0 _ _).trans (teq (by decide : (0 : Int32) = (0 : Int32))).1) (by decide) (by decide) ?_
        show Steps p.tables e below (T4.setTop (mkF m 66 #[.val (.int p1), .val (.int p2), .val (.int p3), .val (.ref b1), .val (.ref b3), .val (.int (1 : Int32)), .val (.int (0 : Int32)), .val (.int p1), .unset, .unset, .unset, .unset, .unset, .unset] [])) _
        refine XS.aload X4.here hx rfl (hb hby at_66) rfl rfl ?_
        show Steps p.tables e below (T4.setTop (mkF m 68 #[.val (.int p1), .val (.int p2), .val (.int p3), .val (.ref b1), .val (.ref b3), .val (.int (1 : Int32)), .val (.int (0 : Int32)), .val (.int p1), .unset, .unset, .unset, .unset, .unset, .unset] [(.ref b3)])) _
        refine XS.astore X4.here hx rfl (hb hby at_68) rfl rfl (l' := #[.val (.int p1), .val (.int p2), .val (.int p3), .val (.ref b1), .val (.ref b3), .val (.int (1 : Int32)), .val (.int (0 : Int32)), .val (.int p1), .val (.ref b3), .unset, .unset, .unset, .unset, .unset]) rfl ?_
        show Steps p.tables e below (T4.setTop (mkF m 70 #[.val (.int p1), .val (.int p2), .val (.int p3), .val (.ref b1), .val (.ref b3), .val (.int (1 : Int32)), .val (.int (0 : Int32)), .val (.int p1), .val (.ref b3), .unset, .unset, .unset, .unset, .unset] [])) _
        refine st5 _ ?_
        show Steps p.tables e below (T5.setTop (mkF m 73 #[.val (.int p1), .val (.int p2), .val (.int p3), .val (.ref b1), .val (.ref b3), .val (.int (1 : Int32)), .val (.int (0 : Int32)), .val (.int p1), .val (.ref b3), .unset, .unset, .unset, .unset, .unset] [(.ref b5)])) _
        refine XS.dup X5.here hx rfl (hb hby at_73) rfl rfl ?_
        show Steps p.tables e below (T5.setTop (mkF m 74 #[.val (.int p1), .val (.int p2), .val (.int p3), .val (.ref b1), .val (.ref b3), .val (.int (1 : Int32)), .val (.int (0 : Int32)), .val (.int p1), .val (.ref b3), .unset, .unset, .unset, .unset, .unset] [(.ref b5), (.ref b5)])) _
        refine XS.aloadN X5.here hx rfl (hb hby at_74) rfl rfl ?_
        show Steps p.tables e below (T5.setTop (mkF m 75 #[.val (.int p1), .val (.int p2), .val (.int p3), .val (.ref b1), .val (.ref b3), .val (.int (1 : Int32)), .val (.int (0 : Int32)), .val (.int p1), .val (.ref b3), .unset, .unset, .unset, .unset, .unset] [(.ref b1), (.ref b5), (.ref b5)])) _
        refine XS.iloadN X5.here hx rfl (hb hby at_75) rfl ?_
        show Steps p.tables e below (T5.setTop (mkF m 76 #[.val (.int p1), .val (.int p2), .val (.int p3), .val (.ref b1), .val (.ref b3), .val (.int (1 : Int32)), .val (.int (0 : Int32)), .val (.int p1), .val (.ref b3), .unset, .unset, .unset, .unset, .unset] [(.int p1), (.ref b1), (.ref b5), (.ref b5)])) _
        refine st6.trans ?_
        show Steps p.tables e below (T6.setTop (mkF m 79 #[.val (.int p1), .val (.int p2), .val (.int p3), .val (.ref b1), .val (.ref b3), .val (.int (1 : Int32)), .val (.int (0 : Int32)), .val (.int p1), .val (.ref b3), .unset, .unset, .unset, .unset, .unset] [(.ref b5)])) _
        refine XS.astore X6.here hx rfl (hb hby at_79) rfl rfl (l' := #[.val (.int p1), .val (.int p2), .val (.int p3), .val (.ref b1), .val (.ref b3), .val (.int (1 : Int32)), .val (.int (0 : Int32)), .val (.int p1), .val (.ref b3), .val (.ref b5), .unset, .unset, .unset, .unset]) rfl ?_
        show Steps p.tables e below (T6.setTop (mkF m 81 #[.val (.int p1), .val (.int p2), .val (.int p3), .val (.ref b1), .val (.ref b3), .val (.int (1 : Int32)), .val (.int (0 : Int32)), .val (.int p1), .val (.ref b3), .val (.ref b5), .unset, .unset, .unset, .unset] [])) _
        refine st7 _ ?_
        show Steps p.tables e below (T7.setTop (mkF m 84 #[.val (.int p1), .val (.int p2), .val (.int p3), .val (.ref b1), .val (.ref b3), .val (.int (1 : Int32)), .val (.int (0 : Int32)), .val (.int p1), .val (.ref b3), .val (.ref b5), .unset, .unset, .unset, .unset] [(.ref b7)])) _
        refine XS.dup X7.here hx rfl (hb hby at_84) rfl rfl ?_
        show Steps p.tables e below (T7.setTop (mkF m 85 #[.val (.int p1), .val (.int p2), .val (.int p3), .val (.ref b1), .val (.ref b3), .val (.int (1 : Int32)), .val (.int (0 : Int32)), .val (.int p1), .val (.ref b3), .val (.ref b5), .unset, .unset, .unset, .unset] [(.ref b7), (.ref b7)])) _
        refine XS.aload X7.here hx rfl (hb hby at_85) rfl rfl ?_
        show Steps p.tables e below (T7.setTop (mkF m 87 #[.val (.int p1), .val (.int p2), .val (.int p3), .val (.ref b1), .val (.ref b3), .val (.int (1 : Int32)), .val (.int (0 : Int32)), .val (.int p1), .val (.ref b3), .val (.ref b5), .unset, .unset, .unset, .unset] [(.ref b3), (.ref b7), (.ref b7)])) _
        refine XS.iload X7.here hx rfl (hb hby at_87) rfl ?_
        show Steps p.tables e below (T7.setTop (mkF m 89 #[.val (.int p1), .val (.int p2), .val (.int p3), .val (.ref b1), .val (.ref b3), .val (.int (1 : Int32)), .val (.int (0 : Int32)), .val (.int p1), .val (.ref b3), .val (.ref b5), .unset, .unset, .unset, .unset] [(.int p1), (.ref b3), (.ref b7), (.ref b7)])) _
        refine st8.trans ?_
        show Steps p.tables e below (T8.setTop (mkF m 92 #[.val (.int p1), .val (.int p2), .val (.int p3), .val (.ref b1), .val (.ref b3), .val (.int (1 : Int32)), .val (.int (0 : Int32)), .val (.int p1), .val (.ref b3), .val (.ref b5), .unset, .unset, .unset, .unset] [(.ref b7)])) _
        refine XS.astore X8.here hx rfl (hb hby at_92) rfl rfl (l' := #[.val (.int p1), .val (.int p2), .val (.int p3), .val (.ref b1), .val (.ref b3), .val (.int (1 : Int32)), .val (.int (0 : Int32)), .val (.int p1), .val (.ref b3), .val (.ref b5), .val (.ref b7), .unset, .unset, .unset]) rfl ?_
        show Steps p.tables e below (T8.setTop (mkF m 94 #[.val (.int p1), .val (.int p2), .val (.int p3), .val (.ref b1), .val (.ref b3), .val (.int (1 : Int32)), .val (.int (0 : Int32)), .val (.int p1), .val (.ref b3), .val (.ref b5), .val (.ref b7), .unset, .unset, .unset] [])) _
        refine XS.iload X8.here hx rfl (hb hby at_94) rfl ?_
        show Steps p.tables e below (T8.setTop (mkF m 96 #[.val (.int p1), .val (.int p2), .val (.int p3), .val (.ref b1), .val (.ref b3), .val (.int (1 : Int32)), .val (.int (0 : Int32)), .val (.int p1), .val (.ref b3), .val (.ref b5), .val (.ref b7), .unset, .unset, .unset] [(.int (0 : Int32))])) _
        refine XS.ifYes X8.here hx rfl (pc0 := 96) (pc' := 109) rfl (hb hby at_96) rfl ((if0 _ _).trans (teq (by decide : (0 : Int32) = (0 : Int32))).1) (by decide) (by decide) ?_
        show Steps p.tables e below (T8.setTop (mkF m 109 #[.val (.int p1), .val (.int p2), .val (.int p3), .val (.ref b1), .val (.ref b3), .val (.int (1 : Int32)), .val (.int (0 : Int32)), .val (.int p1), .val (.ref b3), .val (.ref b5), .val (.ref b7), .unset, .unset, .unset] [])) _
        refine XS.iconst X8.here hx rfl (hb hby at_109) ?_
        show Steps p.tables e below (T8.setTop (mkF m 110 #[.val (.int p1), .val (.int p2), .val (.int p3), .val (.ref b1), .val (.ref b3), .val (.int (1 : Int32)), .val (.int (0 : Int32)), .val (.int p1), .val (.ref b3), .val (.ref b5), .val (.ref b7), .unset, .unset, .unset] [(.int (0 : Int32))])) _
        refine XS.istore X8.here hx rfl (hb hby at_110) rfl (l' := #[.val (.int p1), .val (.int p2), .val (.int p3), .val (.ref b1), .val (.ref b3), .val (.int (1 : Int32)), .val (.int (0 : Int32)), .val (.int p1), .val (.ref b3), .val (.ref b5), .val (.ref b7), .val (.int (0 : Int32)), .unset, .unset]) rfl ?_
        show Steps p.tables e below (T8.setTop (mkF m 112 #[.val (.int p1), .val (.int p2), .val (.int p3), .val (.ref b1), .val (.ref b3), .val (.int (1 : Int32)), .val (.int (0 : Int32)), .val (.int p1), .val (.ref b3), .val (.ref b5), .val (.ref b7), .val (.int (0 : Int32)), .unset, .unset] [])) _
        refine XS.iloadN X8.here hx rfl (hb hby at_112) rfl ?_
        show Steps p.tables e below (T8.setTop (mkF m 113 #[.val (.int p1), .val (.int p2), .val (.int p3), .val (.ref b1), .val (.ref b3), .val (.int (1 : Int32)), .val (.int (0 : Int32)), .val (.int p1), .val (.ref b3), .val (.ref b5), .val (.ref b7), .val (.int (0 : Int32)), .unset, .unset] [(.int p1)])) _
        refine st9 _ ?_
        show Steps p.tables e below (T9.setTop (mkF m 116 #[.val (.int p1), .val (.int p2), .val (.int p3), .val (.ref b1), .val (.ref b3), .val (.int (1 : Int32)), .val (.int (0 : Int32)), .val (.int p1), .val (.ref b3), .val (.ref b5), .val (.ref b7), .val (.int (0 : Int32)), .unset, .unset] [(.ref bx9)])) _
        refine XS.astore X9.here hx rfl (hb hby at_116) rfl rfl (l' := #[.val (.int p1), .val (.int p2), .val (.int p3), .val (.ref b1), .val (.ref b3), .val (.int (1 : Int32)), .val (.int (0 : Int32)), .val (.int p1), .val (.ref b3), .val (.ref b5), .val (.ref b7), .val (.int (0 : Int32)), .val (.ref bx9), .unset]) rfl ?_
        show Steps p.tables e below (T9.setTop (mkF m 118 #[.val (.int p1), .val (.int p2), .val (.int p3), .val (.ref b1), .val (.ref b3), .val (.int (1 : Int32)), .val (.int (0 : Int32)), .val (.int p1), .val (.ref b3), .val (.ref b5), .val (.ref b7), .val (.int (0 : Int32)), .val (.ref bx9), .unset] [])) _
        refine XS.aconstNull X9.here hx rfl (hb hby at_118) ?_
        show Steps p.tables e below (T9.setTop (mkF m 119 #[.val (.int p1), .val (.int p2), .val (.int p3), .val (.ref b1), .val (.ref b3), .val (.int (1 : Int32)), .val (.int (0 : Int32)), .val (.int p1), .val (.ref b3), .val (.ref b5), .val (.ref b7), .val (.int (0 : Int32)), .val (.ref bx9), .unset] [.null])) _
        refine XS.astore X9.here hx rfl (hb hby at_119) rfl rfl (l' := #[.val (.int p1), .val (.int p2), .val (.int p3), .val (.ref b1), .val (.ref b3), .val (.int (1 : Int32)), .val (.int (0 : Int32)), .val (.int p1), .val (.ref b3), .val (.ref b5), .val (.ref b7), .val (.int (0 : Int32)), .val (.ref bx9), .val .null]) rfl ?_
        show Steps p.tables e below (T9.setTop (mkF m 121 #[.val (.int p1), .val (.int p2), .val (.int p3), .val (.ref b1), .val (.ref b3), .val (.int (1 : Int32)), .val (.int (0 : Int32)), .val (.int p1), .val (.ref b3), .val (.ref b5), .val (.ref b7), .val (.int (0 : Int32)), .val (.ref bx9), .val .null] [])) _
        refine XS.aload X9.here hx rfl (hb hby at_121) rfl rfl ?_
        show Steps p.tables e below (T9.setTop (mkF m 123 #[.val (.int p1), .val (.int p2), .val (.int p3), .val (.ref b1), .val (.ref b3), .val (.int (1 : Int32)), .val (.int (0 : Int32)), .val (.int p1), .val (.ref b3), .val (.ref b5), .val (.ref b7), .val (.int (0 : Int32)), .val (.ref bx9), .val .null] [(.ref b5)])) _
        refine XS.aload X9.here hx rfl (hb hby at_123) rfl rfl ?_
        show Steps p.tables e below (T9.setTop (mkF m 125 #[.val (.int p1), .val (.int p2), .val (.int p3), .val (.ref b1), .val (.ref b3), .val (.int (1 : Int32)), .val (.int (0 : Int32)), .val (.int p1), .val (.ref b3), .val (.ref b5), .val (.ref b7), .val (.int (0 : Int32)), .val (.ref bx9), .val .null] [(.ref b7), (.ref b5)])) _
        refine st10.trans ?_
        show Steps p.tables e below (T10.setTop (mkF m 128 #[.val (.int p1), .val (.int p2), .val (.int p3), .val (.ref b1), .val (.ref b3), .val (.int (1 : Int32)), .val (.int (0 : Int32)), .val (.int p1), .val (.ref b3), .val (.ref b5), .val (.ref b7), .val (.int (0 : Int32)), .val (.ref bx9), .val .null] [(.int (0 : Int32))])) _
        refine XS.iload X10.here hx rfl (hb hby at_128) rfl ?_
        show Steps p.tables e below (T10.setTop (mkF m 130 #[.val (.int p1), .val (.int p2), .val (.int p3), .val (.ref b1), .val (.ref b3), .val (.int (1 : Int32)), .val (.int (0 : Int32)), .val (.int p1), .val (.ref b3), .val (.ref b5), .val (.ref b7), .val (.int (0 : Int32)), .val (.ref bx9), .val .null] [(.int (0 : Int32)), (.int (0 : Int32))])) _
        refine XS.icmpNo X10.here hx rfl (hb hby at_130) rfl (teq (by decide : (0 : Int32) = (0 : Int32))).2 ?_
        show Steps p.tables e below (T10.setTop (mkF m 133 #[.val (.int p1), .val (.int p2), .val (.int p3), .val (.ref b1), .val (.ref b3), .val (.int (1 : Int32)), .val (.int (0 : Int32)), .val (.int p1), .val (.ref b3), .val (.ref b5), .val (.ref b7), .val (.int (0 : Int32)), .val (.ref bx9), .val .null] [])) _
        refine XS.aload X10.here hx rfl (hb hby at_133) rfl rfl ?_
        show Steps p.tables e below (T10.setTop (mkF m 135 #[.val (.int p1), .val (.int p2), .val (.int p3), .val (.ref b1), .val (.ref b3), .val (.int (1 : Int32)), .val (.int (0 : Int32)), .val (.int p1), .val (.ref b3), .val (.ref b5), .val (.ref b7), .val (.int (0 : Int32)), .val (.ref bx9), .val .null] [(.ref b7)])) _
        refine XS.aload X10.here hx rfl (hb hby at_135) rfl rfl ?_
        show Steps p.tables e below (T10.setTop (mkF m 137 #[.val (.int p1), .val (.int p2), .val (.int p3), .val (.ref b1), .val (.ref b3), .val (.int (1 : Int32)), .val (.int (0 : Int32)), .val (.int p1), .val (.ref b3), .val (.ref b5), .val (.ref b7), .val (.int (0 : Int32)), .val (.ref bx9), .val .null] [(.ref b5), (.ref b7)])) _
        refine st11.trans ?_
        show Steps p.tables e below (T11.setTop (mkF m 140 #[.val (.int p1), .val (.int p2), .val (.int p3), .val (.ref b1), .val (.ref b3), .val (.int (1 : Int32)), .val (.int (0 : Int32)), .val (.int p1), .val (.ref b3), .val (.ref b5), .val (.ref b7), .val (.int (0 : Int32)), .val (.ref bx9), .val .null] [(.int (0 : Int32))])) _
        refine XS.iload X11.here hx rfl (hb hby at_140) rfl ?_
        show Steps p.tables e below (T11.setTop (mkF m 142 #[.val (.int p1), .val (.int p2), .val (.int p3), .val (.ref b1), .val (.ref b3), .val (.int (1 : Int32)), .val (.int (0 : Int32)), .val (.int p1), .val (.ref b3), .val (.ref b5), .val (.ref b7), .val (.int (0 : Int32)), .val (.ref bx9), .val .null] [(.int (0 : Int32)), (.int (0 : Int32))])) _
        refine XS.icmpNo X11.here hx rfl (hb hby at_142) rfl (teq (by decide : (0 : Int32) = (0 : Int32))).2 ?_
        show Steps p.tables e below (T11.setTop (mkF m 145 #[.val (.int p1), .val (.int p2), .val (.int p3), .val (.ref b1), .val (.ref b3), .val (.int (1 : Int32)), .val (.int (0 : Int32)), .val (.int p1), .val (.ref b3), .val (.ref b5), .val (.ref b7), .val (.int (0 : Int32)), .val (.ref bx9), .val .null] [])) _
        refine XS.aload X11.here hx rfl (hb hby at_145) rfl rfl ?_
        show Steps p.tables e below (T11.setTop (mkF m 147 #[.val (.int p1), .val (.int p2), .val (.int p3), .val (.ref b1), .val (.ref b3), .val (.int (1 : Int32)), .val (.int (0 : Int32)), .val (.int p1), .val (.ref b3), .val (.ref b5), .val (.ref b7), .val (.int (0 : Int32)), .val (.ref bx9), .val .null] [(.ref b5)])) _
        refine XS.aload X11.here hx rfl (hb hby at_147) rfl rfl ?_
        show Steps p.tables e below (T11.setTop (mkF m 149 #[.val (.int p1), .val (.int p2), .val (.int p3), .val (.ref b1), .val (.ref b3), .val (.int (1 : Int32)), .val (.int (0 : Int32)), .val (.int p1), .val (.ref b3), .val (.ref b5), .val (.ref b7), .val (.int (0 : Int32)), .val (.ref bx9), .val .null] [(.ref b5), (.ref b5)])) _
        refine st12.trans ?_
        show Steps p.tables e below (T12.setTop (mkF m 152 #[.val (.int p1), .val (.int p2), .val (.int p3), .val (.ref b1), .val (.ref b3), .val (.int (1 : Int32)), .val (.int (0 : Int32)), .val (.int p1), .val (.ref b3), .val (.ref b5), .val (.ref b7), .val (.int (0 : Int32)), .val (.ref bx9), .val .null] [(.int (1 : Int32))])) _
        refine XS.ifNo X12.here hx rfl (hb hby at_152) rfl ((if0 _ _).trans (feq (by decide : ¬ ((1 : Int32) = (0 : Int32)))).1) ?_
        show Steps p.tables e below (T12.setTop (mkF m 155 #[.val (.int p1), .val (.int p2), .val (.int p3), .val (.ref b1), .val (.ref b3), .val (.int (1 : Int32)), .val (.int (0 : Int32)), .val (.int p1), .val (.ref b3), .val (.ref b5), .val (.ref b7), .val (.int (0 : Int32)), .val (.ref bx9), .val .null] [])) _
        refine XS.aload X12.here hx rfl (hb hby at_155) rfl rfl ?_
        show Steps p.tables e below (T12.setTop (mkF m 157 #[.val (.int p1), .val (.int p2), .val (.int p3), .val (.ref b1), .val (.ref b3), .val (.int (1 : Int32)), .val (.int (0 : Int32)), .val (.int p1), .val (.ref b3), .val (.ref b5), .val (.ref b7), .val (.int (0 : Int32)), .val (.ref bx9), .val .null] [(.ref b5)])) _
        refine XS.aload X12.here hx rfl (hb hby at_157) rfl rfl ?_
        show Steps p.tables e below (T12.setTop (mkF m 159 #[.val (.int p1), .val (.int p2), .val (.int p3), .val (.ref b1), .val (.ref b3), .val (.int (1 : Int32)), .val (.int (0 : Int32)), .val (.int p1), .val (.ref b3), .val (.ref b5), .val (.ref b7), .val (.int (0 : Int32)), .val (.ref bx9), .val .null] [(.ref bx9), (.ref b5)])) _
        refine st13.trans ?_
        show Steps p.tables e below (T13.setTop (mkF m 162 #[.val (.int p1), .val (.int p2), .val (.int p3), .val (.ref b1), .val (.ref b3), .val (.int (1 : Int32)), .val (.int (0 : Int32)), .val (.int p1), .val (.ref b3), .val (.ref b5), .val (.ref b7), .val (.int (0 : Int32)), .val (.ref bx9), .val .null] [(.int (0 : Int32))])) _
        refine XS.ifNo X13.here hx rfl (hb hby at_162) rfl ((if0 _ _).trans (teq (by decide : (0 : Int32) = (0 : Int32))).2) ?_
        show Steps p.tables e below (T13.setTop (mkF m 165 #[.val (.int p1), .val (.int p2), .val (.int p3), .val (.ref b1), .val (.ref b3), .val (.int (1 : Int32)), .val (.int (0 : Int32)), .val (.int p1), .val (.ref b3), .val (.ref b5), .val (.ref b7), .val (.int (0 : Int32)), .val (.ref bx9), .val .null] [])) _
        refine XS.aload X13.here hx rfl (hb hby at_165) rfl rfl ?_
        show Steps p.tables e below (T13.setTop (mkF m 167 #[.val (.int p1), .val (.int p2), .val (.int p3), .val (.ref b1), .val (.ref b3), .val (.int (1 : Int32)), .val (.int (0 : Int32)), .val (.int p1), .val (.ref b3), .val (.ref b5), .val (.ref b7), .val (.int (0 : Int32)), .val (.ref bx9), .val .null] [(.ref b5)])) _
        refine XS.aload X13.here hx rfl (hb hby at_167) rfl rfl ?_
        show Steps p.tables e below (T13.setTop (mkF m 169 #[.val (.int p1), .val (.int p2), .val (.int p3), .val (.ref b1), .val (.ref b3), .val (.int (1 : Int32)), .val (.int (0 : Int32)), .val (.int p1), .val (.ref b3), .val (.ref b5), .val (.ref b7), .val (.int (0 : Int32)), .val (.ref bx9), .val .null] [.null, (.ref b5)])) _
        refine st14.trans ?_
        show Steps p.tables e below (T14.setTop (mkF m 172 #[.val (.int p1), .val (.int p2), .val (.int p3), .val (.ref b1), .val (.ref b3), .val (.int (1 : Int32)), .val (.int (0 : Int32)), .val (.int p1), .val (.ref b3), .val (.ref b5), .val (.ref b7), .val (.int (0 : Int32)), .val (.ref bx9), .val .null] [(.int (0 : Int32))])) _
        refine XS.ifNo X14.here hx rfl (hb hby at_172) rfl ((if0 _ _).trans (teq (by decide : (0 : Int32) = (0 : Int32))).2) ?_
        show Steps p.tables e below (T14.setTop (mkF m 175 #[.val (.int p1), .val (.int p2), .val (.int p3), .val (.ref b1), .val (.ref b3), .val (.int (1 : Int32)), .val (.int (0 : Int32)), .val (.int p1), .val (.ref b3), .val (.ref b5), .val (.ref b7), .val (.int (0 : Int32)), .val (.ref bx9), .val .null] [])) _
        refine XS.iconst X14.here hx rfl (hb hby at_175) ?_
        show Steps p.tables e below (T14.setTop (mkF m 176 #[.val (.int p1), .val (.int p2), .val (.int p3), .val (.ref b1), .val (.ref b3), .val (.int (1 : Int32)), .val (.int (0 : Int32)), .val (.int p1), .val (.ref b3), .val (.ref b5), .val (.ref b7), .val (.int (0 : Int32)), .val (.ref bx9), .val .null] [(.int (1 : Int32))])) _
        refine XS.goto X14.here hx rfl (pc0 := 176) (pc' := 180) rfl (hb hby at_176) (by decide) (by decide) ?_
        show Steps p.tables e below (T14.setTop (mkF m 180 #[.val (.int p1), .val (.int p2), .val (.int p3), .val (.ref b1), .val (.ref b3), .val (.int (1 : Int32)), .val (.int (0 : Int32)), .val (.int p1), .val (.ref b3), .val (.ref b5), .val (.ref b7), .val (.int (0 : Int32)), .val (.ref bx9), .val .null] [(.int (1 : Int32))])) _
        exact retN X14 hx (t := .boolean) Bd.returns (by simp) (hb hby at_180) hr
      · show Q_rm0 Z p1 p2 p3 ca h0 n0 _ T14.heap _
        rw [e14]
        exact ⟨rfl, N14⟩
    · obtain ⟨T1, h1, X1, e1, E1, A1, D1, -, st1⟩ := newO X0 hx hZ hown (hw _ (List.mem_of_getElem? (i := 0) rfl)) (hw _ (List.mem_of_getElem? (i := 1) rfl)) (hw _ (List.mem_of_getElem? (i := 2) rfl)) e0 (g := (mkF m 0 #[.val (.int p1), .val (.int p2), .val (.int p3), .unset, .unset, .unset, .unset, .unset, .unset, .unset, .unset, .unset, .unset, .unset] [])) rfl (hb hby at_0) (by decide) (by decide)
      obtain ⟨b1, g1⟩ : ∃ z, z = h0.size := ⟨_, rfl⟩
      rw [← g1] at A1 D1 st1
      have ge_b1 : n0 ≤ b1 := Nat.le_trans Z0 (Nat.le_of_eq g1.symm)
      have sz_b1 : h0.size ≤ b1 := Nat.le_trans (Keep.refl h0 []).1 (Nat.le_of_eq g1.symm)
      have Z1 : n0 ≤ h1.size := Nat.le_trans Z0 E1.1
      have Kp1 : Keep h0 h1 [] := (Keep.refl h0 []).ext E1
      have F_variableOf_b1 : Fld Z h1 b1 "com/example/brevi/brevi/bdd/BddManager" "variableOf" "[I" .null := D1 (Or.inl (hw _ (List.mem_of_getElem? (i := 15) rfl))) (ty := (.array .int)) (by decide)
      have F_lowOf_b1 : Fld Z h1 b1 "com/example/brevi/brevi/bdd/BddManager" "lowOf" "[I" .null := D1 (Or.inl (hw _ (List.mem_of_getElem? (i := 17) rfl))) (ty := (.array .int)) (by decide)
      have F_highOf_b1 : Fld Z h1 b1 "com/example/brevi/brevi/bdd/BddManager" "highOf" "[I" .null := D1 (Or.inl (hw _ (List.mem_of_getElem? (i := 19) rfl))) (ty := (.array .int)) (by decide)
      have F_nextInBucket_b1 : Fld Z h1 b1 "com/example/brevi/brevi/bdd/BddManager" "nextInBucket" "[I" .null := D1 (Or.inl (hw _ (List.mem_of_getElem? (i := 21) rfl))) (ty := (.array .int)) (by decide)
      have F_bucketHead_b1 : Fld Z h1 b1 "com/example/brevi/brevi/bdd/BddManager" "bucketHead" "[I" .null := D1 (Or.inl (hw _ (List.mem_of_getElem? (i := 23) rfl))) (ty := (.array .int)) (by decide)
      have F_cacheOperation_b1 : Fld Z h1 b1 "com/example/brevi/brevi/bdd/BddManager" "cacheOperation" "[I" .null := D1 (Or.inl (hw _ (List.mem_of_getElem? (i := 33) rfl))) (ty := (.array .int)) (by decide)
      have F_cacheFirst_b1 : Fld Z h1 b1 "com/example/brevi/brevi/bdd/BddManager" "cacheFirst" "[I" .null := D1 (Or.inl (hw _ (List.mem_of_getElem? (i := 35) rfl))) (ty := (.array .int)) (by decide)
      have F_cacheSecond_b1 : Fld Z h1 b1 "com/example/brevi/brevi/bdd/BddManager" "cacheSecond" "[I" .null := D1 (Or.inl (hw _ (List.mem_of_getElem? (i := 37) rfl))) (ty := (.array .int)) (by decide)
      have F_cacheThird_b1 : Fld Z h1 b1 "com/example/brevi/brevi/bdd/BddManager" "cacheThird" "[I" .null := D1 (Or.inl (hw _ (List.mem_of_getElem? (i := 39) rfl))) (ty := (.array .int)) (by decide)
      have F_cacheResult_b1 : Fld Z h1 b1 "com/example/brevi/brevi/bdd/BddManager" "cacheResult" "[I" .null := D1 (Or.inl (hw _ (List.mem_of_getElem? (i := 41) rfl))) (ty := (.array .int)) (by decide)
      have F_nodeCount_b1 : Fld Z h1 b1 "com/example/brevi/brevi/bdd/BddManager" "nodeCount" "I" (.int (0 : Int32)) := D1 (Or.inl (hw _ (List.mem_of_getElem? (i := 48) rfl))) (ty := .int) (by decide)
      have F_falseBdd_b1 : Fld Z h1 b1 "com/example/brevi/brevi/bdd/BddManager" "falseBdd" "Lcom/example/brevi/brevi/bdd/Bdd;" .null := D1 (Or.inr (hw _ (List.mem_of_getElem? (i := 61) rfl))) (ty := (.object "com/example/brevi/brevi/bdd/Bdd")) (by decide)
      have F_trueBdd_b1 : Fld Z h1 b1 "com/example/brevi/brevi/bdd/BddManager" "trueBdd" "Lcom/example/brevi/brevi/bdd/Bdd;" .null := D1 (Or.inr (hw _ (List.mem_of_getElem? (i := 63) rfl))) (ty := (.object "com/example/brevi/brevi/bdd/Bdd")) (by decide)
      obtain ⟨_, _, ⟨T2, L2, k2, n2⟩, -, X2, ⟨Lc2, hQ2, l2, y2, z2⟩, st2⟩ := X1.specialBack hx (y := (⟨"com/example/brevi/brevi/bdd/BddManager", "<init>", "()V"⟩ : MethodName)) rfl hown (mvT hZ (hw _ (List.mem_of_getElem? (i := 3) rfl))) (mvT hZ (hw _ (List.mem_of_getElem? (i := 4) rfl))) (mvT hZ (hw _ (List.mem_of_getElem? (i := 5) rfl))) (by decide) (backOf (W := 1) (rmM l Z a0 hw [] b1 h1 n0 Z1 A1 F_variableOf_b1 F_lowOf_b1 F_highOf_b1 F_nextInBucket_b1 F_bucketHead_b1 F_cacheOperation_b1 F_cacheFirst_b1 F_cacheSecond_b1 F_cacheThird_b1 F_cacheResult_b1 F_nodeCount_b1 F_falseBdd_b1 F_trueBdd_b1 ge_b1) hZ (hw _ (List.mem_of_getElem? (i := 5) rfl)) (hw _ (List.mem_of_getElem? (i := 2) rfl)) (by decide) (by decide)) (g := (mkF m 4 #[.val (.int p1), .val (.int p2), .val (.int p3), .unset, .unset, .unset, .unset, .unset, .unset, .unset, .unset, .unset, .unset, .unset] [(.ref b1), (.ref b1)])) rfl (by rw [hml]; rfl) (Steps.refl _) (a := b1) (argsL := []) (rest := [(.ref b1)]) (lenOf pd_0 rfl) rfl (by show 2 * 0 + _ ≤ _; exact Nat.le_of_eq rfl) (hb hby at_4) (fun _ _ => ⟨rfl, e1, (by decide : 1 + 12 ≤ _), (by decide : 15 + 40964 ≤ _)⟩)
      dsimp only [Pt.U, Pt.locs, Pt.cells, Pt.slots] at X2 l2 y2 z2 st2 hQ2
      subst l2 y2 z2
      obtain ⟨rfl, Nq2, K2⟩ := hQ2
      have A1_2 := A1.keep K2
      have Z2 : n0 ≤ T2.heap.size := Nat.le_trans Z1 K2.1
      have Kp2 : Keep h0 T2.heap [] := Kp1.trans K2 (allS (Or.inr sz_b1) all0)
      have N2 := Fr.app N0 Nq2
      obtain ⟨T3, h3, X3, e3, E3, A3, D3, -, st3⟩ := newO X2 hx hZ hown (hw _ (List.mem_of_getElem? (i := 0) rfl)) (hw _ (List.mem_of_getElem? (i := 1) rfl)) (hw _ (List.mem_of_getElem? (i := 2) rfl)) rfl (g := (mkF m 8 #[.val (.int p1), .val (.int p2), .val (.int p3), .val (.ref b1), .unset, .unset, .unset, .unset, .unset, .unset, .unset, .unset, .unset, .unset] [])) rfl (hb hby at_8) (by decide) (by decide)
      obtain ⟨b3, g3⟩ : ∃ z, z = T2.heap.size := ⟨_, rfl⟩
      rw [← g3] at A3 D3 st3
      have ne_b1_b3 : b1 ≠ b3 := Nat.ne_of_lt (Nat.lt_of_lt_of_eq A1_2.lt g3.symm)
      have ge_b3 : n0 ≤ b3 := Nat.le_trans Z2 (Nat.le_of_eq g3.symm)
      have sz_b3 : h0.size ≤ b3 := Nat.le_trans Kp2.1 (Nat.le_of_eq g3.symm)
      have A1_3 := A1_2.ext E3
      have Z3 : n0 ≤ h3.size := Nat.le_trans Z2 E3.1
      have Kp3 : Keep h0 h3 [] := Kp2.ext E3
      have F_variableOf_b3 : Fld Z h3 b3 "com/example/brevi/brevi/bdd/BddManager" "variableOf" "[I" .null := D3 (Or.inl (hw _ (List.mem_of_getElem? (i := 15) rfl))) (ty := (.array .int)) (by decide)
      have F_lowOf_b3 : Fld Z h3 b3 "com/example/brevi/brevi/bdd/BddManager" "lowOf" "[I" .null := D3 (Or.inl (hw _ (List.mem_of_getElem? (i := 17) rfl))) (ty := (.array .int)) (by decide)
      have F_highOf_b3 : Fld Z h3 b3 "com/example/brevi/brevi/bdd/BddManager" "highOf" "[I" .null := D3 (Or.inl (hw _ (List.mem_of_getElem? (i := 19) rfl))) (ty := (.array .int)) (by decide)
      have F_nextInBucket_b3 : Fld Z h3 b3 "com/example/brevi/brevi/bdd/BddManager" "nextInBucket" "[I" .null := D3 (Or.inl (hw _ (List.mem_of_getElem? (i := 21) rfl))) (ty := (.array .int)) (by decide)
      have F_bucketHead_b3 : Fld Z h3 b3 "com/example/brevi/brevi/bdd/BddManager" "bucketHead" "[I" .null := D3 (Or.inl (hw _ (List.mem_of_getElem? (i := 23) rfl))) (ty := (.array .int)) (by decide)
      have F_cacheOperation_b3 : Fld Z h3 b3 "com/example/brevi/brevi/bdd/BddManager" "cacheOperation" "[I" .null := D3 (Or.inl (hw _ (List.mem_of_getElem? (i := 33) rfl))) (ty := (.array .int)) (by decide)
      have F_cacheFirst_b3 : Fld Z h3 b3 "com/example/brevi/brevi/bdd/BddManager" "cacheFirst" "[I" .null := D3 (Or.inl (hw _ (List.mem_of_getElem? (i := 35) rfl))) (ty := (.array .int)) (by decide)
      have F_cacheSecond_b3 : Fld Z h3 b3 "com/example/brevi/brevi/bdd/BddManager" "cacheSecond" "[I" .null := D3 (Or.inl (hw _ (List.mem_of_getElem? (i := 37) rfl))) (ty := (.array .int)) (by decide)
      have F_cacheThird_b3 : Fld Z h3 b3 "com/example/brevi/brevi/bdd/BddManager" "cacheThird" "[I" .null := D3 (Or.inl (hw _ (List.mem_of_getElem? (i := 39) rfl))) (ty := (.array .int)) (by decide)
      have F_cacheResult_b3 : Fld Z h3 b3 "com/example/brevi/brevi/bdd/BddManager" "cacheResult" "[I" .null := D3 (Or.inl (hw _ (List.mem_of_getElem? (i := 41) rfl))) (ty := (.array .int)) (by decide)
      have F_nodeCount_b3 : Fld Z h3 b3 "com/example/brevi/brevi/bdd/BddManager" "nodeCount" "I" (.int (0 : Int32)) := D3 (Or.inl (hw _ (List.mem_of_getElem? (i := 48) rfl))) (ty := .int) (by decide)
      have F_falseBdd_b3 : Fld Z h3 b3 "com/example/brevi/brevi/bdd/BddManager" "falseBdd" "Lcom/example/brevi/brevi/bdd/Bdd;" .null := D3 (Or.inr (hw _ (List.mem_of_getElem? (i := 61) rfl))) (ty := (.object "com/example/brevi/brevi/bdd/Bdd")) (by decide)
      have F_trueBdd_b3 : Fld Z h3 b3 "com/example/brevi/brevi/bdd/BddManager" "trueBdd" "Lcom/example/brevi/brevi/bdd/Bdd;" .null := D3 (Or.inr (hw _ (List.mem_of_getElem? (i := 63) rfl))) (ty := (.object "com/example/brevi/brevi/bdd/Bdd")) (by decide)
      obtain ⟨_, _, ⟨T4, L4, k4, n4⟩, -, X4, ⟨Lc4, hQ4, l4, y4, z4⟩, st4⟩ := X3.specialBack hx (y := (⟨"com/example/brevi/brevi/bdd/BddManager", "<init>", "()V"⟩ : MethodName)) rfl hown (mvT hZ (hw _ (List.mem_of_getElem? (i := 3) rfl))) (mvT hZ (hw _ (List.mem_of_getElem? (i := 4) rfl))) (mvT hZ (hw _ (List.mem_of_getElem? (i := 5) rfl))) (by decide) (backOf (W := 1) (rmM l Z a0 hw [] b3 h3 n0 Z3 A3 F_variableOf_b3 F_lowOf_b3 F_highOf_b3 F_nextInBucket_b3 F_bucketHead_b3 F_cacheOperation_b3 F_cacheFirst_b3 F_cacheSecond_b3 F_cacheThird_b3 F_cacheResult_b3 F_nodeCount_b3 F_falseBdd_b3 F_trueBdd_b3 ge_b3) hZ (hw _ (List.mem_of_getElem? (i := 5) rfl)) (hw _ (List.mem_of_getElem? (i := 2) rfl)) (by decide) (by decide)) (g := (mkF m 12 #[.val (.int p1), .val (.int p2), .val (.int p3), .val (.ref b1), .unset, .unset, .unset, .unset, .unset, .unset, .unset, .unset, .unset, .unset] [(.ref b3), (.ref b3)])) rfl (by rw [hml]; rfl) (Steps.refl _) (a := b3) (argsL := []) (rest := [(.ref b3)]) (lenOf pd_0 rfl) rfl (by show 2 * 0 + _ ≤ _; exact Nat.le_of_eq rfl) (hb hby at_12) (fun _ _ => ⟨rfl, e3, (by decide : 14 + 12 ≤ _), (by decide : 40994 + 40964 ≤ _)⟩)
      dsimp only [Pt.U, Pt.locs, Pt.cells, Pt.slots] at X4 l4 y4 z4 st4 hQ4
      subst l4 y4 z4
      obtain ⟨rfl, Nq4, K4⟩ := hQ4
      have A1_4 := A1_3.keep K4
      have A3_4 := A3.keep K4
      have Z4 : n0 ≤ T4.heap.size := Nat.le_trans Z3 K4.1
      have Kp4 : Keep h0 T4.heap [] := Kp3.trans K4 (allS (Or.inr sz_b3) all0)
      have N4 := Fr.app N2 Nq4
      obtain ⟨T5, h5, X5, e5, E5, A5, D5, -, st5⟩ := newO X4 hx hZ hown (hw _ (List.mem_of_getElem? (i := 64) rfl)) (hw _ (List.mem_of_getElem? (i := 50) rfl)) (hw _ (List.mem_of_getElem? (i := 51) rfl)) rfl (g := (mkF m 70 #[.val (.int p1), .val (.int p2), .val (.int p3), .val (.ref b1), .val (.ref b3), .val (.int (1 : Int32)), .val (.int (1 : Int32)), .val (.int p1), .val (.ref b1), .unset, .unset, .unset, .unset, .unset] [])) rfl (hb hby at_70) (by decide) (by decide)
      obtain ⟨b5, g5⟩ : ∃ z, z = T4.heap.size := ⟨_, rfl⟩
      rw [← g5] at A5 D5 st5
      have ne_b1_b5 : b1 ≠ b5 := Nat.ne_of_lt (Nat.lt_of_lt_of_eq A1_4.lt g5.symm)
      have ne_b3_b5 : b3 ≠ b5 := Nat.ne_of_lt (Nat.lt_of_lt_of_eq A3_4.lt g5.symm)
      have ge_b5 : n0 ≤ b5 := Nat.le_trans Z4 (Nat.le_of_eq g5.symm)
      have sz_b5 : h0.size ≤ b5 := Nat.le_trans Kp4.1 (Nat.le_of_eq g5.symm)
      have A1_5 := A1_4.ext E5
      have A3_5 := A3_4.ext E5
      have Z5 : n0 ≤ h5.size := Nat.le_trans Z4 E5.1
      have Kp5 : Keep h0 h5 [] := Kp4.ext E5
      have F_manager_b5 : Fld Z h5 b5 "com/example/brevi/brevi/bdd/Bdd" "manager" "Lcom/example/brevi/brevi/bdd/BddManager;" .null := D5 (Or.inr (hw _ (List.mem_of_getElem? (i := 57) rfl))) (ty := (.object "com/example/brevi/brevi/bdd/BddManager")) (by decide)
      have F_node_b5 : Fld Z h5 b5 "com/example/brevi/brevi/bdd/Bdd" "node" "I" (.int (0 : Int32)) := D5 (Or.inr (hw _ (List.mem_of_getElem? (i := 59) rfl))) (ty := .int) (by decide)
      obtain ⟨_, _, ⟨T6, L6, k6, n6⟩, -, X6, ⟨Lc6, hQ6, l6, y6, z6⟩, st6⟩ := X5.specialBack hx (y := (⟨"com/example/brevi/brevi/bdd/Bdd", "<init>", "(Lcom/example/brevi/brevi/bdd/BddManager;I)V"⟩ : MethodName)) rfl hown (mvT hZ (hw _ (List.mem_of_getElem? (i := 65) rfl))) (mvT hZ (hw _ (List.mem_of_getElem? (i := 53) rfl))) (mvT hZ (hw _ (List.mem_of_getElem? (i := 54) rfl))) (by decide) (backOf (W := 1) (rmB l Z a0 hw [] b5 b1 p1 h5 n0 Z5 A5 F_manager_b5 F_node_b5 ge_b5) hZ (hw _ (List.mem_of_getElem? (i := 54) rfl)) (hw _ (List.mem_of_getElem? (i := 51) rfl)) (by decide) (by decide)) (g := (mkF m 76 #[.val (.int p1), .val (.int p2), .val (.int p3), .val (.ref b1), .val (.ref b3), .val (.int (1 : Int32)), .val (.int (1 : Int32)), .val (.int p1), .val (.ref b1), .unset, .unset, .unset, .unset, .unset] [(.int p1), (.ref b1), (.ref b5), (.ref b5)])) rfl (by rw [hml]; rfl) (Steps.refl _) (a := b5) (argsL := [(.ref b1), (.int p1)]) (rest := [(.ref b5)]) (lenOf pd_4 rfl) rfl (by show 2 * 0 + _ ≤ _; exact Nat.le_of_eq rfl) (hb hby at_76) (fun _ _ => ⟨rfl, e5, (by decide : 27 + 0 ≤ _), (by decide : 81960 + 0 ≤ _)⟩)
      dsimp only [Pt.U, Pt.locs, Pt.cells, Pt.slots] at X6 l6 y6 z6 st6 hQ6
      subst l6 y6 z6
      obtain ⟨rfl, Nq6, K6, ex6, fm6, fn6⟩ := hQ6
      have A1_6 := A1_5.keep K6
      have A3_6 := A3_5.keep K6
      have A5_6 := A5.keep K6
      have Z6 : n0 ≤ T6.heap.size := Nat.le_trans Z5 K6.1
      have Kp6 : Keep h0 T6.heap [] := Kp5.trans K6 (allS (Or.inr sz_b5) all0)
      have N6 := Fr.app N4 Nq6
      obtain ⟨T7, h7, X7, e7, E7, A7, D7, -, st7⟩ := newO X6 hx hZ hown (hw _ (List.mem_of_getElem? (i := 64) rfl)) (hw _ (List.mem_of_getElem? (i := 50) rfl)) (hw _ (List.mem_of_getElem? (i := 51) rfl)) rfl (g := (mkF m 81 #[.val (.int p1), .val (.int p2), .val (.int p3), .val (.ref b1), .val (.ref b3), .val (.int (1 : Int32)), .val (.int (1 : Int32)), .val (.int p1), .val (.ref b1), .val (.ref b5), .unset, .unset, .unset, .unset] [])) rfl (hb hby at_81) (by decide) (by decide)
      obtain ⟨b7, g7⟩ : ∃ z, z = T6.heap.size := ⟨_, rfl⟩
      rw [← g7] at A7 D7 st7
      have ne_b1_b7 : b1 ≠ b7 := Nat.ne_of_lt (Nat.lt_of_lt_of_eq A1_6.lt g7.symm)
      have ne_b3_b7 : b3 ≠ b7 := Nat.ne_of_lt (Nat.lt_of_lt_of_eq A3_6.lt g7.symm)
      have ne_b5_b7 : b5 ≠ b7 := Nat.ne_of_lt (Nat.lt_of_lt_of_eq ex6.lt g7.symm)
      have ge_b7 : n0 ≤ b7 := Nat.le_trans Z6 (Nat.le_of_eq g7.symm)
      have sz_b7 : h0.size ≤ b7 := Nat.le_trans Kp6.1 (Nat.le_of_eq g7.symm)
      have A1_7 := A1_6.ext E7
      have A3_7 := A3_6.ext E7
      have ex6_7 := ex6.ext E7
      have fm6_7 := fm6.ext E7
      have fn6_7 := fn6.ext E7
      have Z7 : n0 ≤ h7.size := Nat.le_trans Z6 E7.1
      have Kp7 : Keep h0 h7 [] := Kp6.ext E7
      have F_manager_b7 : Fld Z h7 b7 "com/example/brevi/brevi/bdd/Bdd" "manager" "Lcom/example/brevi/brevi/bdd/BddManager;" .null := D7 (Or.inr (hw _ (List.mem_of_getElem? (i := 57) rfl))) (ty := (.object "com/example/brevi/brevi/bdd/BddManager")) (by decide)
      have F_node_b7 : Fld Z h7 b7 "com/example/brevi/brevi/bdd/Bdd" "node" "I" (.int (0 : Int32)) := D7 (Or.inr (hw _ (List.mem_of_getElem? (i := 59) rfl))) (ty := .int) (by decide)
      obtain ⟨_, _, ⟨T8, L8, k8, n8⟩, -, X8, ⟨Lc8, hQ8, l8, y8, z8⟩, st8⟩ := X7.specialBack hx (y := (⟨"com/example/brevi/brevi/bdd/Bdd", "<init>", "(Lcom/example/brevi/brevi/bdd/BddManager;I)V"⟩ : MethodName)) rfl hown (mvT hZ (hw _ (List.mem_of_getElem? (i := 65) rfl))) (mvT hZ (hw _ (List.mem_of_getElem? (i := 53) rfl))) (mvT hZ (hw _ (List.mem_of_getElem? (i := 54) rfl))) (by decide) (backOf (W := 1) (rmB l Z a0 hw [] b7 b1 p1 h7 n0 Z7 A7 F_manager_b7 F_node_b7 ge_b7) hZ (hw _ (List.mem_of_getElem? (i := 54) rfl)) (hw _ (List.mem_of_getElem? (i := 51) rfl)) (by decide) (by decide)) (g := (mkF m 89 #[.val (.int p1), .val (.int p2), .val (.int p3), .val (.ref b1), .val (.ref b3), .val (.int (1 : Int32)), .val (.int (1 : Int32)), .val (.int p1), .val (.ref b1), .val (.ref b5), .unset, .unset, .unset, .unset] [(.int p1), (.ref b1), (.ref b7), (.ref b7)])) rfl (by rw [hml]; rfl) (Steps.refl _) (a := b7) (argsL := [(.ref b1), (.int p1)]) (rest := [(.ref b7)]) (lenOf pd_4 rfl) rfl (by show 2 * 0 + _ ≤ _; exact Nat.le_of_eq rfl) (hb hby at_89) (fun _ _ => ⟨rfl, e7, (by decide : 28 + 0 ≤ _), (by decide : 81962 + 0 ≤ _)⟩)
      dsimp only [Pt.U, Pt.locs, Pt.cells, Pt.slots] at X8 l8 y8 z8 st8 hQ8
      subst l8 y8 z8
      obtain ⟨rfl, Nq8, K8, ex8, fm8, fn8⟩ := hQ8
      have A1_8 := A1_7.keep K8
      have A3_8 := A3_7.keep K8
      have ex6_8 := ex6_7.keep K8
      have fm6_8 := fm6_7.keep K8 (ninS ne_b5_b7 nin0)
      have fn6_8 := fn6_7.keep K8 (ninS ne_b5_b7 nin0)
      have A7_8 := A7.keep K8
      have Z8 : n0 ≤ T8.heap.size := Nat.le_trans Z7 K8.1
      have Kp8 : Keep h0 T8.heap [] := Kp7.trans K8 (allS (Or.inr sz_b7) all0)
      have N8 := Fr.app N6 Nq8
      obtain ⟨_, _, ⟨T9, L9, k9, n9⟩, -, X9, ⟨Lc9, hQ9, l9, y9, z9⟩, st9⟩ := Jvm.LawKit.callS X8 hx (y := (⟨"java/lang/Integer", "valueOf", "(I)Ljava/lang/Integer;"⟩ : MethodName)) hown (mvT hZ (hw _ (List.mem_of_getElem? (i := 66) rfl))) (mvT hZ (hw _ (List.mem_of_getElem? (i := 67) rfl))) (mvT hZ (hw _ (List.mem_of_getElem? (i := 68) rfl))) (mvT hZ (hw _ (List.mem_of_getElem? (i := 69) rfl))) (by decide) (backOf (W := 0) (rmV l Z a0 hw [] p1 ca T8.heap n0 Z8 (own_sta S_hi Kp8) (own_sta S_ca Kp8) (C0.keep Kp8)) hZ (hw _ (List.mem_of_getElem? (i := 69) rfl)) (hw _ (List.mem_of_getElem? (i := 68) rfl)) (by decide) (by decide)) (g := (mkF m 113 #[.val (.int p1), .val (.int p2), .val (.int p3), .val (.ref b1), .val (.ref b3), .val (.int (1 : Int32)), .val (.int (1 : Int32)), .val (.int p1), .val (.ref b1), .val (.ref b5), .val (.ref b7), .val (.int (1 : Int32)), .unset, .unset] [(.int p1)])) rfl (by rw [hml]; rfl) (argsL := [(.int p1)]) (rest := []) (lenOf pd_5 rfl) rfl (by show 2 * 0 + _ ≤ _; exact Nat.le_of_eq rfl) (hb hby at_113) (fun _ _ => ⟨rfl, rfl, (by decide : 28 + 1 ≤ _), (by decide : 81962 + 1 ≤ _)⟩)
      dsimp only [Pt.U, Pt.locs, Pt.cells, Pt.slots] at X9 l9 y9 z9 st9 hQ9
      subst l9 y9 z9
      obtain ⟨bx9, rfl, Nq9, K9, ex9⟩ := hQ9
      have A1_9 := A1_8.keep K9
      have A3_9 := A3_8.keep K9
      have ex6_9 := ex6_8.keep K9
      have fm6_9 := fm6_8.keep K9 nin0
      have fn6_9 := fn6_8.keep K9 nin0
      have ex8_9 := ex8.keep K9
      have fm8_9 := fm8.keep K9 nin0
      have fn8_9 := fn8.keep K9 nin0
      have Z9 : n0 ≤ T9.heap.size := Nat.le_trans Z8 K9.1
      have Kp9 : Keep h0 T9.heap [] := Kp8.trans K9 all0
      have N9 := Fr.app N8 Nq9
      obtain ⟨cq10, kq10, q10a, q10b, q10c⟩ := isOf hZ rfl ex6_9
      obtain ⟨_, _, ⟨T10, L10, k10, n10⟩, -, X10, ⟨Lc10, hQ10, l10, y10, z10⟩, st10⟩ := X9.virtualBack hx (y := (⟨"com/example/brevi/brevi/bdd/Bdd", "equals", "(Ljava/lang/Object;)Z"⟩ : MethodName)) (z := (⟨"com/example/brevi/brevi/bdd/Bdd", "equals", "(Ljava/lang/Object;)Z"⟩ : MethodName)) hown (mvT hZ (hw _ (List.mem_of_getElem? (i := 73) rfl))) (mvT hZ (hw _ (List.mem_of_getElem? (i := 74) rfl))) (notFace_of_selects (args := #[]) (mvT hZ (hw _ (List.mem_of_getElem? (i := 76) rfl)))) (mvT hZ (hw _ (List.mem_of_getElem? (i := 76) rfl))) (mvT hZ (hw _ (List.mem_of_getElem? (i := 75) rfl))) (by decide) (backOf (W := 0) (rmE_e l Z a0 hw [] b5 b7 b1 b1 p1 p1 T9.heap n0 Z9 ex8_9 fm6_9 fm8_9 fn6_9 fn8_9 rfl rfl) hZ (hw _ (List.mem_of_getElem? (i := 77) rfl)) (hw _ (List.mem_of_getElem? (i := 51) rfl)) (by decide) (by decide)) q10a q10c (g := (mkF m 125 #[.val (.int p1), .val (.int p2), .val (.int p3), .val (.ref b1), .val (.ref b3), .val (.int (1 : Int32)), .val (.int (1 : Int32)), .val (.int p1), .val (.ref b1), .val (.ref b5), .val (.ref b7), .val (.int (1 : Int32)), .val (.ref bx9), .val .null] [(.ref b7), (.ref b5)])) rfl (by rw [hml]; rfl) (Steps.refl _) (argsL := [(.ref b7)]) (rest := []) (lenOf pd_6 rfl) rfl (by show 2 * 0 + _ ≤ _; exact Nat.le_of_eq rfl) (hb hby at_125) (fun _ _ => ⟨rfl, rfl, (by decide : 29 + 0 ≤ _), (by decide : 81963 + 0 ≤ _)⟩)
      dsimp only [Pt.U, Pt.locs, Pt.cells, Pt.slots] at X10 l10 y10 z10 st10 hQ10
      subst l10 y10 z10
      obtain ⟨rfl, Nq10, e10⟩ := hQ10
      have N10 := Fr.app N9 Nq10
      obtain ⟨cq11, kq11, q11a, q11b, q11c⟩ := isOf hZ e10 ex8_9
      obtain ⟨_, _, ⟨T11, L11, k11, n11⟩, -, X11, ⟨Lc11, hQ11, l11, y11, z11⟩, st11⟩ := X10.virtualBack hx (y := (⟨"com/example/brevi/brevi/bdd/Bdd", "equals", "(Ljava/lang/Object;)Z"⟩ : MethodName)) (z := (⟨"com/example/brevi/brevi/bdd/Bdd", "equals", "(Ljava/lang/Object;)Z"⟩ : MethodName)) hown (mvT hZ (hw _ (List.mem_of_getElem? (i := 73) rfl))) (mvT hZ (hw _ (List.mem_of_getElem? (i := 74) rfl))) (notFace_of_selects (args := #[]) (mvT hZ (hw _ (List.mem_of_getElem? (i := 76) rfl)))) (mvT hZ (hw _ (List.mem_of_getElem? (i := 76) rfl))) (mvT hZ (hw _ (List.mem_of_getElem? (i := 75) rfl))) (by decide) (backOf (W := 0) (rmE_e l Z a0 hw [] b7 b5 b1 b1 p1 p1 T9.heap n0 Z9 ex6_9 fm8_9 fm6_9 fn8_9 fn6_9 rfl rfl) hZ (hw _ (List.mem_of_getElem? (i := 77) rfl)) (hw _ (List.mem_of_getElem? (i := 51) rfl)) (by decide) (by decide)) q11a q11c (g := (mkF m 137 #[.val (.int p1), .val (.int p2), .val (.int p3), .val (.ref b1), .val (.ref b3), .val (.int (1 : Int32)), .val (.int (1 : Int32)), .val (.int p1), .val (.ref b1), .val (.ref b5), .val (.ref b7), .val (.int (1 : Int32)), .val (.ref bx9), .val .null] [(.ref b5), (.ref b7)])) rfl (by rw [hml]; rfl) (Steps.refl _) (argsL := [(.ref b5)]) (rest := []) (lenOf pd_6 rfl) rfl (by show 2 * 0 + _ ≤ _; exact Nat.le_of_eq rfl) (hb hby at_137) (fun _ _ => ⟨rfl, e10, (by decide : 29 + 0 ≤ _), (by decide : 81963 + 0 ≤ _)⟩)
      dsimp only [Pt.U, Pt.locs, Pt.cells, Pt.slots] at X11 l11 y11 z11 st11 hQ11
      subst l11 y11 z11
      obtain ⟨rfl, Nq11, e11⟩ := hQ11
      have N11 := Fr.app N10 Nq11
      obtain ⟨cq12, kq12, q12a, q12b, q12c⟩ := isOf hZ e11 ex6_9
      obtain ⟨_, _, ⟨T12, L12, k12, n12⟩, -, X12, ⟨Lc12, hQ12, l12, y12, z12⟩, st12⟩ := X11.virtualBack hx (y := (⟨"com/example/brevi/brevi/bdd/Bdd", "equals", "(Ljava/lang/Object;)Z"⟩ : MethodName)) (z := (⟨"com/example/brevi/brevi/bdd/Bdd", "equals", "(Ljava/lang/Object;)Z"⟩ : MethodName)) hown (mvT hZ (hw _ (List.mem_of_getElem? (i := 73) rfl))) (mvT hZ (hw _ (List.mem_of_getElem? (i := 74) rfl))) (notFace_of_selects (args := #[]) (mvT hZ (hw _ (List.mem_of_getElem? (i := 76) rfl)))) (mvT hZ (hw _ (List.mem_of_getElem? (i := 76) rfl))) (mvT hZ (hw _ (List.mem_of_getElem? (i := 75) rfl))) (by decide) (backOf (W := 0) (rmE_e l Z a0 hw [] b5 b5 b1 b1 p1 p1 T9.heap n0 Z9 ex6_9 fm6_9 fm6_9 fn6_9 fn6_9 rfl rfl) hZ (hw _ (List.mem_of_getElem? (i := 77) rfl)) (hw _ (List.mem_of_getElem? (i := 51) rfl)) (by decide) (by decide)) q12a q12c (g := (mkF m 149 #[.val (.int p1), .val (.int p2), .val (.int p3), .val (.ref b1), .val (.ref b3), .val (.int (1 : Int32)), .val (.int (1 : Int32)), .val (.int p1), .val (.ref b1), .val (.ref b5), .val (.ref b7), .val (.int (1 : Int32)), .val (.ref bx9), .val .null] [(.ref b5), (.ref b5)])) rfl (by rw [hml]; rfl) (Steps.refl _) (argsL := [(.ref b5)]) (rest := []) (lenOf pd_6 rfl) rfl (by show 2 * 0 + _ ≤ _; exact Nat.le_of_eq rfl) (hb hby at_149) (fun _ _ => ⟨rfl, e11, (by decide : 29 + 0 ≤ _), (by decide : 81963 + 0 ≤ _)⟩)
      dsimp only [Pt.U, Pt.locs, Pt.cells, Pt.slots] at X12 l12 y12 z12 st12 hQ12
      subst l12 y12 z12
      obtain ⟨rfl, Nq12, e12⟩ := hQ12
      have N12 := Fr.app N11 Nq12
      obtain ⟨cq13, kq13, q13a, q13b, q13c⟩ := isOf hZ e12 ex6_9
      obtain ⟨_, _, ⟨T13, L13, k13, n13⟩, -, X13, ⟨Lc13, hQ13, l13, y13, z13⟩, st13⟩ := X12.virtualBack hx (y := (⟨"com/example/brevi/brevi/bdd/Bdd", "equals", "(Ljava/lang/Object;)Z"⟩ : MethodName)) (z := (⟨"com/example/brevi/brevi/bdd/Bdd", "equals", "(Ljava/lang/Object;)Z"⟩ : MethodName)) hown (mvT hZ (hw _ (List.mem_of_getElem? (i := 73) rfl))) (mvT hZ (hw _ (List.mem_of_getElem? (i := 74) rfl))) (notFace_of_selects (args := #[]) (mvT hZ (hw _ (List.mem_of_getElem? (i := 76) rfl)))) (mvT hZ (hw _ (List.mem_of_getElem? (i := 76) rfl))) (mvT hZ (hw _ (List.mem_of_getElem? (i := 75) rfl))) (by decide) (backOf (W := 0) (rmE_i l Z a0 hw [] b5 bx9 T9.heap n0 Z9 ex9) hZ (hw _ (List.mem_of_getElem? (i := 77) rfl)) (hw _ (List.mem_of_getElem? (i := 51) rfl)) (by decide) (by decide)) q13a q13c (g := (mkF m 159 #[.val (.int p1), .val (.int p2), .val (.int p3), .val (.ref b1), .val (.ref b3), .val (.int (1 : Int32)), .val (.int (1 : Int32)), .val (.int p1), .val (.ref b1), .val (.ref b5), .val (.ref b7), .val (.int (1 : Int32)), .val (.ref bx9), .val .null] [(.ref bx9), (.ref b5)])) rfl (by rw [hml]; rfl) (Steps.refl _) (argsL := [(.ref bx9)]) (rest := []) (lenOf pd_6 rfl) rfl (by show 2 * 0 + _ ≤ _; exact Nat.le_of_eq rfl) (hb hby at_159) (fun _ _ => ⟨rfl, e12, (by decide : 29 + 0 ≤ _), (by decide : 81963 + 0 ≤ _)⟩)
      dsimp only [Pt.U, Pt.locs, Pt.cells, Pt.slots] at X13 l13 y13 z13 st13 hQ13
      subst l13 y13 z13
      obtain ⟨rfl, Nq13, e13⟩ := hQ13
      have N13 := Fr.app N12 Nq13
      obtain ⟨cq14, kq14, q14a, q14b, q14c⟩ := isOf hZ e13 ex6_9
      obtain ⟨_, _, ⟨T14, L14, k14, n14⟩, -, X14, ⟨Lc14, hQ14, l14, y14, z14⟩, st14⟩ := X13.virtualBack hx (y := (⟨"com/example/brevi/brevi/bdd/Bdd", "equals", "(Ljava/lang/Object;)Z"⟩ : MethodName)) (z := (⟨"com/example/brevi/brevi/bdd/Bdd", "equals", "(Ljava/lang/Object;)Z"⟩ : MethodName)) hown (mvT hZ (hw _ (List.mem_of_getElem? (i := 73) rfl))) (mvT hZ (hw _ (List.mem_of_getElem? (i := 74) rfl))) (notFace_of_selects (args := #[]) (mvT hZ (hw _ (List.mem_of_getElem? (i := 76) rfl)))) (mvT hZ (hw _ (List.mem_of_getElem? (i := 76) rfl))) (mvT hZ (hw _ (List.mem_of_getElem? (i := 75) rfl))) (by decide) (backOf (W := 0) (rmE_n l Z a0 hw [] b5 T9.heap n0 Z9 ) hZ (hw _ (List.mem_of_getElem? (i := 77) rfl)) (hw _ (List.mem_of_getElem? (i := 51) rfl)) (by decide) (by decide)) q14a q14c (g := (mkF m 169 #[.val (.int p1), .val (.int p2), .val (.int p3), .val (.ref b1), .val (.ref b3), .val (.int (1 : Int32)), .val (.int (1 : Int32)), .val (.int p1), .val (.ref b1), .val (.ref b5), .val (.ref b7), .val (.int (1 : Int32)), .val (.ref bx9), .val .null] [.null, (.ref b5)])) rfl (by rw [hml]; rfl) (Steps.refl _) (argsL := [.null]) (rest := []) (lenOf pd_6 rfl) rfl (by show 2 * 0 + _ ≤ _; exact Nat.le_of_eq rfl) (hb hby at_169) (fun _ _ => ⟨rfl, e13, (by decide : 29 + 0 ≤ _), (by decide : 81963 + 0 ≤ _)⟩)
      dsimp only [Pt.U, Pt.locs, Pt.cells, Pt.slots] at X14 l14 y14 z14 st14 hQ14
      subst l14 y14 z14
      obtain ⟨rfl, Nq14, e14⟩ := hQ14
      have N14 := Fr.app N13 Nq14
      obtain ⟨fs, hr, hrun, hended, hW, hsame⟩ := X14.leave (v := some (.int (1 : Int32))) (fun h => by rw [Bd.returns] at h; cases h)
      refine ⟨_, _, pre0 _ ?_, hrun, hended, _, _, rfl, ?_, ⟨_, rfl⟩, hW, hsame.mono (by decide) (by decide)⟩
      · show Steps p.tables e below (s₁.setTop (mkF m 0 #[.val (.int p1), .val (.int p2), .val (.int p3), .unset, .unset, .unset, .unset, .unset, .unset, .unset, .unset, .unset, .unset, .unset] [])) _
        refine st1 _ ?_
        show Steps p.tables e below (T1.setTop (mkF m 3 #[.val (.int p1), .val (.int p2), .val (.int p3), .unset, .unset, .unset, .unset, .unset, .unset, .unset, .unset, .unset, .unset, .unset] [(.ref b1)])) _
        refine XS.dup X1.here hx rfl (hb hby at_3) rfl rfl ?_
        show Steps p.tables e below (T1.setTop (mkF m 4 #[.val (.int p1), .val (.int p2), .val (.int p3), .unset, .unset, .unset, .unset, .unset, .unset, .unset, .unset, .unset, .unset, .unset] [(.ref b1), (.ref b1)])) _
        refine st2.trans ?_
        show Steps p.tables e below (T2.setTop (mkF m 7 #[.val (.int p1), .val (.int p2), .val (.int p3), .unset, .unset, .unset, .unset, .unset, .unset, .unset, .unset, .unset, .unset, .unset] [(.ref b1)])) _
        refine XS.astoreN X2.here hx rfl (hb hby at_7) rfl rfl (l' := #[.val (.int p1), .val (.int p2), .val (.int p3), .val (.ref b1), .unset, .unset, .unset, .unset, .unset, .unset, .unset, .unset, .unset, .unset]) rfl ?_
        show Steps p.tables e below (T2.setTop (mkF m 8 #[.val (.int p1), .val (.int p2), .val (.int p3), .val (.ref b1), .unset, .unset, .unset, .unset, .unset, .unset, .unset, .unset, .unset, .unset] [])) _
        refine st3 _ ?_
        show Steps p.tables e below (T3.setTop (mkF m 11 #[.val (.int p1), .val (.int p2), .val (.int p3), .val (.ref b1), .unset, .unset, .unset, .unset, .unset, .unset, .unset, .unset, .unset, .unset] [(.ref b3)])) _
        refine XS.dup X3.here hx rfl (hb hby at_11) rfl rfl ?_
        show Steps p.tables e below (T3.setTop (mkF m 12 #[.val (.int p1), .val (.int p2), .val (.int p3), .val (.ref b1), .unset, .unset, .unset, .unset, .unset, .unset, .unset, .unset, .unset, .unset] [(.ref b3), (.ref b3)])) _
        refine st4.trans ?_
        show Steps p.tables e below (T4.setTop (mkF m 15 #[.val (.int p1), .val (.int p2), .val (.int p3), .val (.ref b1), .unset, .unset, .unset, .unset, .unset, .unset, .unset, .unset, .unset, .unset] [(.ref b3)])) _
        refine XS.astore X4.here hx rfl (hb hby at_15) rfl rfl (l' := #[.val (.int p1), .val (.int p2), .val (.int p3), .val (.ref b1), .val (.ref b3), .unset, .unset, .unset, .unset, .unset, .unset, .unset, .unset, .unset]) rfl ?_
        show Steps p.tables e below (T4.setTop (mkF m 17 #[.val (.int p1), .val (.int p2), .val (.int p3), .val (.ref b1), .val (.ref b3), .unset, .unset, .unset, .unset, .unset, .unset, .unset, .unset, .unset] [])) _
        refine XS.iloadN X4.here hx rfl (hb hby at_17) rfl ?_
        show Steps p.tables e below (T4.setTop (mkF m 18 #[.val (.int p1), .val (.int p2), .val (.int p3), .val (.ref b1), .val (.ref b3), .unset, .unset, .unset, .unset, .unset, .unset, .unset, .unset, .unset] [(.int p3)])) _
        refine XS.iconst X4.here hx rfl (hb hby at_18) ?_
        show Steps p.tables e below (T4.setTop (mkF m 19 #[.val (.int p1), .val (.int p2), .val (.int p3), .val (.ref b1), .val (.ref b3), .unset, .unset, .unset, .unset, .unset, .unset, .unset, .unset, .unset] [(.int (1 : Int32)), (.int p3)])) _
        refine XS.iand X4.here hx rfl (hb hby at_19) rfl ?_
        show Steps p.tables e below (T4.setTop (mkF m 20 #[.val (.int p1), .val (.int p2), .val (.int p3), .val (.ref b1), .val (.ref b3), .unset, .unset, .unset, .unset, .unset, .unset, .unset, .unset, .unset] [(.int (p3 &&& (1 : Int32)))])) _
        refine XS.ifNo X4.here hx rfl (hb hby at_20) rfl ((if0 _ _).trans (feq hs1).1) ?_
        show Steps p.tables e below (T4.setTop (mkF m 23 #[.val (.int p1), .val (.int p2), .val (.int p3), .val (.ref b1), .val (.ref b3), .unset, .unset, .unset, .unset, .unset, .unset, .unset, .unset, .unset] [])) _
        refine XS.iconst X4.here hx rfl (hb hby at_23) ?_
        show Steps p.tables e below (T4.setTop (mkF m 24 #[.val (.int p1), .val (.int p2), .val (.int p3), .val (.ref b1), .val (.ref b3), .unset, .unset, .unset, .unset, .unset, .unset, .unset, .unset, .unset] [(.int (1 : Int32))])) _
        refine XS.goto X4.here hx rfl (pc0 := 24) (pc' := 28) rfl (hb hby at_24) (by decide) (by decide) ?_
        show Steps p.tables e below (T4.setTop (mkF m 28 #[.val (.int p1), .val (.int p2), .val (.int p3), .val (.ref b1), .val (.ref b3), .unset, .unset, .unset, .unset, .unset, .unset, .unset, .unset, .unset] [(.int (1 : Int32))])) _
        refine XS.istore X4.here hx rfl (hb hby at_28) rfl (l' := #[.val (.int p1), .val (.int p2), .val (.int p3), .val (.ref b1), .val (.ref b3), .val (.int (1 : Int32)), .unset, .unset, .unset, .unset, .unset, .unset, .unset, .unset]) rfl ?_
        show Steps p.tables e below (T4.setTop (mkF m 30 #[.val (.int p1), .val (.int p2), .val (.int p3), .val (.ref b1), .val (.ref b3), .val (.int (1 : Int32)), .unset, .unset, .unset, .unset, .unset, .unset, .unset, .unset] [])) _
        refine XS.iloadN X4.here hx rfl (hb hby at_30) rfl ?_
        show Steps p.tables e below (T4.setTop (mkF m 31 #[.val (.int p1), .val (.int p2), .val (.int p3), .val (.ref b1), .val (.ref b3), .val (.int (1 : Int32)), .unset, .unset, .unset, .unset, .unset, .unset, .unset, .unset] [(.int p3)])) _
        refine XS.iconst X4.here hx rfl (hb hby at_31) ?_
        show Steps p.tables e below (T4.setTop (mkF m 32 #[.val (.int p1), .val (.int p2), .val (.int p3), .val (.ref b1), .val (.ref b3), .val (.int (1 : Int32)), .unset, .unset, .unset, .unset, .unset, .unset, .unset, .unset] [(.int (2 : Int32)), (.int p3)])) _
        refine XS.iand X4.here hx rfl (hb hby at_32) rfl ?_
        show Steps p.tables e below (T4.setTop (mkF m 33 #[.val (.int p1), .val (.int p2), .val (.int p3), .val (.ref b1), .val (.ref b3), .val (.int (1 : Int32)), .unset, .unset, .unset, .unset, .unset, .unset, .unset, .unset] [(.int (p3 &&& (2 : Int32)))])) _
        refine XS.ifNo X4.here hx rfl (hb hby at_33) rfl ((if0 _ _).trans (feq hs2).1) ?_
        show Steps p.tables e below (T4.setTop (mkF m 36 #[.val (.int p1), .val (.int p2), .val (.int p3), .val (.ref b1), .val (.ref b3), .val (.int (1 : Int32)), .unset, .unset, .unset, .unset, .unset, .unset, .unset, .unset] [])) _
        refine XS.iconst X4.here hx rfl (hb hby at_36) ?_
        show Steps p.tables e below (T4.setTop (mkF m 37 #[.val (.int p1), .val (.int p2), .val (.int p3), .val (.ref b1), .val (.ref b3), .val (.int (1 : Int32)), .unset, .unset, .unset, .unset, .unset, .unset, .unset, .unset] [(.int (1 : Int32))])) _
        refine XS.goto X4.here hx rfl (pc0 := 37) (pc' := 41) rfl (hb hby at_37) (by decide) (by decide) ?_
        show Steps p.tables e below (T4.setTop (mkF m 41 #[.val (.int p1), .val (.int p2), .val (.int p3), .val (.ref b1), .val (.ref b3), .val (.int (1 : Int32)), .unset, .unset, .unset, .unset, .unset, .unset, .unset, .unset] [(.int (1 : Int32))])) _
        refine XS.istore X4.here hx rfl (hb hby at_41) rfl (l' := #[.val (.int p1), .val (.int p2), .val (.int p3), .val (.ref b1), .val (.ref b3), .val (.int (1 : Int32)), .val (.int (1 : Int32)), .unset, .unset, .unset, .unset, .unset, .unset, .unset]) rfl ?_
        show Steps p.tables e below (T4.setTop (mkF m 43 #[.val (.int p1), .val (.int p2), .val (.int p3), .val (.ref b1), .val (.ref b3), .val (.int (1 : Int32)), .val (.int (1 : Int32)), .unset, .unset, .unset, .unset, .unset, .unset, .unset] [])) _
        refine XS.iload X4.here hx rfl (hb hby at_43) rfl ?_
        show Steps p.tables e below (T4.setTop (mkF m 45 #[.val (.int p1), .val (.int p2), .val (.int p3), .val (.ref b1), .val (.ref b3), .val (.int (1 : Int32)), .val (.int (1 : Int32)), .unset, .unset, .unset, .unset, .unset, .unset, .unset] [(.int (1 : Int32))])) _
        refine XS.ifNo X4.here hx rfl (hb hby at_45) rfl ((if0 _ _).trans (feq (by decide : ¬ ((1 : Int32) = (0 : Int32)))).1) ?_
        show Steps p.tables e below (T4.setTop (mkF m 48 #[.val (.int p1), .val (.int p2), .val (.int p3), .val (.ref b1), .val (.ref b3), .val (.int (1 : Int32)), .val (.int (1 : Int32)), .unset, .unset, .unset, .unset, .unset, .unset, .unset] [])) _
        refine XS.iloadN X4.here hx rfl (hb hby at_48) rfl ?_
        show Steps p.tables e below (T4.setTop (mkF m 49 #[.val (.int p1), .val (.int p2), .val (.int p3), .val (.ref b1), .val (.ref b3), .val (.int (1 : Int32)), .val (.int (1 : Int32)), .unset, .unset, .unset, .unset, .unset, .unset, .unset] [(.int p1)])) _
        refine XS.goto X4.here hx rfl (pc0 := 49) (pc' := 55) rfl (hb hby at_49) (by decide) (by decide) ?_
        show Steps p.tables e below (T4.setTop (mkF m 55 #[.val (.int p1), .val (.int p2), .val (.int p3), .val (.ref b1), .val (.ref b3), .val (.int (1 : Int32)), .val (.int (1 : Int32)), .unset, .unset, .unset, .unset, .unset, .unset, .unset] [(.int p1)])) _
        refine XS.istore X4.here hx rfl (hb hby at_55) rfl (l' := #[.val (.int p1), .val (.int p2), .val (.int p3), .val (.ref b1), .val (.ref b3), .val (.int (1 : Int32)), .val (.int (1 : Int32)), .val (.int p1), .unset, .unset, .unset, .unset, .unset, .unset]) rfl ?_
        show Steps p.tables e below (T4.setTop (mkF m 57 #[.val (.int p1), .val (.int p2), .val (.int p3), .val (.ref b1), .val (.ref b3), .val (.int (1 : Int32)), .val (.int (1 : Int32)), .val (.int p1), .unset, .unset, .unset, .unset, .unset, .unset] [])) _
        refine XS.iload X4.here hx rfl (hb hby at_57) rfl ?_
        show Steps p.tables e below (T4.setTop (mkF m 59 #[.val (.int p1), .val (.int p2), .val (.int p3), .val (.ref b1), .val (.ref b3), .val (.int (1 : Int32)), .val (.int (1 : Int32)), .val (.int p1), .unset, .unset, .unset, .unset, .unset, .unset] [(.int (1 : Int32))])) _
        refine XS.ifNo X4.here hx rfl (hb hby at_59) rfl ((if0 _ _).trans (feq (by decide : ¬ ((1 : Int32) = (0 : Int32)))).1) ?_
        show Steps p.tables e below (T4.setTop (mkF m 62 #[.val (.int p1), .val (.int p2), .val (.int p3), .val (.ref b1), .val (.ref b3), .val (.int (1 : Int32)), .val (.int (1 : Int32)), .val (.int p1), .unset, .unset, .unset, .unset, .unset, .unset] [])) _
        refine XS.aloadN X4.here hx rfl (hb hby at_62) rfl rfl ?_
        show Steps p.tables e below (T4.setTop (mkF m 63 #[.val (.int p1), .val (.int p2), .val (.int p3), .val (.ref b1), .val (.ref b3), .val (.int (1 : Int32)), .val (.int (1 : Int32)), .val (.int p1), .unset, .unset, .unset, .unset, .unset, .unset] [(.ref b1)])) _
        refine XS.goto X4.here hx rfl (pc0 := 63) (pc' := 68) rfl (hb hby at_63) (by decide) (by decide) ?_
        show Steps p.tables e below (T4.setTop (mkF m 68 #[.val (.int p1), .val (.int p2), .val (.int p3), .val (.ref b1), .val (.ref b3), .val (.int (1 : Int32)), .val (.int (1 : Int32)), .val (.int p1), .unset, .unset, .unset, .unset, .unset, .unset] [(.ref b1)])) _
        refine XS.astore X4.here hx rfl (hb hby at_68) rfl rfl (l' := #[.val (.int p1), .val (.int p2), .val (.int p3), .val (.ref b1), .val (.ref b3), .val (.int (1 : Int32)), .val (.int (1 : Int32)), .val (.int p1), .val (.ref b1), .unset, .unset, .unset, .unset, .unset]) rfl ?_
        show Steps p.tables e below (T4.setTop (mkF m 70 #[.val (.int p1), .val (.int p2), .val (.int p3), .val (.ref b1), .val (.ref b3), .val (.int (1 : Int32)), .val (.int (1 : Int32)), .val (.int p1), .val (.ref b1), .unset, .unset, .unset, .unset, .unset] [])) _
        refine st5 _ ?_
        show Steps p.tables e below (T5.setTop (mkF m 73 #[.val (.int p1), .val (.int p2), .val (.int p3), .val (.ref b1), .val (.ref b3), .val (.int (1 : Int32)), .val (.int (1 : Int32)), .val (.int p1), .val (.ref b1), .unset, .unset, .unset, .unset, .unset] [(.ref b5)])) _
        refine XS.dup X5.here hx rfl (hb hby at_73) rfl rfl ?_
        show Steps p.tables e below (T5.setTop (mkF m 74 #[.val (.int p1), .val (.int p2), .val (.int p3), .val (.ref b1), .val (.ref b3), .val (.int (1 : Int32)), .val (.int (1 : Int32)), .val (.int p1), .val (.ref b1), .unset, .unset, .unset, .unset, .unset] [(.ref b5), (.ref b5)])) _
        refine XS.aloadN X5.here hx rfl (hb hby at_74) rfl rfl ?_
        show Steps p.tables e below (T5.setTop (mkF m 75 #[.val (.int p1), .val (.int p2), .val (.int p3), .val (.ref b1), .val (.ref b3), .val (.int (1 : Int32)), .val (.int (1 : Int32)), .val (.int p1), .val (.ref b1), .unset, .unset, .unset, .unset, .unset] [(.ref b1), (.ref b5), (.ref b5)])) _
        refine XS.iloadN X5.here hx rfl (hb hby at_75) rfl ?_
        show Steps p.tables e below (T5.setTop (mkF m 76 #[.val (.int p1), .val (.int p2), .val (.int p3), .val (.ref b1), .val (.ref b3), .val (.int (1 : Int32)), .val (.int (1 : Int32)), .val (.int p1), .val (.ref b1), .unset, .unset, .unset, .unset, .unset] [(.int p1), (.ref b1), (.ref b5), (.ref b5)])) _
        refine st6.trans ?_
        show Steps p.tables e below (T6.setTop (mkF m 79 #[.val (.int p1), .val (.int p2), .val (.int p3), .val (.ref b1), .val (.ref b3), .val (.int (1 : Int32)), .val (.int (1 : Int32)), .val (.int p1), .val (.ref b1), .unset, .unset, .unset, .unset, .unset] [(.ref b5)])) _
        refine XS.astore X6.here hx rfl (hb hby at_79) rfl rfl (l' := #[.val (.int p1), .val (.int p2), .val (.int p3), .val (.ref b1), .val (.ref b3), .val (.int (1 : Int32)), .val (.int (1 : Int32)), .val (.int p1), .val (.ref b1), .val (.ref b5), .unset, .unset, .unset, .unset]) rfl ?_
        show Steps p.tables e below (T6.setTop (mkF m 81 #[.val (.int p1), .val (.int p2), .val (.int p3), .val (.ref b1), .val (.ref b3), .val (.int (1 : Int32)), .val (.int (1 : Int32)), .val (.int p1), .val (.ref b1), .val (.ref b5), .unset, .unset, .unset, .unset] [])) _
        refine st7 _ ?_
        show Steps p.tables e below (T7.setTop (mkF m 84 #[.val (.int p1), .val (.int p2), .val (.int p3), .val (.ref b1), .val (.ref b3), .val (.int (1 : Int32)), .val (.int (1 : Int32)), .val (.int p1), .val (.ref b1), .val (.ref b5), .unset, .unset, .unset, .unset] [(.ref b7)])) _
        refine XS.dup X7.here hx rfl (hb hby at_84) rfl rfl ?_
        show Steps p.tables e below (T7.setTop (mkF m 85 #[.val (.int p1), .val (.int p2), .val (.int p3), .val (.ref b1), .val (.ref b3), .val (.int (1 : Int32)), .val (.int (1 : Int32)), .val (.int p1), .val (.ref b1), .val (.ref b5), .unset, .unset, .unset, .unset] [(.ref b7), (.ref b7)])) _
        refine XS.aload X7.here hx rfl (hb hby at_85) rfl rfl ?_
        show Steps p.tables e below (T7.setTop (mkF m 87 #[.val (.int p1), .val (.int p2), .val (.int p3), .val (.ref b1), .val (.ref b3), .val (.int (1 : Int32)), .val (.int (1 : Int32)), .val (.int p1), .val (.ref b1), .val (.ref b5), .unset, .unset, .unset, .unset] [(.ref b1), (.ref b7), (.ref b7)])) _
        refine XS.iload X7.here hx rfl (hb hby at_87) rfl ?_
        show Steps p.tables e below (T7.setTop (mkF m 89 #[.val (.int p1), .val (.int p2), .val (.int p3), .val (.ref b1), .val (.ref b3), .val (.int (1 : Int32)), .val (.int (1 : Int32)), .val (.int p1), .val (.ref b1), .val (.ref b5), .unset, .unset, .unset, .unset] [(.int p1), (.ref b1), (.ref b7), (.ref b7)])) _
        refine st8.trans ?_
        show Steps p.tables e below (T8.setTop (mkF m 92 #[.val (.int p1), .val (.int p2), .val (.int p3), .val (.ref b1), .val (.ref b3), .val (.int (1 : Int32)), .val (.int (1 : Int32)), .val (.int p1), .val (.ref b1), .val (.ref b5), .unset, .unset, .unset, .unset] [(.ref b7)])) _
        refine XS.astore X8.here hx rfl (hb hby at_92) rfl rfl (l' := #[.val (.int p1), .val (.int p2), .val (.int p3), .val (.ref b1), .val (.ref b3), .val (.int (1 : Int32)), .val (.int (1 : Int32)), .val (.int p1), .val (.ref b1), .val (.ref b5), .val (.ref b7), .unset, .unset, .unset]) rfl ?_
        show Steps p.tables e below (T8.setTop (mkF m 94 #[.val (.int p1), .val (.int p2), .val (.int p3), .val (.ref b1), .val (.ref b3), .val (.int (1 : Int32)), .val (.int (1 : Int32)), .val (.int p1), .val (.ref b1), .val (.ref b5), .val (.ref b7), .unset, .unset, .unset] [])) _
        refine XS.iload X8.here hx rfl (hb hby at_94) rfl ?_
        show Steps p.tables e below (T8.setTop (mkF m 96 #[.val (.int p1), .val (.int p2), .val (.int p3), .val (.ref b1), .val (.ref b3), .val (.int (1 : Int32)), .val (.int (1 : Int32)), .val (.int p1), .val (.ref b1), .val (.ref b5), .val (.ref b7), .unset, .unset, .unset] [(.int (1 : Int32))])) _
        refine XS.ifNo X8.here hx rfl (hb hby at_96) rfl ((if0 _ _).trans (feq (by decide : ¬ ((1 : Int32) = (0 : Int32)))).1) ?_
        show Steps p.tables e below (T8.setTop (mkF m 99 #[.val (.int p1), .val (.int p2), .val (.int p3), .val (.ref b1), .val (.ref b3), .val (.int (1 : Int32)), .val (.int (1 : Int32)), .val (.int p1), .val (.ref b1), .val (.ref b5), .val (.ref b7), .unset, .unset, .unset] [])) _
        refine XS.iloadN X8.here hx rfl (hb hby at_99) rfl ?_
        show Steps p.tables e below (T8.setTop (mkF m 100 #[.val (.int p1), .val (.int p2), .val (.int p3), .val (.ref b1), .val (.ref b3), .val (.int (1 : Int32)), .val (.int (1 : Int32)), .val (.int p1), .val (.ref b1), .val (.ref b5), .val (.ref b7), .unset, .unset, .unset] [(.int p1)])) _
        refine XS.iload X8.here hx rfl (hb hby at_100) rfl ?_
        show Steps p.tables e below (T8.setTop (mkF m 102 #[.val (.int p1), .val (.int p2), .val (.int p3), .val (.ref b1), .val (.ref b3), .val (.int (1 : Int32)), .val (.int (1 : Int32)), .val (.int p1), .val (.ref b1), .val (.ref b5), .val (.ref b7), .unset, .unset, .unset] [(.int p1), (.int p1)])) _
        refine XS.icmpNo X8.here hx rfl (hb hby at_102) rfl (teq (rfl : p1 = p1)).2 ?_
        show Steps p.tables e below (T8.setTop (mkF m 105 #[.val (.int p1), .val (.int p2), .val (.int p3), .val (.ref b1), .val (.ref b3), .val (.int (1 : Int32)), .val (.int (1 : Int32)), .val (.int p1), .val (.ref b1), .val (.ref b5), .val (.ref b7), .unset, .unset, .unset] [])) _
        refine XS.iconst X8.here hx rfl (hb hby at_105) ?_
        show Steps p.tables e below (T8.setTop (mkF m 106 #[.val (.int p1), .val (.int p2), .val (.int p3), .val (.ref b1), .val (.ref b3), .val (.int (1 : Int32)), .val (.int (1 : Int32)), .val (.int p1), .val (.ref b1), .val (.ref b5), .val (.ref b7), .unset, .unset, .unset] [(.int (1 : Int32))])) _
        refine XS.goto X8.here hx rfl (pc0 := 106) (pc' := 110) rfl (hb hby at_106) (by decide) (by decide) ?_
        show Steps p.tables e below (T8.setTop (mkF m 110 #[.val (.int p1), .val (.int p2), .val (.int p3), .val (.ref b1), .val (.ref b3), .val (.int (1 : Int32)), .val (.int (1 : Int32)), .val (.int p1), .val (.ref b1), .val (.ref b5), .val (.ref b7), .unset, .unset, .unset] [(.int (1 : Int32))])) _
        refine XS.istore X8.here hx rfl (hb hby at_110) rfl (l' := #[.val (.int p1), .val (.int p2), .val (.int p3), .val (.ref b1), .val (.ref b3), .val (.int (1 : Int32)), .val (.int (1 : Int32)), .val (.int p1), .val (.ref b1), .val (.ref b5), .val (.ref b7), .val (.int (1 : Int32)), .unset, .unset]) rfl ?_
        show Steps p.tables e below (T8.setTop (mkF m 112 #[.val (.int p1), .val (.int p2), .val (.int p3), .val (.ref b1), .val (.ref b3), .val (.int (1 : Int32)), .val (.int (1 : Int32)), .val (.int p1), .val (.ref b1), .val (.ref b5), .val (.ref b7), .val (.int (1 : Int32)), .unset, .unset] [])) _
        refine XS.iloadN X8.here hx rfl (hb hby at_112) rfl ?_
        show Steps p.tables e below (T8.setTop (mkF m 113 #[.val (.int p1), .val (.int p2), .val (.int p3), .val (.ref b1), .val (.ref b3), .val (.int (1 : Int32)), .val (.int (1 : Int32)), .val (.int p1), .val (.ref b1), .val (.ref b5), .val (.ref b7), .val (.int (1 : Int32)), .unset, .unset] [(.int p1)])) _
        refine st9 _ ?_
        show Steps p.tables e below (T9.setTop (mkF m 116 #[.val (.int p1), .val (.int p2), .val (.int p3), .val (.ref b1), .val (.ref b3), .val (.int (1 : Int32)), .val (.int (1 : Int32)), .val (.int p1), .val (.ref b1), .val (.ref b5), .val (.ref b7), .val (.int (1 : Int32)), .unset, .unset] [(.ref bx9)])) _
        refine XS.astore X9.here hx rfl (hb hby at_116) rfl rfl (l' := #[.val (.int p1), .val (.int p2), .val (.int p3), .val (.ref b1), .val (.ref b3), .val (.int (1 : Int32)), .val (.int (1 : Int32)), .val (.int p1), .val (.ref b1), .val (.ref b5), .val (.ref b7), .val (.int (1 : Int32)), .val (.ref bx9), .unset]) rfl ?_
        show Steps p.tables e below (T9.setTop (mkF m 118 #[.val (.int p1), .val (.int p2), .val (.int p3), .val (.ref b1), .val (.ref b3), .val (.int (1 : Int32)), .val (.int (1 : Int32)), .val (.int p1), .val (.ref b1), .val (.ref b5), .val (.ref b7), .val (.int (1 : Int32)), .val (.ref bx9), .unset] [])) _
        refine XS.aconstNull X9.here hx rfl (hb hby at_118) ?_
        show Steps p.tables e below (T9.setTop (mkF m 119 #[.val (.int p1), .val (.int p2), .val (.int p3), .val (.ref b1), .val (.ref b3), .val (.int (1 : Int32)), .val (.int (1 : Int32)), .val (.int p1), .val (.ref b1), .val (.ref b5), .val (.ref b7), .val (.int (1 : Int32)), .val (.ref bx9), .unset] [.null])) _
        refine XS.astore X9.here hx rfl (hb hby at_119) rfl rfl (l' := #[.val (.int p1), .val (.int p2), .val (.int p3), .val (.ref b1), .val (.ref b3), .val (.int (1 : Int32)), .val (.int (1 : Int32)), .val (.int p1), .val (.ref b1), .val (.ref b5), .val (.ref b7), .val (.int (1 : Int32)), .val (.ref bx9), .val .null]) rfl ?_
        show Steps p.tables e below (T9.setTop (mkF m 121 #[.val (.int p1), .val (.int p2), .val (.int p3), .val (.ref b1), .val (.ref b3), .val (.int (1 : Int32)), .val (.int (1 : Int32)), .val (.int p1), .val (.ref b1), .val (.ref b5), .val (.ref b7), .val (.int (1 : Int32)), .val (.ref bx9), .val .null] [])) _
        refine XS.aload X9.here hx rfl (hb hby at_121) rfl rfl ?_
        show Steps p.tables e below (T9.setTop (mkF m 123 #[.val (.int p1), .val (.int p2), .val (.int p3), .val (.ref b1), .val (.ref b3), .val (.int (1 : Int32)), .val (.int (1 : Int32)), .val (.int p1), .val (.ref b1), .val (.ref b5), .val (.ref b7), .val (.int (1 : Int32)), .val (.ref bx9), .val .null] [(.ref b5)])) _
        refine XS.aload X9.here hx rfl (hb hby at_123) rfl rfl ?_
        show Steps p.tables e below (T9.setTop (mkF m 125 #[.val (.int p1), .val (.int p2), .val (.int p3), .val (.ref b1), .val (.ref b3), .val (.int (1 : Int32)), .val (.int (1 : Int32)), .val (.int p1), .val (.ref b1), .val (.ref b5), .val (.ref b7), .val (.int (1 : Int32)), .val (.ref bx9), .val .null] [(.ref b7), (.ref b5)])) _
        refine st10.trans ?_
        show Steps p.tables e below (T10.setTop (mkF m 128 #[.val (.int p1), .val (.int p2), .val (.int p3), .val (.ref b1), .val (.ref b3), .val (.int (1 : Int32)), .val (.int (1 : Int32)), .val (.int p1), .val (.ref b1), .val (.ref b5), .val (.ref b7), .val (.int (1 : Int32)), .val (.ref bx9), .val .null] [(.int (1 : Int32))])) _
        refine XS.iload X10.here hx rfl (hb hby at_128) rfl ?_
        show Steps p.tables e below (T10.setTop (mkF m 130 #[.val (.int p1), .val (.int p2), .val (.int p3), .val (.ref b1), .val (.ref b3), .val (.int (1 : Int32)), .val (.int (1 : Int32)), .val (.int p1), .val (.ref b1), .val (.ref b5), .val (.ref b7), .val (.int (1 : Int32)), .val (.ref bx9), .val .null] [(.int (1 : Int32)), (.int (1 : Int32))])) _
        refine XS.icmpNo X10.here hx rfl (hb hby at_130) rfl (teq (by decide : (1 : Int32) = (1 : Int32))).2 ?_
        show Steps p.tables e below (T10.setTop (mkF m 133 #[.val (.int p1), .val (.int p2), .val (.int p3), .val (.ref b1), .val (.ref b3), .val (.int (1 : Int32)), .val (.int (1 : Int32)), .val (.int p1), .val (.ref b1), .val (.ref b5), .val (.ref b7), .val (.int (1 : Int32)), .val (.ref bx9), .val .null] [])) _
        refine XS.aload X10.here hx rfl (hb hby at_133) rfl rfl ?_
        show Steps p.tables e below (T10.setTop (mkF m 135 #[.val (.int p1), .val (.int p2), .val (.int p3), .val (.ref b1), .val (.ref b3), .val (.int (1 : Int32)), .val (.int (1 : Int32)), .val (.int p1), .val (.ref b1), .val (.ref b5), .val (.ref b7), .val (.int (1 : Int32)), .val (.ref bx9), .val .null] [(.ref b7)])) _
        refine XS.aload X10.here hx rfl (hb hby at_135) rfl rfl ?_
        show Steps p.tables e below (T10.setTop (mkF m 137 #[.val (.int p1), .val (.int p2), .val (.int p3), .val (.ref b1), .val (.ref b3), .val (.int (1 : Int32)), .val (.int (1 : Int32)), .val (.int p1), .val (.ref b1), .val (.ref b5), .val (.ref b7), .val (.int (1 : Int32)), .val (.ref bx9), .val .null] [(.ref b5), (.ref b7)])) _
        refine st11.trans ?_
        show Steps p.tables e below (T11.setTop (mkF m 140 #[.val (.int p1), .val (.int p2), .val (.int p3), .val (.ref b1), .val (.ref b3), .val (.int (1 : Int32)), .val (.int (1 : Int32)), .val (.int p1), .val (.ref b1), .val (.ref b5), .val (.ref b7), .val (.int (1 : Int32)), .val (.ref bx9), .val .null] [(.int (1 : Int32))])) _
        refine XS.iload X11.here hx rfl (hb hby at_140) rfl ?_
        show Steps p.tables e below (T11.setTop (mkF m 142 #[.val (.int p1), .val (.int p2), .val (.int p3), .val (.ref b1), .val (.ref b3), .val (.int (1 : Int32)), .val (.int (1 : Int32)), .val (.int p1), .val (.ref b1), .val (.ref b5), .val (.ref b7), .val (.int (1 : Int32)), .val (.ref bx9), .val .null] [(.int (1 : Int32)), (.int (1 : Int32))])) _
        refine XS.icmpNo X11.here hx rfl (hb hby at_142) rfl (teq (by decide : (1 : Int32) = (1 : Int32))).2 ?_
        show Steps p.tables e below (T11.setTop (mkF m 145 #[.val (.int p1), .val (.int p2), .val (.int p3), .val (.ref b1), .val (.ref b3), .val (.int (1 : Int32)), .val (.int (1 : Int32)), .val (.int p1), .val (.ref b1), .val (.ref b5), .val (.ref b7), .val (.int (1 : Int32)), .val (.ref bx9), .val .null] [])) _
        refine XS.aload X11.here hx rfl (hb hby at_145) rfl rfl ?_
        show Steps p.tables e below (T11.setTop (mkF m 147 #[.val (.int p1), .val (.int p2), .val (.int p3), .val (.ref b1), .val (.ref b3), .val (.int (1 : Int32)), .val (.int (1 : Int32)), .val (.int p1), .val (.ref b1), .val (.ref b5), .val (.ref b7), .val (.int (1 : Int32)), .val (.ref bx9), .val .null] [(.ref b5)])) _
        refine XS.aload X11.here hx rfl (hb hby at_147) rfl rfl ?_
        show Steps p.tables e below (T11.setTop (mkF m 149 #[.val (.int p1), .val (.int p2), .val (.int p3), .val (.ref b1), .val (.ref b3), .val (.int (1 : Int32)), .val (.int (1 : Int32)), .val (.int p1), .val (.ref b1), .val (.ref b5), .val (.ref b7), .val (.int (1 : Int32)), .val (.ref bx9), .val .null] [(.ref b5), (.ref b5)])) _
        refine st12.trans ?_
        show Steps p.tables e below (T12.setTop (mkF m 152 #[.val (.int p1), .val (.int p2), .val (.int p3), .val (.ref b1), .val (.ref b3), .val (.int (1 : Int32)), .val (.int (1 : Int32)), .val (.int p1), .val (.ref b1), .val (.ref b5), .val (.ref b7), .val (.int (1 : Int32)), .val (.ref bx9), .val .null] [(.int (1 : Int32))])) _
        refine XS.ifNo X12.here hx rfl (hb hby at_152) rfl ((if0 _ _).trans (feq (by decide : ¬ ((1 : Int32) = (0 : Int32)))).1) ?_
        show Steps p.tables e below (T12.setTop (mkF m 155 #[.val (.int p1), .val (.int p2), .val (.int p3), .val (.ref b1), .val (.ref b3), .val (.int (1 : Int32)), .val (.int (1 : Int32)), .val (.int p1), .val (.ref b1), .val (.ref b5), .val (.ref b7), .val (.int (1 : Int32)), .val (.ref bx9), .val .null] [])) _
        refine XS.aload X12.here hx rfl (hb hby at_155) rfl rfl ?_
        show Steps p.tables e below (T12.setTop (mkF m 157 #[.val (.int p1), .val (.int p2), .val (.int p3), .val (.ref b1), .val (.ref b3), .val (.int (1 : Int32)), .val (.int (1 : Int32)), .val (.int p1), .val (.ref b1), .val (.ref b5), .val (.ref b7), .val (.int (1 : Int32)), .val (.ref bx9), .val .null] [(.ref b5)])) _
        refine XS.aload X12.here hx rfl (hb hby at_157) rfl rfl ?_
        show Steps p.tables e below (T12.setTop (mkF m 159 #[.val (.int p1), .val (.int p2), .val (.int p3), .val (.ref b1), .val (.ref b3), .val (.int (1 : Int32)), .val (.int (1 : Int32)), .val (.int p1), .val (.ref b1), .val (.ref b5), .val (.ref b7), .val (.int (1 : Int32)), .val (.ref bx9), .val .null] [(.ref bx9), (.ref b5)])) _
        refine st13.trans ?_
        show Steps p.tables e below (T13.setTop (mkF m 162 #[.val (.int p1), .val (.int p2), .val (.int p3), .val (.ref b1), .val (.ref b3), .val (.int (1 : Int32)), .val (.int (1 : Int32)), .val (.int p1), .val (.ref b1), .val (.ref b5), .val (.ref b7), .val (.int (1 : Int32)), .val (.ref bx9), .val .null] [(.int (0 : Int32))])) _
        refine XS.ifNo X13.here hx rfl (hb hby at_162) rfl ((if0 _ _).trans (teq (by decide : (0 : Int32) = (0 : Int32))).2) ?_
        show Steps p.tables e below (T13.setTop (mkF m 165 #[.val (.int p1), .val (.int p2), .val (.int p3), .val (.ref b1), .val (.ref b3), .val (.int (1 : Int32)), .val (.int (1 : Int32)), .val (.int p1), .val (.ref b1), .val (.ref b5), .val (.ref b7), .val (.int (1 : Int32)), .val (.ref bx9), .val .null] [])) _
        refine XS.aload X13.here hx rfl (hb hby at_165) rfl rfl ?_
        show Steps p.tables e below (T13.setTop (mkF m 167 #[.val (.int p1), .val (.int p2), .val (.int p3), .val (.ref b1), .val (.ref b3), .val (.int (1 : Int32)), .val (.int (1 : Int32)), .val (.int p1), .val (.ref b1), .val (.ref b5), .val (.ref b7), .val (.int (1 : Int32)), .val (.ref bx9), .val .null] [(.ref b5)])) _
        refine XS.aload X13.here hx rfl (hb hby at_167) rfl rfl ?_
        show Steps p.tables e below (T13.setTop (mkF m 169 #[.val (.int p1), .val (.int p2), .val (.int p3), .val (.ref b1), .val (.ref b3), .val (.int (1 : Int32)), .val (.int (1 : Int32)), .val (.int p1), .val (.ref b1), .val (.ref b5), .val (.ref b7), .val (.int (1 : Int32)), .val (.ref bx9), .val .null] [.null, (.ref b5)])) _
        refine st14.trans ?_
        show Steps p.tables e below (T14.setTop (mkF m 172 #[.val (.int p1), .val (.int p2), .val (.int p3), .val (.ref b1), .val (.ref b3), .val (.int (1 : Int32)), .val (.int (1 : Int32)), .val (.int p1), .val (.ref b1), .val (.ref b5), .val (.ref b7), .val (.int (1 : Int32)), .val (.ref bx9), .val .null] [(.int (0 : Int32))])) _
        refine XS.ifNo X14.here hx rfl (hb hby at_172) rfl ((if0 _ _).trans (teq (by decide : (0 : Int32) = (0 : Int32))).2) ?_
        show Steps p.tables e below (T14.setTop (mkF m 175 #[.val (.int p1), .val (.int p2), .val (.int p3), .val (.ref b1), .val (.ref b3), .val (.int (1 : Int32)), .val (.int (1 : Int32)), .val (.int p1), .val (.ref b1), .val (.ref b5), .val (.ref b7), .val (.int (1 : Int32)), .val (.ref bx9), .val .null] [])) _
        refine XS.iconst X14.here hx rfl (hb hby at_175) ?_
        show Steps p.tables e below (T14.setTop (mkF m 176 #[.val (.int p1), .val (.int p2), .val (.int p3), .val (.ref b1), .val (.ref b3), .val (.int (1 : Int32)), .val (.int (1 : Int32)), .val (.int p1), .val (.ref b1), .val (.ref b5), .val (.ref b7), .val (.int (1 : Int32)), .val (.ref bx9), .val .null] [(.int (1 : Int32))])) _
        refine XS.goto X14.here hx rfl (pc0 := 176) (pc' := 180) rfl (hb hby at_176) (by decide) (by decide) ?_
        show Steps p.tables e below (T14.setTop (mkF m 180 #[.val (.int p1), .val (.int p2), .val (.int p3), .val (.ref b1), .val (.ref b3), .val (.int (1 : Int32)), .val (.int (1 : Int32)), .val (.int p1), .val (.ref b1), .val (.ref b5), .val (.ref b7), .val (.int (1 : Int32)), .val (.ref bx9), .val .null] [(.int (1 : Int32))])) _
        exact retN X14 hx (t := .boolean) Bd.returns (by simp) (hb hby at_180) hr
      · show Q_rm0 Z p1 p2 p3 ca h0 n0 _ T14.heap _
        rw [e14]
        exact ⟨rfl, N14⟩
set_option maxRecDepth 65536 in
set_option maxHeartbeats 40000000 in
theorem comes_1 {Post : Tables → Env → Array Value → State → Outcome → State → Prop} (hpost : ∀ tb e args s v u, (limb_1_1.after args s (.returned v) u = true ∧ limb_1_2.after args s (.returned v) u = true ∧ True) → FrameEnd s (.returned v) u (Jvm.fieldLocs frame_1_writes args s ++ Jvm.arrayLocs frame_1_arrays args s ++ Jvm.staticLocs frame_1_statics s) 72 164032 → Post tb e args s (.returned v) u) :
    ArmFor flags0 classFile x code maxLocals ret World_1 tables_1 room_1 Calls_1 rest_1 Pre_1 Post := by
  intro l hfl _ _ p e ha hc hk s m args below hf hA hF happ hP
  obtain ⟨hcalls, hrest, hpre⟩ := hP
  obtain ⟨-, -, -, hnamed, -, -, -, hat⟩ := (Spec.applies_iff hf).mp happ
  obtain ⟨hg, hn⟩ := and_e (Cond.before_iff.mp (show (Jvm.Cond.and given_1 narrow_1).before args s = true from hpre))
  obtain ⟨g1, g2⟩ := and_e hg
  obtain ⟨g3, g4⟩ := and_e g2
  obtain ⟨g5, g6⟩ := and_e g4
  obtain ⟨w0, w1, w2, rfl⟩ : ∃ w0 w1 w2 : Value, args = #[w0, w1, w2] := by
    have hs : args.size = 3 := by simpa [Cond.value, given_1] using g1
    obtain ⟨L⟩ := args
    match L, hs with
    | [w0, w1, w2], _ => exact ⟨w0, w1, w2, rfl⟩
  have hw := fun d (hd : d ∈ tables_1) => atoms_spec (ws := Jvm.Cond.code x code maxLocals ret :: tables_1) hat d (List.mem_cons_of_mem _ hd)
  have hfit : Fit s := fun {y c} hc i hi => by
    obtain ⟨ha, rfl⟩ := Array.getElem?_eq_some_iff.mp hc
    have q := List.all_eq_true.mp ((Array.all_eq_true_iff_forall_mem.mp hF) _ (Array.getElem_mem ha)) i (List.mem_range.mpr hi)
    simpa [Array.getElem?_eq_getElem hi] using q
  obtain ⟨hsets, hown0⟩ := atoms_of _ (rest_1_c_eq ▸ (show rest_1_c.before _ s = true from hrest))
  have hr0 := Cond.before_iff.mp hown0
  obtain ⟨i0, ei0⟩ := is_v g3
  obtain rfl : w0 = (.int i0) := Option.some.inj ei0
  obtain ⟨i1, ei1⟩ := is_v g5
  obtain rfl : w1 = (.int i1) := Option.some.inj ei1
  obtain ⟨i2, ei2⟩ := is_v g6
  obtain rfl : w2 = (.int i2) := Option.some.inj ei2
  obtain ⟨ca, ec⟩ := arr_v (Cond.before_iff.mp (hsets _ (List.mem_of_getElem? (i := 4) rfl)))
  have S_ca := Sta.start ec (Or.inr ⟨(hw _ (List.mem_of_getElem? (i := 71) rfl)), (hsets _ (List.mem_of_getElem? (i := 2) rfl))⟩)
  have eh : (Term.static "java/lang/Integer$IntegerCache" "high" "I").eval _ s none [] s = some (.int (127 : Int32)) := Cond.eq_int (hsets _ (List.mem_of_getElem? (i := 3) rfl)) rfl
  have S_hi := Sta.start eh (Or.inr ⟨(hw _ (List.mem_of_getElem? (i := 71) rfl)), (hsets _ (List.mem_of_getElem? (i := 0) rfl))⟩)
  have C0 := own_cache_start ec (hsets _ (List.mem_of_getElem? (i := 4) rfl)) (hsets _ (List.mem_of_getElem? (i := 6) rfl)) (hsets _ (List.mem_of_getElem? (i := 7) rfl))
  obtain ⟨n, o, h1, h2, h3, _, L, rfl, ⟨rfl, N⟩, hq⟩ := rm0 l s _ hw tables_1 i0 i1 i2 ca s.heap s.heap.size (Nat.le_refl _) S_hi S_ca C0 p e ha hc hk s m _ below hf ((Spec.applies_iff_loose hf).mp happ).1 ⟨rfl, State.Warmed39.refl s, rfl⟩ trivial
  refine ⟨n, _, h1, h2, h3, hpost _ _ _ _ _ _ ⟨Cond.after_iff.mpr rfl, Cond.after_iff.mpr (eq_i res_at (Term.int_eval (1)) rfl), trivial⟩ ⟨hq.1, hq.2.1, (hq.2.2.sift fun y hy => Or.inr (N y hy)).mono (by decide) (by decide)⟩⟩
theorem main_1_1 : Claimed_1_1 := comes_1 fun _ _ _ _ _ _ h hF => ⟨h.1, hF⟩
theorem main_1_2 : Claimed_1_2 := comes_1 fun _ _ _ _ _ _ h hF => ⟨h.2.1, hF⟩
end Jvm.Pilot.@@N@@
namespace Jvm.Pilot.@@N@@
open Jvm Jvm.ClassFile Sem Op Lib Jvm.Free Jvm.Stand Jvm.Pilot.@@N@@.Jvm.D
/-! MADE BY PROGRAM (witnessworld.py) out of the Statement's table words and the real class files: 18 classes; the members and pool entries that the words name. The judged class is class 1, her method 1. -/
namespace start1
open Jvm.ClassFile
def u (s : String) : CpInfo := .utf8 (stringToUtf16 s)
/-- a pool by its gaps: so many unusable entries, then the entry; so many at the end -/
def gap : Nat → List CpInfo → List CpInfo
  | 0, r => r
  | n + 1, r => .unusable :: gap n r
def poolList (es : List (Nat × CpInfo)) (last : Nat) : List CpInfo := es.foldr (fun e r => gap e.1 (e.2 :: r)) (gap last [])
def pool (es : List (Nat × CpInfo)) (last : Nat) : Array CpInfo := ⟨poolList es last⟩
def fileOf (pool : Array CpInfo) (this : Nat) (attrs : Array Attribute := #[]) (ms : Array MethodInfo := #[]) (fl : Nat := 33) (sup : Nat := 0) (ifs : Array Nat := #[]) (fds : Array FieldInfo := #[]) : ClassFile where
  minorVersion := 0
  majorVersion := 65
  constantPool := pool
  accessFlags := fl
  thisClass := this
  superClass := sup
  interfaces := ifs
  fields := fds
  methods := ms
  attributes := attrs
def plain (name : String) (sup : Option ClassId) : Class where
  name := name
  kind := .ordinary
  loader := none
  accessFlags := 33
  super := sup
  interfaces := #[]
  cf := none
  fields := #[]
  methods := #[]
  instanceTypes := #[]
  staticTypes := #[]
  resolved := #[]
  callSites := []
  init := .initialized
  statics := none
  mirror := none

def pool0 : Array CpInfo := pool [(5, u "<init>"), (0, u "()V"), (1, .class_ 10), (1, u "java/lang/Object")] 113

def k0c0 : Code := { maxStack := 0, maxLocals := 1, code := object_method_1_code, exceptionTable := #[], attributes := #[] }
def k0m0 : Method := { name := "<init>", desc := "()V", sig := { parameters := [], returnType := none }, accessFlags := 1, code := some k0c0 }
/-- java/lang/Object -/
def k0 : Class := { plain "java/lang/Object" none with
  accessFlags := 33
  interfaces := #[]
  cf := some (fileOf pool0 8 #[] #[{ accessFlags := 1, nameIndex := 5, descriptorIndex := 6, attributes := #[] }] 33 0 #[] #[])
  fields := #[]
  methods := #[k0m0]
  instanceTypes := #[]
  staticTypes := #[]
  resolved := Array.replicate 124 none
  statics := none }

def pool1 : Array CpInfo := pool [(2, .class_ 4), (0, .nameAndType 5 6), (0, u "java/lang/Object"), (0, u "<init>"), (0, u "()V"), (0, .class_ 8), (0, u "com/example/brevi/brevi/bdd/BddManager"), (0, .methodref 7 3), (0, .class_ 11), (0, u "com/example/brevi/brevi/bdd/Bdd"), (0, .methodref 10 13), (0, .nameAndType 5 14), (0, u "(Lcom/example/brevi/brevi/bdd/BddManager;I)V"), (0, .methodref 16 17), (0, .class_ 18), (0, .nameAndType 19 20), (0, u "java/lang/Integer"), (0, u "valueOf"), (0, u "(I)Ljava/lang/Integer;"), (0, .methodref 10 22), (0, .nameAndType 23 24), (0, u "equals"), (0, u "(Ljava/lang/Object;)Z"), (0, .class_ 26), (0, u "com/example/brevi/brevi/bdd/BddEqualsPinLaw"), (2, u "law"), (0, u "(III)Z")] 3

def k1m0 : Method := { name := "<init>", desc := "()V", sig := { parameters := [], returnType := none }, accessFlags := 1, code := none }
def k1c1 : Code := { maxStack := 4, maxLocals := 14, code := code, exceptionTable := #[], attributes := #[] }
def k1m1 : Method := { name := "law", desc := "(III)Z", sig := { parameters := [.int, .int, .int], returnType := some .boolean }, accessFlags := 9, code := some k1c1 }
/-- com/example/brevi/brevi/bdd/BddEqualsPinLaw -/
def k1 : Class := { plain "com/example/brevi/brevi/bdd/BddEqualsPinLaw" (some 0) with
  accessFlags := 49
  interfaces := #[]
  cf := some (fileOf pool1 25 #[] #[{ accessFlags := 1, nameIndex := 5, descriptorIndex := 6, attributes := #[] }, { accessFlags := 9, nameIndex := 29, descriptorIndex := 30, attributes := #[] }] 49 2 #[] #[])
  fields := #[]
  methods := #[k1m0, k1m1]
  instanceTypes := #[]
  staticTypes := #[]
  resolved := Array.replicate 34 none
  statics := none }

def pool2 : Array CpInfo := pool [(3, .methodref 4 5), (0, .class_ 6), (0, .nameAndType 7 8), (0, u "java/lang/Object"), (0, u "<init>"), (0, u "()V"), (0, .class_ 10), (0, u "com/example/brevi/brevi/bdd/BddManager"), (0, .methodref 9 12), (0, .nameAndType 13 14), (0, u "allocateNodes"), (0, u "(I)V"), (0, .methodref 9 16), (0, .nameAndType 17 14), (0, u "allocateCache"), (0, .integer 2147483647), (0, .methodref 9 20), (0, .nameAndType 21 22), (0, u "addNode"), (0, u "(III)I"), (0, .class_ 24), (0, u "com/example/brevi/brevi/bdd/Bdd"), (0, .methodref 23 26), (0, .nameAndType 7 27), (0, u "(Lcom/example/brevi/brevi/bdd/BddManager;I)V"), (0, .fieldref 9 29), (0, .nameAndType 30 31), (0, u "falseBdd"), (0, u "Lcom/example/brevi/brevi/bdd/Bdd;"), (0, .fieldref 9 33), (0, .nameAndType 34 31), (0, u "trueBdd"), (2, u "variableCount"), (0, u "I"), (13, u "[I"), (3, .class_ 58), (1, u "java/util/Arrays"), (20, u "renamingCount"), (14, .fieldref 9 95), (0, .nameAndType 96 52), (0, u "variableOf"), (16, .fieldref 9 114), (0, .nameAndType 115 52), (0, u "highOf"), (0, .fieldref 9 117), (0, .nameAndType 118 52), (0, u "lowOf"), (23, .methodref 56 143), (0, .nameAndType 144 145), (0, u "fill"), (0, u "([II)V"), (116, .fieldref 9 263), (0, .nameAndType 264 52), (0, u "bucketHead"), (0, .fieldref 9 266), (0, .nameAndType 267 52), (0, u "nextInBucket"), (0, .fieldref 9 269), (0, .nameAndType 270 38), (0, u "nodeCount"), (15, .fieldref 9 287), (0, .nameAndType 288 52), (0, u "cacheResult"), (1, .fieldref 9 291), (0, .nameAndType 292 52), (0, u "cacheOperation"), (0, .fieldref 9 294), (0, .nameAndType 295 52), (0, u "cacheFirst"), (0, .fieldref 9 297), (0, .nameAndType 298 52), (0, u "cacheSecond"), (0, .fieldref 9 300), (0, .nameAndType 301 52), (0, u "cacheThird"), (11, u "FALSE_NODE"), (2, u "TRUE_NODE"), (1, u "TERMINAL_VARIABLE"), (0, u "INITIAL_CAPACITY"), (1, u "MAX_CAPACITY"), (0, u "MAX_CACHE_SIZE"), (0, u "ITE"), (0, u "EXISTS"), (0, u "AND_EXISTS"), (1, u "REPLACE")] 46

def k2c0 : Code := { maxStack := 5, maxLocals := 1, code := prog_5_method_1_code, exceptionTable := #[], attributes := #[] }
def k2m0 : Method := { name := "<init>", desc := "()V", sig := { parameters := [], returnType := none }, accessFlags := 1, code := some k2c0 }
def k2c1 : Code := { maxStack := 4, maxLocals := 5, code := prog_5_method_28_code, exceptionTable := #[], attributes := #[] }
def k2m1 : Method := { name := "addNode", desc := "(III)I", sig := { parameters := [.int, .int, .int], returnType := some .int }, accessFlags := 2, code := some k2c1 }
def k2c2 : Code := { maxStack := 2, maxLocals := 2, code := prog_5_method_29_code, exceptionTable := #[], attributes := #[] }
def k2m2 : Method := { name := "allocateNodes", desc := "(I)V", sig := { parameters := [.int], returnType := none }, accessFlags := 2, code := some k2c2 }
def k2c3 : Code := { maxStack := 2, maxLocals := 2, code := prog_5_method_31_code, exceptionTable := #[], attributes := #[] }
def k2m3 : Method := { name := "allocateCache", desc := "(I)V", sig := { parameters := [.int], returnType := none }, accessFlags := 2, code := some k2c3 }
/-- com/example/brevi/brevi/bdd/BddManager -/
def k2 : Class := { plain "com/example/brevi/brevi/bdd/BddManager" (some 0) with
  accessFlags := 49
  interfaces := #[]
  cf := some (fileOf pool2 9 #[] #[{ accessFlags := 1, nameIndex := 7, descriptorIndex := 8, attributes := #[] }, { accessFlags := 2, nameIndex := 21, descriptorIndex := 22, attributes := #[] }, { accessFlags := 2, nameIndex := 13, descriptorIndex := 14, attributes := #[] }, { accessFlags := 2, nameIndex := 17, descriptorIndex := 14, attributes := #[] }] 49 4 #[] #[{ accessFlags := 24, nameIndex := 313, descriptorIndex := 38, attributes := #[] }, { accessFlags := 24, nameIndex := 316, descriptorIndex := 38, attributes := #[] }, { accessFlags := 26, nameIndex := 318, descriptorIndex := 38, attributes := #[] }, { accessFlags := 26, nameIndex := 319, descriptorIndex := 38, attributes := #[] }, { accessFlags := 26, nameIndex := 321, descriptorIndex := 38, attributes := #[] }, { accessFlags := 26, nameIndex := 322, descriptorIndex := 38, attributes := #[] }, { accessFlags := 26, nameIndex := 323, descriptorIndex := 38, attributes := #[] }, { accessFlags := 26, nameIndex := 324, descriptorIndex := 38, attributes := #[] }, { accessFlags := 26, nameIndex := 325, descriptorIndex := 38, attributes := #[] }, { accessFlags := 26, nameIndex := 327, descriptorIndex := 38, attributes := #[] }, { accessFlags := 2, nameIndex := 37, descriptorIndex := 38, attributes := #[] }, { accessFlags := 2, nameIndex := 79, descriptorIndex := 38, attributes := #[] }, { accessFlags := 2, nameIndex := 270, descriptorIndex := 38, attributes := #[] }, { accessFlags := 2, nameIndex := 96, descriptorIndex := 52, attributes := #[] }, { accessFlags := 2, nameIndex := 118, descriptorIndex := 52, attributes := #[] }, { accessFlags := 2, nameIndex := 115, descriptorIndex := 52, attributes := #[] }, { accessFlags := 2, nameIndex := 267, descriptorIndex := 52, attributes := #[] }, { accessFlags := 2, nameIndex := 264, descriptorIndex := 52, attributes := #[] }, { accessFlags := 2, nameIndex := 292, descriptorIndex := 52, attributes := #[] }, { accessFlags := 2, nameIndex := 295, descriptorIndex := 52, attributes := #[] }, { accessFlags := 2, nameIndex := 298, descriptorIndex := 52, attributes := #[] }, { accessFlags := 2, nameIndex := 301, descriptorIndex := 52, attributes := #[] }, { accessFlags := 2, nameIndex := 288, descriptorIndex := 52, attributes := #[] }, { accessFlags := 18, nameIndex := 30, descriptorIndex := 31, attributes := #[] }, { accessFlags := 18, nameIndex := 34, descriptorIndex := 31, attributes := #[] }])
  fields := #[{ name := "FALSE_NODE", type := .int, accessFlags := 24, slot := 0, constantValue := 0 }, { name := "TRUE_NODE", type := .int, accessFlags := 24, slot := 1, constantValue := 0 }, { name := "TERMINAL_VARIABLE", type := .int, accessFlags := 26, slot := 2, constantValue := 0 }, { name := "INITIAL_CAPACITY", type := .int, accessFlags := 26, slot := 3, constantValue := 0 }, { name := "MAX_CAPACITY", type := .int, accessFlags := 26, slot := 4, constantValue := 0 }, { name := "MAX_CACHE_SIZE", type := .int, accessFlags := 26, slot := 5, constantValue := 0 }, { name := "ITE", type := .int, accessFlags := 26, slot := 6, constantValue := 0 }, { name := "EXISTS", type := .int, accessFlags := 26, slot := 7, constantValue := 0 }, { name := "AND_EXISTS", type := .int, accessFlags := 26, slot := 8, constantValue := 0 }, { name := "REPLACE", type := .int, accessFlags := 26, slot := 9, constantValue := 0 }, { name := "variableCount", type := .int, accessFlags := 2, slot := 0, constantValue := 0 }, { name := "renamingCount", type := .int, accessFlags := 2, slot := 1, constantValue := 0 }, { name := "nodeCount", type := .int, accessFlags := 2, slot := 2, constantValue := 0 }, { name := "variableOf", type := (.array .int), accessFlags := 2, slot := 3, constantValue := 0 }, { name := "lowOf", type := (.array .int), accessFlags := 2, slot := 4, constantValue := 0 }, { name := "highOf", type := (.array .int), accessFlags := 2, slot := 5, constantValue := 0 }, { name := "nextInBucket", type := (.array .int), accessFlags := 2, slot := 6, constantValue := 0 }, { name := "bucketHead", type := (.array .int), accessFlags := 2, slot := 7, constantValue := 0 }, { name := "cacheOperation", type := (.array .int), accessFlags := 2, slot := 8, constantValue := 0 }, { name := "cacheFirst", type := (.array .int), accessFlags := 2, slot := 9, constantValue := 0 }, { name := "cacheSecond", type := (.array .int), accessFlags := 2, slot := 10, constantValue := 0 }, { name := "cacheThird", type := (.array .int), accessFlags := 2, slot := 11, constantValue := 0 }, { name := "cacheResult", type := (.array .int), accessFlags := 2, slot := 12, constantValue := 0 }, { name := "falseBdd", type := (.object "com/example/brevi/brevi/bdd/Bdd"), accessFlags := 18, slot := 13, constantValue := 0 }, { name := "trueBdd", type := (.object "com/example/brevi/brevi/bdd/Bdd"), accessFlags := 18, slot := 14, constantValue := 0 }]
  methods := #[k2m0, k2m1, k2m2, k2m3]
  instanceTypes := #[.int, .int, .int, (.array .int), (.array .int), (.array .int), (.array .int), (.array .int), (.array .int), (.array .int), (.array .int), (.array .int), (.array .int), (.object "com/example/brevi/brevi/bdd/Bdd"), (.object "com/example/brevi/brevi/bdd/Bdd")]
  staticTypes := #[.int, .int, .int, .int, .int, .int, .int, .int, .int, .int]
  resolved := Array.replicate 374 none
  statics := none }

def pool3 : Array CpInfo := pool [(2, .class_ 4), (1, u "java/lang/Object"), (0, u "<init>"), (0, u "()V"), (7, .class_ 16), (1, u "java/util/Arrays"), (57, .class_ 76), (1, u "java/util/Arrays$NaturalOrder"), (36, .class_ 115), (1, u "java/util/Arrays$LegacyMergeSort"), (1, u "Z"), (257, .class_ 376), (0, u "java/util/Arrays$ArrayList"), (68, u "$assertionsDisabled"), (269, u "MIN_ARRAY_SORT_GRAN"), (0, u "I"), (2, u "INSERTIONSORT_THRESHOLD"), (120, u "fill"), (4, u "([II)V"), (129, .class_ 976), (0, u "java/util/Arrays$ArrayItr")] 52

def k3m0 : Method := { name := "<init>", desc := "()V", sig := { parameters := [], returnType := none }, accessFlags := 2, code := none }
def k3c1 : Code := { maxStack := 3, maxLocals := 4, code := jdk_65_method_103_code, exceptionTable := #[], attributes := #[] }
def k3m1 : Method := { name := "fill", desc := "([II)V", sig := { parameters := [(.array .int), .int], returnType := none }, accessFlags := 9, code := some k3c1 }
/-- java/util/Arrays -/
def k3 : Class := { plain "java/util/Arrays" (some 0) with
  accessFlags := 49
  interfaces := #[]
  cf := some (fileOf pool3 14 #[.nestMembers #[975, 375, 113, 74]] #[{ accessFlags := 2, nameIndex := 5, descriptorIndex := 6, attributes := #[] }, { accessFlags := 9, nameIndex := 840, descriptorIndex := 845, attributes := #[] }] 49 2 #[] #[{ accessFlags := 26, nameIndex := 715, descriptorIndex := 716, attributes := #[] }, { accessFlags := 26, nameIndex := 719, descriptorIndex := 716, attributes := #[] }, { accessFlags := 4120, nameIndex := 445, descriptorIndex := 117, attributes := #[] }])
  fields := #[{ name := "MIN_ARRAY_SORT_GRAN", type := .int, accessFlags := 26, slot := 0, constantValue := 0 }, { name := "INSERTIONSORT_THRESHOLD", type := .int, accessFlags := 26, slot := 1, constantValue := 0 }, { name := "$assertionsDisabled", type := .boolean, accessFlags := 4120, slot := 2, constantValue := 0 }]
  methods := #[k3m0, k3m1]
  instanceTypes := #[]
  staticTypes := #[.int, .int, .boolean]
  resolved := Array.replicate 1029 none
  statics := none }

def pool4 : Array CpInfo := pool [(1, .methodref 2 3), (0, .class_ 4), (0, .nameAndType 5 6), (0, u "java/lang/Object"), (0, u "<init>"), (0, u "()V"), (0, .fieldref 8 9), (0, .class_ 10), (0, .nameAndType 11 12), (0, u "com/example/brevi/brevi/bdd/Bdd"), (0, u "manager"), (0, u "Lcom/example/brevi/brevi/bdd/BddManager;"), (0, .fieldref 8 14), (0, .nameAndType 15 16), (0, u "node"), (0, u "I"), (82, u "(Lcom/example/brevi/brevi/bdd/BddManager;I)V"), (17, u "equals"), (0, u "(Ljava/lang/Object;)Z")] 3

def k4c0 : Code := { maxStack := 2, maxLocals := 3, code := prog_3_method_1_code, exceptionTable := #[], attributes := #[] }
def k4m0 : Method := { name := "<init>", desc := "(Lcom/example/brevi/brevi/bdd/BddManager;I)V", sig := { parameters := [(.object "com/example/brevi/brevi/bdd/BddManager"), .int], returnType := none }, accessFlags := 0, code := some k4c0 }
def k4c1 : Code := { maxStack := 2, maxLocals := 3, code := prog_3_method_19_code, exceptionTable := #[], attributes := #[] }
def k4m1 : Method := { name := "equals", desc := "(Ljava/lang/Object;)Z", sig := { parameters := [(.object "java/lang/Object")], returnType := some .boolean }, accessFlags := 1, code := some k4c1 }
/-- com/example/brevi/brevi/bdd/Bdd -/
def k4 : Class := { plain "com/example/brevi/brevi/bdd/Bdd" (some 0) with
  accessFlags := 49
  interfaces := #[]
  cf := some (fileOf pool4 8 #[] #[{ accessFlags := 0, nameIndex := 5, descriptorIndex := 99, attributes := #[] }, { accessFlags := 1, nameIndex := 117, descriptorIndex := 118, attributes := #[] }] 49 2 #[] #[{ accessFlags := 18, nameIndex := 11, descriptorIndex := 12, attributes := #[] }, { accessFlags := 18, nameIndex := 15, descriptorIndex := 16, attributes := #[] }])
  fields := #[{ name := "manager", type := (.object "com/example/brevi/brevi/bdd/BddManager"), accessFlags := 18, slot := 0, constantValue := 0 }, { name := "node", type := .int, accessFlags := 18, slot := 1, constantValue := 0 }]
  methods := #[k4m0, k4m1]
  instanceTypes := #[(.object "com/example/brevi/brevi/bdd/BddManager"), .int]
  staticTypes := #[]
  resolved := Array.replicate 122 none
  statics := none }

def pool5 : Array CpInfo := pool [(1, .class_ 2), (0, u "java/io/Serializable"), (0, .class_ 4), (0, u "java/lang/Object")] 2

/-- java/io/Serializable -/
def k5 : Class := { plain "java/io/Serializable" (some 0) with
  accessFlags := 1537
  interfaces := #[]
  cf := some (fileOf pool5 1 #[] #[] 1537 3 #[] #[])
  fields := #[]
  methods := #[]
  instanceTypes := #[]
  staticTypes := #[]
  resolved := Array.replicate 7 none
  statics := none }

def pool6 : Array CpInfo := pool [(1, .methodref 2 3), (0, .class_ 4), (0, .nameAndType 5 6), (0, u "java/lang/Object"), (0, u "<init>"), (0, u "()V"), (1, .class_ 10), (1, u "java/lang/Number"), (2, .class_ 14), (0, u "java/io/Serializable"), (0, u "serialVersionUID"), (0, u "J")] 20

def k6c0 : Code := { maxStack := 1, maxLocals := 1, code := jdk_18_method_1_code, exceptionTable := #[], attributes := #[] }
def k6m0 : Method := { name := "<init>", desc := "()V", sig := { parameters := [], returnType := none }, accessFlags := 1, code := some k6c0 }
/-- java/lang/Number -/
def k6 : Class := { plain "java/lang/Number" (some 0) with
  accessFlags := 1057
  interfaces := #[5]
  cf := some (fileOf pool6 8 #[] #[{ accessFlags := 1, nameIndex := 5, descriptorIndex := 6, attributes := #[] }] 1057 2 #[13] #[{ accessFlags := 26, nameIndex := 15, descriptorIndex := 16, attributes := #[] }])
  fields := #[{ name := "serialVersionUID", type := .long, accessFlags := 26, slot := 0, constantValue := 0 }]
  methods := #[k6m0]
  instanceTypes := #[]
  staticTypes := #[.long]
  resolved := Array.replicate 37 none
  statics := none }

def pool7 : Array CpInfo := pool [(1, .class_ 2), (0, u "java/lang/Comparable"), (0, .class_ 4), (0, u "java/lang/Object")] 7

/-- java/lang/Comparable -/
def k7 : Class := { plain "java/lang/Comparable" (some 0) with
  accessFlags := 1537
  interfaces := #[]
  cf := some (fileOf pool7 1 #[] #[] 1537 3 #[] #[])
  fields := #[]
  methods := #[]
  instanceTypes := #[]
  staticTypes := #[]
  resolved := Array.replicate 12 none
  statics := none }

def pool8 : Array CpInfo := pool [(1, .class_ 2), (0, u "java/lang/constant/Constable"), (0, .class_ 4), (0, u "java/lang/Object")] 6

/-- java/lang/constant/Constable -/
def k8 : Class := { plain "java/lang/constant/Constable" (some 0) with
  accessFlags := 1537
  interfaces := #[]
  cf := some (fileOf pool8 1 #[] #[] 1537 3 #[] #[])
  fields := #[]
  methods := #[]
  instanceTypes := #[]
  staticTypes := #[]
  resolved := Array.replicate 11 none
  statics := none }

def pool9 : Array CpInfo := pool [(1, .class_ 2), (0, u "java/lang/constant/ConstantDesc"), (0, .class_ 4), (0, u "java/lang/Object")] 32

/-- java/lang/constant/ConstantDesc -/
def k9 : Class := { plain "java/lang/constant/ConstantDesc" (some 0) with
  accessFlags := 1537
  interfaces := #[]
  cf := some (fileOf pool9 1 #[] #[] 1537 3 #[] #[])
  fields := #[]
  methods := #[]
  instanceTypes := #[]
  staticTypes := #[]
  resolved := Array.replicate 37 none
  statics := none }

def pool10 : Array CpInfo := pool [(1, .class_ 2), (0, u "java/lang/Integer"), (16, u "digits"), (0, u "[C"), (46, u "<init>"), (17, u "DigitOnes"), (0, u "[B"), (2, u "DigitTens"), (10, .nameAndType 67 101), (0, u "()V"), (85, u "valueOf"), (0, u "(I)Ljava/lang/Integer;"), (0, .class_ 190), (0, u "java/lang/Integer$IntegerCache"), (0, .fieldref 189 192), (0, .nameAndType 193 194), (0, u "high"), (0, u "I"), (0, .fieldref 189 196), (0, .nameAndType 197 198), (0, u "cache"), (0, u "[Ljava/lang/Integer;"), (0, .methodref 1 200), (0, .nameAndType 67 201), (0, u "(I)V"), (0, .methodref 203 100), (0, .class_ 204), (0, u "java/lang/Number"), (0, .fieldref 1 206), (0, .nameAndType 207 194), (0, u "value"), (94, u "TYPE"), (0, u "Ljava/lang/Class;"), (0, .class_ 305), (0, u "java/lang/Comparable"), (0, .class_ 307), (0, u "java/lang/constant/Constable"), (0, .class_ 309), (0, u "java/lang/constant/ConstantDesc"), (0, u "MIN_VALUE"), (1, u "MAX_VALUE"), (3, u "SIZE"), (1, u "BYTES"), (1, u "serialVersionUID"), (0, u "J")] 131

def k10c0 : Code := { maxStack := 3, maxLocals := 1, code := jdk_33_method_22_code, exceptionTable := #[], attributes := #[] }
def k10m0 : Method := { name := "valueOf", desc := "(I)Ljava/lang/Integer;", sig := { parameters := [.int], returnType := some (.object "java/lang/Integer") }, accessFlags := 9, code := some k10c0 }
def k10c1 : Code := { maxStack := 2, maxLocals := 2, code := jdk_33_method_23_code, exceptionTable := #[], attributes := #[] }
def k10m1 : Method := { name := "<init>", desc := "(I)V", sig := { parameters := [.int], returnType := none }, accessFlags := 1, code := some k10c1 }
/-- java/lang/Integer -/
def k10 : Class := { plain "java/lang/Integer" (some 6) with
  accessFlags := 49
  interfaces := #[7, 8, 9]
  cf := some (fileOf pool10 1 #[.nestMembers #[189]] #[{ accessFlags := 9, nameIndex := 187, descriptorIndex := 188, attributes := #[] }, { accessFlags := 1, nameIndex := 67, descriptorIndex := 201, attributes := #[] }] 49 203 #[304, 306, 308] #[{ accessFlags := 25, nameIndex := 310, descriptorIndex := 194, attributes := #[] }, { accessFlags := 25, nameIndex := 312, descriptorIndex := 194, attributes := #[] }, { accessFlags := 25, nameIndex := 302, descriptorIndex := 303, attributes := #[] }, { accessFlags := 24, nameIndex := 19, descriptorIndex := 20, attributes := #[] }, { accessFlags := 24, nameIndex := 89, descriptorIndex := 86, attributes := #[] }, { accessFlags := 24, nameIndex := 85, descriptorIndex := 86, attributes := #[] }, { accessFlags := 18, nameIndex := 207, descriptorIndex := 194, attributes := #[] }, { accessFlags := 25, nameIndex := 316, descriptorIndex := 194, attributes := #[] }, { accessFlags := 25, nameIndex := 318, descriptorIndex := 194, attributes := #[] }, { accessFlags := 26, nameIndex := 320, descriptorIndex := 321, attributes := #[] }])
  fields := #[{ name := "MIN_VALUE", type := .int, accessFlags := 25, slot := 0, constantValue := 0 }, { name := "MAX_VALUE", type := .int, accessFlags := 25, slot := 1, constantValue := 0 }, { name := "TYPE", type := (.object "java/lang/Class"), accessFlags := 25, slot := 2, constantValue := 0 }, { name := "digits", type := (.array .char), accessFlags := 24, slot := 3, constantValue := 0 }, { name := "DigitTens", type := (.array .byte), accessFlags := 24, slot := 4, constantValue := 0 }, { name := "DigitOnes", type := (.array .byte), accessFlags := 24, slot := 5, constantValue := 0 }, { name := "value", type := .int, accessFlags := 18, slot := 0, constantValue := 0 }, { name := "SIZE", type := .int, accessFlags := 25, slot := 6, constantValue := 0 }, { name := "BYTES", type := .int, accessFlags := 25, slot := 7, constantValue := 0 }, { name := "serialVersionUID", type := .long, accessFlags := 26, slot := 8, constantValue := 0 }]
  methods := #[k10m0, k10m1]
  instanceTypes := #[.int]
  staticTypes := #[.int, .int, (.object "java/lang/Class"), (.array .char), (.array .byte), (.array .byte), .int, .int, .long]
  resolved := Array.replicate 453 none
  statics := none }

def pool11 : Array CpInfo := pool [(2, .class_ 4), (1, u "java/lang/Object"), (0, u "<init>"), (0, u "()V"), (0, .class_ 8), (0, u "java/lang/Integer"), (7, .class_ 18), (1, u "java/lang/Integer$IntegerCache"), (0, u "$assertionsDisabled"), (0, u "Z"), (26, u "high"), (0, u "I"), (8, u "archivedCache"), (0, u "[Ljava/lang/Integer;"), (12, u "cache"), (0, u "low")] 27

def k11m0 : Method := { name := "<init>", desc := "()V", sig := { parameters := [], returnType := none }, accessFlags := 2, code := none }
/-- java/lang/Integer$IntegerCache -/
def k11 : Class := { plain "java/lang/Integer$IntegerCache" (some 0) with
  accessFlags := 48
  interfaces := #[]
  cf := some (fileOf pool11 16 #[.nestHost 7] #[{ accessFlags := 2, nameIndex := 5, descriptorIndex := 6, attributes := #[] }] 48 2 #[] #[{ accessFlags := 24, nameIndex := 72, descriptorIndex := 48, attributes := #[] }, { accessFlags := 24, nameIndex := 47, descriptorIndex := 48, attributes := #[] }, { accessFlags := 24, nameIndex := 71, descriptorIndex := 58, attributes := #[] }, { accessFlags := 8, nameIndex := 57, descriptorIndex := 58, attributes := #[] }, { accessFlags := 4120, nameIndex := 19, descriptorIndex := 20, attributes := #[] }])
  fields := #[{ name := "low", type := .int, accessFlags := 24, slot := 0, constantValue := 0 }, { name := "high", type := .int, accessFlags := 24, slot := 1, constantValue := 0 }, { name := "cache", type := (.array (.object "java/lang/Integer")), accessFlags := 24, slot := 2, constantValue := 0 }, { name := "archivedCache", type := (.array (.object "java/lang/Integer")), accessFlags := 8, slot := 3, constantValue := 0 }, { name := "$assertionsDisabled", type := .boolean, accessFlags := 4120, slot := 4, constantValue := 0 }]
  methods := #[k11m0]
  instanceTypes := #[]
  staticTypes := #[.int, .int, (.array (.object "java/lang/Integer")), (.array (.object "java/lang/Integer")), .boolean]
  resolved := Array.replicate 100 none
  statics := some 0 }

def pool12 : Array CpInfo := pool [(1, u "java/lang/Cloneable"), (0, .class_ 1), (0, u "java/lang/Object"), (0, .class_ 3)] 3

/-- java/lang/Cloneable -/
def k12 : Class := { plain "java/lang/Cloneable" (some 0) with
  accessFlags := 1537
  interfaces := #[]
  cf := some (fileOf pool12 2 #[] #[] 1537 4 #[] #[])
  fields := #[]
  methods := #[]
  instanceTypes := #[]
  staticTypes := #[]
  resolved := Array.replicate 8 none
  statics := none }

/-- the primitive byte -/
def k13 : Class := { plain "byte" none with kind := .primitive 'B', accessFlags := 0x411 }
/-- [B -/
def k14 : Class := { plain "[B" (some 0) with kind := .array 13 .byte, interfaces := #[12, 5], accessFlags := 1041 }

/-- the primitive int -/
def k15 : Class := { plain "int" none with kind := .primitive 'I', accessFlags := 0x411 }
/-- [I -/
def k16 : Class := { plain "[I" (some 0) with kind := .array 15 .int, interfaces := #[12, 5], accessFlags := 1041 }

/-- [Ljava/lang/Integer; -/
def k17 : Class := { plain "[Ljava/lang/Integer;" (some 0) with kind := .array 10 (.object "java/lang/Integer"), interfaces := #[12, 5], accessFlags := 1041 }

def heap : Heap := #[{ cls := 11, slots := #[.int 0, .int 127, .ref 1, .null, .int 0], vm := .statics 11 },
  { cls := 17, slots := #[.ref 2, .ref 3, .ref 4, .ref 5, .ref 6, .ref 7, .ref 8, .ref 9, .ref 10, .ref 11, .ref 12, .ref 13, .ref 14, .ref 15, .ref 16, .ref 17, .ref 18, .ref 19, .ref 20, .ref 21, .ref 22, .ref 23, .ref 24, .ref 25, .ref 26, .ref 27, .ref 28, .ref 29, .ref 30, .ref 31, .ref 32, .ref 33, .ref 34, .ref 35, .ref 36, .ref 37, .ref 38, .ref 39, .ref 40, .ref 41, .ref 42, .ref 43, .ref 44, .ref 45, .ref 46, .ref 47, .ref 48, .ref 49, .ref 50, .ref 51, .ref 52, .ref 53, .ref 54, .ref 55, .ref 56, .ref 57, .ref 58, .ref 59, .ref 60, .ref 61, .ref 62, .ref 63, .ref 64, .ref 65, .ref 66, .ref 67, .ref 68, .ref 69, .ref 70, .ref 71, .ref 72, .ref 73, .ref 74, .ref 75, .ref 76, .ref 77, .ref 78, .ref 79, .ref 80, .ref 81, .ref 82, .ref 83, .ref 84, .ref 85, .ref 86, .ref 87, .ref 88, .ref 89, .ref 90, .ref 91, .ref 92, .ref 93, .ref 94, .ref 95, .ref 96, .ref 97, .ref 98, .ref 99, .ref 100, .ref 101, .ref 102, .ref 103, .ref 104, .ref 105, .ref 106, .ref 107, .ref 108, .ref 109, .ref 110, .ref 111, .ref 112, .ref 113, .ref 114, .ref 115, .ref 116, .ref 117, .ref 118, .ref 119, .ref 120, .ref 121, .ref 122, .ref 123, .ref 124, .ref 125, .ref 126, .ref 127, .ref 128, .ref 129, .ref 130, .ref 131, .ref 132, .ref 133, .ref 134, .ref 135, .ref 136, .ref 137, .ref 138, .ref 139, .ref 140, .ref 141, .ref 142, .ref 143, .ref 144, .ref 145, .ref 146, .ref 147, .ref 148, .ref 149, .ref 150, .ref 151, .ref 152, .ref 153, .ref 154, .ref 155, .ref 156, .ref 157, .ref 158, .ref 159, .ref 160, .ref 161, .ref 162, .ref 163, .ref 164, .ref 165, .ref 166, .ref 167, .ref 168, .ref 169, .ref 170, .ref 171, .ref 172, .ref 173, .ref 174, .ref 175, .ref 176, .ref 177, .ref 178, .ref 179, .ref 180, .ref 181, .ref 182, .ref 183, .ref 184, .ref 185, .ref 186, .ref 187, .ref 188, .ref 189, .ref 190, .ref 191, .ref 192, .ref 193, .ref 194, .ref 195, .ref 196, .ref 197, .ref 198, .ref 199, .ref 200, .ref 201, .ref 202, .ref 203, .ref 204, .ref 205, .ref 206, .ref 207, .ref 208, .ref 209, .ref 210, .ref 211, .ref 212, .ref 213, .ref 214, .ref 215, .ref 216, .ref 217, .ref 218, .ref 219, .ref 220, .ref 221, .ref 222, .ref 223, .ref 224, .ref 225, .ref 226, .ref 227, .ref 228, .ref 229, .ref 230, .ref 231, .ref 232, .ref 233, .ref 234, .ref 235, .ref 236, .ref 237, .ref 238, .ref 239, .ref 240, .ref 241, .ref 242, .ref 243, .ref 244, .ref 245, .ref 246, .ref 247, .ref 248, .ref 249, .ref 250, .ref 251, .ref 252, .ref 253, .ref 254, .ref 255, .ref 256, .ref 257], vm := .none },
  { cls := 10, slots := #[.int (-128)], vm := .none },
  { cls := 10, slots := #[.int (-127)], vm := .none },
  { cls := 10, slots := #[.int (-126)], vm := .none },
  { cls := 10, slots := #[.int (-125)], vm := .none },
  { cls := 10, slots := #[.int (-124)], vm := .none },
  { cls := 10, slots := #[.int (-123)], vm := .none },
  { cls := 10, slots := #[.int (-122)], vm := .none },
  { cls := 10, slots := #[.int (-121)], vm := .none },
  { cls := 10, slots := #[.int (-120)], vm := .none },
  { cls := 10, slots := #[.int (-119)], vm := .none },
  { cls := 10, slots := #[.int (-118)], vm := .none },
  { cls := 10, slots := #[.int (-117)], vm := .none },
  { cls := 10, slots := #[.int (-116)], vm := .none },
  { cls := 10, slots := #[.int (-115)], vm := .none },
  { cls := 10, slots := #[.int (-114)], vm := .none },
  { cls := 10, slots := #[.int (-113)], vm := .none },
  { cls := 10, slots := #[.int (-112)], vm := .none },
  { cls := 10, slots := #[.int (-111)], vm := .none },
  { cls := 10, slots := #[.int (-110)], vm := .none },
  { cls := 10, slots := #[.int (-109)], vm := .none },
  { cls := 10, slots := #[.int (-108)], vm := .none },
  { cls := 10, slots := #[.int (-107)], vm := .none },
  { cls := 10, slots := #[.int (-106)], vm := .none },
  { cls := 10, slots := #[.int (-105)], vm := .none },
  { cls := 10, slots := #[.int (-104)], vm := .none },
  { cls := 10, slots := #[.int (-103)], vm := .none },
  { cls := 10, slots := #[.int (-102)], vm := .none },
  { cls := 10, slots := #[.int (-101)], vm := .none },
  { cls := 10, slots := #[.int (-100)], vm := .none },
  { cls := 10, slots := #[.int (-99)], vm := .none },
  { cls := 10, slots := #[.int (-98)], vm := .none },
  { cls := 10, slots := #[.int (-97)], vm := .none },
  { cls := 10, slots := #[.int (-96)], vm := .none },
  { cls := 10, slots := #[.int (-95)], vm := .none },
  { cls := 10, slots := #[.int (-94)], vm := .none },
  { cls := 10, slots := #[.int (-93)], vm := .none },
  { cls := 10, slots := #[.int (-92)], vm := .none },
  { cls := 10, slots := #[.int (-91)], vm := .none },
  { cls := 10, slots := #[.int (-90)], vm := .none },
  { cls := 10, slots := #[.int (-89)], vm := .none },
  { cls := 10, slots := #[.int (-88)], vm := .none },
  { cls := 10, slots := #[.int (-87)], vm := .none },
  { cls := 10, slots := #[.int (-86)], vm := .none },
  { cls := 10, slots := #[.int (-85)], vm := .none },
  { cls := 10, slots := #[.int (-84)], vm := .none },
  { cls := 10, slots := #[.int (-83)], vm := .none },
  { cls := 10, slots := #[.int (-82)], vm := .none },
  { cls := 10, slots := #[.int (-81)], vm := .none },
  { cls := 10, slots := #[.int (-80)], vm := .none },
  { cls := 10, slots := #[.int (-79)], vm := .none },
  { cls := 10, slots := #[.int (-78)], vm := .none },
  { cls := 10, slots := #[.int (-77)], vm := .none },
  { cls := 10, slots := #[.int (-76)], vm := .none },
  { cls := 10, slots := #[.int (-75)], vm := .none },
  { cls := 10, slots := #[.int (-74)], vm := .none },
  { cls := 10, slots := #[.int (-73)], vm := .none },
  { cls := 10, slots := #[.int (-72)], vm := .none },
  { cls := 10, slots := #[.int (-71)], vm := .none },
  { cls := 10, slots := #[.int (-70)], vm := .none },
  { cls := 10, slots := #[.int (-69)], vm := .none },
  { cls := 10, slots := #[.int (-68)], vm := .none },
  { cls := 10, slots := #[.int (-67)], vm := .none },
  { cls := 10, slots := #[.int (-66)], vm := .none },
  { cls := 10, slots := #[.int (-65)], vm := .none },
  { cls := 10, slots := #[.int (-64)], vm := .none },
  { cls := 10, slots := #[.int (-63)], vm := .none },
  { cls := 10, slots := #[.int (-62)], vm := .none },
  { cls := 10, slots := #[.int (-61)], vm := .none },
  { cls := 10, slots := #[.int (-60)], vm := .none },
  { cls := 10, slots := #[.int (-59)], vm := .none },
  { cls := 10, slots := #[.int (-58)], vm := .none },
  { cls := 10, slots := #[.int (-57)], vm := .none },
  { cls := 10, slots := #[.int (-56)], vm := .none },
  { cls := 10, slots := #[.int (-55)], vm := .none },
  { cls := 10, slots := #[.int (-54)], vm := .none },
  { cls := 10, slots := #[.int (-53)], vm := .none },
  { cls := 10, slots := #[.int (-52)], vm := .none },
  { cls := 10, slots := #[.int (-51)], vm := .none },
  { cls := 10, slots := #[.int (-50)], vm := .none },
  { cls := 10, slots := #[.int (-49)], vm := .none },
  { cls := 10, slots := #[.int (-48)], vm := .none },
  { cls := 10, slots := #[.int (-47)], vm := .none },
  { cls := 10, slots := #[.int (-46)], vm := .none },
  { cls := 10, slots := #[.int (-45)], vm := .none },
  { cls := 10, slots := #[.int (-44)], vm := .none },
  { cls := 10, slots := #[.int (-43)], vm := .none },
  { cls := 10, slots := #[.int (-42)], vm := .none },
  { cls := 10, slots := #[.int (-41)], vm := .none },
  { cls := 10, slots := #[.int (-40)], vm := .none },
  { cls := 10, slots := #[.int (-39)], vm := .none },
  { cls := 10, slots := #[.int (-38)], vm := .none },
  { cls := 10, slots := #[.int (-37)], vm := .none },
  { cls := 10, slots := #[.int (-36)], vm := .none },
  { cls := 10, slots := #[.int (-35)], vm := .none },
  { cls := 10, slots := #[.int (-34)], vm := .none },
  { cls := 10, slots := #[.int (-33)], vm := .none },
  { cls := 10, slots := #[.int (-32)], vm := .none },
  { cls := 10, slots := #[.int (-31)], vm := .none },
  { cls := 10, slots := #[.int (-30)], vm := .none },
  { cls := 10, slots := #[.int (-29)], vm := .none },
  { cls := 10, slots := #[.int (-28)], vm := .none },
  { cls := 10, slots := #[.int (-27)], vm := .none },
  { cls := 10, slots := #[.int (-26)], vm := .none },
  { cls := 10, slots := #[.int (-25)], vm := .none },
  { cls := 10, slots := #[.int (-24)], vm := .none },
  { cls := 10, slots := #[.int (-23)], vm := .none },
  { cls := 10, slots := #[.int (-22)], vm := .none },
  { cls := 10, slots := #[.int (-21)], vm := .none },
  { cls := 10, slots := #[.int (-20)], vm := .none },
  { cls := 10, slots := #[.int (-19)], vm := .none },
  { cls := 10, slots := #[.int (-18)], vm := .none },
  { cls := 10, slots := #[.int (-17)], vm := .none },
  { cls := 10, slots := #[.int (-16)], vm := .none },
  { cls := 10, slots := #[.int (-15)], vm := .none },
  { cls := 10, slots := #[.int (-14)], vm := .none },
  { cls := 10, slots := #[.int (-13)], vm := .none },
  { cls := 10, slots := #[.int (-12)], vm := .none },
  { cls := 10, slots := #[.int (-11)], vm := .none },
  { cls := 10, slots := #[.int (-10)], vm := .none },
  { cls := 10, slots := #[.int (-9)], vm := .none },
  { cls := 10, slots := #[.int (-8)], vm := .none },
  { cls := 10, slots := #[.int (-7)], vm := .none },
  { cls := 10, slots := #[.int (-6)], vm := .none },
  { cls := 10, slots := #[.int (-5)], vm := .none },
  { cls := 10, slots := #[.int (-4)], vm := .none },
  { cls := 10, slots := #[.int (-3)], vm := .none },
  { cls := 10, slots := #[.int (-2)], vm := .none },
  { cls := 10, slots := #[.int (-1)], vm := .none },
  { cls := 10, slots := #[.int 0], vm := .none },
  { cls := 10, slots := #[.int 1], vm := .none },
  { cls := 10, slots := #[.int 2], vm := .none },
  { cls := 10, slots := #[.int 3], vm := .none },
  { cls := 10, slots := #[.int 4], vm := .none },
  { cls := 10, slots := #[.int 5], vm := .none },
  { cls := 10, slots := #[.int 6], vm := .none },
  { cls := 10, slots := #[.int 7], vm := .none },
  { cls := 10, slots := #[.int 8], vm := .none },
  { cls := 10, slots := #[.int 9], vm := .none },
  { cls := 10, slots := #[.int 10], vm := .none },
  { cls := 10, slots := #[.int 11], vm := .none },
  { cls := 10, slots := #[.int 12], vm := .none },
  { cls := 10, slots := #[.int 13], vm := .none },
  { cls := 10, slots := #[.int 14], vm := .none },
  { cls := 10, slots := #[.int 15], vm := .none },
  { cls := 10, slots := #[.int 16], vm := .none },
  { cls := 10, slots := #[.int 17], vm := .none },
  { cls := 10, slots := #[.int 18], vm := .none },
  { cls := 10, slots := #[.int 19], vm := .none },
  { cls := 10, slots := #[.int 20], vm := .none },
  { cls := 10, slots := #[.int 21], vm := .none },
  { cls := 10, slots := #[.int 22], vm := .none },
  { cls := 10, slots := #[.int 23], vm := .none },
  { cls := 10, slots := #[.int 24], vm := .none },
  { cls := 10, slots := #[.int 25], vm := .none },
  { cls := 10, slots := #[.int 26], vm := .none },
  { cls := 10, slots := #[.int 27], vm := .none },
  { cls := 10, slots := #[.int 28], vm := .none },
  { cls := 10, slots := #[.int 29], vm := .none },
  { cls := 10, slots := #[.int 30], vm := .none },
  { cls := 10, slots := #[.int 31], vm := .none },
  { cls := 10, slots := #[.int 32], vm := .none },
  { cls := 10, slots := #[.int 33], vm := .none },
  { cls := 10, slots := #[.int 34], vm := .none },
  { cls := 10, slots := #[.int 35], vm := .none },
  { cls := 10, slots := #[.int 36], vm := .none },
  { cls := 10, slots := #[.int 37], vm := .none },
  { cls := 10, slots := #[.int 38], vm := .none },
  { cls := 10, slots := #[.int 39], vm := .none },
  { cls := 10, slots := #[.int 40], vm := .none },
  { cls := 10, slots := #[.int 41], vm := .none },
  { cls := 10, slots := #[.int 42], vm := .none },
  { cls := 10, slots := #[.int 43], vm := .none },
  { cls := 10, slots := #[.int 44], vm := .none },
  { cls := 10, slots := #[.int 45], vm := .none },
  { cls := 10, slots := #[.int 46], vm := .none },
  { cls := 10, slots := #[.int 47], vm := .none },
  { cls := 10, slots := #[.int 48], vm := .none },
  { cls := 10, slots := #[.int 49], vm := .none },
  { cls := 10, slots := #[.int 50], vm := .none },
  { cls := 10, slots := #[.int 51], vm := .none },
  { cls := 10, slots := #[.int 52], vm := .none },
  { cls := 10, slots := #[.int 53], vm := .none },
  { cls := 10, slots := #[.int 54], vm := .none },
  { cls := 10, slots := #[.int 55], vm := .none },
  { cls := 10, slots := #[.int 56], vm := .none },
  { cls := 10, slots := #[.int 57], vm := .none },
  { cls := 10, slots := #[.int 58], vm := .none },
  { cls := 10, slots := #[.int 59], vm := .none },
  { cls := 10, slots := #[.int 60], vm := .none },
  { cls := 10, slots := #[.int 61], vm := .none },
  { cls := 10, slots := #[.int 62], vm := .none },
  { cls := 10, slots := #[.int 63], vm := .none },
  { cls := 10, slots := #[.int 64], vm := .none },
  { cls := 10, slots := #[.int 65], vm := .none },
  { cls := 10, slots := #[.int 66], vm := .none },
  { cls := 10, slots := #[.int 67], vm := .none },
  { cls := 10, slots := #[.int 68], vm := .none },
  { cls := 10, slots := #[.int 69], vm := .none },
  { cls := 10, slots := #[.int 70], vm := .none },
  { cls := 10, slots := #[.int 71], vm := .none },
  { cls := 10, slots := #[.int 72], vm := .none },
  { cls := 10, slots := #[.int 73], vm := .none },
  { cls := 10, slots := #[.int 74], vm := .none },
  { cls := 10, slots := #[.int 75], vm := .none },
  { cls := 10, slots := #[.int 76], vm := .none },
  { cls := 10, slots := #[.int 77], vm := .none },
  { cls := 10, slots := #[.int 78], vm := .none },
  { cls := 10, slots := #[.int 79], vm := .none },
  { cls := 10, slots := #[.int 80], vm := .none },
  { cls := 10, slots := #[.int 81], vm := .none },
  { cls := 10, slots := #[.int 82], vm := .none },
  { cls := 10, slots := #[.int 83], vm := .none },
  { cls := 10, slots := #[.int 84], vm := .none },
  { cls := 10, slots := #[.int 85], vm := .none },
  { cls := 10, slots := #[.int 86], vm := .none },
  { cls := 10, slots := #[.int 87], vm := .none },
  { cls := 10, slots := #[.int 88], vm := .none },
  { cls := 10, slots := #[.int 89], vm := .none },
  { cls := 10, slots := #[.int 90], vm := .none },
  { cls := 10, slots := #[.int 91], vm := .none },
  { cls := 10, slots := #[.int 92], vm := .none },
  { cls := 10, slots := #[.int 93], vm := .none },
  { cls := 10, slots := #[.int 94], vm := .none },
  { cls := 10, slots := #[.int 95], vm := .none },
  { cls := 10, slots := #[.int 96], vm := .none },
  { cls := 10, slots := #[.int 97], vm := .none },
  { cls := 10, slots := #[.int 98], vm := .none },
  { cls := 10, slots := #[.int 99], vm := .none },
  { cls := 10, slots := #[.int 100], vm := .none },
  { cls := 10, slots := #[.int 101], vm := .none },
  { cls := 10, slots := #[.int 102], vm := .none },
  { cls := 10, slots := #[.int 103], vm := .none },
  { cls := 10, slots := #[.int 104], vm := .none },
  { cls := 10, slots := #[.int 105], vm := .none },
  { cls := 10, slots := #[.int 106], vm := .none },
  { cls := 10, slots := #[.int 107], vm := .none },
  { cls := 10, slots := #[.int 108], vm := .none },
  { cls := 10, slots := #[.int 109], vm := .none },
  { cls := 10, slots := #[.int 110], vm := .none },
  { cls := 10, slots := #[.int 111], vm := .none },
  { cls := 10, slots := #[.int 112], vm := .none },
  { cls := 10, slots := #[.int 113], vm := .none },
  { cls := 10, slots := #[.int 114], vm := .none },
  { cls := 10, slots := #[.int 115], vm := .none },
  { cls := 10, slots := #[.int 116], vm := .none },
  { cls := 10, slots := #[.int 117], vm := .none },
  { cls := 10, slots := #[.int 118], vm := .none },
  { cls := 10, slots := #[.int 119], vm := .none },
  { cls := 10, slots := #[.int 120], vm := .none },
  { cls := 10, slots := #[.int 121], vm := .none },
  { cls := 10, slots := #[.int 122], vm := .none },
  { cls := 10, slots := #[.int 123], vm := .none },
  { cls := 10, slots := #[.int 124], vm := .none },
  { cls := 10, slots := #[.int 125], vm := .none },
  { cls := 10, slots := #[.int 126], vm := .none },
  { cls := 10, slots := #[.int 127], vm := .none }]
def classes : Array Class := #[k0, k1, k2, k3, k4, k5, k6, k7, k8, k9, k10, k11, k12, k13, k14, k15, k16, k17]
def interned : List (Array UInt16 × Addr) := []
def slotsUsed : Nat := 517
def theMethod : MethodId := ⟨1, 1⟩
def args0 : Array Value := #[.int 3, .int 4, .int 5]
def aboutOver (below : List Frame) : State where
  vm := { classes := classes, interned := interned.toArray }
  heap := heap
  slotsUsed := slotsUsed
  threads := #[{ frames := .invoking theMethod args0 :: below }]
def below0 : List Frame := [.native { method := ⟨0, 0⟩, args := #[] }]
def about1 : State := aboutOver below0
def p0 : Program := .bare "" "" ""
def e0 : Env := launch0.env 0 0 0
theorem w_frames : about1.frames = Frame.invoking theMethod args0 :: below0 := rfl
set_option maxRecDepth 65536 in
theorem w_args : argsFit about1.vm theMethod args0 = true := by decide +kernel
set_option maxRecDepth 65536 in
theorem w_heap : heapFits about1 = true := by decide +kernel
set_option maxRecDepth 65536 in
theorem w_runnable : about1.curStatus? = some .runnable := by decide +kernel
set_option maxRecDepth 65536 in
theorem w_alone : about1.alone = true := by decide +kernel
set_option maxRecDepth 65536 in
theorem w_named : about1.methodNamed? x = some theMethod := by decide +kernel
set_option maxRecDepth 65536 in
theorem w_hears : about1.hears theMethod below0 = true := by decide +kernel
set_option maxRecDepth 65536 in
theorem w_ripe : about1.ripe theMethod args0 below0 = true := by decide +kernel
theorem w_running : about1.status = .running := rfl
set_option maxRecDepth 65536 in
theorem w_room : about1.hasRoom e0.platform room_1 = true :=
  launch0.hasRoom_least _ room_1 (by decide +kernel) (by decide +kernel) (by decide +kernel) (by decide +kernel) (by decide +kernel) (by decide +kernel)
theorem allAtoms_all (ts : List Jvm.Cond) (a : Array Jvm.Value) (st : Jvm.State) : (allAtoms ts).before a st = ts.all (fun c => c.before a st) := by
  induction ts with
  | nil => rfl
  | cons c t ih =>
    show (Jvm.Cond.and c (allAtoms t)).before a st = _
    rw [Jvm.Cond.before_and, ih, List.all_cons]
def words1 : List Jvm.Cond := Jvm.Cond.code x code maxLocals ret :: tables_1
/-- a 'code' word, met by the world's own term for the bytes: nothing is compared byte by byte -/
theorem code_word {y : MethodName} {bytes : ByteArray} {mx : Nat} {rt : Option FieldType} {a : Array Value} {s : State} {m : MethodId} {meth : Method} {c : Code} (h1 : s.methodNamed? y = some m) (h2 : s.vm.method? m = some meth) (h3 : meth.code = some c) (h4 : c.code = bytes)
    (h5 : (c.maxLocals == mx && c.exceptionTable.isEmpty && decide (c.maxStack ≤ mostOperands) && decide (meth.sig.returnType = rt) && !meth.locks && decide (parseMethodDescriptor y.desc = some meth.sig)) = true) : (Jvm.Cond.code y bytes mx rt).before a s = true := by
  simp only [Bool.and_eq_true, beq_iff_eq, Bool.not_eq_true', decide_eq_true_eq] at h5
  obtain ⟨⟨⟨⟨⟨g1, g2⟩, g3⟩, g4⟩, g5⟩, g6⟩ := h5
  simp [Cond.before, Cond.holds, Cond.value, h1, h2, h3, h4, g1, g2, g3, g4, g5, g6]
def isCode : Jvm.Cond → Bool
  | .code _ _ _ _ => true
  | _ => false
theorem all_split {L : List Jvm.Cond} {P : Jvm.Cond → Bool} (h1 : L.all (fun c => isCode c || P c) = true) (h2 : ∀ c ∈ L.filter isCode, P c = true) : L.all P = true := by
  refine List.all_eq_true.mpr fun c hc => ?_
  have h := List.all_eq_true.mp h1 c hc
  rcases Bool.eq_false_or_eq_true (isCode c) with hi | hi
  · exact h2 c (List.mem_filter.mpr ⟨hc, hi⟩)
  · simpa [hi] using h
set_option maxRecDepth 65536 in
theorem w_c0 : (Jvm.Cond.code x code maxLocals ret).before args0 about1 = true := code_word (m := ⟨1, 1⟩) (meth := k1m1) (c := k1c1) (by decide +kernel) rfl rfl rfl (by decide +kernel)
set_option maxRecDepth 65536 in
theorem w_c1 : (Jvm.Cond.code ({ cls := "com/example/brevi/brevi/bdd/BddManager", name := "<init>", desc := "()V" } : Jvm.MethodName) prog_5_method_1_code (1 : Nat) (Option.none : Option Jvm.ClassFile.FieldType)).before args0 about1 = true := code_word (m := ⟨2, 0⟩) (meth := k2m0) (c := k2c0) (by decide +kernel) rfl rfl rfl (by decide +kernel)
set_option maxRecDepth 65536 in
theorem w_c2 : (Jvm.Cond.code ({ cls := "java/lang/Object", name := "<init>", desc := "()V" } : Jvm.MethodName) object_method_1_code (1 : Nat) (Option.none : Option Jvm.ClassFile.FieldType)).before args0 about1 = true := code_word (m := ⟨0, 0⟩) (meth := k0m0) (c := k0c0) (by decide +kernel) rfl rfl rfl (by decide +kernel)
set_option maxRecDepth 65536 in
theorem w_c3 : (Jvm.Cond.code ({ cls := "com/example/brevi/brevi/bdd/BddManager", name := "allocateNodes", desc := "(I)V" } : Jvm.MethodName) prog_5_method_29_code (2 : Nat) (Option.none : Option Jvm.ClassFile.FieldType)).before args0 about1 = true := code_word (m := ⟨2, 2⟩) (meth := k2m2) (c := k2c2) (by decide +kernel) rfl rfl rfl (by decide +kernel)
set_option maxRecDepth 65536 in
theorem w_c4 : (Jvm.Cond.code ({ cls := "java/util/Arrays", name := "fill", desc := "([II)V" } : Jvm.MethodName) jdk_65_method_103_code (4 : Nat) (Option.none : Option Jvm.ClassFile.FieldType)).before args0 about1 = true := code_word (m := ⟨3, 1⟩) (meth := k3m1) (c := k3c1) (by decide +kernel) rfl rfl rfl (by decide +kernel)
set_option maxRecDepth 65536 in
theorem w_c5 : (Jvm.Cond.code ({ cls := "com/example/brevi/brevi/bdd/BddManager", name := "allocateCache", desc := "(I)V" } : Jvm.MethodName) prog_5_method_31_code (2 : Nat) (Option.none : Option Jvm.ClassFile.FieldType)).before args0 about1 = true := code_word (m := ⟨2, 3⟩) (meth := k2m3) (c := k2c3) (by decide +kernel) rfl rfl rfl (by decide +kernel)
set_option maxRecDepth 65536 in
theorem w_c6 : (Jvm.Cond.code ({ cls := "com/example/brevi/brevi/bdd/BddManager", name := "addNode", desc := "(III)I" } : Jvm.MethodName) prog_5_method_28_code (5 : Nat) (Option.some Jvm.ClassFile.FieldType.int)).before args0 about1 = true := code_word (m := ⟨2, 1⟩) (meth := k2m1) (c := k2c1) (by decide +kernel) rfl rfl rfl (by decide +kernel)
set_option maxRecDepth 65536 in
theorem w_c7 : (Jvm.Cond.code ({ cls := "com/example/brevi/brevi/bdd/Bdd", name := "<init>", desc := "(Lcom/example/brevi/brevi/bdd/BddManager;I)V" } : Jvm.MethodName) prog_3_method_1_code (3 : Nat) (Option.none : Option Jvm.ClassFile.FieldType)).before args0 about1 = true := code_word (m := ⟨4, 0⟩) (meth := k4m0) (c := k4c0) (by decide +kernel) rfl rfl rfl (by decide +kernel)
set_option maxRecDepth 65536 in
theorem w_c8 : (Jvm.Cond.code ({ cls := "java/lang/Integer", name := "valueOf", desc := "(I)Ljava/lang/Integer;" } : Jvm.MethodName) jdk_33_method_22_code (1 : Nat) (Option.some (Jvm.ClassFile.FieldType.object "java/lang/Integer"))).before args0 about1 = true := code_word (m := ⟨10, 0⟩) (meth := k10m0) (c := k10c0) (by decide +kernel) rfl rfl rfl (by decide +kernel)
set_option maxRecDepth 65536 in
theorem w_c9 : (Jvm.Cond.code ({ cls := "com/example/brevi/brevi/bdd/Bdd", name := "equals", desc := "(Ljava/lang/Object;)Z" } : Jvm.MethodName) prog_3_method_19_code (3 : Nat) (Option.some Jvm.ClassFile.FieldType.boolean)).before args0 about1 = true := code_word (m := ⟨4, 1⟩) (meth := k4m1) (c := k4c1) (by decide +kernel) rfl rfl rfl (by decide +kernel)
set_option maxRecDepth 65536 in
theorem w_c10 : (Jvm.Cond.code ({ cls := "java/lang/Integer", name := "<init>", desc := "(I)V" } : Jvm.MethodName) jdk_33_method_23_code (2 : Nat) (Option.none : Option Jvm.ClassFile.FieldType)).before args0 about1 = true := code_word (m := ⟨10, 1⟩) (meth := k10m1) (c := k10c1) (by decide +kernel) rfl rfl rfl (by decide +kernel)
set_option maxRecDepth 65536 in
theorem w_c11 : (Jvm.Cond.code ({ cls := "java/lang/Number", name := "<init>", desc := "()V" } : Jvm.MethodName) jdk_18_method_1_code (1 : Nat) (Option.none : Option Jvm.ClassFile.FieldType)).before args0 about1 = true := code_word (m := ⟨6, 0⟩) (meth := k6m0) (c := k6c0) (by decide +kernel) rfl rfl rfl (by decide +kernel)
def codes1 : List Jvm.Cond := [Jvm.Cond.code x code maxLocals ret, Jvm.Cond.code ({ cls := "com/example/brevi/brevi/bdd/BddManager", name := "<init>", desc := "()V" } : Jvm.MethodName) prog_5_method_1_code (1 : Nat) (Option.none : Option Jvm.ClassFile.FieldType), Jvm.Cond.code ({ cls := "java/lang/Object", name := "<init>", desc := "()V" } : Jvm.MethodName) object_method_1_code (1 : Nat) (Option.none : Option Jvm.ClassFile.FieldType), Jvm.Cond.code ({ cls := "com/example/brevi/brevi/bdd/BddManager", name := "allocateNodes", desc := "(I)V" } : Jvm.MethodName) prog_5_method_29_code (2 : Nat) (Option.none : Option Jvm.ClassFile.FieldType), Jvm.Cond.code ({ cls := "java/util/Arrays", name := "fill", desc := "([II)V" } : Jvm.MethodName) jdk_65_method_103_code (4 : Nat) (Option.none : Option Jvm.ClassFile.FieldType), Jvm.Cond.code ({ cls := "com/example/brevi/brevi/bdd/BddManager", name := "allocateCache", desc := "(I)V" } : Jvm.MethodName) prog_5_method_31_code (2 : Nat) (Option.none : Option Jvm.ClassFile.FieldType), Jvm.Cond.code ({ cls := "com/example/brevi/brevi/bdd/BddManager", name := "addNode", desc := "(III)I" } : Jvm.MethodName) prog_5_method_28_code (5 : Nat) (Option.some Jvm.ClassFile.FieldType.int), Jvm.Cond.code ({ cls := "com/example/brevi/brevi/bdd/Bdd", name := "<init>", desc := "(Lcom/example/brevi/brevi/bdd/BddManager;I)V" } : Jvm.MethodName) prog_3_method_1_code (3 : Nat) (Option.none : Option Jvm.ClassFile.FieldType), Jvm.Cond.code ({ cls := "java/lang/Integer", name := "valueOf", desc := "(I)Ljava/lang/Integer;" } : Jvm.MethodName) jdk_33_method_22_code (1 : Nat) (Option.some (Jvm.ClassFile.FieldType.object "java/lang/Integer")), Jvm.Cond.code ({ cls := "com/example/brevi/brevi/bdd/Bdd", name := "equals", desc := "(Ljava/lang/Object;)Z" } : Jvm.MethodName) prog_3_method_19_code (3 : Nat) (Option.some Jvm.ClassFile.FieldType.boolean), Jvm.Cond.code ({ cls := "java/lang/Integer", name := "<init>", desc := "(I)V" } : Jvm.MethodName) jdk_33_method_23_code (2 : Nat) (Option.none : Option Jvm.ClassFile.FieldType), Jvm.Cond.code ({ cls := "java/lang/Number", name := "<init>", desc := "()V" } : Jvm.MethodName) jdk_18_method_1_code (1 : Nat) (Option.none : Option Jvm.ClassFile.FieldType)]
set_option maxRecDepth 65536 in
theorem codes_eq : words1.filter isCode = codes1 := rfl
theorem w_codes : ∀ c ∈ words1.filter isCode, c.before args0 about1 = true := by
  rw [codes_eq]
  intro c hc
  simp only [codes1, List.mem_cons, List.not_mem_nil, or_false] at hc
  rcases hc with rfl | rfl | rfl | rfl | rfl | rfl | rfl | rfl | rfl | rfl | rfl | rfl
  · exact w_c0
  · exact w_c1
  · exact w_c2
  · exact w_c3
  · exact w_c4
  · exact w_c5
  · exact w_c6
  · exact w_c7
  · exact w_c8
  · exact w_c9
  · exact w_c10
  · exact w_c11
set_option maxRecDepth 65536 in
theorem w_t1 : (words1.take 24).all (fun c => isCode c || c.before args0 about1) = true := by decide +kernel
set_option maxRecDepth 65536 in
theorem w_t2 : ((words1.drop 24).take 24).all (fun c => isCode c || c.before args0 about1) = true := by decide +kernel
set_option maxRecDepth 65536 in
theorem w_t3 : (((words1.drop 24).drop 24).take 24).all (fun c => isCode c || c.before args0 about1) = true := by decide +kernel
set_option maxRecDepth 65536 in
theorem w_t4 : ((((words1.drop 24).drop 24).drop 24).take 24).all (fun c => isCode c || c.before args0 about1) = true := by decide +kernel
set_option maxRecDepth 65536 in
theorem w_t5 : ((((words1.drop 24).drop 24).drop 24).drop 24).all (fun c => isCode c || c.before args0 about1) = true := by decide +kernel
theorem w_tables : (allAtoms (Jvm.Cond.code x code maxLocals ret :: tables_1)).before args0 about1 = true := by
  rw [allAtoms_all]
  show words1.all (fun c => c.before args0 about1) = true
  refine all_split ?_ w_codes
  rw [← List.take_append_drop 24 words1, List.all_append, w_t1, ← List.take_append_drop 24 (words1.drop 24), List.all_append, w_t2, ← List.take_append_drop 24 ((words1.drop 24).drop 24), List.all_append, w_t3, ← List.take_append_drop 24 (((words1.drop 24).drop 24).drop 24), List.all_append, w_t4, w_t5]
  rfl
set_option maxRecDepth 65536 in
theorem w_rest : rest_1_c.before args0 about1 = true := by decide +kernel
set_option maxRecDepth 65536 in
theorem w_case : (Jvm.Cond.and given_1 narrow_1).before args0 about1 = true := by decide +kernel
theorem w_applies : (headSpec (Jvm.Cond.code x code maxLocals ret :: tables_1) room_1).applies x e0.platform about1 = true :=
  (Spec.applies_iff w_frames).mpr ⟨w_running, w_runnable, w_alone, w_named, w_hears, w_ripe, w_room, w_tables⟩
theorem atStart : AtStart classFile x code maxLocals ret World_1 tables_1 room_1 Calls_1 rest_1 Pre_1 launch0 p0 e0 about1 theMethod args0 below0 :=
  ⟨lists_1, trivial, launch0.admits_env _ _ _, launch0.least_env, fairChoices_fair.cas, fairChoices_fair.clock, w_frames, w_args, w_heap, w_applies, trivial, w_rest, w_case⟩
end start1
theorem witness_1 : WitnessClaimed_1 := ⟨start1.p0, start1.e0, start1.about1, start1.theMethod, start1.args0, start1.below0, start1.atStart⟩
end Jvm.Pilot.@@N@@
