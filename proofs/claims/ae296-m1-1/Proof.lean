import JvmDerived
import JvmDerived.Pilot.@@N@@Statement
import JvmDerived.Pilot.@@N@@Code
set_option linter.unusedVariables false
set_option linter.unusedSimpArgs false
namespace Jvm.RoadKit
open Sem ClassFile Op Lib Jvm.Stand Jvm.Free Jvm.LawKit
section New
variable {p : Program} {l : Launch} {e : Env} {R : Room} {s : State} {m : MethodId} {args : Array Value} {below : List Frame} {meth : Method} {c : Code} {T : State} {locs : List Loc} {cells slots : Nat}
theorem retI (X : Stand p l e R s m args below meth c T locs cells slots) (hx : p.tables.exec = Jvm.exec) {pc : Nat} {Ls : Array Slot} {z : Int32} {rest : List Value} (hret : meth.sig.returnType = some .int) (hd : decode c.code pc = .ok (.ireturn, 1)) {fs : List Frame}
    (hl : ∀ (f : JFrame) (acts : List Action), f.method = m → f.locked = none → f.entered = [] → (doReturn e (T.setTop f) acts (some (.int z))).1 = T.setFrames fs) : Steps p.tables e below (T.setTop (mkF m pc Ls (.int z :: rest))) (T.setFrames fs) := by
  have hm' : T.vm.method? m = some meth := X.method'
  have hn : narrow .int (.int z) = .int z := rfl
  show Steps p.tables e below (T.setTop { method := m, pc := pc, locals := Ls, stack := _ :: rest, locked := none }) _
  jvm_step X.here [X.here.top, hx, hd, hm', hret, hn]
  first | (intro acts; rw [hl _ acts rfl rfl rfl]) | rw [hl _ _ rfl rfl rfl]
  exact Steps.refl _
theorem own_retJ (X : Stand p l e R s m args below meth c T locs cells slots) (hx : p.tables.exec = Jvm.exec) {pc : Nat} {Ls : Array Slot} {z : Int64} {rest : List Value} (hret : meth.sig.returnType = some .long) (hd : decode c.code pc = .ok (.lreturn, 1)) {fs : List Frame}
    (hl : ∀ (f : JFrame) (acts : List Action), f.method = m → f.locked = none → f.entered = [] → (doReturn e (T.setTop f) acts (some (.long z))).1 = T.setFrames fs) : Steps p.tables e below (T.setTop (mkF m pc Ls (.long z :: rest))) (T.setFrames fs) := by
  have hm' : T.vm.method? m = some meth := X.method'
  show Steps p.tables e below (T.setTop { method := m, pc := pc, locals := Ls, stack := _ :: rest, locked := none }) _
  jvm_step X.here [X.here.top, hx, hd, hm', hret, narrow]
  first | (intro acts; rw [hl _ acts rfl rfl rfl]) | rw [hl _ _ rfl rfl rfl]
  exact Steps.refl _
end New
end Jvm.RoadKit
namespace Jvm.Pilot.@@N@@
open Jvm Jvm.ClassFile Sem Op Lib Jvm.Free Jvm.Stand Jvm.LawKit Jvm.RoadKit Bundle Jvm.Pilot.@@N@@.Jvm.D

def own_al (Z : State) (h : Heap) (a : Addr) (n : Int32) : Prop := ∃ c : Cell, Arr Z h a c .byte ∧ c.slots.size = n.toNatClampNeg ∧ ¬ n < 0
theorem own_al_ext {Z : State} {h h' : Heap} {a : Addr} {n : Int32} (F : own_al Z h a n) (E : Ext h h') : own_al Z h' a n := by
  obtain ⟨c, A, r⟩ := F; exact ⟨c, A.ext E, r⟩
theorem own_al_other {Z : State} {h h' : Heap} {a b : Addr} {n : Int32} {sl : Nat} {v : Value} (F : own_al Z h b n) (W : Wr h h' a sl v) (q : b ≠ a) : own_al Z h' b n := by
  obtain ⟨c, A, r⟩ := F; exact ⟨c, A.other W q, r⟩
theorem own_al_same {Z : State} {h h' : Heap} {a : Addr} {n : Int32} {sl : Nat} {v : Value} (F : own_al Z h a n) (W : Wr h h' a sl v) : own_al Z h' a n := by
  obtain ⟨c, A, s, r⟩ := F; exact ⟨_, A.same W, (sz_set c sl v).trans s, r⟩
theorem own_al_lt {Z : State} {h : Heap} {a : Addr} {n : Int32} (F : own_al Z h a n) : a < h.size := by
  obtain ⟨c, A, -⟩ := F; exact A.lt
theorem own_al_new {Z : State} {h : Heap} {a : Addr} {k : ClassId} {n : Int32} (A : Arr Z h a (newA k .byte n) .byte) (q : ¬ n < 0) : own_al Z h a n := ⟨_, A, sz_new _ _ _, q⟩
theorem own_63 (p : Int32) : ¬ (p &&& (63 : Int32)) < 0 ∧ (p &&& (63 : Int32)).toNatClampNeg ≤ 63 := by
  have h : (p &&& (63 : Int32)).toInt = p.toInt % ((2 ^ 6 : Nat) : Int) := c_mask p 63 6 (by decide) (by decide)
  have z : (0 : Int32).toInt = 0 := by decide +kernel
  constructor
  · rw [Int32.lt_iff_toInt_lt]; omega
  · show (p &&& (63 : Int32)).toInt.toNat ≤ 63
    omega
theorem own_m1 (p : Int32) (h : (0 : Int32) < (p &&& (63 : Int32))) : ¬ ((p &&& (63 : Int32)) - (1 : Int32)) < 0 ∧ ((p &&& (63 : Int32)) - (1 : Int32)) < (p &&& (63 : Int32)) := by
  have z : (0 : Int32).toInt = 0 := by decide +kernel
  have o : (1 : Int32).toInt = 1 := by decide +kernel
  generalize (p &&& (63 : Int32)) = y at *
  have r := rng32 y
  have r1 := rng32 (y - 1)
  have s := c_isub y 1
  rw [Int32.lt_iff_toInt_lt] at h
  constructor
  · rw [Int32.lt_iff_toInt_lt]; omega
  · rw [Int32.lt_iff_toInt_lt]; omega
def own_rb (x y : Int32) : Int64 := ((25 : Int64) + (x.toInt64)) + (y.toInt64)
theorem own_rbc (x y : Int32) : own_rb x y = own_rb y x := by
  unfold own_rb
  rw [Int64.add_assoc, Int64.add_assoc, Int64.add_comm x.toInt64]
theorem own_lc (a b : Int64) (h : a = b) : lcmpW a b = (0 : Int32) := (lw_eq a b).mpr h
theorem d1_0 : decode prog_11_method_2_code 0 = .ok (.ldc2_w 56, 3) := by decide +kernel
theorem d1_3 : decode prog_11_method_2_code 3 = .ok (.aload_n 0, 1) := by decide +kernel
theorem d1_4 : decode prog_11_method_2_code 4 = .ok (.arraylength, 1) := by decide +kernel
theorem d1_5 : decode prog_11_method_2_code 5 = .ok (.i2l, 1) := by decide +kernel
theorem d1_6 : decode prog_11_method_2_code 6 = .ok (.ladd, 1) := by decide +kernel
theorem d1_7 : decode prog_11_method_2_code 7 = .ok (.aload_n 1, 1) := by decide +kernel
theorem d1_8 : decode prog_11_method_2_code 8 = .ok (.arraylength, 1) := by decide +kernel
theorem d1_9 : decode prog_11_method_2_code 9 = .ok (.i2l, 1) := by decide +kernel
theorem d1_10 : decode prog_11_method_2_code 10 = .ok (.ladd, 1) := by decide +kernel
theorem d1_11 : decode prog_11_method_2_code 11 = .ok (.lreturn, 1) := by decide +kernel
theorem pn_1 : plainName "com/example/onceword/onceword/memory/ByteMap" = true := by first | (simp [plainName, overriddenIn]; done) | decide +kernel
theorem ef_1 (m : MethodId) (x0 : Addr) (x1 : Addr) : entryFrame m #[(.ref x0), (.ref x1)] 2 = mkF m 0 #[.val (.ref x0), .val (.ref x1)] [] := by first | (simp [entryFrame, mkF, argsToLocals, Value.category]; done) | rfl
def Q1 (Z : State) (a1 : Addr) (a2 : Addr) (cl_a1 : Cell) (z_a1 : Int32) (cl_a2 : Cell) (z_a2 : Int32) (h0 : Heap) (n0 : Nat) (v : Option Value) (h : Heap) (L : List Loc) : Prop := v = some (.long (own_rb z_a1 z_a2)) ∧ Fr n0 L ∧ h = h0
set_option maxRecDepth 65536 in
set_option maxHeartbeats 40000000 in
theorem rm1 (l : Launch) (Z : State) (a0 : Array Value) (hw : ∀ d ∈ tables_1, d.before a0 Z = true) (ws : List Jvm.Cond) (a1 : Addr) (a2 : Addr) (cl_a1 : Cell) (z_a1 : Int32) (cl_a2 : Cell) (z_a2 : Int32) (h0 : Heap) (n0 : Nat) (Z0 : n0 ≤ h0.size) (Ar_a1 : Arr Z h0 a1 cl_a1 .byte) (S_a1 : cl_a1.slots.size = z_a1.toNatClampNeg) (N_a1 : ¬ z_a1 < 0) (Ar_a2 : Arr Z h0 a2 cl_a2 .byte) (S_a2 : cl_a2.slots.size = z_a2.toNatClampNeg) (N_a2 : ¬ z_a2 < 0) :
    MetFree l (⟨"com/example/onceword/onceword/memory/ByteMap", "recordBytes", "([B[B)J"⟩ : MethodName) (head1 (Jvm.Cond.code (⟨"com/example/onceword/onceword/memory/ByteMap", "recordBytes", "([B[B)J"⟩ : MethodName) prog_11_method_2_code 2 (some .long) :: ws) ({ frames := 0, cells := 0, slots := 0, locals := 0 } : Room)) (fun a U => a = #[(.ref a1), (.ref a2)] ∧ Z.Warmed39 U.vm ∧ U.heap = h0) (fun _ _ _ _ _ => True) (fun _ U o U' => ∃ v L, o = .returned v ∧ Q1 Z a1 a2 cl_a1 z_a1 cl_a2 z_a2 h0 n0 v U'.heap L ∧ FrameEnd U o U' L ({ frames := 0, cells := 0, slots := 0, locals := 0 } : Room).cells ({ frames := 0, cells := 0, slots := 0, locals := 0 } : Room).slots) := by
  refine MetFree.of_bodySF (plainFor_of_name pn_1) hisR ?_
  intro p e s m args below meth c s₁ Bd hml0 hP hK
  obtain ⟨rfl, hZ, hh⟩ := hP
  have hx := Bd.exec
  have hby := Bd.bytes
  have hml : c.maxLocals = 2 := hml0
  have hown : s.vm.findClass "com/example/onceword/onceword/memory/ByteMap" = some m.cls := findClass_of_methodNamed Bd.named
  have hnm := (name_of_methodNamed Bd.named Bd.method).1
  have X0 : Stand p l e ({ frames := 0, cells := 0, slots := 0, locals := 0 } : Room) s m #[(.ref a1), (.ref a2)] below meth c s₁ [] 0 0 := Stand.of_body Bd
  have e0 : s₁.heap = h0 := by rw [← hh, Bd.state]; rfl
  have N0 := Fr.nil n0
  have pre0 : ∀ t, Steps p.tables e below (s₁.setTop (mkF m 0 #[.val (.ref a1), .val (.ref a2)] [])) t → Steps p.tables e below (s₁.setTop (entryFrame m #[(.ref a1), (.ref a2)] 2)) t := fun t k => castTop (ef_1 m a1 a2) k

  obtain ⟨fs, hr, hrun, hended, hW, hsame⟩ := X0.leave (v := some (.long (((25 : Int64) + (z_a1.toInt64)) + (z_a2.toInt64)))) (fun h => by rw [Bd.returns] at h; cases h)
  refine ⟨_, _, pre0 _ ?_, hrun, hended, _, _, rfl, ?_, ⟨_, rfl⟩, hW, hsame.mono (by decide) (by decide)⟩
  · show Steps p.tables e below (s₁.setTop (mkF m 0 #[.val (.ref a1), .val (.ref a2)] [])) _
    refine X0.ldc2Long hx hown (mvT hZ (hw _ (List.mem_of_getElem? (i := 6) rfl))) (g := (mkF m 0 #[.val (.ref a1), .val (.ref a2)] [])) rfl (hb hby d1_0) _ ?_
    show Steps p.tables e below (s₁.setTop (mkF m 3 #[.val (.ref a1), .val (.ref a2)] [(.long (25 : Int64))])) _
    refine XS.aloadN X0.here hx rfl (hb hby d1_3) rfl rfl ?_
    show Steps p.tables e below (s₁.setTop (mkF m 4 #[.val (.ref a1), .val (.ref a2)] [(.ref a1), (.long (25 : Int64))])) _
    refine X0.arraylength hx (by rw [e0]; exact Ar_a1.1) (State.isArrayOf_alike hZ.alike Ar_a1.2.1) (g := (mkF m 4 #[.val (.ref a1), .val (.ref a2)] [(.ref a1), (.long (25 : Int64))])) rfl rfl (hb hby d1_4) _ ?_
    rw [len_of S_a1 N_a1]
    show Steps p.tables e below (s₁.setTop (mkF m 5 #[.val (.ref a1), .val (.ref a2)] [(.int z_a1), (.long (25 : Int64))])) _
    refine XS.i2l X0.here hx rfl (hb hby d1_5) rfl ?_
    show Steps p.tables e below (s₁.setTop (mkF m 6 #[.val (.ref a1), .val (.ref a2)] [(.long (z_a1.toInt64)), (.long (25 : Int64))])) _
    refine XS.ladd X0.here hx rfl (hb hby d1_6) rfl ?_
    show Steps p.tables e below (s₁.setTop (mkF m 7 #[.val (.ref a1), .val (.ref a2)] [(.long ((25 : Int64) + (z_a1.toInt64)))])) _
    refine XS.aloadN X0.here hx rfl (hb hby d1_7) rfl rfl ?_
    show Steps p.tables e below (s₁.setTop (mkF m 8 #[.val (.ref a1), .val (.ref a2)] [(.ref a2), (.long ((25 : Int64) + (z_a1.toInt64)))])) _
    refine X0.arraylength hx (by rw [e0]; exact Ar_a2.1) (State.isArrayOf_alike hZ.alike Ar_a2.2.1) (g := (mkF m 8 #[.val (.ref a1), .val (.ref a2)] [(.ref a2), (.long ((25 : Int64) + (z_a1.toInt64)))])) rfl rfl (hb hby d1_8) _ ?_
    rw [len_of S_a2 N_a2]
    show Steps p.tables e below (s₁.setTop (mkF m 9 #[.val (.ref a1), .val (.ref a2)] [(.int z_a2), (.long ((25 : Int64) + (z_a1.toInt64)))])) _
    refine XS.i2l X0.here hx rfl (hb hby d1_9) rfl ?_
    show Steps p.tables e below (s₁.setTop (mkF m 10 #[.val (.ref a1), .val (.ref a2)] [(.long (z_a2.toInt64)), (.long ((25 : Int64) + (z_a1.toInt64)))])) _
    refine XS.ladd X0.here hx rfl (hb hby d1_10) rfl ?_
    show Steps p.tables e below (s₁.setTop (mkF m 11 #[.val (.ref a1), .val (.ref a2)] [(.long (((25 : Int64) + (z_a1.toInt64)) + (z_a2.toInt64)))])) _
    exact own_retJ X0 hx Bd.returns (hb hby d1_11) hr
  · show Q1 Z a1 a2 cl_a1 z_a1 cl_a2 z_a2 h0 n0 _ s₁.heap _
    rw [e0]
    exact ⟨rfl, N0, rfl⟩
theorem pn_0 : plainName "com/example/onceword/onceword/memory/ByteMapRecordBytesPinLaw" = true := by first | (simp [plainName, overriddenIn]; done) | decide +kernel
theorem pd_0_0 : parseMethodDescriptor "([B[B)J" = some ⟨[(.array .byte), (.array .byte)], some .long⟩ := by decide +kernel
theorem ef_0 (m : MethodId) (x0 : Int32) (x1 : Int32) (x2 : Int32) : entryFrame m #[(.int x0), (.int x1), (.int x2)] maxLocals = mkF m 0 #[.val (.int x0), .val (.int x1), .val (.int x2), .unset, .unset, .unset, .unset, .unset, .unset, .unset, .unset, .unset, .unset, .unset, .unset] [] := by first | (simp [entryFrame, mkF, argsToLocals, Value.category, maxLocals]; done) | rfl
def Q0 (Z : State) (p1 : Int32) (p2 : Int32) (p3 : Int32) (h0 : Heap) (n0 : Nat) (v : Option Value) (h : Heap) (L : List Loc) : Prop := v = some (.int (1 : Int32)) ∧ Fr n0 L
set_option maxRecDepth 65536 in
set_option maxHeartbeats 40000000 in
theorem rm0_ttfff (l : Launch) (Z : State) (a0 : Array Value) (hw : ∀ d ∈ tables_1, d.before a0 Z = true) (ws : List Jvm.Cond) (p1 : Int32) (p2 : Int32) (p3 : Int32) (h0 : Heap) (n0 : Nat) (Z0 : n0 ≤ h0.size) (hc23 : ¬ ((0 : Int32) < (p1 &&& (63 : Int32)))) (hc34 : ¬ ((0 : Int32) < (p2 &&& (63 : Int32)))) :
    MetFree l x (head1 (Jvm.Cond.code x code maxLocals ret :: ws) room_1) (fun a U => a = #[(.int p1), (.int p2), (.int p3)] ∧ Z.Warmed39 U.vm ∧ U.heap = h0) (fun _ _ _ _ _ => True) (fun _ U o U' => ∃ v L, o = .returned v ∧ Q0 Z p1 p2 p3 h0 n0 v U'.heap L ∧ FrameEnd U o U' L room_1.cells room_1.slots) := by
  refine MetFree.of_bodySF (plainFor_of_name pn_0) hisR ?_
  intro p e s m args below meth c s₁ Bd hml0 hP hK
  obtain ⟨rfl, hZ, hh⟩ := hP
  have hx := Bd.exec
  have hby := Bd.bytes
  have hml : c.maxLocals = 15 := hml0
  have hown : s.vm.findClass "com/example/onceword/onceword/memory/ByteMapRecordBytesPinLaw" = some m.cls := findClass_of_methodNamed Bd.named
  have hnm := (name_of_methodNamed Bd.named Bd.method).1
  have X0 : Stand p l e room_1 s m #[(.int p1), (.int p2), (.int p3)] below meth c s₁ [] 0 0 := Stand.of_body Bd
  have e0 : s₁.heap = h0 := by rw [← hh, Bd.state]; rfl
  have N0 := Fr.nil n0
  have pre0 : ∀ t, Steps p.tables e below (s₁.setTop (mkF m 0 #[.val (.int p1), .val (.int p2), .val (.int p3), .unset, .unset, .unset, .unset, .unset, .unset, .unset, .unset, .unset, .unset, .unset, .unset] [])) t → Steps p.tables e below (s₁.setTop (entryFrame m #[(.int p1), (.int p2), (.int p3)] maxLocals)) t := fun t k => castTop (ef_0 m p1 p2 p3) k
  obtain ⟨T4, h4, k4, X4, e4, E4, A4, st4⟩ := newP X0 hx hZ (hw _ (List.mem_of_getElem? (i := 0) rfl)) e0 (g := (mkF m 12 #[.val (.int p1), .val (.int p2), .val (.int p3), .val (.int (p1 &&& (63 : Int32))), .val (.int (p2 &&& (63 : Int32))), .unset, .unset, .unset, .unset, .unset, .unset, .unset, .unset, .unset, .unset] [(.int (p1 &&& (63 : Int32)))])) rfl (hb hby at_12) rfl (own_63 p1).1 (cap := 63) (own_63 p1).2 (by decide) (by decide) (by decide)
  obtain ⟨b4, g4⟩ : ∃ z, z = h0.size := ⟨_, rfl⟩
  rw [← g4] at A4 st4
  have V_b4 : own_al Z h4 b4 (p1 &&& (63 : Int32)) := own_al_new A4 (own_63 p1).1
  have g_b4 : n0 ≤ b4 := Nat.le_trans Z0 (Nat.le_of_eq g4.symm)
  have sz_b4 : h0.size ≤ b4 := (Nat.le_trans (Keep.refl h0 []).1 (Nat.le_of_eq g4.symm))
  have K4 : Keep h0 h4 [] := (Keep.refl h0 []).ext E4
  obtain ⟨T5, h5, k5, X5, e5, E5, A5, st5⟩ := newP X4 hx hZ (hw _ (List.mem_of_getElem? (i := 0) rfl)) e4 (g := (mkF m 18 #[.val (.int p1), .val (.int p2), .val (.int p3), .val (.int (p1 &&& (63 : Int32))), .val (.int (p2 &&& (63 : Int32))), .val (.ref b4), .unset, .unset, .unset, .unset, .unset, .unset, .unset, .unset, .unset] [(.int (p2 &&& (63 : Int32)))])) rfl (hb hby at_18) rfl (own_63 p2).1 (cap := 63) (own_63 p2).2 (by decide) (by decide) (by decide)
  obtain ⟨b5, g5⟩ : ∃ z, z = h4.size := ⟨_, rfl⟩
  rw [← g5] at A5 st5
  have V_b5 : own_al Z h5 b5 (p2 &&& (63 : Int32)) := own_al_new A5 (own_63 p2).1
  have ne45 : b4 ≠ b5 := Nat.ne_of_lt (Nat.lt_of_lt_of_eq (own_al_lt V_b4) g5.symm)
  have U4_5 : own_al Z h5 b4 (p1 &&& (63 : Int32)) := own_al_ext V_b4 E5
  have g_b5 : n0 ≤ b5 := Nat.le_trans (Nat.le_trans Z0 E4.1) (Nat.le_of_eq g5.symm)
  have sz_b5 : h0.size ≤ b5 := (Nat.le_trans K4.1 (Nat.le_of_eq g5.symm))
  have K5 : Keep h0 h5 [] := K4.ext E5
  have U4 : own_al Z h5 b4 (p1 &&& (63 : Int32)) := U4_5
  have U5 : own_al Z h5 b5 (p2 &&& (63 : Int32)) := V_b5
  have ZA : n0 ≤ h5.size := Nat.le_trans Z0 K5.1
  obtain ⟨c4, Q4a, Q4s, Q4n⟩ := id U4
  obtain ⟨c5, Q5a, Q5s, Q5n⟩ := id U5
  obtain ⟨_, _, ⟨T6, L6, k6, n6⟩, -, X6, ⟨Lc6, hQ6, l6, y6, z6⟩, st6⟩ := Jvm.LawKit.callS X5 hx (y := (⟨"com/example/onceword/onceword/memory/ByteMap", "recordBytes", "([B[B)J"⟩ : MethodName)) hown (mvT hZ (hw _ (List.mem_of_getElem? (i := 2) rfl))) (mvT hZ (hw _ (List.mem_of_getElem? (i := 3) rfl))) (mvT hZ (hw _ (List.mem_of_getElem? (i := 4) rfl))) (mvT hZ (hw _ (List.mem_of_getElem? (i := 5) rfl))) (by decide) (backOf (W := 0) (rm1 l Z a0 hw [] b4 b5 c4 (p1 &&& (63 : Int32)) c5 (p2 &&& (63 : Int32)) h5 n0 ZA Q4a Q4s Q4n Q5a Q5s Q5n) hZ (hw _ (List.mem_of_getElem? (i := 5) rfl)) (hw _ (List.mem_of_getElem? (i := 4) rfl)) (by decide) (by decide)) (g := (mkF m 58 #[.val (.int p1), .val (.int p2), .val (.int p3), .val (.int (p1 &&& (63 : Int32))), .val (.int (p2 &&& (63 : Int32))), .val (.ref b4), .val (.ref b5), .val (.long (25 : Int64)), .second, .unset, .unset, .unset, .unset, .unset, .unset] [(.ref b5), (.ref b4)])) rfl (by rw [hml]; rfl) (argsL := [(.ref b4), (.ref b5)]) (rest := []) (lenOf pd_0_0 rfl) rfl (by show 2 * 0 + _ ≤ _; exact Nat.le_of_eq rfl) (hb hby at_58) (fun _ _ => ⟨rfl, e5, (by decide : 2 + 0 ≤ _), (by decide : 126 + 0 ≤ _)⟩)
  dsimp only [Pt.U, Pt.locs, Pt.cells, Pt.slots] at X6 l6 y6 z6 st6 hQ6
  subst l6 y6 z6
  obtain ⟨rfl, N6q, e6q⟩ := hQ6
  have e6p : T6.heap = h5 := e6q
  have N6 := Fr.app N0 N6q
  obtain ⟨T7, h7, k7, X7, e7, E7, A7, st7⟩ := newP X6 hx hZ (hw _ (List.mem_of_getElem? (i := 0) rfl)) rfl (g := (mkF m 64 #[.val (.int p1), .val (.int p2), .val (.int p3), .val (.int (p1 &&& (63 : Int32))), .val (.int (p2 &&& (63 : Int32))), .val (.ref b4), .val (.ref b5), .val (.long (25 : Int64)), .second, .val (.long (own_rb (p1 &&& (63 : Int32)) (p2 &&& (63 : Int32)))), .second, .unset, .unset, .unset, .unset] [(.int (0 : Int32))])) rfl (hb hby at_64) rfl (by decide) (cap := 0) (by decide) (by decide) (by decide) (by decide)
  obtain ⟨b7, g7⟩ : ∃ z, z = T6.heap.size := ⟨_, rfl⟩
  rw [← g7] at A7 st7
  have V_b7 : own_al Z h7 b7 (0 : Int32) := own_al_new A7 (by decide)
  obtain ⟨T8, h8, k8, X8, e8, E8, A8, st8⟩ := newP X7 hx hZ (hw _ (List.mem_of_getElem? (i := 0) rfl)) e7 (g := (mkF m 67 #[.val (.int p1), .val (.int p2), .val (.int p3), .val (.int (p1 &&& (63 : Int32))), .val (.int (p2 &&& (63 : Int32))), .val (.ref b4), .val (.ref b5), .val (.long (25 : Int64)), .second, .val (.long (own_rb (p1 &&& (63 : Int32)) (p2 &&& (63 : Int32)))), .second, .unset, .unset, .unset, .unset] [(.int (0 : Int32)), (.ref b7)])) rfl (hb hby at_67) rfl (by decide) (cap := 0) (by decide) (by decide) (by decide) (by decide)
  obtain ⟨b8, g8⟩ : ∃ z, z = h7.size := ⟨_, rfl⟩
  rw [← g8] at A8 st8
  have V_b8 : own_al Z h8 b8 (0 : Int32) := own_al_new A8 (by decide)
  obtain ⟨c9, Q9a, Q9s, Q9n⟩ := own_al_ext V_b7 E8
  obtain ⟨c10, Q10a, Q10s, Q10n⟩ := id V_b8
  have ZB : n0 ≤ h8.size := Nat.le_trans (Nat.le_trans ZA (Nat.le_of_eq (congrArg Array.size e6p.symm))) (Nat.le_trans E7.1 E8.1)
  have U4b : own_al Z h8 b4 (p1 &&& (63 : Int32)) := own_al_ext (own_al_ext (show own_al Z T6.heap b4 (p1 &&& (63 : Int32)) by rw [e6p]; exact U4) E7) E8
  have U5b : own_al Z h8 b5 (p2 &&& (63 : Int32)) := own_al_ext (own_al_ext (show own_al Z T6.heap b5 (p2 &&& (63 : Int32)) by rw [e6p]; exact U5) E7) E8
  obtain ⟨_, _, ⟨T9, L9, k9, n9⟩, -, X9, ⟨Lc9, hQ9, l9, y9, z9⟩, st9⟩ := Jvm.LawKit.callS X8 hx (y := (⟨"com/example/onceword/onceword/memory/ByteMap", "recordBytes", "([B[B)J"⟩ : MethodName)) hown (mvT hZ (hw _ (List.mem_of_getElem? (i := 2) rfl))) (mvT hZ (hw _ (List.mem_of_getElem? (i := 3) rfl))) (mvT hZ (hw _ (List.mem_of_getElem? (i := 4) rfl))) (mvT hZ (hw _ (List.mem_of_getElem? (i := 5) rfl))) (by decide) (backOf (W := 0) (rm1 l Z a0 hw [] b7 b8 c9 (0 : Int32) c10 (0 : Int32) h8 n0 ZB Q9a Q9s Q9n Q10a Q10s Q10n) hZ (hw _ (List.mem_of_getElem? (i := 5) rfl)) (hw _ (List.mem_of_getElem? (i := 4) rfl)) (by decide) (by decide)) (g := (mkF m 69 #[.val (.int p1), .val (.int p2), .val (.int p3), .val (.int (p1 &&& (63 : Int32))), .val (.int (p2 &&& (63 : Int32))), .val (.ref b4), .val (.ref b5), .val (.long (25 : Int64)), .second, .val (.long (own_rb (p1 &&& (63 : Int32)) (p2 &&& (63 : Int32)))), .second, .unset, .unset, .unset, .unset] [(.ref b8), (.ref b7)])) rfl (by rw [hml]; rfl) (argsL := [(.ref b7), (.ref b8)]) (rest := []) (lenOf pd_0_0 rfl) rfl (by show 2 * 0 + _ ≤ _; exact Nat.le_of_eq rfl) (hb hby at_69) (fun _ _ => ⟨rfl, e8, (by decide : 4 + 0 ≤ _), (by decide : 126 + 0 ≤ _)⟩)
  dsimp only [Pt.U, Pt.locs, Pt.cells, Pt.slots] at X9 l9 y9 z9 st9 hQ9
  subst l9 y9 z9
  obtain ⟨rfl, N9q, e9q⟩ := hQ9
  have e9p : T9.heap = h8 := e9q
  obtain ⟨d4, R4a, R4s, R4n⟩ := (show own_al Z T9.heap b4 (p1 &&& (63 : Int32)) by rw [e9p]; exact U4b)
  obtain ⟨d5, R5a, R5s, R5n⟩ := (show own_al Z T9.heap b5 (p2 &&& (63 : Int32)) by rw [e9p]; exact U5b)
  have N9 := Fr.app N6 N9q
  obtain ⟨_, _, ⟨T10, L10, k10, n10⟩, -, X10, ⟨Lc10, hQ10, l10, y10, z10⟩, st10⟩ := Jvm.LawKit.callS X9 hx (y := (⟨"com/example/onceword/onceword/memory/ByteMap", "recordBytes", "([B[B)J"⟩ : MethodName)) hown (mvT hZ (hw _ (List.mem_of_getElem? (i := 2) rfl))) (mvT hZ (hw _ (List.mem_of_getElem? (i := 3) rfl))) (mvT hZ (hw _ (List.mem_of_getElem? (i := 4) rfl))) (mvT hZ (hw _ (List.mem_of_getElem? (i := 5) rfl))) (by decide) (backOf (W := 0) (rm1 l Z a0 hw [] b5 b4 d5 (p2 &&& (63 : Int32)) d4 (p1 &&& (63 : Int32)) T9.heap n0 (by rw [e9p]; exact ZB) R5a R5s R5n R4a R4s R4n) hZ (hw _ (List.mem_of_getElem? (i := 5) rfl)) (hw _ (List.mem_of_getElem? (i := 4) rfl)) (by decide) (by decide)) (g := (mkF m 78 #[.val (.int p1), .val (.int p2), .val (.int p3), .val (.int (p1 &&& (63 : Int32))), .val (.int (p2 &&& (63 : Int32))), .val (.ref b4), .val (.ref b5), .val (.long (25 : Int64)), .second, .val (.long (own_rb (p1 &&& (63 : Int32)) (p2 &&& (63 : Int32)))), .second, .val (.long (own_rb (0 : Int32) (0 : Int32))), .second, .unset, .unset] [(.ref b4), (.ref b5)])) rfl (by rw [hml]; rfl) (argsL := [(.ref b5), (.ref b4)]) (rest := []) (lenOf pd_0_0 rfl) rfl (by show 2 * 0 + _ ≤ _; exact Nat.le_of_eq rfl) (hb hby at_78) (fun _ _ => ⟨rfl, rfl, (by decide : 4 + 0 ≤ _), (by decide : 126 + 0 ≤ _)⟩)
  dsimp only [Pt.U, Pt.locs, Pt.cells, Pt.slots] at X10 l10 y10 z10 st10 hQ10
  subst l10 y10 z10
  obtain ⟨rfl, N10q, e10q⟩ := hQ10
  have N10 := Fr.app N9 N10q
  obtain ⟨fs, hr, hrun, hended, hW, hsame⟩ := X10.leave (v := some (.int (1 : Int32))) (fun h => by rw [Bd.returns] at h; cases h)
  refine ⟨_, _, pre0 _ ?_, hrun, hended, _, _, rfl, ?_, ⟨_, rfl⟩, hW, hsame.mono (by decide) (by decide)⟩
  · show Steps p.tables e below (s₁.setTop (mkF m 0 #[.val (.int p1), .val (.int p2), .val (.int p3), .unset, .unset, .unset, .unset, .unset, .unset, .unset, .unset, .unset, .unset, .unset, .unset] [])) _
    refine XS.iloadN X0.here hx rfl (hb hby at_0) rfl ?_
    show Steps p.tables e below (s₁.setTop (mkF m 1 #[.val (.int p1), .val (.int p2), .val (.int p3), .unset, .unset, .unset, .unset, .unset, .unset, .unset, .unset, .unset, .unset, .unset, .unset] [(.int p1)])) _
    refine XS.bipush X0.here hx rfl (hb hby at_1) ?_
    show Steps p.tables e below (s₁.setTop (mkF m 3 #[.val (.int p1), .val (.int p2), .val (.int p3), .unset, .unset, .unset, .unset, .unset, .unset, .unset, .unset, .unset, .unset, .unset, .unset] [(.int (63 : Int32)), (.int p1)])) _
    refine XS.iand X0.here hx rfl (hb hby at_3) rfl ?_
    show Steps p.tables e below (s₁.setTop (mkF m 4 #[.val (.int p1), .val (.int p2), .val (.int p3), .unset, .unset, .unset, .unset, .unset, .unset, .unset, .unset, .unset, .unset, .unset, .unset] [(.int (p1 &&& (63 : Int32)))])) _
    refine XS.istoreN X0.here hx rfl (hb hby at_4) rfl (l' := #[.val (.int p1), .val (.int p2), .val (.int p3), .val (.int (p1 &&& (63 : Int32))), .unset, .unset, .unset, .unset, .unset, .unset, .unset, .unset, .unset, .unset, .unset]) rfl ?_
    show Steps p.tables e below (s₁.setTop (mkF m 5 #[.val (.int p1), .val (.int p2), .val (.int p3), .val (.int (p1 &&& (63 : Int32))), .unset, .unset, .unset, .unset, .unset, .unset, .unset, .unset, .unset, .unset, .unset] [])) _
    refine XS.iloadN X0.here hx rfl (hb hby at_5) rfl ?_
    show Steps p.tables e below (s₁.setTop (mkF m 6 #[.val (.int p1), .val (.int p2), .val (.int p3), .val (.int (p1 &&& (63 : Int32))), .unset, .unset, .unset, .unset, .unset, .unset, .unset, .unset, .unset, .unset, .unset] [(.int p2)])) _
    refine XS.bipush X0.here hx rfl (hb hby at_6) ?_
    show Steps p.tables e below (s₁.setTop (mkF m 8 #[.val (.int p1), .val (.int p2), .val (.int p3), .val (.int (p1 &&& (63 : Int32))), .unset, .unset, .unset, .unset, .unset, .unset, .unset, .unset, .unset, .unset, .unset] [(.int (63 : Int32)), (.int p2)])) _
    refine XS.iand X0.here hx rfl (hb hby at_8) rfl ?_
    show Steps p.tables e below (s₁.setTop (mkF m 9 #[.val (.int p1), .val (.int p2), .val (.int p3), .val (.int (p1 &&& (63 : Int32))), .unset, .unset, .unset, .unset, .unset, .unset, .unset, .unset, .unset, .unset, .unset] [(.int (p2 &&& (63 : Int32)))])) _
    refine XS.istore X0.here hx rfl (hb hby at_9) rfl (l' := #[.val (.int p1), .val (.int p2), .val (.int p3), .val (.int (p1 &&& (63 : Int32))), .val (.int (p2 &&& (63 : Int32))), .unset, .unset, .unset, .unset, .unset, .unset, .unset, .unset, .unset, .unset]) rfl ?_
    show Steps p.tables e below (s₁.setTop (mkF m 11 #[.val (.int p1), .val (.int p2), .val (.int p3), .val (.int (p1 &&& (63 : Int32))), .val (.int (p2 &&& (63 : Int32))), .unset, .unset, .unset, .unset, .unset, .unset, .unset, .unset, .unset, .unset] [])) _
    refine XS.iloadN X0.here hx rfl (hb hby at_11) rfl ?_
    show Steps p.tables e below (s₁.setTop (mkF m 12 #[.val (.int p1), .val (.int p2), .val (.int p3), .val (.int (p1 &&& (63 : Int32))), .val (.int (p2 &&& (63 : Int32))), .unset, .unset, .unset, .unset, .unset, .unset, .unset, .unset, .unset, .unset] [(.int (p1 &&& (63 : Int32)))])) _
    refine st4 _ ?_
    show Steps p.tables e below (T4.setTop (mkF m 14 #[.val (.int p1), .val (.int p2), .val (.int p3), .val (.int (p1 &&& (63 : Int32))), .val (.int (p2 &&& (63 : Int32))), .unset, .unset, .unset, .unset, .unset, .unset, .unset, .unset, .unset, .unset] [(.ref b4)])) _
    refine XS.astore X4.here hx rfl (hb hby at_14) rfl rfl (l' := #[.val (.int p1), .val (.int p2), .val (.int p3), .val (.int (p1 &&& (63 : Int32))), .val (.int (p2 &&& (63 : Int32))), .val (.ref b4), .unset, .unset, .unset, .unset, .unset, .unset, .unset, .unset, .unset]) rfl ?_
    show Steps p.tables e below (T4.setTop (mkF m 16 #[.val (.int p1), .val (.int p2), .val (.int p3), .val (.int (p1 &&& (63 : Int32))), .val (.int (p2 &&& (63 : Int32))), .val (.ref b4), .unset, .unset, .unset, .unset, .unset, .unset, .unset, .unset, .unset] [])) _
    refine XS.iload X4.here hx rfl (hb hby at_16) rfl ?_
    show Steps p.tables e below (T4.setTop (mkF m 18 #[.val (.int p1), .val (.int p2), .val (.int p3), .val (.int (p1 &&& (63 : Int32))), .val (.int (p2 &&& (63 : Int32))), .val (.ref b4), .unset, .unset, .unset, .unset, .unset, .unset, .unset, .unset, .unset] [(.int (p2 &&& (63 : Int32)))])) _
    refine st5 _ ?_
    show Steps p.tables e below (T5.setTop (mkF m 20 #[.val (.int p1), .val (.int p2), .val (.int p3), .val (.int (p1 &&& (63 : Int32))), .val (.int (p2 &&& (63 : Int32))), .val (.ref b4), .unset, .unset, .unset, .unset, .unset, .unset, .unset, .unset, .unset] [(.ref b5)])) _
    refine XS.astore X5.here hx rfl (hb hby at_20) rfl rfl (l' := #[.val (.int p1), .val (.int p2), .val (.int p3), .val (.int (p1 &&& (63 : Int32))), .val (.int (p2 &&& (63 : Int32))), .val (.ref b4), .val (.ref b5), .unset, .unset, .unset, .unset, .unset, .unset, .unset, .unset]) rfl ?_
    show Steps p.tables e below (T5.setTop (mkF m 22 #[.val (.int p1), .val (.int p2), .val (.int p3), .val (.int (p1 &&& (63 : Int32))), .val (.int (p2 &&& (63 : Int32))), .val (.ref b4), .val (.ref b5), .unset, .unset, .unset, .unset, .unset, .unset, .unset, .unset] [])) _
    refine XS.iloadN X5.here hx rfl (hb hby at_22) rfl ?_
    show Steps p.tables e below (T5.setTop (mkF m 23 #[.val (.int p1), .val (.int p2), .val (.int p3), .val (.int (p1 &&& (63 : Int32))), .val (.int (p2 &&& (63 : Int32))), .val (.ref b4), .val (.ref b5), .unset, .unset, .unset, .unset, .unset, .unset, .unset, .unset] [(.int (p1 &&& (63 : Int32)))])) _
    refine XS.ifYes X5.here hx rfl (pc0 := 23) (pc' := 32) rfl (hb hby at_23) rfl ((if0 _ _).trans (flt hc23).2.2.2) (by decide) (by decide) ?_
    show Steps p.tables e below (T5.setTop (mkF m 32 #[.val (.int p1), .val (.int p2), .val (.int p3), .val (.int (p1 &&& (63 : Int32))), .val (.int (p2 &&& (63 : Int32))), .val (.ref b4), .val (.ref b5), .unset, .unset, .unset, .unset, .unset, .unset, .unset, .unset] [])) _
    refine XS.iload X5.here hx rfl (hb hby at_32) rfl ?_
    show Steps p.tables e below (T5.setTop (mkF m 34 #[.val (.int p1), .val (.int p2), .val (.int p3), .val (.int (p1 &&& (63 : Int32))), .val (.int (p2 &&& (63 : Int32))), .val (.ref b4), .val (.ref b5), .unset, .unset, .unset, .unset, .unset, .unset, .unset, .unset] [(.int (p2 &&& (63 : Int32)))])) _
    refine XS.ifYes X5.here hx rfl (pc0 := 34) (pc' := 49) rfl (hb hby at_34) rfl ((if0 _ _).trans (flt hc34).2.2.2) (by decide) (by decide) ?_
    show Steps p.tables e below (T5.setTop (mkF m 49 #[.val (.int p1), .val (.int p2), .val (.int p3), .val (.int (p1 &&& (63 : Int32))), .val (.int (p2 &&& (63 : Int32))), .val (.ref b4), .val (.ref b5), .unset, .unset, .unset, .unset, .unset, .unset, .unset, .unset] [])) _
    refine X5.ldc2Long hx hown (mvT hZ (hw _ (List.mem_of_getElem? (i := 1) rfl))) (g := (mkF m 49 #[.val (.int p1), .val (.int p2), .val (.int p3), .val (.int (p1 &&& (63 : Int32))), .val (.int (p2 &&& (63 : Int32))), .val (.ref b4), .val (.ref b5), .unset, .unset, .unset, .unset, .unset, .unset, .unset, .unset] [])) rfl (hb hby at_49) _ ?_
    show Steps p.tables e below (T5.setTop (mkF m 52 #[.val (.int p1), .val (.int p2), .val (.int p3), .val (.int (p1 &&& (63 : Int32))), .val (.int (p2 &&& (63 : Int32))), .val (.ref b4), .val (.ref b5), .unset, .unset, .unset, .unset, .unset, .unset, .unset, .unset] [(.long (25 : Int64))])) _
    refine XS.lstore X5.here hx rfl (hb hby at_52) rfl (l' := #[.val (.int p1), .val (.int p2), .val (.int p3), .val (.int (p1 &&& (63 : Int32))), .val (.int (p2 &&& (63 : Int32))), .val (.ref b4), .val (.ref b5), .val (.long (25 : Int64)), .second, .unset, .unset, .unset, .unset, .unset, .unset]) rfl ?_
    show Steps p.tables e below (T5.setTop (mkF m 54 #[.val (.int p1), .val (.int p2), .val (.int p3), .val (.int (p1 &&& (63 : Int32))), .val (.int (p2 &&& (63 : Int32))), .val (.ref b4), .val (.ref b5), .val (.long (25 : Int64)), .second, .unset, .unset, .unset, .unset, .unset, .unset] [])) _
    refine XS.aload X5.here hx rfl (hb hby at_54) rfl rfl ?_
    show Steps p.tables e below (T5.setTop (mkF m 56 #[.val (.int p1), .val (.int p2), .val (.int p3), .val (.int (p1 &&& (63 : Int32))), .val (.int (p2 &&& (63 : Int32))), .val (.ref b4), .val (.ref b5), .val (.long (25 : Int64)), .second, .unset, .unset, .unset, .unset, .unset, .unset] [(.ref b4)])) _
    refine XS.aload X5.here hx rfl (hb hby at_56) rfl rfl ?_
    show Steps p.tables e below (T5.setTop (mkF m 58 #[.val (.int p1), .val (.int p2), .val (.int p3), .val (.int (p1 &&& (63 : Int32))), .val (.int (p2 &&& (63 : Int32))), .val (.ref b4), .val (.ref b5), .val (.long (25 : Int64)), .second, .unset, .unset, .unset, .unset, .unset, .unset] [(.ref b5), (.ref b4)])) _
    refine st6 _ ?_
    show Steps p.tables e below (T6.setTop (mkF m 61 #[.val (.int p1), .val (.int p2), .val (.int p3), .val (.int (p1 &&& (63 : Int32))), .val (.int (p2 &&& (63 : Int32))), .val (.ref b4), .val (.ref b5), .val (.long (25 : Int64)), .second, .unset, .unset, .unset, .unset, .unset, .unset] [(.long (own_rb (p1 &&& (63 : Int32)) (p2 &&& (63 : Int32))))])) _
    refine XS.lstore X6.here hx rfl (hb hby at_61) rfl (l' := #[.val (.int p1), .val (.int p2), .val (.int p3), .val (.int (p1 &&& (63 : Int32))), .val (.int (p2 &&& (63 : Int32))), .val (.ref b4), .val (.ref b5), .val (.long (25 : Int64)), .second, .val (.long (own_rb (p1 &&& (63 : Int32)) (p2 &&& (63 : Int32)))), .second, .unset, .unset, .unset, .unset]) rfl ?_
    show Steps p.tables e below (T6.setTop (mkF m 63 #[.val (.int p1), .val (.int p2), .val (.int p3), .val (.int (p1 &&& (63 : Int32))), .val (.int (p2 &&& (63 : Int32))), .val (.ref b4), .val (.ref b5), .val (.long (25 : Int64)), .second, .val (.long (own_rb (p1 &&& (63 : Int32)) (p2 &&& (63 : Int32)))), .second, .unset, .unset, .unset, .unset] [])) _
    refine XS.iconst X6.here hx rfl (hb hby at_63) ?_
    show Steps p.tables e below (T6.setTop (mkF m 64 #[.val (.int p1), .val (.int p2), .val (.int p3), .val (.int (p1 &&& (63 : Int32))), .val (.int (p2 &&& (63 : Int32))), .val (.ref b4), .val (.ref b5), .val (.long (25 : Int64)), .second, .val (.long (own_rb (p1 &&& (63 : Int32)) (p2 &&& (63 : Int32)))), .second, .unset, .unset, .unset, .unset] [(.int (0 : Int32))])) _
    refine st7 _ ?_
    show Steps p.tables e below (T7.setTop (mkF m 66 #[.val (.int p1), .val (.int p2), .val (.int p3), .val (.int (p1 &&& (63 : Int32))), .val (.int (p2 &&& (63 : Int32))), .val (.ref b4), .val (.ref b5), .val (.long (25 : Int64)), .second, .val (.long (own_rb (p1 &&& (63 : Int32)) (p2 &&& (63 : Int32)))), .second, .unset, .unset, .unset, .unset] [(.ref b7)])) _
    refine XS.iconst X7.here hx rfl (hb hby at_66) ?_
    show Steps p.tables e below (T7.setTop (mkF m 67 #[.val (.int p1), .val (.int p2), .val (.int p3), .val (.int (p1 &&& (63 : Int32))), .val (.int (p2 &&& (63 : Int32))), .val (.ref b4), .val (.ref b5), .val (.long (25 : Int64)), .second, .val (.long (own_rb (p1 &&& (63 : Int32)) (p2 &&& (63 : Int32)))), .second, .unset, .unset, .unset, .unset] [(.int (0 : Int32)), (.ref b7)])) _
    refine st8 _ ?_
    show Steps p.tables e below (T8.setTop (mkF m 69 #[.val (.int p1), .val (.int p2), .val (.int p3), .val (.int (p1 &&& (63 : Int32))), .val (.int (p2 &&& (63 : Int32))), .val (.ref b4), .val (.ref b5), .val (.long (25 : Int64)), .second, .val (.long (own_rb (p1 &&& (63 : Int32)) (p2 &&& (63 : Int32)))), .second, .unset, .unset, .unset, .unset] [(.ref b8), (.ref b7)])) _
    refine st9 _ ?_
    show Steps p.tables e below (T9.setTop (mkF m 72 #[.val (.int p1), .val (.int p2), .val (.int p3), .val (.int (p1 &&& (63 : Int32))), .val (.int (p2 &&& (63 : Int32))), .val (.ref b4), .val (.ref b5), .val (.long (25 : Int64)), .second, .val (.long (own_rb (p1 &&& (63 : Int32)) (p2 &&& (63 : Int32)))), .second, .unset, .unset, .unset, .unset] [(.long (own_rb (0 : Int32) (0 : Int32)))])) _
    refine XS.lstore X9.here hx rfl (hb hby at_72) rfl (l' := #[.val (.int p1), .val (.int p2), .val (.int p3), .val (.int (p1 &&& (63 : Int32))), .val (.int (p2 &&& (63 : Int32))), .val (.ref b4), .val (.ref b5), .val (.long (25 : Int64)), .second, .val (.long (own_rb (p1 &&& (63 : Int32)) (p2 &&& (63 : Int32)))), .second, .val (.long (own_rb (0 : Int32) (0 : Int32))), .second, .unset, .unset]) rfl ?_
    show Steps p.tables e below (T9.setTop (mkF m 74 #[.val (.int p1), .val (.int p2), .val (.int p3), .val (.int (p1 &&& (63 : Int32))), .val (.int (p2 &&& (63 : Int32))), .val (.ref b4), .val (.ref b5), .val (.long (25 : Int64)), .second, .val (.long (own_rb (p1 &&& (63 : Int32)) (p2 &&& (63 : Int32)))), .second, .val (.long (own_rb (0 : Int32) (0 : Int32))), .second, .unset, .unset] [])) _
    refine XS.aload X9.here hx rfl (hb hby at_74) rfl rfl ?_
    show Steps p.tables e below (T9.setTop (mkF m 76 #[.val (.int p1), .val (.int p2), .val (.int p3), .val (.int (p1 &&& (63 : Int32))), .val (.int (p2 &&& (63 : Int32))), .val (.ref b4), .val (.ref b5), .val (.long (25 : Int64)), .second, .val (.long (own_rb (p1 &&& (63 : Int32)) (p2 &&& (63 : Int32)))), .second, .val (.long (own_rb (0 : Int32) (0 : Int32))), .second, .unset, .unset] [(.ref b5)])) _
    refine XS.aload X9.here hx rfl (hb hby at_76) rfl rfl ?_
    show Steps p.tables e below (T9.setTop (mkF m 78 #[.val (.int p1), .val (.int p2), .val (.int p3), .val (.int (p1 &&& (63 : Int32))), .val (.int (p2 &&& (63 : Int32))), .val (.ref b4), .val (.ref b5), .val (.long (25 : Int64)), .second, .val (.long (own_rb (p1 &&& (63 : Int32)) (p2 &&& (63 : Int32)))), .second, .val (.long (own_rb (0 : Int32) (0 : Int32))), .second, .unset, .unset] [(.ref b4), (.ref b5)])) _
    refine st10 _ ?_
    show Steps p.tables e below (T10.setTop (mkF m 81 #[.val (.int p1), .val (.int p2), .val (.int p3), .val (.int (p1 &&& (63 : Int32))), .val (.int (p2 &&& (63 : Int32))), .val (.ref b4), .val (.ref b5), .val (.long (25 : Int64)), .second, .val (.long (own_rb (p1 &&& (63 : Int32)) (p2 &&& (63 : Int32)))), .second, .val (.long (own_rb (0 : Int32) (0 : Int32))), .second, .unset, .unset] [(.long (own_rb (p2 &&& (63 : Int32)) (p1 &&& (63 : Int32))))])) _
    refine XS.lstore X10.here hx rfl (hb hby at_81) rfl (l' := #[.val (.int p1), .val (.int p2), .val (.int p3), .val (.int (p1 &&& (63 : Int32))), .val (.int (p2 &&& (63 : Int32))), .val (.ref b4), .val (.ref b5), .val (.long (25 : Int64)), .second, .val (.long (own_rb (p1 &&& (63 : Int32)) (p2 &&& (63 : Int32)))), .second, .val (.long (own_rb (0 : Int32) (0 : Int32))), .second, .val (.long (own_rb (p2 &&& (63 : Int32)) (p1 &&& (63 : Int32)))), .second]) rfl ?_
    show Steps p.tables e below (T10.setTop (mkF m 83 #[.val (.int p1), .val (.int p2), .val (.int p3), .val (.int (p1 &&& (63 : Int32))), .val (.int (p2 &&& (63 : Int32))), .val (.ref b4), .val (.ref b5), .val (.long (25 : Int64)), .second, .val (.long (own_rb (p1 &&& (63 : Int32)) (p2 &&& (63 : Int32)))), .second, .val (.long (own_rb (0 : Int32) (0 : Int32))), .second, .val (.long (own_rb (p2 &&& (63 : Int32)) (p1 &&& (63 : Int32)))), .second] [])) _
    refine XS.lload X10.here hx rfl (hb hby at_83) rfl ?_
    show Steps p.tables e below (T10.setTop (mkF m 85 #[.val (.int p1), .val (.int p2), .val (.int p3), .val (.int (p1 &&& (63 : Int32))), .val (.int (p2 &&& (63 : Int32))), .val (.ref b4), .val (.ref b5), .val (.long (25 : Int64)), .second, .val (.long (own_rb (p1 &&& (63 : Int32)) (p2 &&& (63 : Int32)))), .second, .val (.long (own_rb (0 : Int32) (0 : Int32))), .second, .val (.long (own_rb (p2 &&& (63 : Int32)) (p1 &&& (63 : Int32)))), .second] [(.long (own_rb (0 : Int32) (0 : Int32)))])) _
    refine XS.lload X10.here hx rfl (hb hby at_85) rfl ?_
    show Steps p.tables e below (T10.setTop (mkF m 87 #[.val (.int p1), .val (.int p2), .val (.int p3), .val (.int (p1 &&& (63 : Int32))), .val (.int (p2 &&& (63 : Int32))), .val (.ref b4), .val (.ref b5), .val (.long (25 : Int64)), .second, .val (.long (own_rb (p1 &&& (63 : Int32)) (p2 &&& (63 : Int32)))), .second, .val (.long (own_rb (0 : Int32) (0 : Int32))), .second, .val (.long (own_rb (p2 &&& (63 : Int32)) (p1 &&& (63 : Int32)))), .second] [(.long (25 : Int64)), (.long (own_rb (0 : Int32) (0 : Int32)))])) _
    refine XS.lcmp X10.here hx rfl (hb hby at_87) rfl ?_
    show Steps p.tables e below (T10.setTop (mkF m 88 #[.val (.int p1), .val (.int p2), .val (.int p3), .val (.int (p1 &&& (63 : Int32))), .val (.int (p2 &&& (63 : Int32))), .val (.ref b4), .val (.ref b5), .val (.long (25 : Int64)), .second, .val (.long (own_rb (p1 &&& (63 : Int32)) (p2 &&& (63 : Int32)))), .second, .val (.long (own_rb (0 : Int32) (0 : Int32))), .second, .val (.long (own_rb (p2 &&& (63 : Int32)) (p1 &&& (63 : Int32)))), .second] [(.int (lcmpW (own_rb (0 : Int32) (0 : Int32)) (25 : Int64)))])) _
    refine XS.ifNo X10.here hx rfl (hb hby at_88) rfl ((if0 _ _).trans (teq (own_lc _ _ (by decide +kernel) : (lcmpW (own_rb (0 : Int32) (0 : Int32)) (25 : Int64)) = (0 : Int32))).2) ?_
    show Steps p.tables e below (T10.setTop (mkF m 91 #[.val (.int p1), .val (.int p2), .val (.int p3), .val (.int (p1 &&& (63 : Int32))), .val (.int (p2 &&& (63 : Int32))), .val (.ref b4), .val (.ref b5), .val (.long (25 : Int64)), .second, .val (.long (own_rb (p1 &&& (63 : Int32)) (p2 &&& (63 : Int32)))), .second, .val (.long (own_rb (0 : Int32) (0 : Int32))), .second, .val (.long (own_rb (p2 &&& (63 : Int32)) (p1 &&& (63 : Int32)))), .second] [])) _
    refine XS.lload X10.here hx rfl (hb hby at_91) rfl ?_
    show Steps p.tables e below (T10.setTop (mkF m 93 #[.val (.int p1), .val (.int p2), .val (.int p3), .val (.int (p1 &&& (63 : Int32))), .val (.int (p2 &&& (63 : Int32))), .val (.ref b4), .val (.ref b5), .val (.long (25 : Int64)), .second, .val (.long (own_rb (p1 &&& (63 : Int32)) (p2 &&& (63 : Int32)))), .second, .val (.long (own_rb (0 : Int32) (0 : Int32))), .second, .val (.long (own_rb (p2 &&& (63 : Int32)) (p1 &&& (63 : Int32)))), .second] [(.long (own_rb (p1 &&& (63 : Int32)) (p2 &&& (63 : Int32))))])) _
    refine XS.lload X10.here hx rfl (hb hby at_93) rfl ?_
    show Steps p.tables e below (T10.setTop (mkF m 95 #[.val (.int p1), .val (.int p2), .val (.int p3), .val (.int (p1 &&& (63 : Int32))), .val (.int (p2 &&& (63 : Int32))), .val (.ref b4), .val (.ref b5), .val (.long (25 : Int64)), .second, .val (.long (own_rb (p1 &&& (63 : Int32)) (p2 &&& (63 : Int32)))), .second, .val (.long (own_rb (0 : Int32) (0 : Int32))), .second, .val (.long (own_rb (p2 &&& (63 : Int32)) (p1 &&& (63 : Int32)))), .second] [(.long (25 : Int64)), (.long (own_rb (p1 &&& (63 : Int32)) (p2 &&& (63 : Int32))))])) _
    refine XS.iloadN X10.here hx rfl (hb hby at_95) rfl ?_
    show Steps p.tables e below (T10.setTop (mkF m 96 #[.val (.int p1), .val (.int p2), .val (.int p3), .val (.int (p1 &&& (63 : Int32))), .val (.int (p2 &&& (63 : Int32))), .val (.ref b4), .val (.ref b5), .val (.long (25 : Int64)), .second, .val (.long (own_rb (p1 &&& (63 : Int32)) (p2 &&& (63 : Int32)))), .second, .val (.long (own_rb (0 : Int32) (0 : Int32))), .second, .val (.long (own_rb (p2 &&& (63 : Int32)) (p1 &&& (63 : Int32)))), .second] [(.int (p1 &&& (63 : Int32))), (.long (25 : Int64)), (.long (own_rb (p1 &&& (63 : Int32)) (p2 &&& (63 : Int32))))])) _
    refine XS.i2l X10.here hx rfl (hb hby at_96) rfl ?_
    show Steps p.tables e below (T10.setTop (mkF m 97 #[.val (.int p1), .val (.int p2), .val (.int p3), .val (.int (p1 &&& (63 : Int32))), .val (.int (p2 &&& (63 : Int32))), .val (.ref b4), .val (.ref b5), .val (.long (25 : Int64)), .second, .val (.long (own_rb (p1 &&& (63 : Int32)) (p2 &&& (63 : Int32)))), .second, .val (.long (own_rb (0 : Int32) (0 : Int32))), .second, .val (.long (own_rb (p2 &&& (63 : Int32)) (p1 &&& (63 : Int32)))), .second] [(.long ((p1 &&& (63 : Int32)).toInt64)), (.long (25 : Int64)), (.long (own_rb (p1 &&& (63 : Int32)) (p2 &&& (63 : Int32))))])) _
    refine XS.ladd X10.here hx rfl (hb hby at_97) rfl ?_
    show Steps p.tables e below (T10.setTop (mkF m 98 #[.val (.int p1), .val (.int p2), .val (.int p3), .val (.int (p1 &&& (63 : Int32))), .val (.int (p2 &&& (63 : Int32))), .val (.ref b4), .val (.ref b5), .val (.long (25 : Int64)), .second, .val (.long (own_rb (p1 &&& (63 : Int32)) (p2 &&& (63 : Int32)))), .second, .val (.long (own_rb (0 : Int32) (0 : Int32))), .second, .val (.long (own_rb (p2 &&& (63 : Int32)) (p1 &&& (63 : Int32)))), .second] [(.long ((25 : Int64) + ((p1 &&& (63 : Int32)).toInt64))), (.long (own_rb (p1 &&& (63 : Int32)) (p2 &&& (63 : Int32))))])) _
    refine XS.iload X10.here hx rfl (hb hby at_98) rfl ?_
    show Steps p.tables e below (T10.setTop (mkF m 100 #[.val (.int p1), .val (.int p2), .val (.int p3), .val (.int (p1 &&& (63 : Int32))), .val (.int (p2 &&& (63 : Int32))), .val (.ref b4), .val (.ref b5), .val (.long (25 : Int64)), .second, .val (.long (own_rb (p1 &&& (63 : Int32)) (p2 &&& (63 : Int32)))), .second, .val (.long (own_rb (0 : Int32) (0 : Int32))), .second, .val (.long (own_rb (p2 &&& (63 : Int32)) (p1 &&& (63 : Int32)))), .second] [(.int (p2 &&& (63 : Int32))), (.long ((25 : Int64) + ((p1 &&& (63 : Int32)).toInt64))), (.long (own_rb (p1 &&& (63 : Int32)) (p2 &&& (63 : Int32))))])) _
    refine XS.i2l X10.here hx rfl (hb hby at_100) rfl ?_
    show Steps p.tables e below (T10.setTop (mkF m 101 #[.val (.int p1), .val (.int p2), .val (.int p3), .val (.int (p1 &&& (63 : Int32))), .val (.int (p2 &&& (63 : Int32))), .val (.ref b4), .val (.ref b5), .val (.long (25 : Int64)), .second, .val (.long (own_rb (p1 &&& (63 : Int32)) (p2 &&& (63 : Int32)))), .second, .val (.long (own_rb (0 : Int32) (0 : Int32))), .second, .val (.long (own_rb (p2 &&& (63 : Int32)) (p1 &&& (63 : Int32)))), .second] [(.long ((p2 &&& (63 : Int32)).toInt64)), (.long ((25 : Int64) + ((p1 &&& (63 : Int32)).toInt64))), (.long (own_rb (p1 &&& (63 : Int32)) (p2 &&& (63 : Int32))))])) _
    refine XS.ladd X10.here hx rfl (hb hby at_101) rfl ?_
    show Steps p.tables e below (T10.setTop (mkF m 102 #[.val (.int p1), .val (.int p2), .val (.int p3), .val (.int (p1 &&& (63 : Int32))), .val (.int (p2 &&& (63 : Int32))), .val (.ref b4), .val (.ref b5), .val (.long (25 : Int64)), .second, .val (.long (own_rb (p1 &&& (63 : Int32)) (p2 &&& (63 : Int32)))), .second, .val (.long (own_rb (0 : Int32) (0 : Int32))), .second, .val (.long (own_rb (p2 &&& (63 : Int32)) (p1 &&& (63 : Int32)))), .second] [(.long (((25 : Int64) + ((p1 &&& (63 : Int32)).toInt64)) + ((p2 &&& (63 : Int32)).toInt64))), (.long (own_rb (p1 &&& (63 : Int32)) (p2 &&& (63 : Int32))))])) _
    refine XS.lcmp X10.here hx rfl (hb hby at_102) rfl ?_
    show Steps p.tables e below (T10.setTop (mkF m 103 #[.val (.int p1), .val (.int p2), .val (.int p3), .val (.int (p1 &&& (63 : Int32))), .val (.int (p2 &&& (63 : Int32))), .val (.ref b4), .val (.ref b5), .val (.long (25 : Int64)), .second, .val (.long (own_rb (p1 &&& (63 : Int32)) (p2 &&& (63 : Int32)))), .second, .val (.long (own_rb (0 : Int32) (0 : Int32))), .second, .val (.long (own_rb (p2 &&& (63 : Int32)) (p1 &&& (63 : Int32)))), .second] [(.int (lcmpW (own_rb (p1 &&& (63 : Int32)) (p2 &&& (63 : Int32))) (((25 : Int64) + ((p1 &&& (63 : Int32)).toInt64)) + ((p2 &&& (63 : Int32)).toInt64))))])) _
    refine XS.ifNo X10.here hx rfl (hb hby at_103) rfl ((if0 _ _).trans (teq (own_lc _ _ rfl : (lcmpW (own_rb (p1 &&& (63 : Int32)) (p2 &&& (63 : Int32))) (((25 : Int64) + ((p1 &&& (63 : Int32)).toInt64)) + ((p2 &&& (63 : Int32)).toInt64))) = (0 : Int32))).2) ?_
    show Steps p.tables e below (T10.setTop (mkF m 106 #[.val (.int p1), .val (.int p2), .val (.int p3), .val (.int (p1 &&& (63 : Int32))), .val (.int (p2 &&& (63 : Int32))), .val (.ref b4), .val (.ref b5), .val (.long (25 : Int64)), .second, .val (.long (own_rb (p1 &&& (63 : Int32)) (p2 &&& (63 : Int32)))), .second, .val (.long (own_rb (0 : Int32) (0 : Int32))), .second, .val (.long (own_rb (p2 &&& (63 : Int32)) (p1 &&& (63 : Int32)))), .second] [])) _
    refine XS.lload X10.here hx rfl (hb hby at_106) rfl ?_
    show Steps p.tables e below (T10.setTop (mkF m 108 #[.val (.int p1), .val (.int p2), .val (.int p3), .val (.int (p1 &&& (63 : Int32))), .val (.int (p2 &&& (63 : Int32))), .val (.ref b4), .val (.ref b5), .val (.long (25 : Int64)), .second, .val (.long (own_rb (p1 &&& (63 : Int32)) (p2 &&& (63 : Int32)))), .second, .val (.long (own_rb (0 : Int32) (0 : Int32))), .second, .val (.long (own_rb (p2 &&& (63 : Int32)) (p1 &&& (63 : Int32)))), .second] [(.long (own_rb (p2 &&& (63 : Int32)) (p1 &&& (63 : Int32))))])) _
    refine XS.lload X10.here hx rfl (hb hby at_108) rfl ?_
    show Steps p.tables e below (T10.setTop (mkF m 110 #[.val (.int p1), .val (.int p2), .val (.int p3), .val (.int (p1 &&& (63 : Int32))), .val (.int (p2 &&& (63 : Int32))), .val (.ref b4), .val (.ref b5), .val (.long (25 : Int64)), .second, .val (.long (own_rb (p1 &&& (63 : Int32)) (p2 &&& (63 : Int32)))), .second, .val (.long (own_rb (0 : Int32) (0 : Int32))), .second, .val (.long (own_rb (p2 &&& (63 : Int32)) (p1 &&& (63 : Int32)))), .second] [(.long (own_rb (p1 &&& (63 : Int32)) (p2 &&& (63 : Int32)))), (.long (own_rb (p2 &&& (63 : Int32)) (p1 &&& (63 : Int32))))])) _
    refine XS.lcmp X10.here hx rfl (hb hby at_110) rfl ?_
    show Steps p.tables e below (T10.setTop (mkF m 111 #[.val (.int p1), .val (.int p2), .val (.int p3), .val (.int (p1 &&& (63 : Int32))), .val (.int (p2 &&& (63 : Int32))), .val (.ref b4), .val (.ref b5), .val (.long (25 : Int64)), .second, .val (.long (own_rb (p1 &&& (63 : Int32)) (p2 &&& (63 : Int32)))), .second, .val (.long (own_rb (0 : Int32) (0 : Int32))), .second, .val (.long (own_rb (p2 &&& (63 : Int32)) (p1 &&& (63 : Int32)))), .second] [(.int (lcmpW (own_rb (p2 &&& (63 : Int32)) (p1 &&& (63 : Int32))) (own_rb (p1 &&& (63 : Int32)) (p2 &&& (63 : Int32)))))])) _
    refine XS.ifNo X10.here hx rfl (hb hby at_111) rfl ((if0 _ _).trans (teq (own_lc _ _ (own_rbc _ _) : (lcmpW (own_rb (p2 &&& (63 : Int32)) (p1 &&& (63 : Int32))) (own_rb (p1 &&& (63 : Int32)) (p2 &&& (63 : Int32)))) = (0 : Int32))).2) ?_
    show Steps p.tables e below (T10.setTop (mkF m 114 #[.val (.int p1), .val (.int p2), .val (.int p3), .val (.int (p1 &&& (63 : Int32))), .val (.int (p2 &&& (63 : Int32))), .val (.ref b4), .val (.ref b5), .val (.long (25 : Int64)), .second, .val (.long (own_rb (p1 &&& (63 : Int32)) (p2 &&& (63 : Int32)))), .second, .val (.long (own_rb (0 : Int32) (0 : Int32))), .second, .val (.long (own_rb (p2 &&& (63 : Int32)) (p1 &&& (63 : Int32)))), .second] [])) _
    refine XS.iconst X10.here hx rfl (hb hby at_114) ?_
    show Steps p.tables e below (T10.setTop (mkF m 115 #[.val (.int p1), .val (.int p2), .val (.int p3), .val (.int (p1 &&& (63 : Int32))), .val (.int (p2 &&& (63 : Int32))), .val (.ref b4), .val (.ref b5), .val (.long (25 : Int64)), .second, .val (.long (own_rb (p1 &&& (63 : Int32)) (p2 &&& (63 : Int32)))), .second, .val (.long (own_rb (0 : Int32) (0 : Int32))), .second, .val (.long (own_rb (p2 &&& (63 : Int32)) (p1 &&& (63 : Int32)))), .second] [(.int (1 : Int32))])) _
    refine XS.goto X10.here hx rfl (pc0 := 115) (pc' := 119) rfl (hb hby at_115) (by decide) (by decide) ?_
    show Steps p.tables e below (T10.setTop (mkF m 119 #[.val (.int p1), .val (.int p2), .val (.int p3), .val (.int (p1 &&& (63 : Int32))), .val (.int (p2 &&& (63 : Int32))), .val (.ref b4), .val (.ref b5), .val (.long (25 : Int64)), .second, .val (.long (own_rb (p1 &&& (63 : Int32)) (p2 &&& (63 : Int32)))), .second, .val (.long (own_rb (0 : Int32) (0 : Int32))), .second, .val (.long (own_rb (p2 &&& (63 : Int32)) (p1 &&& (63 : Int32)))), .second] [(.int (1 : Int32))])) _
    exact retN X10 hx (t := .boolean) Bd.returns (by simp) (hb hby at_119) hr
  · show Q0 Z p1 p2 p3 h0 n0 _ T10.heap _
    exact ⟨rfl, N10⟩
set_option maxRecDepth 65536 in
set_option maxHeartbeats 40000000 in
theorem rm0_tffff (l : Launch) (Z : State) (a0 : Array Value) (hw : ∀ d ∈ tables_1, d.before a0 Z = true) (ws : List Jvm.Cond) (p1 : Int32) (p2 : Int32) (p3 : Int32) (h0 : Heap) (n0 : Nat) (Z0 : n0 ≤ h0.size) (hc23 : ¬ ((0 : Int32) < (p1 &&& (63 : Int32)))) (hc34 : (0 : Int32) < (p2 &&& (63 : Int32))) :
    MetFree l x (head1 (Jvm.Cond.code x code maxLocals ret :: ws) room_1) (fun a U => a = #[(.int p1), (.int p2), (.int p3)] ∧ Z.Warmed39 U.vm ∧ U.heap = h0) (fun _ _ _ _ _ => True) (fun _ U o U' => ∃ v L, o = .returned v ∧ Q0 Z p1 p2 p3 h0 n0 v U'.heap L ∧ FrameEnd U o U' L room_1.cells room_1.slots) := by
  refine MetFree.of_bodySF (plainFor_of_name pn_0) hisR ?_
  intro p e s m args below meth c s₁ Bd hml0 hP hK
  obtain ⟨rfl, hZ, hh⟩ := hP
  have hx := Bd.exec
  have hby := Bd.bytes
  have hml : c.maxLocals = 15 := hml0
  have hown : s.vm.findClass "com/example/onceword/onceword/memory/ByteMapRecordBytesPinLaw" = some m.cls := findClass_of_methodNamed Bd.named
  have hnm := (name_of_methodNamed Bd.named Bd.method).1
  have X0 : Stand p l e room_1 s m #[(.int p1), (.int p2), (.int p3)] below meth c s₁ [] 0 0 := Stand.of_body Bd
  have e0 : s₁.heap = h0 := by rw [← hh, Bd.state]; rfl
  have N0 := Fr.nil n0
  have pre0 : ∀ t, Steps p.tables e below (s₁.setTop (mkF m 0 #[.val (.int p1), .val (.int p2), .val (.int p3), .unset, .unset, .unset, .unset, .unset, .unset, .unset, .unset, .unset, .unset, .unset, .unset] [])) t → Steps p.tables e below (s₁.setTop (entryFrame m #[(.int p1), (.int p2), (.int p3)] maxLocals)) t := fun t k => castTop (ef_0 m p1 p2 p3) k
  obtain ⟨T4, h4, k4, X4, e4, E4, A4, st4⟩ := newP X0 hx hZ (hw _ (List.mem_of_getElem? (i := 0) rfl)) e0 (g := (mkF m 12 #[.val (.int p1), .val (.int p2), .val (.int p3), .val (.int (p1 &&& (63 : Int32))), .val (.int (p2 &&& (63 : Int32))), .unset, .unset, .unset, .unset, .unset, .unset, .unset, .unset, .unset, .unset] [(.int (p1 &&& (63 : Int32)))])) rfl (hb hby at_12) rfl (own_63 p1).1 (cap := 63) (own_63 p1).2 (by decide) (by decide) (by decide)
  obtain ⟨b4, g4⟩ : ∃ z, z = h0.size := ⟨_, rfl⟩
  rw [← g4] at A4 st4
  have V_b4 : own_al Z h4 b4 (p1 &&& (63 : Int32)) := own_al_new A4 (own_63 p1).1
  have g_b4 : n0 ≤ b4 := Nat.le_trans Z0 (Nat.le_of_eq g4.symm)
  have sz_b4 : h0.size ≤ b4 := (Nat.le_trans (Keep.refl h0 []).1 (Nat.le_of_eq g4.symm))
  have K4 : Keep h0 h4 [] := (Keep.refl h0 []).ext E4
  obtain ⟨T5, h5, k5, X5, e5, E5, A5, st5⟩ := newP X4 hx hZ (hw _ (List.mem_of_getElem? (i := 0) rfl)) e4 (g := (mkF m 18 #[.val (.int p1), .val (.int p2), .val (.int p3), .val (.int (p1 &&& (63 : Int32))), .val (.int (p2 &&& (63 : Int32))), .val (.ref b4), .unset, .unset, .unset, .unset, .unset, .unset, .unset, .unset, .unset] [(.int (p2 &&& (63 : Int32)))])) rfl (hb hby at_18) rfl (own_63 p2).1 (cap := 63) (own_63 p2).2 (by decide) (by decide) (by decide)
  obtain ⟨b5, g5⟩ : ∃ z, z = h4.size := ⟨_, rfl⟩
  rw [← g5] at A5 st5
  have V_b5 : own_al Z h5 b5 (p2 &&& (63 : Int32)) := own_al_new A5 (own_63 p2).1
  have ne45 : b4 ≠ b5 := Nat.ne_of_lt (Nat.lt_of_lt_of_eq (own_al_lt V_b4) g5.symm)
  have U4_5 : own_al Z h5 b4 (p1 &&& (63 : Int32)) := own_al_ext V_b4 E5
  have g_b5 : n0 ≤ b5 := Nat.le_trans (Nat.le_trans Z0 E4.1) (Nat.le_of_eq g5.symm)
  have sz_b5 : h0.size ≤ b5 := (Nat.le_trans K4.1 (Nat.le_of_eq g5.symm))
  have K5 : Keep h0 h5 [] := K4.ext E5
  obtain ⟨cl_b5_48, Ar_b5, S_b5, N_b5⟩ := (id V_b5)
  have hin48 : ¬ (((p2 &&& (63 : Int32)) - (1 : Int32)) < 0 ∨ cl_b5_48.slots.size ≤ (((p2 &&& (63 : Int32)) - (1 : Int32))).toNatClampNeg) := inb_of S_b5 (own_m1 p2 hc34)
  obtain ⟨T6, h6, X6, e6, W6, st6⟩ := stB X5 hx hZ e5 Ar_b5 (j := ((p2 &&& (63 : Int32)) - (1 : Int32))) hin48 (g := (mkF m 48 #[.val (.int p1), .val (.int p2), .val (.int p3), .val (.int (p1 &&& (63 : Int32))), .val (.int (p2 &&& (63 : Int32))), .val (.ref b4), .val (.ref b5), .unset, .unset, .unset, .unset, .unset, .unset, .unset, .unset] [(.int (((p3.toUInt32 >>> ((8 : Int32) &&& 31).toUInt32).toInt32).toInt8.toInt32)), (.int ((p2 &&& (63 : Int32)) - (1 : Int32))), (.ref b5)])) rfl rfl (hb hby at_48)
  have K6 : Keep h0 h6 [] := K5.wr W6 (Or.inr sz_b5)
  have N6 := Fr.snoc X6 N0 g_b5
  have U4 : own_al Z h6 b4 (p1 &&& (63 : Int32)) := own_al_other U4_5 W6 ne45
  have U5 : own_al Z h6 b5 (p2 &&& (63 : Int32)) := own_al_same V_b5 W6
  have ZA : n0 ≤ h6.size := Nat.le_trans Z0 K6.1
  obtain ⟨c4, Q4a, Q4s, Q4n⟩ := id U4
  obtain ⟨c5, Q5a, Q5s, Q5n⟩ := id U5
  obtain ⟨_, _, ⟨T7, L7, k7, n7⟩, -, X7, ⟨Lc7, hQ7, l7, y7, z7⟩, st7⟩ := Jvm.LawKit.callS X6 hx (y := (⟨"com/example/onceword/onceword/memory/ByteMap", "recordBytes", "([B[B)J"⟩ : MethodName)) hown (mvT hZ (hw _ (List.mem_of_getElem? (i := 2) rfl))) (mvT hZ (hw _ (List.mem_of_getElem? (i := 3) rfl))) (mvT hZ (hw _ (List.mem_of_getElem? (i := 4) rfl))) (mvT hZ (hw _ (List.mem_of_getElem? (i := 5) rfl))) (by decide) (backOf (W := 0) (rm1 l Z a0 hw [] b4 b5 c4 (p1 &&& (63 : Int32)) c5 (p2 &&& (63 : Int32)) h6 n0 ZA Q4a Q4s Q4n Q5a Q5s Q5n) hZ (hw _ (List.mem_of_getElem? (i := 5) rfl)) (hw _ (List.mem_of_getElem? (i := 4) rfl)) (by decide) (by decide)) (g := (mkF m 58 #[.val (.int p1), .val (.int p2), .val (.int p3), .val (.int (p1 &&& (63 : Int32))), .val (.int (p2 &&& (63 : Int32))), .val (.ref b4), .val (.ref b5), .val (.long (25 : Int64)), .second, .unset, .unset, .unset, .unset, .unset, .unset] [(.ref b5), (.ref b4)])) rfl (by rw [hml]; rfl) (argsL := [(.ref b4), (.ref b5)]) (rest := []) (lenOf pd_0_0 rfl) rfl (by show 2 * 0 + _ ≤ _; exact Nat.le_of_eq rfl) (hb hby at_58) (fun _ _ => ⟨rfl, e6, (by decide : 2 + 0 ≤ _), (by decide : 126 + 0 ≤ _)⟩)
  dsimp only [Pt.U, Pt.locs, Pt.cells, Pt.slots] at X7 l7 y7 z7 st7 hQ7
  subst l7 y7 z7
  obtain ⟨rfl, N7q, e7q⟩ := hQ7
  have e7p : T7.heap = h6 := e7q
  have N7 := Fr.app N6 N7q
  obtain ⟨T8, h8, k8, X8, e8, E8, A8, st8⟩ := newP X7 hx hZ (hw _ (List.mem_of_getElem? (i := 0) rfl)) rfl (g := (mkF m 64 #[.val (.int p1), .val (.int p2), .val (.int p3), .val (.int (p1 &&& (63 : Int32))), .val (.int (p2 &&& (63 : Int32))), .val (.ref b4), .val (.ref b5), .val (.long (25 : Int64)), .second, .val (.long (own_rb (p1 &&& (63 : Int32)) (p2 &&& (63 : Int32)))), .second, .unset, .unset, .unset, .unset] [(.int (0 : Int32))])) rfl (hb hby at_64) rfl (by decide) (cap := 0) (by decide) (by decide) (by decide) (by decide)
  obtain ⟨b8, g8⟩ : ∃ z, z = T7.heap.size := ⟨_, rfl⟩
  rw [← g8] at A8 st8
  have V_b8 : own_al Z h8 b8 (0 : Int32) := own_al_new A8 (by decide)
  obtain ⟨T9, h9, k9, X9, e9, E9, A9, st9⟩ := newP X8 hx hZ (hw _ (List.mem_of_getElem? (i := 0) rfl)) e8 (g := (mkF m 67 #[.val (.int p1), .val (.int p2), .val (.int p3), .val (.int (p1 &&& (63 : Int32))), .val (.int (p2 &&& (63 : Int32))), .val (.ref b4), .val (.ref b5), .val (.long (25 : Int64)), .second, .val (.long (own_rb (p1 &&& (63 : Int32)) (p2 &&& (63 : Int32)))), .second, .unset, .unset, .unset, .unset] [(.int (0 : Int32)), (.ref b8)])) rfl (hb hby at_67) rfl (by decide) (cap := 0) (by decide) (by decide) (by decide) (by decide)
  obtain ⟨b9, g9⟩ : ∃ z, z = h8.size := ⟨_, rfl⟩
  rw [← g9] at A9 st9
  have V_b9 : own_al Z h9 b9 (0 : Int32) := own_al_new A9 (by decide)
  obtain ⟨c9, Q9a, Q9s, Q9n⟩ := own_al_ext V_b8 E9
  obtain ⟨c10, Q10a, Q10s, Q10n⟩ := id V_b9
  have ZB : n0 ≤ h9.size := Nat.le_trans (Nat.le_trans ZA (Nat.le_of_eq (congrArg Array.size e7p.symm))) (Nat.le_trans E8.1 E9.1)
  have U4b : own_al Z h9 b4 (p1 &&& (63 : Int32)) := own_al_ext (own_al_ext (show own_al Z T7.heap b4 (p1 &&& (63 : Int32)) by rw [e7p]; exact U4) E8) E9
  have U5b : own_al Z h9 b5 (p2 &&& (63 : Int32)) := own_al_ext (own_al_ext (show own_al Z T7.heap b5 (p2 &&& (63 : Int32)) by rw [e7p]; exact U5) E8) E9
  obtain ⟨_, _, ⟨T10, L10, k10, n10⟩, -, X10, ⟨Lc10, hQ10, l10, y10, z10⟩, st10⟩ := Jvm.LawKit.callS X9 hx (y := (⟨"com/example/onceword/onceword/memory/ByteMap", "recordBytes", "([B[B)J"⟩ : MethodName)) hown (mvT hZ (hw _ (List.mem_of_getElem? (i := 2) rfl))) (mvT hZ (hw _ (List.mem_of_getElem? (i := 3) rfl))) (mvT hZ (hw _ (List.mem_of_getElem? (i := 4) rfl))) (mvT hZ (hw _ (List.mem_of_getElem? (i := 5) rfl))) (by decide) (backOf (W := 0) (rm1 l Z a0 hw [] b8 b9 c9 (0 : Int32) c10 (0 : Int32) h9 n0 ZB Q9a Q9s Q9n Q10a Q10s Q10n) hZ (hw _ (List.mem_of_getElem? (i := 5) rfl)) (hw _ (List.mem_of_getElem? (i := 4) rfl)) (by decide) (by decide)) (g := (mkF m 69 #[.val (.int p1), .val (.int p2), .val (.int p3), .val (.int (p1 &&& (63 : Int32))), .val (.int (p2 &&& (63 : Int32))), .val (.ref b4), .val (.ref b5), .val (.long (25 : Int64)), .second, .val (.long (own_rb (p1 &&& (63 : Int32)) (p2 &&& (63 : Int32)))), .second, .unset, .unset, .unset, .unset] [(.ref b9), (.ref b8)])) rfl (by rw [hml]; rfl) (argsL := [(.ref b8), (.ref b9)]) (rest := []) (lenOf pd_0_0 rfl) rfl (by show 2 * 0 + _ ≤ _; exact Nat.le_of_eq rfl) (hb hby at_69) (fun _ _ => ⟨rfl, e9, (by decide : 4 + 0 ≤ _), (by decide : 126 + 0 ≤ _)⟩)
  dsimp only [Pt.U, Pt.locs, Pt.cells, Pt.slots] at X10 l10 y10 z10 st10 hQ10
  subst l10 y10 z10
  obtain ⟨rfl, N10q, e10q⟩ := hQ10
  have e10p : T10.heap = h9 := e10q
  obtain ⟨d4, R4a, R4s, R4n⟩ := (show own_al Z T10.heap b4 (p1 &&& (63 : Int32)) by rw [e10p]; exact U4b)
  obtain ⟨d5, R5a, R5s, R5n⟩ := (show own_al Z T10.heap b5 (p2 &&& (63 : Int32)) by rw [e10p]; exact U5b)
  have N10 := Fr.app N7 N10q
  obtain ⟨_, _, ⟨T11, L11, k11, n11⟩, -, X11, ⟨Lc11, hQ11, l11, y11, z11⟩, st11⟩ := Jvm.LawKit.callS X10 hx (y := (⟨"com/example/onceword/onceword/memory/ByteMap", "recordBytes", "([B[B)J"⟩ : MethodName)) hown (mvT hZ (hw _ (List.mem_of_getElem? (i := 2) rfl))) (mvT hZ (hw _ (List.mem_of_getElem? (i := 3) rfl))) (mvT hZ (hw _ (List.mem_of_getElem? (i := 4) rfl))) (mvT hZ (hw _ (List.mem_of_getElem? (i := 5) rfl))) (by decide) (backOf (W := 0) (rm1 l Z a0 hw [] b5 b4 d5 (p2 &&& (63 : Int32)) d4 (p1 &&& (63 : Int32)) T10.heap n0 (by rw [e10p]; exact ZB) R5a R5s R5n R4a R4s R4n) hZ (hw _ (List.mem_of_getElem? (i := 5) rfl)) (hw _ (List.mem_of_getElem? (i := 4) rfl)) (by decide) (by decide)) (g := (mkF m 78 #[.val (.int p1), .val (.int p2), .val (.int p3), .val (.int (p1 &&& (63 : Int32))), .val (.int (p2 &&& (63 : Int32))), .val (.ref b4), .val (.ref b5), .val (.long (25 : Int64)), .second, .val (.long (own_rb (p1 &&& (63 : Int32)) (p2 &&& (63 : Int32)))), .second, .val (.long (own_rb (0 : Int32) (0 : Int32))), .second, .unset, .unset] [(.ref b4), (.ref b5)])) rfl (by rw [hml]; rfl) (argsL := [(.ref b5), (.ref b4)]) (rest := []) (lenOf pd_0_0 rfl) rfl (by show 2 * 0 + _ ≤ _; exact Nat.le_of_eq rfl) (hb hby at_78) (fun _ _ => ⟨rfl, rfl, (by decide : 4 + 0 ≤ _), (by decide : 126 + 0 ≤ _)⟩)
  dsimp only [Pt.U, Pt.locs, Pt.cells, Pt.slots] at X11 l11 y11 z11 st11 hQ11
  subst l11 y11 z11
  obtain ⟨rfl, N11q, e11q⟩ := hQ11
  have N11 := Fr.app N10 N11q
  obtain ⟨fs, hr, hrun, hended, hW, hsame⟩ := X11.leave (v := some (.int (1 : Int32))) (fun h => by rw [Bd.returns] at h; cases h)
  refine ⟨_, _, pre0 _ ?_, hrun, hended, _, _, rfl, ?_, ⟨_, rfl⟩, hW, hsame.mono (by decide) (by decide)⟩
  · show Steps p.tables e below (s₁.setTop (mkF m 0 #[.val (.int p1), .val (.int p2), .val (.int p3), .unset, .unset, .unset, .unset, .unset, .unset, .unset, .unset, .unset, .unset, .unset, .unset] [])) _
    refine XS.iloadN X0.here hx rfl (hb hby at_0) rfl ?_
    show Steps p.tables e below (s₁.setTop (mkF m 1 #[.val (.int p1), .val (.int p2), .val (.int p3), .unset, .unset, .unset, .unset, .unset, .unset, .unset, .unset, .unset, .unset, .unset, .unset] [(.int p1)])) _
    refine XS.bipush X0.here hx rfl (hb hby at_1) ?_
    show Steps p.tables e below (s₁.setTop (mkF m 3 #[.val (.int p1), .val (.int p2), .val (.int p3), .unset, .unset, .unset, .unset, .unset, .unset, .unset, .unset, .unset, .unset, .unset, .unset] [(.int (63 : Int32)), (.int p1)])) _
    refine XS.iand X0.here hx rfl (hb hby at_3) rfl ?_
    show Steps p.tables e below (s₁.setTop (mkF m 4 #[.val (.int p1), .val (.int p2), .val (.int p3), .unset, .unset, .unset, .unset, .unset, .unset, .unset, .unset, .unset, .unset, .unset, .unset] [(.int (p1 &&& (63 : Int32)))])) _
    refine XS.istoreN X0.here hx rfl (hb hby at_4) rfl (l' := #[.val (.int p1), .val (.int p2), .val (.int p3), .val (.int (p1 &&& (63 : Int32))), .unset, .unset, .unset, .unset, .unset, .unset, .unset, .unset, .unset, .unset, .unset]) rfl ?_
    show Steps p.tables e below (s₁.setTop (mkF m 5 #[.val (.int p1), .val (.int p2), .val (.int p3), .val (.int (p1 &&& (63 : Int32))), .unset, .unset, .unset, .unset, .unset, .unset, .unset, .unset, .unset, .unset, .unset] [])) _
    refine XS.iloadN X0.here hx rfl (hb hby at_5) rfl ?_
    show Steps p.tables e below (s₁.setTop (mkF m 6 #[.val (.int p1), .val (.int p2), .val (.int p3), .val (.int (p1 &&& (63 : Int32))), .unset, .unset, .unset, .unset, .unset, .unset, .unset, .unset, .unset, .unset, .unset] [(.int p2)])) _
    refine XS.bipush X0.here hx rfl (hb hby at_6) ?_
    show Steps p.tables e below (s₁.setTop (mkF m 8 #[.val (.int p1), .val (.int p2), .val (.int p3), .val (.int (p1 &&& (63 : Int32))), .unset, .unset, .unset, .unset, .unset, .unset, .unset, .unset, .unset, .unset, .unset] [(.int (63 : Int32)), (.int p2)])) _
    refine XS.iand X0.here hx rfl (hb hby at_8) rfl ?_
    show Steps p.tables e below (s₁.setTop (mkF m 9 #[.val (.int p1), .val (.int p2), .val (.int p3), .val (.int (p1 &&& (63 : Int32))), .unset, .unset, .unset, .unset, .unset, .unset, .unset, .unset, .unset, .unset, .unset] [(.int (p2 &&& (63 : Int32)))])) _
    refine XS.istore X0.here hx rfl (hb hby at_9) rfl (l' := #[.val (.int p1), .val (.int p2), .val (.int p3), .val (.int (p1 &&& (63 : Int32))), .val (.int (p2 &&& (63 : Int32))), .unset, .unset, .unset, .unset, .unset, .unset, .unset, .unset, .unset, .unset]) rfl ?_
    show Steps p.tables e below (s₁.setTop (mkF m 11 #[.val (.int p1), .val (.int p2), .val (.int p3), .val (.int (p1 &&& (63 : Int32))), .val (.int (p2 &&& (63 : Int32))), .unset, .unset, .unset, .unset, .unset, .unset, .unset, .unset, .unset, .unset] [])) _
    refine XS.iloadN X0.here hx rfl (hb hby at_11) rfl ?_
    show Steps p.tables e below (s₁.setTop (mkF m 12 #[.val (.int p1), .val (.int p2), .val (.int p3), .val (.int (p1 &&& (63 : Int32))), .val (.int (p2 &&& (63 : Int32))), .unset, .unset, .unset, .unset, .unset, .unset, .unset, .unset, .unset, .unset] [(.int (p1 &&& (63 : Int32)))])) _
    refine st4 _ ?_
    show Steps p.tables e below (T4.setTop (mkF m 14 #[.val (.int p1), .val (.int p2), .val (.int p3), .val (.int (p1 &&& (63 : Int32))), .val (.int (p2 &&& (63 : Int32))), .unset, .unset, .unset, .unset, .unset, .unset, .unset, .unset, .unset, .unset] [(.ref b4)])) _
    refine XS.astore X4.here hx rfl (hb hby at_14) rfl rfl (l' := #[.val (.int p1), .val (.int p2), .val (.int p3), .val (.int (p1 &&& (63 : Int32))), .val (.int (p2 &&& (63 : Int32))), .val (.ref b4), .unset, .unset, .unset, .unset, .unset, .unset, .unset, .unset, .unset]) rfl ?_
    show Steps p.tables e below (T4.setTop (mkF m 16 #[.val (.int p1), .val (.int p2), .val (.int p3), .val (.int (p1 &&& (63 : Int32))), .val (.int (p2 &&& (63 : Int32))), .val (.ref b4), .unset, .unset, .unset, .unset, .unset, .unset, .unset, .unset, .unset] [])) _
    refine XS.iload X4.here hx rfl (hb hby at_16) rfl ?_
    show Steps p.tables e below (T4.setTop (mkF m 18 #[.val (.int p1), .val (.int p2), .val (.int p3), .val (.int (p1 &&& (63 : Int32))), .val (.int (p2 &&& (63 : Int32))), .val (.ref b4), .unset, .unset, .unset, .unset, .unset, .unset, .unset, .unset, .unset] [(.int (p2 &&& (63 : Int32)))])) _
    refine st5 _ ?_
    show Steps p.tables e below (T5.setTop (mkF m 20 #[.val (.int p1), .val (.int p2), .val (.int p3), .val (.int (p1 &&& (63 : Int32))), .val (.int (p2 &&& (63 : Int32))), .val (.ref b4), .unset, .unset, .unset, .unset, .unset, .unset, .unset, .unset, .unset] [(.ref b5)])) _
    refine XS.astore X5.here hx rfl (hb hby at_20) rfl rfl (l' := #[.val (.int p1), .val (.int p2), .val (.int p3), .val (.int (p1 &&& (63 : Int32))), .val (.int (p2 &&& (63 : Int32))), .val (.ref b4), .val (.ref b5), .unset, .unset, .unset, .unset, .unset, .unset, .unset, .unset]) rfl ?_
    show Steps p.tables e below (T5.setTop (mkF m 22 #[.val (.int p1), .val (.int p2), .val (.int p3), .val (.int (p1 &&& (63 : Int32))), .val (.int (p2 &&& (63 : Int32))), .val (.ref b4), .val (.ref b5), .unset, .unset, .unset, .unset, .unset, .unset, .unset, .unset] [])) _
    refine XS.iloadN X5.here hx rfl (hb hby at_22) rfl ?_
    show Steps p.tables e below (T5.setTop (mkF m 23 #[.val (.int p1), .val (.int p2), .val (.int p3), .val (.int (p1 &&& (63 : Int32))), .val (.int (p2 &&& (63 : Int32))), .val (.ref b4), .val (.ref b5), .unset, .unset, .unset, .unset, .unset, .unset, .unset, .unset] [(.int (p1 &&& (63 : Int32)))])) _
    refine XS.ifYes X5.here hx rfl (pc0 := 23) (pc' := 32) rfl (hb hby at_23) rfl ((if0 _ _).trans (flt hc23).2.2.2) (by decide) (by decide) ?_
    show Steps p.tables e below (T5.setTop (mkF m 32 #[.val (.int p1), .val (.int p2), .val (.int p3), .val (.int (p1 &&& (63 : Int32))), .val (.int (p2 &&& (63 : Int32))), .val (.ref b4), .val (.ref b5), .unset, .unset, .unset, .unset, .unset, .unset, .unset, .unset] [])) _
    refine XS.iload X5.here hx rfl (hb hby at_32) rfl ?_
    show Steps p.tables e below (T5.setTop (mkF m 34 #[.val (.int p1), .val (.int p2), .val (.int p3), .val (.int (p1 &&& (63 : Int32))), .val (.int (p2 &&& (63 : Int32))), .val (.ref b4), .val (.ref b5), .unset, .unset, .unset, .unset, .unset, .unset, .unset, .unset] [(.int (p2 &&& (63 : Int32)))])) _
    refine XS.ifNo X5.here hx rfl (hb hby at_34) rfl ((if0 _ _).trans (tlt hc34).2.2.2) ?_
    show Steps p.tables e below (T5.setTop (mkF m 37 #[.val (.int p1), .val (.int p2), .val (.int p3), .val (.int (p1 &&& (63 : Int32))), .val (.int (p2 &&& (63 : Int32))), .val (.ref b4), .val (.ref b5), .unset, .unset, .unset, .unset, .unset, .unset, .unset, .unset] [])) _
    refine XS.aload X5.here hx rfl (hb hby at_37) rfl rfl ?_
    show Steps p.tables e below (T5.setTop (mkF m 39 #[.val (.int p1), .val (.int p2), .val (.int p3), .val (.int (p1 &&& (63 : Int32))), .val (.int (p2 &&& (63 : Int32))), .val (.ref b4), .val (.ref b5), .unset, .unset, .unset, .unset, .unset, .unset, .unset, .unset] [(.ref b5)])) _
    refine XS.iload X5.here hx rfl (hb hby at_39) rfl ?_
    show Steps p.tables e below (T5.setTop (mkF m 41 #[.val (.int p1), .val (.int p2), .val (.int p3), .val (.int (p1 &&& (63 : Int32))), .val (.int (p2 &&& (63 : Int32))), .val (.ref b4), .val (.ref b5), .unset, .unset, .unset, .unset, .unset, .unset, .unset, .unset] [(.int (p2 &&& (63 : Int32))), (.ref b5)])) _
    refine XS.iconst X5.here hx rfl (hb hby at_41) ?_
    show Steps p.tables e below (T5.setTop (mkF m 42 #[.val (.int p1), .val (.int p2), .val (.int p3), .val (.int (p1 &&& (63 : Int32))), .val (.int (p2 &&& (63 : Int32))), .val (.ref b4), .val (.ref b5), .unset, .unset, .unset, .unset, .unset, .unset, .unset, .unset] [(.int (1 : Int32)), (.int (p2 &&& (63 : Int32))), (.ref b5)])) _
    refine XS.isub X5.here hx rfl (hb hby at_42) rfl ?_
    show Steps p.tables e below (T5.setTop (mkF m 43 #[.val (.int p1), .val (.int p2), .val (.int p3), .val (.int (p1 &&& (63 : Int32))), .val (.int (p2 &&& (63 : Int32))), .val (.ref b4), .val (.ref b5), .unset, .unset, .unset, .unset, .unset, .unset, .unset, .unset] [(.int ((p2 &&& (63 : Int32)) - (1 : Int32))), (.ref b5)])) _
    refine XS.iloadN X5.here hx rfl (hb hby at_43) rfl ?_
    show Steps p.tables e below (T5.setTop (mkF m 44 #[.val (.int p1), .val (.int p2), .val (.int p3), .val (.int (p1 &&& (63 : Int32))), .val (.int (p2 &&& (63 : Int32))), .val (.ref b4), .val (.ref b5), .unset, .unset, .unset, .unset, .unset, .unset, .unset, .unset] [(.int p3), (.int ((p2 &&& (63 : Int32)) - (1 : Int32))), (.ref b5)])) _
    refine XS.bipush X5.here hx rfl (hb hby at_44) ?_
    show Steps p.tables e below (T5.setTop (mkF m 46 #[.val (.int p1), .val (.int p2), .val (.int p3), .val (.int (p1 &&& (63 : Int32))), .val (.int (p2 &&& (63 : Int32))), .val (.ref b4), .val (.ref b5), .unset, .unset, .unset, .unset, .unset, .unset, .unset, .unset] [(.int (8 : Int32)), (.int p3), (.int ((p2 &&& (63 : Int32)) - (1 : Int32))), (.ref b5)])) _
    refine XS.iushr X5.here hx rfl (hb hby at_46) rfl ?_
    show Steps p.tables e below (T5.setTop (mkF m 47 #[.val (.int p1), .val (.int p2), .val (.int p3), .val (.int (p1 &&& (63 : Int32))), .val (.int (p2 &&& (63 : Int32))), .val (.ref b4), .val (.ref b5), .unset, .unset, .unset, .unset, .unset, .unset, .unset, .unset] [(.int ((p3.toUInt32 >>> ((8 : Int32) &&& 31).toUInt32).toInt32)), (.int ((p2 &&& (63 : Int32)) - (1 : Int32))), (.ref b5)])) _
    refine XS.i2b X5.here hx rfl (hb hby at_47) rfl ?_
    show Steps p.tables e below (T5.setTop (mkF m 48 #[.val (.int p1), .val (.int p2), .val (.int p3), .val (.int (p1 &&& (63 : Int32))), .val (.int (p2 &&& (63 : Int32))), .val (.ref b4), .val (.ref b5), .unset, .unset, .unset, .unset, .unset, .unset, .unset, .unset] [(.int (((p3.toUInt32 >>> ((8 : Int32) &&& 31).toUInt32).toInt32).toInt8.toInt32)), (.int ((p2 &&& (63 : Int32)) - (1 : Int32))), (.ref b5)])) _
    refine st6 _ ?_
    show Steps p.tables e below (T6.setTop (mkF m 49 #[.val (.int p1), .val (.int p2), .val (.int p3), .val (.int (p1 &&& (63 : Int32))), .val (.int (p2 &&& (63 : Int32))), .val (.ref b4), .val (.ref b5), .unset, .unset, .unset, .unset, .unset, .unset, .unset, .unset] [])) _
    refine X6.ldc2Long hx hown (mvT hZ (hw _ (List.mem_of_getElem? (i := 1) rfl))) (g := (mkF m 49 #[.val (.int p1), .val (.int p2), .val (.int p3), .val (.int (p1 &&& (63 : Int32))), .val (.int (p2 &&& (63 : Int32))), .val (.ref b4), .val (.ref b5), .unset, .unset, .unset, .unset, .unset, .unset, .unset, .unset] [])) rfl (hb hby at_49) _ ?_
    show Steps p.tables e below (T6.setTop (mkF m 52 #[.val (.int p1), .val (.int p2), .val (.int p3), .val (.int (p1 &&& (63 : Int32))), .val (.int (p2 &&& (63 : Int32))), .val (.ref b4), .val (.ref b5), .unset, .unset, .unset, .unset, .unset, .unset, .unset, .unset] [(.long (25 : Int64))])) _
    refine XS.lstore X6.here hx rfl (hb hby at_52) rfl (l' := #[.val (.int p1), .val (.int p2), .val (.int p3), .val (.int (p1 &&& (63 : Int32))), .val (.int (p2 &&& (63 : Int32))), .val (.ref b4), .val (.ref b5), .val (.long (25 : Int64)), .second, .unset, .unset, .unset, .unset, .unset, .unset]) rfl ?_
    show Steps p.tables e below (T6.setTop (mkF m 54 #[.val (.int p1), .val (.int p2), .val (.int p3), .val (.int (p1 &&& (63 : Int32))), .val (.int (p2 &&& (63 : Int32))), .val (.ref b4), .val (.ref b5), .val (.long (25 : Int64)), .second, .unset, .unset, .unset, .unset, .unset, .unset] [])) _
    refine XS.aload X6.here hx rfl (hb hby at_54) rfl rfl ?_
    show Steps p.tables e below (T6.setTop (mkF m 56 #[.val (.int p1), .val (.int p2), .val (.int p3), .val (.int (p1 &&& (63 : Int32))), .val (.int (p2 &&& (63 : Int32))), .val (.ref b4), .val (.ref b5), .val (.long (25 : Int64)), .second, .unset, .unset, .unset, .unset, .unset, .unset] [(.ref b4)])) _
    refine XS.aload X6.here hx rfl (hb hby at_56) rfl rfl ?_
    show Steps p.tables e below (T6.setTop (mkF m 58 #[.val (.int p1), .val (.int p2), .val (.int p3), .val (.int (p1 &&& (63 : Int32))), .val (.int (p2 &&& (63 : Int32))), .val (.ref b4), .val (.ref b5), .val (.long (25 : Int64)), .second, .unset, .unset, .unset, .unset, .unset, .unset] [(.ref b5), (.ref b4)])) _
    refine st7 _ ?_
    show Steps p.tables e below (T7.setTop (mkF m 61 #[.val (.int p1), .val (.int p2), .val (.int p3), .val (.int (p1 &&& (63 : Int32))), .val (.int (p2 &&& (63 : Int32))), .val (.ref b4), .val (.ref b5), .val (.long (25 : Int64)), .second, .unset, .unset, .unset, .unset, .unset, .unset] [(.long (own_rb (p1 &&& (63 : Int32)) (p2 &&& (63 : Int32))))])) _
    refine XS.lstore X7.here hx rfl (hb hby at_61) rfl (l' := #[.val (.int p1), .val (.int p2), .val (.int p3), .val (.int (p1 &&& (63 : Int32))), .val (.int (p2 &&& (63 : Int32))), .val (.ref b4), .val (.ref b5), .val (.long (25 : Int64)), .second, .val (.long (own_rb (p1 &&& (63 : Int32)) (p2 &&& (63 : Int32)))), .second, .unset, .unset, .unset, .unset]) rfl ?_
    show Steps p.tables e below (T7.setTop (mkF m 63 #[.val (.int p1), .val (.int p2), .val (.int p3), .val (.int (p1 &&& (63 : Int32))), .val (.int (p2 &&& (63 : Int32))), .val (.ref b4), .val (.ref b5), .val (.long (25 : Int64)), .second, .val (.long (own_rb (p1 &&& (63 : Int32)) (p2 &&& (63 : Int32)))), .second, .unset, .unset, .unset, .unset] [])) _
    refine XS.iconst X7.here hx rfl (hb hby at_63) ?_
    show Steps p.tables e below (T7.setTop (mkF m 64 #[.val (.int p1), .val (.int p2), .val (.int p3), .val (.int (p1 &&& (63 : Int32))), .val (.int (p2 &&& (63 : Int32))), .val (.ref b4), .val (.ref b5), .val (.long (25 : Int64)), .second, .val (.long (own_rb (p1 &&& (63 : Int32)) (p2 &&& (63 : Int32)))), .second, .unset, .unset, .unset, .unset] [(.int (0 : Int32))])) _
    refine st8 _ ?_
    show Steps p.tables e below (T8.setTop (mkF m 66 #[.val (.int p1), .val (.int p2), .val (.int p3), .val (.int (p1 &&& (63 : Int32))), .val (.int (p2 &&& (63 : Int32))), .val (.ref b4), .val (.ref b5), .val (.long (25 : Int64)), .second, .val (.long (own_rb (p1 &&& (63 : Int32)) (p2 &&& (63 : Int32)))), .second, .unset, .unset, .unset, .unset] [(.ref b8)])) _
    refine XS.iconst X8.here hx rfl (hb hby at_66) ?_
    show Steps p.tables e below (T8.setTop (mkF m 67 #[.val (.int p1), .val (.int p2), .val (.int p3), .val (.int (p1 &&& (63 : Int32))), .val (.int (p2 &&& (63 : Int32))), .val (.ref b4), .val (.ref b5), .val (.long (25 : Int64)), .second, .val (.long (own_rb (p1 &&& (63 : Int32)) (p2 &&& (63 : Int32)))), .second, .unset, .unset, .unset, .unset] [(.int (0 : Int32)), (.ref b8)])) _
    refine st9 _ ?_
    show Steps p.tables e below (T9.setTop (mkF m 69 #[.val (.int p1), .val (.int p2), .val (.int p3), .val (.int (p1 &&& (63 : Int32))), .val (.int (p2 &&& (63 : Int32))), .val (.ref b4), .val (.ref b5), .val (.long (25 : Int64)), .second, .val (.long (own_rb (p1 &&& (63 : Int32)) (p2 &&& (63 : Int32)))), .second, .unset, .unset, .unset, .unset] [(.ref b9), (.ref b8)])) _
    refine st10 _ ?_
    show Steps p.tables e below (T10.setTop (mkF m 72 #[.val (.int p1), .val (.int p2), .val (.int p3), .val (.int (p1 &&& (63 : Int32))), .val (.int (p2 &&& (63 : Int32))), .val (.ref b4), .val (.ref b5), .val (.long (25 : Int64)), .second, .val (.long (own_rb (p1 &&& (63 : Int32)) (p2 &&& (63 : Int32)))), .second, .unset, .unset, .unset, .unset] [(.long (own_rb (0 : Int32) (0 : Int32)))])) _
    refine XS.lstore X10.here hx rfl (hb hby at_72) rfl (l' := #[.val (.int p1), .val (.int p2), .val (.int p3), .val (.int (p1 &&& (63 : Int32))), .val (.int (p2 &&& (63 : Int32))), .val (.ref b4), .val (.ref b5), .val (.long (25 : Int64)), .second, .val (.long (own_rb (p1 &&& (63 : Int32)) (p2 &&& (63 : Int32)))), .second, .val (.long (own_rb (0 : Int32) (0 : Int32))), .second, .unset, .unset]) rfl ?_
    show Steps p.tables e below (T10.setTop (mkF m 74 #[.val (.int p1), .val (.int p2), .val (.int p3), .val (.int (p1 &&& (63 : Int32))), .val (.int (p2 &&& (63 : Int32))), .val (.ref b4), .val (.ref b5), .val (.long (25 : Int64)), .second, .val (.long (own_rb (p1 &&& (63 : Int32)) (p2 &&& (63 : Int32)))), .second, .val (.long (own_rb (0 : Int32) (0 : Int32))), .second, .unset, .unset] [])) _
    refine XS.aload X10.here hx rfl (hb hby at_74) rfl rfl ?_
    show Steps p.tables e below (T10.setTop (mkF m 76 #[.val (.int p1), .val (.int p2), .val (.int p3), .val (.int (p1 &&& (63 : Int32))), .val (.int (p2 &&& (63 : Int32))), .val (.ref b4), .val (.ref b5), .val (.long (25 : Int64)), .second, .val (.long (own_rb (p1 &&& (63 : Int32)) (p2 &&& (63 : Int32)))), .second, .val (.long (own_rb (0 : Int32) (0 : Int32))), .second, .unset, .unset] [(.ref b5)])) _
    refine XS.aload X10.here hx rfl (hb hby at_76) rfl rfl ?_
    show Steps p.tables e below (T10.setTop (mkF m 78 #[.val (.int p1), .val (.int p2), .val (.int p3), .val (.int (p1 &&& (63 : Int32))), .val (.int (p2 &&& (63 : Int32))), .val (.ref b4), .val (.ref b5), .val (.long (25 : Int64)), .second, .val (.long (own_rb (p1 &&& (63 : Int32)) (p2 &&& (63 : Int32)))), .second, .val (.long (own_rb (0 : Int32) (0 : Int32))), .second, .unset, .unset] [(.ref b4), (.ref b5)])) _
    refine st11 _ ?_
    show Steps p.tables e below (T11.setTop (mkF m 81 #[.val (.int p1), .val (.int p2), .val (.int p3), .val (.int (p1 &&& (63 : Int32))), .val (.int (p2 &&& (63 : Int32))), .val (.ref b4), .val (.ref b5), .val (.long (25 : Int64)), .second, .val (.long (own_rb (p1 &&& (63 : Int32)) (p2 &&& (63 : Int32)))), .second, .val (.long (own_rb (0 : Int32) (0 : Int32))), .second, .unset, .unset] [(.long (own_rb (p2 &&& (63 : Int32)) (p1 &&& (63 : Int32))))])) _
    refine XS.lstore X11.here hx rfl (hb hby at_81) rfl (l' := #[.val (.int p1), .val (.int p2), .val (.int p3), .val (.int (p1 &&& (63 : Int32))), .val (.int (p2 &&& (63 : Int32))), .val (.ref b4), .val (.ref b5), .val (.long (25 : Int64)), .second, .val (.long (own_rb (p1 &&& (63 : Int32)) (p2 &&& (63 : Int32)))), .second, .val (.long (own_rb (0 : Int32) (0 : Int32))), .second, .val (.long (own_rb (p2 &&& (63 : Int32)) (p1 &&& (63 : Int32)))), .second]) rfl ?_
    show Steps p.tables e below (T11.setTop (mkF m 83 #[.val (.int p1), .val (.int p2), .val (.int p3), .val (.int (p1 &&& (63 : Int32))), .val (.int (p2 &&& (63 : Int32))), .val (.ref b4), .val (.ref b5), .val (.long (25 : Int64)), .second, .val (.long (own_rb (p1 &&& (63 : Int32)) (p2 &&& (63 : Int32)))), .second, .val (.long (own_rb (0 : Int32) (0 : Int32))), .second, .val (.long (own_rb (p2 &&& (63 : Int32)) (p1 &&& (63 : Int32)))), .second] [])) _
    refine XS.lload X11.here hx rfl (hb hby at_83) rfl ?_
    show Steps p.tables e below (T11.setTop (mkF m 85 #[.val (.int p1), .val (.int p2), .val (.int p3), .val (.int (p1 &&& (63 : Int32))), .val (.int (p2 &&& (63 : Int32))), .val (.ref b4), .val (.ref b5), .val (.long (25 : Int64)), .second, .val (.long (own_rb (p1 &&& (63 : Int32)) (p2 &&& (63 : Int32)))), .second, .val (.long (own_rb (0 : Int32) (0 : Int32))), .second, .val (.long (own_rb (p2 &&& (63 : Int32)) (p1 &&& (63 : Int32)))), .second] [(.long (own_rb (0 : Int32) (0 : Int32)))])) _
    refine XS.lload X11.here hx rfl (hb hby at_85) rfl ?_
    show Steps p.tables e below (T11.setTop (mkF m 87 #[.val (.int p1), .val (.int p2), .val (.int p3), .val (.int (p1 &&& (63 : Int32))), .val (.int (p2 &&& (63 : Int32))), .val (.ref b4), .val (.ref b5), .val (.long (25 : Int64)), .second, .val (.long (own_rb (p1 &&& (63 : Int32)) (p2 &&& (63 : Int32)))), .second, .val (.long (own_rb (0 : Int32) (0 : Int32))), .second, .val (.long (own_rb (p2 &&& (63 : Int32)) (p1 &&& (63 : Int32)))), .second] [(.long (25 : Int64)), (.long (own_rb (0 : Int32) (0 : Int32)))])) _
    refine XS.lcmp X11.here hx rfl (hb hby at_87) rfl ?_
    show Steps p.tables e below (T11.setTop (mkF m 88 #[.val (.int p1), .val (.int p2), .val (.int p3), .val (.int (p1 &&& (63 : Int32))), .val (.int (p2 &&& (63 : Int32))), .val (.ref b4), .val (.ref b5), .val (.long (25 : Int64)), .second, .val (.long (own_rb (p1 &&& (63 : Int32)) (p2 &&& (63 : Int32)))), .second, .val (.long (own_rb (0 : Int32) (0 : Int32))), .second, .val (.long (own_rb (p2 &&& (63 : Int32)) (p1 &&& (63 : Int32)))), .second] [(.int (lcmpW (own_rb (0 : Int32) (0 : Int32)) (25 : Int64)))])) _
    refine XS.ifNo X11.here hx rfl (hb hby at_88) rfl ((if0 _ _).trans (teq (own_lc _ _ (by decide +kernel) : (lcmpW (own_rb (0 : Int32) (0 : Int32)) (25 : Int64)) = (0 : Int32))).2) ?_
    show Steps p.tables e below (T11.setTop (mkF m 91 #[.val (.int p1), .val (.int p2), .val (.int p3), .val (.int (p1 &&& (63 : Int32))), .val (.int (p2 &&& (63 : Int32))), .val (.ref b4), .val (.ref b5), .val (.long (25 : Int64)), .second, .val (.long (own_rb (p1 &&& (63 : Int32)) (p2 &&& (63 : Int32)))), .second, .val (.long (own_rb (0 : Int32) (0 : Int32))), .second, .val (.long (own_rb (p2 &&& (63 : Int32)) (p1 &&& (63 : Int32)))), .second] [])) _
    refine XS.lload X11.here hx rfl (hb hby at_91) rfl ?_
    show Steps p.tables e below (T11.setTop (mkF m 93 #[.val (.int p1), .val (.int p2), .val (.int p3), .val (.int (p1 &&& (63 : Int32))), .val (.int (p2 &&& (63 : Int32))), .val (.ref b4), .val (.ref b5), .val (.long (25 : Int64)), .second, .val (.long (own_rb (p1 &&& (63 : Int32)) (p2 &&& (63 : Int32)))), .second, .val (.long (own_rb (0 : Int32) (0 : Int32))), .second, .val (.long (own_rb (p2 &&& (63 : Int32)) (p1 &&& (63 : Int32)))), .second] [(.long (own_rb (p1 &&& (63 : Int32)) (p2 &&& (63 : Int32))))])) _
    refine XS.lload X11.here hx rfl (hb hby at_93) rfl ?_
    show Steps p.tables e below (T11.setTop (mkF m 95 #[.val (.int p1), .val (.int p2), .val (.int p3), .val (.int (p1 &&& (63 : Int32))), .val (.int (p2 &&& (63 : Int32))), .val (.ref b4), .val (.ref b5), .val (.long (25 : Int64)), .second, .val (.long (own_rb (p1 &&& (63 : Int32)) (p2 &&& (63 : Int32)))), .second, .val (.long (own_rb (0 : Int32) (0 : Int32))), .second, .val (.long (own_rb (p2 &&& (63 : Int32)) (p1 &&& (63 : Int32)))), .second] [(.long (25 : Int64)), (.long (own_rb (p1 &&& (63 : Int32)) (p2 &&& (63 : Int32))))])) _
    refine XS.iloadN X11.here hx rfl (hb hby at_95) rfl ?_
    show Steps p.tables e below (T11.setTop (mkF m 96 #[.val (.int p1), .val (.int p2), .val (.int p3), .val (.int (p1 &&& (63 : Int32))), .val (.int (p2 &&& (63 : Int32))), .val (.ref b4), .val (.ref b5), .val (.long (25 : Int64)), .second, .val (.long (own_rb (p1 &&& (63 : Int32)) (p2 &&& (63 : Int32)))), .second, .val (.long (own_rb (0 : Int32) (0 : Int32))), .second, .val (.long (own_rb (p2 &&& (63 : Int32)) (p1 &&& (63 : Int32)))), .second] [(.int (p1 &&& (63 : Int32))), (.long (25 : Int64)), (.long (own_rb (p1 &&& (63 : Int32)) (p2 &&& (63 : Int32))))])) _
    refine XS.i2l X11.here hx rfl (hb hby at_96) rfl ?_
    show Steps p.tables e below (T11.setTop (mkF m 97 #[.val (.int p1), .val (.int p2), .val (.int p3), .val (.int (p1 &&& (63 : Int32))), .val (.int (p2 &&& (63 : Int32))), .val (.ref b4), .val (.ref b5), .val (.long (25 : Int64)), .second, .val (.long (own_rb (p1 &&& (63 : Int32)) (p2 &&& (63 : Int32)))), .second, .val (.long (own_rb (0 : Int32) (0 : Int32))), .second, .val (.long (own_rb (p2 &&& (63 : Int32)) (p1 &&& (63 : Int32)))), .second] [(.long ((p1 &&& (63 : Int32)).toInt64)), (.long (25 : Int64)), (.long (own_rb (p1 &&& (63 : Int32)) (p2 &&& (63 : Int32))))])) _
    refine XS.ladd X11.here hx rfl (hb hby at_97) rfl ?_
    show Steps p.tables e below (T11.setTop (mkF m 98 #[.val (.int p1), .val (.int p2), .val (.int p3), .val (.int (p1 &&& (63 : Int32))), .val (.int (p2 &&& (63 : Int32))), .val (.ref b4), .val (.ref b5), .val (.long (25 : Int64)), .second, .val (.long (own_rb (p1 &&& (63 : Int32)) (p2 &&& (63 : Int32)))), .second, .val (.long (own_rb (0 : Int32) (0 : Int32))), .second, .val (.long (own_rb (p2 &&& (63 : Int32)) (p1 &&& (63 : Int32)))), .second] [(.long ((25 : Int64) + ((p1 &&& (63 : Int32)).toInt64))), (.long (own_rb (p1 &&& (63 : Int32)) (p2 &&& (63 : Int32))))])) _
    refine XS.iload X11.here hx rfl (hb hby at_98) rfl ?_
    show Steps p.tables e below (T11.setTop (mkF m 100 #[.val (.int p1), .val (.int p2), .val (.int p3), .val (.int (p1 &&& (63 : Int32))), .val (.int (p2 &&& (63 : Int32))), .val (.ref b4), .val (.ref b5), .val (.long (25 : Int64)), .second, .val (.long (own_rb (p1 &&& (63 : Int32)) (p2 &&& (63 : Int32)))), .second, .val (.long (own_rb (0 : Int32) (0 : Int32))), .second, .val (.long (own_rb (p2 &&& (63 : Int32)) (p1 &&& (63 : Int32)))), .second] [(.int (p2 &&& (63 : Int32))), (.long ((25 : Int64) + ((p1 &&& (63 : Int32)).toInt64))), (.long (own_rb (p1 &&& (63 : Int32)) (p2 &&& (63 : Int32))))])) _
    refine XS.i2l X11.here hx rfl (hb hby at_100) rfl ?_
    show Steps p.tables e below (T11.setTop (mkF m 101 #[.val (.int p1), .val (.int p2), .val (.int p3), .val (.int (p1 &&& (63 : Int32))), .val (.int (p2 &&& (63 : Int32))), .val (.ref b4), .val (.ref b5), .val (.long (25 : Int64)), .second, .val (.long (own_rb (p1 &&& (63 : Int32)) (p2 &&& (63 : Int32)))), .second, .val (.long (own_rb (0 : Int32) (0 : Int32))), .second, .val (.long (own_rb (p2 &&& (63 : Int32)) (p1 &&& (63 : Int32)))), .second] [(.long ((p2 &&& (63 : Int32)).toInt64)), (.long ((25 : Int64) + ((p1 &&& (63 : Int32)).toInt64))), (.long (own_rb (p1 &&& (63 : Int32)) (p2 &&& (63 : Int32))))])) _
    refine XS.ladd X11.here hx rfl (hb hby at_101) rfl ?_
    show Steps p.tables e below (T11.setTop (mkF m 102 #[.val (.int p1), .val (.int p2), .val (.int p3), .val (.int (p1 &&& (63 : Int32))), .val (.int (p2 &&& (63 : Int32))), .val (.ref b4), .val (.ref b5), .val (.long (25 : Int64)), .second, .val (.long (own_rb (p1 &&& (63 : Int32)) (p2 &&& (63 : Int32)))), .second, .val (.long (own_rb (0 : Int32) (0 : Int32))), .second, .val (.long (own_rb (p2 &&& (63 : Int32)) (p1 &&& (63 : Int32)))), .second] [(.long (((25 : Int64) + ((p1 &&& (63 : Int32)).toInt64)) + ((p2 &&& (63 : Int32)).toInt64))), (.long (own_rb (p1 &&& (63 : Int32)) (p2 &&& (63 : Int32))))])) _
    refine XS.lcmp X11.here hx rfl (hb hby at_102) rfl ?_
    show Steps p.tables e below (T11.setTop (mkF m 103 #[.val (.int p1), .val (.int p2), .val (.int p3), .val (.int (p1 &&& (63 : Int32))), .val (.int (p2 &&& (63 : Int32))), .val (.ref b4), .val (.ref b5), .val (.long (25 : Int64)), .second, .val (.long (own_rb (p1 &&& (63 : Int32)) (p2 &&& (63 : Int32)))), .second, .val (.long (own_rb (0 : Int32) (0 : Int32))), .second, .val (.long (own_rb (p2 &&& (63 : Int32)) (p1 &&& (63 : Int32)))), .second] [(.int (lcmpW (own_rb (p1 &&& (63 : Int32)) (p2 &&& (63 : Int32))) (((25 : Int64) + ((p1 &&& (63 : Int32)).toInt64)) + ((p2 &&& (63 : Int32)).toInt64))))])) _
    refine XS.ifNo X11.here hx rfl (hb hby at_103) rfl ((if0 _ _).trans (teq (own_lc _ _ rfl : (lcmpW (own_rb (p1 &&& (63 : Int32)) (p2 &&& (63 : Int32))) (((25 : Int64) + ((p1 &&& (63 : Int32)).toInt64)) + ((p2 &&& (63 : Int32)).toInt64))) = (0 : Int32))).2) ?_
    show Steps p.tables e below (T11.setTop (mkF m 106 #[.val (.int p1), .val (.int p2), .val (.int p3), .val (.int (p1 &&& (63 : Int32))), .val (.int (p2 &&& (63 : Int32))), .val (.ref b4), .val (.ref b5), .val (.long (25 : Int64)), .second, .val (.long (own_rb (p1 &&& (63 : Int32)) (p2 &&& (63 : Int32)))), .second, .val (.long (own_rb (0 : Int32) (0 : Int32))), .second, .val (.long (own_rb (p2 &&& (63 : Int32)) (p1 &&& (63 : Int32)))), .second] [])) _
    refine XS.lload X11.here hx rfl (hb hby at_106) rfl ?_
    show Steps p.tables e below (T11.setTop (mkF m 108 #[.val (.int p1), .val (.int p2), .val (.int p3), .val (.int (p1 &&& (63 : Int32))), .val (.int (p2 &&& (63 : Int32))), .val (.ref b4), .val (.ref b5), .val (.long (25 : Int64)), .second, .val (.long (own_rb (p1 &&& (63 : Int32)) (p2 &&& (63 : Int32)))), .second, .val (.long (own_rb (0 : Int32) (0 : Int32))), .second, .val (.long (own_rb (p2 &&& (63 : Int32)) (p1 &&& (63 : Int32)))), .second] [(.long (own_rb (p2 &&& (63 : Int32)) (p1 &&& (63 : Int32))))])) _
    refine XS.lload X11.here hx rfl (hb hby at_108) rfl ?_
    show Steps p.tables e below (T11.setTop (mkF m 110 #[.val (.int p1), .val (.int p2), .val (.int p3), .val (.int (p1 &&& (63 : Int32))), .val (.int (p2 &&& (63 : Int32))), .val (.ref b4), .val (.ref b5), .val (.long (25 : Int64)), .second, .val (.long (own_rb (p1 &&& (63 : Int32)) (p2 &&& (63 : Int32)))), .second, .val (.long (own_rb (0 : Int32) (0 : Int32))), .second, .val (.long (own_rb (p2 &&& (63 : Int32)) (p1 &&& (63 : Int32)))), .second] [(.long (own_rb (p1 &&& (63 : Int32)) (p2 &&& (63 : Int32)))), (.long (own_rb (p2 &&& (63 : Int32)) (p1 &&& (63 : Int32))))])) _
    refine XS.lcmp X11.here hx rfl (hb hby at_110) rfl ?_
    show Steps p.tables e below (T11.setTop (mkF m 111 #[.val (.int p1), .val (.int p2), .val (.int p3), .val (.int (p1 &&& (63 : Int32))), .val (.int (p2 &&& (63 : Int32))), .val (.ref b4), .val (.ref b5), .val (.long (25 : Int64)), .second, .val (.long (own_rb (p1 &&& (63 : Int32)) (p2 &&& (63 : Int32)))), .second, .val (.long (own_rb (0 : Int32) (0 : Int32))), .second, .val (.long (own_rb (p2 &&& (63 : Int32)) (p1 &&& (63 : Int32)))), .second] [(.int (lcmpW (own_rb (p2 &&& (63 : Int32)) (p1 &&& (63 : Int32))) (own_rb (p1 &&& (63 : Int32)) (p2 &&& (63 : Int32)))))])) _
    refine XS.ifNo X11.here hx rfl (hb hby at_111) rfl ((if0 _ _).trans (teq (own_lc _ _ (own_rbc _ _) : (lcmpW (own_rb (p2 &&& (63 : Int32)) (p1 &&& (63 : Int32))) (own_rb (p1 &&& (63 : Int32)) (p2 &&& (63 : Int32)))) = (0 : Int32))).2) ?_
    show Steps p.tables e below (T11.setTop (mkF m 114 #[.val (.int p1), .val (.int p2), .val (.int p3), .val (.int (p1 &&& (63 : Int32))), .val (.int (p2 &&& (63 : Int32))), .val (.ref b4), .val (.ref b5), .val (.long (25 : Int64)), .second, .val (.long (own_rb (p1 &&& (63 : Int32)) (p2 &&& (63 : Int32)))), .second, .val (.long (own_rb (0 : Int32) (0 : Int32))), .second, .val (.long (own_rb (p2 &&& (63 : Int32)) (p1 &&& (63 : Int32)))), .second] [])) _
    refine XS.iconst X11.here hx rfl (hb hby at_114) ?_
    show Steps p.tables e below (T11.setTop (mkF m 115 #[.val (.int p1), .val (.int p2), .val (.int p3), .val (.int (p1 &&& (63 : Int32))), .val (.int (p2 &&& (63 : Int32))), .val (.ref b4), .val (.ref b5), .val (.long (25 : Int64)), .second, .val (.long (own_rb (p1 &&& (63 : Int32)) (p2 &&& (63 : Int32)))), .second, .val (.long (own_rb (0 : Int32) (0 : Int32))), .second, .val (.long (own_rb (p2 &&& (63 : Int32)) (p1 &&& (63 : Int32)))), .second] [(.int (1 : Int32))])) _
    refine XS.goto X11.here hx rfl (pc0 := 115) (pc' := 119) rfl (hb hby at_115) (by decide) (by decide) ?_
    show Steps p.tables e below (T11.setTop (mkF m 119 #[.val (.int p1), .val (.int p2), .val (.int p3), .val (.int (p1 &&& (63 : Int32))), .val (.int (p2 &&& (63 : Int32))), .val (.ref b4), .val (.ref b5), .val (.long (25 : Int64)), .second, .val (.long (own_rb (p1 &&& (63 : Int32)) (p2 &&& (63 : Int32)))), .second, .val (.long (own_rb (0 : Int32) (0 : Int32))), .second, .val (.long (own_rb (p2 &&& (63 : Int32)) (p1 &&& (63 : Int32)))), .second] [(.int (1 : Int32))])) _
    exact retN X11 hx (t := .boolean) Bd.returns (by simp) (hb hby at_119) hr
  · show Q0 Z p1 p2 p3 h0 n0 _ T11.heap _
    exact ⟨rfl, N11⟩
set_option maxRecDepth 65536 in
set_option maxHeartbeats 40000000 in
theorem rm0_ftfff (l : Launch) (Z : State) (a0 : Array Value) (hw : ∀ d ∈ tables_1, d.before a0 Z = true) (ws : List Jvm.Cond) (p1 : Int32) (p2 : Int32) (p3 : Int32) (h0 : Heap) (n0 : Nat) (Z0 : n0 ≤ h0.size) (hc23 : (0 : Int32) < (p1 &&& (63 : Int32))) (hc34 : ¬ ((0 : Int32) < (p2 &&& (63 : Int32)))) :
    MetFree l x (head1 (Jvm.Cond.code x code maxLocals ret :: ws) room_1) (fun a U => a = #[(.int p1), (.int p2), (.int p3)] ∧ Z.Warmed39 U.vm ∧ U.heap = h0) (fun _ _ _ _ _ => True) (fun _ U o U' => ∃ v L, o = .returned v ∧ Q0 Z p1 p2 p3 h0 n0 v U'.heap L ∧ FrameEnd U o U' L room_1.cells room_1.slots) := by
  refine MetFree.of_bodySF (plainFor_of_name pn_0) hisR ?_
  intro p e s m args below meth c s₁ Bd hml0 hP hK
  obtain ⟨rfl, hZ, hh⟩ := hP
  have hx := Bd.exec
  have hby := Bd.bytes
  have hml : c.maxLocals = 15 := hml0
  have hown : s.vm.findClass "com/example/onceword/onceword/memory/ByteMapRecordBytesPinLaw" = some m.cls := findClass_of_methodNamed Bd.named
  have hnm := (name_of_methodNamed Bd.named Bd.method).1
  have X0 : Stand p l e room_1 s m #[(.int p1), (.int p2), (.int p3)] below meth c s₁ [] 0 0 := Stand.of_body Bd
  have e0 : s₁.heap = h0 := by rw [← hh, Bd.state]; rfl
  have N0 := Fr.nil n0
  have pre0 : ∀ t, Steps p.tables e below (s₁.setTop (mkF m 0 #[.val (.int p1), .val (.int p2), .val (.int p3), .unset, .unset, .unset, .unset, .unset, .unset, .unset, .unset, .unset, .unset, .unset, .unset] [])) t → Steps p.tables e below (s₁.setTop (entryFrame m #[(.int p1), (.int p2), (.int p3)] maxLocals)) t := fun t k => castTop (ef_0 m p1 p2 p3) k
  obtain ⟨T4, h4, k4, X4, e4, E4, A4, st4⟩ := newP X0 hx hZ (hw _ (List.mem_of_getElem? (i := 0) rfl)) e0 (g := (mkF m 12 #[.val (.int p1), .val (.int p2), .val (.int p3), .val (.int (p1 &&& (63 : Int32))), .val (.int (p2 &&& (63 : Int32))), .unset, .unset, .unset, .unset, .unset, .unset, .unset, .unset, .unset, .unset] [(.int (p1 &&& (63 : Int32)))])) rfl (hb hby at_12) rfl (own_63 p1).1 (cap := 63) (own_63 p1).2 (by decide) (by decide) (by decide)
  obtain ⟨b4, g4⟩ : ∃ z, z = h0.size := ⟨_, rfl⟩
  rw [← g4] at A4 st4
  have V_b4 : own_al Z h4 b4 (p1 &&& (63 : Int32)) := own_al_new A4 (own_63 p1).1
  have g_b4 : n0 ≤ b4 := Nat.le_trans Z0 (Nat.le_of_eq g4.symm)
  have sz_b4 : h0.size ≤ b4 := (Nat.le_trans (Keep.refl h0 []).1 (Nat.le_of_eq g4.symm))
  have K4 : Keep h0 h4 [] := (Keep.refl h0 []).ext E4
  obtain ⟨T5, h5, k5, X5, e5, E5, A5, st5⟩ := newP X4 hx hZ (hw _ (List.mem_of_getElem? (i := 0) rfl)) e4 (g := (mkF m 18 #[.val (.int p1), .val (.int p2), .val (.int p3), .val (.int (p1 &&& (63 : Int32))), .val (.int (p2 &&& (63 : Int32))), .val (.ref b4), .unset, .unset, .unset, .unset, .unset, .unset, .unset, .unset, .unset] [(.int (p2 &&& (63 : Int32)))])) rfl (hb hby at_18) rfl (own_63 p2).1 (cap := 63) (own_63 p2).2 (by decide) (by decide) (by decide)
  obtain ⟨b5, g5⟩ : ∃ z, z = h4.size := ⟨_, rfl⟩
  rw [← g5] at A5 st5
  have V_b5 : own_al Z h5 b5 (p2 &&& (63 : Int32)) := own_al_new A5 (own_63 p2).1
  have ne45 : b4 ≠ b5 := Nat.ne_of_lt (Nat.lt_of_lt_of_eq (own_al_lt V_b4) g5.symm)
  have U4_5 : own_al Z h5 b4 (p1 &&& (63 : Int32)) := own_al_ext V_b4 E5
  have g_b5 : n0 ≤ b5 := Nat.le_trans (Nat.le_trans Z0 E4.1) (Nat.le_of_eq g5.symm)
  have sz_b5 : h0.size ≤ b5 := (Nat.le_trans K4.1 (Nat.le_of_eq g5.symm))
  have K5 : Keep h0 h5 [] := K4.ext E5
  obtain ⟨cl_b4_31, Ar_b4, S_b4, N_b4⟩ := (id U4_5)
  have hin31 : ¬ ((0 : Int32) < 0 ∨ cl_b4_31.slots.size ≤ ((0 : Int32)).toNatClampNeg) := inb_of S_b4 ⟨by decide, hc23⟩
  obtain ⟨T6, h6, X6, e6, W6, st6⟩ := stB X5 hx hZ e5 Ar_b4 (j := (0 : Int32)) hin31 (g := (mkF m 31 #[.val (.int p1), .val (.int p2), .val (.int p3), .val (.int (p1 &&& (63 : Int32))), .val (.int (p2 &&& (63 : Int32))), .val (.ref b4), .val (.ref b5), .unset, .unset, .unset, .unset, .unset, .unset, .unset, .unset] [(.int (p3.toInt8.toInt32)), (.int (0 : Int32)), (.ref b4)])) rfl rfl (hb hby at_31)
  have K6 : Keep h0 h6 [] := K5.wr W6 (Or.inr sz_b4)
  have N6 := Fr.snoc X6 N0 g_b4
  have U4 : own_al Z h6 b4 (p1 &&& (63 : Int32)) := own_al_same U4_5 W6
  have U5 : own_al Z h6 b5 (p2 &&& (63 : Int32)) := own_al_other V_b5 W6 (Ne.symm ne45)
  have ZA : n0 ≤ h6.size := Nat.le_trans Z0 K6.1
  obtain ⟨c4, Q4a, Q4s, Q4n⟩ := id U4
  obtain ⟨c5, Q5a, Q5s, Q5n⟩ := id U5
  obtain ⟨_, _, ⟨T7, L7, k7, n7⟩, -, X7, ⟨Lc7, hQ7, l7, y7, z7⟩, st7⟩ := Jvm.LawKit.callS X6 hx (y := (⟨"com/example/onceword/onceword/memory/ByteMap", "recordBytes", "([B[B)J"⟩ : MethodName)) hown (mvT hZ (hw _ (List.mem_of_getElem? (i := 2) rfl))) (mvT hZ (hw _ (List.mem_of_getElem? (i := 3) rfl))) (mvT hZ (hw _ (List.mem_of_getElem? (i := 4) rfl))) (mvT hZ (hw _ (List.mem_of_getElem? (i := 5) rfl))) (by decide) (backOf (W := 0) (rm1 l Z a0 hw [] b4 b5 c4 (p1 &&& (63 : Int32)) c5 (p2 &&& (63 : Int32)) h6 n0 ZA Q4a Q4s Q4n Q5a Q5s Q5n) hZ (hw _ (List.mem_of_getElem? (i := 5) rfl)) (hw _ (List.mem_of_getElem? (i := 4) rfl)) (by decide) (by decide)) (g := (mkF m 58 #[.val (.int p1), .val (.int p2), .val (.int p3), .val (.int (p1 &&& (63 : Int32))), .val (.int (p2 &&& (63 : Int32))), .val (.ref b4), .val (.ref b5), .val (.long (25 : Int64)), .second, .unset, .unset, .unset, .unset, .unset, .unset] [(.ref b5), (.ref b4)])) rfl (by rw [hml]; rfl) (argsL := [(.ref b4), (.ref b5)]) (rest := []) (lenOf pd_0_0 rfl) rfl (by show 2 * 0 + _ ≤ _; exact Nat.le_of_eq rfl) (hb hby at_58) (fun _ _ => ⟨rfl, e6, (by decide : 2 + 0 ≤ _), (by decide : 126 + 0 ≤ _)⟩)
  dsimp only [Pt.U, Pt.locs, Pt.cells, Pt.slots] at X7 l7 y7 z7 st7 hQ7
  subst l7 y7 z7
  obtain ⟨rfl, N7q, e7q⟩ := hQ7
  have e7p : T7.heap = h6 := e7q
  have N7 := Fr.app N6 N7q
  obtain ⟨T8, h8, k8, X8, e8, E8, A8, st8⟩ := newP X7 hx hZ (hw _ (List.mem_of_getElem? (i := 0) rfl)) rfl (g := (mkF m 64 #[.val (.int p1), .val (.int p2), .val (.int p3), .val (.int (p1 &&& (63 : Int32))), .val (.int (p2 &&& (63 : Int32))), .val (.ref b4), .val (.ref b5), .val (.long (25 : Int64)), .second, .val (.long (own_rb (p1 &&& (63 : Int32)) (p2 &&& (63 : Int32)))), .second, .unset, .unset, .unset, .unset] [(.int (0 : Int32))])) rfl (hb hby at_64) rfl (by decide) (cap := 0) (by decide) (by decide) (by decide) (by decide)
  obtain ⟨b8, g8⟩ : ∃ z, z = T7.heap.size := ⟨_, rfl⟩
  rw [← g8] at A8 st8
  have V_b8 : own_al Z h8 b8 (0 : Int32) := own_al_new A8 (by decide)
  obtain ⟨T9, h9, k9, X9, e9, E9, A9, st9⟩ := newP X8 hx hZ (hw _ (List.mem_of_getElem? (i := 0) rfl)) e8 (g := (mkF m 67 #[.val (.int p1), .val (.int p2), .val (.int p3), .val (.int (p1 &&& (63 : Int32))), .val (.int (p2 &&& (63 : Int32))), .val (.ref b4), .val (.ref b5), .val (.long (25 : Int64)), .second, .val (.long (own_rb (p1 &&& (63 : Int32)) (p2 &&& (63 : Int32)))), .second, .unset, .unset, .unset, .unset] [(.int (0 : Int32)), (.ref b8)])) rfl (hb hby at_67) rfl (by decide) (cap := 0) (by decide) (by decide) (by decide) (by decide)
  obtain ⟨b9, g9⟩ : ∃ z, z = h8.size := ⟨_, rfl⟩
  rw [← g9] at A9 st9
  have V_b9 : own_al Z h9 b9 (0 : Int32) := own_al_new A9 (by decide)
  obtain ⟨c9, Q9a, Q9s, Q9n⟩ := own_al_ext V_b8 E9
  obtain ⟨c10, Q10a, Q10s, Q10n⟩ := id V_b9
  have ZB : n0 ≤ h9.size := Nat.le_trans (Nat.le_trans ZA (Nat.le_of_eq (congrArg Array.size e7p.symm))) (Nat.le_trans E8.1 E9.1)
  have U4b : own_al Z h9 b4 (p1 &&& (63 : Int32)) := own_al_ext (own_al_ext (show own_al Z T7.heap b4 (p1 &&& (63 : Int32)) by rw [e7p]; exact U4) E8) E9
  have U5b : own_al Z h9 b5 (p2 &&& (63 : Int32)) := own_al_ext (own_al_ext (show own_al Z T7.heap b5 (p2 &&& (63 : Int32)) by rw [e7p]; exact U5) E8) E9
  obtain ⟨_, _, ⟨T10, L10, k10, n10⟩, -, X10, ⟨Lc10, hQ10, l10, y10, z10⟩, st10⟩ := Jvm.LawKit.callS X9 hx (y := (⟨"com/example/onceword/onceword/memory/ByteMap", "recordBytes", "([B[B)J"⟩ : MethodName)) hown (mvT hZ (hw _ (List.mem_of_getElem? (i := 2) rfl))) (mvT hZ (hw _ (List.mem_of_getElem? (i := 3) rfl))) (mvT hZ (hw _ (List.mem_of_getElem? (i := 4) rfl))) (mvT hZ (hw _ (List.mem_of_getElem? (i := 5) rfl))) (by decide) (backOf (W := 0) (rm1 l Z a0 hw [] b8 b9 c9 (0 : Int32) c10 (0 : Int32) h9 n0 ZB Q9a Q9s Q9n Q10a Q10s Q10n) hZ (hw _ (List.mem_of_getElem? (i := 5) rfl)) (hw _ (List.mem_of_getElem? (i := 4) rfl)) (by decide) (by decide)) (g := (mkF m 69 #[.val (.int p1), .val (.int p2), .val (.int p3), .val (.int (p1 &&& (63 : Int32))), .val (.int (p2 &&& (63 : Int32))), .val (.ref b4), .val (.ref b5), .val (.long (25 : Int64)), .second, .val (.long (own_rb (p1 &&& (63 : Int32)) (p2 &&& (63 : Int32)))), .second, .unset, .unset, .unset, .unset] [(.ref b9), (.ref b8)])) rfl (by rw [hml]; rfl) (argsL := [(.ref b8), (.ref b9)]) (rest := []) (lenOf pd_0_0 rfl) rfl (by show 2 * 0 + _ ≤ _; exact Nat.le_of_eq rfl) (hb hby at_69) (fun _ _ => ⟨rfl, e9, (by decide : 4 + 0 ≤ _), (by decide : 126 + 0 ≤ _)⟩)
  dsimp only [Pt.U, Pt.locs, Pt.cells, Pt.slots] at X10 l10 y10 z10 st10 hQ10
  subst l10 y10 z10
  obtain ⟨rfl, N10q, e10q⟩ := hQ10
  have e10p : T10.heap = h9 := e10q
  obtain ⟨d4, R4a, R4s, R4n⟩ := (show own_al Z T10.heap b4 (p1 &&& (63 : Int32)) by rw [e10p]; exact U4b)
  obtain ⟨d5, R5a, R5s, R5n⟩ := (show own_al Z T10.heap b5 (p2 &&& (63 : Int32)) by rw [e10p]; exact U5b)
  have N10 := Fr.app N7 N10q
  obtain ⟨_, _, ⟨T11, L11, k11, n11⟩, -, X11, ⟨Lc11, hQ11, l11, y11, z11⟩, st11⟩ := Jvm.LawKit.callS X10 hx (y := (⟨"com/example/onceword/onceword/memory/ByteMap", "recordBytes", "([B[B)J"⟩ : MethodName)) hown (mvT hZ (hw _ (List.mem_of_getElem? (i := 2) rfl))) (mvT hZ (hw _ (List.mem_of_getElem? (i := 3) rfl))) (mvT hZ (hw _ (List.mem_of_getElem? (i := 4) rfl))) (mvT hZ (hw _ (List.mem_of_getElem? (i := 5) rfl))) (by decide) (backOf (W := 0) (rm1 l Z a0 hw [] b5 b4 d5 (p2 &&& (63 : Int32)) d4 (p1 &&& (63 : Int32)) T10.heap n0 (by rw [e10p]; exact ZB) R5a R5s R5n R4a R4s R4n) hZ (hw _ (List.mem_of_getElem? (i := 5) rfl)) (hw _ (List.mem_of_getElem? (i := 4) rfl)) (by decide) (by decide)) (g := (mkF m 78 #[.val (.int p1), .val (.int p2), .val (.int p3), .val (.int (p1 &&& (63 : Int32))), .val (.int (p2 &&& (63 : Int32))), .val (.ref b4), .val (.ref b5), .val (.long (25 : Int64)), .second, .val (.long (own_rb (p1 &&& (63 : Int32)) (p2 &&& (63 : Int32)))), .second, .val (.long (own_rb (0 : Int32) (0 : Int32))), .second, .unset, .unset] [(.ref b4), (.ref b5)])) rfl (by rw [hml]; rfl) (argsL := [(.ref b5), (.ref b4)]) (rest := []) (lenOf pd_0_0 rfl) rfl (by show 2 * 0 + _ ≤ _; exact Nat.le_of_eq rfl) (hb hby at_78) (fun _ _ => ⟨rfl, rfl, (by decide : 4 + 0 ≤ _), (by decide : 126 + 0 ≤ _)⟩)
  dsimp only [Pt.U, Pt.locs, Pt.cells, Pt.slots] at X11 l11 y11 z11 st11 hQ11
  subst l11 y11 z11
  obtain ⟨rfl, N11q, e11q⟩ := hQ11
  have N11 := Fr.app N10 N11q
  obtain ⟨fs, hr, hrun, hended, hW, hsame⟩ := X11.leave (v := some (.int (1 : Int32))) (fun h => by rw [Bd.returns] at h; cases h)
  refine ⟨_, _, pre0 _ ?_, hrun, hended, _, _, rfl, ?_, ⟨_, rfl⟩, hW, hsame.mono (by decide) (by decide)⟩
  · show Steps p.tables e below (s₁.setTop (mkF m 0 #[.val (.int p1), .val (.int p2), .val (.int p3), .unset, .unset, .unset, .unset, .unset, .unset, .unset, .unset, .unset, .unset, .unset, .unset] [])) _
    refine XS.iloadN X0.here hx rfl (hb hby at_0) rfl ?_
    show Steps p.tables e below (s₁.setTop (mkF m 1 #[.val (.int p1), .val (.int p2), .val (.int p3), .unset, .unset, .unset, .unset, .unset, .unset, .unset, .unset, .unset, .unset, .unset, .unset] [(.int p1)])) _
    refine XS.bipush X0.here hx rfl (hb hby at_1) ?_
    show Steps p.tables e below (s₁.setTop (mkF m 3 #[.val (.int p1), .val (.int p2), .val (.int p3), .unset, .unset, .unset, .unset, .unset, .unset, .unset, .unset, .unset, .unset, .unset, .unset] [(.int (63 : Int32)), (.int p1)])) _
    refine XS.iand X0.here hx rfl (hb hby at_3) rfl ?_
    show Steps p.tables e below (s₁.setTop (mkF m 4 #[.val (.int p1), .val (.int p2), .val (.int p3), .unset, .unset, .unset, .unset, .unset, .unset, .unset, .unset, .unset, .unset, .unset, .unset] [(.int (p1 &&& (63 : Int32)))])) _
    refine XS.istoreN X0.here hx rfl (hb hby at_4) rfl (l' := #[.val (.int p1), .val (.int p2), .val (.int p3), .val (.int (p1 &&& (63 : Int32))), .unset, .unset, .unset, .unset, .unset, .unset, .unset, .unset, .unset, .unset, .unset]) rfl ?_
    show Steps p.tables e below (s₁.setTop (mkF m 5 #[.val (.int p1), .val (.int p2), .val (.int p3), .val (.int (p1 &&& (63 : Int32))), .unset, .unset, .unset, .unset, .unset, .unset, .unset, .unset, .unset, .unset, .unset] [])) _
    refine XS.iloadN X0.here hx rfl (hb hby at_5) rfl ?_
    show Steps p.tables e below (s₁.setTop (mkF m 6 #[.val (.int p1), .val (.int p2), .val (.int p3), .val (.int (p1 &&& (63 : Int32))), .unset, .unset, .unset, .unset, .unset, .unset, .unset, .unset, .unset, .unset, .unset] [(.int p2)])) _
    refine XS.bipush X0.here hx rfl (hb hby at_6) ?_
    show Steps p.tables e below (s₁.setTop (mkF m 8 #[.val (.int p1), .val (.int p2), .val (.int p3), .val (.int (p1 &&& (63 : Int32))), .unset, .unset, .unset, .unset, .unset, .unset, .unset, .unset, .unset, .unset, .unset] [(.int (63 : Int32)), (.int p2)])) _
    refine XS.iand X0.here hx rfl (hb hby at_8) rfl ?_
    show Steps p.tables e below (s₁.setTop (mkF m 9 #[.val (.int p1), .val (.int p2), .val (.int p3), .val (.int (p1 &&& (63 : Int32))), .unset, .unset, .unset, .unset, .unset, .unset, .unset, .unset, .unset, .unset, .unset] [(.int (p2 &&& (63 : Int32)))])) _
    refine XS.istore X0.here hx rfl (hb hby at_9) rfl (l' := #[.val (.int p1), .val (.int p2), .val (.int p3), .val (.int (p1 &&& (63 : Int32))), .val (.int (p2 &&& (63 : Int32))), .unset, .unset, .unset, .unset, .unset, .unset, .unset, .unset, .unset, .unset]) rfl ?_
    show Steps p.tables e below (s₁.setTop (mkF m 11 #[.val (.int p1), .val (.int p2), .val (.int p3), .val (.int (p1 &&& (63 : Int32))), .val (.int (p2 &&& (63 : Int32))), .unset, .unset, .unset, .unset, .unset, .unset, .unset, .unset, .unset, .unset] [])) _
    refine XS.iloadN X0.here hx rfl (hb hby at_11) rfl ?_
    show Steps p.tables e below (s₁.setTop (mkF m 12 #[.val (.int p1), .val (.int p2), .val (.int p3), .val (.int (p1 &&& (63 : Int32))), .val (.int (p2 &&& (63 : Int32))), .unset, .unset, .unset, .unset, .unset, .unset, .unset, .unset, .unset, .unset] [(.int (p1 &&& (63 : Int32)))])) _
    refine st4 _ ?_
    show Steps p.tables e below (T4.setTop (mkF m 14 #[.val (.int p1), .val (.int p2), .val (.int p3), .val (.int (p1 &&& (63 : Int32))), .val (.int (p2 &&& (63 : Int32))), .unset, .unset, .unset, .unset, .unset, .unset, .unset, .unset, .unset, .unset] [(.ref b4)])) _
    refine XS.astore X4.here hx rfl (hb hby at_14) rfl rfl (l' := #[.val (.int p1), .val (.int p2), .val (.int p3), .val (.int (p1 &&& (63 : Int32))), .val (.int (p2 &&& (63 : Int32))), .val (.ref b4), .unset, .unset, .unset, .unset, .unset, .unset, .unset, .unset, .unset]) rfl ?_
    show Steps p.tables e below (T4.setTop (mkF m 16 #[.val (.int p1), .val (.int p2), .val (.int p3), .val (.int (p1 &&& (63 : Int32))), .val (.int (p2 &&& (63 : Int32))), .val (.ref b4), .unset, .unset, .unset, .unset, .unset, .unset, .unset, .unset, .unset] [])) _
    refine XS.iload X4.here hx rfl (hb hby at_16) rfl ?_
    show Steps p.tables e below (T4.setTop (mkF m 18 #[.val (.int p1), .val (.int p2), .val (.int p3), .val (.int (p1 &&& (63 : Int32))), .val (.int (p2 &&& (63 : Int32))), .val (.ref b4), .unset, .unset, .unset, .unset, .unset, .unset, .unset, .unset, .unset] [(.int (p2 &&& (63 : Int32)))])) _
    refine st5 _ ?_
    show Steps p.tables e below (T5.setTop (mkF m 20 #[.val (.int p1), .val (.int p2), .val (.int p3), .val (.int (p1 &&& (63 : Int32))), .val (.int (p2 &&& (63 : Int32))), .val (.ref b4), .unset, .unset, .unset, .unset, .unset, .unset, .unset, .unset, .unset] [(.ref b5)])) _
    refine XS.astore X5.here hx rfl (hb hby at_20) rfl rfl (l' := #[.val (.int p1), .val (.int p2), .val (.int p3), .val (.int (p1 &&& (63 : Int32))), .val (.int (p2 &&& (63 : Int32))), .val (.ref b4), .val (.ref b5), .unset, .unset, .unset, .unset, .unset, .unset, .unset, .unset]) rfl ?_
    show Steps p.tables e below (T5.setTop (mkF m 22 #[.val (.int p1), .val (.int p2), .val (.int p3), .val (.int (p1 &&& (63 : Int32))), .val (.int (p2 &&& (63 : Int32))), .val (.ref b4), .val (.ref b5), .unset, .unset, .unset, .unset, .unset, .unset, .unset, .unset] [])) _
    refine XS.iloadN X5.here hx rfl (hb hby at_22) rfl ?_
    show Steps p.tables e below (T5.setTop (mkF m 23 #[.val (.int p1), .val (.int p2), .val (.int p3), .val (.int (p1 &&& (63 : Int32))), .val (.int (p2 &&& (63 : Int32))), .val (.ref b4), .val (.ref b5), .unset, .unset, .unset, .unset, .unset, .unset, .unset, .unset] [(.int (p1 &&& (63 : Int32)))])) _
    refine XS.ifNo X5.here hx rfl (hb hby at_23) rfl ((if0 _ _).trans (tlt hc23).2.2.2) ?_
    show Steps p.tables e below (T5.setTop (mkF m 26 #[.val (.int p1), .val (.int p2), .val (.int p3), .val (.int (p1 &&& (63 : Int32))), .val (.int (p2 &&& (63 : Int32))), .val (.ref b4), .val (.ref b5), .unset, .unset, .unset, .unset, .unset, .unset, .unset, .unset] [])) _
    refine XS.aload X5.here hx rfl (hb hby at_26) rfl rfl ?_
    show Steps p.tables e below (T5.setTop (mkF m 28 #[.val (.int p1), .val (.int p2), .val (.int p3), .val (.int (p1 &&& (63 : Int32))), .val (.int (p2 &&& (63 : Int32))), .val (.ref b4), .val (.ref b5), .unset, .unset, .unset, .unset, .unset, .unset, .unset, .unset] [(.ref b4)])) _
    refine XS.iconst X5.here hx rfl (hb hby at_28) ?_
    show Steps p.tables e below (T5.setTop (mkF m 29 #[.val (.int p1), .val (.int p2), .val (.int p3), .val (.int (p1 &&& (63 : Int32))), .val (.int (p2 &&& (63 : Int32))), .val (.ref b4), .val (.ref b5), .unset, .unset, .unset, .unset, .unset, .unset, .unset, .unset] [(.int (0 : Int32)), (.ref b4)])) _
    refine XS.iloadN X5.here hx rfl (hb hby at_29) rfl ?_
    show Steps p.tables e below (T5.setTop (mkF m 30 #[.val (.int p1), .val (.int p2), .val (.int p3), .val (.int (p1 &&& (63 : Int32))), .val (.int (p2 &&& (63 : Int32))), .val (.ref b4), .val (.ref b5), .unset, .unset, .unset, .unset, .unset, .unset, .unset, .unset] [(.int p3), (.int (0 : Int32)), (.ref b4)])) _
    refine XS.i2b X5.here hx rfl (hb hby at_30) rfl ?_
    show Steps p.tables e below (T5.setTop (mkF m 31 #[.val (.int p1), .val (.int p2), .val (.int p3), .val (.int (p1 &&& (63 : Int32))), .val (.int (p2 &&& (63 : Int32))), .val (.ref b4), .val (.ref b5), .unset, .unset, .unset, .unset, .unset, .unset, .unset, .unset] [(.int (p3.toInt8.toInt32)), (.int (0 : Int32)), (.ref b4)])) _
    refine st6 _ ?_
    show Steps p.tables e below (T6.setTop (mkF m 32 #[.val (.int p1), .val (.int p2), .val (.int p3), .val (.int (p1 &&& (63 : Int32))), .val (.int (p2 &&& (63 : Int32))), .val (.ref b4), .val (.ref b5), .unset, .unset, .unset, .unset, .unset, .unset, .unset, .unset] [])) _
    refine XS.iload X6.here hx rfl (hb hby at_32) rfl ?_
    show Steps p.tables e below (T6.setTop (mkF m 34 #[.val (.int p1), .val (.int p2), .val (.int p3), .val (.int (p1 &&& (63 : Int32))), .val (.int (p2 &&& (63 : Int32))), .val (.ref b4), .val (.ref b5), .unset, .unset, .unset, .unset, .unset, .unset, .unset, .unset] [(.int (p2 &&& (63 : Int32)))])) _
    refine XS.ifYes X6.here hx rfl (pc0 := 34) (pc' := 49) rfl (hb hby at_34) rfl ((if0 _ _).trans (flt hc34).2.2.2) (by decide) (by decide) ?_
    show Steps p.tables e below (T6.setTop (mkF m 49 #[.val (.int p1), .val (.int p2), .val (.int p3), .val (.int (p1 &&& (63 : Int32))), .val (.int (p2 &&& (63 : Int32))), .val (.ref b4), .val (.ref b5), .unset, .unset, .unset, .unset, .unset, .unset, .unset, .unset] [])) _
    refine X6.ldc2Long hx hown (mvT hZ (hw _ (List.mem_of_getElem? (i := 1) rfl))) (g := (mkF m 49 #[.val (.int p1), .val (.int p2), .val (.int p3), .val (.int (p1 &&& (63 : Int32))), .val (.int (p2 &&& (63 : Int32))), .val (.ref b4), .val (.ref b5), .unset, .unset, .unset, .unset, .unset, .unset, .unset, .unset] [])) rfl (hb hby at_49) _ ?_
    show Steps p.tables e below (T6.setTop (mkF m 52 #[.val (.int p1), .val (.int p2), .val (.int p3), .val (.int (p1 &&& (63 : Int32))), .val (.int (p2 &&& (63 : Int32))), .val (.ref b4), .val (.ref b5), .unset, .unset, .unset, .unset, .unset, .unset, .unset, .unset] [(.long (25 : Int64))])) _
    refine XS.lstore X6.here hx rfl (hb hby at_52) rfl (l' := #[.val (.int p1), .val (.int p2), .val (.int p3), .val (.int (p1 &&& (63 : Int32))), .val (.int (p2 &&& (63 : Int32))), .val (.ref b4), .val (.ref b5), .val (.long (25 : Int64)), .second, .unset, .unset, .unset, .unset, .unset, .unset]) rfl ?_
    show Steps p.tables e below (T6.setTop (mkF m 54 #[.val (.int p1), .val (.int p2), .val (.int p3), .val (.int (p1 &&& (63 : Int32))), .val (.int (p2 &&& (63 : Int32))), .val (.ref b4), .val (.ref b5), .val (.long (25 : Int64)), .second, .unset, .unset, .unset, .unset, .unset, .unset] [])) _
    refine XS.aload X6.here hx rfl (hb hby at_54) rfl rfl ?_
    show Steps p.tables e below (T6.setTop (mkF m 56 #[.val (.int p1), .val (.int p2), .val (.int p3), .val (.int (p1 &&& (63 : Int32))), .val (.int (p2 &&& (63 : Int32))), .val (.ref b4), .val (.ref b5), .val (.long (25 : Int64)), .second, .unset, .unset, .unset, .unset, .unset, .unset] [(.ref b4)])) _
    refine XS.aload X6.here hx rfl (hb hby at_56) rfl rfl ?_
    show Steps p.tables e below (T6.setTop (mkF m 58 #[.val (.int p1), .val (.int p2), .val (.int p3), .val (.int (p1 &&& (63 : Int32))), .val (.int (p2 &&& (63 : Int32))), .val (.ref b4), .val (.ref b5), .val (.long (25 : Int64)), .second, .unset, .unset, .unset, .unset, .unset, .unset] [(.ref b5), (.ref b4)])) _
    refine st7 _ ?_
    show Steps p.tables e below (T7.setTop (mkF m 61 #[.val (.int p1), .val (.int p2), .val (.int p3), .val (.int (p1 &&& (63 : Int32))), .val (.int (p2 &&& (63 : Int32))), .val (.ref b4), .val (.ref b5), .val (.long (25 : Int64)), .second, .unset, .unset, .unset, .unset, .unset, .unset] [(.long (own_rb (p1 &&& (63 : Int32)) (p2 &&& (63 : Int32))))])) _
    refine XS.lstore X7.here hx rfl (hb hby at_61) rfl (l' := #[.val (.int p1), .val (.int p2), .val (.int p3), .val (.int (p1 &&& (63 : Int32))), .val (.int (p2 &&& (63 : Int32))), .val (.ref b4), .val (.ref b5), .val (.long (25 : Int64)), .second, .val (.long (own_rb (p1 &&& (63 : Int32)) (p2 &&& (63 : Int32)))), .second, .unset, .unset, .unset, .unset]) rfl ?_
    show Steps p.tables e below (T7.setTop (mkF m 63 #[.val (.int p1), .val (.int p2), .val (.int p3), .val (.int (p1 &&& (63 : Int32))), .val (.int (p2 &&& (63 : Int32))), .val (.ref b4), .val (.ref b5), .val (.long (25 : Int64)), .second, .val (.long (own_rb (p1 &&& (63 : Int32)) (p2 &&& (63 : Int32)))), .second, .unset, .unset, .unset, .unset] [])) _
    refine XS.iconst X7.here hx rfl (hb hby at_63) ?_
    show Steps p.tables e below (T7.setTop (mkF m 64 #[.val (.int p1), .val (.int p2), .val (.int p3), .val (.int (p1 &&& (63 : Int32))), .val (.int (p2 &&& (63 : Int32))), .val (.ref b4), .val (.ref b5), .val (.long (25 : Int64)), .second, .val (.long (own_rb (p1 &&& (63 : Int32)) (p2 &&& (63 : Int32)))), .second, .unset, .unset, .unset, .unset] [(.int (0 : Int32))])) _
    refine st8 _ ?_
    show Steps p.tables e below (T8.setTop (mkF m 66 #[.val (.int p1), .val (.int p2), .val (.int p3), .val (.int (p1 &&& (63 : Int32))), .val (.int (p2 &&& (63 : Int32))), .val (.ref b4), .val (.ref b5), .val (.long (25 : Int64)), .second, .val (.long (own_rb (p1 &&& (63 : Int32)) (p2 &&& (63 : Int32)))), .second, .unset, .unset, .unset, .unset] [(.ref b8)])) _
    refine XS.iconst X8.here hx rfl (hb hby at_66) ?_
    show Steps p.tables e below (T8.setTop (mkF m 67 #[.val (.int p1), .val (.int p2), .val (.int p3), .val (.int (p1 &&& (63 : Int32))), .val (.int (p2 &&& (63 : Int32))), .val (.ref b4), .val (.ref b5), .val (.long (25 : Int64)), .second, .val (.long (own_rb (p1 &&& (63 : Int32)) (p2 &&& (63 : Int32)))), .second, .unset, .unset, .unset, .unset] [(.int (0 : Int32)), (.ref b8)])) _
    refine st9 _ ?_
    show Steps p.tables e below (T9.setTop (mkF m 69 #[.val (.int p1), .val (.int p2), .val (.int p3), .val (.int (p1 &&& (63 : Int32))), .val (.int (p2 &&& (63 : Int32))), .val (.ref b4), .val (.ref b5), .val (.long (25 : Int64)), .second, .val (.long (own_rb (p1 &&& (63 : Int32)) (p2 &&& (63 : Int32)))), .second, .unset, .unset, .unset, .unset] [(.ref b9), (.ref b8)])) _
    refine st10 _ ?_
    show Steps p.tables e below (T10.setTop (mkF m 72 #[.val (.int p1), .val (.int p2), .val (.int p3), .val (.int (p1 &&& (63 : Int32))), .val (.int (p2 &&& (63 : Int32))), .val (.ref b4), .val (.ref b5), .val (.long (25 : Int64)), .second, .val (.long (own_rb (p1 &&& (63 : Int32)) (p2 &&& (63 : Int32)))), .second, .unset, .unset, .unset, .unset] [(.long (own_rb (0 : Int32) (0 : Int32)))])) _
    refine XS.lstore X10.here hx rfl (hb hby at_72) rfl (l' := #[.val (.int p1), .val (.int p2), .val (.int p3), .val (.int (p1 &&& (63 : Int32))), .val (.int (p2 &&& (63 : Int32))), .val (.ref b4), .val (.ref b5), .val (.long (25 : Int64)), .second, .val (.long (own_rb (p1 &&& (63 : Int32)) (p2 &&& (63 : Int32)))), .second, .val (.long (own_rb (0 : Int32) (0 : Int32))), .second, .unset, .unset]) rfl ?_
    show Steps p.tables e below (T10.setTop (mkF m 74 #[.val (.int p1), .val (.int p2), .val (.int p3), .val (.int (p1 &&& (63 : Int32))), .val (.int (p2 &&& (63 : Int32))), .val (.ref b4), .val (.ref b5), .val (.long (25 : Int64)), .second, .val (.long (own_rb (p1 &&& (63 : Int32)) (p2 &&& (63 : Int32)))), .second, .val (.long (own_rb (0 : Int32) (0 : Int32))), .second, .unset, .unset] [])) _
    refine XS.aload X10.here hx rfl (hb hby at_74) rfl rfl ?_
    show Steps p.tables e below (T10.setTop (mkF m 76 #[.val (.int p1), .val (.int p2), .val (.int p3), .val (.int (p1 &&& (63 : Int32))), .val (.int (p2 &&& (63 : Int32))), .val (.ref b4), .val (.ref b5), .val (.long (25 : Int64)), .second, .val (.long (own_rb (p1 &&& (63 : Int32)) (p2 &&& (63 : Int32)))), .second, .val (.long (own_rb (0 : Int32) (0 : Int32))), .second, .unset, .unset] [(.ref b5)])) _
    refine XS.aload X10.here hx rfl (hb hby at_76) rfl rfl ?_
    show Steps p.tables e below (T10.setTop (mkF m 78 #[.val (.int p1), .val (.int p2), .val (.int p3), .val (.int (p1 &&& (63 : Int32))), .val (.int (p2 &&& (63 : Int32))), .val (.ref b4), .val (.ref b5), .val (.long (25 : Int64)), .second, .val (.long (own_rb (p1 &&& (63 : Int32)) (p2 &&& (63 : Int32)))), .second, .val (.long (own_rb (0 : Int32) (0 : Int32))), .second, .unset, .unset] [(.ref b4), (.ref b5)])) _
    refine st11 _ ?_
    show Steps p.tables e below (T11.setTop (mkF m 81 #[.val (.int p1), .val (.int p2), .val (.int p3), .val (.int (p1 &&& (63 : Int32))), .val (.int (p2 &&& (63 : Int32))), .val (.ref b4), .val (.ref b5), .val (.long (25 : Int64)), .second, .val (.long (own_rb (p1 &&& (63 : Int32)) (p2 &&& (63 : Int32)))), .second, .val (.long (own_rb (0 : Int32) (0 : Int32))), .second, .unset, .unset] [(.long (own_rb (p2 &&& (63 : Int32)) (p1 &&& (63 : Int32))))])) _
    refine XS.lstore X11.here hx rfl (hb hby at_81) rfl (l' := #[.val (.int p1), .val (.int p2), .val (.int p3), .val (.int (p1 &&& (63 : Int32))), .val (.int (p2 &&& (63 : Int32))), .val (.ref b4), .val (.ref b5), .val (.long (25 : Int64)), .second, .val (.long (own_rb (p1 &&& (63 : Int32)) (p2 &&& (63 : Int32)))), .second, .val (.long (own_rb (0 : Int32) (0 : Int32))), .second, .val (.long (own_rb (p2 &&& (63 : Int32)) (p1 &&& (63 : Int32)))), .second]) rfl ?_
    show Steps p.tables e below (T11.setTop (mkF m 83 #[.val (.int p1), .val (.int p2), .val (.int p3), .val (.int (p1 &&& (63 : Int32))), .val (.int (p2 &&& (63 : Int32))), .val (.ref b4), .val (.ref b5), .val (.long (25 : Int64)), .second, .val (.long (own_rb (p1 &&& (63 : Int32)) (p2 &&& (63 : Int32)))), .second, .val (.long (own_rb (0 : Int32) (0 : Int32))), .second, .val (.long (own_rb (p2 &&& (63 : Int32)) (p1 &&& (63 : Int32)))), .second] [])) _
    refine XS.lload X11.here hx rfl (hb hby at_83) rfl ?_
    show Steps p.tables e below (T11.setTop (mkF m 85 #[.val (.int p1), .val (.int p2), .val (.int p3), .val (.int (p1 &&& (63 : Int32))), .val (.int (p2 &&& (63 : Int32))), .val (.ref b4), .val (.ref b5), .val (.long (25 : Int64)), .second, .val (.long (own_rb (p1 &&& (63 : Int32)) (p2 &&& (63 : Int32)))), .second, .val (.long (own_rb (0 : Int32) (0 : Int32))), .second, .val (.long (own_rb (p2 &&& (63 : Int32)) (p1 &&& (63 : Int32)))), .second] [(.long (own_rb (0 : Int32) (0 : Int32)))])) _
    refine XS.lload X11.here hx rfl (hb hby at_85) rfl ?_
    show Steps p.tables e below (T11.setTop (mkF m 87 #[.val (.int p1), .val (.int p2), .val (.int p3), .val (.int (p1 &&& (63 : Int32))), .val (.int (p2 &&& (63 : Int32))), .val (.ref b4), .val (.ref b5), .val (.long (25 : Int64)), .second, .val (.long (own_rb (p1 &&& (63 : Int32)) (p2 &&& (63 : Int32)))), .second, .val (.long (own_rb (0 : Int32) (0 : Int32))), .second, .val (.long (own_rb (p2 &&& (63 : Int32)) (p1 &&& (63 : Int32)))), .second] [(.long (25 : Int64)), (.long (own_rb (0 : Int32) (0 : Int32)))])) _
    refine XS.lcmp X11.here hx rfl (hb hby at_87) rfl ?_
    show Steps p.tables e below (T11.setTop (mkF m 88 #[.val (.int p1), .val (.int p2), .val (.int p3), .val (.int (p1 &&& (63 : Int32))), .val (.int (p2 &&& (63 : Int32))), .val (.ref b4), .val (.ref b5), .val (.long (25 : Int64)), .second, .val (.long (own_rb (p1 &&& (63 : Int32)) (p2 &&& (63 : Int32)))), .second, .val (.long (own_rb (0 : Int32) (0 : Int32))), .second, .val (.long (own_rb (p2 &&& (63 : Int32)) (p1 &&& (63 : Int32)))), .second] [(.int (lcmpW (own_rb (0 : Int32) (0 : Int32)) (25 : Int64)))])) _
    refine XS.ifNo X11.here hx rfl (hb hby at_88) rfl ((if0 _ _).trans (teq (own_lc _ _ (by decide +kernel) : (lcmpW (own_rb (0 : Int32) (0 : Int32)) (25 : Int64)) = (0 : Int32))).2) ?_
    show Steps p.tables e below (T11.setTop (mkF m 91 #[.val (.int p1), .val (.int p2), .val (.int p3), .val (.int (p1 &&& (63 : Int32))), .val (.int (p2 &&& (63 : Int32))), .val (.ref b4), .val (.ref b5), .val (.long (25 : Int64)), .second, .val (.long (own_rb (p1 &&& (63 : Int32)) (p2 &&& (63 : Int32)))), .second, .val (.long (own_rb (0 : Int32) (0 : Int32))), .second, .val (.long (own_rb (p2 &&& (63 : Int32)) (p1 &&& (63 : Int32)))), .second] [])) _
    refine XS.lload X11.here hx rfl (hb hby at_91) rfl ?_
    show Steps p.tables e below (T11.setTop (mkF m 93 #[.val (.int p1), .val (.int p2), .val (.int p3), .val (.int (p1 &&& (63 : Int32))), .val (.int (p2 &&& (63 : Int32))), .val (.ref b4), .val (.ref b5), .val (.long (25 : Int64)), .second, .val (.long (own_rb (p1 &&& (63 : Int32)) (p2 &&& (63 : Int32)))), .second, .val (.long (own_rb (0 : Int32) (0 : Int32))), .second, .val (.long (own_rb (p2 &&& (63 : Int32)) (p1 &&& (63 : Int32)))), .second] [(.long (own_rb (p1 &&& (63 : Int32)) (p2 &&& (63 : Int32))))])) _
    refine XS.lload X11.here hx rfl (hb hby at_93) rfl ?_
    show Steps p.tables e below (T11.setTop (mkF m 95 #[.val (.int p1), .val (.int p2), .val (.int p3), .val (.int (p1 &&& (63 : Int32))), .val (.int (p2 &&& (63 : Int32))), .val (.ref b4), .val (.ref b5), .val (.long (25 : Int64)), .second, .val (.long (own_rb (p1 &&& (63 : Int32)) (p2 &&& (63 : Int32)))), .second, .val (.long (own_rb (0 : Int32) (0 : Int32))), .second, .val (.long (own_rb (p2 &&& (63 : Int32)) (p1 &&& (63 : Int32)))), .second] [(.long (25 : Int64)), (.long (own_rb (p1 &&& (63 : Int32)) (p2 &&& (63 : Int32))))])) _
    refine XS.iloadN X11.here hx rfl (hb hby at_95) rfl ?_
    show Steps p.tables e below (T11.setTop (mkF m 96 #[.val (.int p1), .val (.int p2), .val (.int p3), .val (.int (p1 &&& (63 : Int32))), .val (.int (p2 &&& (63 : Int32))), .val (.ref b4), .val (.ref b5), .val (.long (25 : Int64)), .second, .val (.long (own_rb (p1 &&& (63 : Int32)) (p2 &&& (63 : Int32)))), .second, .val (.long (own_rb (0 : Int32) (0 : Int32))), .second, .val (.long (own_rb (p2 &&& (63 : Int32)) (p1 &&& (63 : Int32)))), .second] [(.int (p1 &&& (63 : Int32))), (.long (25 : Int64)), (.long (own_rb (p1 &&& (63 : Int32)) (p2 &&& (63 : Int32))))])) _
    refine XS.i2l X11.here hx rfl (hb hby at_96) rfl ?_
    show Steps p.tables e below (T11.setTop (mkF m 97 #[.val (.int p1), .val (.int p2), .val (.int p3), .val (.int (p1 &&& (63 : Int32))), .val (.int (p2 &&& (63 : Int32))), .val (.ref b4), .val (.ref b5), .val (.long (25 : Int64)), .second, .val (.long (own_rb (p1 &&& (63 : Int32)) (p2 &&& (63 : Int32)))), .second, .val (.long (own_rb (0 : Int32) (0 : Int32))), .second, .val (.long (own_rb (p2 &&& (63 : Int32)) (p1 &&& (63 : Int32)))), .second] [(.long ((p1 &&& (63 : Int32)).toInt64)), (.long (25 : Int64)), (.long (own_rb (p1 &&& (63 : Int32)) (p2 &&& (63 : Int32))))])) _
    refine XS.ladd X11.here hx rfl (hb hby at_97) rfl ?_
    show Steps p.tables e below (T11.setTop (mkF m 98 #[.val (.int p1), .val (.int p2), .val (.int p3), .val (.int (p1 &&& (63 : Int32))), .val (.int (p2 &&& (63 : Int32))), .val (.ref b4), .val (.ref b5), .val (.long (25 : Int64)), .second, .val (.long (own_rb (p1 &&& (63 : Int32)) (p2 &&& (63 : Int32)))), .second, .val (.long (own_rb (0 : Int32) (0 : Int32))), .second, .val (.long (own_rb (p2 &&& (63 : Int32)) (p1 &&& (63 : Int32)))), .second] [(.long ((25 : Int64) + ((p1 &&& (63 : Int32)).toInt64))), (.long (own_rb (p1 &&& (63 : Int32)) (p2 &&& (63 : Int32))))])) _
    refine XS.iload X11.here hx rfl (hb hby at_98) rfl ?_
    show Steps p.tables e below (T11.setTop (mkF m 100 #[.val (.int p1), .val (.int p2), .val (.int p3), .val (.int (p1 &&& (63 : Int32))), .val (.int (p2 &&& (63 : Int32))), .val (.ref b4), .val (.ref b5), .val (.long (25 : Int64)), .second, .val (.long (own_rb (p1 &&& (63 : Int32)) (p2 &&& (63 : Int32)))), .second, .val (.long (own_rb (0 : Int32) (0 : Int32))), .second, .val (.long (own_rb (p2 &&& (63 : Int32)) (p1 &&& (63 : Int32)))), .second] [(.int (p2 &&& (63 : Int32))), (.long ((25 : Int64) + ((p1 &&& (63 : Int32)).toInt64))), (.long (own_rb (p1 &&& (63 : Int32)) (p2 &&& (63 : Int32))))])) _
    refine XS.i2l X11.here hx rfl (hb hby at_100) rfl ?_
    show Steps p.tables e below (T11.setTop (mkF m 101 #[.val (.int p1), .val (.int p2), .val (.int p3), .val (.int (p1 &&& (63 : Int32))), .val (.int (p2 &&& (63 : Int32))), .val (.ref b4), .val (.ref b5), .val (.long (25 : Int64)), .second, .val (.long (own_rb (p1 &&& (63 : Int32)) (p2 &&& (63 : Int32)))), .second, .val (.long (own_rb (0 : Int32) (0 : Int32))), .second, .val (.long (own_rb (p2 &&& (63 : Int32)) (p1 &&& (63 : Int32)))), .second] [(.long ((p2 &&& (63 : Int32)).toInt64)), (.long ((25 : Int64) + ((p1 &&& (63 : Int32)).toInt64))), (.long (own_rb (p1 &&& (63 : Int32)) (p2 &&& (63 : Int32))))])) _
    refine XS.ladd X11.here hx rfl (hb hby at_101) rfl ?_
    show Steps p.tables e below (T11.setTop (mkF m 102 #[.val (.int p1), .val (.int p2), .val (.int p3), .val (.int (p1 &&& (63 : Int32))), .val (.int (p2 &&& (63 : Int32))), .val (.ref b4), .val (.ref b5), .val (.long (25 : Int64)), .second, .val (.long (own_rb (p1 &&& (63 : Int32)) (p2 &&& (63 : Int32)))), .second, .val (.long (own_rb (0 : Int32) (0 : Int32))), .second, .val (.long (own_rb (p2 &&& (63 : Int32)) (p1 &&& (63 : Int32)))), .second] [(.long (((25 : Int64) + ((p1 &&& (63 : Int32)).toInt64)) + ((p2 &&& (63 : Int32)).toInt64))), (.long (own_rb (p1 &&& (63 : Int32)) (p2 &&& (63 : Int32))))])) _
    refine XS.lcmp X11.here hx rfl (hb hby at_102) rfl ?_
    show Steps p.tables e below (T11.setTop (mkF m 103 #[.val (.int p1), .val (.int p2), .val (.int p3), .val (.int (p1 &&& (63 : Int32))), .val (.int (p2 &&& (63 : Int32))), .val (.ref b4), .val (.ref b5), .val (.long (25 : Int64)), .second, .val (.long (own_rb (p1 &&& (63 : Int32)) (p2 &&& (63 : Int32)))), .second, .val (.long (own_rb (0 : Int32) (0 : Int32))), .second, .val (.long (own_rb (p2 &&& (63 : Int32)) (p1 &&& (63 : Int32)))), .second] [(.int (lcmpW (own_rb (p1 &&& (63 : Int32)) (p2 &&& (63 : Int32))) (((25 : Int64) + ((p1 &&& (63 : Int32)).toInt64)) + ((p2 &&& (63 : Int32)).toInt64))))])) _
    refine XS.ifNo X11.here hx rfl (hb hby at_103) rfl ((if0 _ _).trans (teq (own_lc _ _ rfl : (lcmpW (own_rb (p1 &&& (63 : Int32)) (p2 &&& (63 : Int32))) (((25 : Int64) + ((p1 &&& (63 : Int32)).toInt64)) + ((p2 &&& (63 : Int32)).toInt64))) = (0 : Int32))).2) ?_
    show Steps p.tables e below (T11.setTop (mkF m 106 #[.val (.int p1), .val (.int p2), .val (.int p3), .val (.int (p1 &&& (63 : Int32))), .val (.int (p2 &&& (63 : Int32))), .val (.ref b4), .val (.ref b5), .val (.long (25 : Int64)), .second, .val (.long (own_rb (p1 &&& (63 : Int32)) (p2 &&& (63 : Int32)))), .second, .val (.long (own_rb (0 : Int32) (0 : Int32))), .second, .val (.long (own_rb (p2 &&& (63 : Int32)) (p1 &&& (63 : Int32)))), .second] [])) _
    refine XS.lload X11.here hx rfl (hb hby at_106) rfl ?_
    show Steps p.tables e below (T11.setTop (mkF m 108 #[.val (.int p1), .val (.int p2), .val (.int p3), .val (.int (p1 &&& (63 : Int32))), .val (.int (p2 &&& (63 : Int32))), .val (.ref b4), .val (.ref b5), .val (.long (25 : Int64)), .second, .val (.long (own_rb (p1 &&& (63 : Int32)) (p2 &&& (63 : Int32)))), .second, .val (.long (own_rb (0 : Int32) (0 : Int32))), .second, .val (.long (own_rb (p2 &&& (63 : Int32)) (p1 &&& (63 : Int32)))), .second] [(.long (own_rb (p2 &&& (63 : Int32)) (p1 &&& (63 : Int32))))])) _
    refine XS.lload X11.here hx rfl (hb hby at_108) rfl ?_
    show Steps p.tables e below (T11.setTop (mkF m 110 #[.val (.int p1), .val (.int p2), .val (.int p3), .val (.int (p1 &&& (63 : Int32))), .val (.int (p2 &&& (63 : Int32))), .val (.ref b4), .val (.ref b5), .val (.long (25 : Int64)), .second, .val (.long (own_rb (p1 &&& (63 : Int32)) (p2 &&& (63 : Int32)))), .second, .val (.long (own_rb (0 : Int32) (0 : Int32))), .second, .val (.long (own_rb (p2 &&& (63 : Int32)) (p1 &&& (63 : Int32)))), .second] [(.long (own_rb (p1 &&& (63 : Int32)) (p2 &&& (63 : Int32)))), (.long (own_rb (p2 &&& (63 : Int32)) (p1 &&& (63 : Int32))))])) _
    refine XS.lcmp X11.here hx rfl (hb hby at_110) rfl ?_
    show Steps p.tables e below (T11.setTop (mkF m 111 #[.val (.int p1), .val (.int p2), .val (.int p3), .val (.int (p1 &&& (63 : Int32))), .val (.int (p2 &&& (63 : Int32))), .val (.ref b4), .val (.ref b5), .val (.long (25 : Int64)), .second, .val (.long (own_rb (p1 &&& (63 : Int32)) (p2 &&& (63 : Int32)))), .second, .val (.long (own_rb (0 : Int32) (0 : Int32))), .second, .val (.long (own_rb (p2 &&& (63 : Int32)) (p1 &&& (63 : Int32)))), .second] [(.int (lcmpW (own_rb (p2 &&& (63 : Int32)) (p1 &&& (63 : Int32))) (own_rb (p1 &&& (63 : Int32)) (p2 &&& (63 : Int32)))))])) _
    refine XS.ifNo X11.here hx rfl (hb hby at_111) rfl ((if0 _ _).trans (teq (own_lc _ _ (own_rbc _ _) : (lcmpW (own_rb (p2 &&& (63 : Int32)) (p1 &&& (63 : Int32))) (own_rb (p1 &&& (63 : Int32)) (p2 &&& (63 : Int32)))) = (0 : Int32))).2) ?_
    show Steps p.tables e below (T11.setTop (mkF m 114 #[.val (.int p1), .val (.int p2), .val (.int p3), .val (.int (p1 &&& (63 : Int32))), .val (.int (p2 &&& (63 : Int32))), .val (.ref b4), .val (.ref b5), .val (.long (25 : Int64)), .second, .val (.long (own_rb (p1 &&& (63 : Int32)) (p2 &&& (63 : Int32)))), .second, .val (.long (own_rb (0 : Int32) (0 : Int32))), .second, .val (.long (own_rb (p2 &&& (63 : Int32)) (p1 &&& (63 : Int32)))), .second] [])) _
    refine XS.iconst X11.here hx rfl (hb hby at_114) ?_
    show Steps p.tables e below (T11.setTop (mkF m 115 #[.val (.int p1), .val (.int p2), .val (.int p3), .val (.int (p1 &&& (63 : Int32))), .val (.int (p2 &&& (63 : Int32))), .val (.ref b4), .val (.ref b5), .val (.long (25 : Int64)), .second, .val (.long (own_rb (p1 &&& (63 : Int32)) (p2 &&& (63 : Int32)))), .second, .val (.long (own_rb (0 : Int32) (0 : Int32))), .second, .val (.long (own_rb (p2 &&& (63 : Int32)) (p1 &&& (63 : Int32)))), .second] [(.int (1 : Int32))])) _
    refine XS.goto X11.here hx rfl (pc0 := 115) (pc' := 119) rfl (hb hby at_115) (by decide) (by decide) ?_
    show Steps p.tables e below (T11.setTop (mkF m 119 #[.val (.int p1), .val (.int p2), .val (.int p3), .val (.int (p1 &&& (63 : Int32))), .val (.int (p2 &&& (63 : Int32))), .val (.ref b4), .val (.ref b5), .val (.long (25 : Int64)), .second, .val (.long (own_rb (p1 &&& (63 : Int32)) (p2 &&& (63 : Int32)))), .second, .val (.long (own_rb (0 : Int32) (0 : Int32))), .second, .val (.long (own_rb (p2 &&& (63 : Int32)) (p1 &&& (63 : Int32)))), .second] [(.int (1 : Int32))])) _
    exact retN X11 hx (t := .boolean) Bd.returns (by simp) (hb hby at_119) hr
  · show Q0 Z p1 p2 p3 h0 n0 _ T11.heap _
    exact ⟨rfl, N11⟩
set_option maxRecDepth 65536 in
set_option maxHeartbeats 40000000 in
theorem rm0_fffff (l : Launch) (Z : State) (a0 : Array Value) (hw : ∀ d ∈ tables_1, d.before a0 Z = true) (ws : List Jvm.Cond) (p1 : Int32) (p2 : Int32) (p3 : Int32) (h0 : Heap) (n0 : Nat) (Z0 : n0 ≤ h0.size) (hc23 : (0 : Int32) < (p1 &&& (63 : Int32))) (hc34 : (0 : Int32) < (p2 &&& (63 : Int32))) :
    MetFree l x (head1 (Jvm.Cond.code x code maxLocals ret :: ws) room_1) (fun a U => a = #[(.int p1), (.int p2), (.int p3)] ∧ Z.Warmed39 U.vm ∧ U.heap = h0) (fun _ _ _ _ _ => True) (fun _ U o U' => ∃ v L, o = .returned v ∧ Q0 Z p1 p2 p3 h0 n0 v U'.heap L ∧ FrameEnd U o U' L room_1.cells room_1.slots) := by
  refine MetFree.of_bodySF (plainFor_of_name pn_0) hisR ?_
  intro p e s m args below meth c s₁ Bd hml0 hP hK
  obtain ⟨rfl, hZ, hh⟩ := hP
  have hx := Bd.exec
  have hby := Bd.bytes
  have hml : c.maxLocals = 15 := hml0
  have hown : s.vm.findClass "com/example/onceword/onceword/memory/ByteMapRecordBytesPinLaw" = some m.cls := findClass_of_methodNamed Bd.named
  have hnm := (name_of_methodNamed Bd.named Bd.method).1
  have X0 : Stand p l e room_1 s m #[(.int p1), (.int p2), (.int p3)] below meth c s₁ [] 0 0 := Stand.of_body Bd
  have e0 : s₁.heap = h0 := by rw [← hh, Bd.state]; rfl
  have N0 := Fr.nil n0
  have pre0 : ∀ t, Steps p.tables e below (s₁.setTop (mkF m 0 #[.val (.int p1), .val (.int p2), .val (.int p3), .unset, .unset, .unset, .unset, .unset, .unset, .unset, .unset, .unset, .unset, .unset, .unset] [])) t → Steps p.tables e below (s₁.setTop (entryFrame m #[(.int p1), (.int p2), (.int p3)] maxLocals)) t := fun t k => castTop (ef_0 m p1 p2 p3) k
  obtain ⟨T4, h4, k4, X4, e4, E4, A4, st4⟩ := newP X0 hx hZ (hw _ (List.mem_of_getElem? (i := 0) rfl)) e0 (g := (mkF m 12 #[.val (.int p1), .val (.int p2), .val (.int p3), .val (.int (p1 &&& (63 : Int32))), .val (.int (p2 &&& (63 : Int32))), .unset, .unset, .unset, .unset, .unset, .unset, .unset, .unset, .unset, .unset] [(.int (p1 &&& (63 : Int32)))])) rfl (hb hby at_12) rfl (own_63 p1).1 (cap := 63) (own_63 p1).2 (by decide) (by decide) (by decide)
  obtain ⟨b4, g4⟩ : ∃ z, z = h0.size := ⟨_, rfl⟩
  rw [← g4] at A4 st4
  have V_b4 : own_al Z h4 b4 (p1 &&& (63 : Int32)) := own_al_new A4 (own_63 p1).1
  have g_b4 : n0 ≤ b4 := Nat.le_trans Z0 (Nat.le_of_eq g4.symm)
  have sz_b4 : h0.size ≤ b4 := (Nat.le_trans (Keep.refl h0 []).1 (Nat.le_of_eq g4.symm))
  have K4 : Keep h0 h4 [] := (Keep.refl h0 []).ext E4
  obtain ⟨T5, h5, k5, X5, e5, E5, A5, st5⟩ := newP X4 hx hZ (hw _ (List.mem_of_getElem? (i := 0) rfl)) e4 (g := (mkF m 18 #[.val (.int p1), .val (.int p2), .val (.int p3), .val (.int (p1 &&& (63 : Int32))), .val (.int (p2 &&& (63 : Int32))), .val (.ref b4), .unset, .unset, .unset, .unset, .unset, .unset, .unset, .unset, .unset] [(.int (p2 &&& (63 : Int32)))])) rfl (hb hby at_18) rfl (own_63 p2).1 (cap := 63) (own_63 p2).2 (by decide) (by decide) (by decide)
  obtain ⟨b5, g5⟩ : ∃ z, z = h4.size := ⟨_, rfl⟩
  rw [← g5] at A5 st5
  have V_b5 : own_al Z h5 b5 (p2 &&& (63 : Int32)) := own_al_new A5 (own_63 p2).1
  have ne45 : b4 ≠ b5 := Nat.ne_of_lt (Nat.lt_of_lt_of_eq (own_al_lt V_b4) g5.symm)
  have U4_5 : own_al Z h5 b4 (p1 &&& (63 : Int32)) := own_al_ext V_b4 E5
  have g_b5 : n0 ≤ b5 := Nat.le_trans (Nat.le_trans Z0 E4.1) (Nat.le_of_eq g5.symm)
  have sz_b5 : h0.size ≤ b5 := (Nat.le_trans K4.1 (Nat.le_of_eq g5.symm))
  have K5 : Keep h0 h5 [] := K4.ext E5
  obtain ⟨cl_b4_31, Ar_b4, S_b4, N_b4⟩ := (id U4_5)
  have hin31 : ¬ ((0 : Int32) < 0 ∨ cl_b4_31.slots.size ≤ ((0 : Int32)).toNatClampNeg) := inb_of S_b4 ⟨by decide, hc23⟩
  obtain ⟨T6, h6, X6, e6, W6, st6⟩ := stB X5 hx hZ e5 Ar_b4 (j := (0 : Int32)) hin31 (g := (mkF m 31 #[.val (.int p1), .val (.int p2), .val (.int p3), .val (.int (p1 &&& (63 : Int32))), .val (.int (p2 &&& (63 : Int32))), .val (.ref b4), .val (.ref b5), .unset, .unset, .unset, .unset, .unset, .unset, .unset, .unset] [(.int (p3.toInt8.toInt32)), (.int (0 : Int32)), (.ref b4)])) rfl rfl (hb hby at_31)
  have K6 : Keep h0 h6 [] := K5.wr W6 (Or.inr sz_b4)
  have N6 := Fr.snoc X6 N0 g_b4
  obtain ⟨cl_b5_48, Ar_b5, S_b5, N_b5⟩ := (own_al_other V_b5 W6 (Ne.symm ne45))
  have hin48 : ¬ (((p2 &&& (63 : Int32)) - (1 : Int32)) < 0 ∨ cl_b5_48.slots.size ≤ (((p2 &&& (63 : Int32)) - (1 : Int32))).toNatClampNeg) := inb_of S_b5 (own_m1 p2 hc34)
  obtain ⟨T7, h7, X7, e7, W7, st7⟩ := stB X6 hx hZ e6 Ar_b5 (j := ((p2 &&& (63 : Int32)) - (1 : Int32))) hin48 (g := (mkF m 48 #[.val (.int p1), .val (.int p2), .val (.int p3), .val (.int (p1 &&& (63 : Int32))), .val (.int (p2 &&& (63 : Int32))), .val (.ref b4), .val (.ref b5), .unset, .unset, .unset, .unset, .unset, .unset, .unset, .unset] [(.int (((p3.toUInt32 >>> ((8 : Int32) &&& 31).toUInt32).toInt32).toInt8.toInt32)), (.int ((p2 &&& (63 : Int32)) - (1 : Int32))), (.ref b5)])) rfl rfl (hb hby at_48)
  have K7 : Keep h0 h7 [] := K6.wr W7 (Or.inr sz_b5)
  have N7 := Fr.snoc X7 N6 g_b5
  have U4 : own_al Z h7 b4 (p1 &&& (63 : Int32)) := own_al_other (own_al_same U4_5 W6) W7 ne45
  have U5 : own_al Z h7 b5 (p2 &&& (63 : Int32)) := own_al_same (own_al_other V_b5 W6 (Ne.symm ne45)) W7
  have ZA : n0 ≤ h7.size := Nat.le_trans Z0 K7.1
  obtain ⟨c4, Q4a, Q4s, Q4n⟩ := id U4
  obtain ⟨c5, Q5a, Q5s, Q5n⟩ := id U5
  obtain ⟨_, _, ⟨T8, L8, k8, n8⟩, -, X8, ⟨Lc8, hQ8, l8, y8, z8⟩, st8⟩ := Jvm.LawKit.callS X7 hx (y := (⟨"com/example/onceword/onceword/memory/ByteMap", "recordBytes", "([B[B)J"⟩ : MethodName)) hown (mvT hZ (hw _ (List.mem_of_getElem? (i := 2) rfl))) (mvT hZ (hw _ (List.mem_of_getElem? (i := 3) rfl))) (mvT hZ (hw _ (List.mem_of_getElem? (i := 4) rfl))) (mvT hZ (hw _ (List.mem_of_getElem? (i := 5) rfl))) (by decide) (backOf (W := 0) (rm1 l Z a0 hw [] b4 b5 c4 (p1 &&& (63 : Int32)) c5 (p2 &&& (63 : Int32)) h7 n0 ZA Q4a Q4s Q4n Q5a Q5s Q5n) hZ (hw _ (List.mem_of_getElem? (i := 5) rfl)) (hw _ (List.mem_of_getElem? (i := 4) rfl)) (by decide) (by decide)) (g := (mkF m 58 #[.val (.int p1), .val (.int p2), .val (.int p3), .val (.int (p1 &&& (63 : Int32))), .val (.int (p2 &&& (63 : Int32))), .val (.ref b4), .val (.ref b5), .val (.long (25 : Int64)), .second, .unset, .unset, .unset, .unset, .unset, .unset] [(.ref b5), (.ref b4)])) rfl (by rw [hml]; rfl) (argsL := [(.ref b4), (.ref b5)]) (rest := []) (lenOf pd_0_0 rfl) rfl (by show 2 * 0 + _ ≤ _; exact Nat.le_of_eq rfl) (hb hby at_58) (fun _ _ => ⟨rfl, e7, (by decide : 2 + 0 ≤ _), (by decide : 126 + 0 ≤ _)⟩)
  dsimp only [Pt.U, Pt.locs, Pt.cells, Pt.slots] at X8 l8 y8 z8 st8 hQ8
  subst l8 y8 z8
  obtain ⟨rfl, N8q, e8q⟩ := hQ8
  have e8p : T8.heap = h7 := e8q
  have N8 := Fr.app N7 N8q
  obtain ⟨T9, h9, k9, X9, e9, E9, A9, st9⟩ := newP X8 hx hZ (hw _ (List.mem_of_getElem? (i := 0) rfl)) rfl (g := (mkF m 64 #[.val (.int p1), .val (.int p2), .val (.int p3), .val (.int (p1 &&& (63 : Int32))), .val (.int (p2 &&& (63 : Int32))), .val (.ref b4), .val (.ref b5), .val (.long (25 : Int64)), .second, .val (.long (own_rb (p1 &&& (63 : Int32)) (p2 &&& (63 : Int32)))), .second, .unset, .unset, .unset, .unset] [(.int (0 : Int32))])) rfl (hb hby at_64) rfl (by decide) (cap := 0) (by decide) (by decide) (by decide) (by decide)
  obtain ⟨b9, g9⟩ : ∃ z, z = T8.heap.size := ⟨_, rfl⟩
  rw [← g9] at A9 st9
  have V_b9 : own_al Z h9 b9 (0 : Int32) := own_al_new A9 (by decide)
  obtain ⟨T10, h10, k10, X10, e10, E10, A10, st10⟩ := newP X9 hx hZ (hw _ (List.mem_of_getElem? (i := 0) rfl)) e9 (g := (mkF m 67 #[.val (.int p1), .val (.int p2), .val (.int p3), .val (.int (p1 &&& (63 : Int32))), .val (.int (p2 &&& (63 : Int32))), .val (.ref b4), .val (.ref b5), .val (.long (25 : Int64)), .second, .val (.long (own_rb (p1 &&& (63 : Int32)) (p2 &&& (63 : Int32)))), .second, .unset, .unset, .unset, .unset] [(.int (0 : Int32)), (.ref b9)])) rfl (hb hby at_67) rfl (by decide) (cap := 0) (by decide) (by decide) (by decide) (by decide)
  obtain ⟨b10, g10⟩ : ∃ z, z = h9.size := ⟨_, rfl⟩
  rw [← g10] at A10 st10
  have V_b10 : own_al Z h10 b10 (0 : Int32) := own_al_new A10 (by decide)
  obtain ⟨c9, Q9a, Q9s, Q9n⟩ := own_al_ext V_b9 E10
  obtain ⟨c10, Q10a, Q10s, Q10n⟩ := id V_b10
  have ZB : n0 ≤ h10.size := Nat.le_trans (Nat.le_trans ZA (Nat.le_of_eq (congrArg Array.size e8p.symm))) (Nat.le_trans E9.1 E10.1)
  have U4b : own_al Z h10 b4 (p1 &&& (63 : Int32)) := own_al_ext (own_al_ext (show own_al Z T8.heap b4 (p1 &&& (63 : Int32)) by rw [e8p]; exact U4) E9) E10
  have U5b : own_al Z h10 b5 (p2 &&& (63 : Int32)) := own_al_ext (own_al_ext (show own_al Z T8.heap b5 (p2 &&& (63 : Int32)) by rw [e8p]; exact U5) E9) E10
  obtain ⟨_, _, ⟨T11, L11, k11, n11⟩, -, X11, ⟨Lc11, hQ11, l11, y11, z11⟩, st11⟩ := Jvm.LawKit.callS X10 hx (y := (⟨"com/example/onceword/onceword/memory/ByteMap", "recordBytes", "([B[B)J"⟩ : MethodName)) hown (mvT hZ (hw _ (List.mem_of_getElem? (i := 2) rfl))) (mvT hZ (hw _ (List.mem_of_getElem? (i := 3) rfl))) (mvT hZ (hw _ (List.mem_of_getElem? (i := 4) rfl))) (mvT hZ (hw _ (List.mem_of_getElem? (i := 5) rfl))) (by decide) (backOf (W := 0) (rm1 l Z a0 hw [] b9 b10 c9 (0 : Int32) c10 (0 : Int32) h10 n0 ZB Q9a Q9s Q9n Q10a Q10s Q10n) hZ (hw _ (List.mem_of_getElem? (i := 5) rfl)) (hw _ (List.mem_of_getElem? (i := 4) rfl)) (by decide) (by decide)) (g := (mkF m 69 #[.val (.int p1), .val (.int p2), .val (.int p3), .val (.int (p1 &&& (63 : Int32))), .val (.int (p2 &&& (63 : Int32))), .val (.ref b4), .val (.ref b5), .val (.long (25 : Int64)), .second, .val (.long (own_rb (p1 &&& (63 : Int32)) (p2 &&& (63 : Int32)))), .second, .unset, .unset, .unset, .unset] [(.ref b10), (.ref b9)])) rfl (by rw [hml]; rfl) (argsL := [(.ref b9), (.ref b10)]) (rest := []) (lenOf pd_0_0 rfl) rfl (by show 2 * 0 + _ ≤ _; exact Nat.le_of_eq rfl) (hb hby at_69) (fun _ _ => ⟨rfl, e10, (by decide : 4 + 0 ≤ _), (by decide : 126 + 0 ≤ _)⟩)
  dsimp only [Pt.U, Pt.locs, Pt.cells, Pt.slots] at X11 l11 y11 z11 st11 hQ11
  subst l11 y11 z11
  obtain ⟨rfl, N11q, e11q⟩ := hQ11
  have e11p : T11.heap = h10 := e11q
  obtain ⟨d4, R4a, R4s, R4n⟩ := (show own_al Z T11.heap b4 (p1 &&& (63 : Int32)) by rw [e11p]; exact U4b)
  obtain ⟨d5, R5a, R5s, R5n⟩ := (show own_al Z T11.heap b5 (p2 &&& (63 : Int32)) by rw [e11p]; exact U5b)
  have N11 := Fr.app N8 N11q
  obtain ⟨_, _, ⟨T12, L12, k12, n12⟩, -, X12, ⟨Lc12, hQ12, l12, y12, z12⟩, st12⟩ := Jvm.LawKit.callS X11 hx (y := (⟨"com/example/onceword/onceword/memory/ByteMap", "recordBytes", "([B[B)J"⟩ : MethodName)) hown (mvT hZ (hw _ (List.mem_of_getElem? (i := 2) rfl))) (mvT hZ (hw _ (List.mem_of_getElem? (i := 3) rfl))) (mvT hZ (hw _ (List.mem_of_getElem? (i := 4) rfl))) (mvT hZ (hw _ (List.mem_of_getElem? (i := 5) rfl))) (by decide) (backOf (W := 0) (rm1 l Z a0 hw [] b5 b4 d5 (p2 &&& (63 : Int32)) d4 (p1 &&& (63 : Int32)) T11.heap n0 (by rw [e11p]; exact ZB) R5a R5s R5n R4a R4s R4n) hZ (hw _ (List.mem_of_getElem? (i := 5) rfl)) (hw _ (List.mem_of_getElem? (i := 4) rfl)) (by decide) (by decide)) (g := (mkF m 78 #[.val (.int p1), .val (.int p2), .val (.int p3), .val (.int (p1 &&& (63 : Int32))), .val (.int (p2 &&& (63 : Int32))), .val (.ref b4), .val (.ref b5), .val (.long (25 : Int64)), .second, .val (.long (own_rb (p1 &&& (63 : Int32)) (p2 &&& (63 : Int32)))), .second, .val (.long (own_rb (0 : Int32) (0 : Int32))), .second, .unset, .unset] [(.ref b4), (.ref b5)])) rfl (by rw [hml]; rfl) (argsL := [(.ref b5), (.ref b4)]) (rest := []) (lenOf pd_0_0 rfl) rfl (by show 2 * 0 + _ ≤ _; exact Nat.le_of_eq rfl) (hb hby at_78) (fun _ _ => ⟨rfl, rfl, (by decide : 4 + 0 ≤ _), (by decide : 126 + 0 ≤ _)⟩)
  dsimp only [Pt.U, Pt.locs, Pt.cells, Pt.slots] at X12 l12 y12 z12 st12 hQ12
  subst l12 y12 z12
  obtain ⟨rfl, N12q, e12q⟩ := hQ12
  have N12 := Fr.app N11 N12q
  obtain ⟨fs, hr, hrun, hended, hW, hsame⟩ := X12.leave (v := some (.int (1 : Int32))) (fun h => by rw [Bd.returns] at h; cases h)
  refine ⟨_, _, pre0 _ ?_, hrun, hended, _, _, rfl, ?_, ⟨_, rfl⟩, hW, hsame.mono (by decide) (by decide)⟩
  · show Steps p.tables e below (s₁.setTop (mkF m 0 #[.val (.int p1), .val (.int p2), .val (.int p3), .unset, .unset, .unset, .unset, .unset, .unset, .unset, .unset, .unset, .unset, .unset, .unset] [])) _
    refine XS.iloadN X0.here hx rfl (hb hby at_0) rfl ?_
    show Steps p.tables e below (s₁.setTop (mkF m 1 #[.val (.int p1), .val (.int p2), .val (.int p3), .unset, .unset, .unset, .unset, .unset, .unset, .unset, .unset, .unset, .unset, .unset, .unset] [(.int p1)])) _
    refine XS.bipush X0.here hx rfl (hb hby at_1) ?_
    show Steps p.tables e below (s₁.setTop (mkF m 3 #[.val (.int p1), .val (.int p2), .val (.int p3), .unset, .unset, .unset, .unset, .unset, .unset, .unset, .unset, .unset, .unset, .unset, .unset] [(.int (63 : Int32)), (.int p1)])) _
    refine XS.iand X0.here hx rfl (hb hby at_3) rfl ?_
    show Steps p.tables e below (s₁.setTop (mkF m 4 #[.val (.int p1), .val (.int p2), .val (.int p3), .unset, .unset, .unset, .unset, .unset, .unset, .unset, .unset, .unset, .unset, .unset, .unset] [(.int (p1 &&& (63 : Int32)))])) _
    refine XS.istoreN X0.here hx rfl (hb hby at_4) rfl (l' := #[.val (.int p1), .val (.int p2), .val (.int p3), .val (.int (p1 &&& (63 : Int32))), .unset, .unset, .unset, .unset, .unset, .unset, .unset, .unset, .unset, .unset, .unset]) rfl ?_
    show Steps p.tables e below (s₁.setTop (mkF m 5 #[.val (.int p1), .val (.int p2), .val (.int p3), .val (.int (p1 &&& (63 : Int32))), .unset, .unset, .unset, .unset, .unset, .unset, .unset, .unset, .unset, .unset, .unset] [])) _
    refine XS.iloadN X0.here hx rfl (hb hby at_5) rfl ?_
    show Steps p.tables e below (s₁.setTop (mkF m 6 #[.val (.int p1), .val (.int p2), .val (.int p3), .val (.int (p1 &&& (63 : Int32))), .unset, .unset, .unset, .unset, .unset, .unset, .unset, .unset, .unset, .unset, .unset] [(.int p2)])) _
    refine XS.bipush X0.here hx rfl (hb hby at_6) ?_
    show Steps p.tables e below (s₁.setTop (mkF m 8 #[.val (.int p1), .val (.int p2), .val (.int p3), .val (.int (p1 &&& (63 : Int32))), .unset, .unset, .unset, .unset, .unset, .unset, .unset, .unset, .unset, .unset, .unset] [(.int (63 : Int32)), (.int p2)])) _
    refine XS.iand X0.here hx rfl (hb hby at_8) rfl ?_
    show Steps p.tables e below (s₁.setTop (mkF m 9 #[.val (.int p1), .val (.int p2), .val (.int p3), .val (.int (p1 &&& (63 : Int32))), .unset, .unset, .unset, .unset, .unset, .unset, .unset, .unset, .unset, .unset, .unset] [(.int (p2 &&& (63 : Int32)))])) _
    refine XS.istore X0.here hx rfl (hb hby at_9) rfl (l' := #[.val (.int p1), .val (.int p2), .val (.int p3), .val (.int (p1 &&& (63 : Int32))), .val (.int (p2 &&& (63 : Int32))), .unset, .unset, .unset, .unset, .unset, .unset, .unset, .unset, .unset, .unset]) rfl ?_
    show Steps p.tables e below (s₁.setTop (mkF m 11 #[.val (.int p1), .val (.int p2), .val (.int p3), .val (.int (p1 &&& (63 : Int32))), .val (.int (p2 &&& (63 : Int32))), .unset, .unset, .unset, .unset, .unset, .unset, .unset, .unset, .unset, .unset] [])) _
    refine XS.iloadN X0.here hx rfl (hb hby at_11) rfl ?_
    show Steps p.tables e below (s₁.setTop (mkF m 12 #[.val (.int p1), .val (.int p2), .val (.int p3), .val (.int (p1 &&& (63 : Int32))), .val (.int (p2 &&& (63 : Int32))), .unset, .unset, .unset, .unset, .unset, .unset, .unset, .unset, .unset, .unset] [(.int (p1 &&& (63 : Int32)))])) _
    refine st4 _ ?_
    show Steps p.tables e below (T4.setTop (mkF m 14 #[.val (.int p1), .val (.int p2), .val (.int p3), .val (.int (p1 &&& (63 : Int32))), .val (.int (p2 &&& (63 : Int32))), .unset, .unset, .unset, .unset, .unset, .unset, .unset, .unset, .unset, .unset] [(.ref b4)])) _
    refine XS.astore X4.here hx rfl (hb hby at_14) rfl rfl (l' := #[.val (.int p1), .val (.int p2), .val (.int p3), .val (.int (p1 &&& (63 : Int32))), .val (.int (p2 &&& (63 : Int32))), .val (.ref b4), .unset, .unset, .unset, .unset, .unset, .unset, .unset, .unset, .unset]) rfl ?_
    show Steps p.tables e below (T4.setTop (mkF m 16 #[.val (.int p1), .val (.int p2), .val (.int p3), .val (.int (p1 &&& (63 : Int32))), .val (.int (p2 &&& (63 : Int32))), .val (.ref b4), .unset, .unset, .unset, .unset, .unset, .unset, .unset, .unset, .unset] [])) _
    refine XS.iload X4.here hx rfl (hb hby at_16) rfl ?_
    show Steps p.tables e below (T4.setTop (mkF m 18 #[.val (.int p1), .val (.int p2), .val (.int p3), .val (.int (p1 &&& (63 : Int32))), .val (.int (p2 &&& (63 : Int32))), .val (.ref b4), .unset, .unset, .unset, .unset, .unset, .unset, .unset, .unset, .unset] [(.int (p2 &&& (63 : Int32)))])) _
    refine st5 _ ?_
    show Steps p.tables e below (T5.setTop (mkF m 20 #[.val (.int p1), .val (.int p2), .val (.int p3), .val (.int (p1 &&& (63 : Int32))), .val (.int (p2 &&& (63 : Int32))), .val (.ref b4), .unset, .unset, .unset, .unset, .unset, .unset, .unset, .unset, .unset] [(.ref b5)])) _
    refine XS.astore X5.here hx rfl (hb hby at_20) rfl rfl (l' := #[.val (.int p1), .val (.int p2), .val (.int p3), .val (.int (p1 &&& (63 : Int32))), .val (.int (p2 &&& (63 : Int32))), .val (.ref b4), .val (.ref b5), .unset, .unset, .unset, .unset, .unset, .unset, .unset, .unset]) rfl ?_
    show Steps p.tables e below (T5.setTop (mkF m 22 #[.val (.int p1), .val (.int p2), .val (.int p3), .val (.int (p1 &&& (63 : Int32))), .val (.int (p2 &&& (63 : Int32))), .val (.ref b4), .val (.ref b5), .unset, .unset, .unset, .unset, .unset, .unset, .unset, .unset] [])) _
    refine XS.iloadN X5.here hx rfl (hb hby at_22) rfl ?_
    show Steps p.tables e below (T5.setTop (mkF m 23 #[.val (.int p1), .val (.int p2), .val (.int p3), .val (.int (p1 &&& (63 : Int32))), .val (.int (p2 &&& (63 : Int32))), .val (.ref b4), .val (.ref b5), .unset, .unset, .unset, .unset, .unset, .unset, .unset, .unset] [(.int (p1 &&& (63 : Int32)))])) _
    refine XS.ifNo X5.here hx rfl (hb hby at_23) rfl ((if0 _ _).trans (tlt hc23).2.2.2) ?_
    show Steps p.tables e below (T5.setTop (mkF m 26 #[.val (.int p1), .val (.int p2), .val (.int p3), .val (.int (p1 &&& (63 : Int32))), .val (.int (p2 &&& (63 : Int32))), .val (.ref b4), .val (.ref b5), .unset, .unset, .unset, .unset, .unset, .unset, .unset, .unset] [])) _
    refine XS.aload X5.here hx rfl (hb hby at_26) rfl rfl ?_
    show Steps p.tables e below (T5.setTop (mkF m 28 #[.val (.int p1), .val (.int p2), .val (.int p3), .val (.int (p1 &&& (63 : Int32))), .val (.int (p2 &&& (63 : Int32))), .val (.ref b4), .val (.ref b5), .unset, .unset, .unset, .unset, .unset, .unset, .unset, .unset] [(.ref b4)])) _
    refine XS.iconst X5.here hx rfl (hb hby at_28) ?_
    show Steps p.tables e below (T5.setTop (mkF m 29 #[.val (.int p1), .val (.int p2), .val (.int p3), .val (.int (p1 &&& (63 : Int32))), .val (.int (p2 &&& (63 : Int32))), .val (.ref b4), .val (.ref b5), .unset, .unset, .unset, .unset, .unset, .unset, .unset, .unset] [(.int (0 : Int32)), (.ref b4)])) _
    refine XS.iloadN X5.here hx rfl (hb hby at_29) rfl ?_
    show Steps p.tables e below (T5.setTop (mkF m 30 #[.val (.int p1), .val (.int p2), .val (.int p3), .val (.int (p1 &&& (63 : Int32))), .val (.int (p2 &&& (63 : Int32))), .val (.ref b4), .val (.ref b5), .unset, .unset, .unset, .unset, .unset, .unset, .unset, .unset] [(.int p3), (.int (0 : Int32)), (.ref b4)])) _
    refine XS.i2b X5.here hx rfl (hb hby at_30) rfl ?_
    show Steps p.tables e below (T5.setTop (mkF m 31 #[.val (.int p1), .val (.int p2), .val (.int p3), .val (.int (p1 &&& (63 : Int32))), .val (.int (p2 &&& (63 : Int32))), .val (.ref b4), .val (.ref b5), .unset, .unset, .unset, .unset, .unset, .unset, .unset, .unset] [(.int (p3.toInt8.toInt32)), (.int (0 : Int32)), (.ref b4)])) _
    refine st6 _ ?_
    show Steps p.tables e below (T6.setTop (mkF m 32 #[.val (.int p1), .val (.int p2), .val (.int p3), .val (.int (p1 &&& (63 : Int32))), .val (.int (p2 &&& (63 : Int32))), .val (.ref b4), .val (.ref b5), .unset, .unset, .unset, .unset, .unset, .unset, .unset, .unset] [])) _
    refine XS.iload X6.here hx rfl (hb hby at_32) rfl ?_
    show Steps p.tables e below (T6.setTop (mkF m 34 #[.val (.int p1), .val (.int p2), .val (.int p3), .val (.int (p1 &&& (63 : Int32))), .val (.int (p2 &&& (63 : Int32))), .val (.ref b4), .val (.ref b5), .unset, .unset, .unset, .unset, .unset, .unset, .unset, .unset] [(.int (p2 &&& (63 : Int32)))])) _
    refine XS.ifNo X6.here hx rfl (hb hby at_34) rfl ((if0 _ _).trans (tlt hc34).2.2.2) ?_
    show Steps p.tables e below (T6.setTop (mkF m 37 #[.val (.int p1), .val (.int p2), .val (.int p3), .val (.int (p1 &&& (63 : Int32))), .val (.int (p2 &&& (63 : Int32))), .val (.ref b4), .val (.ref b5), .unset, .unset, .unset, .unset, .unset, .unset, .unset, .unset] [])) _
    refine XS.aload X6.here hx rfl (hb hby at_37) rfl rfl ?_
    show Steps p.tables e below (T6.setTop (mkF m 39 #[.val (.int p1), .val (.int p2), .val (.int p3), .val (.int (p1 &&& (63 : Int32))), .val (.int (p2 &&& (63 : Int32))), .val (.ref b4), .val (.ref b5), .unset, .unset, .unset, .unset, .unset, .unset, .unset, .unset] [(.ref b5)])) _
    refine XS.iload X6.here hx rfl (hb hby at_39) rfl ?_
    show Steps p.tables e below (T6.setTop (mkF m 41 #[.val (.int p1), .val (.int p2), .val (.int p3), .val (.int (p1 &&& (63 : Int32))), .val (.int (p2 &&& (63 : Int32))), .val (.ref b4), .val (.ref b5), .unset, .unset, .unset, .unset, .unset, .unset, .unset, .unset] [(.int (p2 &&& (63 : Int32))), (.ref b5)])) _
    refine XS.iconst X6.here hx rfl (hb hby at_41) ?_
    show Steps p.tables e below (T6.setTop (mkF m 42 #[.val (.int p1), .val (.int p2), .val (.int p3), .val (.int (p1 &&& (63 : Int32))), .val (.int (p2 &&& (63 : Int32))), .val (.ref b4), .val (.ref b5), .unset, .unset, .unset, .unset, .unset, .unset, .unset, .unset] [(.int (1 : Int32)), (.int (p2 &&& (63 : Int32))), (.ref b5)])) _
    refine XS.isub X6.here hx rfl (hb hby at_42) rfl ?_
    show Steps p.tables e below (T6.setTop (mkF m 43 #[.val (.int p1), .val (.int p2), .val (.int p3), .val (.int (p1 &&& (63 : Int32))), .val (.int (p2 &&& (63 : Int32))), .val (.ref b4), .val (.ref b5), .unset, .unset, .unset, .unset, .unset, .unset, .unset, .unset] [(.int ((p2 &&& (63 : Int32)) - (1 : Int32))), (.ref b5)])) _
    refine XS.iloadN X6.here hx rfl (hb hby at_43) rfl ?_
    show Steps p.tables e below (T6.setTop (mkF m 44 #[.val (.int p1), .val (.int p2), .val (.int p3), .val (.int (p1 &&& (63 : Int32))), .val (.int (p2 &&& (63 : Int32))), .val (.ref b4), .val (.ref b5), .unset, .unset, .unset, .unset, .unset, .unset, .unset, .unset] [(.int p3), (.int ((p2 &&& (63 : Int32)) - (1 : Int32))), (.ref b5)])) _
    refine XS.bipush X6.here hx rfl (hb hby at_44) ?_
    show Steps p.tables e below (T6.setTop (mkF m 46 #[.val (.int p1), .val (.int p2), .val (.int p3), .val (.int (p1 &&& (63 : Int32))), .val (.int (p2 &&& (63 : Int32))), .val (.ref b4), .val (.ref b5), .unset, .unset, .unset, .unset, .unset, .unset, .unset, .unset] [(.int (8 : Int32)), (.int p3), (.int ((p2 &&& (63 : Int32)) - (1 : Int32))), (.ref b5)])) _
    refine XS.iushr X6.here hx rfl (hb hby at_46) rfl ?_
    show Steps p.tables e below (T6.setTop (mkF m 47 #[.val (.int p1), .val (.int p2), .val (.int p3), .val (.int (p1 &&& (63 : Int32))), .val (.int (p2 &&& (63 : Int32))), .val (.ref b4), .val (.ref b5), .unset, .unset, .unset, .unset, .unset, .unset, .unset, .unset] [(.int ((p3.toUInt32 >>> ((8 : Int32) &&& 31).toUInt32).toInt32)), (.int ((p2 &&& (63 : Int32)) - (1 : Int32))), (.ref b5)])) _
    refine XS.i2b X6.here hx rfl (hb hby at_47) rfl ?_
    show Steps p.tables e below (T6.setTop (mkF m 48 #[.val (.int p1), .val (.int p2), .val (.int p3), .val (.int (p1 &&& (63 : Int32))), .val (.int (p2 &&& (63 : Int32))), .val (.ref b4), .val (.ref b5), .unset, .unset, .unset, .unset, .unset, .unset, .unset, .unset] [(.int (((p3.toUInt32 >>> ((8 : Int32) &&& 31).toUInt32).toInt32).toInt8.toInt32)), (.int ((p2 &&& (63 : Int32)) - (1 : Int32))), (.ref b5)])) _
    refine st7 _ ?_
    show Steps p.tables e below (T7.setTop (mkF m 49 #[.val (.int p1), .val (.int p2), .val (.int p3), .val (.int (p1 &&& (63 : Int32))), .val (.int (p2 &&& (63 : Int32))), .val (.ref b4), .val (.ref b5), .unset, .unset, .unset, .unset, .unset, .unset, .unset, .unset] [])) _
    refine X7.ldc2Long hx hown (mvT hZ (hw _ (List.mem_of_getElem? (i := 1) rfl))) (g := (mkF m 49 #[.val (.int p1), .val (.int p2), .val (.int p3), .val (.int (p1 &&& (63 : Int32))), .val (.int (p2 &&& (63 : Int32))), .val (.ref b4), .val (.ref b5), .unset, .unset, .unset, .unset, .unset, .unset, .unset, .unset] [])) rfl (hb hby at_49) _ ?_
    show Steps p.tables e below (T7.setTop (mkF m 52 #[.val (.int p1), .val (.int p2), .val (.int p3), .val (.int (p1 &&& (63 : Int32))), .val (.int (p2 &&& (63 : Int32))), .val (.ref b4), .val (.ref b5), .unset, .unset, .unset, .unset, .unset, .unset, .unset, .unset] [(.long (25 : Int64))])) _
    refine XS.lstore X7.here hx rfl (hb hby at_52) rfl (l' := #[.val (.int p1), .val (.int p2), .val (.int p3), .val (.int (p1 &&& (63 : Int32))), .val (.int (p2 &&& (63 : Int32))), .val (.ref b4), .val (.ref b5), .val (.long (25 : Int64)), .second, .unset, .unset, .unset, .unset, .unset, .unset]) rfl ?_
    show Steps p.tables e below (T7.setTop (mkF m 54 #[.val (.int p1), .val (.int p2), .val (.int p3), .val (.int (p1 &&& (63 : Int32))), .val (.int (p2 &&& (63 : Int32))), .val (.ref b4), .val (.ref b5), .val (.long (25 : Int64)), .second, .unset, .unset, .unset, .unset, .unset, .unset] [])) _
    refine XS.aload X7.here hx rfl (hb hby at_54) rfl rfl ?_
    show Steps p.tables e below (T7.setTop (mkF m 56 #[.val (.int p1), .val (.int p2), .val (.int p3), .val (.int (p1 &&& (63 : Int32))), .val (.int (p2 &&& (63 : Int32))), .val (.ref b4), .val (.ref b5), .val (.long (25 : Int64)), .second, .unset, .unset, .unset, .unset, .unset, .unset] [(.ref b4)])) _
    refine XS.aload X7.here hx rfl (hb hby at_56) rfl rfl ?_
    show Steps p.tables e below (T7.setTop (mkF m 58 #[.val (.int p1), .val (.int p2), .val (.int p3), .val (.int (p1 &&& (63 : Int32))), .val (.int (p2 &&& (63 : Int32))), .val (.ref b4), .val (.ref b5), .val (.long (25 : Int64)), .second, .unset, .unset, .unset, .unset, .unset, .unset] [(.ref b5), (.ref b4)])) _
    refine st8 _ ?_
    show Steps p.tables e below (T8.setTop (mkF m 61 #[.val (.int p1), .val (.int p2), .val (.int p3), .val (.int (p1 &&& (63 : Int32))), .val (.int (p2 &&& (63 : Int32))), .val (.ref b4), .val (.ref b5), .val (.long (25 : Int64)), .second, .unset, .unset, .unset, .unset, .unset, .unset] [(.long (own_rb (p1 &&& (63 : Int32)) (p2 &&& (63 : Int32))))])) _
    refine XS.lstore X8.here hx rfl (hb hby at_61) rfl (l' := #[.val (.int p1), .val (.int p2), .val (.int p3), .val (.int (p1 &&& (63 : Int32))), .val (.int (p2 &&& (63 : Int32))), .val (.ref b4), .val (.ref b5), .val (.long (25 : Int64)), .second, .val (.long (own_rb (p1 &&& (63 : Int32)) (p2 &&& (63 : Int32)))), .second, .unset, .unset, .unset, .unset]) rfl ?_
    show Steps p.tables e below (T8.setTop (mkF m 63 #[.val (.int p1), .val (.int p2), .val (.int p3), .val (.int (p1 &&& (63 : Int32))), .val (.int (p2 &&& (63 : Int32))), .val (.ref b4), .val (.ref b5), .val (.long (25 : Int64)), .second, .val (.long (own_rb (p1 &&& (63 : Int32)) (p2 &&& (63 : Int32)))), .second, .unset, .unset, .unset, .unset] [])) _
    refine XS.iconst X8.here hx rfl (hb hby at_63) ?_
    show Steps p.tables e below (T8.setTop (mkF m 64 #[.val (.int p1), .val (.int p2), .val (.int p3), .val (.int (p1 &&& (63 : Int32))), .val (.int (p2 &&& (63 : Int32))), .val (.ref b4), .val (.ref b5), .val (.long (25 : Int64)), .second, .val (.long (own_rb (p1 &&& (63 : Int32)) (p2 &&& (63 : Int32)))), .second, .unset, .unset, .unset, .unset] [(.int (0 : Int32))])) _
    refine st9 _ ?_
    show Steps p.tables e below (T9.setTop (mkF m 66 #[.val (.int p1), .val (.int p2), .val (.int p3), .val (.int (p1 &&& (63 : Int32))), .val (.int (p2 &&& (63 : Int32))), .val (.ref b4), .val (.ref b5), .val (.long (25 : Int64)), .second, .val (.long (own_rb (p1 &&& (63 : Int32)) (p2 &&& (63 : Int32)))), .second, .unset, .unset, .unset, .unset] [(.ref b9)])) _
    refine XS.iconst X9.here hx rfl (hb hby at_66) ?_
    show Steps p.tables e below (T9.setTop (mkF m 67 #[.val (.int p1), .val (.int p2), .val (.int p3), .val (.int (p1 &&& (63 : Int32))), .val (.int (p2 &&& (63 : Int32))), .val (.ref b4), .val (.ref b5), .val (.long (25 : Int64)), .second, .val (.long (own_rb (p1 &&& (63 : Int32)) (p2 &&& (63 : Int32)))), .second, .unset, .unset, .unset, .unset] [(.int (0 : Int32)), (.ref b9)])) _
    refine st10 _ ?_
    show Steps p.tables e below (T10.setTop (mkF m 69 #[.val (.int p1), .val (.int p2), .val (.int p3), .val (.int (p1 &&& (63 : Int32))), .val (.int (p2 &&& (63 : Int32))), .val (.ref b4), .val (.ref b5), .val (.long (25 : Int64)), .second, .val (.long (own_rb (p1 &&& (63 : Int32)) (p2 &&& (63 : Int32)))), .second, .unset, .unset, .unset, .unset] [(.ref b10), (.ref b9)])) _
    refine st11 _ ?_
    show Steps p.tables e below (T11.setTop (mkF m 72 #[.val (.int p1), .val (.int p2), .val (.int p3), .val (.int (p1 &&& (63 : Int32))), .val (.int (p2 &&& (63 : Int32))), .val (.ref b4), .val (.ref b5), .val (.long (25 : Int64)), .second, .val (.long (own_rb (p1 &&& (63 : Int32)) (p2 &&& (63 : Int32)))), .second, .unset, .unset, .unset, .unset] [(.long (own_rb (0 : Int32) (0 : Int32)))])) _
    refine XS.lstore X11.here hx rfl (hb hby at_72) rfl (l' := #[.val (.int p1), .val (.int p2), .val (.int p3), .val (.int (p1 &&& (63 : Int32))), .val (.int (p2 &&& (63 : Int32))), .val (.ref b4), .val (.ref b5), .val (.long (25 : Int64)), .second, .val (.long (own_rb (p1 &&& (63 : Int32)) (p2 &&& (63 : Int32)))), .second, .val (.long (own_rb (0 : Int32) (0 : Int32))), .second, .unset, .unset]) rfl ?_
    show Steps p.tables e below (T11.setTop (mkF m 74 #[.val (.int p1), .val (.int p2), .val (.int p3), .val (.int (p1 &&& (63 : Int32))), .val (.int (p2 &&& (63 : Int32))), .val (.ref b4), .val (.ref b5), .val (.long (25 : Int64)), .second, .val (.long (own_rb (p1 &&& (63 : Int32)) (p2 &&& (63 : Int32)))), .second, .val (.long (own_rb (0 : Int32) (0 : Int32))), .second, .unset, .unset] [])) _
    refine XS.aload X11.here hx rfl (hb hby at_74) rfl rfl ?_
    show Steps p.tables e below (T11.setTop (mkF m 76 #[.val (.int p1), .val (.int p2), .val (.int p3), .val (.int (p1 &&& (63 : Int32))), .val (.int (p2 &&& (63 : Int32))), .val (.ref b4), .val (.ref b5), .val (.long (25 : Int64)), .second, .val (.long (own_rb (p1 &&& (63 : Int32)) (p2 &&& (63 : Int32)))), .second, .val (.long (own_rb (0 : Int32) (0 : Int32))), .second, .unset, .unset] [(.ref b5)])) _
    refine XS.aload X11.here hx rfl (hb hby at_76) rfl rfl ?_
    show Steps p.tables e below (T11.setTop (mkF m 78 #[.val (.int p1), .val (.int p2), .val (.int p3), .val (.int (p1 &&& (63 : Int32))), .val (.int (p2 &&& (63 : Int32))), .val (.ref b4), .val (.ref b5), .val (.long (25 : Int64)), .second, .val (.long (own_rb (p1 &&& (63 : Int32)) (p2 &&& (63 : Int32)))), .second, .val (.long (own_rb (0 : Int32) (0 : Int32))), .second, .unset, .unset] [(.ref b4), (.ref b5)])) _
    refine st12 _ ?_
    show Steps p.tables e below (T12.setTop (mkF m 81 #[.val (.int p1), .val (.int p2), .val (.int p3), .val (.int (p1 &&& (63 : Int32))), .val (.int (p2 &&& (63 : Int32))), .val (.ref b4), .val (.ref b5), .val (.long (25 : Int64)), .second, .val (.long (own_rb (p1 &&& (63 : Int32)) (p2 &&& (63 : Int32)))), .second, .val (.long (own_rb (0 : Int32) (0 : Int32))), .second, .unset, .unset] [(.long (own_rb (p2 &&& (63 : Int32)) (p1 &&& (63 : Int32))))])) _
    refine XS.lstore X12.here hx rfl (hb hby at_81) rfl (l' := #[.val (.int p1), .val (.int p2), .val (.int p3), .val (.int (p1 &&& (63 : Int32))), .val (.int (p2 &&& (63 : Int32))), .val (.ref b4), .val (.ref b5), .val (.long (25 : Int64)), .second, .val (.long (own_rb (p1 &&& (63 : Int32)) (p2 &&& (63 : Int32)))), .second, .val (.long (own_rb (0 : Int32) (0 : Int32))), .second, .val (.long (own_rb (p2 &&& (63 : Int32)) (p1 &&& (63 : Int32)))), .second]) rfl ?_
    show Steps p.tables e below (T12.setTop (mkF m 83 #[.val (.int p1), .val (.int p2), .val (.int p3), .val (.int (p1 &&& (63 : Int32))), .val (.int (p2 &&& (63 : Int32))), .val (.ref b4), .val (.ref b5), .val (.long (25 : Int64)), .second, .val (.long (own_rb (p1 &&& (63 : Int32)) (p2 &&& (63 : Int32)))), .second, .val (.long (own_rb (0 : Int32) (0 : Int32))), .second, .val (.long (own_rb (p2 &&& (63 : Int32)) (p1 &&& (63 : Int32)))), .second] [])) _
    refine XS.lload X12.here hx rfl (hb hby at_83) rfl ?_
    show Steps p.tables e below (T12.setTop (mkF m 85 #[.val (.int p1), .val (.int p2), .val (.int p3), .val (.int (p1 &&& (63 : Int32))), .val (.int (p2 &&& (63 : Int32))), .val (.ref b4), .val (.ref b5), .val (.long (25 : Int64)), .second, .val (.long (own_rb (p1 &&& (63 : Int32)) (p2 &&& (63 : Int32)))), .second, .val (.long (own_rb (0 : Int32) (0 : Int32))), .second, .val (.long (own_rb (p2 &&& (63 : Int32)) (p1 &&& (63 : Int32)))), .second] [(.long (own_rb (0 : Int32) (0 : Int32)))])) _
    refine XS.lload X12.here hx rfl (hb hby at_85) rfl ?_
    show Steps p.tables e below (T12.setTop (mkF m 87 #[.val (.int p1), .val (.int p2), .val (.int p3), .val (.int (p1 &&& (63 : Int32))), .val (.int (p2 &&& (63 : Int32))), .val (.ref b4), .val (.ref b5), .val (.long (25 : Int64)), .second, .val (.long (own_rb (p1 &&& (63 : Int32)) (p2 &&& (63 : Int32)))), .second, .val (.long (own_rb (0 : Int32) (0 : Int32))), .second, .val (.long (own_rb (p2 &&& (63 : Int32)) (p1 &&& (63 : Int32)))), .second] [(.long (25 : Int64)), (.long (own_rb (0 : Int32) (0 : Int32)))])) _
    refine XS.lcmp X12.here hx rfl (hb hby at_87) rfl ?_
    show Steps p.tables e below (T12.setTop (mkF m 88 #[.val (.int p1), .val (.int p2), .val (.int p3), .val (.int (p1 &&& (63 : Int32))), .val (.int (p2 &&& (63 : Int32))), .val (.ref b4), .val (.ref b5), .val (.long (25 : Int64)), .second, .val (.long (own_rb (p1 &&& (63 : Int32)) (p2 &&& (63 : Int32)))), .second, .val (.long (own_rb (0 : Int32) (0 : Int32))), .second, .val (.long (own_rb (p2 &&& (63 : Int32)) (p1 &&& (63 : Int32)))), .second] [(.int (lcmpW (own_rb (0 : Int32) (0 : Int32)) (25 : Int64)))])) _
    refine XS.ifNo X12.here hx rfl (hb hby at_88) rfl ((if0 _ _).trans (teq (own_lc _ _ (by decide +kernel) : (lcmpW (own_rb (0 : Int32) (0 : Int32)) (25 : Int64)) = (0 : Int32))).2) ?_
    show Steps p.tables e below (T12.setTop (mkF m 91 #[.val (.int p1), .val (.int p2), .val (.int p3), .val (.int (p1 &&& (63 : Int32))), .val (.int (p2 &&& (63 : Int32))), .val (.ref b4), .val (.ref b5), .val (.long (25 : Int64)), .second, .val (.long (own_rb (p1 &&& (63 : Int32)) (p2 &&& (63 : Int32)))), .second, .val (.long (own_rb (0 : Int32) (0 : Int32))), .second, .val (.long (own_rb (p2 &&& (63 : Int32)) (p1 &&& (63 : Int32)))), .second] [])) _
    refine XS.lload X12.here hx rfl (hb hby at_91) rfl ?_
    show Steps p.tables e below (T12.setTop (mkF m 93 #[.val (.int p1), .val (.int p2), .val (.int p3), .val (.int (p1 &&& (63 : Int32))), .val (.int (p2 &&& (63 : Int32))), .val (.ref b4), .val (.ref b5), .val (.long (25 : Int64)), .second, .val (.long (own_rb (p1 &&& (63 : Int32)) (p2 &&& (63 : Int32)))), .second, .val (.long (own_rb (0 : Int32) (0 : Int32))), .second, .val (.long (own_rb (p2 &&& (63 : Int32)) (p1 &&& (63 : Int32)))), .second] [(.long (own_rb (p1 &&& (63 : Int32)) (p2 &&& (63 : Int32))))])) _
    refine XS.lload X12.here hx rfl (hb hby at_93) rfl ?_
    show Steps p.tables e below (T12.setTop (mkF m 95 #[.val (.int p1), .val (.int p2), .val (.int p3), .val (.int (p1 &&& (63 : Int32))), .val (.int (p2 &&& (63 : Int32))), .val (.ref b4), .val (.ref b5), .val (.long (25 : Int64)), .second, .val (.long (own_rb (p1 &&& (63 : Int32)) (p2 &&& (63 : Int32)))), .second, .val (.long (own_rb (0 : Int32) (0 : Int32))), .second, .val (.long (own_rb (p2 &&& (63 : Int32)) (p1 &&& (63 : Int32)))), .second] [(.long (25 : Int64)), (.long (own_rb (p1 &&& (63 : Int32)) (p2 &&& (63 : Int32))))])) _
    refine XS.iloadN X12.here hx rfl (hb hby at_95) rfl ?_
    show Steps p.tables e below (T12.setTop (mkF m 96 #[.val (.int p1), .val (.int p2), .val (.int p3), .val (.int (p1 &&& (63 : Int32))), .val (.int (p2 &&& (63 : Int32))), .val (.ref b4), .val (.ref b5), .val (.long (25 : Int64)), .second, .val (.long (own_rb (p1 &&& (63 : Int32)) (p2 &&& (63 : Int32)))), .second, .val (.long (own_rb (0 : Int32) (0 : Int32))), .second, .val (.long (own_rb (p2 &&& (63 : Int32)) (p1 &&& (63 : Int32)))), .second] [(.int (p1 &&& (63 : Int32))), (.long (25 : Int64)), (.long (own_rb (p1 &&& (63 : Int32)) (p2 &&& (63 : Int32))))])) _
    refine XS.i2l X12.here hx rfl (hb hby at_96) rfl ?_
    show Steps p.tables e below (T12.setTop (mkF m 97 #[.val (.int p1), .val (.int p2), .val (.int p3), .val (.int (p1 &&& (63 : Int32))), .val (.int (p2 &&& (63 : Int32))), .val (.ref b4), .val (.ref b5), .val (.long (25 : Int64)), .second, .val (.long (own_rb (p1 &&& (63 : Int32)) (p2 &&& (63 : Int32)))), .second, .val (.long (own_rb (0 : Int32) (0 : Int32))), .second, .val (.long (own_rb (p2 &&& (63 : Int32)) (p1 &&& (63 : Int32)))), .second] [(.long ((p1 &&& (63 : Int32)).toInt64)), (.long (25 : Int64)), (.long (own_rb (p1 &&& (63 : Int32)) (p2 &&& (63 : Int32))))])) _
    refine XS.ladd X12.here hx rfl (hb hby at_97) rfl ?_
    show Steps p.tables e below (T12.setTop (mkF m 98 #[.val (.int p1), .val (.int p2), .val (.int p3), .val (.int (p1 &&& (63 : Int32))), .val (.int (p2 &&& (63 : Int32))), .val (.ref b4), .val (.ref b5), .val (.long (25 : Int64)), .second, .val (.long (own_rb (p1 &&& (63 : Int32)) (p2 &&& (63 : Int32)))), .second, .val (.long (own_rb (0 : Int32) (0 : Int32))), .second, .val (.long (own_rb (p2 &&& (63 : Int32)) (p1 &&& (63 : Int32)))), .second] [(.long ((25 : Int64) + ((p1 &&& (63 : Int32)).toInt64))), (.long (own_rb (p1 &&& (63 : Int32)) (p2 &&& (63 : Int32))))])) _
    refine XS.iload X12.here hx rfl (hb hby at_98) rfl ?_
    show Steps p.tables e below (T12.setTop (mkF m 100 #[.val (.int p1), .val (.int p2), .val (.int p3), .val (.int (p1 &&& (63 : Int32))), .val (.int (p2 &&& (63 : Int32))), .val (.ref b4), .val (.ref b5), .val (.long (25 : Int64)), .second, .val (.long (own_rb (p1 &&& (63 : Int32)) (p2 &&& (63 : Int32)))), .second, .val (.long (own_rb (0 : Int32) (0 : Int32))), .second, .val (.long (own_rb (p2 &&& (63 : Int32)) (p1 &&& (63 : Int32)))), .second] [(.int (p2 &&& (63 : Int32))), (.long ((25 : Int64) + ((p1 &&& (63 : Int32)).toInt64))), (.long (own_rb (p1 &&& (63 : Int32)) (p2 &&& (63 : Int32))))])) _
    refine XS.i2l X12.here hx rfl (hb hby at_100) rfl ?_
    show Steps p.tables e below (T12.setTop (mkF m 101 #[.val (.int p1), .val (.int p2), .val (.int p3), .val (.int (p1 &&& (63 : Int32))), .val (.int (p2 &&& (63 : Int32))), .val (.ref b4), .val (.ref b5), .val (.long (25 : Int64)), .second, .val (.long (own_rb (p1 &&& (63 : Int32)) (p2 &&& (63 : Int32)))), .second, .val (.long (own_rb (0 : Int32) (0 : Int32))), .second, .val (.long (own_rb (p2 &&& (63 : Int32)) (p1 &&& (63 : Int32)))), .second] [(.long ((p2 &&& (63 : Int32)).toInt64)), (.long ((25 : Int64) + ((p1 &&& (63 : Int32)).toInt64))), (.long (own_rb (p1 &&& (63 : Int32)) (p2 &&& (63 : Int32))))])) _
    refine XS.ladd X12.here hx rfl (hb hby at_101) rfl ?_
    show Steps p.tables e below (T12.setTop (mkF m 102 #[.val (.int p1), .val (.int p2), .val (.int p3), .val (.int (p1 &&& (63 : Int32))), .val (.int (p2 &&& (63 : Int32))), .val (.ref b4), .val (.ref b5), .val (.long (25 : Int64)), .second, .val (.long (own_rb (p1 &&& (63 : Int32)) (p2 &&& (63 : Int32)))), .second, .val (.long (own_rb (0 : Int32) (0 : Int32))), .second, .val (.long (own_rb (p2 &&& (63 : Int32)) (p1 &&& (63 : Int32)))), .second] [(.long (((25 : Int64) + ((p1 &&& (63 : Int32)).toInt64)) + ((p2 &&& (63 : Int32)).toInt64))), (.long (own_rb (p1 &&& (63 : Int32)) (p2 &&& (63 : Int32))))])) _
    refine XS.lcmp X12.here hx rfl (hb hby at_102) rfl ?_
    show Steps p.tables e below (T12.setTop (mkF m 103 #[.val (.int p1), .val (.int p2), .val (.int p3), .val (.int (p1 &&& (63 : Int32))), .val (.int (p2 &&& (63 : Int32))), .val (.ref b4), .val (.ref b5), .val (.long (25 : Int64)), .second, .val (.long (own_rb (p1 &&& (63 : Int32)) (p2 &&& (63 : Int32)))), .second, .val (.long (own_rb (0 : Int32) (0 : Int32))), .second, .val (.long (own_rb (p2 &&& (63 : Int32)) (p1 &&& (63 : Int32)))), .second] [(.int (lcmpW (own_rb (p1 &&& (63 : Int32)) (p2 &&& (63 : Int32))) (((25 : Int64) + ((p1 &&& (63 : Int32)).toInt64)) + ((p2 &&& (63 : Int32)).toInt64))))])) _
    refine XS.ifNo X12.here hx rfl (hb hby at_103) rfl ((if0 _ _).trans (teq (own_lc _ _ rfl : (lcmpW (own_rb (p1 &&& (63 : Int32)) (p2 &&& (63 : Int32))) (((25 : Int64) + ((p1 &&& (63 : Int32)).toInt64)) + ((p2 &&& (63 : Int32)).toInt64))) = (0 : Int32))).2) ?_
    show Steps p.tables e below (T12.setTop (mkF m 106 #[.val (.int p1), .val (.int p2), .val (.int p3), .val (.int (p1 &&& (63 : Int32))), .val (.int (p2 &&& (63 : Int32))), .val (.ref b4), .val (.ref b5), .val (.long (25 : Int64)), .second, .val (.long (own_rb (p1 &&& (63 : Int32)) (p2 &&& (63 : Int32)))), .second, .val (.long (own_rb (0 : Int32) (0 : Int32))), .second, .val (.long (own_rb (p2 &&& (63 : Int32)) (p1 &&& (63 : Int32)))), .second] [])) _
    refine XS.lload X12.here hx rfl (hb hby at_106) rfl ?_
    show Steps p.tables e below (T12.setTop (mkF m 108 #[.val (.int p1), .val (.int p2), .val (.int p3), .val (.int (p1 &&& (63 : Int32))), .val (.int (p2 &&& (63 : Int32))), .val (.ref b4), .val (.ref b5), .val (.long (25 : Int64)), .second, .val (.long (own_rb (p1 &&& (63 : Int32)) (p2 &&& (63 : Int32)))), .second, .val (.long (own_rb (0 : Int32) (0 : Int32))), .second, .val (.long (own_rb (p2 &&& (63 : Int32)) (p1 &&& (63 : Int32)))), .second] [(.long (own_rb (p2 &&& (63 : Int32)) (p1 &&& (63 : Int32))))])) _
    refine XS.lload X12.here hx rfl (hb hby at_108) rfl ?_
    show Steps p.tables e below (T12.setTop (mkF m 110 #[.val (.int p1), .val (.int p2), .val (.int p3), .val (.int (p1 &&& (63 : Int32))), .val (.int (p2 &&& (63 : Int32))), .val (.ref b4), .val (.ref b5), .val (.long (25 : Int64)), .second, .val (.long (own_rb (p1 &&& (63 : Int32)) (p2 &&& (63 : Int32)))), .second, .val (.long (own_rb (0 : Int32) (0 : Int32))), .second, .val (.long (own_rb (p2 &&& (63 : Int32)) (p1 &&& (63 : Int32)))), .second] [(.long (own_rb (p1 &&& (63 : Int32)) (p2 &&& (63 : Int32)))), (.long (own_rb (p2 &&& (63 : Int32)) (p1 &&& (63 : Int32))))])) _
    refine XS.lcmp X12.here hx rfl (hb hby at_110) rfl ?_
    show Steps p.tables e below (T12.setTop (mkF m 111 #[.val (.int p1), .val (.int p2), .val (.int p3), .val (.int (p1 &&& (63 : Int32))), .val (.int (p2 &&& (63 : Int32))), .val (.ref b4), .val (.ref b5), .val (.long (25 : Int64)), .second, .val (.long (own_rb (p1 &&& (63 : Int32)) (p2 &&& (63 : Int32)))), .second, .val (.long (own_rb (0 : Int32) (0 : Int32))), .second, .val (.long (own_rb (p2 &&& (63 : Int32)) (p1 &&& (63 : Int32)))), .second] [(.int (lcmpW (own_rb (p2 &&& (63 : Int32)) (p1 &&& (63 : Int32))) (own_rb (p1 &&& (63 : Int32)) (p2 &&& (63 : Int32)))))])) _
    refine XS.ifNo X12.here hx rfl (hb hby at_111) rfl ((if0 _ _).trans (teq (own_lc _ _ (own_rbc _ _) : (lcmpW (own_rb (p2 &&& (63 : Int32)) (p1 &&& (63 : Int32))) (own_rb (p1 &&& (63 : Int32)) (p2 &&& (63 : Int32)))) = (0 : Int32))).2) ?_
    show Steps p.tables e below (T12.setTop (mkF m 114 #[.val (.int p1), .val (.int p2), .val (.int p3), .val (.int (p1 &&& (63 : Int32))), .val (.int (p2 &&& (63 : Int32))), .val (.ref b4), .val (.ref b5), .val (.long (25 : Int64)), .second, .val (.long (own_rb (p1 &&& (63 : Int32)) (p2 &&& (63 : Int32)))), .second, .val (.long (own_rb (0 : Int32) (0 : Int32))), .second, .val (.long (own_rb (p2 &&& (63 : Int32)) (p1 &&& (63 : Int32)))), .second] [])) _
    refine XS.iconst X12.here hx rfl (hb hby at_114) ?_
    show Steps p.tables e below (T12.setTop (mkF m 115 #[.val (.int p1), .val (.int p2), .val (.int p3), .val (.int (p1 &&& (63 : Int32))), .val (.int (p2 &&& (63 : Int32))), .val (.ref b4), .val (.ref b5), .val (.long (25 : Int64)), .second, .val (.long (own_rb (p1 &&& (63 : Int32)) (p2 &&& (63 : Int32)))), .second, .val (.long (own_rb (0 : Int32) (0 : Int32))), .second, .val (.long (own_rb (p2 &&& (63 : Int32)) (p1 &&& (63 : Int32)))), .second] [(.int (1 : Int32))])) _
    refine XS.goto X12.here hx rfl (pc0 := 115) (pc' := 119) rfl (hb hby at_115) (by decide) (by decide) ?_
    show Steps p.tables e below (T12.setTop (mkF m 119 #[.val (.int p1), .val (.int p2), .val (.int p3), .val (.int (p1 &&& (63 : Int32))), .val (.int (p2 &&& (63 : Int32))), .val (.ref b4), .val (.ref b5), .val (.long (25 : Int64)), .second, .val (.long (own_rb (p1 &&& (63 : Int32)) (p2 &&& (63 : Int32)))), .second, .val (.long (own_rb (0 : Int32) (0 : Int32))), .second, .val (.long (own_rb (p2 &&& (63 : Int32)) (p1 &&& (63 : Int32)))), .second] [(.int (1 : Int32))])) _
    exact retN X12 hx (t := .boolean) Bd.returns (by simp) (hb hby at_119) hr
  · show Q0 Z p1 p2 p3 h0 n0 _ T12.heap _
    exact ⟨rfl, N12⟩
set_option maxRecDepth 65536 in
set_option maxHeartbeats 40000000 in
theorem rm0 (l : Launch) (Z : State) (a0 : Array Value) (hw : ∀ d ∈ tables_1, d.before a0 Z = true) (ws : List Jvm.Cond) (p1 : Int32) (p2 : Int32) (p3 : Int32) (h0 : Heap) (n0 : Nat) (Z0 : n0 ≤ h0.size) :
    MetFree l x (head1 (Jvm.Cond.code x code maxLocals ret :: ws) room_1) (fun a U => a = #[(.int p1), (.int p2), (.int p3)] ∧ Z.Warmed39 U.vm ∧ U.heap = h0) (fun _ _ _ _ _ => True) (fun _ U o U' => ∃ v L, o = .returned v ∧ Q0 Z p1 p2 p3 h0 n0 v U'.heap L ∧ FrameEnd U o U' L room_1.cells room_1.slots) := by
  by_cases hc23 : (0 : Int32) < (p1 &&& (63 : Int32))
  · by_cases hc34 : (0 : Int32) < (p2 &&& (63 : Int32))
    · exact rm0_fffff l Z a0 hw ws p1 p2 p3 h0 n0 Z0 hc23 hc34
    · exact rm0_ftfff l Z a0 hw ws p1 p2 p3 h0 n0 Z0 hc23 hc34
  · by_cases hc34 : (0 : Int32) < (p2 &&& (63 : Int32))
    · exact rm0_tffff l Z a0 hw ws p1 p2 p3 h0 n0 Z0 hc23 hc34
    · exact rm0_ttfff l Z a0 hw ws p1 p2 p3 h0 n0 Z0 hc23 hc34
set_option maxRecDepth 65536 in
set_option maxHeartbeats 40000000 in
theorem comes_1 {Post : Tables → Env → Array Value → State → Outcome → State → Prop} (hpost : ∀ tb e args s v u, (limb_1_1.after args s (.returned v) u = true ∧ limb_1_2.after args s (.returned v) u = true ∧ True) → FrameEnd s (.returned v) u (Jvm.fieldLocs frame_1_writes args s ++ Jvm.arrayLocs frame_1_arrays args s ++ Jvm.staticLocs frame_1_statics s) 16 320 → Post tb e args s (.returned v) u) :
    ArmFor flags0 classFile x code maxLocals ret World_1 tables_1 room_1 Calls_1 rest_1 Pre_1 Post := by
  intro l hfl _ _ p e ha hc hk s m args below hf hA hF happ hP
  obtain ⟨hcalls, hrest, hpre⟩ := hP
  obtain ⟨-, -, -, hnamed, -, -, -, hat⟩ := (Spec.applies_iff hf).mp happ
  obtain ⟨hg, hn⟩ := and_e (Cond.before_iff.mp (show (Jvm.Cond.and given_1 narrow_1).before args s = true from hpre))
  obtain ⟨g13, g14⟩ := and_e hg
  obtain ⟨g15, g16⟩ := and_e g14
  obtain ⟨g17, g18⟩ := and_e g16
  obtain ⟨w0, w1, w2, rfl⟩ : ∃ w0 w1 w2 : Value, args = #[w0, w1, w2] := by
    have hs : args.size = 3 := by simpa [Cond.value, given_1] using g13
    obtain ⟨L⟩ := args
    match L, hs with
    | [w0, w1, w2], _ => exact ⟨w0, w1, w2, rfl⟩
  have hw := fun d (hd : d ∈ tables_1) => atoms_spec (ws := Jvm.Cond.code x code maxLocals ret :: tables_1) hat d (List.mem_cons_of_mem _ hd)
  have hfit : Fit s := fun {y c} hc i hi => by
    obtain ⟨ha, rfl⟩ := Array.getElem?_eq_some_iff.mp hc
    have q := List.all_eq_true.mp ((Array.all_eq_true_iff_forall_mem.mp hF) _ (Array.getElem_mem ha)) i (List.mem_range.mpr hi)
    simpa [Array.getElem?_eq_getElem hi] using q
  obtain ⟨i0, ei0⟩ := is_v g15
  obtain rfl : w0 = (.int i0) := Option.some.inj ei0
  obtain ⟨i1, ei1⟩ := is_v g17
  obtain rfl : w1 = (.int i1) := Option.some.inj ei1
  obtain ⟨i2, ei2⟩ := is_v g18
  obtain rfl : w2 = (.int i2) := Option.some.inj ei2
  obtain ⟨n, o, h1, h2, h3, _, L, rfl, ⟨rfl, N⟩, hq⟩ := rm0 l s _ hw tables_1 i0 i1 i2 s.heap s.heap.size (Nat.le_refl _) p e ha hc hk s m _ below hf ((Spec.applies_iff_loose hf).mp happ).1 ⟨rfl, State.Warmed39.refl s, rfl⟩ trivial
  refine ⟨n, _, h1, h2, h3, hpost _ _ _ _ _ _ ⟨Cond.after_iff.mpr rfl, Cond.after_iff.mpr (eq_i res_at (Term.int_eval (1)) rfl), trivial⟩ ⟨hq.1, hq.2.1, (hq.2.2.sift fun y hy => Or.inr (N y hy)).mono (by decide) (by decide)⟩⟩
theorem main_1_1 : Claimed_1_1 := comes_1 fun _ _ _ _ _ _ h hF => ⟨h.1, hF⟩
theorem main_1_2 : Claimed_1_2 := comes_1 fun _ _ _ _ _ _ h hF => ⟨h.2.1, hF⟩

end Jvm.Pilot.@@N@@
namespace Jvm.Pilot.@@N@@
open Jvm Jvm.ClassFile Sem Op Lib Jvm.Free Jvm.Stand Jvm.Pilot.@@N@@.Jvm.D
/-! MADE BY PROGRAM (witnessworld.py) out of the Statement's table words and the real class files: 9 classes; the members and pool entries that the words name. The judged class is class 1, her method 1. -/
namespace start1
open Jvm.ClassFile
def u (s : String) : CpInfo := .utf8 (stringToUtf16 s)
/-- a pool by its gaps: so many unusable entries, then the entry; so many at the end -/
def gap : Nat → List CpInfo → List CpInfo
  | 0, r => r
  | n + 1, r => .unusable :: gap n r
def poolList (es : List (Nat × CpInfo)) (last : Nat) : List CpInfo := es.foldr (fun e r => gap e.1 (e.2 :: r)) (gap last [])
def pool (es : List (Nat × CpInfo)) (last : Nat) : Array CpInfo := ⟨poolList es last⟩
def fileOf (pool : Array CpInfo) (this : Nat) (attrs : Array Attribute := #[]) (ms : Array MethodInfo := #[]) (fl : Nat := 33) (sup : Nat := 0) (ifs : Array Nat := #[]) (fds : Array FieldInfo := #[]) : ClassFile where
  minorVersion := 0
  majorVersion := 65
  constantPool := pool
  accessFlags := fl
  thisClass := this
  superClass := sup
  interfaces := ifs
  fields := fds
  methods := ms
  attributes := attrs
def plain (name : String) (sup : Option ClassId) : Class where
  name := name
  kind := .ordinary
  loader := none
  accessFlags := 33
  super := sup
  interfaces := #[]
  cf := none
  fields := #[]
  methods := #[]
  instanceTypes := #[]
  staticTypes := #[]
  resolved := #[]
  callSites := []
  init := .initialized
  statics := none
  mirror := none

def pool0 : Array CpInfo := pool [(5, u "<init>"), (0, u "()V"), (1, .class_ 10), (1, u "java/lang/Object")] 113

def k0m0 : Method := { name := "<init>", desc := "()V", sig := { parameters := [], returnType := none }, accessFlags := 1, code := none }
/-- java/lang/Object -/
def k0 : Class := { plain "java/lang/Object" none with
  accessFlags := 33
  interfaces := #[]
  cf := some (fileOf pool0 8 #[] #[{ accessFlags := 1, nameIndex := 5, descriptorIndex := 6, attributes := #[] }] 33 0 #[] #[])
  fields := #[]
  methods := #[k0m0]
  instanceTypes := #[]
  staticTypes := #[]
  resolved := Array.replicate 124 none
  statics := none }

def pool1 : Array CpInfo := pool [(2, .class_ 4), (1, u "java/lang/Object"), (0, u "<init>"), (0, u "()V"), (0, .long 25), (1, .methodref 10 11), (0, .class_ 12), (0, .nameAndType 13 14), (0, u "com/example/onceword/onceword/memory/ByteMap"), (0, u "recordBytes"), (0, u "([B[B)J"), (0, .class_ 16), (0, u "com/example/onceword/onceword/memory/ByteMapRecordBytesPinLaw"), (2, u "law"), (0, u "(III)Z")] 5

def k1m0 : Method := { name := "<init>", desc := "()V", sig := { parameters := [], returnType := none }, accessFlags := 1, code := none }
def k1c1 : Code := { maxStack := 6, maxLocals := 15, code := code, exceptionTable := #[], attributes := #[] }
def k1m1 : Method := { name := "law", desc := "(III)Z", sig := { parameters := [.int, .int, .int], returnType := some .boolean }, accessFlags := 9, code := some k1c1 }
/-- com/example/onceword/onceword/memory/ByteMapRecordBytesPinLaw -/
def k1 : Class := { plain "com/example/onceword/onceword/memory/ByteMapRecordBytesPinLaw" (some 0) with
  accessFlags := 49
  interfaces := #[]
  cf := some (fileOf pool1 15 #[] #[{ accessFlags := 1, nameIndex := 5, descriptorIndex := 6, attributes := #[] }, { accessFlags := 9, nameIndex := 19, descriptorIndex := 20, attributes := #[] }] 49 2 #[] #[])
  fields := #[]
  methods := #[k1m0, k1m1]
  instanceTypes := #[]
  staticTypes := #[]
  resolved := Array.replicate 26 none
  statics := none }

def pool2 : Array CpInfo := pool [(1, .class_ 2), (0, u "com/example/onceword/onceword/memory/ByteMap"), (1, .class_ 6), (1, u "java/lang/Object"), (0, u "<init>"), (0, u "()V"), (4, u "chunks"), (0, u "[Ljava/nio/ByteBuffer;"), (2, u "shared"), (0, u "[Z"), (5, u "spareChunks"), (0, u "Ljava/util/ArrayDeque;"), (2, u "spareSegments"), (9, u "hashKey0"), (0, u "J"), (2, u "hashKey1"), (0, .class_ 44), (0, u "com/example/onceword/onceword/memory/ByteMap$Segment"), (9, u "directory"), (0, u "[Lcom/example/onceword/onceword/memory/ByteMap$Segment;"), (0, .long 25), (3, u "count"), (0, u "I"), (2, u "liveBytes"), (30, u "recordBytes"), (0, u "([B[B)J"), (5, u "head"), (38, u "snapshot"), (0, u "Lcom/example/onceword/onceword/memory/ByteMap$Snapshot;"), (13, .class_ 157), (0, u "com/example/onceword/onceword/memory/ByteMap$Snapshot"), (7, u "tail"), (50, .class_ 217), (0, u "com/example/onceword/onceword/memory/ByteMap$Found"), (70, u "EMPTY_SEGMENT"), (0, u "[J"), (59, u "depth"), (29, .class_ 380), (0, u "com/example/onceword/onceword/memory/ByteMap$SipState"), (12, u "HEADER"), (2, u "KEY_LENGTH"), (1, u "VALUE_LENGTH"), (1, u "STAMP"), (1, u "HASH"), (1, u "LIVE"), (0, u "B"), (0, u "DEAD"), (1, u "CHUNK_BITS"), (1, u "CHUNK"), (0, u "MOST_CHUNKS"), (1, u "SEGMENT_BITS"), (1, u "SEGMENT"), (1, u "MOST_DEPTH"), (27, .class_ 446), (0, u "com/example/onceword/onceword/memory/ByteMap$Action")] 6

def k2m0 : Method := { name := "<init>", desc := "()V", sig := { parameters := [], returnType := none }, accessFlags := 1, code := none }
def k2c1 : Code := { maxStack := 4, maxLocals := 2, code := prog_11_method_2_code, exceptionTable := #[], attributes := #[] }
def k2m1 : Method := { name := "recordBytes", desc := "([B[B)J", sig := { parameters := [(.array .byte), (.array .byte)], returnType := some .long }, accessFlags := 9, code := some k2c1 }
/-- com/example/onceword/onceword/memory/ByteMap -/
def k2 : Class := { plain "com/example/onceword/onceword/memory/ByteMap" (some 0) with
  accessFlags := 49
  interfaces := #[]
  cf := some (fileOf pool2 1 #[.nestMembers #[379, 156, 445, 216, 43]] #[{ accessFlags := 1, nameIndex := 7, descriptorIndex := 8, attributes := #[] }, { accessFlags := 9, nameIndex := 95, descriptorIndex := 96, attributes := #[] }] 49 4 #[] #[{ accessFlags := 26, nameIndex := 393, descriptorIndex := 61, attributes := #[] }, { accessFlags := 26, nameIndex := 396, descriptorIndex := 61, attributes := #[] }, { accessFlags := 26, nameIndex := 398, descriptorIndex := 61, attributes := #[] }, { accessFlags := 26, nameIndex := 400, descriptorIndex := 61, attributes := #[] }, { accessFlags := 26, nameIndex := 402, descriptorIndex := 61, attributes := #[] }, { accessFlags := 26, nameIndex := 404, descriptorIndex := 405, attributes := #[] }, { accessFlags := 26, nameIndex := 406, descriptorIndex := 405, attributes := #[] }, { accessFlags := 26, nameIndex := 408, descriptorIndex := 61, attributes := #[] }, { accessFlags := 26, nameIndex := 410, descriptorIndex := 61, attributes := #[] }, { accessFlags := 26, nameIndex := 411, descriptorIndex := 61, attributes := #[] }, { accessFlags := 26, nameIndex := 413, descriptorIndex := 61, attributes := #[] }, { accessFlags := 26, nameIndex := 415, descriptorIndex := 61, attributes := #[] }, { accessFlags := 26, nameIndex := 288, descriptorIndex := 289, attributes := #[] }, { accessFlags := 26, nameIndex := 417, descriptorIndex := 61, attributes := #[] }, { accessFlags := 18, nameIndex := 38, descriptorIndex := 39, attributes := #[] }, { accessFlags := 18, nameIndex := 42, descriptorIndex := 39, attributes := #[] }, { accessFlags := 2, nameIndex := 13, descriptorIndex := 14, attributes := #[] }, { accessFlags := 2, nameIndex := 17, descriptorIndex := 18, attributes := #[] }, { accessFlags := 2, nameIndex := 165, descriptorIndex := 39, attributes := #[] }, { accessFlags := 2, nameIndex := 102, descriptorIndex := 39, attributes := #[] }, { accessFlags := 2, nameIndex := 54, descriptorIndex := 55, attributes := #[] }, { accessFlags := 2, nameIndex := 349, descriptorIndex := 61, attributes := #[] }, { accessFlags := 2, nameIndex := 60, descriptorIndex := 61, attributes := #[] }, { accessFlags := 2, nameIndex := 64, descriptorIndex := 39, attributes := #[] }, { accessFlags := 18, nameIndex := 24, descriptorIndex := 25, attributes := #[] }, { accessFlags := 18, nameIndex := 28, descriptorIndex := 25, attributes := #[] }, { accessFlags := 2, nameIndex := 141, descriptorIndex := 142, attributes := #[] }])
  fields := #[{ name := "HEADER", type := .int, accessFlags := 26, slot := 0, constantValue := 0 }, { name := "KEY_LENGTH", type := .int, accessFlags := 26, slot := 1, constantValue := 0 }, { name := "VALUE_LENGTH", type := .int, accessFlags := 26, slot := 2, constantValue := 0 }, { name := "STAMP", type := .int, accessFlags := 26, slot := 3, constantValue := 0 }, { name := "HASH", type := .int, accessFlags := 26, slot := 4, constantValue := 0 }, { name := "LIVE", type := .byte, accessFlags := 26, slot := 5, constantValue := 0 }, { name := "DEAD", type := .byte, accessFlags := 26, slot := 6, constantValue := 0 }, { name := "CHUNK_BITS", type := .int, accessFlags := 26, slot := 7, constantValue := 0 }, { name := "CHUNK", type := .int, accessFlags := 26, slot := 8, constantValue := 0 }, { name := "MOST_CHUNKS", type := .int, accessFlags := 26, slot := 9, constantValue := 0 }, { name := "SEGMENT_BITS", type := .int, accessFlags := 26, slot := 10, constantValue := 0 }, { name := "SEGMENT", type := .int, accessFlags := 26, slot := 11, constantValue := 0 }, { name := "EMPTY_SEGMENT", type := (.array .long), accessFlags := 26, slot := 12, constantValue := 0 }, { name := "MOST_DEPTH", type := .int, accessFlags := 26, slot := 13, constantValue := 0 }, { name := "hashKey0", type := .long, accessFlags := 18, slot := 0, constantValue := 0 }, { name := "hashKey1", type := .long, accessFlags := 18, slot := 1, constantValue := 0 }, { name := "chunks", type := (.array (.object "java/nio/ByteBuffer")), accessFlags := 2, slot := 2, constantValue := 0 }, { name := "shared", type := (.array .boolean), accessFlags := 2, slot := 3, constantValue := 0 }, { name := "tail", type := .long, accessFlags := 2, slot := 4, constantValue := 0 }, { name := "head", type := .long, accessFlags := 2, slot := 5, constantValue := 0 }, { name := "directory", type := (.array (.object "com/example/onceword/onceword/memory/ByteMap$Segment")), accessFlags := 2, slot := 6, constantValue := 0 }, { name := "depth", type := .int, accessFlags := 2, slot := 7, constantValue := 0 }, { name := "count", type := .int, accessFlags := 2, slot := 8, constantValue := 0 }, { name := "liveBytes", type := .long, accessFlags := 2, slot := 9, constantValue := 0 }, { name := "spareChunks", type := (.object "java/util/ArrayDeque"), accessFlags := 18, slot := 10, constantValue := 0 }, { name := "spareSegments", type := (.object "java/util/ArrayDeque"), accessFlags := 18, slot := 11, constantValue := 0 }, { name := "snapshot", type := (.object "com/example/onceword/onceword/memory/ByteMap$Snapshot"), accessFlags := 2, slot := 12, constantValue := 0 }]
  methods := #[k2m0, k2m1]
  instanceTypes := #[.long, .long, (.array (.object "java/nio/ByteBuffer")), (.array .boolean), .long, .long, (.array (.object "com/example/onceword/onceword/memory/ByteMap$Segment")), .int, .int, .long, (.object "java/util/ArrayDeque"), (.object "java/util/ArrayDeque"), (.object "com/example/onceword/onceword/memory/ByteMap$Snapshot")]
  staticTypes := #[.int, .int, .int, .int, .int, .byte, .byte, .int, .int, .int, .int, .int, (.array .long), .int]
  resolved := Array.replicate 453 none
  statics := none }

def pool3 : Array CpInfo := pool [(1, u "java/lang/Cloneable"), (0, .class_ 1), (0, u "java/lang/Object"), (0, .class_ 3)] 3

/-- java/lang/Cloneable -/
def k3 : Class := { plain "java/lang/Cloneable" (some 0) with
  accessFlags := 1537
  interfaces := #[]
  cf := some (fileOf pool3 2 #[] #[] 1537 4 #[] #[])
  fields := #[]
  methods := #[]
  instanceTypes := #[]
  staticTypes := #[]
  resolved := Array.replicate 8 none
  statics := none }

def pool4 : Array CpInfo := pool [(1, u "java/io/Serializable"), (0, .class_ 1), (0, u "java/lang/Object"), (0, .class_ 3)] 3

/-- java/io/Serializable -/
def k4 : Class := { plain "java/io/Serializable" (some 0) with
  accessFlags := 1537
  interfaces := #[]
  cf := some (fileOf pool4 2 #[] #[] 1537 4 #[] #[])
  fields := #[]
  methods := #[]
  instanceTypes := #[]
  staticTypes := #[]
  resolved := Array.replicate 8 none
  statics := none }

/-- the primitive byte -/
def k5 : Class := { plain "byte" none with kind := .primitive 'B', accessFlags := 0x411 }
/-- [B -/
def k6 : Class := { plain "[B" (some 0) with kind := .array 5 .byte, interfaces := #[3, 4], accessFlags := 1041 }

/-- the primitive int -/
def k7 : Class := { plain "int" none with kind := .primitive 'I', accessFlags := 0x411 }
/-- [I -/
def k8 : Class := { plain "[I" (some 0) with kind := .array 7 .int, interfaces := #[3, 4], accessFlags := 1041 }

def heap : Heap := #[]
def classes : Array Class := #[k0, k1, k2, k3, k4, k5, k6, k7, k8]
def interned : List (Array UInt16 × Addr) := []
def slotsUsed : Nat := 0
def theMethod : MethodId := ⟨1, 1⟩
def args0 : Array Value := #[.int 5, .int 7, .int 1]
def aboutOver (below : List Frame) : State where
  vm := { classes := classes, interned := interned.toArray }
  heap := heap
  slotsUsed := slotsUsed
  threads := #[{ frames := .invoking theMethod args0 :: below }]
def below0 : List Frame := [.native { method := ⟨0, 0⟩, args := #[] }]
def about1 : State := aboutOver below0
def p0 : Program := .bare "" "" ""
def e0 : Env := launch0.env 0 0 0
theorem w_frames : about1.frames = Frame.invoking theMethod args0 :: below0 := rfl
set_option maxRecDepth 65536 in
theorem w_args : argsFit about1.vm theMethod args0 = true := by decide +kernel
set_option maxRecDepth 65536 in
theorem w_heap : heapFits about1 = true := by decide +kernel
set_option maxRecDepth 65536 in
theorem w_runnable : about1.curStatus? = some .runnable := by decide +kernel
set_option maxRecDepth 65536 in
theorem w_alone : about1.alone = true := by decide +kernel
set_option maxRecDepth 65536 in
theorem w_named : about1.methodNamed? x = some theMethod := by decide +kernel
set_option maxRecDepth 65536 in
theorem w_hears : about1.hears theMethod below0 = true := by decide +kernel
set_option maxRecDepth 65536 in
theorem w_ripe : about1.ripe theMethod args0 below0 = true := by decide +kernel
theorem w_running : about1.status = .running := rfl
set_option maxRecDepth 65536 in
theorem w_room : about1.hasRoom e0.platform room_1 = true :=
  launch0.hasRoom_least _ room_1 (by decide +kernel) (by decide +kernel) (by decide +kernel) (by decide +kernel) (by decide +kernel) (by decide +kernel)
theorem allAtoms_all (ts : List Jvm.Cond) (a : Array Jvm.Value) (st : Jvm.State) : (allAtoms ts).before a st = ts.all (fun c => c.before a st) := by
  induction ts with
  | nil => rfl
  | cons c t ih =>
    show (Jvm.Cond.and c (allAtoms t)).before a st = _
    rw [Jvm.Cond.before_and, ih, List.all_cons]
def words1 : List Jvm.Cond := Jvm.Cond.code x code maxLocals ret :: tables_1
/-- a 'code' word, met by the world's own term for the bytes: nothing is compared byte by byte -/
theorem code_word {y : MethodName} {bytes : ByteArray} {mx : Nat} {rt : Option FieldType} {a : Array Value} {s : State} {m : MethodId} {meth : Method} {c : Code} (h1 : s.methodNamed? y = some m) (h2 : s.vm.method? m = some meth) (h3 : meth.code = some c) (h4 : c.code = bytes)
    (h5 : (c.maxLocals == mx && c.exceptionTable.isEmpty && decide (c.maxStack ≤ mostOperands) && decide (meth.sig.returnType = rt) && !meth.locks && decide (parseMethodDescriptor y.desc = some meth.sig)) = true) : (Jvm.Cond.code y bytes mx rt).before a s = true := by
  simp only [Bool.and_eq_true, beq_iff_eq, Bool.not_eq_true', decide_eq_true_eq] at h5
  obtain ⟨⟨⟨⟨⟨g1, g2⟩, g3⟩, g4⟩, g5⟩, g6⟩ := h5
  simp [Cond.before, Cond.holds, Cond.value, h1, h2, h3, h4, g1, g2, g3, g4, g5, g6]
def isCode : Jvm.Cond → Bool
  | .code _ _ _ _ => true
  | _ => false
theorem all_split {L : List Jvm.Cond} {P : Jvm.Cond → Bool} (h1 : L.all (fun c => isCode c || P c) = true) (h2 : ∀ c ∈ L.filter isCode, P c = true) : L.all P = true := by
  refine List.all_eq_true.mpr fun c hc => ?_
  have h := List.all_eq_true.mp h1 c hc
  rcases Bool.eq_false_or_eq_true (isCode c) with hi | hi
  · exact h2 c (List.mem_filter.mpr ⟨hc, hi⟩)
  · simpa [hi] using h
set_option maxRecDepth 65536 in
theorem w_c0 : (Jvm.Cond.code x code maxLocals ret).before args0 about1 = true := code_word (m := ⟨1, 1⟩) (meth := k1m1) (c := k1c1) (by decide +kernel) rfl rfl rfl (by decide +kernel)
set_option maxRecDepth 65536 in
theorem w_c1 : (Jvm.Cond.code ({ cls := "com/example/onceword/onceword/memory/ByteMap", name := "recordBytes", desc := "([B[B)J" } : Jvm.MethodName) prog_11_method_2_code (2 : Nat) (Option.some Jvm.ClassFile.FieldType.long)).before args0 about1 = true := code_word (m := ⟨2, 1⟩) (meth := k2m1) (c := k2c1) (by decide +kernel) rfl rfl rfl (by decide +kernel)
def codes1 : List Jvm.Cond := [Jvm.Cond.code x code maxLocals ret, Jvm.Cond.code ({ cls := "com/example/onceword/onceword/memory/ByteMap", name := "recordBytes", desc := "([B[B)J" } : Jvm.MethodName) prog_11_method_2_code (2 : Nat) (Option.some Jvm.ClassFile.FieldType.long)]
set_option maxRecDepth 65536 in
theorem codes_eq : words1.filter isCode = codes1 := rfl
theorem w_codes : ∀ c ∈ words1.filter isCode, c.before args0 about1 = true := by
  rw [codes_eq]
  intro c hc
  simp only [codes1, List.mem_cons, List.not_mem_nil, or_false] at hc
  rcases hc with rfl | rfl
  · exact w_c0
  · exact w_c1
set_option maxRecDepth 65536 in
theorem w_t1 : words1.all (fun c => isCode c || c.before args0 about1) = true := by decide +kernel
theorem w_tables : (allAtoms (Jvm.Cond.code x code maxLocals ret :: tables_1)).before args0 about1 = true := by
  rw [allAtoms_all]
  show words1.all (fun c => c.before args0 about1) = true
  refine all_split ?_ w_codes
  rw [w_t1]
set_option maxRecDepth 65536 in
theorem w_case : (Jvm.Cond.and given_1 narrow_1).before args0 about1 = true := by decide +kernel
theorem w_applies : (headSpec (Jvm.Cond.code x code maxLocals ret :: tables_1) room_1).applies x e0.platform about1 = true :=
  (Spec.applies_iff w_frames).mpr ⟨w_running, w_runnable, w_alone, w_named, w_hears, w_ripe, w_room, w_tables⟩
theorem atStart : AtStart classFile x code maxLocals ret World_1 tables_1 room_1 Calls_1 rest_1 Pre_1 launch0 p0 e0 about1 theMethod args0 below0 :=
  ⟨lists_1, trivial, launch0.admits_env _ _ _, launch0.least_env, fairChoices_fair.cas, fairChoices_fair.clock, w_frames, w_args, w_heap, w_applies, trivial, trivial, w_case⟩
end start1
theorem witness_1 : WitnessClaimed_1 := ⟨start1.p0, start1.e0, start1.about1, start1.theMethod, start1.args0, start1.below0, start1.atStart⟩
end Jvm.Pilot.@@N@@
