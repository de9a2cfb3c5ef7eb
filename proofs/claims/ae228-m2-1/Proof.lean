import JvmDerived
import JvmDerived.Pilot.@@N@@Statement
import JvmDerived.Pilot.@@N@@Code
set_option linter.unusedVariables false
set_option linter.unusedSimpArgs false
namespace Jvm.RoadKit
open Sem ClassFile Op Lib Jvm.Stand Jvm.Free Jvm.LawKit
section New
variable {p : Program} {l : Launch} {e : Env} {R : Room} {s : State} {m : MethodId} {args : Array Value} {below : List Frame} {meth : Method} {c : Code} {T : State} {locs : List Loc} {cells slots : Nat}
theorem retI (X : Stand p l e R s m args below meth c T locs cells slots) (hx : p.tables.exec = Jvm.exec) {pc : Nat} {Ls : Array Slot} {z : Int32} {rest : List Value} (hret : meth.sig.returnType = some .int) (hd : decode c.code pc = .ok (.ireturn, 1)) {fs : List Frame}
    (hl : ∀ (f : JFrame) (acts : List Action), f.method = m → f.locked = none → f.entered = [] → (doReturn e (T.setTop f) acts (some (.int z))).1 = T.setFrames fs) : Steps p.tables e below (T.setTop (mkF m pc Ls (.int z :: rest))) (T.setFrames fs) := by
  have hm' : T.vm.method? m = some meth := X.method'
  have hn : narrow .int (.int z) = .int z := rfl
  show Steps p.tables e below (T.setTop { method := m, pc := pc, locals := Ls, stack := _ :: rest, locked := none }) _
  jvm_step X.here [X.here.top, hx, hd, hm', hret, hn]
  first | (intro acts; rw [hl _ acts rfl rfl rfl]) | rw [hl _ _ rfl rfl rfl]
  exact Steps.refl _
theorem own_retJ (X : Stand p l e R s m args below meth c T locs cells slots) (hx : p.tables.exec = Jvm.exec) {pc : Nat} {Ls : Array Slot} {z : Int64} {rest : List Value} (hret : meth.sig.returnType = some .long) (hd : decode c.code pc = .ok (.lreturn, 1)) {fs : List Frame}
    (hl : ∀ (f : JFrame) (acts : List Action), f.method = m → f.locked = none → f.entered = [] → (doReturn e (T.setTop f) acts (some (.long z))).1 = T.setFrames fs) : Steps p.tables e below (T.setTop (mkF m pc Ls (.long z :: rest))) (T.setFrames fs) := by
  have hm' : T.vm.method? m = some meth := X.method'
  show Steps p.tables e below (T.setTop { method := m, pc := pc, locals := Ls, stack := _ :: rest, locked := none }) _
  jvm_step X.here [X.here.top, hx, hd, hm', hret, narrow]
  first | (intro acts; rw [hl _ acts rfl rfl rfl]) | rw [hl _ _ rfl rfl rfl]
  exact Steps.refl _
end New
end Jvm.RoadKit
namespace Jvm.RoadKit
open Sem ClassFile Op Lib Jvm.Stand Jvm.Free Jvm.LawKit
section Rem
variable {p : Program} {l : Launch} {e : Env} {R : Room} {s : State} {m : MethodId} {args : Array Value} {below : List Frame} {meth : Method} {c : Code} {T : State} {locs : List Loc} {cells slots : Nat}
theorem own_lremM {g : JFrame} {target : State} (X : Stand p l e R s m args below meth c T locs cells slots) (hx : p.tables.exec = Jvm.exec) (hg : g.method = m) {x y : Int64} {rest : List Value} (hd : decode c.code g.pc = .ok (.lrem, 1)) (hs : g.stack = .long y :: .long x :: rest) (hy : y ≠ 0)
    (hr : Steps p.tables e below (T.setTop { g with pc := g.pc + 1, stack := .long (x % y) :: rest }) target) : Steps p.tables e below (T.setTop g) target :=
  XS.lrem X.here hx hg hd hs hy (by rw [lrem_mod]; exact hr)
end Rem
end Jvm.RoadKit
namespace Jvm.Pilot.@@N@@
open Jvm Jvm.ClassFile Sem Op Lib Jvm.Free Jvm.Stand Jvm.LawKit Jvm.RoadKit Bundle Jvm.Pilot.@@N@@.Jvm.D

def own_P : List Int64 := [1, 10, 100, 1000, 10000, 100000, 1000000, 10000000, 100000000, 1000000000, 10000000000, 100000000000, 1000000000000, 10000000000000, 100000000000000, 1000000000000000, 10000000000000000, 100000000000000000, 1000000000000000000]
def own_D (q w : Int64) : Int32 := ((((48 : Int64) + ((q / w) % (10 : Int64))).toInt32).toInt8.toInt32).toInt8.toInt32
def own_cell (p1 p2 p3 : Int32) (q4 : Int64) (p5 p6 p7 p8 : Int32) : Int32 :=
  if (p1 - p2) < (0 : Int32) then p8.toInt8.toInt32
  else if (p1 - p2) < p3 then
    (if p6 = (0 : Int32) then own_D q4 (own_P.getD ((p3 - (1 : Int32)) - (p1 - p2)).toNatClampNeg 0)
     else if (p1 - p2) = p5 then p7.toInt8.toInt32 else own_D q4 (own_P.getD ((p3 - (1 : Int32)) - (p1 - p2)).toNatClampNeg 0))
  else p8.toInt8.toInt32
def own_isd (f : Nat → Int32) : Nat → Nat → Int32
  | _, 0 => 1
  | i, k + 1 => if f i < (48 : Int32) then 0 else if (57 : Int32) < f i then 0 else own_isd f (i + 1) k
def own_dig (f : Nat → Int32) : Nat → Nat → Int64 → Int64
  | _, 0, acc => acc
  | i, k + 1, acc => own_dig f (i + 1) k ((((10 : Int64) * acc) + ((f i).toInt64)) - (48 : Int64))
def own_wn (f : Nat → Int32) (i n : Nat) : Int64 := if n = 0 then -1 else if 18 < n then -1 else if own_isd f i n = (0 : Int32) then -1 else own_dig f i n 0
def own_bad (fl len : Int32) : Int32 := if (fl &&& (1 : Int32)) = (0 : Int32) then 0 else if (0 : Int32) < len then 1 else 0
def own_pos (fl len : Int32) : Int32 := if (0 : Int32) < len then (((fl.toUInt32 >>> ((1 : Int32) &&& 31).toUInt32).toInt32) % len) else 0
def own_r (x : Int32) : Int32 := if (x.toInt8.toInt32) < (48 : Int32) then x.toInt8.toInt32 else if (57 : Int32) < (x.toInt8.toInt32) then x.toInt8.toInt32 else (x.toInt8.toInt32) - (10 : Int32)
def own_exp (m : Int64) (len bad : Int32) : Int64 := if len = (0 : Int32) then -1 else if (18 : Int32) < len then -1 else if bad = (0 : Int32) then m % (own_P.getD len.toNatClampNeg 0) else -1
theorem own_nat {i : Nat} (h : i < 2147483648) : (Int32.ofNat i).toInt = (i : Int) := Int32.toInt_ofNat_of_lt (by simpa using h)
theorem own_clamp {i : Nat} (h : i < 2147483648) : (Int32.ofNat i).toNatClampNeg = i := by
  show (Int32.ofNat i).toInt.toNat = i
  rw [own_nat h]; rfl
theorem own_up {i : Nat} (h : i + 1 < 2147483648) : Int32.ofNat i + (1 : Int32) = Int32.ofNat (i + 1) := by
  apply Int32.toInt_inj.mp
  have a := c_iadd (Int32.ofNat i) 1
  have o : (1 : Int32).toInt = 1 := by decide +kernel
  have r := rng32 (Int32.ofNat i + 1)
  rw [own_nat (by omega)] at a
  rw [own_nat h]
  omega
theorem own_ltN {i j : Nat} (hi : i < 2147483648) (hj : j < 2147483648) : Int32.ofNat i < Int32.ofNat j ↔ i < j := by
  rw [Int32.lt_iff_toInt_lt, own_nat hi, own_nat hj]; omega
theorem own_lt0 {i : Nat} (hi : i < 2147483648) : ¬ (Int32.ofNat i < (0 : Int32)) := by
  have z : (0 : Int32).toInt = 0 := by decide +kernel
  rw [Int32.lt_iff_toInt_lt, own_nat hi]; omega
theorem own_Pnz : ∀ k, k < 19 → ¬ (own_P.getD k 0 = (0 : Int64)) := by decide +kernel
theorem own_Pget (k : Nat) : (own_P.map Value.long).getD k (.long (0 : Int64)) = .long (own_P.getD k 0) := by
  rw [List.getD_eq_getElem?_getD, List.getD_eq_getElem?_getD, List.getElem?_map]
  cases own_P[k]? <;> rfl
theorem own_lc (a b : Int64) (h : a = b) : lcmpW a b = (0 : Int32) := (lw_eq a b).mpr h
theorem own_in {c : Cell} {i n : Nat} (S : c.slots.size = n) (hi : i < n) (h : n < 2147483648) : ¬ (Int32.ofNat i < 0 ∨ c.slots.size ≤ (Int32.ofNat i).toNatClampNeg) := by
  rw [own_clamp (by omega), S]
  intro q
  rcases q with q | q
  · exact own_lt0 (by omega) q
  · omega
theorem d1_0 : decode method_3_code 0 = .ok (.iload_n 0, 1) := by decide +kernel
theorem d1_1 : decode method_3_code 1 = .ok (.iload_n 1, 1) := by decide +kernel
theorem d1_2 : decode method_3_code 2 = .ok (.isub, 1) := by decide +kernel
theorem d1_3 : decode method_3_code 3 = .ok (.istore 10, 2) := by decide +kernel
theorem d1_5 : decode method_3_code 5 = .ok (.iload 10, 2) := by decide +kernel
theorem d1_7 : decode method_3_code 7 = .ok (.ifCond .lt 9, 3) := by decide +kernel
theorem d1_16 : decode method_3_code 16 = .ok (.iload 8, 2) := by decide +kernel
theorem d1_18 : decode method_3_code 18 = .ok (.ireturn, 1) := by decide +kernel
theorem pn_1 : plainName "quotewarden/NumbersWholeNumberPinLaw" = true := by first | (simp [plainName, overriddenIn]; done) | decide +kernel
theorem ef_1 (m : MethodId) (x0 : Int32) (x1 : Int32) (x2 : Int32) (x3 : Int64) (x4 : Int32) (x5 : Int32) (x6 : Int32) (x7 : Int32) (x8 : Addr) : entryFrame m #[(.int x0), (.int x1), (.int x2), (.long x3), (.int x4), (.int x5), (.int x6), (.int x7), (.ref x8)] 13 = mkF m 0 #[.val (.int x0), .val (.int x1), .val (.int x2), .val (.long x3), .second, .val (.int x4), .val (.int x5), .val (.int x6), .val (.int x7), .val (.ref x8), .unset, .unset, .unset] [] := by first | (simp [entryFrame, mkF, argsToLocals, Value.category]; done) | rfl
theorem d1_10 : decode method_3_code 10 = .ok (.iload 10, 2) := by decide +kernel
theorem d1_12 : decode method_3_code 12 = .ok (.iload_n 2, 1) := by decide +kernel
theorem d1_13 : decode method_3_code 13 = .ok (.if_icmp .lt 6, 3) := by decide +kernel
theorem d1_19 : decode method_3_code 19 = .ok (.iload 6, 2) := by decide +kernel
theorem d1_21 : decode method_3_code 21 = .ok (.ifCond .eq 13, 3) := by decide +kernel
theorem d1_34 : decode method_3_code 34 = .ok (.lload_n 3, 1) := by decide +kernel
theorem d1_35 : decode method_3_code 35 = .ok (.aload 9, 2) := by decide +kernel
theorem d1_37 : decode method_3_code 37 = .ok (.iload_n 2, 1) := by decide +kernel
theorem d1_38 : decode method_3_code 38 = .ok (.iconst 1, 1) := by decide +kernel
theorem d1_39 : decode method_3_code 39 = .ok (.isub, 1) := by decide +kernel
theorem d1_40 : decode method_3_code 40 = .ok (.iload 10, 2) := by decide +kernel
theorem d1_42 : decode method_3_code 42 = .ok (.isub, 1) := by decide +kernel
theorem d1_43 : decode method_3_code 43 = .ok (.laload, 1) := by decide +kernel
theorem d1_44 : decode method_3_code 44 = .ok (.ldiv, 1) := by decide +kernel
theorem d1_45 : decode method_3_code 45 = .ok (.ldc2_w 7, 3) := by decide +kernel
theorem d1_48 : decode method_3_code 48 = .ok (.lrem, 1) := by decide +kernel
theorem d1_49 : decode method_3_code 49 = .ok (.lstore 11, 2) := by decide +kernel
theorem d1_51 : decode method_3_code 51 = .ok (.ldc2_w 62, 3) := by decide +kernel
theorem d1_54 : decode method_3_code 54 = .ok (.lload 11, 2) := by decide +kernel
theorem d1_56 : decode method_3_code 56 = .ok (.ladd, 1) := by decide +kernel
theorem d1_57 : decode method_3_code 57 = .ok (.l2i, 1) := by decide +kernel
theorem d1_58 : decode method_3_code 58 = .ok (.i2b, 1) := by decide +kernel
theorem d1_59 : decode method_3_code 59 = .ok (.ireturn, 1) := by decide +kernel
theorem d1_24 : decode method_3_code 24 = .ok (.iload 10, 2) := by decide +kernel
theorem d1_26 : decode method_3_code 26 = .ok (.iload 5, 2) := by decide +kernel
theorem d1_28 : decode method_3_code 28 = .ok (.if_icmp .ne 6, 3) := by decide +kernel
theorem d1_31 : decode method_3_code 31 = .ok (.iload 7, 2) := by decide +kernel
theorem d1_33 : decode method_3_code 33 = .ok (.ireturn, 1) := by decide +kernel
def Q1 (Z : State) (p1 : Int32) (p2 : Int32) (p3 : Int32) (q4 : Int64) (p5 : Int32) (p6 : Int32) (p7 : Int32) (p8 : Int32) (a9 : Addr) (h0 : Heap) (n0 : Nat) (v : Option Value) (h : Heap) (L : List Loc) : Prop := v = some (.int (own_cell p1 p2 p3 q4 p5 p6 p7 p8)) ∧ Fr n0 L ∧ h = h0
set_option maxRecDepth 65536 in
set_option maxHeartbeats 40000000 in
theorem rm1_t (l : Launch) (Z : State) (a0 : Array Value) (hw : ∀ d ∈ tables_1, d.before a0 Z = true) (ws : List Jvm.Cond) (p1 : Int32) (p2 : Int32) (p3 : Int32) (q4 : Int64) (p5 : Int32) (p6 : Int32) (p7 : Int32) (p8 : Int32) (a9 : Addr) (h0 : Heap) (n0 : Nat) (Z0 : n0 ≤ h0.size) (hc7 : (p1 - p2) < (0 : Int32)) :
    MetFree l (⟨"quotewarden/NumbersWholeNumberPinLaw", "cell", "(IIIJIZBB[J)B"⟩ : MethodName) (head1 (Jvm.Cond.code (⟨"quotewarden/NumbersWholeNumberPinLaw", "cell", "(IIIJIZBB[J)B"⟩ : MethodName) method_3_code 13 (some .byte) :: ws) ({ frames := 0, cells := 0, slots := 0, locals := 0 } : Room)) (fun a U => a = #[(.int p1), (.int p2), (.int p3), (.long q4), (.int p5), (.int p6), (.int p7), (.int p8), (.ref a9)] ∧ Z.Warmed39 U.vm ∧ U.heap = h0) (fun _ _ _ _ _ => True) (fun _ U o U' => ∃ v L, o = .returned v ∧ Q1 Z p1 p2 p3 q4 p5 p6 p7 p8 a9 h0 n0 v U'.heap L ∧ FrameEnd U o U' L ({ frames := 0, cells := 0, slots := 0, locals := 0 } : Room).cells ({ frames := 0, cells := 0, slots := 0, locals := 0 } : Room).slots) := by
  refine MetFree.of_bodySF (plainFor_of_name pn_1) hisR ?_
  intro p e s m args below meth c s₁ Bd hml0 hP hK
  obtain ⟨rfl, hZ, hh⟩ := hP
  have hx := Bd.exec
  have hby := Bd.bytes
  have hml : c.maxLocals = 13 := hml0
  have hown : s.vm.findClass "quotewarden/NumbersWholeNumberPinLaw" = some m.cls := findClass_of_methodNamed Bd.named
  have hnm := (name_of_methodNamed Bd.named Bd.method).1
  have X0 : Stand p l e ({ frames := 0, cells := 0, slots := 0, locals := 0 } : Room) s m #[(.int p1), (.int p2), (.int p3), (.long q4), (.int p5), (.int p6), (.int p7), (.int p8), (.ref a9)] below meth c s₁ [] 0 0 := Stand.of_body Bd
  have e0 : s₁.heap = h0 := by rw [← hh, Bd.state]; rfl
  have N0 := Fr.nil n0
  have pre0 : ∀ t, Steps p.tables e below (s₁.setTop (mkF m 0 #[.val (.int p1), .val (.int p2), .val (.int p3), .val (.long q4), .second, .val (.int p5), .val (.int p6), .val (.int p7), .val (.int p8), .val (.ref a9), .unset, .unset, .unset] [])) t → Steps p.tables e below (s₁.setTop (entryFrame m #[(.int p1), (.int p2), (.int p3), (.long q4), (.int p5), (.int p6), (.int p7), (.int p8), (.ref a9)] 13)) t := fun t k => castTop (ef_1 m p1 p2 p3 q4 p5 p6 p7 p8 a9) k

  obtain ⟨fs, hr, hrun, hended, hW, hsame⟩ := X0.leave (v := some (.int ((p8).toInt8.toInt32))) (fun h => by rw [Bd.returns] at h; cases h)
  refine ⟨_, _, pre0 _ ?_, hrun, hended, _, _, rfl, ?_, ⟨_, rfl⟩, hW, hsame.mono (by decide) (by decide)⟩
  · show Steps p.tables e below (s₁.setTop (mkF m 0 #[.val (.int p1), .val (.int p2), .val (.int p3), .val (.long q4), .second, .val (.int p5), .val (.int p6), .val (.int p7), .val (.int p8), .val (.ref a9), .unset, .unset, .unset] [])) _
    refine XS.iloadN X0.here hx rfl (hb hby d1_0) rfl ?_
    show Steps p.tables e below (s₁.setTop (mkF m 1 #[.val (.int p1), .val (.int p2), .val (.int p3), .val (.long q4), .second, .val (.int p5), .val (.int p6), .val (.int p7), .val (.int p8), .val (.ref a9), .unset, .unset, .unset] [(.int p1)])) _
    refine XS.iloadN X0.here hx rfl (hb hby d1_1) rfl ?_
    show Steps p.tables e below (s₁.setTop (mkF m 2 #[.val (.int p1), .val (.int p2), .val (.int p3), .val (.long q4), .second, .val (.int p5), .val (.int p6), .val (.int p7), .val (.int p8), .val (.ref a9), .unset, .unset, .unset] [(.int p2), (.int p1)])) _
    refine XS.isub X0.here hx rfl (hb hby d1_2) rfl ?_
    show Steps p.tables e below (s₁.setTop (mkF m 3 #[.val (.int p1), .val (.int p2), .val (.int p3), .val (.long q4), .second, .val (.int p5), .val (.int p6), .val (.int p7), .val (.int p8), .val (.ref a9), .unset, .unset, .unset] [(.int (p1 - p2))])) _
    refine XS.istore X0.here hx rfl (hb hby d1_3) rfl (l' := #[.val (.int p1), .val (.int p2), .val (.int p3), .val (.long q4), .second, .val (.int p5), .val (.int p6), .val (.int p7), .val (.int p8), .val (.ref a9), .val (.int (p1 - p2)), .unset, .unset]) rfl ?_
    show Steps p.tables e below (s₁.setTop (mkF m 5 #[.val (.int p1), .val (.int p2), .val (.int p3), .val (.long q4), .second, .val (.int p5), .val (.int p6), .val (.int p7), .val (.int p8), .val (.ref a9), .val (.int (p1 - p2)), .unset, .unset] [])) _
    refine XS.iload X0.here hx rfl (hb hby d1_5) rfl ?_
    show Steps p.tables e below (s₁.setTop (mkF m 7 #[.val (.int p1), .val (.int p2), .val (.int p3), .val (.long q4), .second, .val (.int p5), .val (.int p6), .val (.int p7), .val (.int p8), .val (.ref a9), .val (.int (p1 - p2)), .unset, .unset] [(.int (p1 - p2))])) _
    refine XS.ifYes X0.here hx rfl (pc0 := 7) (pc' := 16) rfl (hb hby d1_7) rfl ((if0 _ _).trans (tlt hc7).1) (by decide) (by decide) ?_
    show Steps p.tables e below (s₁.setTop (mkF m 16 #[.val (.int p1), .val (.int p2), .val (.int p3), .val (.long q4), .second, .val (.int p5), .val (.int p6), .val (.int p7), .val (.int p8), .val (.ref a9), .val (.int (p1 - p2)), .unset, .unset] [])) _
    refine XS.iload X0.here hx rfl (hb hby d1_16) rfl ?_
    show Steps p.tables e below (s₁.setTop (mkF m 18 #[.val (.int p1), .val (.int p2), .val (.int p3), .val (.long q4), .second, .val (.int p5), .val (.int p6), .val (.int p7), .val (.int p8), .val (.ref a9), .val (.int (p1 - p2)), .unset, .unset] [(.int p8)])) _
    exact retN X0 hx (t := .byte) Bd.returns (by simp) (hb hby d1_18) hr
  · show Q1 Z p1 p2 p3 q4 p5 p6 p7 p8 a9 h0 n0 _ s₁.heap _
    rw [e0]
    exact ⟨by rw [own_cell, if_pos hc7], N0, rfl⟩
set_option maxRecDepth 65536 in
set_option maxHeartbeats 40000000 in
theorem rm1_ff (l : Launch) (Z : State) (a0 : Array Value) (hw : ∀ d ∈ tables_1, d.before a0 Z = true) (ws : List Jvm.Cond) (p1 : Int32) (p2 : Int32) (p3 : Int32) (q4 : Int64) (p5 : Int32) (p6 : Int32) (p7 : Int32) (p8 : Int32) (a9 : Addr) (h0 : Heap) (n0 : Nat) (Z0 : n0 ≤ h0.size) (hc7 : ¬ ((p1 - p2) < (0 : Int32))) (hc13 : ¬ ((p1 - p2) < p3)) :
    MetFree l (⟨"quotewarden/NumbersWholeNumberPinLaw", "cell", "(IIIJIZBB[J)B"⟩ : MethodName) (head1 (Jvm.Cond.code (⟨"quotewarden/NumbersWholeNumberPinLaw", "cell", "(IIIJIZBB[J)B"⟩ : MethodName) method_3_code 13 (some .byte) :: ws) ({ frames := 0, cells := 0, slots := 0, locals := 0 } : Room)) (fun a U => a = #[(.int p1), (.int p2), (.int p3), (.long q4), (.int p5), (.int p6), (.int p7), (.int p8), (.ref a9)] ∧ Z.Warmed39 U.vm ∧ U.heap = h0) (fun _ _ _ _ _ => True) (fun _ U o U' => ∃ v L, o = .returned v ∧ Q1 Z p1 p2 p3 q4 p5 p6 p7 p8 a9 h0 n0 v U'.heap L ∧ FrameEnd U o U' L ({ frames := 0, cells := 0, slots := 0, locals := 0 } : Room).cells ({ frames := 0, cells := 0, slots := 0, locals := 0 } : Room).slots) := by
  refine MetFree.of_bodySF (plainFor_of_name pn_1) hisR ?_
  intro p e s m args below meth c s₁ Bd hml0 hP hK
  obtain ⟨rfl, hZ, hh⟩ := hP
  have hx := Bd.exec
  have hby := Bd.bytes
  have hml : c.maxLocals = 13 := hml0
  have hown : s.vm.findClass "quotewarden/NumbersWholeNumberPinLaw" = some m.cls := findClass_of_methodNamed Bd.named
  have hnm := (name_of_methodNamed Bd.named Bd.method).1
  have X0 : Stand p l e ({ frames := 0, cells := 0, slots := 0, locals := 0 } : Room) s m #[(.int p1), (.int p2), (.int p3), (.long q4), (.int p5), (.int p6), (.int p7), (.int p8), (.ref a9)] below meth c s₁ [] 0 0 := Stand.of_body Bd
  have e0 : s₁.heap = h0 := by rw [← hh, Bd.state]; rfl
  have N0 := Fr.nil n0
  have pre0 : ∀ t, Steps p.tables e below (s₁.setTop (mkF m 0 #[.val (.int p1), .val (.int p2), .val (.int p3), .val (.long q4), .second, .val (.int p5), .val (.int p6), .val (.int p7), .val (.int p8), .val (.ref a9), .unset, .unset, .unset] [])) t → Steps p.tables e below (s₁.setTop (entryFrame m #[(.int p1), (.int p2), (.int p3), (.long q4), (.int p5), (.int p6), (.int p7), (.int p8), (.ref a9)] 13)) t := fun t k => castTop (ef_1 m p1 p2 p3 q4 p5 p6 p7 p8 a9) k

  obtain ⟨fs, hr, hrun, hended, hW, hsame⟩ := X0.leave (v := some (.int ((p8).toInt8.toInt32))) (fun h => by rw [Bd.returns] at h; cases h)
  refine ⟨_, _, pre0 _ ?_, hrun, hended, _, _, rfl, ?_, ⟨_, rfl⟩, hW, hsame.mono (by decide) (by decide)⟩
  · show Steps p.tables e below (s₁.setTop (mkF m 0 #[.val (.int p1), .val (.int p2), .val (.int p3), .val (.long q4), .second, .val (.int p5), .val (.int p6), .val (.int p7), .val (.int p8), .val (.ref a9), .unset, .unset, .unset] [])) _
    refine XS.iloadN X0.here hx rfl (hb hby d1_0) rfl ?_
    show Steps p.tables e below (s₁.setTop (mkF m 1 #[.val (.int p1), .val (.int p2), .val (.int p3), .val (.long q4), .second, .val (.int p5), .val (.int p6), .val (.int p7), .val (.int p8), .val (.ref a9), .unset, .unset, .unset] [(.int p1)])) _
    refine XS.iloadN X0.here hx rfl (hb hby d1_1) rfl ?_
    show Steps p.tables e below (s₁.setTop (mkF m 2 #[.val (.int p1), .val (.int p2), .val (.int p3), .val (.long q4), .second, .val (.int p5), .val (.int p6), .val (.int p7), .val (.int p8), .val (.ref a9), .unset, .unset, .unset] [(.int p2), (.int p1)])) _
    refine XS.isub X0.here hx rfl (hb hby d1_2) rfl ?_
    show Steps p.tables e below (s₁.setTop (mkF m 3 #[.val (.int p1), .val (.int p2), .val (.int p3), .val (.long q4), .second, .val (.int p5), .val (.int p6), .val (.int p7), .val (.int p8), .val (.ref a9), .unset, .unset, .unset] [(.int (p1 - p2))])) _
    refine XS.istore X0.here hx rfl (hb hby d1_3) rfl (l' := #[.val (.int p1), .val (.int p2), .val (.int p3), .val (.long q4), .second, .val (.int p5), .val (.int p6), .val (.int p7), .val (.int p8), .val (.ref a9), .val (.int (p1 - p2)), .unset, .unset]) rfl ?_
    show Steps p.tables e below (s₁.setTop (mkF m 5 #[.val (.int p1), .val (.int p2), .val (.int p3), .val (.long q4), .second, .val (.int p5), .val (.int p6), .val (.int p7), .val (.int p8), .val (.ref a9), .val (.int (p1 - p2)), .unset, .unset] [])) _
    refine XS.iload X0.here hx rfl (hb hby d1_5) rfl ?_
    show Steps p.tables e below (s₁.setTop (mkF m 7 #[.val (.int p1), .val (.int p2), .val (.int p3), .val (.long q4), .second, .val (.int p5), .val (.int p6), .val (.int p7), .val (.int p8), .val (.ref a9), .val (.int (p1 - p2)), .unset, .unset] [(.int (p1 - p2))])) _
    refine XS.ifNo X0.here hx rfl (hb hby d1_7) rfl ((if0 _ _).trans (flt hc7).1) ?_
    show Steps p.tables e below (s₁.setTop (mkF m 10 #[.val (.int p1), .val (.int p2), .val (.int p3), .val (.long q4), .second, .val (.int p5), .val (.int p6), .val (.int p7), .val (.int p8), .val (.ref a9), .val (.int (p1 - p2)), .unset, .unset] [])) _
    refine XS.iload X0.here hx rfl (hb hby d1_10) rfl ?_
    show Steps p.tables e below (s₁.setTop (mkF m 12 #[.val (.int p1), .val (.int p2), .val (.int p3), .val (.long q4), .second, .val (.int p5), .val (.int p6), .val (.int p7), .val (.int p8), .val (.ref a9), .val (.int (p1 - p2)), .unset, .unset] [(.int (p1 - p2))])) _
    refine XS.iloadN X0.here hx rfl (hb hby d1_12) rfl ?_
    show Steps p.tables e below (s₁.setTop (mkF m 13 #[.val (.int p1), .val (.int p2), .val (.int p3), .val (.long q4), .second, .val (.int p5), .val (.int p6), .val (.int p7), .val (.int p8), .val (.ref a9), .val (.int (p1 - p2)), .unset, .unset] [(.int p3), (.int (p1 - p2))])) _
    refine XS.icmpNo X0.here hx rfl (hb hby d1_13) rfl (flt hc13).1 ?_
    show Steps p.tables e below (s₁.setTop (mkF m 16 #[.val (.int p1), .val (.int p2), .val (.int p3), .val (.long q4), .second, .val (.int p5), .val (.int p6), .val (.int p7), .val (.int p8), .val (.ref a9), .val (.int (p1 - p2)), .unset, .unset] [])) _
    refine XS.iload X0.here hx rfl (hb hby d1_16) rfl ?_
    show Steps p.tables e below (s₁.setTop (mkF m 18 #[.val (.int p1), .val (.int p2), .val (.int p3), .val (.long q4), .second, .val (.int p5), .val (.int p6), .val (.int p7), .val (.int p8), .val (.ref a9), .val (.int (p1 - p2)), .unset, .unset] [(.int p8)])) _
    exact retN X0 hx (t := .byte) Bd.returns (by simp) (hb hby d1_18) hr
  · show Q1 Z p1 p2 p3 q4 p5 p6 p7 p8 a9 h0 n0 _ s₁.heap _
    rw [e0]
    exact ⟨by rw [own_cell, if_neg hc7, if_neg hc13], N0, rfl⟩
set_option maxRecDepth 65536 in
set_option maxHeartbeats 40000000 in
theorem rm1_ftt (l : Launch) (Z : State) (a0 : Array Value) (hw : ∀ d ∈ tables_1, d.before a0 Z = true) (ws : List Jvm.Cond) (p1 : Int32) (p2 : Int32) (p3 : Int32) (q4 : Int64) (p5 : Int32) (p6 : Int32) (p7 : Int32) (p8 : Int32) (a9 : Addr) (w10 : Int64) (cl_a9 : Cell) (h0 : Heap) (n0 : Nat) (Z0 : n0 ≤ h0.size) (Ar_a9 : Arr Z h0 a9 cl_a9 .long) (hin43 : ¬ (((p3 - (1 : Int32)) - (p1 - p2)) < 0 ∨ cl_a9.slots.size ≤ (((p3 - (1 : Int32)) - (p1 - p2))).toNatClampNeg)) (hat43 : cl_a9.slots[(((p3 - (1 : Int32)) - (p1 - p2))).toNatClampNeg]? = some (.long w10)) (hc7 : ¬ ((p1 - p2) < (0 : Int32))) (hc13 : (p1 - p2) < p3) (hc21 : p6 = (0 : Int32)) (hnz44 : ¬ (w10 = (0 : Int64))) (hw10 : w10 = own_P.getD (((p3 - (1 : Int32)) - (p1 - p2))).toNatClampNeg 0) :
    MetFree l (⟨"quotewarden/NumbersWholeNumberPinLaw", "cell", "(IIIJIZBB[J)B"⟩ : MethodName) (head1 (Jvm.Cond.code (⟨"quotewarden/NumbersWholeNumberPinLaw", "cell", "(IIIJIZBB[J)B"⟩ : MethodName) method_3_code 13 (some .byte) :: ws) ({ frames := 0, cells := 0, slots := 0, locals := 0 } : Room)) (fun a U => a = #[(.int p1), (.int p2), (.int p3), (.long q4), (.int p5), (.int p6), (.int p7), (.int p8), (.ref a9)] ∧ Z.Warmed39 U.vm ∧ U.heap = h0) (fun _ _ _ _ _ => True) (fun _ U o U' => ∃ v L, o = .returned v ∧ Q1 Z p1 p2 p3 q4 p5 p6 p7 p8 a9 h0 n0 v U'.heap L ∧ FrameEnd U o U' L ({ frames := 0, cells := 0, slots := 0, locals := 0 } : Room).cells ({ frames := 0, cells := 0, slots := 0, locals := 0 } : Room).slots) := by
  refine MetFree.of_bodySF (plainFor_of_name pn_1) hisR ?_
  intro p e s m args below meth c s₁ Bd hml0 hP hK
  obtain ⟨rfl, hZ, hh⟩ := hP
  have hx := Bd.exec
  have hby := Bd.bytes
  have hml : c.maxLocals = 13 := hml0
  have hown : s.vm.findClass "quotewarden/NumbersWholeNumberPinLaw" = some m.cls := findClass_of_methodNamed Bd.named
  have hnm := (name_of_methodNamed Bd.named Bd.method).1
  have X0 : Stand p l e ({ frames := 0, cells := 0, slots := 0, locals := 0 } : Room) s m #[(.int p1), (.int p2), (.int p3), (.long q4), (.int p5), (.int p6), (.int p7), (.int p8), (.ref a9)] below meth c s₁ [] 0 0 := Stand.of_body Bd
  have e0 : s₁.heap = h0 := by rw [← hh, Bd.state]; rfl
  have N0 := Fr.nil n0
  have pre0 : ∀ t, Steps p.tables e below (s₁.setTop (mkF m 0 #[.val (.int p1), .val (.int p2), .val (.int p3), .val (.long q4), .second, .val (.int p5), .val (.int p6), .val (.int p7), .val (.int p8), .val (.ref a9), .unset, .unset, .unset] [])) t → Steps p.tables e below (s₁.setTop (entryFrame m #[(.int p1), (.int p2), (.int p3), (.long q4), (.int p5), (.int p6), (.int p7), (.int p8), (.ref a9)] 13)) t := fun t k => castTop (ef_1 m p1 p2 p3 q4 p5 p6 p7 p8 a9) k

  obtain ⟨fs, hr, hrun, hended, hW, hsame⟩ := X0.leave (v := some (.int ((((((48 : Int64) + ((q4 / w10) % (10 : Int64))).toInt32).toInt8.toInt32)).toInt8.toInt32))) (fun h => by rw [Bd.returns] at h; cases h)
  refine ⟨_, _, pre0 _ ?_, hrun, hended, _, _, rfl, ?_, ⟨_, rfl⟩, hW, hsame.mono (by decide) (by decide)⟩
  · show Steps p.tables e below (s₁.setTop (mkF m 0 #[.val (.int p1), .val (.int p2), .val (.int p3), .val (.long q4), .second, .val (.int p5), .val (.int p6), .val (.int p7), .val (.int p8), .val (.ref a9), .unset, .unset, .unset] [])) _
    refine XS.iloadN X0.here hx rfl (hb hby d1_0) rfl ?_
    show Steps p.tables e below (s₁.setTop (mkF m 1 #[.val (.int p1), .val (.int p2), .val (.int p3), .val (.long q4), .second, .val (.int p5), .val (.int p6), .val (.int p7), .val (.int p8), .val (.ref a9), .unset, .unset, .unset] [(.int p1)])) _
    refine XS.iloadN X0.here hx rfl (hb hby d1_1) rfl ?_
    show Steps p.tables e below (s₁.setTop (mkF m 2 #[.val (.int p1), .val (.int p2), .val (.int p3), .val (.long q4), .second, .val (.int p5), .val (.int p6), .val (.int p7), .val (.int p8), .val (.ref a9), .unset, .unset, .unset] [(.int p2), (.int p1)])) _
    refine XS.isub X0.here hx rfl (hb hby d1_2) rfl ?_
    show Steps p.tables e below (s₁.setTop (mkF m 3 #[.val (.int p1), .val (.int p2), .val (.int p3), .val (.long q4), .second, .val (.int p5), .val (.int p6), .val (.int p7), .val (.int p8), .val (.ref a9), .unset, .unset, .unset] [(.int (p1 - p2))])) _
    refine XS.istore X0.here hx rfl (hb hby d1_3) rfl (l' := #[.val (.int p1), .val (.int p2), .val (.int p3), .val (.long q4), .second, .val (.int p5), .val (.int p6), .val (.int p7), .val (.int p8), .val (.ref a9), .val (.int (p1 - p2)), .unset, .unset]) rfl ?_
    show Steps p.tables e below (s₁.setTop (mkF m 5 #[.val (.int p1), .val (.int p2), .val (.int p3), .val (.long q4), .second, .val (.int p5), .val (.int p6), .val (.int p7), .val (.int p8), .val (.ref a9), .val (.int (p1 - p2)), .unset, .unset] [])) _
    refine XS.iload X0.here hx rfl (hb hby d1_5) rfl ?_
    show Steps p.tables e below (s₁.setTop (mkF m 7 #[.val (.int p1), .val (.int p2), .val (.int p3), .val (.long q4), .second, .val (.int p5), .val (.int p6), .val (.int p7), .val (.int p8), .val (.ref a9), .val (.int (p1 - p2)), .unset, .unset] [(.int (p1 - p2))])) _
    refine XS.ifNo X0.here hx rfl (hb hby d1_7) rfl ((if0 _ _).trans (flt hc7).1) ?_
    show Steps p.tables e below (s₁.setTop (mkF m 10 #[.val (.int p1), .val (.int p2), .val (.int p3), .val (.long q4), .second, .val (.int p5), .val (.int p6), .val (.int p7), .val (.int p8), .val (.ref a9), .val (.int (p1 - p2)), .unset, .unset] [])) _
    refine XS.iload X0.here hx rfl (hb hby d1_10) rfl ?_
    show Steps p.tables e below (s₁.setTop (mkF m 12 #[.val (.int p1), .val (.int p2), .val (.int p3), .val (.long q4), .second, .val (.int p5), .val (.int p6), .val (.int p7), .val (.int p8), .val (.ref a9), .val (.int (p1 - p2)), .unset, .unset] [(.int (p1 - p2))])) _
    refine XS.iloadN X0.here hx rfl (hb hby d1_12) rfl ?_
    show Steps p.tables e below (s₁.setTop (mkF m 13 #[.val (.int p1), .val (.int p2), .val (.int p3), .val (.long q4), .second, .val (.int p5), .val (.int p6), .val (.int p7), .val (.int p8), .val (.ref a9), .val (.int (p1 - p2)), .unset, .unset] [(.int p3), (.int (p1 - p2))])) _
    refine XS.icmpYes X0.here hx rfl (pc0 := 13) (pc' := 19) rfl (hb hby d1_13) rfl (tlt hc13).1 (by decide) (by decide) ?_
    show Steps p.tables e below (s₁.setTop (mkF m 19 #[.val (.int p1), .val (.int p2), .val (.int p3), .val (.long q4), .second, .val (.int p5), .val (.int p6), .val (.int p7), .val (.int p8), .val (.ref a9), .val (.int (p1 - p2)), .unset, .unset] [])) _
    refine XS.iload X0.here hx rfl (hb hby d1_19) rfl ?_
    show Steps p.tables e below (s₁.setTop (mkF m 21 #[.val (.int p1), .val (.int p2), .val (.int p3), .val (.long q4), .second, .val (.int p5), .val (.int p6), .val (.int p7), .val (.int p8), .val (.ref a9), .val (.int (p1 - p2)), .unset, .unset] [(.int p6)])) _
    refine XS.ifYes X0.here hx rfl (pc0 := 21) (pc' := 34) rfl (hb hby d1_21) rfl ((if0 _ _).trans (teq hc21).1) (by decide) (by decide) ?_
    show Steps p.tables e below (s₁.setTop (mkF m 34 #[.val (.int p1), .val (.int p2), .val (.int p3), .val (.long q4), .second, .val (.int p5), .val (.int p6), .val (.int p7), .val (.int p8), .val (.ref a9), .val (.int (p1 - p2)), .unset, .unset] [])) _
    refine XS.lloadN X0.here hx rfl (hb hby d1_34) rfl ?_
    show Steps p.tables e below (s₁.setTop (mkF m 35 #[.val (.int p1), .val (.int p2), .val (.int p3), .val (.long q4), .second, .val (.int p5), .val (.int p6), .val (.int p7), .val (.int p8), .val (.ref a9), .val (.int (p1 - p2)), .unset, .unset] [(.long q4)])) _
    refine XS.aload X0.here hx rfl (hb hby d1_35) rfl rfl ?_
    show Steps p.tables e below (s₁.setTop (mkF m 37 #[.val (.int p1), .val (.int p2), .val (.int p3), .val (.long q4), .second, .val (.int p5), .val (.int p6), .val (.int p7), .val (.int p8), .val (.ref a9), .val (.int (p1 - p2)), .unset, .unset] [(.ref a9), (.long q4)])) _
    refine XS.iloadN X0.here hx rfl (hb hby d1_37) rfl ?_
    show Steps p.tables e below (s₁.setTop (mkF m 38 #[.val (.int p1), .val (.int p2), .val (.int p3), .val (.long q4), .second, .val (.int p5), .val (.int p6), .val (.int p7), .val (.int p8), .val (.ref a9), .val (.int (p1 - p2)), .unset, .unset] [(.int p3), (.ref a9), (.long q4)])) _
    refine XS.iconst X0.here hx rfl (hb hby d1_38) ?_
    show Steps p.tables e below (s₁.setTop (mkF m 39 #[.val (.int p1), .val (.int p2), .val (.int p3), .val (.long q4), .second, .val (.int p5), .val (.int p6), .val (.int p7), .val (.int p8), .val (.ref a9), .val (.int (p1 - p2)), .unset, .unset] [(.int (1 : Int32)), (.int p3), (.ref a9), (.long q4)])) _
    refine XS.isub X0.here hx rfl (hb hby d1_39) rfl ?_
    show Steps p.tables e below (s₁.setTop (mkF m 40 #[.val (.int p1), .val (.int p2), .val (.int p3), .val (.long q4), .second, .val (.int p5), .val (.int p6), .val (.int p7), .val (.int p8), .val (.ref a9), .val (.int (p1 - p2)), .unset, .unset] [(.int (p3 - (1 : Int32))), (.ref a9), (.long q4)])) _
    refine XS.iload X0.here hx rfl (hb hby d1_40) rfl ?_
    show Steps p.tables e below (s₁.setTop (mkF m 42 #[.val (.int p1), .val (.int p2), .val (.int p3), .val (.long q4), .second, .val (.int p5), .val (.int p6), .val (.int p7), .val (.int p8), .val (.ref a9), .val (.int (p1 - p2)), .unset, .unset] [(.int (p1 - p2)), (.int (p3 - (1 : Int32))), (.ref a9), (.long q4)])) _
    refine XS.isub X0.here hx rfl (hb hby d1_42) rfl ?_
    show Steps p.tables e below (s₁.setTop (mkF m 43 #[.val (.int p1), .val (.int p2), .val (.int p3), .val (.long q4), .second, .val (.int p5), .val (.int p6), .val (.int p7), .val (.int p8), .val (.ref a9), .val (.int (p1 - p2)), .unset, .unset] [(.int ((p3 - (1 : Int32)) - (p1 - p2))), (.ref a9), (.long q4)])) _
    refine X0.laload hx (j := ((p3 - (1 : Int32)) - (p1 - p2))) (v := (.long w10)) (by rw [e0]; exact Ar_a9.1) (State.isArrayOf_alike hZ.alike Ar_a9.2.1) Ar_a9.2.2 hin43 hat43 (g := (mkF m 43 #[.val (.int p1), .val (.int p2), .val (.int p3), .val (.long q4), .second, .val (.int p5), .val (.int p6), .val (.int p7), .val (.int p8), .val (.ref a9), .val (.int (p1 - p2)), .unset, .unset] [(.int ((p3 - (1 : Int32)) - (p1 - p2))), (.ref a9), (.long q4)])) rfl rfl (hb hby d1_43) _ ?_
    show Steps p.tables e below (s₁.setTop (mkF m 44 #[.val (.int p1), .val (.int p2), .val (.int p3), .val (.long q4), .second, .val (.int p5), .val (.int p6), .val (.int p7), .val (.int p8), .val (.ref a9), .val (.int (p1 - p2)), .unset, .unset] [(.long w10), (.long q4)])) _
    refine XS.ldiv X0.here hx rfl (hb hby d1_44) rfl hnz44 ?_
    show Steps p.tables e below (s₁.setTop (mkF m 45 #[.val (.int p1), .val (.int p2), .val (.int p3), .val (.long q4), .second, .val (.int p5), .val (.int p6), .val (.int p7), .val (.int p8), .val (.ref a9), .val (.int (p1 - p2)), .unset, .unset] [(.long (q4 / w10))])) _
    refine X0.ldc2Long hx hown (mvT hZ (hw _ (List.mem_of_getElem? (i := 1) rfl))) (g := (mkF m 45 #[.val (.int p1), .val (.int p2), .val (.int p3), .val (.long q4), .second, .val (.int p5), .val (.int p6), .val (.int p7), .val (.int p8), .val (.ref a9), .val (.int (p1 - p2)), .unset, .unset] [(.long (q4 / w10))])) rfl (hb hby d1_45) _ ?_
    show Steps p.tables e below (s₁.setTop (mkF m 48 #[.val (.int p1), .val (.int p2), .val (.int p3), .val (.long q4), .second, .val (.int p5), .val (.int p6), .val (.int p7), .val (.int p8), .val (.ref a9), .val (.int (p1 - p2)), .unset, .unset] [(.long (10 : Int64)), (.long (q4 / w10))])) _
    refine own_lremM X0 hx rfl (hb hby d1_48) rfl (by decide) ?_
    show Steps p.tables e below (s₁.setTop (mkF m 49 #[.val (.int p1), .val (.int p2), .val (.int p3), .val (.long q4), .second, .val (.int p5), .val (.int p6), .val (.int p7), .val (.int p8), .val (.ref a9), .val (.int (p1 - p2)), .unset, .unset] [(.long ((q4 / w10) % (10 : Int64)))])) _
    refine XS.lstore X0.here hx rfl (hb hby d1_49) rfl (l' := #[.val (.int p1), .val (.int p2), .val (.int p3), .val (.long q4), .second, .val (.int p5), .val (.int p6), .val (.int p7), .val (.int p8), .val (.ref a9), .val (.int (p1 - p2)), .val (.long ((q4 / w10) % (10 : Int64))), .second]) rfl ?_
    show Steps p.tables e below (s₁.setTop (mkF m 51 #[.val (.int p1), .val (.int p2), .val (.int p3), .val (.long q4), .second, .val (.int p5), .val (.int p6), .val (.int p7), .val (.int p8), .val (.ref a9), .val (.int (p1 - p2)), .val (.long ((q4 / w10) % (10 : Int64))), .second] [])) _
    refine X0.ldc2Long hx hown (mvT hZ (hw _ (List.mem_of_getElem? (i := 26) rfl))) (g := (mkF m 51 #[.val (.int p1), .val (.int p2), .val (.int p3), .val (.long q4), .second, .val (.int p5), .val (.int p6), .val (.int p7), .val (.int p8), .val (.ref a9), .val (.int (p1 - p2)), .val (.long ((q4 / w10) % (10 : Int64))), .second] [])) rfl (hb hby d1_51) _ ?_
    show Steps p.tables e below (s₁.setTop (mkF m 54 #[.val (.int p1), .val (.int p2), .val (.int p3), .val (.long q4), .second, .val (.int p5), .val (.int p6), .val (.int p7), .val (.int p8), .val (.ref a9), .val (.int (p1 - p2)), .val (.long ((q4 / w10) % (10 : Int64))), .second] [(.long (48 : Int64))])) _
    refine XS.lload X0.here hx rfl (hb hby d1_54) rfl ?_
    show Steps p.tables e below (s₁.setTop (mkF m 56 #[.val (.int p1), .val (.int p2), .val (.int p3), .val (.long q4), .second, .val (.int p5), .val (.int p6), .val (.int p7), .val (.int p8), .val (.ref a9), .val (.int (p1 - p2)), .val (.long ((q4 / w10) % (10 : Int64))), .second] [(.long ((q4 / w10) % (10 : Int64))), (.long (48 : Int64))])) _
    refine XS.ladd X0.here hx rfl (hb hby d1_56) rfl ?_
    show Steps p.tables e below (s₁.setTop (mkF m 57 #[.val (.int p1), .val (.int p2), .val (.int p3), .val (.long q4), .second, .val (.int p5), .val (.int p6), .val (.int p7), .val (.int p8), .val (.ref a9), .val (.int (p1 - p2)), .val (.long ((q4 / w10) % (10 : Int64))), .second] [(.long ((48 : Int64) + ((q4 / w10) % (10 : Int64))))])) _
    refine XS.l2i X0.here hx rfl (hb hby d1_57) rfl ?_
    show Steps p.tables e below (s₁.setTop (mkF m 58 #[.val (.int p1), .val (.int p2), .val (.int p3), .val (.long q4), .second, .val (.int p5), .val (.int p6), .val (.int p7), .val (.int p8), .val (.ref a9), .val (.int (p1 - p2)), .val (.long ((q4 / w10) % (10 : Int64))), .second] [(.int (((48 : Int64) + ((q4 / w10) % (10 : Int64))).toInt32))])) _
    refine XS.i2b X0.here hx rfl (hb hby d1_58) rfl ?_
    show Steps p.tables e below (s₁.setTop (mkF m 59 #[.val (.int p1), .val (.int p2), .val (.int p3), .val (.long q4), .second, .val (.int p5), .val (.int p6), .val (.int p7), .val (.int p8), .val (.ref a9), .val (.int (p1 - p2)), .val (.long ((q4 / w10) % (10 : Int64))), .second] [(.int ((((48 : Int64) + ((q4 / w10) % (10 : Int64))).toInt32).toInt8.toInt32))])) _
    exact retN X0 hx (t := .byte) Bd.returns (by simp) (hb hby d1_59) hr
  · show Q1 Z p1 p2 p3 q4 p5 p6 p7 p8 a9 h0 n0 _ s₁.heap _
    rw [e0]
    exact ⟨by rw [own_cell, if_neg hc7, if_pos hc13, if_pos hc21, ← hw10]; rfl, N0, rfl⟩
set_option maxRecDepth 65536 in
set_option maxHeartbeats 40000000 in
theorem rm1_ftft (l : Launch) (Z : State) (a0 : Array Value) (hw : ∀ d ∈ tables_1, d.before a0 Z = true) (ws : List Jvm.Cond) (p1 : Int32) (p2 : Int32) (p3 : Int32) (q4 : Int64) (p5 : Int32) (p6 : Int32) (p7 : Int32) (p8 : Int32) (a9 : Addr) (w10 : Int64) (cl_a9 : Cell) (h0 : Heap) (n0 : Nat) (Z0 : n0 ≤ h0.size) (Ar_a9 : Arr Z h0 a9 cl_a9 .long) (hin43 : ¬ (((p3 - (1 : Int32)) - (p1 - p2)) < 0 ∨ cl_a9.slots.size ≤ (((p3 - (1 : Int32)) - (p1 - p2))).toNatClampNeg)) (hat43 : cl_a9.slots[(((p3 - (1 : Int32)) - (p1 - p2))).toNatClampNeg]? = some (.long w10)) (hc7 : ¬ ((p1 - p2) < (0 : Int32))) (hc13 : (p1 - p2) < p3) (hc21 : ¬ (p6 = (0 : Int32))) (hc28 : ¬ ((p1 - p2) = p5)) (hnz44 : ¬ (w10 = (0 : Int64))) (hw10 : w10 = own_P.getD (((p3 - (1 : Int32)) - (p1 - p2))).toNatClampNeg 0) :
    MetFree l (⟨"quotewarden/NumbersWholeNumberPinLaw", "cell", "(IIIJIZBB[J)B"⟩ : MethodName) (head1 (Jvm.Cond.code (⟨"quotewarden/NumbersWholeNumberPinLaw", "cell", "(IIIJIZBB[J)B"⟩ : MethodName) method_3_code 13 (some .byte) :: ws) ({ frames := 0, cells := 0, slots := 0, locals := 0 } : Room)) (fun a U => a = #[(.int p1), (.int p2), (.int p3), (.long q4), (.int p5), (.int p6), (.int p7), (.int p8), (.ref a9)] ∧ Z.Warmed39 U.vm ∧ U.heap = h0) (fun _ _ _ _ _ => True) (fun _ U o U' => ∃ v L, o = .returned v ∧ Q1 Z p1 p2 p3 q4 p5 p6 p7 p8 a9 h0 n0 v U'.heap L ∧ FrameEnd U o U' L ({ frames := 0, cells := 0, slots := 0, locals := 0 } : Room).cells ({ frames := 0, cells := 0, slots := 0, locals := 0 } : Room).slots) := by
  refine MetFree.of_bodySF (plainFor_of_name pn_1) hisR ?_
  intro p e s m args below meth c s₁ Bd hml0 hP hK
  obtain ⟨rfl, hZ, hh⟩ := hP
  have hx := Bd.exec
  have hby := Bd.bytes
  have hml : c.maxLocals = 13 := hml0
  have hown : s.vm.findClass "quotewarden/NumbersWholeNumberPinLaw" = some m.cls := findClass_of_methodNamed Bd.named
  have hnm := (name_of_methodNamed Bd.named Bd.method).1
  have X0 : Stand p l e ({ frames := 0, cells := 0, slots := 0, locals := 0 } : Room) s m #[(.int p1), (.int p2), (.int p3), (.long q4), (.int p5), (.int p6), (.int p7), (.int p8), (.ref a9)] below meth c s₁ [] 0 0 := Stand.of_body Bd
  have e0 : s₁.heap = h0 := by rw [← hh, Bd.state]; rfl
  have N0 := Fr.nil n0
  have pre0 : ∀ t, Steps p.tables e below (s₁.setTop (mkF m 0 #[.val (.int p1), .val (.int p2), .val (.int p3), .val (.long q4), .second, .val (.int p5), .val (.int p6), .val (.int p7), .val (.int p8), .val (.ref a9), .unset, .unset, .unset] [])) t → Steps p.tables e below (s₁.setTop (entryFrame m #[(.int p1), (.int p2), (.int p3), (.long q4), (.int p5), (.int p6), (.int p7), (.int p8), (.ref a9)] 13)) t := fun t k => castTop (ef_1 m p1 p2 p3 q4 p5 p6 p7 p8 a9) k

  obtain ⟨fs, hr, hrun, hended, hW, hsame⟩ := X0.leave (v := some (.int ((((((48 : Int64) + ((q4 / w10) % (10 : Int64))).toInt32).toInt8.toInt32)).toInt8.toInt32))) (fun h => by rw [Bd.returns] at h; cases h)
  refine ⟨_, _, pre0 _ ?_, hrun, hended, _, _, rfl, ?_, ⟨_, rfl⟩, hW, hsame.mono (by decide) (by decide)⟩
  · show Steps p.tables e below (s₁.setTop (mkF m 0 #[.val (.int p1), .val (.int p2), .val (.int p3), .val (.long q4), .second, .val (.int p5), .val (.int p6), .val (.int p7), .val (.int p8), .val (.ref a9), .unset, .unset, .unset] [])) _
    refine XS.iloadN X0.here hx rfl (hb hby d1_0) rfl ?_
    show Steps p.tables e below (s₁.setTop (mkF m 1 #[.val (.int p1), .val (.int p2), .val (.int p3), .val (.long q4), .second, .val (.int p5), .val (.int p6), .val (.int p7), .val (.int p8), .val (.ref a9), .unset, .unset, .unset] [(.int p1)])) _
    refine XS.iloadN X0.here hx rfl (hb hby d1_1) rfl ?_
    show Steps p.tables e below (s₁.setTop (mkF m 2 #[.val (.int p1), .val (.int p2), .val (.int p3), .val (.long q4), .second, .val (.int p5), .val (.int p6), .val (.int p7), .val (.int p8), .val (.ref a9), .unset, .unset, .unset] [(.int p2), (.int p1)])) _
    refine XS.isub X0.here hx rfl (hb hby d1_2) rfl ?_
    show Steps p.tables e below (s₁.setTop (mkF m 3 #[.val (.int p1), .val (.int p2), .val (.int p3), .val (.long q4), .second, .val (.int p5), .val (.int p6), .val (.int p7), .val (.int p8), .val (.ref a9), .unset, .unset, .unset] [(.int (p1 - p2))])) _
    refine XS.istore X0.here hx rfl (hb hby d1_3) rfl (l' := #[.val (.int p1), .val (.int p2), .val (.int p3), .val (.long q4), .second, .val (.int p5), .val (.int p6), .val (.int p7), .val (.int p8), .val (.ref a9), .val (.int (p1 - p2)), .unset, .unset]) rfl ?_
    show Steps p.tables e below (s₁.setTop (mkF m 5 #[.val (.int p1), .val (.int p2), .val (.int p3), .val (.long q4), .second, .val (.int p5), .val (.int p6), .val (.int p7), .val (.int p8), .val (.ref a9), .val (.int (p1 - p2)), .unset, .unset] [])) _
    refine XS.iload X0.here hx rfl (hb hby d1_5) rfl ?_
    show Steps p.tables e below (s₁.setTop (mkF m 7 #[.val (.int p1), .val (.int p2), .val (.int p3), .val (.long q4), .second, .val (.int p5), .val (.int p6), .val (.int p7), .val (.int p8), .val (.ref a9), .val (.int (p1 - p2)), .unset, .unset] [(.int (p1 - p2))])) _
    refine XS.ifNo X0.here hx rfl (hb hby d1_7) rfl ((if0 _ _).trans (flt hc7).1) ?_
    show Steps p.tables e below (s₁.setTop (mkF m 10 #[.val (.int p1), .val (.int p2), .val (.int p3), .val (.long q4), .second, .val (.int p5), .val (.int p6), .val (.int p7), .val (.int p8), .val (.ref a9), .val (.int (p1 - p2)), .unset, .unset] [])) _
    refine XS.iload X0.here hx rfl (hb hby d1_10) rfl ?_
    show Steps p.tables e below (s₁.setTop (mkF m 12 #[.val (.int p1), .val (.int p2), .val (.int p3), .val (.long q4), .second, .val (.int p5), .val (.int p6), .val (.int p7), .val (.int p8), .val (.ref a9), .val (.int (p1 - p2)), .unset, .unset] [(.int (p1 - p2))])) _
    refine XS.iloadN X0.here hx rfl (hb hby d1_12) rfl ?_
    show Steps p.tables e below (s₁.setTop (mkF m 13 #[.val (.int p1), .val (.int p2), .val (.int p3), .val (.long q4), .second, .val (.int p5), .val (.int p6), .val (.int p7), .val (.int p8), .val (.ref a9), .val (.int (p1 - p2)), .unset, .unset] [(.int p3), (.int (p1 - p2))])) _
    refine XS.icmpYes X0.here hx rfl (pc0 := 13) (pc' := 19) rfl (hb hby d1_13) rfl (tlt hc13).1 (by decide) (by decide) ?_
    show Steps p.tables e below (s₁.setTop (mkF m 19 #[.val (.int p1), .val (.int p2), .val (.int p3), .val (.long q4), .second, .val (.int p5), .val (.int p6), .val (.int p7), .val (.int p8), .val (.ref a9), .val (.int (p1 - p2)), .unset, .unset] [])) _
    refine XS.iload X0.here hx rfl (hb hby d1_19) rfl ?_
    show Steps p.tables e below (s₁.setTop (mkF m 21 #[.val (.int p1), .val (.int p2), .val (.int p3), .val (.long q4), .second, .val (.int p5), .val (.int p6), .val (.int p7), .val (.int p8), .val (.ref a9), .val (.int (p1 - p2)), .unset, .unset] [(.int p6)])) _
    refine XS.ifNo X0.here hx rfl (hb hby d1_21) rfl ((if0 _ _).trans (feq hc21).1) ?_
    show Steps p.tables e below (s₁.setTop (mkF m 24 #[.val (.int p1), .val (.int p2), .val (.int p3), .val (.long q4), .second, .val (.int p5), .val (.int p6), .val (.int p7), .val (.int p8), .val (.ref a9), .val (.int (p1 - p2)), .unset, .unset] [])) _
    refine XS.iload X0.here hx rfl (hb hby d1_24) rfl ?_
    show Steps p.tables e below (s₁.setTop (mkF m 26 #[.val (.int p1), .val (.int p2), .val (.int p3), .val (.long q4), .second, .val (.int p5), .val (.int p6), .val (.int p7), .val (.int p8), .val (.ref a9), .val (.int (p1 - p2)), .unset, .unset] [(.int (p1 - p2))])) _
    refine XS.iload X0.here hx rfl (hb hby d1_26) rfl ?_
    show Steps p.tables e below (s₁.setTop (mkF m 28 #[.val (.int p1), .val (.int p2), .val (.int p3), .val (.long q4), .second, .val (.int p5), .val (.int p6), .val (.int p7), .val (.int p8), .val (.ref a9), .val (.int (p1 - p2)), .unset, .unset] [(.int p5), (.int (p1 - p2))])) _
    refine XS.icmpYes X0.here hx rfl (pc0 := 28) (pc' := 34) rfl (hb hby d1_28) rfl (feq hc28).2 (by decide) (by decide) ?_
    show Steps p.tables e below (s₁.setTop (mkF m 34 #[.val (.int p1), .val (.int p2), .val (.int p3), .val (.long q4), .second, .val (.int p5), .val (.int p6), .val (.int p7), .val (.int p8), .val (.ref a9), .val (.int (p1 - p2)), .unset, .unset] [])) _
    refine XS.lloadN X0.here hx rfl (hb hby d1_34) rfl ?_
    show Steps p.tables e below (s₁.setTop (mkF m 35 #[.val (.int p1), .val (.int p2), .val (.int p3), .val (.long q4), .second, .val (.int p5), .val (.int p6), .val (.int p7), .val (.int p8), .val (.ref a9), .val (.int (p1 - p2)), .unset, .unset] [(.long q4)])) _
    refine XS.aload X0.here hx rfl (hb hby d1_35) rfl rfl ?_
    show Steps p.tables e below (s₁.setTop (mkF m 37 #[.val (.int p1), .val (.int p2), .val (.int p3), .val (.long q4), .second, .val (.int p5), .val (.int p6), .val (.int p7), .val (.int p8), .val (.ref a9), .val (.int (p1 - p2)), .unset, .unset] [(.ref a9), (.long q4)])) _
    refine XS.iloadN X0.here hx rfl (hb hby d1_37) rfl ?_
    show Steps p.tables e below (s₁.setTop (mkF m 38 #[.val (.int p1), .val (.int p2), .val (.int p3), .val (.long q4), .second, .val (.int p5), .val (.int p6), .val (.int p7), .val (.int p8), .val (.ref a9), .val (.int (p1 - p2)), .unset, .unset] [(.int p3), (.ref a9), (.long q4)])) _
    refine XS.iconst X0.here hx rfl (hb hby d1_38) ?_
    show Steps p.tables e below (s₁.setTop (mkF m 39 #[.val (.int p1), .val (.int p2), .val (.int p3), .val (.long q4), .second, .val (.int p5), .val (.int p6), .val (.int p7), .val (.int p8), .val (.ref a9), .val (.int (p1 - p2)), .unset, .unset] [(.int (1 : Int32)), (.int p3), (.ref a9), (.long q4)])) _
    refine XS.isub X0.here hx rfl (hb hby d1_39) rfl ?_
    show Steps p.tables e below (s₁.setTop (mkF m 40 #[.val (.int p1), .val (.int p2), .val (.int p3), .val (.long q4), .second, .val (.int p5), .val (.int p6), .val (.int p7), .val (.int p8), .val (.ref a9), .val (.int (p1 - p2)), .unset, .unset] [(.int (p3 - (1 : Int32))), (.ref a9), (.long q4)])) _
    refine XS.iload X0.here hx rfl (hb hby d1_40) rfl ?_
    show Steps p.tables e below (s₁.setTop (mkF m 42 #[.val (.int p1), .val (.int p2), .val (.int p3), .val (.long q4), .second, .val (.int p5), .val (.int p6), .val (.int p7), .val (.int p8), .val (.ref a9), .val (.int (p1 - p2)), .unset, .unset] [(.int (p1 - p2)), (.int (p3 - (1 : Int32))), (.ref a9), (.long q4)])) _
    refine XS.isub X0.here hx rfl (hb hby d1_42) rfl ?_
    show Steps p.tables e below (s₁.setTop (mkF m 43 #[.val (.int p1), .val (.int p2), .val (.int p3), .val (.long q4), .second, .val (.int p5), .val (.int p6), .val (.int p7), .val (.int p8), .val (.ref a9), .val (.int (p1 - p2)), .unset, .unset] [(.int ((p3 - (1 : Int32)) - (p1 - p2))), (.ref a9), (.long q4)])) _
    refine X0.laload hx (j := ((p3 - (1 : Int32)) - (p1 - p2))) (v := (.long w10)) (by rw [e0]; exact Ar_a9.1) (State.isArrayOf_alike hZ.alike Ar_a9.2.1) Ar_a9.2.2 hin43 hat43 (g := (mkF m 43 #[.val (.int p1), .val (.int p2), .val (.int p3), .val (.long q4), .second, .val (.int p5), .val (.int p6), .val (.int p7), .val (.int p8), .val (.ref a9), .val (.int (p1 - p2)), .unset, .unset] [(.int ((p3 - (1 : Int32)) - (p1 - p2))), (.ref a9), (.long q4)])) rfl rfl (hb hby d1_43) _ ?_
    show Steps p.tables e below (s₁.setTop (mkF m 44 #[.val (.int p1), .val (.int p2), .val (.int p3), .val (.long q4), .second, .val (.int p5), .val (.int p6), .val (.int p7), .val (.int p8), .val (.ref a9), .val (.int (p1 - p2)), .unset, .unset] [(.long w10), (.long q4)])) _
    refine XS.ldiv X0.here hx rfl (hb hby d1_44) rfl hnz44 ?_
    show Steps p.tables e below (s₁.setTop (mkF m 45 #[.val (.int p1), .val (.int p2), .val (.int p3), .val (.long q4), .second, .val (.int p5), .val (.int p6), .val (.int p7), .val (.int p8), .val (.ref a9), .val (.int (p1 - p2)), .unset, .unset] [(.long (q4 / w10))])) _
    refine X0.ldc2Long hx hown (mvT hZ (hw _ (List.mem_of_getElem? (i := 1) rfl))) (g := (mkF m 45 #[.val (.int p1), .val (.int p2), .val (.int p3), .val (.long q4), .second, .val (.int p5), .val (.int p6), .val (.int p7), .val (.int p8), .val (.ref a9), .val (.int (p1 - p2)), .unset, .unset] [(.long (q4 / w10))])) rfl (hb hby d1_45) _ ?_
    show Steps p.tables e below (s₁.setTop (mkF m 48 #[.val (.int p1), .val (.int p2), .val (.int p3), .val (.long q4), .second, .val (.int p5), .val (.int p6), .val (.int p7), .val (.int p8), .val (.ref a9), .val (.int (p1 - p2)), .unset, .unset] [(.long (10 : Int64)), (.long (q4 / w10))])) _
    refine own_lremM X0 hx rfl (hb hby d1_48) rfl (by decide) ?_
    show Steps p.tables e below (s₁.setTop (mkF m 49 #[.val (.int p1), .val (.int p2), .val (.int p3), .val (.long q4), .second, .val (.int p5), .val (.int p6), .val (.int p7), .val (.int p8), .val (.ref a9), .val (.int (p1 - p2)), .unset, .unset] [(.long ((q4 / w10) % (10 : Int64)))])) _
    refine XS.lstore X0.here hx rfl (hb hby d1_49) rfl (l' := #[.val (.int p1), .val (.int p2), .val (.int p3), .val (.long q4), .second, .val (.int p5), .val (.int p6), .val (.int p7), .val (.int p8), .val (.ref a9), .val (.int (p1 - p2)), .val (.long ((q4 / w10) % (10 : Int64))), .second]) rfl ?_
    show Steps p.tables e below (s₁.setTop (mkF m 51 #[.val (.int p1), .val (.int p2), .val (.int p3), .val (.long q4), .second, .val (.int p5), .val (.int p6), .val (.int p7), .val (.int p8), .val (.ref a9), .val (.int (p1 - p2)), .val (.long ((q4 / w10) % (10 : Int64))), .second] [])) _
    refine X0.ldc2Long hx hown (mvT hZ (hw _ (List.mem_of_getElem? (i := 26) rfl))) (g := (mkF m 51 #[.val (.int p1), .val (.int p2), .val (.int p3), .val (.long q4), .second, .val (.int p5), .val (.int p6), .val (.int p7), .val (.int p8), .val (.ref a9), .val (.int (p1 - p2)), .val (.long ((q4 / w10) % (10 : Int64))), .second] [])) rfl (hb hby d1_51) _ ?_
    show Steps p.tables e below (s₁.setTop (mkF m 54 #[.val (.int p1), .val (.int p2), .val (.int p3), .val (.long q4), .second, .val (.int p5), .val (.int p6), .val (.int p7), .val (.int p8), .val (.ref a9), .val (.int (p1 - p2)), .val (.long ((q4 / w10) % (10 : Int64))), .second] [(.long (48 : Int64))])) _
    refine XS.lload X0.here hx rfl (hb hby d1_54) rfl ?_
    show Steps p.tables e below (s₁.setTop (mkF m 56 #[.val (.int p1), .val (.int p2), .val (.int p3), .val (.long q4), .second, .val (.int p5), .val (.int p6), .val (.int p7), .val (.int p8), .val (.ref a9), .val (.int (p1 - p2)), .val (.long ((q4 / w10) % (10 : Int64))), .second] [(.long ((q4 / w10) % (10 : Int64))), (.long (48 : Int64))])) _
    refine XS.ladd X0.here hx rfl (hb hby d1_56) rfl ?_
    show Steps p.tables e below (s₁.setTop (mkF m 57 #[.val (.int p1), .val (.int p2), .val (.int p3), .val (.long q4), .second, .val (.int p5), .val (.int p6), .val (.int p7), .val (.int p8), .val (.ref a9), .val (.int (p1 - p2)), .val (.long ((q4 / w10) % (10 : Int64))), .second] [(.long ((48 : Int64) + ((q4 / w10) % (10 : Int64))))])) _
    refine XS.l2i X0.here hx rfl (hb hby d1_57) rfl ?_
    show Steps p.tables e below (s₁.setTop (mkF m 58 #[.val (.int p1), .val (.int p2), .val (.int p3), .val (.long q4), .second, .val (.int p5), .val (.int p6), .val (.int p7), .val (.int p8), .val (.ref a9), .val (.int (p1 - p2)), .val (.long ((q4 / w10) % (10 : Int64))), .second] [(.int (((48 : Int64) + ((q4 / w10) % (10 : Int64))).toInt32))])) _
    refine XS.i2b X0.here hx rfl (hb hby d1_58) rfl ?_
    show Steps p.tables e below (s₁.setTop (mkF m 59 #[.val (.int p1), .val (.int p2), .val (.int p3), .val (.long q4), .second, .val (.int p5), .val (.int p6), .val (.int p7), .val (.int p8), .val (.ref a9), .val (.int (p1 - p2)), .val (.long ((q4 / w10) % (10 : Int64))), .second] [(.int ((((48 : Int64) + ((q4 / w10) % (10 : Int64))).toInt32).toInt8.toInt32))])) _
    exact retN X0 hx (t := .byte) Bd.returns (by simp) (hb hby d1_59) hr
  · show Q1 Z p1 p2 p3 q4 p5 p6 p7 p8 a9 h0 n0 _ s₁.heap _
    rw [e0]
    exact ⟨by rw [own_cell, if_neg hc7, if_pos hc13, if_neg hc21, if_neg hc28, ← hw10]; rfl, N0, rfl⟩
set_option maxRecDepth 65536 in
set_option maxHeartbeats 40000000 in
theorem rm1_ftff (l : Launch) (Z : State) (a0 : Array Value) (hw : ∀ d ∈ tables_1, d.before a0 Z = true) (ws : List Jvm.Cond) (p1 : Int32) (p2 : Int32) (p3 : Int32) (q4 : Int64) (p5 : Int32) (p6 : Int32) (p7 : Int32) (p8 : Int32) (a9 : Addr) (h0 : Heap) (n0 : Nat) (Z0 : n0 ≤ h0.size) (hc7 : ¬ ((p1 - p2) < (0 : Int32))) (hc13 : (p1 - p2) < p3) (hc21 : ¬ (p6 = (0 : Int32))) (hc28 : (p1 - p2) = p5) :
    MetFree l (⟨"quotewarden/NumbersWholeNumberPinLaw", "cell", "(IIIJIZBB[J)B"⟩ : MethodName) (head1 (Jvm.Cond.code (⟨"quotewarden/NumbersWholeNumberPinLaw", "cell", "(IIIJIZBB[J)B"⟩ : MethodName) method_3_code 13 (some .byte) :: ws) ({ frames := 0, cells := 0, slots := 0, locals := 0 } : Room)) (fun a U => a = #[(.int p1), (.int p2), (.int p3), (.long q4), (.int p5), (.int p6), (.int p7), (.int p8), (.ref a9)] ∧ Z.Warmed39 U.vm ∧ U.heap = h0) (fun _ _ _ _ _ => True) (fun _ U o U' => ∃ v L, o = .returned v ∧ Q1 Z p1 p2 p3 q4 p5 p6 p7 p8 a9 h0 n0 v U'.heap L ∧ FrameEnd U o U' L ({ frames := 0, cells := 0, slots := 0, locals := 0 } : Room).cells ({ frames := 0, cells := 0, slots := 0, locals := 0 } : Room).slots) := by
  refine MetFree.of_bodySF (plainFor_of_name pn_1) hisR ?_
  intro p e s m args below meth c s₁ Bd hml0 hP hK
  obtain ⟨rfl, hZ, hh⟩ := hP
  have hx := Bd.exec
  have hby := Bd.bytes
  have hml : c.maxLocals = 13 := hml0
  have hown : s.vm.findClass "quotewarden/NumbersWholeNumberPinLaw" = some m.cls := findClass_of_methodNamed Bd.named
  have hnm := (name_of_methodNamed Bd.named Bd.method).1
  have X0 : Stand p l e ({ frames := 0, cells := 0, slots := 0, locals := 0 } : Room) s m #[(.int p1), (.int p2), (.int p3), (.long q4), (.int p5), (.int p6), (.int p7), (.int p8), (.ref a9)] below meth c s₁ [] 0 0 := Stand.of_body Bd
  have e0 : s₁.heap = h0 := by rw [← hh, Bd.state]; rfl
  have N0 := Fr.nil n0
  have pre0 : ∀ t, Steps p.tables e below (s₁.setTop (mkF m 0 #[.val (.int p1), .val (.int p2), .val (.int p3), .val (.long q4), .second, .val (.int p5), .val (.int p6), .val (.int p7), .val (.int p8), .val (.ref a9), .unset, .unset, .unset] [])) t → Steps p.tables e below (s₁.setTop (entryFrame m #[(.int p1), (.int p2), (.int p3), (.long q4), (.int p5), (.int p6), (.int p7), (.int p8), (.ref a9)] 13)) t := fun t k => castTop (ef_1 m p1 p2 p3 q4 p5 p6 p7 p8 a9) k

  obtain ⟨fs, hr, hrun, hended, hW, hsame⟩ := X0.leave (v := some (.int ((p7).toInt8.toInt32))) (fun h => by rw [Bd.returns] at h; cases h)
  refine ⟨_, _, pre0 _ ?_, hrun, hended, _, _, rfl, ?_, ⟨_, rfl⟩, hW, hsame.mono (by decide) (by decide)⟩
  · show Steps p.tables e below (s₁.setTop (mkF m 0 #[.val (.int p1), .val (.int p2), .val (.int p3), .val (.long q4), .second, .val (.int p5), .val (.int p6), .val (.int p7), .val (.int p8), .val (.ref a9), .unset, .unset, .unset] [])) _
    refine XS.iloadN X0.here hx rfl (hb hby d1_0) rfl ?_
    show Steps p.tables e below (s₁.setTop (mkF m 1 #[.val (.int p1), .val (.int p2), .val (.int p3), .val (.long q4), .second, .val (.int p5), .val (.int p6), .val (.int p7), .val (.int p8), .val (.ref a9), .unset, .unset, .unset] [(.int p1)])) _
    refine XS.iloadN X0.here hx rfl (hb hby d1_1) rfl ?_
    show Steps p.tables e below (s₁.setTop (mkF m 2 #[.val (.int p1), .val (.int p2), .val (.int p3), .val (.long q4), .second, .val (.int p5), .val (.int p6), .val (.int p7), .val (.int p8), .val (.ref a9), .unset, .unset, .unset] [(.int p2), (.int p1)])) _
    refine XS.isub X0.here hx rfl (hb hby d1_2) rfl ?_
    show Steps p.tables e below (s₁.setTop (mkF m 3 #[.val (.int p1), .val (.int p2), .val (.int p3), .val (.long q4), .second, .val (.int p5), .val (.int p6), .val (.int p7), .val (.int p8), .val (.ref a9), .unset, .unset, .unset] [(.int (p1 - p2))])) _
    refine XS.istore X0.here hx rfl (hb hby d1_3) rfl (l' := #[.val (.int p1), .val (.int p2), .val (.int p3), .val (.long q4), .second, .val (.int p5), .val (.int p6), .val (.int p7), .val (.int p8), .val (.ref a9), .val (.int (p1 - p2)), .unset, .unset]) rfl ?_
    show Steps p.tables e below (s₁.setTop (mkF m 5 #[.val (.int p1), .val (.int p2), .val (.int p3), .val (.long q4), .second, .val (.int p5), .val (.int p6), .val (.int p7), .val (.int p8), .val (.ref a9), .val (.int (p1 - p2)), .unset, .unset] [])) _
    refine XS.iload X0.here hx rfl (hb hby d1_5) rfl ?_
    show Steps p.tables e below (s₁.setTop (mkF m 7 #[.val (.int p1), .val (.int p2), .val (.int p3), .val (.long q4), .second, .val (.int p5), .val (.int p6), .val (.int p7), .val (.int p8), .val (.ref a9), .val (.int (p1 - p2)), .unset, .unset] [(.int (p1 - p2))])) _
    refine XS.ifNo X0.here hx rfl (hb hby d1_7) rfl ((if0 _ _).trans (flt hc7).1) ?_
    show Steps p.tables e below (s₁.setTop (mkF m 10 #[.val (.int p1), .val (.int p2), .val (.int p3), .val (.long q4), .second, .val (.int p5), .val (.int p6), .val (.int p7), .val (.int p8), .val (.ref a9), .val (.int (p1 - p2)), .unset, .unset] [])) _
    refine XS.iload X0.here hx rfl (hb hby d1_10) rfl ?_
    show Steps p.tables e below (s₁.setTop (mkF m 12 #[.val (.int p1), .val (.int p2), .val (.int p3), .val (.long q4), .second, .val (.int p5), .val (.int p6), .val (.int p7), .val (.int p8), .val (.ref a9), .val (.int (p1 - p2)), .unset, .unset] [(.int (p1 - p2))])) _
    refine XS.iloadN X0.here hx rfl (hb hby d1_12) rfl ?_
    show Steps p.tables e below (s₁.setTop (mkF m 13 #[.val (.int p1), .val (.int p2), .val (.int p3), .val (.long q4), .second, .val (.int p5), .val (.int p6), .val (.int p7), .val (.int p8), .val (.ref a9), .val (.int (p1 - p2)), .unset, .unset] [(.int p3), (.int (p1 - p2))])) _
    refine XS.icmpYes X0.here hx rfl (pc0 := 13) (pc' := 19) rfl (hb hby d1_13) rfl (tlt hc13).1 (by decide) (by decide) ?_
    show Steps p.tables e below (s₁.setTop (mkF m 19 #[.val (.int p1), .val (.int p2), .val (.int p3), .val (.long q4), .second, .val (.int p5), .val (.int p6), .val (.int p7), .val (.int p8), .val (.ref a9), .val (.int (p1 - p2)), .unset, .unset] [])) _
    refine XS.iload X0.here hx rfl (hb hby d1_19) rfl ?_
    show Steps p.tables e below (s₁.setTop (mkF m 21 #[.val (.int p1), .val (.int p2), .val (.int p3), .val (.long q4), .second, .val (.int p5), .val (.int p6), .val (.int p7), .val (.int p8), .val (.ref a9), .val (.int (p1 - p2)), .unset, .unset] [(.int p6)])) _
    refine XS.ifNo X0.here hx rfl (hb hby d1_21) rfl ((if0 _ _).trans (feq hc21).1) ?_
    show Steps p.tables e below (s₁.setTop (mkF m 24 #[.val (.int p1), .val (.int p2), .val (.int p3), .val (.long q4), .second, .val (.int p5), .val (.int p6), .val (.int p7), .val (.int p8), .val (.ref a9), .val (.int (p1 - p2)), .unset, .unset] [])) _
    refine XS.iload X0.here hx rfl (hb hby d1_24) rfl ?_
    show Steps p.tables e below (s₁.setTop (mkF m 26 #[.val (.int p1), .val (.int p2), .val (.int p3), .val (.long q4), .second, .val (.int p5), .val (.int p6), .val (.int p7), .val (.int p8), .val (.ref a9), .val (.int (p1 - p2)), .unset, .unset] [(.int (p1 - p2))])) _
    refine XS.iload X0.here hx rfl (hb hby d1_26) rfl ?_
    show Steps p.tables e below (s₁.setTop (mkF m 28 #[.val (.int p1), .val (.int p2), .val (.int p3), .val (.long q4), .second, .val (.int p5), .val (.int p6), .val (.int p7), .val (.int p8), .val (.ref a9), .val (.int (p1 - p2)), .unset, .unset] [(.int p5), (.int (p1 - p2))])) _
    refine XS.icmpNo X0.here hx rfl (hb hby d1_28) rfl (teq hc28).2 ?_
    show Steps p.tables e below (s₁.setTop (mkF m 31 #[.val (.int p1), .val (.int p2), .val (.int p3), .val (.long q4), .second, .val (.int p5), .val (.int p6), .val (.int p7), .val (.int p8), .val (.ref a9), .val (.int (p1 - p2)), .unset, .unset] [])) _
    refine XS.iload X0.here hx rfl (hb hby d1_31) rfl ?_
    show Steps p.tables e below (s₁.setTop (mkF m 33 #[.val (.int p1), .val (.int p2), .val (.int p3), .val (.long q4), .second, .val (.int p5), .val (.int p6), .val (.int p7), .val (.int p8), .val (.ref a9), .val (.int (p1 - p2)), .unset, .unset] [(.int p7)])) _
    exact retN X0 hx (t := .byte) Bd.returns (by simp) (hb hby d1_33) hr
  · show Q1 Z p1 p2 p3 q4 p5 p6 p7 p8 a9 h0 n0 _ s₁.heap _
    rw [e0]
    exact ⟨by rw [own_cell, if_neg hc7, if_pos hc13, if_neg hc21, if_pos hc28], N0, rfl⟩
set_option maxRecDepth 65536 in
set_option maxHeartbeats 40000000 in
theorem rm1 (l : Launch) (Z : State) (a0 : Array Value) (hw : ∀ d ∈ tables_1, d.before a0 Z = true) (ws : List Jvm.Cond) (p1 : Int32) (p2 : Int32) (p3 : Int32) (q4 : Int64) (p5 : Int32) (p6 : Int32) (p7 : Int32) (p8 : Int32) (a9 : Addr) (h0 : Heap) (n0 : Nat) (Z0 : n0 ≤ h0.size) (kP : ClassId) (V : Arv Z h0 a9 kP .long (19 : Int32) (own_P.map Value.long) (.long (0 : Int64))) (h3 : p3.toInt ≤ 19) :
    MetFree l (⟨"quotewarden/NumbersWholeNumberPinLaw", "cell", "(IIIJIZBB[J)B"⟩ : MethodName) (head1 (Jvm.Cond.code (⟨"quotewarden/NumbersWholeNumberPinLaw", "cell", "(IIIJIZBB[J)B"⟩ : MethodName) method_3_code 13 (some .byte) :: ws) ({ frames := 0, cells := 0, slots := 0, locals := 0 } : Room)) (fun a U => a = #[(.int p1), (.int p2), (.int p3), (.long q4), (.int p5), (.int p6), (.int p7), (.int p8), (.ref a9)] ∧ Z.Warmed39 U.vm ∧ U.heap = h0) (fun _ _ _ _ _ => True) (fun _ U o U' => ∃ v L, o = .returned v ∧ Q1 Z p1 p2 p3 q4 p5 p6 p7 p8 a9 h0 n0 v U'.heap L ∧ FrameEnd U o U' L ({ frames := 0, cells := 0, slots := 0, locals := 0 } : Room).cells ({ frames := 0, cells := 0, slots := 0, locals := 0 } : Room).slots) := by
  by_cases hc7 : (p1 - p2) < (0 : Int32)
  · exact rm1_t l Z a0 hw ws p1 p2 p3 q4 p5 p6 p7 p8 a9 h0 n0 Z0 hc7
  · by_cases hc13 : (p1 - p2) < p3
    · obtain ⟨cl, Ar, -, S, N, H, -⟩ := V
      have z : (0 : Int32).toInt = 0 := by decide +kernel
      have o : (1 : Int32).toInt = 1 := by decide +kernel
      have n19 : (19 : Int32).toNatClampNeg = 19 := by decide +kernel
      have n19i : (19 : Int32).toInt = 19 := by decide +kernel
      have g1 := hc7
      have g2 := hc13
      rw [Int32.lt_iff_toInt_lt] at g1 g2
      have r1 := rng32 p3
      have s1 := c_isub p3 1
      have r2 := rng32 (p3 - 1)
      have s2 := c_isub (p3 - 1) (p1 - p2)
      have r3 := rng32 ((p3 - 1) - (p1 - p2))
      have hin : ¬ (((p3 - (1 : Int32)) - (p1 - p2)) < 0 ∨ cl.slots.size ≤ (((p3 - (1 : Int32)) - (p1 - p2))).toNatClampNeg) := inb_of S ⟨by rw [Int32.lt_iff_toInt_lt]; omega, by rw [Int32.lt_iff_toInt_lt]; omega⟩
      have hk : (((p3 - (1 : Int32)) - (p1 - p2))).toNatClampNeg < 19 := by
        rw [S, n19] at hin; exact Nat.lt_of_not_le fun y => hin (Or.inr y)
      have hat := H.at hin (own_Pget _)
      have hnz := own_Pnz _ hk
      by_cases hc21 : p6 = (0 : Int32)
      · exact rm1_ftt l Z a0 hw ws p1 p2 p3 q4 p5 p6 p7 p8 a9 _ cl h0 n0 Z0 Ar hin hat hc7 hc13 hc21 hnz rfl
      · by_cases hc28 : (p1 - p2) = p5
        · exact rm1_ftff l Z a0 hw ws p1 p2 p3 q4 p5 p6 p7 p8 a9 h0 n0 Z0 hc7 hc13 hc21 hc28
        · exact rm1_ftft l Z a0 hw ws p1 p2 p3 q4 p5 p6 p7 p8 a9 _ cl h0 n0 Z0 Ar hin hat hc7 hc13 hc21 hc28 hnz rfl
    · exact rm1_ff l Z a0 hw ws p1 p2 p3 q4 p5 p6 p7 p8 a9 h0 n0 Z0 hc7 hc13
theorem d3_2 : decode prog_28_method_4_code 2 = .ok (.iload_n 3, 1) := by decide +kernel
theorem d3_3 : decode prog_28_method_4_code 3 = .ok (.iload_n 2, 1) := by decide +kernel
theorem d3_4 : decode prog_28_method_4_code 4 = .ok (.if_icmp .ge 27, 3) := by decide +kernel
theorem d3_7 : decode prog_28_method_4_code 7 = .ok (.aload_n 0, 1) := by decide +kernel
theorem d3_8 : decode prog_28_method_4_code 8 = .ok (.iload_n 3, 1) := by decide +kernel
theorem d3_9 : decode prog_28_method_4_code 9 = .ok (.baload, 1) := by decide +kernel
theorem d3_10 : decode prog_28_method_4_code 10 = .ok (.bipush 48, 2) := by decide +kernel
theorem d3_12 : decode prog_28_method_4_code 12 = .ok (.if_icmp .lt 11, 3) := by decide +kernel
theorem d3_15 : decode prog_28_method_4_code 15 = .ok (.aload_n 0, 1) := by decide +kernel
theorem d3_16 : decode prog_28_method_4_code 16 = .ok (.iload_n 3, 1) := by decide +kernel
theorem d3_17 : decode prog_28_method_4_code 17 = .ok (.baload, 1) := by decide +kernel
theorem d3_18 : decode prog_28_method_4_code 18 = .ok (.bipush 57, 2) := by decide +kernel
theorem d3_20 : decode prog_28_method_4_code 20 = .ok (.if_icmp .le 5, 3) := by decide +kernel
theorem d3_25 : decode prog_28_method_4_code 25 = .ok (.iinc 3 1, 3) := by decide +kernel
theorem d3_28 : decode prog_28_method_4_code 28 = .ok (.goto (-26), 3) := by decide +kernel
set_option maxRecDepth 65536 in
set_option maxHeartbeats 40000000 in
theorem tn3_2_2_go {p : Program} {l : Launch} {e : Env} {R : Room} {s : State} {m : MethodId} {args : Array Value} {below : List Frame} {meth : Method} {c : Code} {T0 : State} {locs : List Loc} {cells slots : Nat} {Z : State} {a0 : Array Value} {h0 : Heap} (o0 : Addr) (s1 : Slot) (i2 : Int32) (i3 : Int32) (w4 : Int32) (cl_o0 : Cell) (w5 : Int32)
    (X0 : Stand p l e R s m args below meth c T0 locs cells slots) (hx : p.tables.exec = Jvm.exec) (hZ : Z.Warmed39 s.vm) (hw : ∀ d ∈ tables_1, d.before a0 Z = true) (hby : c.code = prog_28_method_4_code) (hml : c.maxLocals = 4) (hown : s.vm.findClass "quotewarden/Numbers" = some m.cls) (e0 : T0.heap = h0) (Ar_o0 : Arr Z h0 o0 cl_o0 .byte) (hin9 : ¬ (i3 < 0 ∨ cl_o0.slots.size ≤ (i3).toNatClampNeg)) (hat9 : cl_o0.slots[(i3).toNatClampNeg]? = some (.int w4)) (hin17 : ¬ (i3 < 0 ∨ cl_o0.slots.size ≤ (i3).toNatClampNeg)) (hat17 : cl_o0.slots[(i3).toNatClampNeg]? = some (.int w5)) (hc4 : i3 < i2) (hc12 : ¬ (w4 < (48 : Int32))) (hc20 : ¬ ((57 : Int32) < w5)) :
    ∀ target, Steps p.tables e below (T0.setTop (mkF m 2 #[.val (.ref o0), s1, .val (.int i2), .val (.int (i3 + (1 : Int32)))] [])) target → Steps p.tables e below (T0.setTop (mkF m 2 #[.val (.ref o0), s1, .val (.int i2), .val (.int i3)] [])) target := by

  intro target kt
  show Steps p.tables e below (T0.setTop (mkF m 2 #[.val (.ref o0), s1, .val (.int i2), .val (.int i3)] [])) _
  refine XS.iloadN X0.here hx rfl (hb hby d3_2) rfl ?_
  show Steps p.tables e below (T0.setTop (mkF m 3 #[.val (.ref o0), s1, .val (.int i2), .val (.int i3)] [(.int i3)])) _
  refine XS.iloadN X0.here hx rfl (hb hby d3_3) rfl ?_
  show Steps p.tables e below (T0.setTop (mkF m 4 #[.val (.ref o0), s1, .val (.int i2), .val (.int i3)] [(.int i2), (.int i3)])) _
  refine XS.icmpNo X0.here hx rfl (hb hby d3_4) rfl (tlt hc4).2.1 ?_
  show Steps p.tables e below (T0.setTop (mkF m 7 #[.val (.ref o0), s1, .val (.int i2), .val (.int i3)] [])) _
  refine XS.aloadN X0.here hx rfl (hb hby d3_7) rfl rfl ?_
  show Steps p.tables e below (T0.setTop (mkF m 8 #[.val (.ref o0), s1, .val (.int i2), .val (.int i3)] [(.ref o0)])) _
  refine XS.iloadN X0.here hx rfl (hb hby d3_8) rfl ?_
  show Steps p.tables e below (T0.setTop (mkF m 9 #[.val (.ref o0), s1, .val (.int i2), .val (.int i3)] [(.int i3), (.ref o0)])) _
  refine X0.baloadBytes hx (j := i3) (v := (.int w4)) (by rw [e0]; exact Ar_o0.1) (State.isArrayOf_alike hZ.alike Ar_o0.2.1) Ar_o0.2.2 hin9 hat9 (g := (mkF m 9 #[.val (.ref o0), s1, .val (.int i2), .val (.int i3)] [(.int i3), (.ref o0)])) rfl rfl (hb hby d3_9) _ ?_
  show Steps p.tables e below (T0.setTop (mkF m 10 #[.val (.ref o0), s1, .val (.int i2), .val (.int i3)] [(.int w4)])) _
  refine XS.bipush X0.here hx rfl (hb hby d3_10) ?_
  show Steps p.tables e below (T0.setTop (mkF m 12 #[.val (.ref o0), s1, .val (.int i2), .val (.int i3)] [(.int (48 : Int32)), (.int w4)])) _
  refine XS.icmpNo X0.here hx rfl (hb hby d3_12) rfl (flt hc12).1 ?_
  show Steps p.tables e below (T0.setTop (mkF m 15 #[.val (.ref o0), s1, .val (.int i2), .val (.int i3)] [])) _
  refine XS.aloadN X0.here hx rfl (hb hby d3_15) rfl rfl ?_
  show Steps p.tables e below (T0.setTop (mkF m 16 #[.val (.ref o0), s1, .val (.int i2), .val (.int i3)] [(.ref o0)])) _
  refine XS.iloadN X0.here hx rfl (hb hby d3_16) rfl ?_
  show Steps p.tables e below (T0.setTop (mkF m 17 #[.val (.ref o0), s1, .val (.int i2), .val (.int i3)] [(.int i3), (.ref o0)])) _
  refine X0.baloadBytes hx (j := i3) (v := (.int w5)) (by rw [e0]; exact Ar_o0.1) (State.isArrayOf_alike hZ.alike Ar_o0.2.1) Ar_o0.2.2 hin17 hat17 (g := (mkF m 17 #[.val (.ref o0), s1, .val (.int i2), .val (.int i3)] [(.int i3), (.ref o0)])) rfl rfl (hb hby d3_17) _ ?_
  show Steps p.tables e below (T0.setTop (mkF m 18 #[.val (.ref o0), s1, .val (.int i2), .val (.int i3)] [(.int w5)])) _
  refine XS.bipush X0.here hx rfl (hb hby d3_18) ?_
  show Steps p.tables e below (T0.setTop (mkF m 20 #[.val (.ref o0), s1, .val (.int i2), .val (.int i3)] [(.int (57 : Int32)), (.int w5)])) _
  refine XS.icmpYes X0.here hx rfl (pc0 := 20) (pc' := 25) rfl (hb hby d3_20) rfl (flt hc20).2.2.2 (by decide) (by decide) ?_
  show Steps p.tables e below (T0.setTop (mkF m 25 #[.val (.ref o0), s1, .val (.int i2), .val (.int i3)] [])) _
  refine XS.iinc X0.here hx rfl (hb hby d3_25) rfl (l' := #[.val (.ref o0), s1, .val (.int i2), .val (.int (i3 + (1 : Int32)))]) rfl ?_
  show Steps p.tables e below (T0.setTop (mkF m 28 #[.val (.ref o0), s1, .val (.int i2), .val (.int (i3 + (1 : Int32)))] [])) _
  refine XS.goto X0.here hx rfl (pc0 := 28) (pc' := 2) rfl (hb hby d3_28) (by decide) (by decide) ?_
  exact kt
set_option maxRecDepth 65536 in
set_option maxHeartbeats 40000000 in
theorem tn3_2_31_end {p : Program} {l : Launch} {e : Env} {R : Room} {s : State} {m : MethodId} {args : Array Value} {below : List Frame} {meth : Method} {c : Code} {T0 : State} {locs : List Loc} {cells slots : Nat} {Z : State} {a0 : Array Value} {h0 : Heap} (s0 : Slot) (s1 : Slot) (i2 : Int32) (i3 : Int32)
    (X0 : Stand p l e R s m args below meth c T0 locs cells slots) (hx : p.tables.exec = Jvm.exec) (hZ : Z.Warmed39 s.vm) (hw : ∀ d ∈ tables_1, d.before a0 Z = true) (hby : c.code = prog_28_method_4_code) (hml : c.maxLocals = 4) (hown : s.vm.findClass "quotewarden/Numbers" = some m.cls) (e0 : T0.heap = h0) (hc4 : ¬ (i3 < i2)) :
    ∀ target, Steps p.tables e below (T0.setTop (mkF m 31 #[s0, s1, .val (.int i2), .val (.int i3)] [])) target → Steps p.tables e below (T0.setTop (mkF m 2 #[s0, s1, .val (.int i2), .val (.int i3)] [])) target := by

  intro target kt
  show Steps p.tables e below (T0.setTop (mkF m 2 #[s0, s1, .val (.int i2), .val (.int i3)] [])) _
  refine XS.iloadN X0.here hx rfl (hb hby d3_2) rfl ?_
  show Steps p.tables e below (T0.setTop (mkF m 3 #[s0, s1, .val (.int i2), .val (.int i3)] [(.int i3)])) _
  refine XS.iloadN X0.here hx rfl (hb hby d3_3) rfl ?_
  show Steps p.tables e below (T0.setTop (mkF m 4 #[s0, s1, .val (.int i2), .val (.int i3)] [(.int i2), (.int i3)])) _
  refine XS.icmpYes X0.here hx rfl (pc0 := 4) (pc' := 31) rfl (hb hby d3_4) rfl (flt hc4).2.1 (by decide) (by decide) ?_
  exact kt
set_option maxRecDepth 65536 in
set_option maxHeartbeats 40000000 in
theorem tn3_2_23_lo {p : Program} {l : Launch} {e : Env} {R : Room} {s : State} {m : MethodId} {args : Array Value} {below : List Frame} {meth : Method} {c : Code} {T0 : State} {locs : List Loc} {cells slots : Nat} {Z : State} {a0 : Array Value} {h0 : Heap} (o0 : Addr) (s1 : Slot) (i2 : Int32) (i3 : Int32) (w4 : Int32) (cl_o0 : Cell)
    (X0 : Stand p l e R s m args below meth c T0 locs cells slots) (hx : p.tables.exec = Jvm.exec) (hZ : Z.Warmed39 s.vm) (hw : ∀ d ∈ tables_1, d.before a0 Z = true) (hby : c.code = prog_28_method_4_code) (hml : c.maxLocals = 4) (hown : s.vm.findClass "quotewarden/Numbers" = some m.cls) (e0 : T0.heap = h0) (Ar_o0 : Arr Z h0 o0 cl_o0 .byte) (hin9 : ¬ (i3 < 0 ∨ cl_o0.slots.size ≤ (i3).toNatClampNeg)) (hat9 : cl_o0.slots[(i3).toNatClampNeg]? = some (.int w4)) (hc4 : i3 < i2) (hc12 : w4 < (48 : Int32)) :
    ∀ target, Steps p.tables e below (T0.setTop (mkF m 23 #[.val (.ref o0), s1, .val (.int i2), .val (.int i3)] [])) target → Steps p.tables e below (T0.setTop (mkF m 2 #[.val (.ref o0), s1, .val (.int i2), .val (.int i3)] [])) target := by

  intro target kt
  show Steps p.tables e below (T0.setTop (mkF m 2 #[.val (.ref o0), s1, .val (.int i2), .val (.int i3)] [])) _
  refine XS.iloadN X0.here hx rfl (hb hby d3_2) rfl ?_
  show Steps p.tables e below (T0.setTop (mkF m 3 #[.val (.ref o0), s1, .val (.int i2), .val (.int i3)] [(.int i3)])) _
  refine XS.iloadN X0.here hx rfl (hb hby d3_3) rfl ?_
  show Steps p.tables e below (T0.setTop (mkF m 4 #[.val (.ref o0), s1, .val (.int i2), .val (.int i3)] [(.int i2), (.int i3)])) _
  refine XS.icmpNo X0.here hx rfl (hb hby d3_4) rfl (tlt hc4).2.1 ?_
  show Steps p.tables e below (T0.setTop (mkF m 7 #[.val (.ref o0), s1, .val (.int i2), .val (.int i3)] [])) _
  refine XS.aloadN X0.here hx rfl (hb hby d3_7) rfl rfl ?_
  show Steps p.tables e below (T0.setTop (mkF m 8 #[.val (.ref o0), s1, .val (.int i2), .val (.int i3)] [(.ref o0)])) _
  refine XS.iloadN X0.here hx rfl (hb hby d3_8) rfl ?_
  show Steps p.tables e below (T0.setTop (mkF m 9 #[.val (.ref o0), s1, .val (.int i2), .val (.int i3)] [(.int i3), (.ref o0)])) _
  refine X0.baloadBytes hx (j := i3) (v := (.int w4)) (by rw [e0]; exact Ar_o0.1) (State.isArrayOf_alike hZ.alike Ar_o0.2.1) Ar_o0.2.2 hin9 hat9 (g := (mkF m 9 #[.val (.ref o0), s1, .val (.int i2), .val (.int i3)] [(.int i3), (.ref o0)])) rfl rfl (hb hby d3_9) _ ?_
  show Steps p.tables e below (T0.setTop (mkF m 10 #[.val (.ref o0), s1, .val (.int i2), .val (.int i3)] [(.int w4)])) _
  refine XS.bipush X0.here hx rfl (hb hby d3_10) ?_
  show Steps p.tables e below (T0.setTop (mkF m 12 #[.val (.ref o0), s1, .val (.int i2), .val (.int i3)] [(.int (48 : Int32)), (.int w4)])) _
  refine XS.icmpYes X0.here hx rfl (pc0 := 12) (pc' := 23) rfl (hb hby d3_12) rfl (tlt hc12).1 (by decide) (by decide) ?_
  exact kt
set_option maxRecDepth 65536 in
set_option maxHeartbeats 40000000 in
theorem tn3_2_23_hi {p : Program} {l : Launch} {e : Env} {R : Room} {s : State} {m : MethodId} {args : Array Value} {below : List Frame} {meth : Method} {c : Code} {T0 : State} {locs : List Loc} {cells slots : Nat} {Z : State} {a0 : Array Value} {h0 : Heap} (o0 : Addr) (s1 : Slot) (i2 : Int32) (i3 : Int32) (w4 : Int32) (cl_o0 : Cell) (w5 : Int32)
    (X0 : Stand p l e R s m args below meth c T0 locs cells slots) (hx : p.tables.exec = Jvm.exec) (hZ : Z.Warmed39 s.vm) (hw : ∀ d ∈ tables_1, d.before a0 Z = true) (hby : c.code = prog_28_method_4_code) (hml : c.maxLocals = 4) (hown : s.vm.findClass "quotewarden/Numbers" = some m.cls) (e0 : T0.heap = h0) (Ar_o0 : Arr Z h0 o0 cl_o0 .byte) (hin9 : ¬ (i3 < 0 ∨ cl_o0.slots.size ≤ (i3).toNatClampNeg)) (hat9 : cl_o0.slots[(i3).toNatClampNeg]? = some (.int w4)) (hin17 : ¬ (i3 < 0 ∨ cl_o0.slots.size ≤ (i3).toNatClampNeg)) (hat17 : cl_o0.slots[(i3).toNatClampNeg]? = some (.int w5)) (hc4 : i3 < i2) (hc12 : ¬ (w4 < (48 : Int32))) (hc20 : (57 : Int32) < w5) :
    ∀ target, Steps p.tables e below (T0.setTop (mkF m 23 #[.val (.ref o0), s1, .val (.int i2), .val (.int i3)] [])) target → Steps p.tables e below (T0.setTop (mkF m 2 #[.val (.ref o0), s1, .val (.int i2), .val (.int i3)] [])) target := by

  intro target kt
  show Steps p.tables e below (T0.setTop (mkF m 2 #[.val (.ref o0), s1, .val (.int i2), .val (.int i3)] [])) _
  refine XS.iloadN X0.here hx rfl (hb hby d3_2) rfl ?_
  show Steps p.tables e below (T0.setTop (mkF m 3 #[.val (.ref o0), s1, .val (.int i2), .val (.int i3)] [(.int i3)])) _
  refine XS.iloadN X0.here hx rfl (hb hby d3_3) rfl ?_
  show Steps p.tables e below (T0.setTop (mkF m 4 #[.val (.ref o0), s1, .val (.int i2), .val (.int i3)] [(.int i2), (.int i3)])) _
  refine XS.icmpNo X0.here hx rfl (hb hby d3_4) rfl (tlt hc4).2.1 ?_
  show Steps p.tables e below (T0.setTop (mkF m 7 #[.val (.ref o0), s1, .val (.int i2), .val (.int i3)] [])) _
  refine XS.aloadN X0.here hx rfl (hb hby d3_7) rfl rfl ?_
  show Steps p.tables e below (T0.setTop (mkF m 8 #[.val (.ref o0), s1, .val (.int i2), .val (.int i3)] [(.ref o0)])) _
  refine XS.iloadN X0.here hx rfl (hb hby d3_8) rfl ?_
  show Steps p.tables e below (T0.setTop (mkF m 9 #[.val (.ref o0), s1, .val (.int i2), .val (.int i3)] [(.int i3), (.ref o0)])) _
  refine X0.baloadBytes hx (j := i3) (v := (.int w4)) (by rw [e0]; exact Ar_o0.1) (State.isArrayOf_alike hZ.alike Ar_o0.2.1) Ar_o0.2.2 hin9 hat9 (g := (mkF m 9 #[.val (.ref o0), s1, .val (.int i2), .val (.int i3)] [(.int i3), (.ref o0)])) rfl rfl (hb hby d3_9) _ ?_
  show Steps p.tables e below (T0.setTop (mkF m 10 #[.val (.ref o0), s1, .val (.int i2), .val (.int i3)] [(.int w4)])) _
  refine XS.bipush X0.here hx rfl (hb hby d3_10) ?_
  show Steps p.tables e below (T0.setTop (mkF m 12 #[.val (.ref o0), s1, .val (.int i2), .val (.int i3)] [(.int (48 : Int32)), (.int w4)])) _
  refine XS.icmpNo X0.here hx rfl (hb hby d3_12) rfl (flt hc12).1 ?_
  show Steps p.tables e below (T0.setTop (mkF m 15 #[.val (.ref o0), s1, .val (.int i2), .val (.int i3)] [])) _
  refine XS.aloadN X0.here hx rfl (hb hby d3_15) rfl rfl ?_
  show Steps p.tables e below (T0.setTop (mkF m 16 #[.val (.ref o0), s1, .val (.int i2), .val (.int i3)] [(.ref o0)])) _
  refine XS.iloadN X0.here hx rfl (hb hby d3_16) rfl ?_
  show Steps p.tables e below (T0.setTop (mkF m 17 #[.val (.ref o0), s1, .val (.int i2), .val (.int i3)] [(.int i3), (.ref o0)])) _
  refine X0.baloadBytes hx (j := i3) (v := (.int w5)) (by rw [e0]; exact Ar_o0.1) (State.isArrayOf_alike hZ.alike Ar_o0.2.1) Ar_o0.2.2 hin17 hat17 (g := (mkF m 17 #[.val (.ref o0), s1, .val (.int i2), .val (.int i3)] [(.int i3), (.ref o0)])) rfl rfl (hb hby d3_17) _ ?_
  show Steps p.tables e below (T0.setTop (mkF m 18 #[.val (.ref o0), s1, .val (.int i2), .val (.int i3)] [(.int w5)])) _
  refine XS.bipush X0.here hx rfl (hb hby d3_18) ?_
  show Steps p.tables e below (T0.setTop (mkF m 20 #[.val (.ref o0), s1, .val (.int i2), .val (.int i3)] [(.int (57 : Int32)), (.int w5)])) _
  refine XS.icmpNo X0.here hx rfl (hb hby d3_20) rfl (tlt hc20).2.2.2 ?_
  exact kt
theorem d3_0 : decode prog_28_method_4_code 0 = .ok (.iload_n 1, 1) := by decide +kernel
theorem d3_1 : decode prog_28_method_4_code 1 = .ok (.istore_n 3, 1) := by decide +kernel
theorem d3_31 : decode prog_28_method_4_code 31 = .ok (.iconst 1, 1) := by decide +kernel
theorem d3_32 : decode prog_28_method_4_code 32 = .ok (.ireturn, 1) := by decide +kernel
theorem pn_3 : plainName "quotewarden/Numbers" = true := by first | (simp [plainName, overriddenIn]; done) | decide +kernel
theorem ef_3 (m : MethodId) (x0 : Addr) (x1 : Int32) (x2 : Int32) : entryFrame m #[(.ref x0), (.int x1), (.int x2)] 4 = mkF m 0 #[.val (.ref x0), .val (.int x1), .val (.int x2), .unset] [] := by first | (simp [entryFrame, mkF, argsToLocals, Value.category]; done) | rfl
theorem d3_23 : decode prog_28_method_4_code 23 = .ok (.iconst 0, 1) := by decide +kernel
theorem d3_24 : decode prog_28_method_4_code 24 = .ok (.ireturn, 1) := by decide +kernel
set_option maxRecDepth 65536 in
set_option maxHeartbeats 40000000 in
theorem loop3 {p : Program} {l : Launch} {e : Env} {R : Room} {s : State} {m : MethodId} {args : Array Value} {below : List Frame} {meth : Method} {c : Code} {T0 : State} {locs : List Loc} {cells slots : Nat} {Z : State} {a0 : Array Value} {h0 : Heap} (o0 : Addr) (s1 : Slot) (cl : Cell) (f : Nat → Int32) (N J : Nat)
    (X0 : Stand p l e R s m args below meth c T0 locs cells slots) (hx : p.tables.exec = Jvm.exec) (hZ : Z.Warmed39 s.vm) (hw : ∀ d ∈ tables_1, d.before a0 Z = true) (hby : c.code = prog_28_method_4_code) (hml : c.maxLocals = 4) (hown : s.vm.findClass "quotewarden/Numbers" = some m.cls) (e0 : T0.heap = h0) (Ar : Arr Z h0 o0 cl .byte) (S : cl.slots.size = N) (hN : N < 2147483648) (hJ : J ≤ N) (hf : ∀ j, j < N → cl.slots[j]? = some (.int (f j))) (hret : meth.sig.returnType = some .boolean) {fs : List Frame} :
    ∀ (k i : Nat), i + k = J → (∀ (g : JFrame) (acts : List Action), g.method = m → g.locked = none → g.entered = [] → (doReturn e (T0.setTop g) acts (some (.int (own_isd f i k)))).1 = T0.setFrames fs) →
      Steps p.tables e below (T0.setTop (mkF m 2 #[.val (.ref o0), s1, .val (.int (Int32.ofNat J)), .val (.int (Int32.ofNat i))] [])) (T0.setFrames fs) := by
  intro k
  induction k with
  | zero =>
    intro i hi hr
    have e1 : own_isd f i 0 = 1 := rfl
    rw [e1] at hr
    refine tn3_2_31_end _ _ _ _ X0 hx hZ hw hby hml hown e0 (by rw [own_ltN (by omega) (by omega)]; omega) _ ?_
    refine XS.iconst X0.here hx rfl (hb hby d3_31) ?_
    show Steps p.tables e below (T0.setTop (mkF m 32 #[.val (.ref o0), s1, .val (.int (Int32.ofNat J)), .val (.int (Int32.ofNat i))] [(.int (1 : Int32))])) _
    exact retN X0 hx (t := .boolean) hret (by simp) (hb hby d3_32) hr
  | succ k ih =>
    intro i hi hr
    have hin := own_in (i := i) S (by omega) hN
    have hat : cl.slots[(Int32.ofNat i).toNatClampNeg]? = some (.int (f i)) := by rw [own_clamp (by omega)]; exact hf i (by omega)
    have hlt : Int32.ofNat i < Int32.ofNat J := (own_ltN (by omega) (by omega)).mpr (by omega)
    by_cases h1 : f i < (48 : Int32)
    · have e1 : own_isd f i (k + 1) = 0 := by rw [own_isd, if_pos h1]
      rw [e1] at hr
      refine tn3_2_23_lo _ _ _ _ _ _ X0 hx hZ hw hby hml hown e0 Ar hin hat hlt h1 _ ?_
      refine XS.iconst X0.here hx rfl (hb hby d3_23) ?_
      show Steps p.tables e below (T0.setTop (mkF m 24 #[.val (.ref o0), s1, .val (.int (Int32.ofNat J)), .val (.int (Int32.ofNat i))] [(.int (0 : Int32))])) _
      exact retN X0 hx (t := .boolean) hret (by simp) (hb hby d3_24) hr
    · by_cases h2 : (57 : Int32) < f i
      · have e1 : own_isd f i (k + 1) = 0 := by rw [own_isd, if_neg h1, if_pos h2]
        rw [e1] at hr
        refine tn3_2_23_hi _ _ _ _ _ _ _ X0 hx hZ hw hby hml hown e0 Ar hin hat hin hat hlt h1 h2 _ ?_
        refine XS.iconst X0.here hx rfl (hb hby d3_23) ?_
        show Steps p.tables e below (T0.setTop (mkF m 24 #[.val (.ref o0), s1, .val (.int (Int32.ofNat J)), .val (.int (Int32.ofNat i))] [(.int (0 : Int32))])) _
        exact retN X0 hx (t := .boolean) hret (by simp) (hb hby d3_24) hr
      · have e1 : own_isd f i (k + 1) = own_isd f (i + 1) k := by rw [own_isd, if_neg h1, if_neg h2]
        rw [e1] at hr
        refine tn3_2_2_go _ _ _ _ _ _ _ X0 hx hZ hw hby hml hown e0 Ar hin hat hin hat hlt h1 h2 _ ?_
        rw [own_up (by omega)]
        exact ih (i + 1) (by omega) hr
def Q3 (Z : State) (f : Nat → Int32) (I k : Nat) (h0 : Heap) (n0 : Nat) (v : Option Value) (h : Heap) (L : List Loc) : Prop := v = some (.int (own_isd f I k)) ∧ Fr n0 L ∧ h = h0
set_option maxRecDepth 65536 in
set_option maxHeartbeats 40000000 in
theorem rm3 (l : Launch) (Z : State) (a0 : Array Value) (hw : ∀ d ∈ tables_1, d.before a0 Z = true) (ws : List Jvm.Cond) (a1 : Addr) (cl : Cell) (f : Nat → Int32) (I k N : Nat) (h0 : Heap) (n0 : Nat) (Z0 : n0 ≤ h0.size) (Ar : Arr Z h0 a1 cl .byte) (S : cl.slots.size = N) (hN : N < 2147483648) (hJ : I + k ≤ N) (hf : ∀ j, j < N → cl.slots[j]? = some (.int (f j))) :
    MetFree l (⟨"quotewarden/Numbers", "isDigits", "([BII)Z"⟩ : MethodName) (head1 (Jvm.Cond.code (⟨"quotewarden/Numbers", "isDigits", "([BII)Z"⟩ : MethodName) prog_28_method_4_code 4 (some .boolean) :: ws) ({ frames := 0, cells := 0, slots := 0, locals := 0 } : Room)) (fun a U => a = #[(.ref a1), (.int (Int32.ofNat I)), (.int (Int32.ofNat (I + k)))] ∧ Z.Warmed39 U.vm ∧ U.heap = h0) (fun _ _ _ _ _ => True) (fun _ U o U' => ∃ v L, o = .returned v ∧ Q3 Z f I k h0 n0 v U'.heap L ∧ FrameEnd U o U' L ({ frames := 0, cells := 0, slots := 0, locals := 0 } : Room).cells ({ frames := 0, cells := 0, slots := 0, locals := 0 } : Room).slots) := by
  refine MetFree.of_bodySF (plainFor_of_name pn_3) hisR ?_
  intro p e s m args below meth c s₁ Bd hml0 hP hK
  obtain ⟨rfl, hZ, hh⟩ := hP
  have hx := Bd.exec
  have hby := Bd.bytes
  have hml : c.maxLocals = 4 := hml0
  have hown : s.vm.findClass "quotewarden/Numbers" = some m.cls := findClass_of_methodNamed Bd.named
  have hnm := (name_of_methodNamed Bd.named Bd.method).1
  have X0 : Stand p l e ({ frames := 0, cells := 0, slots := 0, locals := 0 } : Room) s m #[(.ref a1), (.int (Int32.ofNat I)), (.int (Int32.ofNat (I + k)))] below meth c s₁ [] 0 0 := Stand.of_body Bd
  have e0 : s₁.heap = h0 := by rw [← hh, Bd.state]; rfl
  have N0 := Fr.nil n0
  have pre0 : ∀ t, Steps p.tables e below (s₁.setTop (mkF m 0 #[.val (.ref a1), .val (.int (Int32.ofNat I)), .val (.int (Int32.ofNat (I + k))), .unset] [])) t → Steps p.tables e below (s₁.setTop (entryFrame m #[(.ref a1), (.int (Int32.ofNat I)), (.int (Int32.ofNat (I + k)))] 4)) t := fun t kt => castTop (ef_3 m a1 (Int32.ofNat I) (Int32.ofNat (I + k))) kt

  obtain ⟨fs, hr, hrun, hended, hW, hsame⟩ := X0.leave (v := some (.int (own_isd f I k))) (fun h => by rw [Bd.returns] at h; cases h)
  refine ⟨_, _, pre0 _ ?_, hrun, hended, _, _, rfl, ?_, ⟨_, rfl⟩, hW, hsame.mono (by decide) (by decide)⟩
  · show Steps p.tables e below (s₁.setTop (mkF m 0 #[.val (.ref a1), .val (.int (Int32.ofNat I)), .val (.int (Int32.ofNat (I + k))), .unset] [])) _
    refine XS.iloadN X0.here hx rfl (hb hby d3_0) rfl ?_
    show Steps p.tables e below (s₁.setTop (mkF m 1 #[.val (.ref a1), .val (.int (Int32.ofNat I)), .val (.int (Int32.ofNat (I + k))), .unset] [(.int (Int32.ofNat I))])) _
    refine XS.istoreN X0.here hx rfl (hb hby d3_1) rfl (l' := #[.val (.ref a1), .val (.int (Int32.ofNat I)), .val (.int (Int32.ofNat (I + k))), .val (.int (Int32.ofNat I))]) rfl ?_
    show Steps p.tables e below (s₁.setTop (mkF m 2 #[.val (.ref a1), .val (.int (Int32.ofNat I)), .val (.int (Int32.ofNat (I + k))), .val (.int (Int32.ofNat I))] [])) _
    exact loop3 a1 _ cl f N (I + k) X0 hx hZ hw hby hml hown e0 Ar S hN hJ hf Bd.returns k I rfl hr
  · show Q3 Z f I k h0 n0 _ s₁.heap _
    rw [e0]
    exact ⟨rfl, N0, rfl⟩
theorem d4_5 : decode prog_28_method_5_code 5 = .ok (.iload 5, 2) := by decide +kernel
theorem d4_7 : decode prog_28_method_5_code 7 = .ok (.iload_n 2, 1) := by decide +kernel
theorem d4_8 : decode prog_28_method_5_code 8 = .ok (.if_icmp .ge 25, 3) := by decide +kernel
theorem d4_11 : decode prog_28_method_5_code 11 = .ok (.ldc2_w 43, 3) := by decide +kernel
theorem d4_14 : decode prog_28_method_5_code 14 = .ok (.lload_n 3, 1) := by decide +kernel
theorem d4_15 : decode prog_28_method_5_code 15 = .ok (.lmul, 1) := by decide +kernel
theorem d4_16 : decode prog_28_method_5_code 16 = .ok (.aload_n 0, 1) := by decide +kernel
theorem d4_17 : decode prog_28_method_5_code 17 = .ok (.iload 5, 2) := by decide +kernel
theorem d4_19 : decode prog_28_method_5_code 19 = .ok (.baload, 1) := by decide +kernel
theorem d4_20 : decode prog_28_method_5_code 20 = .ok (.i2l, 1) := by decide +kernel
theorem d4_21 : decode prog_28_method_5_code 21 = .ok (.ladd, 1) := by decide +kernel
theorem d4_22 : decode prog_28_method_5_code 22 = .ok (.ldc2_w 45, 3) := by decide +kernel
theorem d4_25 : decode prog_28_method_5_code 25 = .ok (.lsub, 1) := by decide +kernel
theorem d4_26 : decode prog_28_method_5_code 26 = .ok (.lstore_n 3, 1) := by decide +kernel
theorem d4_27 : decode prog_28_method_5_code 27 = .ok (.iinc 5 1, 3) := by decide +kernel
theorem d4_30 : decode prog_28_method_5_code 30 = .ok (.goto (-25), 3) := by decide +kernel
set_option maxRecDepth 65536 in
set_option maxHeartbeats 40000000 in
theorem tn4_5_5_go {p : Program} {l : Launch} {e : Env} {R : Room} {s : State} {m : MethodId} {args : Array Value} {below : List Frame} {meth : Method} {c : Code} {T0 : State} {locs : List Loc} {cells slots : Nat} {Z : State} {a0 : Array Value} {h0 : Heap} (o0 : Addr) (s1 : Slot) (i2 : Int32) (j3 : Int64) (i5 : Int32) (w4 : Int32) (cl_o0 : Cell)
    (X0 : Stand p l e R s m args below meth c T0 locs cells slots) (hx : p.tables.exec = Jvm.exec) (hZ : Z.Warmed39 s.vm) (hw : ∀ d ∈ tables_1, d.before a0 Z = true) (hby : c.code = prog_28_method_5_code) (hml : c.maxLocals = 6) (hown : s.vm.findClass "quotewarden/Numbers" = some m.cls) (e0 : T0.heap = h0) (Ar_o0 : Arr Z h0 o0 cl_o0 .byte) (hin19 : ¬ (i5 < 0 ∨ cl_o0.slots.size ≤ (i5).toNatClampNeg)) (hat19 : cl_o0.slots[(i5).toNatClampNeg]? = some (.int w4)) (hc8 : i5 < i2) :
    ∀ target, Steps p.tables e below (T0.setTop (mkF m 5 #[.val (.ref o0), s1, .val (.int i2), .val (.long ((((10 : Int64) * j3) + (w4.toInt64)) - (48 : Int64))), .second, .val (.int (i5 + (1 : Int32)))] [])) target → Steps p.tables e below (T0.setTop (mkF m 5 #[.val (.ref o0), s1, .val (.int i2), .val (.long j3), .second, .val (.int i5)] [])) target := by

  intro target kt
  show Steps p.tables e below (T0.setTop (mkF m 5 #[.val (.ref o0), s1, .val (.int i2), .val (.long j3), .second, .val (.int i5)] [])) _
  refine XS.iload X0.here hx rfl (hb hby d4_5) rfl ?_
  show Steps p.tables e below (T0.setTop (mkF m 7 #[.val (.ref o0), s1, .val (.int i2), .val (.long j3), .second, .val (.int i5)] [(.int i5)])) _
  refine XS.iloadN X0.here hx rfl (hb hby d4_7) rfl ?_
  show Steps p.tables e below (T0.setTop (mkF m 8 #[.val (.ref o0), s1, .val (.int i2), .val (.long j3), .second, .val (.int i5)] [(.int i2), (.int i5)])) _
  refine XS.icmpNo X0.here hx rfl (hb hby d4_8) rfl (tlt hc8).2.1 ?_
  show Steps p.tables e below (T0.setTop (mkF m 11 #[.val (.ref o0), s1, .val (.int i2), .val (.long j3), .second, .val (.int i5)] [])) _
  refine X0.ldc2Long hx hown (mvT hZ (hw _ (List.mem_of_getElem? (i := 37) rfl))) (g := (mkF m 11 #[.val (.ref o0), s1, .val (.int i2), .val (.long j3), .second, .val (.int i5)] [])) rfl (hb hby d4_11) _ ?_
  show Steps p.tables e below (T0.setTop (mkF m 14 #[.val (.ref o0), s1, .val (.int i2), .val (.long j3), .second, .val (.int i5)] [(.long (10 : Int64))])) _
  refine XS.lloadN X0.here hx rfl (hb hby d4_14) rfl ?_
  show Steps p.tables e below (T0.setTop (mkF m 15 #[.val (.ref o0), s1, .val (.int i2), .val (.long j3), .second, .val (.int i5)] [(.long j3), (.long (10 : Int64))])) _
  refine XS.lmul X0.here hx rfl (hb hby d4_15) rfl ?_
  show Steps p.tables e below (T0.setTop (mkF m 16 #[.val (.ref o0), s1, .val (.int i2), .val (.long j3), .second, .val (.int i5)] [(.long ((10 : Int64) * j3))])) _
  refine XS.aloadN X0.here hx rfl (hb hby d4_16) rfl rfl ?_
  show Steps p.tables e below (T0.setTop (mkF m 17 #[.val (.ref o0), s1, .val (.int i2), .val (.long j3), .second, .val (.int i5)] [(.ref o0), (.long ((10 : Int64) * j3))])) _
  refine XS.iload X0.here hx rfl (hb hby d4_17) rfl ?_
  show Steps p.tables e below (T0.setTop (mkF m 19 #[.val (.ref o0), s1, .val (.int i2), .val (.long j3), .second, .val (.int i5)] [(.int i5), (.ref o0), (.long ((10 : Int64) * j3))])) _
  refine X0.baloadBytes hx (j := i5) (v := (.int w4)) (by rw [e0]; exact Ar_o0.1) (State.isArrayOf_alike hZ.alike Ar_o0.2.1) Ar_o0.2.2 hin19 hat19 (g := (mkF m 19 #[.val (.ref o0), s1, .val (.int i2), .val (.long j3), .second, .val (.int i5)] [(.int i5), (.ref o0), (.long ((10 : Int64) * j3))])) rfl rfl (hb hby d4_19) _ ?_
  show Steps p.tables e below (T0.setTop (mkF m 20 #[.val (.ref o0), s1, .val (.int i2), .val (.long j3), .second, .val (.int i5)] [(.int w4), (.long ((10 : Int64) * j3))])) _
  refine XS.i2l X0.here hx rfl (hb hby d4_20) rfl ?_
  show Steps p.tables e below (T0.setTop (mkF m 21 #[.val (.ref o0), s1, .val (.int i2), .val (.long j3), .second, .val (.int i5)] [(.long (w4.toInt64)), (.long ((10 : Int64) * j3))])) _
  refine XS.ladd X0.here hx rfl (hb hby d4_21) rfl ?_
  show Steps p.tables e below (T0.setTop (mkF m 22 #[.val (.ref o0), s1, .val (.int i2), .val (.long j3), .second, .val (.int i5)] [(.long (((10 : Int64) * j3) + (w4.toInt64)))])) _
  refine X0.ldc2Long hx hown (mvT hZ (hw _ (List.mem_of_getElem? (i := 38) rfl))) (g := (mkF m 22 #[.val (.ref o0), s1, .val (.int i2), .val (.long j3), .second, .val (.int i5)] [(.long (((10 : Int64) * j3) + (w4.toInt64)))])) rfl (hb hby d4_22) _ ?_
  show Steps p.tables e below (T0.setTop (mkF m 25 #[.val (.ref o0), s1, .val (.int i2), .val (.long j3), .second, .val (.int i5)] [(.long (48 : Int64)), (.long (((10 : Int64) * j3) + (w4.toInt64)))])) _
  refine XS.lsub X0.here hx rfl (hb hby d4_25) rfl ?_
  show Steps p.tables e below (T0.setTop (mkF m 26 #[.val (.ref o0), s1, .val (.int i2), .val (.long j3), .second, .val (.int i5)] [(.long ((((10 : Int64) * j3) + (w4.toInt64)) - (48 : Int64)))])) _
  refine XS.lstoreN X0.here hx rfl (hb hby d4_26) rfl (l' := #[.val (.ref o0), s1, .val (.int i2), .val (.long ((((10 : Int64) * j3) + (w4.toInt64)) - (48 : Int64))), .second, .val (.int i5)]) rfl ?_
  show Steps p.tables e below (T0.setTop (mkF m 27 #[.val (.ref o0), s1, .val (.int i2), .val (.long ((((10 : Int64) * j3) + (w4.toInt64)) - (48 : Int64))), .second, .val (.int i5)] [])) _
  refine XS.iinc X0.here hx rfl (hb hby d4_27) rfl (l' := #[.val (.ref o0), s1, .val (.int i2), .val (.long ((((10 : Int64) * j3) + (w4.toInt64)) - (48 : Int64))), .second, .val (.int (i5 + (1 : Int32)))]) rfl ?_
  show Steps p.tables e below (T0.setTop (mkF m 30 #[.val (.ref o0), s1, .val (.int i2), .val (.long ((((10 : Int64) * j3) + (w4.toInt64)) - (48 : Int64))), .second, .val (.int (i5 + (1 : Int32)))] [])) _
  refine XS.goto X0.here hx rfl (pc0 := 30) (pc' := 5) rfl (hb hby d4_30) (by decide) (by decide) ?_
  exact kt
set_option maxRecDepth 65536 in
set_option maxHeartbeats 40000000 in
theorem tn4_5_33_end {p : Program} {l : Launch} {e : Env} {R : Room} {s : State} {m : MethodId} {args : Array Value} {below : List Frame} {meth : Method} {c : Code} {T0 : State} {locs : List Loc} {cells slots : Nat} {Z : State} {a0 : Array Value} {h0 : Heap} (s0 : Slot) (s1 : Slot) (i2 : Int32) (s3 : Slot) (s4 : Slot) (i5 : Int32)
    (X0 : Stand p l e R s m args below meth c T0 locs cells slots) (hx : p.tables.exec = Jvm.exec) (hZ : Z.Warmed39 s.vm) (hw : ∀ d ∈ tables_1, d.before a0 Z = true) (hby : c.code = prog_28_method_5_code) (hml : c.maxLocals = 6) (hown : s.vm.findClass "quotewarden/Numbers" = some m.cls) (e0 : T0.heap = h0) (hc8 : ¬ (i5 < i2)) :
    ∀ target, Steps p.tables e below (T0.setTop (mkF m 33 #[s0, s1, .val (.int i2), s3, s4, .val (.int i5)] [])) target → Steps p.tables e below (T0.setTop (mkF m 5 #[s0, s1, .val (.int i2), s3, s4, .val (.int i5)] [])) target := by

  intro target kt
  show Steps p.tables e below (T0.setTop (mkF m 5 #[s0, s1, .val (.int i2), s3, s4, .val (.int i5)] [])) _
  refine XS.iload X0.here hx rfl (hb hby d4_5) rfl ?_
  show Steps p.tables e below (T0.setTop (mkF m 7 #[s0, s1, .val (.int i2), s3, s4, .val (.int i5)] [(.int i5)])) _
  refine XS.iloadN X0.here hx rfl (hb hby d4_7) rfl ?_
  show Steps p.tables e below (T0.setTop (mkF m 8 #[s0, s1, .val (.int i2), s3, s4, .val (.int i5)] [(.int i2), (.int i5)])) _
  refine XS.icmpYes X0.here hx rfl (pc0 := 8) (pc' := 33) rfl (hb hby d4_8) rfl (flt hc8).2.1 (by decide) (by decide) ?_
  exact kt
theorem d4_0 : decode prog_28_method_5_code 0 = .ok (.lconst 0, 1) := by decide +kernel
theorem d4_1 : decode prog_28_method_5_code 1 = .ok (.lstore_n 3, 1) := by decide +kernel
theorem d4_2 : decode prog_28_method_5_code 2 = .ok (.iload_n 1, 1) := by decide +kernel
theorem d4_3 : decode prog_28_method_5_code 3 = .ok (.istore 5, 2) := by decide +kernel
theorem d4_33 : decode prog_28_method_5_code 33 = .ok (.lload_n 3, 1) := by decide +kernel
theorem d4_34 : decode prog_28_method_5_code 34 = .ok (.lreturn, 1) := by decide +kernel
theorem pn_4 : plainName "quotewarden/Numbers" = true := by first | (simp [plainName, overriddenIn]; done) | decide +kernel
theorem ef_4 (m : MethodId) (x0 : Addr) (x1 : Int32) (x2 : Int32) : entryFrame m #[(.ref x0), (.int x1), (.int x2)] 6 = mkF m 0 #[.val (.ref x0), .val (.int x1), .val (.int x2), .unset, .unset, .unset] [] := by first | (simp [entryFrame, mkF, argsToLocals, Value.category]; done) | rfl
set_option maxRecDepth 65536 in
set_option maxHeartbeats 40000000 in
theorem loop4 {p : Program} {l : Launch} {e : Env} {R : Room} {s : State} {m : MethodId} {args : Array Value} {below : List Frame} {meth : Method} {c : Code} {T0 : State} {locs : List Loc} {cells slots : Nat} {Z : State} {a0 : Array Value} {h0 : Heap} (o0 : Addr) (s1 : Slot) (cl : Cell) (f : Nat → Int32) (N J : Nat)
    (X0 : Stand p l e R s m args below meth c T0 locs cells slots) (hx : p.tables.exec = Jvm.exec) (hZ : Z.Warmed39 s.vm) (hw : ∀ d ∈ tables_1, d.before a0 Z = true) (hby : c.code = prog_28_method_5_code) (hml : c.maxLocals = 6) (hown : s.vm.findClass "quotewarden/Numbers" = some m.cls) (e0 : T0.heap = h0) (Ar : Arr Z h0 o0 cl .byte) (S : cl.slots.size = N) (hN : N < 2147483648) (hJ : J ≤ N) (hf : ∀ j, j < N → cl.slots[j]? = some (.int (f j))) (hret : meth.sig.returnType = some .long) {fs : List Frame} :
    ∀ (k i : Nat) (acc : Int64), i + k = J → (∀ (g : JFrame) (acts : List Action), g.method = m → g.locked = none → g.entered = [] → (doReturn e (T0.setTop g) acts (some (.long (own_dig f i k acc)))).1 = T0.setFrames fs) →
      Steps p.tables e below (T0.setTop (mkF m 5 #[.val (.ref o0), s1, .val (.int (Int32.ofNat J)), .val (.long acc), .second, .val (.int (Int32.ofNat i))] [])) (T0.setFrames fs) := by
  intro k
  induction k with
  | zero =>
    intro i acc hi hr
    have e1 : own_dig f i 0 acc = acc := rfl
    rw [e1] at hr
    refine tn4_5_33_end _ _ _ _ _ _ X0 hx hZ hw hby hml hown e0 (by rw [own_ltN (by omega) (by omega)]; omega) _ ?_
    refine XS.lloadN X0.here hx rfl (hb hby d4_33) rfl ?_
    show Steps p.tables e below (T0.setTop (mkF m 34 #[.val (.ref o0), s1, .val (.int (Int32.ofNat J)), .val (.long acc), .second, .val (.int (Int32.ofNat i))] [(.long acc)])) _
    exact own_retJ X0 hx hret (hb hby d4_34) hr
  | succ k ih =>
    intro i acc hi hr
    have hin := own_in (i := i) S (by omega) hN
    have hat : cl.slots[(Int32.ofNat i).toNatClampNeg]? = some (.int (f i)) := by rw [own_clamp (by omega)]; exact hf i (by omega)
    have hlt : Int32.ofNat i < Int32.ofNat J := (own_ltN (by omega) (by omega)).mpr (by omega)
    have e1 : own_dig f i (k + 1) acc = own_dig f (i + 1) k ((((10 : Int64) * acc) + ((f i).toInt64)) - (48 : Int64)) := rfl
    rw [e1] at hr
    refine tn4_5_5_go _ _ _ _ _ _ _ X0 hx hZ hw hby hml hown e0 Ar hin hat hlt _ ?_
    rw [own_up (by omega)]
    exact ih (i + 1) _ (by omega) hr
def Q4 (Z : State) (f : Nat → Int32) (I k : Nat) (h0 : Heap) (n0 : Nat) (v : Option Value) (h : Heap) (L : List Loc) : Prop := v = some (.long (own_dig f I k 0)) ∧ Fr n0 L ∧ h = h0
set_option maxRecDepth 65536 in
set_option maxHeartbeats 40000000 in
theorem rm4 (l : Launch) (Z : State) (a0 : Array Value) (hw : ∀ d ∈ tables_1, d.before a0 Z = true) (ws : List Jvm.Cond) (a1 : Addr) (cl : Cell) (f : Nat → Int32) (I k N : Nat) (h0 : Heap) (n0 : Nat) (Z0 : n0 ≤ h0.size) (Ar : Arr Z h0 a1 cl .byte) (S : cl.slots.size = N) (hN : N < 2147483648) (hJ : I + k ≤ N) (hf : ∀ j, j < N → cl.slots[j]? = some (.int (f j))) :
    MetFree l (⟨"quotewarden/Numbers", "digits", "([BII)J"⟩ : MethodName) (head1 (Jvm.Cond.code (⟨"quotewarden/Numbers", "digits", "([BII)J"⟩ : MethodName) prog_28_method_5_code 6 (some .long) :: ws) ({ frames := 0, cells := 0, slots := 0, locals := 0 } : Room)) (fun a U => a = #[(.ref a1), (.int (Int32.ofNat I)), (.int (Int32.ofNat (I + k)))] ∧ Z.Warmed39 U.vm ∧ U.heap = h0) (fun _ _ _ _ _ => True) (fun _ U o U' => ∃ v L, o = .returned v ∧ Q4 Z f I k h0 n0 v U'.heap L ∧ FrameEnd U o U' L ({ frames := 0, cells := 0, slots := 0, locals := 0 } : Room).cells ({ frames := 0, cells := 0, slots := 0, locals := 0 } : Room).slots) := by
  refine MetFree.of_bodySF (plainFor_of_name pn_4) hisR ?_
  intro p e s m args below meth c s₁ Bd hml0 hP hK
  obtain ⟨rfl, hZ, hh⟩ := hP
  have hx := Bd.exec
  have hby := Bd.bytes
  have hml : c.maxLocals = 6 := hml0
  have hown : s.vm.findClass "quotewarden/Numbers" = some m.cls := findClass_of_methodNamed Bd.named
  have hnm := (name_of_methodNamed Bd.named Bd.method).1
  have X0 : Stand p l e ({ frames := 0, cells := 0, slots := 0, locals := 0 } : Room) s m #[(.ref a1), (.int (Int32.ofNat I)), (.int (Int32.ofNat (I + k)))] below meth c s₁ [] 0 0 := Stand.of_body Bd
  have e0 : s₁.heap = h0 := by rw [← hh, Bd.state]; rfl
  have N0 := Fr.nil n0
  have pre0 : ∀ t, Steps p.tables e below (s₁.setTop (mkF m 0 #[.val (.ref a1), .val (.int (Int32.ofNat I)), .val (.int (Int32.ofNat (I + k))), .unset, .unset, .unset] [])) t → Steps p.tables e below (s₁.setTop (entryFrame m #[(.ref a1), (.int (Int32.ofNat I)), (.int (Int32.ofNat (I + k)))] 6)) t := fun t kt => castTop (ef_4 m a1 (Int32.ofNat I) (Int32.ofNat (I + k))) kt

  obtain ⟨fs, hr, hrun, hended, hW, hsame⟩ := X0.leave (v := some (.long (own_dig f I k 0))) (fun h => by rw [Bd.returns] at h; cases h)
  refine ⟨_, _, pre0 _ ?_, hrun, hended, _, _, rfl, ?_, ⟨_, rfl⟩, hW, hsame.mono (by decide) (by decide)⟩
  · show Steps p.tables e below (s₁.setTop (mkF m 0 #[.val (.ref a1), .val (.int (Int32.ofNat I)), .val (.int (Int32.ofNat (I + k))), .unset, .unset, .unset] [])) _
    refine XS.lconst X0.here hx rfl (hb hby d4_0) ?_
    show Steps p.tables e below (s₁.setTop (mkF m 1 #[.val (.ref a1), .val (.int (Int32.ofNat I)), .val (.int (Int32.ofNat (I + k))), .unset, .unset, .unset] [(.long (0 : Int64))])) _
    refine XS.lstoreN X0.here hx rfl (hb hby d4_1) rfl (l' := #[.val (.ref a1), .val (.int (Int32.ofNat I)), .val (.int (Int32.ofNat (I + k))), .val (.long (0 : Int64)), .second, .unset]) rfl ?_
    show Steps p.tables e below (s₁.setTop (mkF m 2 #[.val (.ref a1), .val (.int (Int32.ofNat I)), .val (.int (Int32.ofNat (I + k))), .val (.long (0 : Int64)), .second, .unset] [])) _
    refine XS.iloadN X0.here hx rfl (hb hby d4_2) rfl ?_
    show Steps p.tables e below (s₁.setTop (mkF m 3 #[.val (.ref a1), .val (.int (Int32.ofNat I)), .val (.int (Int32.ofNat (I + k))), .val (.long (0 : Int64)), .second, .unset] [(.int (Int32.ofNat I))])) _
    refine XS.istore X0.here hx rfl (hb hby d4_3) rfl (l' := #[.val (.ref a1), .val (.int (Int32.ofNat I)), .val (.int (Int32.ofNat (I + k))), .val (.long (0 : Int64)), .second, .val (.int (Int32.ofNat I))]) rfl ?_
    show Steps p.tables e below (s₁.setTop (mkF m 5 #[.val (.ref a1), .val (.int (Int32.ofNat I)), .val (.int (Int32.ofNat (I + k))), .val (.long (0 : Int64)), .second, .val (.int (Int32.ofNat I))] [])) _
    exact loop4 a1 _ cl f N (I + k) X0 hx hZ hw hby hml hown e0 Ar S hN hJ hf Bd.returns k I 0 rfl hr
  · show Q4 Z f I k h0 n0 _ s₁.heap _
    rw [e0]
    exact ⟨rfl, N0, rfl⟩
def Q2 (Z : State) (f : Nat → Int32) (I k : Nat) (h0 : Heap) (n0 : Nat) (v : Option Value) (h : Heap) (L : List Loc) : Prop := v = some (.long (own_wn f I k)) ∧ Fr n0 L ∧ h = h0
theorem d2_0 : decode prog_28_method_3_code 0 = .ok (.iload_n 1, 1) := by decide +kernel
theorem d2_1 : decode prog_28_method_3_code 1 = .ok (.iload_n 2, 1) := by decide +kernel
theorem d2_2 : decode prog_28_method_3_code 2 = .ok (.if_icmp .eq 20, 3) := by decide +kernel
theorem d2_22 : decode prog_28_method_3_code 22 = .ok (.ldc2_w 41, 3) := by decide +kernel
theorem d2_25 : decode prog_28_method_3_code 25 = .ok (.lreturn, 1) := by decide +kernel
theorem pn_2 : plainName "quotewarden/Numbers" = true := by first | (simp [plainName, overriddenIn]; done) | decide +kernel
theorem ef_2 (m : MethodId) (x0 : Addr) (x1 : Int32) (x2 : Int32) : entryFrame m #[(.ref x0), (.int x1), (.int x2)] 3 = mkF m 0 #[.val (.ref x0), .val (.int x1), .val (.int x2)] [] := by first | (simp [entryFrame, mkF, argsToLocals, Value.category]; done) | rfl
theorem d2_5 : decode prog_28_method_3_code 5 = .ok (.iload_n 2, 1) := by decide +kernel
theorem d2_6 : decode prog_28_method_3_code 6 = .ok (.iload_n 1, 1) := by decide +kernel
theorem d2_7 : decode prog_28_method_3_code 7 = .ok (.isub, 1) := by decide +kernel
theorem d2_8 : decode prog_28_method_3_code 8 = .ok (.bipush 18, 2) := by decide +kernel
theorem d2_10 : decode prog_28_method_3_code 10 = .ok (.if_icmp .gt 12, 3) := by decide +kernel
theorem d2_13 : decode prog_28_method_3_code 13 = .ok (.aload_n 0, 1) := by decide +kernel
theorem d2_14 : decode prog_28_method_3_code 14 = .ok (.iload_n 1, 1) := by decide +kernel
theorem d2_15 : decode prog_28_method_3_code 15 = .ok (.iload_n 2, 1) := by decide +kernel
theorem d2_16 : decode prog_28_method_3_code 16 = .ok (.invokestatic 7, 3) := by decide +kernel
theorem d2_19 : decode prog_28_method_3_code 19 = .ok (.ifCond .ne 7, 3) := by decide +kernel
theorem pd_2_2 : parseMethodDescriptor "([BII)Z" = some ⟨[(.array .byte), .int, .int], some .boolean⟩ := by decide +kernel
theorem d2_26 : decode prog_28_method_3_code 26 = .ok (.aload_n 0, 1) := by decide +kernel
theorem d2_27 : decode prog_28_method_3_code 27 = .ok (.iload_n 1, 1) := by decide +kernel
theorem d2_28 : decode prog_28_method_3_code 28 = .ok (.iload_n 2, 1) := by decide +kernel
theorem d2_29 : decode prog_28_method_3_code 29 = .ok (.invokestatic 29, 3) := by decide +kernel
theorem d2_32 : decode prog_28_method_3_code 32 = .ok (.lreturn, 1) := by decide +kernel
theorem pd_2_1 : parseMethodDescriptor "([BII)J" = some ⟨[(.array .byte), .int, .int], some .long⟩ := by decide +kernel
set_option maxRecDepth 65536 in
set_option maxHeartbeats 40000000 in
theorem rm2_t (l : Launch) (Z : State) (a0 : Array Value) (hw : ∀ d ∈ tables_1, d.before a0 Z = true) (ws : List Jvm.Cond) (a1 : Addr) (cl : Cell) (f : Nat → Int32) (I k N : Nat) (h0 : Heap) (n0 : Nat) (Z0 : n0 ≤ h0.size) (Ar : Arr Z h0 a1 cl .byte) (S : cl.slots.size = N) (hN : N < 2147483648) (hJ : I + k ≤ N) (hf : ∀ j, j < N → cl.slots[j]? = some (.int (f j))) (hc2 : (Int32.ofNat I) = (Int32.ofNat (I + k))) (hk0 : k = 0) :
    MetFree l (⟨"quotewarden/Numbers", "wholeNumber", "([BII)J"⟩ : MethodName) (head1 (Jvm.Cond.code (⟨"quotewarden/Numbers", "wholeNumber", "([BII)J"⟩ : MethodName) prog_28_method_3_code 3 (some .long) :: ws) ({ frames := 1, cells := 0, slots := 0, locals := 17 } : Room)) (fun a U => a = #[(.ref a1), (.int (Int32.ofNat I)), (.int (Int32.ofNat (I + k)))] ∧ Z.Warmed39 U.vm ∧ U.heap = h0) (fun _ _ _ _ _ => True) (fun _ U o U' => ∃ v L, o = .returned v ∧ Q2 Z f I k h0 n0 v U'.heap L ∧ FrameEnd U o U' L ({ frames := 1, cells := 0, slots := 0, locals := 17 } : Room).cells ({ frames := 1, cells := 0, slots := 0, locals := 17 } : Room).slots) := by
  refine MetFree.of_bodySF (plainFor_of_name pn_2) hisR ?_
  intro p e s m args below meth c s₁ Bd hml0 hP hK
  obtain ⟨rfl, hZ, hh⟩ := hP
  have hx := Bd.exec
  have hby := Bd.bytes
  have hml : c.maxLocals = 3 := hml0
  have hown : s.vm.findClass "quotewarden/Numbers" = some m.cls := findClass_of_methodNamed Bd.named
  have hnm := (name_of_methodNamed Bd.named Bd.method).1
  have X0 : Stand p l e ({ frames := 1, cells := 0, slots := 0, locals := 17 } : Room) s m #[(.ref a1), (.int (Int32.ofNat I)), (.int (Int32.ofNat (I + k)))] below meth c s₁ [] 0 0 := Stand.of_body Bd
  have e0 : s₁.heap = h0 := by rw [← hh, Bd.state]; rfl
  have N0 := Fr.nil n0
  have pre0 : ∀ t, Steps p.tables e below (s₁.setTop (mkF m 0 #[.val (.ref a1), .val (.int (Int32.ofNat I)), .val (.int (Int32.ofNat (I + k)))] [])) t → Steps p.tables e below (s₁.setTop (entryFrame m #[(.ref a1), (.int (Int32.ofNat I)), (.int (Int32.ofNat (I + k)))] 3)) t := fun t kt => castTop (ef_2 m a1 (Int32.ofNat I) (Int32.ofNat (I + k))) kt

  obtain ⟨fs, hr, hrun, hended, hW, hsame⟩ := X0.leave (v := some (.long (-1 : Int64))) (fun h => by rw [Bd.returns] at h; cases h)
  refine ⟨_, _, pre0 _ ?_, hrun, hended, _, _, rfl, ?_, ⟨_, rfl⟩, hW, hsame.mono (by decide) (by decide)⟩
  · show Steps p.tables e below (s₁.setTop (mkF m 0 #[.val (.ref a1), .val (.int (Int32.ofNat I)), .val (.int (Int32.ofNat (I + k)))] [])) _
    refine XS.iloadN X0.here hx rfl (hb hby d2_0) rfl ?_
    show Steps p.tables e below (s₁.setTop (mkF m 1 #[.val (.ref a1), .val (.int (Int32.ofNat I)), .val (.int (Int32.ofNat (I + k)))] [(.int (Int32.ofNat I))])) _
    refine XS.iloadN X0.here hx rfl (hb hby d2_1) rfl ?_
    show Steps p.tables e below (s₁.setTop (mkF m 2 #[.val (.ref a1), .val (.int (Int32.ofNat I)), .val (.int (Int32.ofNat (I + k)))] [(.int (Int32.ofNat (I + k))), (.int (Int32.ofNat I))])) _
    refine XS.icmpYes X0.here hx rfl (pc0 := 2) (pc' := 22) rfl (hb hby d2_2) rfl (teq hc2).1 (by decide) (by decide) ?_
    show Steps p.tables e below (s₁.setTop (mkF m 22 #[.val (.ref a1), .val (.int (Int32.ofNat I)), .val (.int (Int32.ofNat (I + k)))] [])) _
    refine X0.ldc2Long hx hown (mvT hZ (hw _ (List.mem_of_getElem? (i := 40) rfl))) (g := (mkF m 22 #[.val (.ref a1), .val (.int (Int32.ofNat I)), .val (.int (Int32.ofNat (I + k)))] [])) rfl (hb hby d2_22) _ ?_
    show Steps p.tables e below (s₁.setTop (mkF m 25 #[.val (.ref a1), .val (.int (Int32.ofNat I)), .val (.int (Int32.ofNat (I + k)))] [(.long (-1 : Int64))])) _
    exact own_retJ X0 hx Bd.returns (hb hby d2_25) hr
  · show Q2 Z f I k h0 n0 _ s₁.heap _
    rw [e0]
    exact ⟨by rw [own_wn, if_pos hk0], N0, rfl⟩
set_option maxRecDepth 65536 in
set_option maxHeartbeats 40000000 in
theorem rm2_ft (l : Launch) (Z : State) (a0 : Array Value) (hw : ∀ d ∈ tables_1, d.before a0 Z = true) (ws : List Jvm.Cond) (a1 : Addr) (cl : Cell) (f : Nat → Int32) (I k N : Nat) (h0 : Heap) (n0 : Nat) (Z0 : n0 ≤ h0.size) (Ar : Arr Z h0 a1 cl .byte) (S : cl.slots.size = N) (hN : N < 2147483648) (hJ : I + k ≤ N) (hf : ∀ j, j < N → cl.slots[j]? = some (.int (f j))) (hc2 : ¬ ((Int32.ofNat I) = (Int32.ofNat (I + k)))) (hc10 : (18 : Int32) < ((Int32.ofNat (I + k)) - (Int32.ofNat I))) (hk0 : ¬ k = 0) (hk18 : 18 < k) :
    MetFree l (⟨"quotewarden/Numbers", "wholeNumber", "([BII)J"⟩ : MethodName) (head1 (Jvm.Cond.code (⟨"quotewarden/Numbers", "wholeNumber", "([BII)J"⟩ : MethodName) prog_28_method_3_code 3 (some .long) :: ws) ({ frames := 1, cells := 0, slots := 0, locals := 17 } : Room)) (fun a U => a = #[(.ref a1), (.int (Int32.ofNat I)), (.int (Int32.ofNat (I + k)))] ∧ Z.Warmed39 U.vm ∧ U.heap = h0) (fun _ _ _ _ _ => True) (fun _ U o U' => ∃ v L, o = .returned v ∧ Q2 Z f I k h0 n0 v U'.heap L ∧ FrameEnd U o U' L ({ frames := 1, cells := 0, slots := 0, locals := 17 } : Room).cells ({ frames := 1, cells := 0, slots := 0, locals := 17 } : Room).slots) := by
  refine MetFree.of_bodySF (plainFor_of_name pn_2) hisR ?_
  intro p e s m args below meth c s₁ Bd hml0 hP hK
  obtain ⟨rfl, hZ, hh⟩ := hP
  have hx := Bd.exec
  have hby := Bd.bytes
  have hml : c.maxLocals = 3 := hml0
  have hown : s.vm.findClass "quotewarden/Numbers" = some m.cls := findClass_of_methodNamed Bd.named
  have hnm := (name_of_methodNamed Bd.named Bd.method).1
  have X0 : Stand p l e ({ frames := 1, cells := 0, slots := 0, locals := 17 } : Room) s m #[(.ref a1), (.int (Int32.ofNat I)), (.int (Int32.ofNat (I + k)))] below meth c s₁ [] 0 0 := Stand.of_body Bd
  have e0 : s₁.heap = h0 := by rw [← hh, Bd.state]; rfl
  have N0 := Fr.nil n0
  have pre0 : ∀ t, Steps p.tables e below (s₁.setTop (mkF m 0 #[.val (.ref a1), .val (.int (Int32.ofNat I)), .val (.int (Int32.ofNat (I + k)))] [])) t → Steps p.tables e below (s₁.setTop (entryFrame m #[(.ref a1), (.int (Int32.ofNat I)), (.int (Int32.ofNat (I + k)))] 3)) t := fun t kt => castTop (ef_2 m a1 (Int32.ofNat I) (Int32.ofNat (I + k))) kt

  obtain ⟨fs, hr, hrun, hended, hW, hsame⟩ := X0.leave (v := some (.long (-1 : Int64))) (fun h => by rw [Bd.returns] at h; cases h)
  refine ⟨_, _, pre0 _ ?_, hrun, hended, _, _, rfl, ?_, ⟨_, rfl⟩, hW, hsame.mono (by decide) (by decide)⟩
  · show Steps p.tables e below (s₁.setTop (mkF m 0 #[.val (.ref a1), .val (.int (Int32.ofNat I)), .val (.int (Int32.ofNat (I + k)))] [])) _
    refine XS.iloadN X0.here hx rfl (hb hby d2_0) rfl ?_
    show Steps p.tables e below (s₁.setTop (mkF m 1 #[.val (.ref a1), .val (.int (Int32.ofNat I)), .val (.int (Int32.ofNat (I + k)))] [(.int (Int32.ofNat I))])) _
    refine XS.iloadN X0.here hx rfl (hb hby d2_1) rfl ?_
    show Steps p.tables e below (s₁.setTop (mkF m 2 #[.val (.ref a1), .val (.int (Int32.ofNat I)), .val (.int (Int32.ofNat (I + k)))] [(.int (Int32.ofNat (I + k))), (.int (Int32.ofNat I))])) _
    refine XS.icmpNo X0.here hx rfl (hb hby d2_2) rfl (feq hc2).1 ?_
    show Steps p.tables e below (s₁.setTop (mkF m 5 #[.val (.ref a1), .val (.int (Int32.ofNat I)), .val (.int (Int32.ofNat (I + k)))] [])) _
    refine XS.iloadN X0.here hx rfl (hb hby d2_5) rfl ?_
    show Steps p.tables e below (s₁.setTop (mkF m 6 #[.val (.ref a1), .val (.int (Int32.ofNat I)), .val (.int (Int32.ofNat (I + k)))] [(.int (Int32.ofNat (I + k)))])) _
    refine XS.iloadN X0.here hx rfl (hb hby d2_6) rfl ?_
    show Steps p.tables e below (s₁.setTop (mkF m 7 #[.val (.ref a1), .val (.int (Int32.ofNat I)), .val (.int (Int32.ofNat (I + k)))] [(.int (Int32.ofNat I)), (.int (Int32.ofNat (I + k)))])) _
    refine XS.isub X0.here hx rfl (hb hby d2_7) rfl ?_
    show Steps p.tables e below (s₁.setTop (mkF m 8 #[.val (.ref a1), .val (.int (Int32.ofNat I)), .val (.int (Int32.ofNat (I + k)))] [(.int ((Int32.ofNat (I + k)) - (Int32.ofNat I)))])) _
    refine XS.bipush X0.here hx rfl (hb hby d2_8) ?_
    show Steps p.tables e below (s₁.setTop (mkF m 10 #[.val (.ref a1), .val (.int (Int32.ofNat I)), .val (.int (Int32.ofNat (I + k)))] [(.int (18 : Int32)), (.int ((Int32.ofNat (I + k)) - (Int32.ofNat I)))])) _
    refine XS.icmpYes X0.here hx rfl (pc0 := 10) (pc' := 22) rfl (hb hby d2_10) rfl (tlt hc10).2.2.1 (by decide) (by decide) ?_
    show Steps p.tables e below (s₁.setTop (mkF m 22 #[.val (.ref a1), .val (.int (Int32.ofNat I)), .val (.int (Int32.ofNat (I + k)))] [])) _
    refine X0.ldc2Long hx hown (mvT hZ (hw _ (List.mem_of_getElem? (i := 40) rfl))) (g := (mkF m 22 #[.val (.ref a1), .val (.int (Int32.ofNat I)), .val (.int (Int32.ofNat (I + k)))] [])) rfl (hb hby d2_22) _ ?_
    show Steps p.tables e below (s₁.setTop (mkF m 25 #[.val (.ref a1), .val (.int (Int32.ofNat I)), .val (.int (Int32.ofNat (I + k)))] [(.long (-1 : Int64))])) _
    exact own_retJ X0 hx Bd.returns (hb hby d2_25) hr
  · show Q2 Z f I k h0 n0 _ s₁.heap _
    rw [e0]
    exact ⟨by rw [own_wn, if_neg hk0, if_pos hk18], N0, rfl⟩
set_option maxRecDepth 65536 in
set_option maxHeartbeats 40000000 in
theorem rm2_fff (l : Launch) (Z : State) (a0 : Array Value) (hw : ∀ d ∈ tables_1, d.before a0 Z = true) (ws : List Jvm.Cond) (a1 : Addr) (cl : Cell) (f : Nat → Int32) (I k N : Nat) (h0 : Heap) (n0 : Nat) (Z0 : n0 ≤ h0.size) (Ar : Arr Z h0 a1 cl .byte) (S : cl.slots.size = N) (hN : N < 2147483648) (hJ : I + k ≤ N) (hf : ∀ j, j < N → cl.slots[j]? = some (.int (f j))) (hc2 : ¬ ((Int32.ofNat I) = (Int32.ofNat (I + k)))) (hc10 : ¬ ((18 : Int32) < ((Int32.ofNat (I + k)) - (Int32.ofNat I)))) (hk0 : ¬ k = 0) (hk18 : ¬ 18 < k) (hd0 : own_isd f I k = (0 : Int32)) :
    MetFree l (⟨"quotewarden/Numbers", "wholeNumber", "([BII)J"⟩ : MethodName) (head1 (Jvm.Cond.code (⟨"quotewarden/Numbers", "wholeNumber", "([BII)J"⟩ : MethodName) prog_28_method_3_code 3 (some .long) :: ws) ({ frames := 1, cells := 0, slots := 0, locals := 17 } : Room)) (fun a U => a = #[(.ref a1), (.int (Int32.ofNat I)), (.int (Int32.ofNat (I + k)))] ∧ Z.Warmed39 U.vm ∧ U.heap = h0) (fun _ _ _ _ _ => True) (fun _ U o U' => ∃ v L, o = .returned v ∧ Q2 Z f I k h0 n0 v U'.heap L ∧ FrameEnd U o U' L ({ frames := 1, cells := 0, slots := 0, locals := 17 } : Room).cells ({ frames := 1, cells := 0, slots := 0, locals := 17 } : Room).slots) := by
  refine MetFree.of_bodySF (plainFor_of_name pn_2) hisR ?_
  intro p e s m args below meth c s₁ Bd hml0 hP hK
  obtain ⟨rfl, hZ, hh⟩ := hP
  have hx := Bd.exec
  have hby := Bd.bytes
  have hml : c.maxLocals = 3 := hml0
  have hown : s.vm.findClass "quotewarden/Numbers" = some m.cls := findClass_of_methodNamed Bd.named
  have hnm := (name_of_methodNamed Bd.named Bd.method).1
  have X0 : Stand p l e ({ frames := 1, cells := 0, slots := 0, locals := 17 } : Room) s m #[(.ref a1), (.int (Int32.ofNat I)), (.int (Int32.ofNat (I + k)))] below meth c s₁ [] 0 0 := Stand.of_body Bd
  have e0 : s₁.heap = h0 := by rw [← hh, Bd.state]; rfl
  have N0 := Fr.nil n0
  have pre0 : ∀ t, Steps p.tables e below (s₁.setTop (mkF m 0 #[.val (.ref a1), .val (.int (Int32.ofNat I)), .val (.int (Int32.ofNat (I + k)))] [])) t → Steps p.tables e below (s₁.setTop (entryFrame m #[(.ref a1), (.int (Int32.ofNat I)), (.int (Int32.ofNat (I + k)))] 3)) t := fun t kt => castTop (ef_2 m a1 (Int32.ofNat I) (Int32.ofNat (I + k))) kt
  obtain ⟨_, _, ⟨T4, L4, k4, n4⟩, -, X4, ⟨Lc4, hQ4, l4, y4, z4⟩, st4⟩ := Jvm.LawKit.callS X0 hx (y := (⟨"quotewarden/Numbers", "isDigits", "([BII)Z"⟩ : MethodName)) hown (mvT hZ (hw _ (List.mem_of_getElem? (i := 31) rfl))) (mvT hZ (hw _ (List.mem_of_getElem? (i := 32) rfl))) (mvT hZ (hw _ (List.mem_of_getElem? (i := 29) rfl))) (mvT hZ (hw _ (List.mem_of_getElem? (i := 33) rfl))) (by decide) (backOf (W := 0) (rm3 l Z a0 hw [] a1 cl f I k N h0 n0 Z0 Ar S hN hJ hf) hZ (hw _ (List.mem_of_getElem? (i := 33) rfl)) (hw _ (List.mem_of_getElem? (i := 29) rfl)) (by decide) (by decide)) (g := (mkF m 16 #[.val (.ref a1), .val (.int (Int32.ofNat I)), .val (.int (Int32.ofNat (I + k)))] [(.int (Int32.ofNat (I + k))), (.int (Int32.ofNat I)), (.ref a1)])) rfl (by rw [hml]; rfl) (argsL := [(.ref a1), (.int (Int32.ofNat I)), (.int (Int32.ofNat (I + k)))]) (rest := []) (lenOf pd_2_2 rfl) rfl (by show 2 * 0 + _ ≤ _; exact Nat.le_of_eq rfl) (hb hby d2_16) (fun _ _ => ⟨rfl, e0, (by decide : 0 + 0 ≤ _), (by decide : 0 + 0 ≤ _)⟩)
  dsimp only [Pt.U, Pt.locs, Pt.cells, Pt.slots] at X4 l4 y4 z4 st4 hQ4
  subst l4 y4 z4
  obtain ⟨rfl, N4q, e4q⟩ := hQ4
  have N4 := Fr.app N0 N4q
  obtain ⟨fs, hr, hrun, hended, hW, hsame⟩ := X4.leave (v := some (.long (-1 : Int64))) (fun h => by rw [Bd.returns] at h; cases h)
  refine ⟨_, _, pre0 _ ?_, hrun, hended, _, _, rfl, ?_, ⟨_, rfl⟩, hW, hsame.mono (by decide) (by decide)⟩
  · show Steps p.tables e below (s₁.setTop (mkF m 0 #[.val (.ref a1), .val (.int (Int32.ofNat I)), .val (.int (Int32.ofNat (I + k)))] [])) _
    refine XS.iloadN X0.here hx rfl (hb hby d2_0) rfl ?_
    show Steps p.tables e below (s₁.setTop (mkF m 1 #[.val (.ref a1), .val (.int (Int32.ofNat I)), .val (.int (Int32.ofNat (I + k)))] [(.int (Int32.ofNat I))])) _
    refine XS.iloadN X0.here hx rfl (hb hby d2_1) rfl ?_
    show Steps p.tables e below (s₁.setTop (mkF m 2 #[.val (.ref a1), .val (.int (Int32.ofNat I)), .val (.int (Int32.ofNat (I + k)))] [(.int (Int32.ofNat (I + k))), (.int (Int32.ofNat I))])) _
    refine XS.icmpNo X0.here hx rfl (hb hby d2_2) rfl (feq hc2).1 ?_
    show Steps p.tables e below (s₁.setTop (mkF m 5 #[.val (.ref a1), .val (.int (Int32.ofNat I)), .val (.int (Int32.ofNat (I + k)))] [])) _
    refine XS.iloadN X0.here hx rfl (hb hby d2_5) rfl ?_
    show Steps p.tables e below (s₁.setTop (mkF m 6 #[.val (.ref a1), .val (.int (Int32.ofNat I)), .val (.int (Int32.ofNat (I + k)))] [(.int (Int32.ofNat (I + k)))])) _
    refine XS.iloadN X0.here hx rfl (hb hby d2_6) rfl ?_
    show Steps p.tables e below (s₁.setTop (mkF m 7 #[.val (.ref a1), .val (.int (Int32.ofNat I)), .val (.int (Int32.ofNat (I + k)))] [(.int (Int32.ofNat I)), (.int (Int32.ofNat (I + k)))])) _
    refine XS.isub X0.here hx rfl (hb hby d2_7) rfl ?_
    show Steps p.tables e below (s₁.setTop (mkF m 8 #[.val (.ref a1), .val (.int (Int32.ofNat I)), .val (.int (Int32.ofNat (I + k)))] [(.int ((Int32.ofNat (I + k)) - (Int32.ofNat I)))])) _
    refine XS.bipush X0.here hx rfl (hb hby d2_8) ?_
    show Steps p.tables e below (s₁.setTop (mkF m 10 #[.val (.ref a1), .val (.int (Int32.ofNat I)), .val (.int (Int32.ofNat (I + k)))] [(.int (18 : Int32)), (.int ((Int32.ofNat (I + k)) - (Int32.ofNat I)))])) _
    refine XS.icmpNo X0.here hx rfl (hb hby d2_10) rfl (flt hc10).2.2.1 ?_
    show Steps p.tables e below (s₁.setTop (mkF m 13 #[.val (.ref a1), .val (.int (Int32.ofNat I)), .val (.int (Int32.ofNat (I + k)))] [])) _
    refine XS.aloadN X0.here hx rfl (hb hby d2_13) rfl rfl ?_
    show Steps p.tables e below (s₁.setTop (mkF m 14 #[.val (.ref a1), .val (.int (Int32.ofNat I)), .val (.int (Int32.ofNat (I + k)))] [(.ref a1)])) _
    refine XS.iloadN X0.here hx rfl (hb hby d2_14) rfl ?_
    show Steps p.tables e below (s₁.setTop (mkF m 15 #[.val (.ref a1), .val (.int (Int32.ofNat I)), .val (.int (Int32.ofNat (I + k)))] [(.int (Int32.ofNat I)), (.ref a1)])) _
    refine XS.iloadN X0.here hx rfl (hb hby d2_15) rfl ?_
    show Steps p.tables e below (s₁.setTop (mkF m 16 #[.val (.ref a1), .val (.int (Int32.ofNat I)), .val (.int (Int32.ofNat (I + k)))] [(.int (Int32.ofNat (I + k))), (.int (Int32.ofNat I)), (.ref a1)])) _
    refine st4 _ ?_
    show Steps p.tables e below (T4.setTop (mkF m 19 #[.val (.ref a1), .val (.int (Int32.ofNat I)), .val (.int (Int32.ofNat (I + k)))] [(.int (own_isd f I k))])) _
    refine XS.ifNo X4.here hx rfl (hb hby d2_19) rfl ((if0 _ _).trans (teq (hd0 : (own_isd f I k) = (0 : Int32))).2) ?_
    show Steps p.tables e below (T4.setTop (mkF m 22 #[.val (.ref a1), .val (.int (Int32.ofNat I)), .val (.int (Int32.ofNat (I + k)))] [])) _
    refine X4.ldc2Long hx hown (mvT hZ (hw _ (List.mem_of_getElem? (i := 40) rfl))) (g := (mkF m 22 #[.val (.ref a1), .val (.int (Int32.ofNat I)), .val (.int (Int32.ofNat (I + k)))] [])) rfl (hb hby d2_22) _ ?_
    show Steps p.tables e below (T4.setTop (mkF m 25 #[.val (.ref a1), .val (.int (Int32.ofNat I)), .val (.int (Int32.ofNat (I + k)))] [(.long (-1 : Int64))])) _
    exact own_retJ X4 hx Bd.returns (hb hby d2_25) hr
  · show Q2 Z f I k h0 n0 _ T4.heap _
    exact ⟨by rw [own_wn, if_neg hk0, if_neg hk18, if_pos hd0], N4, e4q⟩
set_option maxRecDepth 65536 in
set_option maxHeartbeats 40000000 in
theorem rm2_fft (l : Launch) (Z : State) (a0 : Array Value) (hw : ∀ d ∈ tables_1, d.before a0 Z = true) (ws : List Jvm.Cond) (a1 : Addr) (cl : Cell) (f : Nat → Int32) (I k N : Nat) (h0 : Heap) (n0 : Nat) (Z0 : n0 ≤ h0.size) (Ar : Arr Z h0 a1 cl .byte) (S : cl.slots.size = N) (hN : N < 2147483648) (hJ : I + k ≤ N) (hf : ∀ j, j < N → cl.slots[j]? = some (.int (f j))) (hc2 : ¬ ((Int32.ofNat I) = (Int32.ofNat (I + k)))) (hc10 : ¬ ((18 : Int32) < ((Int32.ofNat (I + k)) - (Int32.ofNat I)))) (hk0 : ¬ k = 0) (hk18 : ¬ 18 < k) (hd0 : ¬ (own_isd f I k = (0 : Int32))) :
    MetFree l (⟨"quotewarden/Numbers", "wholeNumber", "([BII)J"⟩ : MethodName) (head1 (Jvm.Cond.code (⟨"quotewarden/Numbers", "wholeNumber", "([BII)J"⟩ : MethodName) prog_28_method_3_code 3 (some .long) :: ws) ({ frames := 1, cells := 0, slots := 0, locals := 17 } : Room)) (fun a U => a = #[(.ref a1), (.int (Int32.ofNat I)), (.int (Int32.ofNat (I + k)))] ∧ Z.Warmed39 U.vm ∧ U.heap = h0) (fun _ _ _ _ _ => True) (fun _ U o U' => ∃ v L, o = .returned v ∧ Q2 Z f I k h0 n0 v U'.heap L ∧ FrameEnd U o U' L ({ frames := 1, cells := 0, slots := 0, locals := 17 } : Room).cells ({ frames := 1, cells := 0, slots := 0, locals := 17 } : Room).slots) := by
  refine MetFree.of_bodySF (plainFor_of_name pn_2) hisR ?_
  intro p e s m args below meth c s₁ Bd hml0 hP hK
  obtain ⟨rfl, hZ, hh⟩ := hP
  have hx := Bd.exec
  have hby := Bd.bytes
  have hml : c.maxLocals = 3 := hml0
  have hown : s.vm.findClass "quotewarden/Numbers" = some m.cls := findClass_of_methodNamed Bd.named
  have hnm := (name_of_methodNamed Bd.named Bd.method).1
  have X0 : Stand p l e ({ frames := 1, cells := 0, slots := 0, locals := 17 } : Room) s m #[(.ref a1), (.int (Int32.ofNat I)), (.int (Int32.ofNat (I + k)))] below meth c s₁ [] 0 0 := Stand.of_body Bd
  have e0 : s₁.heap = h0 := by rw [← hh, Bd.state]; rfl
  have N0 := Fr.nil n0
  have pre0 : ∀ t, Steps p.tables e below (s₁.setTop (mkF m 0 #[.val (.ref a1), .val (.int (Int32.ofNat I)), .val (.int (Int32.ofNat (I + k)))] [])) t → Steps p.tables e below (s₁.setTop (entryFrame m #[(.ref a1), (.int (Int32.ofNat I)), (.int (Int32.ofNat (I + k)))] 3)) t := fun t kt => castTop (ef_2 m a1 (Int32.ofNat I) (Int32.ofNat (I + k))) kt
  obtain ⟨_, _, ⟨T4, L4, k4, n4⟩, -, X4, ⟨Lc4, hQ4, l4, y4, z4⟩, st4⟩ := Jvm.LawKit.callS X0 hx (y := (⟨"quotewarden/Numbers", "isDigits", "([BII)Z"⟩ : MethodName)) hown (mvT hZ (hw _ (List.mem_of_getElem? (i := 31) rfl))) (mvT hZ (hw _ (List.mem_of_getElem? (i := 32) rfl))) (mvT hZ (hw _ (List.mem_of_getElem? (i := 29) rfl))) (mvT hZ (hw _ (List.mem_of_getElem? (i := 33) rfl))) (by decide) (backOf (W := 0) (rm3 l Z a0 hw [] a1 cl f I k N h0 n0 Z0 Ar S hN hJ hf) hZ (hw _ (List.mem_of_getElem? (i := 33) rfl)) (hw _ (List.mem_of_getElem? (i := 29) rfl)) (by decide) (by decide)) (g := (mkF m 16 #[.val (.ref a1), .val (.int (Int32.ofNat I)), .val (.int (Int32.ofNat (I + k)))] [(.int (Int32.ofNat (I + k))), (.int (Int32.ofNat I)), (.ref a1)])) rfl (by rw [hml]; rfl) (argsL := [(.ref a1), (.int (Int32.ofNat I)), (.int (Int32.ofNat (I + k)))]) (rest := []) (lenOf pd_2_2 rfl) rfl (by show 2 * 0 + _ ≤ _; exact Nat.le_of_eq rfl) (hb hby d2_16) (fun _ _ => ⟨rfl, e0, (by decide : 0 + 0 ≤ _), (by decide : 0 + 0 ≤ _)⟩)
  dsimp only [Pt.U, Pt.locs, Pt.cells, Pt.slots] at X4 l4 y4 z4 st4 hQ4
  subst l4 y4 z4
  obtain ⟨rfl, N4q, e4q⟩ := hQ4
  have N4 := Fr.app N0 N4q
  obtain ⟨_, _, ⟨T5, L5, k5, n5⟩, -, X5, ⟨Lc5, hQ5, l5, y5, z5⟩, st5⟩ := Jvm.LawKit.callS X4 hx (y := (⟨"quotewarden/Numbers", "digits", "([BII)J"⟩ : MethodName)) hown (mvT hZ (hw _ (List.mem_of_getElem? (i := 34) rfl))) (mvT hZ (hw _ (List.mem_of_getElem? (i := 35) rfl))) (mvT hZ (hw _ (List.mem_of_getElem? (i := 29) rfl))) (mvT hZ (hw _ (List.mem_of_getElem? (i := 36) rfl))) (by decide) (backOf (W := 0) (rm4 l Z a0 hw [] a1 cl f I k N T4.heap n0 (by rw [e4q]; exact Z0) (by rw [e4q]; exact Ar) S hN hJ hf) hZ (hw _ (List.mem_of_getElem? (i := 36) rfl)) (hw _ (List.mem_of_getElem? (i := 29) rfl)) (by decide) (by decide)) (g := (mkF m 29 #[.val (.ref a1), .val (.int (Int32.ofNat I)), .val (.int (Int32.ofNat (I + k)))] [(.int (Int32.ofNat (I + k))), (.int (Int32.ofNat I)), (.ref a1)])) rfl (by rw [hml]; rfl) (argsL := [(.ref a1), (.int (Int32.ofNat I)), (.int (Int32.ofNat (I + k)))]) (rest := []) (lenOf pd_2_1 rfl) rfl (by show 2 * 0 + _ ≤ _; exact Nat.le_of_eq rfl) (hb hby d2_29) (fun _ _ => ⟨rfl, rfl, (by decide : 0 + 0 ≤ _), (by decide : 0 + 0 ≤ _)⟩)
  dsimp only [Pt.U, Pt.locs, Pt.cells, Pt.slots] at X5 l5 y5 z5 st5 hQ5
  subst l5 y5 z5
  obtain ⟨rfl, N5q, e5q⟩ := hQ5
  have N5 := Fr.app N4 N5q
  obtain ⟨fs, hr, hrun, hended, hW, hsame⟩ := X5.leave (v := some (.long (own_dig f I k 0))) (fun h => by rw [Bd.returns] at h; cases h)
  refine ⟨_, _, pre0 _ ?_, hrun, hended, _, _, rfl, ?_, ⟨_, rfl⟩, hW, hsame.mono (by decide) (by decide)⟩
  · show Steps p.tables e below (s₁.setTop (mkF m 0 #[.val (.ref a1), .val (.int (Int32.ofNat I)), .val (.int (Int32.ofNat (I + k)))] [])) _
    refine XS.iloadN X0.here hx rfl (hb hby d2_0) rfl ?_
    show Steps p.tables e below (s₁.setTop (mkF m 1 #[.val (.ref a1), .val (.int (Int32.ofNat I)), .val (.int (Int32.ofNat (I + k)))] [(.int (Int32.ofNat I))])) _
    refine XS.iloadN X0.here hx rfl (hb hby d2_1) rfl ?_
    show Steps p.tables e below (s₁.setTop (mkF m 2 #[.val (.ref a1), .val (.int (Int32.ofNat I)), .val (.int (Int32.ofNat (I + k)))] [(.int (Int32.ofNat (I + k))), (.int (Int32.ofNat I))])) _
    refine XS.icmpNo X0.here hx rfl (hb hby d2_2) rfl (feq hc2).1 ?_
    show Steps p.tables e below (s₁.setTop (mkF m 5 #[.val (.ref a1), .val (.int (Int32.ofNat I)), .val (.int (Int32.ofNat (I + k)))] [])) _
    refine XS.iloadN X0.here hx rfl (hb hby d2_5) rfl ?_
    show Steps p.tables e below (s₁.setTop (mkF m 6 #[.val (.ref a1), .val (.int (Int32.ofNat I)), .val (.int (Int32.ofNat (I + k)))] [(.int (Int32.ofNat (I + k)))])) _
    refine XS.iloadN X0.here hx rfl (hb hby d2_6) rfl ?_
    show Steps p.tables e below (s₁.setTop (mkF m 7 #[.val (.ref a1), .val (.int (Int32.ofNat I)), .val (.int (Int32.ofNat (I + k)))] [(.int (Int32.ofNat I)), (.int (Int32.ofNat (I + k)))])) _
    refine XS.isub X0.here hx rfl (hb hby d2_7) rfl ?_
    show Steps p.tables e below (s₁.setTop (mkF m 8 #[.val (.ref a1), .val (.int (Int32.ofNat I)), .val (.int (Int32.ofNat (I + k)))] [(.int ((Int32.ofNat (I + k)) - (Int32.ofNat I)))])) _
    refine XS.bipush X0.here hx rfl (hb hby d2_8) ?_
    show Steps p.tables e below (s₁.setTop (mkF m 10 #[.val (.ref a1), .val (.int (Int32.ofNat I)), .val (.int (Int32.ofNat (I + k)))] [(.int (18 : Int32)), (.int ((Int32.ofNat (I + k)) - (Int32.ofNat I)))])) _
    refine XS.icmpNo X0.here hx rfl (hb hby d2_10) rfl (flt hc10).2.2.1 ?_
    show Steps p.tables e below (s₁.setTop (mkF m 13 #[.val (.ref a1), .val (.int (Int32.ofNat I)), .val (.int (Int32.ofNat (I + k)))] [])) _
    refine XS.aloadN X0.here hx rfl (hb hby d2_13) rfl rfl ?_
    show Steps p.tables e below (s₁.setTop (mkF m 14 #[.val (.ref a1), .val (.int (Int32.ofNat I)), .val (.int (Int32.ofNat (I + k)))] [(.ref a1)])) _
    refine XS.iloadN X0.here hx rfl (hb hby d2_14) rfl ?_
    show Steps p.tables e below (s₁.setTop (mkF m 15 #[.val (.ref a1), .val (.int (Int32.ofNat I)), .val (.int (Int32.ofNat (I + k)))] [(.int (Int32.ofNat I)), (.ref a1)])) _
    refine XS.iloadN X0.here hx rfl (hb hby d2_15) rfl ?_
    show Steps p.tables e below (s₁.setTop (mkF m 16 #[.val (.ref a1), .val (.int (Int32.ofNat I)), .val (.int (Int32.ofNat (I + k)))] [(.int (Int32.ofNat (I + k))), (.int (Int32.ofNat I)), (.ref a1)])) _
    refine st4 _ ?_
    show Steps p.tables e below (T4.setTop (mkF m 19 #[.val (.ref a1), .val (.int (Int32.ofNat I)), .val (.int (Int32.ofNat (I + k)))] [(.int (own_isd f I k))])) _
    refine XS.ifYes X4.here hx rfl (pc0 := 19) (pc' := 26) rfl (hb hby d2_19) rfl ((if0 _ _).trans (feq (hd0 : ¬ ((own_isd f I k) = (0 : Int32)))).2) (by decide) (by decide) ?_
    show Steps p.tables e below (T4.setTop (mkF m 26 #[.val (.ref a1), .val (.int (Int32.ofNat I)), .val (.int (Int32.ofNat (I + k)))] [])) _
    refine XS.aloadN X4.here hx rfl (hb hby d2_26) rfl rfl ?_
    show Steps p.tables e below (T4.setTop (mkF m 27 #[.val (.ref a1), .val (.int (Int32.ofNat I)), .val (.int (Int32.ofNat (I + k)))] [(.ref a1)])) _
    refine XS.iloadN X4.here hx rfl (hb hby d2_27) rfl ?_
    show Steps p.tables e below (T4.setTop (mkF m 28 #[.val (.ref a1), .val (.int (Int32.ofNat I)), .val (.int (Int32.ofNat (I + k)))] [(.int (Int32.ofNat I)), (.ref a1)])) _
    refine XS.iloadN X4.here hx rfl (hb hby d2_28) rfl ?_
    show Steps p.tables e below (T4.setTop (mkF m 29 #[.val (.ref a1), .val (.int (Int32.ofNat I)), .val (.int (Int32.ofNat (I + k)))] [(.int (Int32.ofNat (I + k))), (.int (Int32.ofNat I)), (.ref a1)])) _
    refine st5 _ ?_
    show Steps p.tables e below (T5.setTop (mkF m 32 #[.val (.ref a1), .val (.int (Int32.ofNat I)), .val (.int (Int32.ofNat (I + k)))] [(.long (own_dig f I k 0))])) _
    exact own_retJ X5 hx Bd.returns (hb hby d2_32) hr
  · show Q2 Z f I k h0 n0 _ T5.heap _
    exact ⟨by rw [own_wn, if_neg hk0, if_neg hk18, if_neg hd0], N5, e5q.trans e4q⟩
set_option maxRecDepth 65536 in
set_option maxHeartbeats 40000000 in
theorem rm2 (l : Launch) (Z : State) (a0 : Array Value) (hw : ∀ d ∈ tables_1, d.before a0 Z = true) (ws : List Jvm.Cond) (a1 : Addr) (cl : Cell) (f : Nat → Int32) (I k N : Nat) (h0 : Heap) (n0 : Nat) (Z0 : n0 ≤ h0.size) (Ar : Arr Z h0 a1 cl .byte) (S : cl.slots.size = N) (hN : N < 2147483648) (hJ : I + k ≤ N) (hf : ∀ j, j < N → cl.slots[j]? = some (.int (f j))) :
    MetFree l (⟨"quotewarden/Numbers", "wholeNumber", "([BII)J"⟩ : MethodName) (head1 (Jvm.Cond.code (⟨"quotewarden/Numbers", "wholeNumber", "([BII)J"⟩ : MethodName) prog_28_method_3_code 3 (some .long) :: ws) ({ frames := 1, cells := 0, slots := 0, locals := 17 } : Room)) (fun a U => a = #[(.ref a1), (.int (Int32.ofNat I)), (.int (Int32.ofNat (I + k)))] ∧ Z.Warmed39 U.vm ∧ U.heap = h0) (fun _ _ _ _ _ => True) (fun _ U o U' => ∃ v L, o = .returned v ∧ Q2 Z f I k h0 n0 v U'.heap L ∧ FrameEnd U o U' L ({ frames := 1, cells := 0, slots := 0, locals := 17 } : Room).cells ({ frames := 1, cells := 0, slots := 0, locals := 17 } : Room).slots) := by
  have z18 : (18 : Int32).toInt = 18 := by decide +kernel
  have nI := own_nat (i := I) (by omega)
  have nJ := own_nat (i := I + k) (by omega)
  have e2 : Int32.ofNat I = Int32.ofNat (I + k) ↔ k = 0 := by
    rw [← Int32.toInt_inj, nI, nJ]; omega
  have sb := c_isub (Int32.ofNat (I + k)) (Int32.ofNat I)
  have rb := rng32 (Int32.ofNat (I + k) - Int32.ofNat I)
  have e18 : (18 : Int32) < Int32.ofNat (I + k) - Int32.ofNat I ↔ 18 < k := by
    rw [Int32.lt_iff_toInt_lt, z18]; rw [nI, nJ] at sb; omega
  by_cases h0' : k = 0
  · exact rm2_t l Z a0 hw ws a1 cl f I k N h0 n0 Z0 Ar S hN hJ hf (e2.mpr h0') h0'
  · by_cases h18 : 18 < k
    · exact rm2_ft l Z a0 hw ws a1 cl f I k N h0 n0 Z0 Ar S hN hJ hf (fun q => h0' (e2.mp q)) (e18.mpr h18) h0' h18
    · by_cases hd0 : own_isd f I k = (0 : Int32)
      · exact rm2_fff l Z a0 hw ws a1 cl f I k N h0 n0 Z0 Ar S hN hJ hf (fun q => h0' (e2.mp q)) (fun q => h18 (e18.mp q)) h0' h18 hd0
      · exact rm2_fft l Z a0 hw ws a1 cl f I k N h0 n0 Z0 Ar S hN hJ hf (fun q => h0' (e2.mp q)) (fun q => h18 (e18.mp q)) h0' h18 hd0
theorem os0_172_155_t {s0 : Slot} {s1 : Slot} {s2 : Slot} {s3 : Slot} {z4 : Value} {s5 : Slot} {s6 : Slot} {s7 : Slot} {s8 : Slot} {s9 : Slot} {s10 : Slot} {s11 : Slot} {s12 : Slot} {s13 : Slot} {s14 : Slot} {s15 : Slot} {s16 : Slot} {s17 : Slot} {s18 : Slot} {s19 : Slot} {v : Int32} (h : One s12) : storeLocals #[s0, s1, s2, s3, .val z4, s5, s6, s7, s8, s9, s10, s11, s12, s13, s14, s15, s16, s17, s18, s19] 12 (.int v) = some #[s0, s1, s2, s3, .val z4, s5, s6, s7, s8, s9, s10, s11, .val (.int v), s13, s14, s15, s16, s17, s18, s19] := by
  rcases h with rfl | ⟨w, rfl, hw⟩
  · rfl
  · cases w <;> first | rfl | (simp [Value.category] at hw)
set_option maxRecDepth 65536 in
set_option maxHeartbeats 40000000 in
theorem tn0_155_174_t {p : Program} {l : Launch} {e : Env} {R : Room} {s : State} {m : MethodId} {args : Array Value} {below : List Frame} {meth : Method} {c : Code} {T0 : State} {locs : List Loc} {cells slots : Nat} {Z : State} {a0 : Array Value} {h0 : Heap} (s0 : Slot) (s1 : Slot) (s2 : Slot) (s3 : Slot) (i4 : Int32) (s5 : Slot) (s6 : Slot) (s7 : Slot) (s8 : Slot) (s9 : Slot) (s10 : Slot) (s11 : Slot) (s12 : Slot) (s13 : Slot) (s14 : Slot) (s15 : Slot) (s16 : Slot) (s17 : Slot) (s18 : Slot) (s19 : Slot)
    (X0 : Stand p l e R s m args below meth c T0 locs cells slots) (hx : p.tables.exec = Jvm.exec) (hZ : Z.Warmed39 s.vm) (hw : ∀ d ∈ tables_1, d.before a0 Z = true) (hby : c.code = code) (hml : c.maxLocals = 20) (hown : s.vm.findClass "quotewarden/NumbersWholeNumberPinLaw" = some m.cls) (e0 : T0.heap = h0) (hs12 : One s12) (hc159 : (i4 &&& (1 : Int32)) = (0 : Int32)) :
    ∀ target, Steps p.tables e below (T0.setTop (mkF m 174 #[s0, s1, s2, s3, .val (.int i4), s5, s6, s7, s8, s9, s10, s11, .val (.int (0 : Int32)), s13, s14, s15, s16, s17, s18, s19] [])) target → Steps p.tables e below (T0.setTop (mkF m 155 #[s0, s1, s2, s3, .val (.int i4), s5, s6, s7, s8, s9, s10, s11, s12, s13, s14, s15, s16, s17, s18, s19] [])) target := by

  intro target kt
  show Steps p.tables e below (T0.setTop (mkF m 155 #[s0, s1, s2, s3, .val (.int i4), s5, s6, s7, s8, s9, s10, s11, s12, s13, s14, s15, s16, s17, s18, s19] [])) _
  refine XS.iload X0.here hx rfl (hb hby at_155) rfl ?_
  show Steps p.tables e below (T0.setTop (mkF m 157 #[s0, s1, s2, s3, .val (.int i4), s5, s6, s7, s8, s9, s10, s11, s12, s13, s14, s15, s16, s17, s18, s19] [(.int i4)])) _
  refine XS.iconst X0.here hx rfl (hb hby at_157) ?_
  show Steps p.tables e below (T0.setTop (mkF m 158 #[s0, s1, s2, s3, .val (.int i4), s5, s6, s7, s8, s9, s10, s11, s12, s13, s14, s15, s16, s17, s18, s19] [(.int (1 : Int32)), (.int i4)])) _
  refine XS.iand X0.here hx rfl (hb hby at_158) rfl ?_
  show Steps p.tables e below (T0.setTop (mkF m 159 #[s0, s1, s2, s3, .val (.int i4), s5, s6, s7, s8, s9, s10, s11, s12, s13, s14, s15, s16, s17, s18, s19] [(.int (i4 &&& (1 : Int32)))])) _
  refine XS.ifYes X0.here hx rfl (pc0 := 159) (pc' := 171) rfl (hb hby at_159) rfl ((if0 _ _).trans (teq hc159).1) (by decide) (by decide) ?_
  show Steps p.tables e below (T0.setTop (mkF m 171 #[s0, s1, s2, s3, .val (.int i4), s5, s6, s7, s8, s9, s10, s11, s12, s13, s14, s15, s16, s17, s18, s19] [])) _
  refine XS.iconst X0.here hx rfl (hb hby at_171) ?_
  show Steps p.tables e below (T0.setTop (mkF m 172 #[s0, s1, s2, s3, .val (.int i4), s5, s6, s7, s8, s9, s10, s11, s12, s13, s14, s15, s16, s17, s18, s19] [(.int (0 : Int32))])) _
  refine XS.istore X0.here hx rfl (hb hby at_172) rfl (l' := #[s0, s1, s2, s3, .val (.int i4), s5, s6, s7, s8, s9, s10, s11, .val (.int (0 : Int32)), s13, s14, s15, s16, s17, s18, s19]) (os0_172_155_t hs12) ?_
  exact kt
theorem os0_172_155_ft {s0 : Slot} {s1 : Slot} {s2 : Slot} {s3 : Slot} {z4 : Value} {s5 : Slot} {s6 : Slot} {s7 : Slot} {s8 : Slot} {s9 : Slot} {z10 : Value} {s11 : Slot} {s12 : Slot} {s13 : Slot} {s14 : Slot} {s15 : Slot} {s16 : Slot} {s17 : Slot} {s18 : Slot} {s19 : Slot} {v : Int32} (h : One s12) : storeLocals #[s0, s1, s2, s3, .val z4, s5, s6, s7, s8, s9, .val z10, s11, s12, s13, s14, s15, s16, s17, s18, s19] 12 (.int v) = some #[s0, s1, s2, s3, .val z4, s5, s6, s7, s8, s9, .val z10, s11, .val (.int v), s13, s14, s15, s16, s17, s18, s19] := by
  rcases h with rfl | ⟨w, rfl, hw⟩
  · rfl
  · cases w <;> first | rfl | (simp [Value.category] at hw)
set_option maxRecDepth 65536 in
set_option maxHeartbeats 40000000 in
theorem tn0_155_174_ft {p : Program} {l : Launch} {e : Env} {R : Room} {s : State} {m : MethodId} {args : Array Value} {below : List Frame} {meth : Method} {c : Code} {T0 : State} {locs : List Loc} {cells slots : Nat} {Z : State} {a0 : Array Value} {h0 : Heap} (s0 : Slot) (s1 : Slot) (s2 : Slot) (s3 : Slot) (i4 : Int32) (s5 : Slot) (s6 : Slot) (s7 : Slot) (s8 : Slot) (s9 : Slot) (i10 : Int32) (s11 : Slot) (s12 : Slot) (s13 : Slot) (s14 : Slot) (s15 : Slot) (s16 : Slot) (s17 : Slot) (s18 : Slot) (s19 : Slot)
    (X0 : Stand p l e R s m args below meth c T0 locs cells slots) (hx : p.tables.exec = Jvm.exec) (hZ : Z.Warmed39 s.vm) (hw : ∀ d ∈ tables_1, d.before a0 Z = true) (hby : c.code = code) (hml : c.maxLocals = 20) (hown : s.vm.findClass "quotewarden/NumbersWholeNumberPinLaw" = some m.cls) (e0 : T0.heap = h0) (hs12 : One s12) (hc159 : ¬ ((i4 &&& (1 : Int32)) = (0 : Int32))) (hc164 : ¬ ((0 : Int32) < i10)) :
    ∀ target, Steps p.tables e below (T0.setTop (mkF m 174 #[s0, s1, s2, s3, .val (.int i4), s5, s6, s7, s8, s9, .val (.int i10), s11, .val (.int (0 : Int32)), s13, s14, s15, s16, s17, s18, s19] [])) target → Steps p.tables e below (T0.setTop (mkF m 155 #[s0, s1, s2, s3, .val (.int i4), s5, s6, s7, s8, s9, .val (.int i10), s11, s12, s13, s14, s15, s16, s17, s18, s19] [])) target := by

  intro target kt
  show Steps p.tables e below (T0.setTop (mkF m 155 #[s0, s1, s2, s3, .val (.int i4), s5, s6, s7, s8, s9, .val (.int i10), s11, s12, s13, s14, s15, s16, s17, s18, s19] [])) _
  refine XS.iload X0.here hx rfl (hb hby at_155) rfl ?_
  show Steps p.tables e below (T0.setTop (mkF m 157 #[s0, s1, s2, s3, .val (.int i4), s5, s6, s7, s8, s9, .val (.int i10), s11, s12, s13, s14, s15, s16, s17, s18, s19] [(.int i4)])) _
  refine XS.iconst X0.here hx rfl (hb hby at_157) ?_
  show Steps p.tables e below (T0.setTop (mkF m 158 #[s0, s1, s2, s3, .val (.int i4), s5, s6, s7, s8, s9, .val (.int i10), s11, s12, s13, s14, s15, s16, s17, s18, s19] [(.int (1 : Int32)), (.int i4)])) _
  refine XS.iand X0.here hx rfl (hb hby at_158) rfl ?_
  show Steps p.tables e below (T0.setTop (mkF m 159 #[s0, s1, s2, s3, .val (.int i4), s5, s6, s7, s8, s9, .val (.int i10), s11, s12, s13, s14, s15, s16, s17, s18, s19] [(.int (i4 &&& (1 : Int32)))])) _
  refine XS.ifNo X0.here hx rfl (hb hby at_159) rfl ((if0 _ _).trans (feq hc159).1) ?_
  show Steps p.tables e below (T0.setTop (mkF m 162 #[s0, s1, s2, s3, .val (.int i4), s5, s6, s7, s8, s9, .val (.int i10), s11, s12, s13, s14, s15, s16, s17, s18, s19] [])) _
  refine XS.iload X0.here hx rfl (hb hby at_162) rfl ?_
  show Steps p.tables e below (T0.setTop (mkF m 164 #[s0, s1, s2, s3, .val (.int i4), s5, s6, s7, s8, s9, .val (.int i10), s11, s12, s13, s14, s15, s16, s17, s18, s19] [(.int i10)])) _
  refine XS.ifYes X0.here hx rfl (pc0 := 164) (pc' := 171) rfl (hb hby at_164) rfl ((if0 _ _).trans (flt hc164).2.2.2) (by decide) (by decide) ?_
  show Steps p.tables e below (T0.setTop (mkF m 171 #[s0, s1, s2, s3, .val (.int i4), s5, s6, s7, s8, s9, .val (.int i10), s11, s12, s13, s14, s15, s16, s17, s18, s19] [])) _
  refine XS.iconst X0.here hx rfl (hb hby at_171) ?_
  show Steps p.tables e below (T0.setTop (mkF m 172 #[s0, s1, s2, s3, .val (.int i4), s5, s6, s7, s8, s9, .val (.int i10), s11, s12, s13, s14, s15, s16, s17, s18, s19] [(.int (0 : Int32))])) _
  refine XS.istore X0.here hx rfl (hb hby at_172) rfl (l' := #[s0, s1, s2, s3, .val (.int i4), s5, s6, s7, s8, s9, .val (.int i10), s11, .val (.int (0 : Int32)), s13, s14, s15, s16, s17, s18, s19]) (os0_172_155_ft hs12) ?_
  exact kt
theorem os0_172_155_ff {s0 : Slot} {s1 : Slot} {s2 : Slot} {s3 : Slot} {z4 : Value} {s5 : Slot} {s6 : Slot} {s7 : Slot} {s8 : Slot} {s9 : Slot} {z10 : Value} {s11 : Slot} {s12 : Slot} {s13 : Slot} {s14 : Slot} {s15 : Slot} {s16 : Slot} {s17 : Slot} {s18 : Slot} {s19 : Slot} {v : Int32} (h : One s12) : storeLocals #[s0, s1, s2, s3, .val z4, s5, s6, s7, s8, s9, .val z10, s11, s12, s13, s14, s15, s16, s17, s18, s19] 12 (.int v) = some #[s0, s1, s2, s3, .val z4, s5, s6, s7, s8, s9, .val z10, s11, .val (.int v), s13, s14, s15, s16, s17, s18, s19] := by
  rcases h with rfl | ⟨w, rfl, hw⟩
  · rfl
  · cases w <;> first | rfl | (simp [Value.category] at hw)
set_option maxRecDepth 65536 in
set_option maxHeartbeats 40000000 in
theorem tn0_155_174_ff {p : Program} {l : Launch} {e : Env} {R : Room} {s : State} {m : MethodId} {args : Array Value} {below : List Frame} {meth : Method} {c : Code} {T0 : State} {locs : List Loc} {cells slots : Nat} {Z : State} {a0 : Array Value} {h0 : Heap} (s0 : Slot) (s1 : Slot) (s2 : Slot) (s3 : Slot) (i4 : Int32) (s5 : Slot) (s6 : Slot) (s7 : Slot) (s8 : Slot) (s9 : Slot) (i10 : Int32) (s11 : Slot) (s12 : Slot) (s13 : Slot) (s14 : Slot) (s15 : Slot) (s16 : Slot) (s17 : Slot) (s18 : Slot) (s19 : Slot)
    (X0 : Stand p l e R s m args below meth c T0 locs cells slots) (hx : p.tables.exec = Jvm.exec) (hZ : Z.Warmed39 s.vm) (hw : ∀ d ∈ tables_1, d.before a0 Z = true) (hby : c.code = code) (hml : c.maxLocals = 20) (hown : s.vm.findClass "quotewarden/NumbersWholeNumberPinLaw" = some m.cls) (e0 : T0.heap = h0) (hs12 : One s12) (hc159 : ¬ ((i4 &&& (1 : Int32)) = (0 : Int32))) (hc164 : (0 : Int32) < i10) :
    ∀ target, Steps p.tables e below (T0.setTop (mkF m 174 #[s0, s1, s2, s3, .val (.int i4), s5, s6, s7, s8, s9, .val (.int i10), s11, .val (.int (1 : Int32)), s13, s14, s15, s16, s17, s18, s19] [])) target → Steps p.tables e below (T0.setTop (mkF m 155 #[s0, s1, s2, s3, .val (.int i4), s5, s6, s7, s8, s9, .val (.int i10), s11, s12, s13, s14, s15, s16, s17, s18, s19] [])) target := by

  intro target kt
  show Steps p.tables e below (T0.setTop (mkF m 155 #[s0, s1, s2, s3, .val (.int i4), s5, s6, s7, s8, s9, .val (.int i10), s11, s12, s13, s14, s15, s16, s17, s18, s19] [])) _
  refine XS.iload X0.here hx rfl (hb hby at_155) rfl ?_
  show Steps p.tables e below (T0.setTop (mkF m 157 #[s0, s1, s2, s3, .val (.int i4), s5, s6, s7, s8, s9, .val (.int i10), s11, s12, s13, s14, s15, s16, s17, s18, s19] [(.int i4)])) _
  refine XS.iconst X0.here hx rfl (hb hby at_157) ?_
  show Steps p.tables e below (T0.setTop (mkF m 158 #[s0, s1, s2, s3, .val (.int i4), s5, s6, s7, s8, s9, .val (.int i10), s11, s12, s13, s14, s15, s16, s17, s18, s19] [(.int (1 : Int32)), (.int i4)])) _
  refine XS.iand X0.here hx rfl (hb hby at_158) rfl ?_
  show Steps p.tables e below (T0.setTop (mkF m 159 #[s0, s1, s2, s3, .val (.int i4), s5, s6, s7, s8, s9, .val (.int i10), s11, s12, s13, s14, s15, s16, s17, s18, s19] [(.int (i4 &&& (1 : Int32)))])) _
  refine XS.ifNo X0.here hx rfl (hb hby at_159) rfl ((if0 _ _).trans (feq hc159).1) ?_
  show Steps p.tables e below (T0.setTop (mkF m 162 #[s0, s1, s2, s3, .val (.int i4), s5, s6, s7, s8, s9, .val (.int i10), s11, s12, s13, s14, s15, s16, s17, s18, s19] [])) _
  refine XS.iload X0.here hx rfl (hb hby at_162) rfl ?_
  show Steps p.tables e below (T0.setTop (mkF m 164 #[s0, s1, s2, s3, .val (.int i4), s5, s6, s7, s8, s9, .val (.int i10), s11, s12, s13, s14, s15, s16, s17, s18, s19] [(.int i10)])) _
  refine XS.ifNo X0.here hx rfl (hb hby at_164) rfl ((if0 _ _).trans (tlt hc164).2.2.2) ?_
  show Steps p.tables e below (T0.setTop (mkF m 167 #[s0, s1, s2, s3, .val (.int i4), s5, s6, s7, s8, s9, .val (.int i10), s11, s12, s13, s14, s15, s16, s17, s18, s19] [])) _
  refine XS.iconst X0.here hx rfl (hb hby at_167) ?_
  show Steps p.tables e below (T0.setTop (mkF m 168 #[s0, s1, s2, s3, .val (.int i4), s5, s6, s7, s8, s9, .val (.int i10), s11, s12, s13, s14, s15, s16, s17, s18, s19] [(.int (1 : Int32))])) _
  refine XS.goto X0.here hx rfl (pc0 := 168) (pc' := 172) rfl (hb hby at_168) (by decide) (by decide) ?_
  show Steps p.tables e below (T0.setTop (mkF m 172 #[s0, s1, s2, s3, .val (.int i4), s5, s6, s7, s8, s9, .val (.int i10), s11, s12, s13, s14, s15, s16, s17, s18, s19] [(.int (1 : Int32))])) _
  refine XS.istore X0.here hx rfl (hb hby at_172) rfl (l' := #[s0, s1, s2, s3, .val (.int i4), s5, s6, s7, s8, s9, .val (.int i10), s11, .val (.int (1 : Int32)), s13, s14, s15, s16, s17, s18, s19]) (os0_172_155_ff hs12) ?_
  exact kt
theorem os0_190_174_t {s0 : Slot} {s1 : Slot} {s2 : Slot} {s3 : Slot} {s4 : Slot} {s5 : Slot} {s6 : Slot} {s7 : Slot} {s8 : Slot} {s9 : Slot} {z10 : Value} {s11 : Slot} {s12 : Slot} {s13 : Slot} {s14 : Slot} {s15 : Slot} {s16 : Slot} {s17 : Slot} {s18 : Slot} {s19 : Slot} {v : Int32} (h : One s13) : storeLocals #[s0, s1, s2, s3, s4, s5, s6, s7, s8, s9, .val z10, s11, s12, s13, s14, s15, s16, s17, s18, s19] 13 (.int v) = some #[s0, s1, s2, s3, s4, s5, s6, s7, s8, s9, .val z10, s11, s12, .val (.int v), s14, s15, s16, s17, s18, s19] := by
  rcases h with rfl | ⟨w, rfl, hw⟩
  · rfl
  · cases w <;> first | rfl | (simp [Value.category] at hw)
set_option maxRecDepth 65536 in
set_option maxHeartbeats 40000000 in
theorem tn0_174_192_t {p : Program} {l : Launch} {e : Env} {R : Room} {s : State} {m : MethodId} {args : Array Value} {below : List Frame} {meth : Method} {c : Code} {T0 : State} {locs : List Loc} {cells slots : Nat} {Z : State} {a0 : Array Value} {h0 : Heap} (s0 : Slot) (s1 : Slot) (s2 : Slot) (s3 : Slot) (s4 : Slot) (s5 : Slot) (s6 : Slot) (s7 : Slot) (s8 : Slot) (s9 : Slot) (i10 : Int32) (s11 : Slot) (s12 : Slot) (s13 : Slot) (s14 : Slot) (s15 : Slot) (s16 : Slot) (s17 : Slot) (s18 : Slot) (s19 : Slot)
    (X0 : Stand p l e R s m args below meth c T0 locs cells slots) (hx : p.tables.exec = Jvm.exec) (hZ : Z.Warmed39 s.vm) (hw : ∀ d ∈ tables_1, d.before a0 Z = true) (hby : c.code = code) (hml : c.maxLocals = 20) (hown : s.vm.findClass "quotewarden/NumbersWholeNumberPinLaw" = some m.cls) (e0 : T0.heap = h0) (hs13 : One s13) (hc176 : ¬ ((0 : Int32) < i10)) :
    ∀ target, Steps p.tables e below (T0.setTop (mkF m 192 #[s0, s1, s2, s3, s4, s5, s6, s7, s8, s9, .val (.int i10), s11, s12, .val (.int (0 : Int32)), s14, s15, s16, s17, s18, s19] [])) target → Steps p.tables e below (T0.setTop (mkF m 174 #[s0, s1, s2, s3, s4, s5, s6, s7, s8, s9, .val (.int i10), s11, s12, s13, s14, s15, s16, s17, s18, s19] [])) target := by

  intro target kt
  show Steps p.tables e below (T0.setTop (mkF m 174 #[s0, s1, s2, s3, s4, s5, s6, s7, s8, s9, .val (.int i10), s11, s12, s13, s14, s15, s16, s17, s18, s19] [])) _
  refine XS.iload X0.here hx rfl (hb hby at_174) rfl ?_
  show Steps p.tables e below (T0.setTop (mkF m 176 #[s0, s1, s2, s3, s4, s5, s6, s7, s8, s9, .val (.int i10), s11, s12, s13, s14, s15, s16, s17, s18, s19] [(.int i10)])) _
  refine XS.ifYes X0.here hx rfl (pc0 := 176) (pc' := 189) rfl (hb hby at_176) rfl ((if0 _ _).trans (flt hc176).2.2.2) (by decide) (by decide) ?_
  show Steps p.tables e below (T0.setTop (mkF m 189 #[s0, s1, s2, s3, s4, s5, s6, s7, s8, s9, .val (.int i10), s11, s12, s13, s14, s15, s16, s17, s18, s19] [])) _
  refine XS.iconst X0.here hx rfl (hb hby at_189) ?_
  show Steps p.tables e below (T0.setTop (mkF m 190 #[s0, s1, s2, s3, s4, s5, s6, s7, s8, s9, .val (.int i10), s11, s12, s13, s14, s15, s16, s17, s18, s19] [(.int (0 : Int32))])) _
  refine XS.istore X0.here hx rfl (hb hby at_190) rfl (l' := #[s0, s1, s2, s3, s4, s5, s6, s7, s8, s9, .val (.int i10), s11, s12, .val (.int (0 : Int32)), s14, s15, s16, s17, s18, s19]) (os0_190_174_t hs13) ?_
  exact kt
theorem os0_190_174_f {s0 : Slot} {s1 : Slot} {s2 : Slot} {s3 : Slot} {z4 : Value} {s5 : Slot} {s6 : Slot} {s7 : Slot} {s8 : Slot} {s9 : Slot} {z10 : Value} {s11 : Slot} {s12 : Slot} {s13 : Slot} {s14 : Slot} {s15 : Slot} {s16 : Slot} {s17 : Slot} {s18 : Slot} {s19 : Slot} {v : Int32} (h : One s13) : storeLocals #[s0, s1, s2, s3, .val z4, s5, s6, s7, s8, s9, .val z10, s11, s12, s13, s14, s15, s16, s17, s18, s19] 13 (.int v) = some #[s0, s1, s2, s3, .val z4, s5, s6, s7, s8, s9, .val z10, s11, s12, .val (.int v), s14, s15, s16, s17, s18, s19] := by
  rcases h with rfl | ⟨w, rfl, hw⟩
  · rfl
  · cases w <;> first | rfl | (simp [Value.category] at hw)
set_option maxRecDepth 65536 in
set_option maxHeartbeats 40000000 in
theorem tn0_174_192_f {p : Program} {l : Launch} {e : Env} {R : Room} {s : State} {m : MethodId} {args : Array Value} {below : List Frame} {meth : Method} {c : Code} {T0 : State} {locs : List Loc} {cells slots : Nat} {Z : State} {a0 : Array Value} {h0 : Heap} (s0 : Slot) (s1 : Slot) (s2 : Slot) (s3 : Slot) (i4 : Int32) (s5 : Slot) (s6 : Slot) (s7 : Slot) (s8 : Slot) (s9 : Slot) (i10 : Int32) (s11 : Slot) (s12 : Slot) (s13 : Slot) (s14 : Slot) (s15 : Slot) (s16 : Slot) (s17 : Slot) (s18 : Slot) (s19 : Slot)
    (X0 : Stand p l e R s m args below meth c T0 locs cells slots) (hx : p.tables.exec = Jvm.exec) (hZ : Z.Warmed39 s.vm) (hw : ∀ d ∈ tables_1, d.before a0 Z = true) (hby : c.code = code) (hml : c.maxLocals = 20) (hown : s.vm.findClass "quotewarden/NumbersWholeNumberPinLaw" = some m.cls) (e0 : T0.heap = h0) (hs13 : One s13) (hc176 : (0 : Int32) < i10) (hnz185 : ¬ (i10 = (0 : Int32))) :
    ∀ target, Steps p.tables e below (T0.setTop (mkF m 192 #[s0, s1, s2, s3, .val (.int i4), s5, s6, s7, s8, s9, .val (.int i10), s11, s12, .val (.int (((i4.toUInt32 >>> ((1 : Int32) &&& 31).toUInt32).toInt32) % i10)), s14, s15, s16, s17, s18, s19] [])) target → Steps p.tables e below (T0.setTop (mkF m 174 #[s0, s1, s2, s3, .val (.int i4), s5, s6, s7, s8, s9, .val (.int i10), s11, s12, s13, s14, s15, s16, s17, s18, s19] [])) target := by

  intro target kt
  show Steps p.tables e below (T0.setTop (mkF m 174 #[s0, s1, s2, s3, .val (.int i4), s5, s6, s7, s8, s9, .val (.int i10), s11, s12, s13, s14, s15, s16, s17, s18, s19] [])) _
  refine XS.iload X0.here hx rfl (hb hby at_174) rfl ?_
  show Steps p.tables e below (T0.setTop (mkF m 176 #[s0, s1, s2, s3, .val (.int i4), s5, s6, s7, s8, s9, .val (.int i10), s11, s12, s13, s14, s15, s16, s17, s18, s19] [(.int i10)])) _
  refine XS.ifNo X0.here hx rfl (hb hby at_176) rfl ((if0 _ _).trans (tlt hc176).2.2.2) ?_
  show Steps p.tables e below (T0.setTop (mkF m 179 #[s0, s1, s2, s3, .val (.int i4), s5, s6, s7, s8, s9, .val (.int i10), s11, s12, s13, s14, s15, s16, s17, s18, s19] [])) _
  refine XS.iload X0.here hx rfl (hb hby at_179) rfl ?_
  show Steps p.tables e below (T0.setTop (mkF m 181 #[s0, s1, s2, s3, .val (.int i4), s5, s6, s7, s8, s9, .val (.int i10), s11, s12, s13, s14, s15, s16, s17, s18, s19] [(.int i4)])) _
  refine XS.iconst X0.here hx rfl (hb hby at_181) ?_
  show Steps p.tables e below (T0.setTop (mkF m 182 #[s0, s1, s2, s3, .val (.int i4), s5, s6, s7, s8, s9, .val (.int i10), s11, s12, s13, s14, s15, s16, s17, s18, s19] [(.int (1 : Int32)), (.int i4)])) _
  refine XS.iushr X0.here hx rfl (hb hby at_182) rfl ?_
  show Steps p.tables e below (T0.setTop (mkF m 183 #[s0, s1, s2, s3, .val (.int i4), s5, s6, s7, s8, s9, .val (.int i10), s11, s12, s13, s14, s15, s16, s17, s18, s19] [(.int ((i4.toUInt32 >>> ((1 : Int32) &&& 31).toUInt32).toInt32))])) _
  refine XS.iload X0.here hx rfl (hb hby at_183) rfl ?_
  show Steps p.tables e below (T0.setTop (mkF m 185 #[s0, s1, s2, s3, .val (.int i4), s5, s6, s7, s8, s9, .val (.int i10), s11, s12, s13, s14, s15, s16, s17, s18, s19] [(.int i10), (.int ((i4.toUInt32 >>> ((1 : Int32) &&& 31).toUInt32).toInt32))])) _
  refine iremM X0 hx rfl (hb hby at_185) rfl hnz185 ?_
  show Steps p.tables e below (T0.setTop (mkF m 186 #[s0, s1, s2, s3, .val (.int i4), s5, s6, s7, s8, s9, .val (.int i10), s11, s12, s13, s14, s15, s16, s17, s18, s19] [(.int (((i4.toUInt32 >>> ((1 : Int32) &&& 31).toUInt32).toInt32) % i10))])) _
  refine XS.goto X0.here hx rfl (pc0 := 186) (pc' := 190) rfl (hb hby at_186) (by decide) (by decide) ?_
  show Steps p.tables e below (T0.setTop (mkF m 190 #[s0, s1, s2, s3, .val (.int i4), s5, s6, s7, s8, s9, .val (.int i10), s11, s12, s13, s14, s15, s16, s17, s18, s19] [(.int (((i4.toUInt32 >>> ((1 : Int32) &&& 31).toUInt32).toInt32) % i10))])) _
  refine XS.istore X0.here hx rfl (hb hby at_190) rfl (l' := #[s0, s1, s2, s3, .val (.int i4), s5, s6, s7, s8, s9, .val (.int i10), s11, s12, .val (.int (((i4.toUInt32 >>> ((1 : Int32) &&& 31).toUInt32).toInt32) % i10)), s14, s15, s16, s17, s18, s19]) (os0_190_174_f hs13) ?_
  exact kt
theorem os0_195_192_t {s0 : Slot} {s1 : Slot} {s2 : Slot} {s3 : Slot} {s4 : Slot} {z5 : Value} {z6 : Value} {s7 : Slot} {s8 : Slot} {s9 : Slot} {s10 : Slot} {s11 : Slot} {s12 : Slot} {s13 : Slot} {s14 : Slot} {s15 : Slot} {s16 : Slot} {s17 : Slot} {s18 : Slot} {s19 : Slot} {v : Int32} (h : One s14) : storeLocals #[s0, s1, s2, s3, s4, .val z5, .val z6, s7, s8, s9, s10, s11, s12, s13, s14, s15, s16, s17, s18, s19] 14 (.int v) = some #[s0, s1, s2, s3, s4, .val z5, .val z6, s7, s8, s9, s10, s11, s12, s13, .val (.int v), s15, s16, s17, s18, s19] := by
  rcases h with rfl | ⟨w, rfl, hw⟩
  · rfl
  · cases w <;> first | rfl | (simp [Value.category] at hw)
theorem os0_221_192_t {s0 : Slot} {s1 : Slot} {s2 : Slot} {s3 : Slot} {s4 : Slot} {z5 : Value} {z6 : Value} {s7 : Slot} {s8 : Slot} {s9 : Slot} {s10 : Slot} {s11 : Slot} {s12 : Slot} {s13 : Slot} {z14 : Value} {s15 : Slot} {s16 : Slot} {s17 : Slot} {s18 : Slot} {s19 : Slot} {v : Int32} (h : One s15) : storeLocals #[s0, s1, s2, s3, s4, .val z5, .val z6, s7, s8, s9, s10, s11, s12, s13, .val z14, s15, s16, s17, s18, s19] 15 (.int v) = some #[s0, s1, s2, s3, s4, .val z5, .val z6, s7, s8, s9, s10, s11, s12, s13, .val z14, .val (.int v), s16, s17, s18, s19] := by
  rcases h with rfl | ⟨w, rfl, hw⟩
  · rfl
  · cases w <;> first | rfl | (simp [Value.category] at hw)
theorem os0_226_192_t {s0 : Slot} {s1 : Slot} {s2 : Slot} {s3 : Slot} {s4 : Slot} {z5 : Value} {z6 : Value} {s7 : Slot} {s8 : Slot} {s9 : Slot} {s10 : Slot} {s11 : Slot} {s12 : Slot} {s13 : Slot} {z14 : Value} {z15 : Value} {s16 : Slot} {s17 : Slot} {s18 : Slot} {s19 : Slot} {v : Int32} (h : One s16) : storeLocals #[s0, s1, s2, s3, s4, .val z5, .val z6, s7, s8, s9, s10, s11, s12, s13, .val z14, .val z15, s16, s17, s18, s19] 16 (.int v) = some #[s0, s1, s2, s3, s4, .val z5, .val z6, s7, s8, s9, s10, s11, s12, s13, .val z14, .val z15, .val (.int v), s17, s18, s19] := by
  rcases h with rfl | ⟨w, rfl, hw⟩
  · rfl
  · cases w <;> first | rfl | (simp [Value.category] at hw)
set_option maxRecDepth 65536 in
set_option maxHeartbeats 40000000 in
theorem tn0_192_228_t {p : Program} {l : Launch} {e : Env} {R : Room} {s : State} {m : MethodId} {args : Array Value} {below : List Frame} {meth : Method} {c : Code} {T0 : State} {locs : List Loc} {cells slots : Nat} {Z : State} {a0 : Array Value} {h0 : Heap} (s0 : Slot) (s1 : Slot) (s2 : Slot) (s3 : Slot) (s4 : Slot) (i5 : Int32) (i6 : Int32) (s7 : Slot) (s8 : Slot) (s9 : Slot) (s10 : Slot) (s11 : Slot) (s12 : Slot) (s13 : Slot) (s14 : Slot) (s15 : Slot) (s16 : Slot) (s17 : Slot) (s18 : Slot) (s19 : Slot)
    (X0 : Stand p l e R s m args below meth c T0 locs cells slots) (hx : p.tables.exec = Jvm.exec) (hZ : Z.Warmed39 s.vm) (hw : ∀ d ∈ tables_1, d.before a0 Z = true) (hby : c.code = code) (hml : c.maxLocals = 20) (hown : s.vm.findClass "quotewarden/NumbersWholeNumberPinLaw" = some m.cls) (e0 : T0.heap = h0) (hs14 : One s14) (hs15 : One s15) (hs16 : One s16) (hc201 : (i5.toInt8.toInt32) < (48 : Int32)) :
    ∀ target, Steps p.tables e below (T0.setTop (mkF m 228 #[s0, s1, s2, s3, s4, .val (.int i5), .val (.int i6), s7, s8, s9, s10, s11, s12, s13, .val (.int (i5.toInt8.toInt32)), .val (.int ((i5.toInt8.toInt32).toInt8.toInt32)), .val (.int (i6.toInt8.toInt32)), s17, s18, s19] [])) target → Steps p.tables e below (T0.setTop (mkF m 192 #[s0, s1, s2, s3, s4, .val (.int i5), .val (.int i6), s7, s8, s9, s10, s11, s12, s13, s14, s15, s16, s17, s18, s19] [])) target := by

  intro target kt
  show Steps p.tables e below (T0.setTop (mkF m 192 #[s0, s1, s2, s3, s4, .val (.int i5), .val (.int i6), s7, s8, s9, s10, s11, s12, s13, s14, s15, s16, s17, s18, s19] [])) _
  refine XS.iload X0.here hx rfl (hb hby at_192) rfl ?_
  show Steps p.tables e below (T0.setTop (mkF m 194 #[s0, s1, s2, s3, s4, .val (.int i5), .val (.int i6), s7, s8, s9, s10, s11, s12, s13, s14, s15, s16, s17, s18, s19] [(.int i5)])) _
  refine XS.i2b X0.here hx rfl (hb hby at_194) rfl ?_
  show Steps p.tables e below (T0.setTop (mkF m 195 #[s0, s1, s2, s3, s4, .val (.int i5), .val (.int i6), s7, s8, s9, s10, s11, s12, s13, s14, s15, s16, s17, s18, s19] [(.int (i5.toInt8.toInt32))])) _
  refine XS.istore X0.here hx rfl (hb hby at_195) rfl (l' := #[s0, s1, s2, s3, s4, .val (.int i5), .val (.int i6), s7, s8, s9, s10, s11, s12, s13, .val (.int (i5.toInt8.toInt32)), s15, s16, s17, s18, s19]) (os0_195_192_t hs14) ?_
  show Steps p.tables e below (T0.setTop (mkF m 197 #[s0, s1, s2, s3, s4, .val (.int i5), .val (.int i6), s7, s8, s9, s10, s11, s12, s13, .val (.int (i5.toInt8.toInt32)), s15, s16, s17, s18, s19] [])) _
  refine XS.iload X0.here hx rfl (hb hby at_197) rfl ?_
  show Steps p.tables e below (T0.setTop (mkF m 199 #[s0, s1, s2, s3, s4, .val (.int i5), .val (.int i6), s7, s8, s9, s10, s11, s12, s13, .val (.int (i5.toInt8.toInt32)), s15, s16, s17, s18, s19] [(.int (i5.toInt8.toInt32))])) _
  refine XS.bipush X0.here hx rfl (hb hby at_199) ?_
  show Steps p.tables e below (T0.setTop (mkF m 201 #[s0, s1, s2, s3, s4, .val (.int i5), .val (.int i6), s7, s8, s9, s10, s11, s12, s13, .val (.int (i5.toInt8.toInt32)), s15, s16, s17, s18, s19] [(.int (48 : Int32)), (.int (i5.toInt8.toInt32))])) _
  refine XS.icmpYes X0.here hx rfl (pc0 := 201) (pc' := 218) rfl (hb hby at_201) rfl (tlt hc201).1 (by decide) (by decide) ?_
  show Steps p.tables e below (T0.setTop (mkF m 218 #[s0, s1, s2, s3, s4, .val (.int i5), .val (.int i6), s7, s8, s9, s10, s11, s12, s13, .val (.int (i5.toInt8.toInt32)), s15, s16, s17, s18, s19] [])) _
  refine XS.iload X0.here hx rfl (hb hby at_218) rfl ?_
  show Steps p.tables e below (T0.setTop (mkF m 220 #[s0, s1, s2, s3, s4, .val (.int i5), .val (.int i6), s7, s8, s9, s10, s11, s12, s13, .val (.int (i5.toInt8.toInt32)), s15, s16, s17, s18, s19] [(.int (i5.toInt8.toInt32))])) _
  refine XS.i2b X0.here hx rfl (hb hby at_220) rfl ?_
  show Steps p.tables e below (T0.setTop (mkF m 221 #[s0, s1, s2, s3, s4, .val (.int i5), .val (.int i6), s7, s8, s9, s10, s11, s12, s13, .val (.int (i5.toInt8.toInt32)), s15, s16, s17, s18, s19] [(.int ((i5.toInt8.toInt32).toInt8.toInt32))])) _
  refine XS.istore X0.here hx rfl (hb hby at_221) rfl (l' := #[s0, s1, s2, s3, s4, .val (.int i5), .val (.int i6), s7, s8, s9, s10, s11, s12, s13, .val (.int (i5.toInt8.toInt32)), .val (.int ((i5.toInt8.toInt32).toInt8.toInt32)), s16, s17, s18, s19]) (os0_221_192_t hs15) ?_
  show Steps p.tables e below (T0.setTop (mkF m 223 #[s0, s1, s2, s3, s4, .val (.int i5), .val (.int i6), s7, s8, s9, s10, s11, s12, s13, .val (.int (i5.toInt8.toInt32)), .val (.int ((i5.toInt8.toInt32).toInt8.toInt32)), s16, s17, s18, s19] [])) _
  refine XS.iload X0.here hx rfl (hb hby at_223) rfl ?_
  show Steps p.tables e below (T0.setTop (mkF m 225 #[s0, s1, s2, s3, s4, .val (.int i5), .val (.int i6), s7, s8, s9, s10, s11, s12, s13, .val (.int (i5.toInt8.toInt32)), .val (.int ((i5.toInt8.toInt32).toInt8.toInt32)), s16, s17, s18, s19] [(.int i6)])) _
  refine XS.i2b X0.here hx rfl (hb hby at_225) rfl ?_
  show Steps p.tables e below (T0.setTop (mkF m 226 #[s0, s1, s2, s3, s4, .val (.int i5), .val (.int i6), s7, s8, s9, s10, s11, s12, s13, .val (.int (i5.toInt8.toInt32)), .val (.int ((i5.toInt8.toInt32).toInt8.toInt32)), s16, s17, s18, s19] [(.int (i6.toInt8.toInt32))])) _
  refine XS.istore X0.here hx rfl (hb hby at_226) rfl (l' := #[s0, s1, s2, s3, s4, .val (.int i5), .val (.int i6), s7, s8, s9, s10, s11, s12, s13, .val (.int (i5.toInt8.toInt32)), .val (.int ((i5.toInt8.toInt32).toInt8.toInt32)), .val (.int (i6.toInt8.toInt32)), s17, s18, s19]) (os0_226_192_t hs16) ?_
  exact kt
theorem os0_195_192_ft {s0 : Slot} {s1 : Slot} {s2 : Slot} {s3 : Slot} {s4 : Slot} {z5 : Value} {z6 : Value} {s7 : Slot} {s8 : Slot} {s9 : Slot} {s10 : Slot} {s11 : Slot} {s12 : Slot} {s13 : Slot} {s14 : Slot} {s15 : Slot} {s16 : Slot} {s17 : Slot} {s18 : Slot} {s19 : Slot} {v : Int32} (h : One s14) : storeLocals #[s0, s1, s2, s3, s4, .val z5, .val z6, s7, s8, s9, s10, s11, s12, s13, s14, s15, s16, s17, s18, s19] 14 (.int v) = some #[s0, s1, s2, s3, s4, .val z5, .val z6, s7, s8, s9, s10, s11, s12, s13, .val (.int v), s15, s16, s17, s18, s19] := by
  rcases h with rfl | ⟨w, rfl, hw⟩
  · rfl
  · cases w <;> first | rfl | (simp [Value.category] at hw)
theorem os0_221_192_ft {s0 : Slot} {s1 : Slot} {s2 : Slot} {s3 : Slot} {s4 : Slot} {z5 : Value} {z6 : Value} {s7 : Slot} {s8 : Slot} {s9 : Slot} {s10 : Slot} {s11 : Slot} {s12 : Slot} {s13 : Slot} {z14 : Value} {s15 : Slot} {s16 : Slot} {s17 : Slot} {s18 : Slot} {s19 : Slot} {v : Int32} (h : One s15) : storeLocals #[s0, s1, s2, s3, s4, .val z5, .val z6, s7, s8, s9, s10, s11, s12, s13, .val z14, s15, s16, s17, s18, s19] 15 (.int v) = some #[s0, s1, s2, s3, s4, .val z5, .val z6, s7, s8, s9, s10, s11, s12, s13, .val z14, .val (.int v), s16, s17, s18, s19] := by
  rcases h with rfl | ⟨w, rfl, hw⟩
  · rfl
  · cases w <;> first | rfl | (simp [Value.category] at hw)
theorem os0_226_192_ft {s0 : Slot} {s1 : Slot} {s2 : Slot} {s3 : Slot} {s4 : Slot} {z5 : Value} {z6 : Value} {s7 : Slot} {s8 : Slot} {s9 : Slot} {s10 : Slot} {s11 : Slot} {s12 : Slot} {s13 : Slot} {z14 : Value} {z15 : Value} {s16 : Slot} {s17 : Slot} {s18 : Slot} {s19 : Slot} {v : Int32} (h : One s16) : storeLocals #[s0, s1, s2, s3, s4, .val z5, .val z6, s7, s8, s9, s10, s11, s12, s13, .val z14, .val z15, s16, s17, s18, s19] 16 (.int v) = some #[s0, s1, s2, s3, s4, .val z5, .val z6, s7, s8, s9, s10, s11, s12, s13, .val z14, .val z15, .val (.int v), s17, s18, s19] := by
  rcases h with rfl | ⟨w, rfl, hw⟩
  · rfl
  · cases w <;> first | rfl | (simp [Value.category] at hw)
set_option maxRecDepth 65536 in
set_option maxHeartbeats 40000000 in
theorem tn0_192_228_ft {p : Program} {l : Launch} {e : Env} {R : Room} {s : State} {m : MethodId} {args : Array Value} {below : List Frame} {meth : Method} {c : Code} {T0 : State} {locs : List Loc} {cells slots : Nat} {Z : State} {a0 : Array Value} {h0 : Heap} (s0 : Slot) (s1 : Slot) (s2 : Slot) (s3 : Slot) (s4 : Slot) (i5 : Int32) (i6 : Int32) (s7 : Slot) (s8 : Slot) (s9 : Slot) (s10 : Slot) (s11 : Slot) (s12 : Slot) (s13 : Slot) (s14 : Slot) (s15 : Slot) (s16 : Slot) (s17 : Slot) (s18 : Slot) (s19 : Slot)
    (X0 : Stand p l e R s m args below meth c T0 locs cells slots) (hx : p.tables.exec = Jvm.exec) (hZ : Z.Warmed39 s.vm) (hw : ∀ d ∈ tables_1, d.before a0 Z = true) (hby : c.code = code) (hml : c.maxLocals = 20) (hown : s.vm.findClass "quotewarden/NumbersWholeNumberPinLaw" = some m.cls) (e0 : T0.heap = h0) (hs14 : One s14) (hs15 : One s15) (hs16 : One s16) (hc201 : ¬ ((i5.toInt8.toInt32) < (48 : Int32))) (hc208 : (57 : Int32) < (i5.toInt8.toInt32)) :
    ∀ target, Steps p.tables e below (T0.setTop (mkF m 228 #[s0, s1, s2, s3, s4, .val (.int i5), .val (.int i6), s7, s8, s9, s10, s11, s12, s13, .val (.int (i5.toInt8.toInt32)), .val (.int ((i5.toInt8.toInt32).toInt8.toInt32)), .val (.int (i6.toInt8.toInt32)), s17, s18, s19] [])) target → Steps p.tables e below (T0.setTop (mkF m 192 #[s0, s1, s2, s3, s4, .val (.int i5), .val (.int i6), s7, s8, s9, s10, s11, s12, s13, s14, s15, s16, s17, s18, s19] [])) target := by

  intro target kt
  show Steps p.tables e below (T0.setTop (mkF m 192 #[s0, s1, s2, s3, s4, .val (.int i5), .val (.int i6), s7, s8, s9, s10, s11, s12, s13, s14, s15, s16, s17, s18, s19] [])) _
  refine XS.iload X0.here hx rfl (hb hby at_192) rfl ?_
  show Steps p.tables e below (T0.setTop (mkF m 194 #[s0, s1, s2, s3, s4, .val (.int i5), .val (.int i6), s7, s8, s9, s10, s11, s12, s13, s14, s15, s16, s17, s18, s19] [(.int i5)])) _
  refine XS.i2b X0.here hx rfl (hb hby at_194) rfl ?_
  show Steps p.tables e below (T0.setTop (mkF m 195 #[s0, s1, s2, s3, s4, .val (.int i5), .val (.int i6), s7, s8, s9, s10, s11, s12, s13, s14, s15, s16, s17, s18, s19] [(.int (i5.toInt8.toInt32))])) _
  refine XS.istore X0.here hx rfl (hb hby at_195) rfl (l' := #[s0, s1, s2, s3, s4, .val (.int i5), .val (.int i6), s7, s8, s9, s10, s11, s12, s13, .val (.int (i5.toInt8.toInt32)), s15, s16, s17, s18, s19]) (os0_195_192_ft hs14) ?_
  show Steps p.tables e below (T0.setTop (mkF m 197 #[s0, s1, s2, s3, s4, .val (.int i5), .val (.int i6), s7, s8, s9, s10, s11, s12, s13, .val (.int (i5.toInt8.toInt32)), s15, s16, s17, s18, s19] [])) _
  refine XS.iload X0.here hx rfl (hb hby at_197) rfl ?_
  show Steps p.tables e below (T0.setTop (mkF m 199 #[s0, s1, s2, s3, s4, .val (.int i5), .val (.int i6), s7, s8, s9, s10, s11, s12, s13, .val (.int (i5.toInt8.toInt32)), s15, s16, s17, s18, s19] [(.int (i5.toInt8.toInt32))])) _
  refine XS.bipush X0.here hx rfl (hb hby at_199) ?_
  show Steps p.tables e below (T0.setTop (mkF m 201 #[s0, s1, s2, s3, s4, .val (.int i5), .val (.int i6), s7, s8, s9, s10, s11, s12, s13, .val (.int (i5.toInt8.toInt32)), s15, s16, s17, s18, s19] [(.int (48 : Int32)), (.int (i5.toInt8.toInt32))])) _
  refine XS.icmpNo X0.here hx rfl (hb hby at_201) rfl (flt hc201).1 ?_
  show Steps p.tables e below (T0.setTop (mkF m 204 #[s0, s1, s2, s3, s4, .val (.int i5), .val (.int i6), s7, s8, s9, s10, s11, s12, s13, .val (.int (i5.toInt8.toInt32)), s15, s16, s17, s18, s19] [])) _
  refine XS.iload X0.here hx rfl (hb hby at_204) rfl ?_
  show Steps p.tables e below (T0.setTop (mkF m 206 #[s0, s1, s2, s3, s4, .val (.int i5), .val (.int i6), s7, s8, s9, s10, s11, s12, s13, .val (.int (i5.toInt8.toInt32)), s15, s16, s17, s18, s19] [(.int (i5.toInt8.toInt32))])) _
  refine XS.bipush X0.here hx rfl (hb hby at_206) ?_
  show Steps p.tables e below (T0.setTop (mkF m 208 #[s0, s1, s2, s3, s4, .val (.int i5), .val (.int i6), s7, s8, s9, s10, s11, s12, s13, .val (.int (i5.toInt8.toInt32)), s15, s16, s17, s18, s19] [(.int (57 : Int32)), (.int (i5.toInt8.toInt32))])) _
  refine XS.icmpYes X0.here hx rfl (pc0 := 208) (pc' := 218) rfl (hb hby at_208) rfl (tlt hc208).2.2.1 (by decide) (by decide) ?_
  show Steps p.tables e below (T0.setTop (mkF m 218 #[s0, s1, s2, s3, s4, .val (.int i5), .val (.int i6), s7, s8, s9, s10, s11, s12, s13, .val (.int (i5.toInt8.toInt32)), s15, s16, s17, s18, s19] [])) _
  refine XS.iload X0.here hx rfl (hb hby at_218) rfl ?_
  show Steps p.tables e below (T0.setTop (mkF m 220 #[s0, s1, s2, s3, s4, .val (.int i5), .val (.int i6), s7, s8, s9, s10, s11, s12, s13, .val (.int (i5.toInt8.toInt32)), s15, s16, s17, s18, s19] [(.int (i5.toInt8.toInt32))])) _
  refine XS.i2b X0.here hx rfl (hb hby at_220) rfl ?_
  show Steps p.tables e below (T0.setTop (mkF m 221 #[s0, s1, s2, s3, s4, .val (.int i5), .val (.int i6), s7, s8, s9, s10, s11, s12, s13, .val (.int (i5.toInt8.toInt32)), s15, s16, s17, s18, s19] [(.int ((i5.toInt8.toInt32).toInt8.toInt32))])) _
  refine XS.istore X0.here hx rfl (hb hby at_221) rfl (l' := #[s0, s1, s2, s3, s4, .val (.int i5), .val (.int i6), s7, s8, s9, s10, s11, s12, s13, .val (.int (i5.toInt8.toInt32)), .val (.int ((i5.toInt8.toInt32).toInt8.toInt32)), s16, s17, s18, s19]) (os0_221_192_ft hs15) ?_
  show Steps p.tables e below (T0.setTop (mkF m 223 #[s0, s1, s2, s3, s4, .val (.int i5), .val (.int i6), s7, s8, s9, s10, s11, s12, s13, .val (.int (i5.toInt8.toInt32)), .val (.int ((i5.toInt8.toInt32).toInt8.toInt32)), s16, s17, s18, s19] [])) _
  refine XS.iload X0.here hx rfl (hb hby at_223) rfl ?_
  show Steps p.tables e below (T0.setTop (mkF m 225 #[s0, s1, s2, s3, s4, .val (.int i5), .val (.int i6), s7, s8, s9, s10, s11, s12, s13, .val (.int (i5.toInt8.toInt32)), .val (.int ((i5.toInt8.toInt32).toInt8.toInt32)), s16, s17, s18, s19] [(.int i6)])) _
  refine XS.i2b X0.here hx rfl (hb hby at_225) rfl ?_
  show Steps p.tables e below (T0.setTop (mkF m 226 #[s0, s1, s2, s3, s4, .val (.int i5), .val (.int i6), s7, s8, s9, s10, s11, s12, s13, .val (.int (i5.toInt8.toInt32)), .val (.int ((i5.toInt8.toInt32).toInt8.toInt32)), s16, s17, s18, s19] [(.int (i6.toInt8.toInt32))])) _
  refine XS.istore X0.here hx rfl (hb hby at_226) rfl (l' := #[s0, s1, s2, s3, s4, .val (.int i5), .val (.int i6), s7, s8, s9, s10, s11, s12, s13, .val (.int (i5.toInt8.toInt32)), .val (.int ((i5.toInt8.toInt32).toInt8.toInt32)), .val (.int (i6.toInt8.toInt32)), s17, s18, s19]) (os0_226_192_ft hs16) ?_
  exact kt
theorem os0_195_192_ff {s0 : Slot} {s1 : Slot} {s2 : Slot} {s3 : Slot} {s4 : Slot} {z5 : Value} {z6 : Value} {s7 : Slot} {s8 : Slot} {s9 : Slot} {s10 : Slot} {s11 : Slot} {s12 : Slot} {s13 : Slot} {s14 : Slot} {s15 : Slot} {s16 : Slot} {s17 : Slot} {s18 : Slot} {s19 : Slot} {v : Int32} (h : One s14) : storeLocals #[s0, s1, s2, s3, s4, .val z5, .val z6, s7, s8, s9, s10, s11, s12, s13, s14, s15, s16, s17, s18, s19] 14 (.int v) = some #[s0, s1, s2, s3, s4, .val z5, .val z6, s7, s8, s9, s10, s11, s12, s13, .val (.int v), s15, s16, s17, s18, s19] := by
  rcases h with rfl | ⟨w, rfl, hw⟩
  · rfl
  · cases w <;> first | rfl | (simp [Value.category] at hw)
theorem os0_221_192_ff {s0 : Slot} {s1 : Slot} {s2 : Slot} {s3 : Slot} {s4 : Slot} {z5 : Value} {z6 : Value} {s7 : Slot} {s8 : Slot} {s9 : Slot} {s10 : Slot} {s11 : Slot} {s12 : Slot} {s13 : Slot} {z14 : Value} {s15 : Slot} {s16 : Slot} {s17 : Slot} {s18 : Slot} {s19 : Slot} {v : Int32} (h : One s15) : storeLocals #[s0, s1, s2, s3, s4, .val z5, .val z6, s7, s8, s9, s10, s11, s12, s13, .val z14, s15, s16, s17, s18, s19] 15 (.int v) = some #[s0, s1, s2, s3, s4, .val z5, .val z6, s7, s8, s9, s10, s11, s12, s13, .val z14, .val (.int v), s16, s17, s18, s19] := by
  rcases h with rfl | ⟨w, rfl, hw⟩
  · rfl
  · cases w <;> first | rfl | (simp [Value.category] at hw)
theorem os0_226_192_ff {s0 : Slot} {s1 : Slot} {s2 : Slot} {s3 : Slot} {s4 : Slot} {z5 : Value} {z6 : Value} {s7 : Slot} {s8 : Slot} {s9 : Slot} {s10 : Slot} {s11 : Slot} {s12 : Slot} {s13 : Slot} {z14 : Value} {z15 : Value} {s16 : Slot} {s17 : Slot} {s18 : Slot} {s19 : Slot} {v : Int32} (h : One s16) : storeLocals #[s0, s1, s2, s3, s4, .val z5, .val z6, s7, s8, s9, s10, s11, s12, s13, .val z14, .val z15, s16, s17, s18, s19] 16 (.int v) = some #[s0, s1, s2, s3, s4, .val z5, .val z6, s7, s8, s9, s10, s11, s12, s13, .val z14, .val z15, .val (.int v), s17, s18, s19] := by
  rcases h with rfl | ⟨w, rfl, hw⟩
  · rfl
  · cases w <;> first | rfl | (simp [Value.category] at hw)
set_option maxRecDepth 65536 in
set_option maxHeartbeats 40000000 in
theorem tn0_192_228_ff {p : Program} {l : Launch} {e : Env} {R : Room} {s : State} {m : MethodId} {args : Array Value} {below : List Frame} {meth : Method} {c : Code} {T0 : State} {locs : List Loc} {cells slots : Nat} {Z : State} {a0 : Array Value} {h0 : Heap} (s0 : Slot) (s1 : Slot) (s2 : Slot) (s3 : Slot) (s4 : Slot) (i5 : Int32) (i6 : Int32) (s7 : Slot) (s8 : Slot) (s9 : Slot) (s10 : Slot) (s11 : Slot) (s12 : Slot) (s13 : Slot) (s14 : Slot) (s15 : Slot) (s16 : Slot) (s17 : Slot) (s18 : Slot) (s19 : Slot)
    (X0 : Stand p l e R s m args below meth c T0 locs cells slots) (hx : p.tables.exec = Jvm.exec) (hZ : Z.Warmed39 s.vm) (hw : ∀ d ∈ tables_1, d.before a0 Z = true) (hby : c.code = code) (hml : c.maxLocals = 20) (hown : s.vm.findClass "quotewarden/NumbersWholeNumberPinLaw" = some m.cls) (e0 : T0.heap = h0) (hs14 : One s14) (hs15 : One s15) (hs16 : One s16) (hc201 : ¬ ((i5.toInt8.toInt32) < (48 : Int32))) (hc208 : ¬ ((57 : Int32) < (i5.toInt8.toInt32))) :
    ∀ target, Steps p.tables e below (T0.setTop (mkF m 228 #[s0, s1, s2, s3, s4, .val (.int i5), .val (.int i6), s7, s8, s9, s10, s11, s12, s13, .val (.int ((i5.toInt8.toInt32) - (10 : Int32))), .val (.int (((i5.toInt8.toInt32) - (10 : Int32)).toInt8.toInt32)), .val (.int (i6.toInt8.toInt32)), s17, s18, s19] [])) target → Steps p.tables e below (T0.setTop (mkF m 192 #[s0, s1, s2, s3, s4, .val (.int i5), .val (.int i6), s7, s8, s9, s10, s11, s12, s13, s14, s15, s16, s17, s18, s19] [])) target := by

  intro target kt
  show Steps p.tables e below (T0.setTop (mkF m 192 #[s0, s1, s2, s3, s4, .val (.int i5), .val (.int i6), s7, s8, s9, s10, s11, s12, s13, s14, s15, s16, s17, s18, s19] [])) _
  refine XS.iload X0.here hx rfl (hb hby at_192) rfl ?_
  show Steps p.tables e below (T0.setTop (mkF m 194 #[s0, s1, s2, s3, s4, .val (.int i5), .val (.int i6), s7, s8, s9, s10, s11, s12, s13, s14, s15, s16, s17, s18, s19] [(.int i5)])) _
  refine XS.i2b X0.here hx rfl (hb hby at_194) rfl ?_
  show Steps p.tables e below (T0.setTop (mkF m 195 #[s0, s1, s2, s3, s4, .val (.int i5), .val (.int i6), s7, s8, s9, s10, s11, s12, s13, s14, s15, s16, s17, s18, s19] [(.int (i5.toInt8.toInt32))])) _
  refine XS.istore X0.here hx rfl (hb hby at_195) rfl (l' := #[s0, s1, s2, s3, s4, .val (.int i5), .val (.int i6), s7, s8, s9, s10, s11, s12, s13, .val (.int (i5.toInt8.toInt32)), s15, s16, s17, s18, s19]) (os0_195_192_ff hs14) ?_
  show Steps p.tables e below (T0.setTop (mkF m 197 #[s0, s1, s2, s3, s4, .val (.int i5), .val (.int i6), s7, s8, s9, s10, s11, s12, s13, .val (.int (i5.toInt8.toInt32)), s15, s16, s17, s18, s19] [])) _
  refine XS.iload X0.here hx rfl (hb hby at_197) rfl ?_
  show Steps p.tables e below (T0.setTop (mkF m 199 #[s0, s1, s2, s3, s4, .val (.int i5), .val (.int i6), s7, s8, s9, s10, s11, s12, s13, .val (.int (i5.toInt8.toInt32)), s15, s16, s17, s18, s19] [(.int (i5.toInt8.toInt32))])) _
  refine XS.bipush X0.here hx rfl (hb hby at_199) ?_
  show Steps p.tables e below (T0.setTop (mkF m 201 #[s0, s1, s2, s3, s4, .val (.int i5), .val (.int i6), s7, s8, s9, s10, s11, s12, s13, .val (.int (i5.toInt8.toInt32)), s15, s16, s17, s18, s19] [(.int (48 : Int32)), (.int (i5.toInt8.toInt32))])) _
  refine XS.icmpNo X0.here hx rfl (hb hby at_201) rfl (flt hc201).1 ?_
  show Steps p.tables e below (T0.setTop (mkF m 204 #[s0, s1, s2, s3, s4, .val (.int i5), .val (.int i6), s7, s8, s9, s10, s11, s12, s13, .val (.int (i5.toInt8.toInt32)), s15, s16, s17, s18, s19] [])) _
  refine XS.iload X0.here hx rfl (hb hby at_204) rfl ?_
  show Steps p.tables e below (T0.setTop (mkF m 206 #[s0, s1, s2, s3, s4, .val (.int i5), .val (.int i6), s7, s8, s9, s10, s11, s12, s13, .val (.int (i5.toInt8.toInt32)), s15, s16, s17, s18, s19] [(.int (i5.toInt8.toInt32))])) _
  refine XS.bipush X0.here hx rfl (hb hby at_206) ?_
  show Steps p.tables e below (T0.setTop (mkF m 208 #[s0, s1, s2, s3, s4, .val (.int i5), .val (.int i6), s7, s8, s9, s10, s11, s12, s13, .val (.int (i5.toInt8.toInt32)), s15, s16, s17, s18, s19] [(.int (57 : Int32)), (.int (i5.toInt8.toInt32))])) _
  refine XS.icmpNo X0.here hx rfl (hb hby at_208) rfl (flt hc208).2.2.1 ?_
  show Steps p.tables e below (T0.setTop (mkF m 211 #[s0, s1, s2, s3, s4, .val (.int i5), .val (.int i6), s7, s8, s9, s10, s11, s12, s13, .val (.int (i5.toInt8.toInt32)), s15, s16, s17, s18, s19] [])) _
  refine XS.iload X0.here hx rfl (hb hby at_211) rfl ?_
  show Steps p.tables e below (T0.setTop (mkF m 213 #[s0, s1, s2, s3, s4, .val (.int i5), .val (.int i6), s7, s8, s9, s10, s11, s12, s13, .val (.int (i5.toInt8.toInt32)), s15, s16, s17, s18, s19] [(.int (i5.toInt8.toInt32))])) _
  refine XS.bipush X0.here hx rfl (hb hby at_213) ?_
  show Steps p.tables e below (T0.setTop (mkF m 215 #[s0, s1, s2, s3, s4, .val (.int i5), .val (.int i6), s7, s8, s9, s10, s11, s12, s13, .val (.int (i5.toInt8.toInt32)), s15, s16, s17, s18, s19] [(.int (10 : Int32)), (.int (i5.toInt8.toInt32))])) _
  refine XS.isub X0.here hx rfl (hb hby at_215) rfl ?_
  show Steps p.tables e below (T0.setTop (mkF m 216 #[s0, s1, s2, s3, s4, .val (.int i5), .val (.int i6), s7, s8, s9, s10, s11, s12, s13, .val (.int (i5.toInt8.toInt32)), s15, s16, s17, s18, s19] [(.int ((i5.toInt8.toInt32) - (10 : Int32)))])) _
  refine XS.istore X0.here hx rfl (hb hby at_216) rfl (l' := #[s0, s1, s2, s3, s4, .val (.int i5), .val (.int i6), s7, s8, s9, s10, s11, s12, s13, .val (.int ((i5.toInt8.toInt32) - (10 : Int32))), s15, s16, s17, s18, s19]) rfl ?_
  show Steps p.tables e below (T0.setTop (mkF m 218 #[s0, s1, s2, s3, s4, .val (.int i5), .val (.int i6), s7, s8, s9, s10, s11, s12, s13, .val (.int ((i5.toInt8.toInt32) - (10 : Int32))), s15, s16, s17, s18, s19] [])) _
  refine XS.iload X0.here hx rfl (hb hby at_218) rfl ?_
  show Steps p.tables e below (T0.setTop (mkF m 220 #[s0, s1, s2, s3, s4, .val (.int i5), .val (.int i6), s7, s8, s9, s10, s11, s12, s13, .val (.int ((i5.toInt8.toInt32) - (10 : Int32))), s15, s16, s17, s18, s19] [(.int ((i5.toInt8.toInt32) - (10 : Int32)))])) _
  refine XS.i2b X0.here hx rfl (hb hby at_220) rfl ?_
  show Steps p.tables e below (T0.setTop (mkF m 221 #[s0, s1, s2, s3, s4, .val (.int i5), .val (.int i6), s7, s8, s9, s10, s11, s12, s13, .val (.int ((i5.toInt8.toInt32) - (10 : Int32))), s15, s16, s17, s18, s19] [(.int (((i5.toInt8.toInt32) - (10 : Int32)).toInt8.toInt32))])) _
  refine XS.istore X0.here hx rfl (hb hby at_221) rfl (l' := #[s0, s1, s2, s3, s4, .val (.int i5), .val (.int i6), s7, s8, s9, s10, s11, s12, s13, .val (.int ((i5.toInt8.toInt32) - (10 : Int32))), .val (.int (((i5.toInt8.toInt32) - (10 : Int32)).toInt8.toInt32)), s16, s17, s18, s19]) (os0_221_192_ff hs15) ?_
  show Steps p.tables e below (T0.setTop (mkF m 223 #[s0, s1, s2, s3, s4, .val (.int i5), .val (.int i6), s7, s8, s9, s10, s11, s12, s13, .val (.int ((i5.toInt8.toInt32) - (10 : Int32))), .val (.int (((i5.toInt8.toInt32) - (10 : Int32)).toInt8.toInt32)), s16, s17, s18, s19] [])) _
  refine XS.iload X0.here hx rfl (hb hby at_223) rfl ?_
  show Steps p.tables e below (T0.setTop (mkF m 225 #[s0, s1, s2, s3, s4, .val (.int i5), .val (.int i6), s7, s8, s9, s10, s11, s12, s13, .val (.int ((i5.toInt8.toInt32) - (10 : Int32))), .val (.int (((i5.toInt8.toInt32) - (10 : Int32)).toInt8.toInt32)), s16, s17, s18, s19] [(.int i6)])) _
  refine XS.i2b X0.here hx rfl (hb hby at_225) rfl ?_
  show Steps p.tables e below (T0.setTop (mkF m 226 #[s0, s1, s2, s3, s4, .val (.int i5), .val (.int i6), s7, s8, s9, s10, s11, s12, s13, .val (.int ((i5.toInt8.toInt32) - (10 : Int32))), .val (.int (((i5.toInt8.toInt32) - (10 : Int32)).toInt8.toInt32)), s16, s17, s18, s19] [(.int (i6.toInt8.toInt32))])) _
  refine XS.istore X0.here hx rfl (hb hby at_226) rfl (l' := #[s0, s1, s2, s3, s4, .val (.int i5), .val (.int i6), s7, s8, s9, s10, s11, s12, s13, .val (.int ((i5.toInt8.toInt32) - (10 : Int32))), .val (.int (((i5.toInt8.toInt32) - (10 : Int32)).toInt8.toInt32)), .val (.int (i6.toInt8.toInt32)), s17, s18, s19]) (os0_226_192_ff hs16) ?_
  exact kt
set_option maxRecDepth 65536 in
set_option maxHeartbeats 40000000 in
theorem tn0_768_801_t {p : Program} {l : Launch} {e : Env} {R : Room} {s : State} {m : MethodId} {args : Array Value} {below : List Frame} {meth : Method} {c : Code} {T0 : State} {locs : List Loc} {cells slots : Nat} {Z : State} {a0 : Array Value} {h0 : Heap} (s0 : Slot) (s1 : Slot) (s2 : Slot) (s3 : Slot) (s4 : Slot) (s5 : Slot) (s6 : Slot) (s7 : Slot) (s8 : Slot) (s9 : Slot) (i10 : Int32) (s11 : Slot) (s12 : Slot) (s13 : Slot) (s14 : Slot) (s15 : Slot) (s16 : Slot) (s17 : Slot)
    (X0 : Stand p l e R s m args below meth c T0 locs cells slots) (hx : p.tables.exec = Jvm.exec) (hZ : Z.Warmed39 s.vm) (hw : ∀ d ∈ tables_1, d.before a0 Z = true) (hby : c.code = code) (hml : c.maxLocals = 20) (hown : s.vm.findClass "quotewarden/NumbersWholeNumberPinLaw" = some m.cls) (e0 : T0.heap = h0) (hc770 : i10 = (0 : Int32)) :
    ∀ target, Steps p.tables e below (T0.setTop (mkF m 801 #[s0, s1, s2, s3, s4, s5, s6, s7, s8, s9, .val (.int i10), s11, s12, s13, s14, s15, s16, s17, .val (.long (-1 : Int64)), .second] [])) target → Steps p.tables e below (T0.setTop (mkF m 768 #[s0, s1, s2, s3, s4, s5, s6, s7, s8, s9, .val (.int i10), s11, s12, s13, s14, s15, s16, s17, .unset, .unset] [])) target := by

  intro target kt
  show Steps p.tables e below (T0.setTop (mkF m 768 #[s0, s1, s2, s3, s4, s5, s6, s7, s8, s9, .val (.int i10), s11, s12, s13, s14, s15, s16, s17, .unset, .unset] [])) _
  refine XS.iload X0.here hx rfl (hb hby at_768) rfl ?_
  show Steps p.tables e below (T0.setTop (mkF m 770 #[s0, s1, s2, s3, s4, s5, s6, s7, s8, s9, .val (.int i10), s11, s12, s13, s14, s15, s16, s17, .unset, .unset] [(.int i10)])) _
  refine XS.ifYes X0.here hx rfl (pc0 := 770) (pc' := 785) rfl (hb hby at_770) rfl ((if0 _ _).trans (teq hc770).1) (by decide) (by decide) ?_
  show Steps p.tables e below (T0.setTop (mkF m 785 #[s0, s1, s2, s3, s4, s5, s6, s7, s8, s9, .val (.int i10), s11, s12, s13, s14, s15, s16, s17, .unset, .unset] [])) _
  refine X0.ldc2Long hx hown (mvT hZ (hw _ (List.mem_of_getElem? (i := 39) rfl))) (g := (mkF m 785 #[s0, s1, s2, s3, s4, s5, s6, s7, s8, s9, .val (.int i10), s11, s12, s13, s14, s15, s16, s17, .unset, .unset] [])) rfl (hb hby at_785) _ ?_
  show Steps p.tables e below (T0.setTop (mkF m 788 #[s0, s1, s2, s3, s4, s5, s6, s7, s8, s9, .val (.int i10), s11, s12, s13, s14, s15, s16, s17, .unset, .unset] [(.long (-1 : Int64))])) _
  refine XS.goto X0.here hx rfl (pc0 := 788) (pc' := 799) rfl (hb hby at_788) (by decide) (by decide) ?_
  show Steps p.tables e below (T0.setTop (mkF m 799 #[s0, s1, s2, s3, s4, s5, s6, s7, s8, s9, .val (.int i10), s11, s12, s13, s14, s15, s16, s17, .unset, .unset] [(.long (-1 : Int64))])) _
  refine XS.lstore X0.here hx rfl (hb hby at_799) rfl (l' := #[s0, s1, s2, s3, s4, s5, s6, s7, s8, s9, .val (.int i10), s11, s12, s13, s14, s15, s16, s17, .val (.long (-1 : Int64)), .second]) rfl ?_
  exact kt
set_option maxRecDepth 65536 in
set_option maxHeartbeats 40000000 in
theorem tn0_768_801_ft {p : Program} {l : Launch} {e : Env} {R : Room} {s : State} {m : MethodId} {args : Array Value} {below : List Frame} {meth : Method} {c : Code} {T0 : State} {locs : List Loc} {cells slots : Nat} {Z : State} {a0 : Array Value} {h0 : Heap} (s0 : Slot) (s1 : Slot) (s2 : Slot) (s3 : Slot) (s4 : Slot) (s5 : Slot) (s6 : Slot) (s7 : Slot) (s8 : Slot) (s9 : Slot) (i10 : Int32) (s11 : Slot) (s12 : Slot) (s13 : Slot) (s14 : Slot) (s15 : Slot) (s16 : Slot) (s17 : Slot)
    (X0 : Stand p l e R s m args below meth c T0 locs cells slots) (hx : p.tables.exec = Jvm.exec) (hZ : Z.Warmed39 s.vm) (hw : ∀ d ∈ tables_1, d.before a0 Z = true) (hby : c.code = code) (hml : c.maxLocals = 20) (hown : s.vm.findClass "quotewarden/NumbersWholeNumberPinLaw" = some m.cls) (e0 : T0.heap = h0) (hc770 : ¬ (i10 = (0 : Int32))) (hc777 : (18 : Int32) < i10) :
    ∀ target, Steps p.tables e below (T0.setTop (mkF m 801 #[s0, s1, s2, s3, s4, s5, s6, s7, s8, s9, .val (.int i10), s11, s12, s13, s14, s15, s16, s17, .val (.long (-1 : Int64)), .second] [])) target → Steps p.tables e below (T0.setTop (mkF m 768 #[s0, s1, s2, s3, s4, s5, s6, s7, s8, s9, .val (.int i10), s11, s12, s13, s14, s15, s16, s17, .unset, .unset] [])) target := by

  intro target kt
  show Steps p.tables e below (T0.setTop (mkF m 768 #[s0, s1, s2, s3, s4, s5, s6, s7, s8, s9, .val (.int i10), s11, s12, s13, s14, s15, s16, s17, .unset, .unset] [])) _
  refine XS.iload X0.here hx rfl (hb hby at_768) rfl ?_
  show Steps p.tables e below (T0.setTop (mkF m 770 #[s0, s1, s2, s3, s4, s5, s6, s7, s8, s9, .val (.int i10), s11, s12, s13, s14, s15, s16, s17, .unset, .unset] [(.int i10)])) _
  refine XS.ifNo X0.here hx rfl (hb hby at_770) rfl ((if0 _ _).trans (feq hc770).1) ?_
  show Steps p.tables e below (T0.setTop (mkF m 773 #[s0, s1, s2, s3, s4, s5, s6, s7, s8, s9, .val (.int i10), s11, s12, s13, s14, s15, s16, s17, .unset, .unset] [])) _
  refine XS.iload X0.here hx rfl (hb hby at_773) rfl ?_
  show Steps p.tables e below (T0.setTop (mkF m 775 #[s0, s1, s2, s3, s4, s5, s6, s7, s8, s9, .val (.int i10), s11, s12, s13, s14, s15, s16, s17, .unset, .unset] [(.int i10)])) _
  refine XS.bipush X0.here hx rfl (hb hby at_775) ?_
  show Steps p.tables e below (T0.setTop (mkF m 777 #[s0, s1, s2, s3, s4, s5, s6, s7, s8, s9, .val (.int i10), s11, s12, s13, s14, s15, s16, s17, .unset, .unset] [(.int (18 : Int32)), (.int i10)])) _
  refine XS.icmpYes X0.here hx rfl (pc0 := 777) (pc' := 785) rfl (hb hby at_777) rfl (tlt hc777).2.2.1 (by decide) (by decide) ?_
  show Steps p.tables e below (T0.setTop (mkF m 785 #[s0, s1, s2, s3, s4, s5, s6, s7, s8, s9, .val (.int i10), s11, s12, s13, s14, s15, s16, s17, .unset, .unset] [])) _
  refine X0.ldc2Long hx hown (mvT hZ (hw _ (List.mem_of_getElem? (i := 39) rfl))) (g := (mkF m 785 #[s0, s1, s2, s3, s4, s5, s6, s7, s8, s9, .val (.int i10), s11, s12, s13, s14, s15, s16, s17, .unset, .unset] [])) rfl (hb hby at_785) _ ?_
  show Steps p.tables e below (T0.setTop (mkF m 788 #[s0, s1, s2, s3, s4, s5, s6, s7, s8, s9, .val (.int i10), s11, s12, s13, s14, s15, s16, s17, .unset, .unset] [(.long (-1 : Int64))])) _
  refine XS.goto X0.here hx rfl (pc0 := 788) (pc' := 799) rfl (hb hby at_788) (by decide) (by decide) ?_
  show Steps p.tables e below (T0.setTop (mkF m 799 #[s0, s1, s2, s3, s4, s5, s6, s7, s8, s9, .val (.int i10), s11, s12, s13, s14, s15, s16, s17, .unset, .unset] [(.long (-1 : Int64))])) _
  refine XS.lstore X0.here hx rfl (hb hby at_799) rfl (l' := #[s0, s1, s2, s3, s4, s5, s6, s7, s8, s9, .val (.int i10), s11, s12, s13, s14, s15, s16, s17, .val (.long (-1 : Int64)), .second]) rfl ?_
  exact kt
set_option maxRecDepth 65536 in
set_option maxHeartbeats 40000000 in
theorem tn0_768_801_fff {p : Program} {l : Launch} {e : Env} {R : Room} {s : State} {m : MethodId} {args : Array Value} {below : List Frame} {meth : Method} {c : Code} {T0 : State} {locs : List Loc} {cells slots : Nat} {Z : State} {a0 : Array Value} {h0 : Heap} (s0 : Slot) (s1 : Slot) (s2 : Slot) (s3 : Slot) (s4 : Slot) (s5 : Slot) (s6 : Slot) (s7 : Slot) (s8 : Slot) (s9 : Slot) (i10 : Int32) (s11 : Slot) (i12 : Int32) (s13 : Slot) (s14 : Slot) (s15 : Slot) (s16 : Slot) (s17 : Slot)
    (X0 : Stand p l e R s m args below meth c T0 locs cells slots) (hx : p.tables.exec = Jvm.exec) (hZ : Z.Warmed39 s.vm) (hw : ∀ d ∈ tables_1, d.before a0 Z = true) (hby : c.code = code) (hml : c.maxLocals = 20) (hown : s.vm.findClass "quotewarden/NumbersWholeNumberPinLaw" = some m.cls) (e0 : T0.heap = h0) (hc770 : ¬ (i10 = (0 : Int32))) (hc777 : ¬ ((18 : Int32) < i10)) (hc782 : ¬ (i12 = (0 : Int32))) :
    ∀ target, Steps p.tables e below (T0.setTop (mkF m 801 #[s0, s1, s2, s3, s4, s5, s6, s7, s8, s9, .val (.int i10), s11, .val (.int i12), s13, s14, s15, s16, s17, .val (.long (-1 : Int64)), .second] [])) target → Steps p.tables e below (T0.setTop (mkF m 768 #[s0, s1, s2, s3, s4, s5, s6, s7, s8, s9, .val (.int i10), s11, .val (.int i12), s13, s14, s15, s16, s17, .unset, .unset] [])) target := by

  intro target kt
  show Steps p.tables e below (T0.setTop (mkF m 768 #[s0, s1, s2, s3, s4, s5, s6, s7, s8, s9, .val (.int i10), s11, .val (.int i12), s13, s14, s15, s16, s17, .unset, .unset] [])) _
  refine XS.iload X0.here hx rfl (hb hby at_768) rfl ?_
  show Steps p.tables e below (T0.setTop (mkF m 770 #[s0, s1, s2, s3, s4, s5, s6, s7, s8, s9, .val (.int i10), s11, .val (.int i12), s13, s14, s15, s16, s17, .unset, .unset] [(.int i10)])) _
  refine XS.ifNo X0.here hx rfl (hb hby at_770) rfl ((if0 _ _).trans (feq hc770).1) ?_
  show Steps p.tables e below (T0.setTop (mkF m 773 #[s0, s1, s2, s3, s4, s5, s6, s7, s8, s9, .val (.int i10), s11, .val (.int i12), s13, s14, s15, s16, s17, .unset, .unset] [])) _
  refine XS.iload X0.here hx rfl (hb hby at_773) rfl ?_
  show Steps p.tables e below (T0.setTop (mkF m 775 #[s0, s1, s2, s3, s4, s5, s6, s7, s8, s9, .val (.int i10), s11, .val (.int i12), s13, s14, s15, s16, s17, .unset, .unset] [(.int i10)])) _
  refine XS.bipush X0.here hx rfl (hb hby at_775) ?_
  show Steps p.tables e below (T0.setTop (mkF m 777 #[s0, s1, s2, s3, s4, s5, s6, s7, s8, s9, .val (.int i10), s11, .val (.int i12), s13, s14, s15, s16, s17, .unset, .unset] [(.int (18 : Int32)), (.int i10)])) _
  refine XS.icmpNo X0.here hx rfl (hb hby at_777) rfl (flt hc777).2.2.1 ?_
  show Steps p.tables e below (T0.setTop (mkF m 780 #[s0, s1, s2, s3, s4, s5, s6, s7, s8, s9, .val (.int i10), s11, .val (.int i12), s13, s14, s15, s16, s17, .unset, .unset] [])) _
  refine XS.iload X0.here hx rfl (hb hby at_780) rfl ?_
  show Steps p.tables e below (T0.setTop (mkF m 782 #[s0, s1, s2, s3, s4, s5, s6, s7, s8, s9, .val (.int i10), s11, .val (.int i12), s13, s14, s15, s16, s17, .unset, .unset] [(.int i12)])) _
  refine XS.ifNo X0.here hx rfl (hb hby at_782) rfl ((if0 _ _).trans (feq hc782).1) ?_
  show Steps p.tables e below (T0.setTop (mkF m 785 #[s0, s1, s2, s3, s4, s5, s6, s7, s8, s9, .val (.int i10), s11, .val (.int i12), s13, s14, s15, s16, s17, .unset, .unset] [])) _
  refine X0.ldc2Long hx hown (mvT hZ (hw _ (List.mem_of_getElem? (i := 39) rfl))) (g := (mkF m 785 #[s0, s1, s2, s3, s4, s5, s6, s7, s8, s9, .val (.int i10), s11, .val (.int i12), s13, s14, s15, s16, s17, .unset, .unset] [])) rfl (hb hby at_785) _ ?_
  show Steps p.tables e below (T0.setTop (mkF m 788 #[s0, s1, s2, s3, s4, s5, s6, s7, s8, s9, .val (.int i10), s11, .val (.int i12), s13, s14, s15, s16, s17, .unset, .unset] [(.long (-1 : Int64))])) _
  refine XS.goto X0.here hx rfl (pc0 := 788) (pc' := 799) rfl (hb hby at_788) (by decide) (by decide) ?_
  show Steps p.tables e below (T0.setTop (mkF m 799 #[s0, s1, s2, s3, s4, s5, s6, s7, s8, s9, .val (.int i10), s11, .val (.int i12), s13, s14, s15, s16, s17, .unset, .unset] [(.long (-1 : Int64))])) _
  refine XS.lstore X0.here hx rfl (hb hby at_799) rfl (l' := #[s0, s1, s2, s3, s4, s5, s6, s7, s8, s9, .val (.int i10), s11, .val (.int i12), s13, s14, s15, s16, s17, .val (.long (-1 : Int64)), .second]) rfl ?_
  exact kt
set_option maxRecDepth 65536 in
set_option maxHeartbeats 40000000 in
theorem tn0_768_801_fft {p : Program} {l : Launch} {e : Env} {R : Room} {s : State} {m : MethodId} {args : Array Value} {below : List Frame} {meth : Method} {c : Code} {T0 : State} {locs : List Loc} {cells slots : Nat} {Z : State} {a0 : Array Value} {h0 : Heap} (s0 : Slot) (s1 : Slot) (s2 : Slot) (s3 : Slot) (s4 : Slot) (s5 : Slot) (s6 : Slot) (o7 : Addr) (j8 : Int64) (i10 : Int32) (s11 : Slot) (i12 : Int32) (s13 : Slot) (s14 : Slot) (s15 : Slot) (s16 : Slot) (s17 : Slot) (w7 : Int64) (cl_o7 : Cell)
    (X0 : Stand p l e R s m args below meth c T0 locs cells slots) (hx : p.tables.exec = Jvm.exec) (hZ : Z.Warmed39 s.vm) (hw : ∀ d ∈ tables_1, d.before a0 Z = true) (hby : c.code = code) (hml : c.maxLocals = 20) (hown : s.vm.findClass "quotewarden/NumbersWholeNumberPinLaw" = some m.cls) (e0 : T0.heap = h0) (Ar_o7 : Arr Z h0 o7 cl_o7 .long) (hin797 : ¬ (i10 < 0 ∨ cl_o7.slots.size ≤ (i10).toNatClampNeg)) (hat797 : cl_o7.slots[(i10).toNatClampNeg]? = some (.long w7)) (hc770 : ¬ (i10 = (0 : Int32))) (hc777 : ¬ ((18 : Int32) < i10)) (hc782 : i12 = (0 : Int32)) (hnz798 : ¬ (w7 = (0 : Int64))) :
    ∀ target, Steps p.tables e below (T0.setTop (mkF m 801 #[s0, s1, s2, s3, s4, s5, s6, .val (.ref o7), .val (.long j8), .second, .val (.int i10), s11, .val (.int i12), s13, s14, s15, s16, s17, .val (.long (j8 % w7)), .second] [])) target → Steps p.tables e below (T0.setTop (mkF m 768 #[s0, s1, s2, s3, s4, s5, s6, .val (.ref o7), .val (.long j8), .second, .val (.int i10), s11, .val (.int i12), s13, s14, s15, s16, s17, .unset, .unset] [])) target := by

  intro target kt
  show Steps p.tables e below (T0.setTop (mkF m 768 #[s0, s1, s2, s3, s4, s5, s6, .val (.ref o7), .val (.long j8), .second, .val (.int i10), s11, .val (.int i12), s13, s14, s15, s16, s17, .unset, .unset] [])) _
  refine XS.iload X0.here hx rfl (hb hby at_768) rfl ?_
  show Steps p.tables e below (T0.setTop (mkF m 770 #[s0, s1, s2, s3, s4, s5, s6, .val (.ref o7), .val (.long j8), .second, .val (.int i10), s11, .val (.int i12), s13, s14, s15, s16, s17, .unset, .unset] [(.int i10)])) _
  refine XS.ifNo X0.here hx rfl (hb hby at_770) rfl ((if0 _ _).trans (feq hc770).1) ?_
  show Steps p.tables e below (T0.setTop (mkF m 773 #[s0, s1, s2, s3, s4, s5, s6, .val (.ref o7), .val (.long j8), .second, .val (.int i10), s11, .val (.int i12), s13, s14, s15, s16, s17, .unset, .unset] [])) _
  refine XS.iload X0.here hx rfl (hb hby at_773) rfl ?_
  show Steps p.tables e below (T0.setTop (mkF m 775 #[s0, s1, s2, s3, s4, s5, s6, .val (.ref o7), .val (.long j8), .second, .val (.int i10), s11, .val (.int i12), s13, s14, s15, s16, s17, .unset, .unset] [(.int i10)])) _
  refine XS.bipush X0.here hx rfl (hb hby at_775) ?_
  show Steps p.tables e below (T0.setTop (mkF m 777 #[s0, s1, s2, s3, s4, s5, s6, .val (.ref o7), .val (.long j8), .second, .val (.int i10), s11, .val (.int i12), s13, s14, s15, s16, s17, .unset, .unset] [(.int (18 : Int32)), (.int i10)])) _
  refine XS.icmpNo X0.here hx rfl (hb hby at_777) rfl (flt hc777).2.2.1 ?_
  show Steps p.tables e below (T0.setTop (mkF m 780 #[s0, s1, s2, s3, s4, s5, s6, .val (.ref o7), .val (.long j8), .second, .val (.int i10), s11, .val (.int i12), s13, s14, s15, s16, s17, .unset, .unset] [])) _
  refine XS.iload X0.here hx rfl (hb hby at_780) rfl ?_
  show Steps p.tables e below (T0.setTop (mkF m 782 #[s0, s1, s2, s3, s4, s5, s6, .val (.ref o7), .val (.long j8), .second, .val (.int i10), s11, .val (.int i12), s13, s14, s15, s16, s17, .unset, .unset] [(.int i12)])) _
  refine XS.ifYes X0.here hx rfl (pc0 := 782) (pc' := 791) rfl (hb hby at_782) rfl ((if0 _ _).trans (teq hc782).1) (by decide) (by decide) ?_
  show Steps p.tables e below (T0.setTop (mkF m 791 #[s0, s1, s2, s3, s4, s5, s6, .val (.ref o7), .val (.long j8), .second, .val (.int i10), s11, .val (.int i12), s13, s14, s15, s16, s17, .unset, .unset] [])) _
  refine XS.lload X0.here hx rfl (hb hby at_791) rfl ?_
  show Steps p.tables e below (T0.setTop (mkF m 793 #[s0, s1, s2, s3, s4, s5, s6, .val (.ref o7), .val (.long j8), .second, .val (.int i10), s11, .val (.int i12), s13, s14, s15, s16, s17, .unset, .unset] [(.long j8)])) _
  refine XS.aload X0.here hx rfl (hb hby at_793) rfl rfl ?_
  show Steps p.tables e below (T0.setTop (mkF m 795 #[s0, s1, s2, s3, s4, s5, s6, .val (.ref o7), .val (.long j8), .second, .val (.int i10), s11, .val (.int i12), s13, s14, s15, s16, s17, .unset, .unset] [(.ref o7), (.long j8)])) _
  refine XS.iload X0.here hx rfl (hb hby at_795) rfl ?_
  show Steps p.tables e below (T0.setTop (mkF m 797 #[s0, s1, s2, s3, s4, s5, s6, .val (.ref o7), .val (.long j8), .second, .val (.int i10), s11, .val (.int i12), s13, s14, s15, s16, s17, .unset, .unset] [(.int i10), (.ref o7), (.long j8)])) _
  refine X0.laload hx (j := i10) (v := (.long w7)) (by rw [e0]; exact Ar_o7.1) (State.isArrayOf_alike hZ.alike Ar_o7.2.1) Ar_o7.2.2 hin797 hat797 (g := (mkF m 797 #[s0, s1, s2, s3, s4, s5, s6, .val (.ref o7), .val (.long j8), .second, .val (.int i10), s11, .val (.int i12), s13, s14, s15, s16, s17, .unset, .unset] [(.int i10), (.ref o7), (.long j8)])) rfl rfl (hb hby at_797) _ ?_
  show Steps p.tables e below (T0.setTop (mkF m 798 #[s0, s1, s2, s3, s4, s5, s6, .val (.ref o7), .val (.long j8), .second, .val (.int i10), s11, .val (.int i12), s13, s14, s15, s16, s17, .unset, .unset] [(.long w7), (.long j8)])) _
  refine own_lremM X0 hx rfl (hb hby at_798) rfl hnz798 ?_
  show Steps p.tables e below (T0.setTop (mkF m 799 #[s0, s1, s2, s3, s4, s5, s6, .val (.ref o7), .val (.long j8), .second, .val (.int i10), s11, .val (.int i12), s13, s14, s15, s16, s17, .unset, .unset] [(.long (j8 % w7))])) _
  refine XS.lstore X0.here hx rfl (hb hby at_799) rfl (l' := #[s0, s1, s2, s3, s4, s5, s6, .val (.ref o7), .val (.long j8), .second, .val (.int i10), s11, .val (.int i12), s13, s14, s15, s16, s17, .val (.long (j8 % w7)), .second]) rfl ?_
  exact kt
set_option maxRecDepth 65536 in
set_option maxHeartbeats 40000000 in
theorem seg2 {p : Program} {l : Launch} {e : Env} {R : Room} {s : State} {m : MethodId} {args : Array Value} {below : List Frame} {meth : Method} {c : Code} {T0 : State} {locs : List Loc} {cells slots : Nat} {Z : State} {a0 : Array Value} {h0 : Heap} (s0 : Slot) (s1 : Slot) (s2 : Slot) (s3 : Slot) (i4 : Int32) (s5 : Slot) (s6 : Slot) (s7 : Slot) (s8 : Slot) (s9 : Slot) (i10 : Int32) (s11 : Slot) (s12 : Slot) (s13 : Slot) (s14 : Slot) (s15 : Slot) (s16 : Slot) (s17 : Slot) (s18 : Slot) (s19 : Slot)
    (X0 : Stand p l e R s m args below meth c T0 locs cells slots) (hx : p.tables.exec = Jvm.exec) (hZ : Z.Warmed39 s.vm) (hw : ∀ d ∈ tables_1, d.before a0 Z = true) (hby : c.code = code) (hml : c.maxLocals = 20) (hown : s.vm.findClass "quotewarden/NumbersWholeNumberPinLaw" = some m.cls) (e0 : T0.heap = h0) (hs12 : One s12) : ∀ target, Steps p.tables e below (T0.setTop (mkF m 174 #[s0, s1, s2, s3, .val (.int i4), s5, s6, s7, s8, s9, .val (.int i10), s11, .val (.int (own_bad i4 i10)), s13, s14, s15, s16, s17, s18, s19] [])) target → Steps p.tables e below (T0.setTop (mkF m 155 #[s0, s1, s2, s3, .val (.int i4), s5, s6, s7, s8, s9, .val (.int i10), s11, s12, s13, s14, s15, s16, s17, s18, s19] [])) target := by
  intro target kt
  by_cases h1 : (i4 &&& (1 : Int32)) = (0 : Int32)
  · rw [own_bad, if_pos h1] at kt
    exact tn0_155_174_t _ _ _ _ _ _ _ _ _ _ _ _ _ _ _ _ _ _ _ _ X0 hx hZ hw hby hml hown e0 hs12 h1 target kt
  · by_cases h2 : (0 : Int32) < i10
    · rw [own_bad, if_neg h1, if_pos h2] at kt
      exact tn0_155_174_ff _ _ _ _ _ _ _ _ _ _ _ _ _ _ _ _ _ _ _ _ X0 hx hZ hw hby hml hown e0 hs12 h1 h2 target kt
    · rw [own_bad, if_neg h1, if_neg h2] at kt
      exact tn0_155_174_ft _ _ _ _ _ _ _ _ _ _ _ _ _ _ _ _ _ _ _ _ X0 hx hZ hw hby hml hown e0 hs12 h1 h2 target kt
set_option maxRecDepth 65536 in
set_option maxHeartbeats 40000000 in
theorem seg3 {p : Program} {l : Launch} {e : Env} {R : Room} {s : State} {m : MethodId} {args : Array Value} {below : List Frame} {meth : Method} {c : Code} {T0 : State} {locs : List Loc} {cells slots : Nat} {Z : State} {a0 : Array Value} {h0 : Heap} (s0 : Slot) (s1 : Slot) (s2 : Slot) (s3 : Slot) (i4 : Int32) (s5 : Slot) (s6 : Slot) (s7 : Slot) (s8 : Slot) (s9 : Slot) (i10 : Int32) (s11 : Slot) (s12 : Slot) (s13 : Slot) (s14 : Slot) (s15 : Slot) (s16 : Slot) (s17 : Slot) (s18 : Slot) (s19 : Slot)
    (X0 : Stand p l e R s m args below meth c T0 locs cells slots) (hx : p.tables.exec = Jvm.exec) (hZ : Z.Warmed39 s.vm) (hw : ∀ d ∈ tables_1, d.before a0 Z = true) (hby : c.code = code) (hml : c.maxLocals = 20) (hown : s.vm.findClass "quotewarden/NumbersWholeNumberPinLaw" = some m.cls) (e0 : T0.heap = h0) (hs13 : One s13) : ∀ target, Steps p.tables e below (T0.setTop (mkF m 192 #[s0, s1, s2, s3, .val (.int i4), s5, s6, s7, s8, s9, .val (.int i10), s11, s12, .val (.int (own_pos i4 i10)), s14, s15, s16, s17, s18, s19] [])) target → Steps p.tables e below (T0.setTop (mkF m 174 #[s0, s1, s2, s3, .val (.int i4), s5, s6, s7, s8, s9, .val (.int i10), s11, s12, s13, s14, s15, s16, s17, s18, s19] [])) target := by
  intro target kt
  by_cases h2 : (0 : Int32) < i10
  · rw [own_pos, if_pos h2] at kt
    have hnz : ¬ (i10 = (0 : Int32)) := fun q => by rw [q] at h2; exact absurd h2 (by decide)
    exact tn0_174_192_f _ _ _ _ _ _ _ _ _ _ _ _ _ _ _ _ _ _ _ _ X0 hx hZ hw hby hml hown e0 hs13 h2 hnz target kt
  · rw [own_pos, if_neg h2] at kt
    exact tn0_174_192_t _ _ _ _ _ _ _ _ _ _ _ _ _ _ _ _ _ _ _ _ X0 hx hZ hw hby hml hown e0 hs13 h2 target kt
set_option maxRecDepth 65536 in
set_option maxHeartbeats 40000000 in
theorem seg4 {p : Program} {l : Launch} {e : Env} {R : Room} {s : State} {m : MethodId} {args : Array Value} {below : List Frame} {meth : Method} {c : Code} {T0 : State} {locs : List Loc} {cells slots : Nat} {Z : State} {a0 : Array Value} {h0 : Heap} (s0 : Slot) (s1 : Slot) (s2 : Slot) (s3 : Slot) (s4 : Slot) (i5 : Int32) (i6 : Int32) (s7 : Slot) (s8 : Slot) (s9 : Slot) (s10 : Slot) (s11 : Slot) (s12 : Slot) (s13 : Slot) (s14 : Slot) (s15 : Slot) (s16 : Slot) (s17 : Slot) (s18 : Slot) (s19 : Slot)
    (X0 : Stand p l e R s m args below meth c T0 locs cells slots) (hx : p.tables.exec = Jvm.exec) (hZ : Z.Warmed39 s.vm) (hw : ∀ d ∈ tables_1, d.before a0 Z = true) (hby : c.code = code) (hml : c.maxLocals = 20) (hown : s.vm.findClass "quotewarden/NumbersWholeNumberPinLaw" = some m.cls) (e0 : T0.heap = h0) (hs14 : One s14) (hs15 : One s15) (hs16 : One s16) : ∀ target, Steps p.tables e below (T0.setTop (mkF m 228 #[s0, s1, s2, s3, s4, .val (.int i5), .val (.int i6), s7, s8, s9, s10, s11, s12, s13, .val (.int (own_r i5)), .val (.int ((own_r i5).toInt8.toInt32)), .val (.int (i6.toInt8.toInt32)), s17, s18, s19] [])) target → Steps p.tables e below (T0.setTop (mkF m 192 #[s0, s1, s2, s3, s4, .val (.int i5), .val (.int i6), s7, s8, s9, s10, s11, s12, s13, s14, s15, s16, s17, s18, s19] [])) target := by
  intro target kt
  by_cases h1 : (i5.toInt8.toInt32) < (48 : Int32)
  · rw [own_r, if_pos h1] at kt
    exact tn0_192_228_t _ _ _ _ _ _ _ _ _ _ _ _ _ _ _ _ _ _ _ _ X0 hx hZ hw hby hml hown e0 hs14 hs15 hs16 h1 target kt
  · by_cases h2 : (57 : Int32) < (i5.toInt8.toInt32)
    · rw [own_r, if_neg h1, if_pos h2] at kt
      exact tn0_192_228_ft _ _ _ _ _ _ _ _ _ _ _ _ _ _ _ _ _ _ _ _ X0 hx hZ hw hby hml hown e0 hs14 hs15 hs16 h1 h2 target kt
    · rw [own_r, if_neg h1, if_neg h2] at kt
      exact tn0_192_228_ff _ _ _ _ _ _ _ _ _ _ _ _ _ _ _ _ _ _ _ _ X0 hx hZ hw hby hml hown e0 hs14 hs15 hs16 h1 h2 target kt
set_option maxRecDepth 65536 in
set_option maxHeartbeats 40000000 in
theorem seg6 {p : Program} {l : Launch} {e : Env} {R : Room} {s : State} {m : MethodId} {args : Array Value} {below : List Frame} {meth : Method} {c : Code} {T0 : State} {locs : List Loc} {cells slots : Nat} {Z : State} {a0 : Array Value} {h0 : Heap} (s0 : Slot) (s1 : Slot) (s2 : Slot) (s3 : Slot) (s4 : Slot) (s5 : Slot) (s6 : Slot) (o7 : Addr) (j8 : Int64) (i10 : Int32) (s11 : Slot) (i12 : Int32) (s13 : Slot) (s14 : Slot) (s15 : Slot) (s16 : Slot) (s17 : Slot) (kP : ClassId)
    (X0 : Stand p l e R s m args below meth c T0 locs cells slots) (hx : p.tables.exec = Jvm.exec) (hZ : Z.Warmed39 s.vm) (hw : ∀ d ∈ tables_1, d.before a0 Z = true) (hby : c.code = code) (hml : c.maxLocals = 20) (hown : s.vm.findClass "quotewarden/NumbersWholeNumberPinLaw" = some m.cls) (e0 : T0.heap = h0) (V : Arv Z h0 o7 kP .long (19 : Int32) (own_P.map Value.long) (.long (0 : Int64))) (h0' : ¬ i10 < (0 : Int32)) (h19 : i10.toInt ≤ 19) : ∀ target, Steps p.tables e below (T0.setTop (mkF m 801 #[s0, s1, s2, s3, s4, s5, s6, .val (.ref o7), .val (.long j8), .second, .val (.int i10), s11, .val (.int i12), s13, s14, s15, s16, s17, .val (.long (own_exp j8 i10 i12)), .second] [])) target → Steps p.tables e below (T0.setTop (mkF m 768 #[s0, s1, s2, s3, s4, s5, s6, .val (.ref o7), .val (.long j8), .second, .val (.int i10), s11, .val (.int i12), s13, s14, s15, s16, s17, .unset, .unset] [])) target := by
  intro target kt
  by_cases h1 : i10 = (0 : Int32)
  · rw [own_exp, if_pos h1] at kt
    exact tn0_768_801_t _ _ _ _ _ _ _ _ _ _ _ _ _ _ _ _ _ _ X0 hx hZ hw hby hml hown e0 h1 target kt
  · by_cases h2 : (18 : Int32) < i10
    · rw [own_exp, if_neg h1, if_pos h2] at kt
      exact tn0_768_801_ft _ _ _ _ _ _ _ _ _ _ _ _ _ _ _ _ _ _ X0 hx hZ hw hby hml hown e0 h1 h2 target kt
    · by_cases h3 : i12 = (0 : Int32)
      · rw [own_exp, if_neg h1, if_neg h2, if_pos h3] at kt
        obtain ⟨cl, Ar, -, S, N, H, -⟩ := V
        have n19 : (19 : Int32).toNatClampNeg = 19 := by decide +kernel
        have z18 : (18 : Int32).toInt = 18 := by decide +kernel
        have z19 : (19 : Int32).toInt = 19 := by decide +kernel
        have g2 := h2
        rw [Int32.lt_iff_toInt_lt] at g2
        have hin : ¬ (i10 < 0 ∨ cl.slots.size ≤ (i10).toNatClampNeg) := inb_of S ⟨h0', by rw [Int32.lt_iff_toInt_lt]; omega⟩
        have hk : i10.toNatClampNeg < 19 := by
          rw [S, n19] at hin; exact Nat.lt_of_not_le fun y => hin (Or.inr y)
        exact tn0_768_801_fft _ _ _ _ _ _ _ _ _ _ _ _ _ _ _ _ _ _ _ X0 hx hZ hw hby hml hown e0 Ar hin (H.at hin (own_Pget _)) h1 h2 h3 (own_Pnz _ hk) target kt
      · rw [own_exp, if_neg h1, if_neg h2, if_neg h3] at kt
        exact tn0_768_801_fff _ _ _ _ _ _ _ _ _ _ _ _ _ _ _ _ _ _ X0 hx hZ hw hby hml hown e0 h1 h2 h3 target kt
theorem os0_232_228 {s0 : Slot} {s1 : Slot} {s2 : Slot} {s3 : Slot} {s4 : Slot} {s5 : Slot} {s6 : Slot} {s7 : Slot} {s8 : Slot} {s9 : Slot} {s10 : Slot} {s11 : Slot} {s12 : Slot} {s13 : Slot} {s14 : Slot} {s15 : Slot} {s16 : Slot} {s17 : Slot} {s18 : Slot} {s19 : Slot} {v : Addr} (h : One s17) : storeLocals #[s0, s1, s2, s3, s4, s5, s6, s7, s8, s9, s10, s11, s12, s13, s14, s15, s16, s17, s18, s19] 17 (.ref v) = some #[s0, s1, s2, s3, s4, s5, s6, s7, s8, s9, s10, s11, s12, s13, s14, s15, s16, .val (.ref v), s18, s19] := by
  rcases h with rfl | ⟨w, rfl, hw⟩
  · rfl
  · cases w <;> first | rfl | (simp [Value.category] at hw)
set_option maxRecDepth 65536 in
set_option maxHeartbeats 40000000 in
theorem tn0_228_234 {p : Program} {l : Launch} {e : Env} {s : State} {m : MethodId} {args : Array Value} {below : List Frame} {meth : Method} {c : Code} {T0 : State} {locs : List Loc} {Z : State} {a0 : Array Value} {h0 : Heap} (s0 : Slot) (s1 : Slot) (s2 : Slot) (s3 : Slot) (s4 : Slot) (s5 : Slot) (s6 : Slot) (s7 : Slot) (s8 : Slot) (s9 : Slot) (s10 : Slot) (s11 : Slot) (s12 : Slot) (s13 : Slot) (s14 : Slot) (s15 : Slot) (s16 : Slot) (s17 : Slot) (s18 : Slot) (s19 : Slot)
    (X0 : Stand p l e room_1 s m args below meth c T0 locs 1 19) (hx : p.tables.exec = Jvm.exec) (hZ : Z.Warmed39 s.vm) (hw : ∀ d ∈ tables_1, d.before a0 Z = true) (hby : c.code = code) (hml : c.maxLocals = 20) (hown : s.vm.findClass "quotewarden/NumbersWholeNumberPinLaw" = some m.cls) (e0 : T0.heap = h0) (hs17 : One s17) :
    ∃ (T' : State) (h' : Heap) (b7 : Addr) (kb : ClassId), Stand p l e room_1 s m args below meth c T' locs (1 + 1) (19 + 21) ∧ T'.heap = h' ∧ (Arv Z h' b7 kb .byte (21 : Int32) (List.replicate 21 (.int (0 : Int32))) (.int (0 : Int32)) ∧ Ext h0 h' ∧ b7 = h0.size) ∧
      ∀ target, Steps p.tables e below (T'.setTop (mkF m 234 #[s0, s1, s2, s3, s4, s5, s6, s7, s8, s9, s10, s11, s12, s13, s14, s15, s16, .val (.ref b7), s18, s19] [])) target → Steps p.tables e below (T0.setTop (mkF m 228 #[s0, s1, s2, s3, s4, s5, s6, s7, s8, s9, s10, s11, s12, s13, s14, s15, s16, s17, s18, s19] [])) target := by
  obtain ⟨T7, h7, k7, X7, e7, E7, A7, st7⟩ := newP X0 hx hZ (hw _ (List.mem_of_getElem? (i := 21) rfl)) e0 (g := (mkF m 230 #[s0, s1, s2, s3, s4, s5, s6, s7, s8, s9, s10, s11, s12, s13, s14, s15, s16, s17, s18, s19] [(.int (21 : Int32))])) rfl (hb hby at_230) rfl (by decide) (cap := 21) (by decide) (by decide) (by decide) (by decide)
  obtain ⟨b7, g7⟩ : ∃ z, z = h0.size := ⟨_, rfl⟩
  rw [← g7] at A7 st7
  have V_b7 : Arv Z h7 b7 k7 .byte (21 : Int32) [(.int (0 : Int32)), (.int (0 : Int32)), (.int (0 : Int32)), (.int (0 : Int32)), (.int (0 : Int32)), (.int (0 : Int32)), (.int (0 : Int32)), (.int (0 : Int32)), (.int (0 : Int32)), (.int (0 : Int32)), (.int (0 : Int32)), (.int (0 : Int32)), (.int (0 : Int32)), (.int (0 : Int32)), (.int (0 : Int32)), (.int (0 : Int32)), (.int (0 : Int32)), (.int (0 : Int32)), (.int (0 : Int32)), (.int (0 : Int32)), (.int (0 : Int32))] (.int (0 : Int32)) := (Arv.new A7 (by decide)).pad (pad_rep [] (.int (0 : Int32)) 21)
  refine ⟨T7, h7, b7, k7, X7, e7, ⟨V_b7, E7, g7⟩, fun target kt => ?_⟩
  show Steps p.tables e below (T0.setTop (mkF m 228 #[s0, s1, s2, s3, s4, s5, s6, s7, s8, s9, s10, s11, s12, s13, s14, s15, s16, s17, s18, s19] [])) _
  refine XS.bipush X0.here hx rfl (hb hby at_228) ?_
  show Steps p.tables e below (T0.setTop (mkF m 230 #[s0, s1, s2, s3, s4, s5, s6, s7, s8, s9, s10, s11, s12, s13, s14, s15, s16, s17, s18, s19] [(.int (21 : Int32))])) _
  refine st7 _ ?_
  show Steps p.tables e below (T7.setTop (mkF m 232 #[s0, s1, s2, s3, s4, s5, s6, s7, s8, s9, s10, s11, s12, s13, s14, s15, s16, s17, s18, s19] [(.ref b7)])) _
  refine XS.astore X7.here hx rfl (hb hby at_232) rfl rfl (l' := #[s0, s1, s2, s3, s4, s5, s6, s7, s8, s9, s10, s11, s12, s13, s14, s15, s16, .val (.ref b7), s18, s19]) (os0_232_228 hs17) ?_
  exact kt
theorem pd_0_0 : parseMethodDescriptor "(IIIJIZBB[J)B" = some ⟨[.int, .int, .int, .long, .int, .boolean, .byte, .byte, (.array .long)], some .byte⟩ := by decide +kernel
set_option maxRecDepth 65536 in
set_option maxHeartbeats 40000000 in
theorem tn0_234_258 {p : Program} {l : Launch} {e : Env} {s : State} {m : MethodId} {args : Array Value} {below : List Frame} {meth : Method} {c : Code} {T0 : State} {locs : List Loc} {Z : State} {a0 : Array Value} {h0 : Heap} (s0 : Slot) (s1 : Slot) (s2 : Slot) (s3 : Slot) (s4 : Slot) (s5 : Slot) (s6 : Slot) (o7 : Addr) (j8 : Int64) (i10 : Int32) (i11 : Int32) (i12 : Int32) (i13 : Int32) (s14 : Slot) (i15 : Int32) (i16 : Int32) (o17 : Addr) (s18 : Slot) (s19 : Slot) (n0 : Nat) (kb kP : ClassId) (vs : List Value)
    (X0 : Stand p l e room_1 s m args below meth c T0 locs 2 40) (hx : p.tables.exec = Jvm.exec) (hZ : Z.Warmed39 s.vm) (hw : ∀ d ∈ tables_1, d.before a0 Z = true) (hby : c.code = code) (hml : c.maxLocals = 20) (hown : s.vm.findClass "quotewarden/NumbersWholeNumberPinLaw" = some m.cls) (e0 : T0.heap = h0) (N0 : Fr n0 locs) (Z0 : n0 ≤ h0.size) (V : Arv Z h0 o17 kb .byte (21 : Int32) vs (.int (0 : Int32))) (hvs : vs.length = 21) (P : Arv Z h0 o7 kP .long (19 : Int32) (own_P.map Value.long) (.long (0 : Int64))) (ne : o7 ≠ o17) (g_o17 : n0 ≤ o17) (h19 : i10.toInt ≤ 19) :
    ∃ (T' : State) (h' : Heap) (L' : List Loc), Stand p l e room_1 s m args below meth c T' L' 2 40 ∧ T'.heap = h' ∧ (Fr n0 L' ∧ n0 ≤ h'.size ∧ Arv Z h' o17 kb .byte (21 : Int32) (vs.set 0 (.int (own_cell (0 : Int32) i11 i10 j8 i13 i12 i15 i16).toInt8.toInt32)) (.int (0 : Int32)) ∧ Arv Z h' o7 kP .long (19 : Int32) (own_P.map Value.long) (.long (0 : Int64))) ∧
      ∀ target, Steps p.tables e below (T'.setTop (mkF m 258 #[s0, s1, s2, s3, s4, s5, s6, .val (.ref o7), .val (.long j8), .second, .val (.int i10), .val (.int i11), .val (.int i12), .val (.int i13), s14, .val (.int i15), .val (.int i16), .val (.ref o17), s18, s19] [])) target → Steps p.tables e below (T0.setTop (mkF m 234 #[s0, s1, s2, s3, s4, s5, s6, .val (.ref o7), .val (.long j8), .second, .val (.int i10), .val (.int i11), .val (.int i12), .val (.int i13), s14, .val (.int i15), .val (.int i16), .val (.ref o17), s18, s19] [])) target := by
  obtain ⟨_, _, ⟨T7, L7, k7, n7⟩, -, X7, ⟨Lc7, hQ7, l7, y7, z7⟩, st7⟩ := Jvm.LawKit.callS X0 hx (y := (⟨"quotewarden/NumbersWholeNumberPinLaw", "cell", "(IIIJIZBB[J)B"⟩ : MethodName)) hown (mvT hZ (hw _ (List.mem_of_getElem? (i := 22) rfl))) (mvT hZ (hw _ (List.mem_of_getElem? (i := 23) rfl))) (mvT hZ (hw _ (List.mem_of_getElem? (i := 24) rfl))) (mvT hZ (hw _ (List.mem_of_getElem? (i := 25) rfl))) (by decide) (backOf (W := 2) (rm1 l Z a0 hw [] (0 : Int32) i11 i10 j8 i13 i12 i15 i16 o7  h0 n0 Z0 kP P h19) hZ (hw _ (List.mem_of_getElem? (i := 25) rfl)) (hw _ (List.mem_of_getElem? (i := 24) rfl)) (by decide) (by decide)) (g := (mkF m 254 #[s0, s1, s2, s3, s4, s5, s6, .val (.ref o7), .val (.long j8), .second, .val (.int i10), .val (.int i11), .val (.int i12), .val (.int i13), s14, .val (.int i15), .val (.int i16), .val (.ref o17), s18, s19] [(.ref o7), (.int i16), (.int i15), (.int i12), (.int i13), (.long j8), (.int i10), (.int i11), (.int (0 : Int32)), (.int (0 : Int32)), (.ref o17)])) rfl (by rw [hml]; rfl) (argsL := [(.int (0 : Int32)), (.int i11), (.int i10), (.long j8), (.int i13), (.int i12), (.int i15), (.int i16), (.ref o7)]) (rest := [(.int (0 : Int32)), (.ref o17)]) (lenOf pd_0_0 rfl) rfl (by show 2 * 0 + _ ≤ _; exact Nat.le_of_eq rfl) (hb hby at_254) (fun _ _ => ⟨rfl, e0, (by decide : 2 + 0 ≤ _), (by decide : 40 + 0 ≤ _)⟩)
  dsimp only [Pt.U, Pt.locs, Pt.cells, Pt.slots] at X7 l7 y7 z7 st7 hQ7
  subst l7 y7 z7
  obtain ⟨rfl, N7q, e7q⟩ := hQ7
  have N7 := Fr.app N0 N7q
  obtain ⟨cl_o17, Ar_o17, q_o17, S_o17, N_o17, H_o17, G_o17⟩ := V
  have hin257 : ¬ ((0 : Int32) < 0 ∨ cl_o17.slots.size ≤ ((0 : Int32)).toNatClampNeg) := inb_of S_o17 ⟨by decide, by decide⟩
  obtain ⟨T8, h8, X8, e8, W8, st8⟩ := stB X7 hx hZ e7q Ar_o17 (j := (0 : Int32)) hin257 (g := (mkF m 257 #[s0, s1, s2, s3, s4, s5, s6, .val (.ref o7), .val (.long j8), .second, .val (.int i10), .val (.int i11), .val (.int i12), .val (.int i13), s14, .val (.int i15), .val (.int i16), .val (.ref o17), s18, s19] [(.int (own_cell (0 : Int32) i11 i10 j8 i13 i12 i15 i16)), (.int (0 : Int32)), (.ref o17)])) rfl rfl (hb hby at_257)
  have N8 := Fr.snoc X8 N7 g_o17
  refine ⟨T8, h8, _, X8, e8, ⟨N8, Nat.le_trans Z0 (Nat.le_of_eq W8.size.symm), Arv.set Ar_o17 q_o17 S_o17 N_o17 H_o17 G_o17 (fits_nar_byte _) W8 0 rfl (by omega), P.other W8 ne⟩, fun target kt => ?_⟩
  show Steps p.tables e below (T0.setTop (mkF m 234 #[s0, s1, s2, s3, s4, s5, s6, .val (.ref o7), .val (.long j8), .second, .val (.int i10), .val (.int i11), .val (.int i12), .val (.int i13), s14, .val (.int i15), .val (.int i16), .val (.ref o17), s18, s19] [])) _
  refine XS.aload X0.here hx rfl (hb hby at_234) rfl rfl ?_
  show Steps p.tables e below (T0.setTop (mkF m 236 #[s0, s1, s2, s3, s4, s5, s6, .val (.ref o7), .val (.long j8), .second, .val (.int i10), .val (.int i11), .val (.int i12), .val (.int i13), s14, .val (.int i15), .val (.int i16), .val (.ref o17), s18, s19] [(.ref o17)])) _
  refine XS.iconst X0.here hx rfl (hb hby at_236) ?_
  show Steps p.tables e below (T0.setTop (mkF m 237 #[s0, s1, s2, s3, s4, s5, s6, .val (.ref o7), .val (.long j8), .second, .val (.int i10), .val (.int i11), .val (.int i12), .val (.int i13), s14, .val (.int i15), .val (.int i16), .val (.ref o17), s18, s19] [(.int (0 : Int32)), (.ref o17)])) _
  refine XS.iconst X0.here hx rfl (hb hby at_237) ?_
  show Steps p.tables e below (T0.setTop (mkF m 238 #[s0, s1, s2, s3, s4, s5, s6, .val (.ref o7), .val (.long j8), .second, .val (.int i10), .val (.int i11), .val (.int i12), .val (.int i13), s14, .val (.int i15), .val (.int i16), .val (.ref o17), s18, s19] [(.int (0 : Int32)), (.int (0 : Int32)), (.ref o17)])) _
  refine XS.iload X0.here hx rfl (hb hby at_238) rfl ?_
  show Steps p.tables e below (T0.setTop (mkF m 240 #[s0, s1, s2, s3, s4, s5, s6, .val (.ref o7), .val (.long j8), .second, .val (.int i10), .val (.int i11), .val (.int i12), .val (.int i13), s14, .val (.int i15), .val (.int i16), .val (.ref o17), s18, s19] [(.int i11), (.int (0 : Int32)), (.int (0 : Int32)), (.ref o17)])) _
  refine XS.iload X0.here hx rfl (hb hby at_240) rfl ?_
  show Steps p.tables e below (T0.setTop (mkF m 242 #[s0, s1, s2, s3, s4, s5, s6, .val (.ref o7), .val (.long j8), .second, .val (.int i10), .val (.int i11), .val (.int i12), .val (.int i13), s14, .val (.int i15), .val (.int i16), .val (.ref o17), s18, s19] [(.int i10), (.int i11), (.int (0 : Int32)), (.int (0 : Int32)), (.ref o17)])) _
  refine XS.lload X0.here hx rfl (hb hby at_242) rfl ?_
  show Steps p.tables e below (T0.setTop (mkF m 244 #[s0, s1, s2, s3, s4, s5, s6, .val (.ref o7), .val (.long j8), .second, .val (.int i10), .val (.int i11), .val (.int i12), .val (.int i13), s14, .val (.int i15), .val (.int i16), .val (.ref o17), s18, s19] [(.long j8), (.int i10), (.int i11), (.int (0 : Int32)), (.int (0 : Int32)), (.ref o17)])) _
  refine XS.iload X0.here hx rfl (hb hby at_244) rfl ?_
  show Steps p.tables e below (T0.setTop (mkF m 246 #[s0, s1, s2, s3, s4, s5, s6, .val (.ref o7), .val (.long j8), .second, .val (.int i10), .val (.int i11), .val (.int i12), .val (.int i13), s14, .val (.int i15), .val (.int i16), .val (.ref o17), s18, s19] [(.int i13), (.long j8), (.int i10), (.int i11), (.int (0 : Int32)), (.int (0 : Int32)), (.ref o17)])) _
  refine XS.iload X0.here hx rfl (hb hby at_246) rfl ?_
  show Steps p.tables e below (T0.setTop (mkF m 248 #[s0, s1, s2, s3, s4, s5, s6, .val (.ref o7), .val (.long j8), .second, .val (.int i10), .val (.int i11), .val (.int i12), .val (.int i13), s14, .val (.int i15), .val (.int i16), .val (.ref o17), s18, s19] [(.int i12), (.int i13), (.long j8), (.int i10), (.int i11), (.int (0 : Int32)), (.int (0 : Int32)), (.ref o17)])) _
  refine XS.iload X0.here hx rfl (hb hby at_248) rfl ?_
  show Steps p.tables e below (T0.setTop (mkF m 250 #[s0, s1, s2, s3, s4, s5, s6, .val (.ref o7), .val (.long j8), .second, .val (.int i10), .val (.int i11), .val (.int i12), .val (.int i13), s14, .val (.int i15), .val (.int i16), .val (.ref o17), s18, s19] [(.int i15), (.int i12), (.int i13), (.long j8), (.int i10), (.int i11), (.int (0 : Int32)), (.int (0 : Int32)), (.ref o17)])) _
  refine XS.iload X0.here hx rfl (hb hby at_250) rfl ?_
  show Steps p.tables e below (T0.setTop (mkF m 252 #[s0, s1, s2, s3, s4, s5, s6, .val (.ref o7), .val (.long j8), .second, .val (.int i10), .val (.int i11), .val (.int i12), .val (.int i13), s14, .val (.int i15), .val (.int i16), .val (.ref o17), s18, s19] [(.int i16), (.int i15), (.int i12), (.int i13), (.long j8), (.int i10), (.int i11), (.int (0 : Int32)), (.int (0 : Int32)), (.ref o17)])) _
  refine XS.aload X0.here hx rfl (hb hby at_252) rfl rfl ?_
  show Steps p.tables e below (T0.setTop (mkF m 254 #[s0, s1, s2, s3, s4, s5, s6, .val (.ref o7), .val (.long j8), .second, .val (.int i10), .val (.int i11), .val (.int i12), .val (.int i13), s14, .val (.int i15), .val (.int i16), .val (.ref o17), s18, s19] [(.ref o7), (.int i16), (.int i15), (.int i12), (.int i13), (.long j8), (.int i10), (.int i11), (.int (0 : Int32)), (.int (0 : Int32)), (.ref o17)])) _
  refine st7 _ ?_
  show Steps p.tables e below (T7.setTop (mkF m 257 #[s0, s1, s2, s3, s4, s5, s6, .val (.ref o7), .val (.long j8), .second, .val (.int i10), .val (.int i11), .val (.int i12), .val (.int i13), s14, .val (.int i15), .val (.int i16), .val (.ref o17), s18, s19] [(.int (own_cell (0 : Int32) i11 i10 j8 i13 i12 i15 i16)), (.int (0 : Int32)), (.ref o17)])) _
  refine st8 _ ?_
  exact kt
set_option maxRecDepth 65536 in
set_option maxHeartbeats 40000000 in
theorem tn0_258_282 {p : Program} {l : Launch} {e : Env} {s : State} {m : MethodId} {args : Array Value} {below : List Frame} {meth : Method} {c : Code} {T0 : State} {locs : List Loc} {Z : State} {a0 : Array Value} {h0 : Heap} (s0 : Slot) (s1 : Slot) (s2 : Slot) (s3 : Slot) (s4 : Slot) (s5 : Slot) (s6 : Slot) (o7 : Addr) (j8 : Int64) (i10 : Int32) (i11 : Int32) (i12 : Int32) (i13 : Int32) (s14 : Slot) (i15 : Int32) (i16 : Int32) (o17 : Addr) (s18 : Slot) (s19 : Slot) (n0 : Nat) (kb kP : ClassId) (vs : List Value)
    (X0 : Stand p l e room_1 s m args below meth c T0 locs 2 40) (hx : p.tables.exec = Jvm.exec) (hZ : Z.Warmed39 s.vm) (hw : ∀ d ∈ tables_1, d.before a0 Z = true) (hby : c.code = code) (hml : c.maxLocals = 20) (hown : s.vm.findClass "quotewarden/NumbersWholeNumberPinLaw" = some m.cls) (e0 : T0.heap = h0) (N0 : Fr n0 locs) (Z0 : n0 ≤ h0.size) (V : Arv Z h0 o17 kb .byte (21 : Int32) vs (.int (0 : Int32))) (hvs : vs.length = 21) (P : Arv Z h0 o7 kP .long (19 : Int32) (own_P.map Value.long) (.long (0 : Int64))) (ne : o7 ≠ o17) (g_o17 : n0 ≤ o17) (h19 : i10.toInt ≤ 19) :
    ∃ (T' : State) (h' : Heap) (L' : List Loc), Stand p l e room_1 s m args below meth c T' L' 2 40 ∧ T'.heap = h' ∧ (Fr n0 L' ∧ n0 ≤ h'.size ∧ Arv Z h' o17 kb .byte (21 : Int32) (vs.set 1 (.int (own_cell (1 : Int32) i11 i10 j8 i13 i12 i15 i16).toInt8.toInt32)) (.int (0 : Int32)) ∧ Arv Z h' o7 kP .long (19 : Int32) (own_P.map Value.long) (.long (0 : Int64))) ∧
      ∀ target, Steps p.tables e below (T'.setTop (mkF m 282 #[s0, s1, s2, s3, s4, s5, s6, .val (.ref o7), .val (.long j8), .second, .val (.int i10), .val (.int i11), .val (.int i12), .val (.int i13), s14, .val (.int i15), .val (.int i16), .val (.ref o17), s18, s19] [])) target → Steps p.tables e below (T0.setTop (mkF m 258 #[s0, s1, s2, s3, s4, s5, s6, .val (.ref o7), .val (.long j8), .second, .val (.int i10), .val (.int i11), .val (.int i12), .val (.int i13), s14, .val (.int i15), .val (.int i16), .val (.ref o17), s18, s19] [])) target := by
  obtain ⟨_, _, ⟨T7, L7, k7, n7⟩, -, X7, ⟨Lc7, hQ7, l7, y7, z7⟩, st7⟩ := Jvm.LawKit.callS X0 hx (y := (⟨"quotewarden/NumbersWholeNumberPinLaw", "cell", "(IIIJIZBB[J)B"⟩ : MethodName)) hown (mvT hZ (hw _ (List.mem_of_getElem? (i := 22) rfl))) (mvT hZ (hw _ (List.mem_of_getElem? (i := 23) rfl))) (mvT hZ (hw _ (List.mem_of_getElem? (i := 24) rfl))) (mvT hZ (hw _ (List.mem_of_getElem? (i := 25) rfl))) (by decide) (backOf (W := 2) (rm1 l Z a0 hw [] (1 : Int32) i11 i10 j8 i13 i12 i15 i16 o7  h0 n0 Z0 kP P h19) hZ (hw _ (List.mem_of_getElem? (i := 25) rfl)) (hw _ (List.mem_of_getElem? (i := 24) rfl)) (by decide) (by decide)) (g := (mkF m 278 #[s0, s1, s2, s3, s4, s5, s6, .val (.ref o7), .val (.long j8), .second, .val (.int i10), .val (.int i11), .val (.int i12), .val (.int i13), s14, .val (.int i15), .val (.int i16), .val (.ref o17), s18, s19] [(.ref o7), (.int i16), (.int i15), (.int i12), (.int i13), (.long j8), (.int i10), (.int i11), (.int (1 : Int32)), (.int (1 : Int32)), (.ref o17)])) rfl (by rw [hml]; rfl) (argsL := [(.int (1 : Int32)), (.int i11), (.int i10), (.long j8), (.int i13), (.int i12), (.int i15), (.int i16), (.ref o7)]) (rest := [(.int (1 : Int32)), (.ref o17)]) (lenOf pd_0_0 rfl) rfl (by show 2 * 0 + _ ≤ _; exact Nat.le_of_eq rfl) (hb hby at_278) (fun _ _ => ⟨rfl, e0, (by decide : 2 + 0 ≤ _), (by decide : 40 + 0 ≤ _)⟩)
  dsimp only [Pt.U, Pt.locs, Pt.cells, Pt.slots] at X7 l7 y7 z7 st7 hQ7
  subst l7 y7 z7
  obtain ⟨rfl, N7q, e7q⟩ := hQ7
  have N7 := Fr.app N0 N7q
  obtain ⟨cl_o17, Ar_o17, q_o17, S_o17, N_o17, H_o17, G_o17⟩ := V
  have hin281 : ¬ ((1 : Int32) < 0 ∨ cl_o17.slots.size ≤ ((1 : Int32)).toNatClampNeg) := inb_of S_o17 ⟨by decide, by decide⟩
  obtain ⟨T8, h8, X8, e8, W8, st8⟩ := stB X7 hx hZ e7q Ar_o17 (j := (1 : Int32)) hin281 (g := (mkF m 281 #[s0, s1, s2, s3, s4, s5, s6, .val (.ref o7), .val (.long j8), .second, .val (.int i10), .val (.int i11), .val (.int i12), .val (.int i13), s14, .val (.int i15), .val (.int i16), .val (.ref o17), s18, s19] [(.int (own_cell (1 : Int32) i11 i10 j8 i13 i12 i15 i16)), (.int (1 : Int32)), (.ref o17)])) rfl rfl (hb hby at_281)
  have N8 := Fr.snoc X8 N7 g_o17
  refine ⟨T8, h8, _, X8, e8, ⟨N8, Nat.le_trans Z0 (Nat.le_of_eq W8.size.symm), Arv.set Ar_o17 q_o17 S_o17 N_o17 H_o17 G_o17 (fits_nar_byte _) W8 1 rfl (by omega), P.other W8 ne⟩, fun target kt => ?_⟩
  show Steps p.tables e below (T0.setTop (mkF m 258 #[s0, s1, s2, s3, s4, s5, s6, .val (.ref o7), .val (.long j8), .second, .val (.int i10), .val (.int i11), .val (.int i12), .val (.int i13), s14, .val (.int i15), .val (.int i16), .val (.ref o17), s18, s19] [])) _
  refine XS.aload X0.here hx rfl (hb hby at_258) rfl rfl ?_
  show Steps p.tables e below (T0.setTop (mkF m 260 #[s0, s1, s2, s3, s4, s5, s6, .val (.ref o7), .val (.long j8), .second, .val (.int i10), .val (.int i11), .val (.int i12), .val (.int i13), s14, .val (.int i15), .val (.int i16), .val (.ref o17), s18, s19] [(.ref o17)])) _
  refine XS.iconst X0.here hx rfl (hb hby at_260) ?_
  show Steps p.tables e below (T0.setTop (mkF m 261 #[s0, s1, s2, s3, s4, s5, s6, .val (.ref o7), .val (.long j8), .second, .val (.int i10), .val (.int i11), .val (.int i12), .val (.int i13), s14, .val (.int i15), .val (.int i16), .val (.ref o17), s18, s19] [(.int (1 : Int32)), (.ref o17)])) _
  refine XS.iconst X0.here hx rfl (hb hby at_261) ?_
  show Steps p.tables e below (T0.setTop (mkF m 262 #[s0, s1, s2, s3, s4, s5, s6, .val (.ref o7), .val (.long j8), .second, .val (.int i10), .val (.int i11), .val (.int i12), .val (.int i13), s14, .val (.int i15), .val (.int i16), .val (.ref o17), s18, s19] [(.int (1 : Int32)), (.int (1 : Int32)), (.ref o17)])) _
  refine XS.iload X0.here hx rfl (hb hby at_262) rfl ?_
  show Steps p.tables e below (T0.setTop (mkF m 264 #[s0, s1, s2, s3, s4, s5, s6, .val (.ref o7), .val (.long j8), .second, .val (.int i10), .val (.int i11), .val (.int i12), .val (.int i13), s14, .val (.int i15), .val (.int i16), .val (.ref o17), s18, s19] [(.int i11), (.int (1 : Int32)), (.int (1 : Int32)), (.ref o17)])) _
  refine XS.iload X0.here hx rfl (hb hby at_264) rfl ?_
  show Steps p.tables e below (T0.setTop (mkF m 266 #[s0, s1, s2, s3, s4, s5, s6, .val (.ref o7), .val (.long j8), .second, .val (.int i10), .val (.int i11), .val (.int i12), .val (.int i13), s14, .val (.int i15), .val (.int i16), .val (.ref o17), s18, s19] [(.int i10), (.int i11), (.int (1 : Int32)), (.int (1 : Int32)), (.ref o17)])) _
  refine XS.lload X0.here hx rfl (hb hby at_266) rfl ?_
  show Steps p.tables e below (T0.setTop (mkF m 268 #[s0, s1, s2, s3, s4, s5, s6, .val (.ref o7), .val (.long j8), .second, .val (.int i10), .val (.int i11), .val (.int i12), .val (.int i13), s14, .val (.int i15), .val (.int i16), .val (.ref o17), s18, s19] [(.long j8), (.int i10), (.int i11), (.int (1 : Int32)), (.int (1 : Int32)), (.ref o17)])) _
  refine XS.iload X0.here hx rfl (hb hby at_268) rfl ?_
  show Steps p.tables e below (T0.setTop (mkF m 270 #[s0, s1, s2, s3, s4, s5, s6, .val (.ref o7), .val (.long j8), .second, .val (.int i10), .val (.int i11), .val (.int i12), .val (.int i13), s14, .val (.int i15), .val (.int i16), .val (.ref o17), s18, s19] [(.int i13), (.long j8), (.int i10), (.int i11), (.int (1 : Int32)), (.int (1 : Int32)), (.ref o17)])) _
  refine XS.iload X0.here hx rfl (hb hby at_270) rfl ?_
  show Steps p.tables e below (T0.setTop (mkF m 272 #[s0, s1, s2, s3, s4, s5, s6, .val (.ref o7), .val (.long j8), .second, .val (.int i10), .val (.int i11), .val (.int i12), .val (.int i13), s14, .val (.int i15), .val (.int i16), .val (.ref o17), s18, s19] [(.int i12), (.int i13), (.long j8), (.int i10), (.int i11), (.int (1 : Int32)), (.int (1 : Int32)), (.ref o17)])) _
  refine XS.iload X0.here hx rfl (hb hby at_272) rfl ?_
  show Steps p.tables e below (T0.setTop (mkF m 274 #[s0, s1, s2, s3, s4, s5, s6, .val (.ref o7), .val (.long j8), .second, .val (.int i10), .val (.int i11), .val (.int i12), .val (.int i13), s14, .val (.int i15), .val (.int i16), .val (.ref o17), s18, s19] [(.int i15), (.int i12), (.int i13), (.long j8), (.int i10), (.int i11), (.int (1 : Int32)), (.int (1 : Int32)), (.ref o17)])) _
  refine XS.iload X0.here hx rfl (hb hby at_274) rfl ?_
  show Steps p.tables e below (T0.setTop (mkF m 276 #[s0, s1, s2, s3, s4, s5, s6, .val (.ref o7), .val (.long j8), .second, .val (.int i10), .val (.int i11), .val (.int i12), .val (.int i13), s14, .val (.int i15), .val (.int i16), .val (.ref o17), s18, s19] [(.int i16), (.int i15), (.int i12), (.int i13), (.long j8), (.int i10), (.int i11), (.int (1 : Int32)), (.int (1 : Int32)), (.ref o17)])) _
  refine XS.aload X0.here hx rfl (hb hby at_276) rfl rfl ?_
  show Steps p.tables e below (T0.setTop (mkF m 278 #[s0, s1, s2, s3, s4, s5, s6, .val (.ref o7), .val (.long j8), .second, .val (.int i10), .val (.int i11), .val (.int i12), .val (.int i13), s14, .val (.int i15), .val (.int i16), .val (.ref o17), s18, s19] [(.ref o7), (.int i16), (.int i15), (.int i12), (.int i13), (.long j8), (.int i10), (.int i11), (.int (1 : Int32)), (.int (1 : Int32)), (.ref o17)])) _
  refine st7 _ ?_
  show Steps p.tables e below (T7.setTop (mkF m 281 #[s0, s1, s2, s3, s4, s5, s6, .val (.ref o7), .val (.long j8), .second, .val (.int i10), .val (.int i11), .val (.int i12), .val (.int i13), s14, .val (.int i15), .val (.int i16), .val (.ref o17), s18, s19] [(.int (own_cell (1 : Int32) i11 i10 j8 i13 i12 i15 i16)), (.int (1 : Int32)), (.ref o17)])) _
  refine st8 _ ?_
  exact kt
set_option maxRecDepth 65536 in
set_option maxHeartbeats 40000000 in
theorem tn0_282_306 {p : Program} {l : Launch} {e : Env} {s : State} {m : MethodId} {args : Array Value} {below : List Frame} {meth : Method} {c : Code} {T0 : State} {locs : List Loc} {Z : State} {a0 : Array Value} {h0 : Heap} (s0 : Slot) (s1 : Slot) (s2 : Slot) (s3 : Slot) (s4 : Slot) (s5 : Slot) (s6 : Slot) (o7 : Addr) (j8 : Int64) (i10 : Int32) (i11 : Int32) (i12 : Int32) (i13 : Int32) (s14 : Slot) (i15 : Int32) (i16 : Int32) (o17 : Addr) (s18 : Slot) (s19 : Slot) (n0 : Nat) (kb kP : ClassId) (vs : List Value)
    (X0 : Stand p l e room_1 s m args below meth c T0 locs 2 40) (hx : p.tables.exec = Jvm.exec) (hZ : Z.Warmed39 s.vm) (hw : ∀ d ∈ tables_1, d.before a0 Z = true) (hby : c.code = code) (hml : c.maxLocals = 20) (hown : s.vm.findClass "quotewarden/NumbersWholeNumberPinLaw" = some m.cls) (e0 : T0.heap = h0) (N0 : Fr n0 locs) (Z0 : n0 ≤ h0.size) (V : Arv Z h0 o17 kb .byte (21 : Int32) vs (.int (0 : Int32))) (hvs : vs.length = 21) (P : Arv Z h0 o7 kP .long (19 : Int32) (own_P.map Value.long) (.long (0 : Int64))) (ne : o7 ≠ o17) (g_o17 : n0 ≤ o17) (h19 : i10.toInt ≤ 19) :
    ∃ (T' : State) (h' : Heap) (L' : List Loc), Stand p l e room_1 s m args below meth c T' L' 2 40 ∧ T'.heap = h' ∧ (Fr n0 L' ∧ n0 ≤ h'.size ∧ Arv Z h' o17 kb .byte (21 : Int32) (vs.set 2 (.int (own_cell (2 : Int32) i11 i10 j8 i13 i12 i15 i16).toInt8.toInt32)) (.int (0 : Int32)) ∧ Arv Z h' o7 kP .long (19 : Int32) (own_P.map Value.long) (.long (0 : Int64))) ∧
      ∀ target, Steps p.tables e below (T'.setTop (mkF m 306 #[s0, s1, s2, s3, s4, s5, s6, .val (.ref o7), .val (.long j8), .second, .val (.int i10), .val (.int i11), .val (.int i12), .val (.int i13), s14, .val (.int i15), .val (.int i16), .val (.ref o17), s18, s19] [])) target → Steps p.tables e below (T0.setTop (mkF m 282 #[s0, s1, s2, s3, s4, s5, s6, .val (.ref o7), .val (.long j8), .second, .val (.int i10), .val (.int i11), .val (.int i12), .val (.int i13), s14, .val (.int i15), .val (.int i16), .val (.ref o17), s18, s19] [])) target := by
  obtain ⟨_, _, ⟨T7, L7, k7, n7⟩, -, X7, ⟨Lc7, hQ7, l7, y7, z7⟩, st7⟩ := Jvm.LawKit.callS X0 hx (y := (⟨"quotewarden/NumbersWholeNumberPinLaw", "cell", "(IIIJIZBB[J)B"⟩ : MethodName)) hown (mvT hZ (hw _ (List.mem_of_getElem? (i := 22) rfl))) (mvT hZ (hw _ (List.mem_of_getElem? (i := 23) rfl))) (mvT hZ (hw _ (List.mem_of_getElem? (i := 24) rfl))) (mvT hZ (hw _ (List.mem_of_getElem? (i := 25) rfl))) (by decide) (backOf (W := 2) (rm1 l Z a0 hw [] (2 : Int32) i11 i10 j8 i13 i12 i15 i16 o7  h0 n0 Z0 kP P h19) hZ (hw _ (List.mem_of_getElem? (i := 25) rfl)) (hw _ (List.mem_of_getElem? (i := 24) rfl)) (by decide) (by decide)) (g := (mkF m 302 #[s0, s1, s2, s3, s4, s5, s6, .val (.ref o7), .val (.long j8), .second, .val (.int i10), .val (.int i11), .val (.int i12), .val (.int i13), s14, .val (.int i15), .val (.int i16), .val (.ref o17), s18, s19] [(.ref o7), (.int i16), (.int i15), (.int i12), (.int i13), (.long j8), (.int i10), (.int i11), (.int (2 : Int32)), (.int (2 : Int32)), (.ref o17)])) rfl (by rw [hml]; rfl) (argsL := [(.int (2 : Int32)), (.int i11), (.int i10), (.long j8), (.int i13), (.int i12), (.int i15), (.int i16), (.ref o7)]) (rest := [(.int (2 : Int32)), (.ref o17)]) (lenOf pd_0_0 rfl) rfl (by show 2 * 0 + _ ≤ _; exact Nat.le_of_eq rfl) (hb hby at_302) (fun _ _ => ⟨rfl, e0, (by decide : 2 + 0 ≤ _), (by decide : 40 + 0 ≤ _)⟩)
  dsimp only [Pt.U, Pt.locs, Pt.cells, Pt.slots] at X7 l7 y7 z7 st7 hQ7
  subst l7 y7 z7
  obtain ⟨rfl, N7q, e7q⟩ := hQ7
  have N7 := Fr.app N0 N7q
  obtain ⟨cl_o17, Ar_o17, q_o17, S_o17, N_o17, H_o17, G_o17⟩ := V
  have hin305 : ¬ ((2 : Int32) < 0 ∨ cl_o17.slots.size ≤ ((2 : Int32)).toNatClampNeg) := inb_of S_o17 ⟨by decide, by decide⟩
  obtain ⟨T8, h8, X8, e8, W8, st8⟩ := stB X7 hx hZ e7q Ar_o17 (j := (2 : Int32)) hin305 (g := (mkF m 305 #[s0, s1, s2, s3, s4, s5, s6, .val (.ref o7), .val (.long j8), .second, .val (.int i10), .val (.int i11), .val (.int i12), .val (.int i13), s14, .val (.int i15), .val (.int i16), .val (.ref o17), s18, s19] [(.int (own_cell (2 : Int32) i11 i10 j8 i13 i12 i15 i16)), (.int (2 : Int32)), (.ref o17)])) rfl rfl (hb hby at_305)
  have N8 := Fr.snoc X8 N7 g_o17
  refine ⟨T8, h8, _, X8, e8, ⟨N8, Nat.le_trans Z0 (Nat.le_of_eq W8.size.symm), Arv.set Ar_o17 q_o17 S_o17 N_o17 H_o17 G_o17 (fits_nar_byte _) W8 2 rfl (by omega), P.other W8 ne⟩, fun target kt => ?_⟩
  show Steps p.tables e below (T0.setTop (mkF m 282 #[s0, s1, s2, s3, s4, s5, s6, .val (.ref o7), .val (.long j8), .second, .val (.int i10), .val (.int i11), .val (.int i12), .val (.int i13), s14, .val (.int i15), .val (.int i16), .val (.ref o17), s18, s19] [])) _
  refine XS.aload X0.here hx rfl (hb hby at_282) rfl rfl ?_
  show Steps p.tables e below (T0.setTop (mkF m 284 #[s0, s1, s2, s3, s4, s5, s6, .val (.ref o7), .val (.long j8), .second, .val (.int i10), .val (.int i11), .val (.int i12), .val (.int i13), s14, .val (.int i15), .val (.int i16), .val (.ref o17), s18, s19] [(.ref o17)])) _
  refine XS.iconst X0.here hx rfl (hb hby at_284) ?_
  show Steps p.tables e below (T0.setTop (mkF m 285 #[s0, s1, s2, s3, s4, s5, s6, .val (.ref o7), .val (.long j8), .second, .val (.int i10), .val (.int i11), .val (.int i12), .val (.int i13), s14, .val (.int i15), .val (.int i16), .val (.ref o17), s18, s19] [(.int (2 : Int32)), (.ref o17)])) _
  refine XS.iconst X0.here hx rfl (hb hby at_285) ?_
  show Steps p.tables e below (T0.setTop (mkF m 286 #[s0, s1, s2, s3, s4, s5, s6, .val (.ref o7), .val (.long j8), .second, .val (.int i10), .val (.int i11), .val (.int i12), .val (.int i13), s14, .val (.int i15), .val (.int i16), .val (.ref o17), s18, s19] [(.int (2 : Int32)), (.int (2 : Int32)), (.ref o17)])) _
  refine XS.iload X0.here hx rfl (hb hby at_286) rfl ?_
  show Steps p.tables e below (T0.setTop (mkF m 288 #[s0, s1, s2, s3, s4, s5, s6, .val (.ref o7), .val (.long j8), .second, .val (.int i10), .val (.int i11), .val (.int i12), .val (.int i13), s14, .val (.int i15), .val (.int i16), .val (.ref o17), s18, s19] [(.int i11), (.int (2 : Int32)), (.int (2 : Int32)), (.ref o17)])) _
  refine XS.iload X0.here hx rfl (hb hby at_288) rfl ?_
  show Steps p.tables e below (T0.setTop (mkF m 290 #[s0, s1, s2, s3, s4, s5, s6, .val (.ref o7), .val (.long j8), .second, .val (.int i10), .val (.int i11), .val (.int i12), .val (.int i13), s14, .val (.int i15), .val (.int i16), .val (.ref o17), s18, s19] [(.int i10), (.int i11), (.int (2 : Int32)), (.int (2 : Int32)), (.ref o17)])) _
  refine XS.lload X0.here hx rfl (hb hby at_290) rfl ?_
  show Steps p.tables e below (T0.setTop (mkF m 292 #[s0, s1, s2, s3, s4, s5, s6, .val (.ref o7), .val (.long j8), .second, .val (.int i10), .val (.int i11), .val (.int i12), .val (.int i13), s14, .val (.int i15), .val (.int i16), .val (.ref o17), s18, s19] [(.long j8), (.int i10), (.int i11), (.int (2 : Int32)), (.int (2 : Int32)), (.ref o17)])) _
  refine XS.iload X0.here hx rfl (hb hby at_292) rfl ?_
  show Steps p.tables e below (T0.setTop (mkF m 294 #[s0, s1, s2, s3, s4, s5, s6, .val (.ref o7), .val (.long j8), .second, .val (.int i10), .val (.int i11), .val (.int i12), .val (.int i13), s14, .val (.int i15), .val (.int i16), .val (.ref o17), s18, s19] [(.int i13), (.long j8), (.int i10), (.int i11), (.int (2 : Int32)), (.int (2 : Int32)), (.ref o17)])) _
  refine XS.iload X0.here hx rfl (hb hby at_294) rfl ?_
  show Steps p.tables e below (T0.setTop (mkF m 296 #[s0, s1, s2, s3, s4, s5, s6, .val (.ref o7), .val (.long j8), .second, .val (.int i10), .val (.int i11), .val (.int i12), .val (.int i13), s14, .val (.int i15), .val (.int i16), .val (.ref o17), s18, s19] [(.int i12), (.int i13), (.long j8), (.int i10), (.int i11), (.int (2 : Int32)), (.int (2 : Int32)), (.ref o17)])) _
  refine XS.iload X0.here hx rfl (hb hby at_296) rfl ?_
  show Steps p.tables e below (T0.setTop (mkF m 298 #[s0, s1, s2, s3, s4, s5, s6, .val (.ref o7), .val (.long j8), .second, .val (.int i10), .val (.int i11), .val (.int i12), .val (.int i13), s14, .val (.int i15), .val (.int i16), .val (.ref o17), s18, s19] [(.int i15), (.int i12), (.int i13), (.long j8), (.int i10), (.int i11), (.int (2 : Int32)), (.int (2 : Int32)), (.ref o17)])) _
  refine XS.iload X0.here hx rfl (hb hby at_298) rfl ?_
  show Steps p.tables e below (T0.setTop (mkF m 300 #[s0, s1, s2, s3, s4, s5, s6, .val (.ref o7), .val (.long j8), .second, .val (.int i10), .val (.int i11), .val (.int i12), .val (.int i13), s14, .val (.int i15), .val (.int i16), .val (.ref o17), s18, s19] [(.int i16), (.int i15), (.int i12), (.int i13), (.long j8), (.int i10), (.int i11), (.int (2 : Int32)), (.int (2 : Int32)), (.ref o17)])) _
  refine XS.aload X0.here hx rfl (hb hby at_300) rfl rfl ?_
  show Steps p.tables e below (T0.setTop (mkF m 302 #[s0, s1, s2, s3, s4, s5, s6, .val (.ref o7), .val (.long j8), .second, .val (.int i10), .val (.int i11), .val (.int i12), .val (.int i13), s14, .val (.int i15), .val (.int i16), .val (.ref o17), s18, s19] [(.ref o7), (.int i16), (.int i15), (.int i12), (.int i13), (.long j8), (.int i10), (.int i11), (.int (2 : Int32)), (.int (2 : Int32)), (.ref o17)])) _
  refine st7 _ ?_
  show Steps p.tables e below (T7.setTop (mkF m 305 #[s0, s1, s2, s3, s4, s5, s6, .val (.ref o7), .val (.long j8), .second, .val (.int i10), .val (.int i11), .val (.int i12), .val (.int i13), s14, .val (.int i15), .val (.int i16), .val (.ref o17), s18, s19] [(.int (own_cell (2 : Int32) i11 i10 j8 i13 i12 i15 i16)), (.int (2 : Int32)), (.ref o17)])) _
  refine st8 _ ?_
  exact kt
set_option maxRecDepth 65536 in
set_option maxHeartbeats 40000000 in
theorem tn0_306_330 {p : Program} {l : Launch} {e : Env} {s : State} {m : MethodId} {args : Array Value} {below : List Frame} {meth : Method} {c : Code} {T0 : State} {locs : List Loc} {Z : State} {a0 : Array Value} {h0 : Heap} (s0 : Slot) (s1 : Slot) (s2 : Slot) (s3 : Slot) (s4 : Slot) (s5 : Slot) (s6 : Slot) (o7 : Addr) (j8 : Int64) (i10 : Int32) (i11 : Int32) (i12 : Int32) (i13 : Int32) (s14 : Slot) (i15 : Int32) (i16 : Int32) (o17 : Addr) (s18 : Slot) (s19 : Slot) (n0 : Nat) (kb kP : ClassId) (vs : List Value)
    (X0 : Stand p l e room_1 s m args below meth c T0 locs 2 40) (hx : p.tables.exec = Jvm.exec) (hZ : Z.Warmed39 s.vm) (hw : ∀ d ∈ tables_1, d.before a0 Z = true) (hby : c.code = code) (hml : c.maxLocals = 20) (hown : s.vm.findClass "quotewarden/NumbersWholeNumberPinLaw" = some m.cls) (e0 : T0.heap = h0) (N0 : Fr n0 locs) (Z0 : n0 ≤ h0.size) (V : Arv Z h0 o17 kb .byte (21 : Int32) vs (.int (0 : Int32))) (hvs : vs.length = 21) (P : Arv Z h0 o7 kP .long (19 : Int32) (own_P.map Value.long) (.long (0 : Int64))) (ne : o7 ≠ o17) (g_o17 : n0 ≤ o17) (h19 : i10.toInt ≤ 19) :
    ∃ (T' : State) (h' : Heap) (L' : List Loc), Stand p l e room_1 s m args below meth c T' L' 2 40 ∧ T'.heap = h' ∧ (Fr n0 L' ∧ n0 ≤ h'.size ∧ Arv Z h' o17 kb .byte (21 : Int32) (vs.set 3 (.int (own_cell (3 : Int32) i11 i10 j8 i13 i12 i15 i16).toInt8.toInt32)) (.int (0 : Int32)) ∧ Arv Z h' o7 kP .long (19 : Int32) (own_P.map Value.long) (.long (0 : Int64))) ∧
      ∀ target, Steps p.tables e below (T'.setTop (mkF m 330 #[s0, s1, s2, s3, s4, s5, s6, .val (.ref o7), .val (.long j8), .second, .val (.int i10), .val (.int i11), .val (.int i12), .val (.int i13), s14, .val (.int i15), .val (.int i16), .val (.ref o17), s18, s19] [])) target → Steps p.tables e below (T0.setTop (mkF m 306 #[s0, s1, s2, s3, s4, s5, s6, .val (.ref o7), .val (.long j8), .second, .val (.int i10), .val (.int i11), .val (.int i12), .val (.int i13), s14, .val (.int i15), .val (.int i16), .val (.ref o17), s18, s19] [])) target := by
  obtain ⟨_, _, ⟨T7, L7, k7, n7⟩, -, X7, ⟨Lc7, hQ7, l7, y7, z7⟩, st7⟩ := Jvm.LawKit.callS X0 hx (y := (⟨"quotewarden/NumbersWholeNumberPinLaw", "cell", "(IIIJIZBB[J)B"⟩ : MethodName)) hown (mvT hZ (hw _ (List.mem_of_getElem? (i := 22) rfl))) (mvT hZ (hw _ (List.mem_of_getElem? (i := 23) rfl))) (mvT hZ (hw _ (List.mem_of_getElem? (i := 24) rfl))) (mvT hZ (hw _ (List.mem_of_getElem? (i := 25) rfl))) (by decide) (backOf (W := 2) (rm1 l Z a0 hw [] (3 : Int32) i11 i10 j8 i13 i12 i15 i16 o7  h0 n0 Z0 kP P h19) hZ (hw _ (List.mem_of_getElem? (i := 25) rfl)) (hw _ (List.mem_of_getElem? (i := 24) rfl)) (by decide) (by decide)) (g := (mkF m 326 #[s0, s1, s2, s3, s4, s5, s6, .val (.ref o7), .val (.long j8), .second, .val (.int i10), .val (.int i11), .val (.int i12), .val (.int i13), s14, .val (.int i15), .val (.int i16), .val (.ref o17), s18, s19] [(.ref o7), (.int i16), (.int i15), (.int i12), (.int i13), (.long j8), (.int i10), (.int i11), (.int (3 : Int32)), (.int (3 : Int32)), (.ref o17)])) rfl (by rw [hml]; rfl) (argsL := [(.int (3 : Int32)), (.int i11), (.int i10), (.long j8), (.int i13), (.int i12), (.int i15), (.int i16), (.ref o7)]) (rest := [(.int (3 : Int32)), (.ref o17)]) (lenOf pd_0_0 rfl) rfl (by show 2 * 0 + _ ≤ _; exact Nat.le_of_eq rfl) (hb hby at_326) (fun _ _ => ⟨rfl, e0, (by decide : 2 + 0 ≤ _), (by decide : 40 + 0 ≤ _)⟩)
  dsimp only [Pt.U, Pt.locs, Pt.cells, Pt.slots] at X7 l7 y7 z7 st7 hQ7
  subst l7 y7 z7
  obtain ⟨rfl, N7q, e7q⟩ := hQ7
  have N7 := Fr.app N0 N7q
  obtain ⟨cl_o17, Ar_o17, q_o17, S_o17, N_o17, H_o17, G_o17⟩ := V
  have hin329 : ¬ ((3 : Int32) < 0 ∨ cl_o17.slots.size ≤ ((3 : Int32)).toNatClampNeg) := inb_of S_o17 ⟨by decide, by decide⟩
  obtain ⟨T8, h8, X8, e8, W8, st8⟩ := stB X7 hx hZ e7q Ar_o17 (j := (3 : Int32)) hin329 (g := (mkF m 329 #[s0, s1, s2, s3, s4, s5, s6, .val (.ref o7), .val (.long j8), .second, .val (.int i10), .val (.int i11), .val (.int i12), .val (.int i13), s14, .val (.int i15), .val (.int i16), .val (.ref o17), s18, s19] [(.int (own_cell (3 : Int32) i11 i10 j8 i13 i12 i15 i16)), (.int (3 : Int32)), (.ref o17)])) rfl rfl (hb hby at_329)
  have N8 := Fr.snoc X8 N7 g_o17
  refine ⟨T8, h8, _, X8, e8, ⟨N8, Nat.le_trans Z0 (Nat.le_of_eq W8.size.symm), Arv.set Ar_o17 q_o17 S_o17 N_o17 H_o17 G_o17 (fits_nar_byte _) W8 3 rfl (by omega), P.other W8 ne⟩, fun target kt => ?_⟩
  show Steps p.tables e below (T0.setTop (mkF m 306 #[s0, s1, s2, s3, s4, s5, s6, .val (.ref o7), .val (.long j8), .second, .val (.int i10), .val (.int i11), .val (.int i12), .val (.int i13), s14, .val (.int i15), .val (.int i16), .val (.ref o17), s18, s19] [])) _
  refine XS.aload X0.here hx rfl (hb hby at_306) rfl rfl ?_
  show Steps p.tables e below (T0.setTop (mkF m 308 #[s0, s1, s2, s3, s4, s5, s6, .val (.ref o7), .val (.long j8), .second, .val (.int i10), .val (.int i11), .val (.int i12), .val (.int i13), s14, .val (.int i15), .val (.int i16), .val (.ref o17), s18, s19] [(.ref o17)])) _
  refine XS.iconst X0.here hx rfl (hb hby at_308) ?_
  show Steps p.tables e below (T0.setTop (mkF m 309 #[s0, s1, s2, s3, s4, s5, s6, .val (.ref o7), .val (.long j8), .second, .val (.int i10), .val (.int i11), .val (.int i12), .val (.int i13), s14, .val (.int i15), .val (.int i16), .val (.ref o17), s18, s19] [(.int (3 : Int32)), (.ref o17)])) _
  refine XS.iconst X0.here hx rfl (hb hby at_309) ?_
  show Steps p.tables e below (T0.setTop (mkF m 310 #[s0, s1, s2, s3, s4, s5, s6, .val (.ref o7), .val (.long j8), .second, .val (.int i10), .val (.int i11), .val (.int i12), .val (.int i13), s14, .val (.int i15), .val (.int i16), .val (.ref o17), s18, s19] [(.int (3 : Int32)), (.int (3 : Int32)), (.ref o17)])) _
  refine XS.iload X0.here hx rfl (hb hby at_310) rfl ?_
  show Steps p.tables e below (T0.setTop (mkF m 312 #[s0, s1, s2, s3, s4, s5, s6, .val (.ref o7), .val (.long j8), .second, .val (.int i10), .val (.int i11), .val (.int i12), .val (.int i13), s14, .val (.int i15), .val (.int i16), .val (.ref o17), s18, s19] [(.int i11), (.int (3 : Int32)), (.int (3 : Int32)), (.ref o17)])) _
  refine XS.iload X0.here hx rfl (hb hby at_312) rfl ?_
  show Steps p.tables e below (T0.setTop (mkF m 314 #[s0, s1, s2, s3, s4, s5, s6, .val (.ref o7), .val (.long j8), .second, .val (.int i10), .val (.int i11), .val (.int i12), .val (.int i13), s14, .val (.int i15), .val (.int i16), .val (.ref o17), s18, s19] [(.int i10), (.int i11), (.int (3 : Int32)), (.int (3 : Int32)), (.ref o17)])) _
  refine XS.lload X0.here hx rfl (hb hby at_314) rfl ?_
  show Steps p.tables e below (T0.setTop (mkF m 316 #[s0, s1, s2, s3, s4, s5, s6, .val (.ref o7), .val (.long j8), .second, .val (.int i10), .val (.int i11), .val (.int i12), .val (.int i13), s14, .val (.int i15), .val (.int i16), .val (.ref o17), s18, s19] [(.long j8), (.int i10), (.int i11), (.int (3 : Int32)), (.int (3 : Int32)), (.ref o17)])) _
  refine XS.iload X0.here hx rfl (hb hby at_316) rfl ?_
  show Steps p.tables e below (T0.setTop (mkF m 318 #[s0, s1, s2, s3, s4, s5, s6, .val (.ref o7), .val (.long j8), .second, .val (.int i10), .val (.int i11), .val (.int i12), .val (.int i13), s14, .val (.int i15), .val (.int i16), .val (.ref o17), s18, s19] [(.int i13), (.long j8), (.int i10), (.int i11), (.int (3 : Int32)), (.int (3 : Int32)), (.ref o17)])) _
  refine XS.iload X0.here hx rfl (hb hby at_318) rfl ?_
  show Steps p.tables e below (T0.setTop (mkF m 320 #[s0, s1, s2, s3, s4, s5, s6, .val (.ref o7), .val (.long j8), .second, .val (.int i10), .val (.int i11), .val (.int i12), .val (.int i13), s14, .val (.int i15), .val (.int i16), .val (.ref o17), s18, s19] [(.int i12), (.int i13), (.long j8), (.int i10), (.int i11), (.int (3 : Int32)), (.int (3 : Int32)), (.ref o17)])) _
  refine XS.iload X0.here hx rfl (hb hby at_320) rfl ?_
  show Steps p.tables e below (T0.setTop (mkF m 322 #[s0, s1, s2, s3, s4, s5, s6, .val (.ref o7), .val (.long j8), .second, .val (.int i10), .val (.int i11), .val (.int i12), .val (.int i13), s14, .val (.int i15), .val (.int i16), .val (.ref o17), s18, s19] [(.int i15), (.int i12), (.int i13), (.long j8), (.int i10), (.int i11), (.int (3 : Int32)), (.int (3 : Int32)), (.ref o17)])) _
  refine XS.iload X0.here hx rfl (hb hby at_322) rfl ?_
  show Steps p.tables e below (T0.setTop (mkF m 324 #[s0, s1, s2, s3, s4, s5, s6, .val (.ref o7), .val (.long j8), .second, .val (.int i10), .val (.int i11), .val (.int i12), .val (.int i13), s14, .val (.int i15), .val (.int i16), .val (.ref o17), s18, s19] [(.int i16), (.int i15), (.int i12), (.int i13), (.long j8), (.int i10), (.int i11), (.int (3 : Int32)), (.int (3 : Int32)), (.ref o17)])) _
  refine XS.aload X0.here hx rfl (hb hby at_324) rfl rfl ?_
  show Steps p.tables e below (T0.setTop (mkF m 326 #[s0, s1, s2, s3, s4, s5, s6, .val (.ref o7), .val (.long j8), .second, .val (.int i10), .val (.int i11), .val (.int i12), .val (.int i13), s14, .val (.int i15), .val (.int i16), .val (.ref o17), s18, s19] [(.ref o7), (.int i16), (.int i15), (.int i12), (.int i13), (.long j8), (.int i10), (.int i11), (.int (3 : Int32)), (.int (3 : Int32)), (.ref o17)])) _
  refine st7 _ ?_
  show Steps p.tables e below (T7.setTop (mkF m 329 #[s0, s1, s2, s3, s4, s5, s6, .val (.ref o7), .val (.long j8), .second, .val (.int i10), .val (.int i11), .val (.int i12), .val (.int i13), s14, .val (.int i15), .val (.int i16), .val (.ref o17), s18, s19] [(.int (own_cell (3 : Int32) i11 i10 j8 i13 i12 i15 i16)), (.int (3 : Int32)), (.ref o17)])) _
  refine st8 _ ?_
  exact kt
set_option maxRecDepth 65536 in
set_option maxHeartbeats 40000000 in
theorem tn0_330_354 {p : Program} {l : Launch} {e : Env} {s : State} {m : MethodId} {args : Array Value} {below : List Frame} {meth : Method} {c : Code} {T0 : State} {locs : List Loc} {Z : State} {a0 : Array Value} {h0 : Heap} (s0 : Slot) (s1 : Slot) (s2 : Slot) (s3 : Slot) (s4 : Slot) (s5 : Slot) (s6 : Slot) (o7 : Addr) (j8 : Int64) (i10 : Int32) (i11 : Int32) (i12 : Int32) (i13 : Int32) (s14 : Slot) (i15 : Int32) (i16 : Int32) (o17 : Addr) (s18 : Slot) (s19 : Slot) (n0 : Nat) (kb kP : ClassId) (vs : List Value)
    (X0 : Stand p l e room_1 s m args below meth c T0 locs 2 40) (hx : p.tables.exec = Jvm.exec) (hZ : Z.Warmed39 s.vm) (hw : ∀ d ∈ tables_1, d.before a0 Z = true) (hby : c.code = code) (hml : c.maxLocals = 20) (hown : s.vm.findClass "quotewarden/NumbersWholeNumberPinLaw" = some m.cls) (e0 : T0.heap = h0) (N0 : Fr n0 locs) (Z0 : n0 ≤ h0.size) (V : Arv Z h0 o17 kb .byte (21 : Int32) vs (.int (0 : Int32))) (hvs : vs.length = 21) (P : Arv Z h0 o7 kP .long (19 : Int32) (own_P.map Value.long) (.long (0 : Int64))) (ne : o7 ≠ o17) (g_o17 : n0 ≤ o17) (h19 : i10.toInt ≤ 19) :
    ∃ (T' : State) (h' : Heap) (L' : List Loc), Stand p l e room_1 s m args below meth c T' L' 2 40 ∧ T'.heap = h' ∧ (Fr n0 L' ∧ n0 ≤ h'.size ∧ Arv Z h' o17 kb .byte (21 : Int32) (vs.set 4 (.int (own_cell (4 : Int32) i11 i10 j8 i13 i12 i15 i16).toInt8.toInt32)) (.int (0 : Int32)) ∧ Arv Z h' o7 kP .long (19 : Int32) (own_P.map Value.long) (.long (0 : Int64))) ∧
      ∀ target, Steps p.tables e below (T'.setTop (mkF m 354 #[s0, s1, s2, s3, s4, s5, s6, .val (.ref o7), .val (.long j8), .second, .val (.int i10), .val (.int i11), .val (.int i12), .val (.int i13), s14, .val (.int i15), .val (.int i16), .val (.ref o17), s18, s19] [])) target → Steps p.tables e below (T0.setTop (mkF m 330 #[s0, s1, s2, s3, s4, s5, s6, .val (.ref o7), .val (.long j8), .second, .val (.int i10), .val (.int i11), .val (.int i12), .val (.int i13), s14, .val (.int i15), .val (.int i16), .val (.ref o17), s18, s19] [])) target := by
  obtain ⟨_, _, ⟨T7, L7, k7, n7⟩, -, X7, ⟨Lc7, hQ7, l7, y7, z7⟩, st7⟩ := Jvm.LawKit.callS X0 hx (y := (⟨"quotewarden/NumbersWholeNumberPinLaw", "cell", "(IIIJIZBB[J)B"⟩ : MethodName)) hown (mvT hZ (hw _ (List.mem_of_getElem? (i := 22) rfl))) (mvT hZ (hw _ (List.mem_of_getElem? (i := 23) rfl))) (mvT hZ (hw _ (List.mem_of_getElem? (i := 24) rfl))) (mvT hZ (hw _ (List.mem_of_getElem? (i := 25) rfl))) (by decide) (backOf (W := 2) (rm1 l Z a0 hw [] (4 : Int32) i11 i10 j8 i13 i12 i15 i16 o7  h0 n0 Z0 kP P h19) hZ (hw _ (List.mem_of_getElem? (i := 25) rfl)) (hw _ (List.mem_of_getElem? (i := 24) rfl)) (by decide) (by decide)) (g := (mkF m 350 #[s0, s1, s2, s3, s4, s5, s6, .val (.ref o7), .val (.long j8), .second, .val (.int i10), .val (.int i11), .val (.int i12), .val (.int i13), s14, .val (.int i15), .val (.int i16), .val (.ref o17), s18, s19] [(.ref o7), (.int i16), (.int i15), (.int i12), (.int i13), (.long j8), (.int i10), (.int i11), (.int (4 : Int32)), (.int (4 : Int32)), (.ref o17)])) rfl (by rw [hml]; rfl) (argsL := [(.int (4 : Int32)), (.int i11), (.int i10), (.long j8), (.int i13), (.int i12), (.int i15), (.int i16), (.ref o7)]) (rest := [(.int (4 : Int32)), (.ref o17)]) (lenOf pd_0_0 rfl) rfl (by show 2 * 0 + _ ≤ _; exact Nat.le_of_eq rfl) (hb hby at_350) (fun _ _ => ⟨rfl, e0, (by decide : 2 + 0 ≤ _), (by decide : 40 + 0 ≤ _)⟩)
  dsimp only [Pt.U, Pt.locs, Pt.cells, Pt.slots] at X7 l7 y7 z7 st7 hQ7
  subst l7 y7 z7
  obtain ⟨rfl, N7q, e7q⟩ := hQ7
  have N7 := Fr.app N0 N7q
  obtain ⟨cl_o17, Ar_o17, q_o17, S_o17, N_o17, H_o17, G_o17⟩ := V
  have hin353 : ¬ ((4 : Int32) < 0 ∨ cl_o17.slots.size ≤ ((4 : Int32)).toNatClampNeg) := inb_of S_o17 ⟨by decide, by decide⟩
  obtain ⟨T8, h8, X8, e8, W8, st8⟩ := stB X7 hx hZ e7q Ar_o17 (j := (4 : Int32)) hin353 (g := (mkF m 353 #[s0, s1, s2, s3, s4, s5, s6, .val (.ref o7), .val (.long j8), .second, .val (.int i10), .val (.int i11), .val (.int i12), .val (.int i13), s14, .val (.int i15), .val (.int i16), .val (.ref o17), s18, s19] [(.int (own_cell (4 : Int32) i11 i10 j8 i13 i12 i15 i16)), (.int (4 : Int32)), (.ref o17)])) rfl rfl (hb hby at_353)
  have N8 := Fr.snoc X8 N7 g_o17
  refine ⟨T8, h8, _, X8, e8, ⟨N8, Nat.le_trans Z0 (Nat.le_of_eq W8.size.symm), Arv.set Ar_o17 q_o17 S_o17 N_o17 H_o17 G_o17 (fits_nar_byte _) W8 4 rfl (by omega), P.other W8 ne⟩, fun target kt => ?_⟩
  show Steps p.tables e below (T0.setTop (mkF m 330 #[s0, s1, s2, s3, s4, s5, s6, .val (.ref o7), .val (.long j8), .second, .val (.int i10), .val (.int i11), .val (.int i12), .val (.int i13), s14, .val (.int i15), .val (.int i16), .val (.ref o17), s18, s19] [])) _
  refine XS.aload X0.here hx rfl (hb hby at_330) rfl rfl ?_
  show Steps p.tables e below (T0.setTop (mkF m 332 #[s0, s1, s2, s3, s4, s5, s6, .val (.ref o7), .val (.long j8), .second, .val (.int i10), .val (.int i11), .val (.int i12), .val (.int i13), s14, .val (.int i15), .val (.int i16), .val (.ref o17), s18, s19] [(.ref o17)])) _
  refine XS.iconst X0.here hx rfl (hb hby at_332) ?_
  show Steps p.tables e below (T0.setTop (mkF m 333 #[s0, s1, s2, s3, s4, s5, s6, .val (.ref o7), .val (.long j8), .second, .val (.int i10), .val (.int i11), .val (.int i12), .val (.int i13), s14, .val (.int i15), .val (.int i16), .val (.ref o17), s18, s19] [(.int (4 : Int32)), (.ref o17)])) _
  refine XS.iconst X0.here hx rfl (hb hby at_333) ?_
  show Steps p.tables e below (T0.setTop (mkF m 334 #[s0, s1, s2, s3, s4, s5, s6, .val (.ref o7), .val (.long j8), .second, .val (.int i10), .val (.int i11), .val (.int i12), .val (.int i13), s14, .val (.int i15), .val (.int i16), .val (.ref o17), s18, s19] [(.int (4 : Int32)), (.int (4 : Int32)), (.ref o17)])) _
  refine XS.iload X0.here hx rfl (hb hby at_334) rfl ?_
  show Steps p.tables e below (T0.setTop (mkF m 336 #[s0, s1, s2, s3, s4, s5, s6, .val (.ref o7), .val (.long j8), .second, .val (.int i10), .val (.int i11), .val (.int i12), .val (.int i13), s14, .val (.int i15), .val (.int i16), .val (.ref o17), s18, s19] [(.int i11), (.int (4 : Int32)), (.int (4 : Int32)), (.ref o17)])) _
  refine XS.iload X0.here hx rfl (hb hby at_336) rfl ?_
  show Steps p.tables e below (T0.setTop (mkF m 338 #[s0, s1, s2, s3, s4, s5, s6, .val (.ref o7), .val (.long j8), .second, .val (.int i10), .val (.int i11), .val (.int i12), .val (.int i13), s14, .val (.int i15), .val (.int i16), .val (.ref o17), s18, s19] [(.int i10), (.int i11), (.int (4 : Int32)), (.int (4 : Int32)), (.ref o17)])) _
  refine XS.lload X0.here hx rfl (hb hby at_338) rfl ?_
  show Steps p.tables e below (T0.setTop (mkF m 340 #[s0, s1, s2, s3, s4, s5, s6, .val (.ref o7), .val (.long j8), .second, .val (.int i10), .val (.int i11), .val (.int i12), .val (.int i13), s14, .val (.int i15), .val (.int i16), .val (.ref o17), s18, s19] [(.long j8), (.int i10), (.int i11), (.int (4 : Int32)), (.int (4 : Int32)), (.ref o17)])) _
  refine XS.iload X0.here hx rfl (hb hby at_340) rfl ?_
  show Steps p.tables e below (T0.setTop (mkF m 342 #[s0, s1, s2, s3, s4, s5, s6, .val (.ref o7), .val (.long j8), .second, .val (.int i10), .val (.int i11), .val (.int i12), .val (.int i13), s14, .val (.int i15), .val (.int i16), .val (.ref o17), s18, s19] [(.int i13), (.long j8), (.int i10), (.int i11), (.int (4 : Int32)), (.int (4 : Int32)), (.ref o17)])) _
  refine XS.iload X0.here hx rfl (hb hby at_342) rfl ?_
  show Steps p.tables e below (T0.setTop (mkF m 344 #[s0, s1, s2, s3, s4, s5, s6, .val (.ref o7), .val (.long j8), .second, .val (.int i10), .val (.int i11), .val (.int i12), .val (.int i13), s14, .val (.int i15), .val (.int i16), .val (.ref o17), s18, s19] [(.int i12), (.int i13), (.long j8), (.int i10), (.int i11), (.int (4 : Int32)), (.int (4 : Int32)), (.ref o17)])) _
  refine XS.iload X0.here hx rfl (hb hby at_344) rfl ?_
  show Steps p.tables e below (T0.setTop (mkF m 346 #[s0, s1, s2, s3, s4, s5, s6, .val (.ref o7), .val (.long j8), .second, .val (.int i10), .val (.int i11), .val (.int i12), .val (.int i13), s14, .val (.int i15), .val (.int i16), .val (.ref o17), s18, s19] [(.int i15), (.int i12), (.int i13), (.long j8), (.int i10), (.int i11), (.int (4 : Int32)), (.int (4 : Int32)), (.ref o17)])) _
  refine XS.iload X0.here hx rfl (hb hby at_346) rfl ?_
  show Steps p.tables e below (T0.setTop (mkF m 348 #[s0, s1, s2, s3, s4, s5, s6, .val (.ref o7), .val (.long j8), .second, .val (.int i10), .val (.int i11), .val (.int i12), .val (.int i13), s14, .val (.int i15), .val (.int i16), .val (.ref o17), s18, s19] [(.int i16), (.int i15), (.int i12), (.int i13), (.long j8), (.int i10), (.int i11), (.int (4 : Int32)), (.int (4 : Int32)), (.ref o17)])) _
  refine XS.aload X0.here hx rfl (hb hby at_348) rfl rfl ?_
  show Steps p.tables e below (T0.setTop (mkF m 350 #[s0, s1, s2, s3, s4, s5, s6, .val (.ref o7), .val (.long j8), .second, .val (.int i10), .val (.int i11), .val (.int i12), .val (.int i13), s14, .val (.int i15), .val (.int i16), .val (.ref o17), s18, s19] [(.ref o7), (.int i16), (.int i15), (.int i12), (.int i13), (.long j8), (.int i10), (.int i11), (.int (4 : Int32)), (.int (4 : Int32)), (.ref o17)])) _
  refine st7 _ ?_
  show Steps p.tables e below (T7.setTop (mkF m 353 #[s0, s1, s2, s3, s4, s5, s6, .val (.ref o7), .val (.long j8), .second, .val (.int i10), .val (.int i11), .val (.int i12), .val (.int i13), s14, .val (.int i15), .val (.int i16), .val (.ref o17), s18, s19] [(.int (own_cell (4 : Int32) i11 i10 j8 i13 i12 i15 i16)), (.int (4 : Int32)), (.ref o17)])) _
  refine st8 _ ?_
  exact kt
set_option maxRecDepth 65536 in
set_option maxHeartbeats 40000000 in
theorem tn0_354_378 {p : Program} {l : Launch} {e : Env} {s : State} {m : MethodId} {args : Array Value} {below : List Frame} {meth : Method} {c : Code} {T0 : State} {locs : List Loc} {Z : State} {a0 : Array Value} {h0 : Heap} (s0 : Slot) (s1 : Slot) (s2 : Slot) (s3 : Slot) (s4 : Slot) (s5 : Slot) (s6 : Slot) (o7 : Addr) (j8 : Int64) (i10 : Int32) (i11 : Int32) (i12 : Int32) (i13 : Int32) (s14 : Slot) (i15 : Int32) (i16 : Int32) (o17 : Addr) (s18 : Slot) (s19 : Slot) (n0 : Nat) (kb kP : ClassId) (vs : List Value)
    (X0 : Stand p l e room_1 s m args below meth c T0 locs 2 40) (hx : p.tables.exec = Jvm.exec) (hZ : Z.Warmed39 s.vm) (hw : ∀ d ∈ tables_1, d.before a0 Z = true) (hby : c.code = code) (hml : c.maxLocals = 20) (hown : s.vm.findClass "quotewarden/NumbersWholeNumberPinLaw" = some m.cls) (e0 : T0.heap = h0) (N0 : Fr n0 locs) (Z0 : n0 ≤ h0.size) (V : Arv Z h0 o17 kb .byte (21 : Int32) vs (.int (0 : Int32))) (hvs : vs.length = 21) (P : Arv Z h0 o7 kP .long (19 : Int32) (own_P.map Value.long) (.long (0 : Int64))) (ne : o7 ≠ o17) (g_o17 : n0 ≤ o17) (h19 : i10.toInt ≤ 19) :
    ∃ (T' : State) (h' : Heap) (L' : List Loc), Stand p l e room_1 s m args below meth c T' L' 2 40 ∧ T'.heap = h' ∧ (Fr n0 L' ∧ n0 ≤ h'.size ∧ Arv Z h' o17 kb .byte (21 : Int32) (vs.set 5 (.int (own_cell (5 : Int32) i11 i10 j8 i13 i12 i15 i16).toInt8.toInt32)) (.int (0 : Int32)) ∧ Arv Z h' o7 kP .long (19 : Int32) (own_P.map Value.long) (.long (0 : Int64))) ∧
      ∀ target, Steps p.tables e below (T'.setTop (mkF m 378 #[s0, s1, s2, s3, s4, s5, s6, .val (.ref o7), .val (.long j8), .second, .val (.int i10), .val (.int i11), .val (.int i12), .val (.int i13), s14, .val (.int i15), .val (.int i16), .val (.ref o17), s18, s19] [])) target → Steps p.tables e below (T0.setTop (mkF m 354 #[s0, s1, s2, s3, s4, s5, s6, .val (.ref o7), .val (.long j8), .second, .val (.int i10), .val (.int i11), .val (.int i12), .val (.int i13), s14, .val (.int i15), .val (.int i16), .val (.ref o17), s18, s19] [])) target := by
  obtain ⟨_, _, ⟨T7, L7, k7, n7⟩, -, X7, ⟨Lc7, hQ7, l7, y7, z7⟩, st7⟩ := Jvm.LawKit.callS X0 hx (y := (⟨"quotewarden/NumbersWholeNumberPinLaw", "cell", "(IIIJIZBB[J)B"⟩ : MethodName)) hown (mvT hZ (hw _ (List.mem_of_getElem? (i := 22) rfl))) (mvT hZ (hw _ (List.mem_of_getElem? (i := 23) rfl))) (mvT hZ (hw _ (List.mem_of_getElem? (i := 24) rfl))) (mvT hZ (hw _ (List.mem_of_getElem? (i := 25) rfl))) (by decide) (backOf (W := 2) (rm1 l Z a0 hw [] (5 : Int32) i11 i10 j8 i13 i12 i15 i16 o7  h0 n0 Z0 kP P h19) hZ (hw _ (List.mem_of_getElem? (i := 25) rfl)) (hw _ (List.mem_of_getElem? (i := 24) rfl)) (by decide) (by decide)) (g := (mkF m 374 #[s0, s1, s2, s3, s4, s5, s6, .val (.ref o7), .val (.long j8), .second, .val (.int i10), .val (.int i11), .val (.int i12), .val (.int i13), s14, .val (.int i15), .val (.int i16), .val (.ref o17), s18, s19] [(.ref o7), (.int i16), (.int i15), (.int i12), (.int i13), (.long j8), (.int i10), (.int i11), (.int (5 : Int32)), (.int (5 : Int32)), (.ref o17)])) rfl (by rw [hml]; rfl) (argsL := [(.int (5 : Int32)), (.int i11), (.int i10), (.long j8), (.int i13), (.int i12), (.int i15), (.int i16), (.ref o7)]) (rest := [(.int (5 : Int32)), (.ref o17)]) (lenOf pd_0_0 rfl) rfl (by show 2 * 0 + _ ≤ _; exact Nat.le_of_eq rfl) (hb hby at_374) (fun _ _ => ⟨rfl, e0, (by decide : 2 + 0 ≤ _), (by decide : 40 + 0 ≤ _)⟩)
  dsimp only [Pt.U, Pt.locs, Pt.cells, Pt.slots] at X7 l7 y7 z7 st7 hQ7
  subst l7 y7 z7
  obtain ⟨rfl, N7q, e7q⟩ := hQ7
  have N7 := Fr.app N0 N7q
  obtain ⟨cl_o17, Ar_o17, q_o17, S_o17, N_o17, H_o17, G_o17⟩ := V
  have hin377 : ¬ ((5 : Int32) < 0 ∨ cl_o17.slots.size ≤ ((5 : Int32)).toNatClampNeg) := inb_of S_o17 ⟨by decide, by decide⟩
  obtain ⟨T8, h8, X8, e8, W8, st8⟩ := stB X7 hx hZ e7q Ar_o17 (j := (5 : Int32)) hin377 (g := (mkF m 377 #[s0, s1, s2, s3, s4, s5, s6, .val (.ref o7), .val (.long j8), .second, .val (.int i10), .val (.int i11), .val (.int i12), .val (.int i13), s14, .val (.int i15), .val (.int i16), .val (.ref o17), s18, s19] [(.int (own_cell (5 : Int32) i11 i10 j8 i13 i12 i15 i16)), (.int (5 : Int32)), (.ref o17)])) rfl rfl (hb hby at_377)
  have N8 := Fr.snoc X8 N7 g_o17
  refine ⟨T8, h8, _, X8, e8, ⟨N8, Nat.le_trans Z0 (Nat.le_of_eq W8.size.symm), Arv.set Ar_o17 q_o17 S_o17 N_o17 H_o17 G_o17 (fits_nar_byte _) W8 5 rfl (by omega), P.other W8 ne⟩, fun target kt => ?_⟩
  show Steps p.tables e below (T0.setTop (mkF m 354 #[s0, s1, s2, s3, s4, s5, s6, .val (.ref o7), .val (.long j8), .second, .val (.int i10), .val (.int i11), .val (.int i12), .val (.int i13), s14, .val (.int i15), .val (.int i16), .val (.ref o17), s18, s19] [])) _
  refine XS.aload X0.here hx rfl (hb hby at_354) rfl rfl ?_
  show Steps p.tables e below (T0.setTop (mkF m 356 #[s0, s1, s2, s3, s4, s5, s6, .val (.ref o7), .val (.long j8), .second, .val (.int i10), .val (.int i11), .val (.int i12), .val (.int i13), s14, .val (.int i15), .val (.int i16), .val (.ref o17), s18, s19] [(.ref o17)])) _
  refine XS.iconst X0.here hx rfl (hb hby at_356) ?_
  show Steps p.tables e below (T0.setTop (mkF m 357 #[s0, s1, s2, s3, s4, s5, s6, .val (.ref o7), .val (.long j8), .second, .val (.int i10), .val (.int i11), .val (.int i12), .val (.int i13), s14, .val (.int i15), .val (.int i16), .val (.ref o17), s18, s19] [(.int (5 : Int32)), (.ref o17)])) _
  refine XS.iconst X0.here hx rfl (hb hby at_357) ?_
  show Steps p.tables e below (T0.setTop (mkF m 358 #[s0, s1, s2, s3, s4, s5, s6, .val (.ref o7), .val (.long j8), .second, .val (.int i10), .val (.int i11), .val (.int i12), .val (.int i13), s14, .val (.int i15), .val (.int i16), .val (.ref o17), s18, s19] [(.int (5 : Int32)), (.int (5 : Int32)), (.ref o17)])) _
  refine XS.iload X0.here hx rfl (hb hby at_358) rfl ?_
  show Steps p.tables e below (T0.setTop (mkF m 360 #[s0, s1, s2, s3, s4, s5, s6, .val (.ref o7), .val (.long j8), .second, .val (.int i10), .val (.int i11), .val (.int i12), .val (.int i13), s14, .val (.int i15), .val (.int i16), .val (.ref o17), s18, s19] [(.int i11), (.int (5 : Int32)), (.int (5 : Int32)), (.ref o17)])) _
  refine XS.iload X0.here hx rfl (hb hby at_360) rfl ?_
  show Steps p.tables e below (T0.setTop (mkF m 362 #[s0, s1, s2, s3, s4, s5, s6, .val (.ref o7), .val (.long j8), .second, .val (.int i10), .val (.int i11), .val (.int i12), .val (.int i13), s14, .val (.int i15), .val (.int i16), .val (.ref o17), s18, s19] [(.int i10), (.int i11), (.int (5 : Int32)), (.int (5 : Int32)), (.ref o17)])) _
  refine XS.lload X0.here hx rfl (hb hby at_362) rfl ?_
  show Steps p.tables e below (T0.setTop (mkF m 364 #[s0, s1, s2, s3, s4, s5, s6, .val (.ref o7), .val (.long j8), .second, .val (.int i10), .val (.int i11), .val (.int i12), .val (.int i13), s14, .val (.int i15), .val (.int i16), .val (.ref o17), s18, s19] [(.long j8), (.int i10), (.int i11), (.int (5 : Int32)), (.int (5 : Int32)), (.ref o17)])) _
  refine XS.iload X0.here hx rfl (hb hby at_364) rfl ?_
  show Steps p.tables e below (T0.setTop (mkF m 366 #[s0, s1, s2, s3, s4, s5, s6, .val (.ref o7), .val (.long j8), .second, .val (.int i10), .val (.int i11), .val (.int i12), .val (.int i13), s14, .val (.int i15), .val (.int i16), .val (.ref o17), s18, s19] [(.int i13), (.long j8), (.int i10), (.int i11), (.int (5 : Int32)), (.int (5 : Int32)), (.ref o17)])) _
  refine XS.iload X0.here hx rfl (hb hby at_366) rfl ?_
  show Steps p.tables e below (T0.setTop (mkF m 368 #[s0, s1, s2, s3, s4, s5, s6, .val (.ref o7), .val (.long j8), .second, .val (.int i10), .val (.int i11), .val (.int i12), .val (.int i13), s14, .val (.int i15), .val (.int i16), .val (.ref o17), s18, s19] [(.int i12), (.int i13), (.long j8), (.int i10), (.int i11), (.int (5 : Int32)), (.int (5 : Int32)), (.ref o17)])) _
  refine XS.iload X0.here hx rfl (hb hby at_368) rfl ?_
  show Steps p.tables e below (T0.setTop (mkF m 370 #[s0, s1, s2, s3, s4, s5, s6, .val (.ref o7), .val (.long j8), .second, .val (.int i10), .val (.int i11), .val (.int i12), .val (.int i13), s14, .val (.int i15), .val (.int i16), .val (.ref o17), s18, s19] [(.int i15), (.int i12), (.int i13), (.long j8), (.int i10), (.int i11), (.int (5 : Int32)), (.int (5 : Int32)), (.ref o17)])) _
  refine XS.iload X0.here hx rfl (hb hby at_370) rfl ?_
  show Steps p.tables e below (T0.setTop (mkF m 372 #[s0, s1, s2, s3, s4, s5, s6, .val (.ref o7), .val (.long j8), .second, .val (.int i10), .val (.int i11), .val (.int i12), .val (.int i13), s14, .val (.int i15), .val (.int i16), .val (.ref o17), s18, s19] [(.int i16), (.int i15), (.int i12), (.int i13), (.long j8), (.int i10), (.int i11), (.int (5 : Int32)), (.int (5 : Int32)), (.ref o17)])) _
  refine XS.aload X0.here hx rfl (hb hby at_372) rfl rfl ?_
  show Steps p.tables e below (T0.setTop (mkF m 374 #[s0, s1, s2, s3, s4, s5, s6, .val (.ref o7), .val (.long j8), .second, .val (.int i10), .val (.int i11), .val (.int i12), .val (.int i13), s14, .val (.int i15), .val (.int i16), .val (.ref o17), s18, s19] [(.ref o7), (.int i16), (.int i15), (.int i12), (.int i13), (.long j8), (.int i10), (.int i11), (.int (5 : Int32)), (.int (5 : Int32)), (.ref o17)])) _
  refine st7 _ ?_
  show Steps p.tables e below (T7.setTop (mkF m 377 #[s0, s1, s2, s3, s4, s5, s6, .val (.ref o7), .val (.long j8), .second, .val (.int i10), .val (.int i11), .val (.int i12), .val (.int i13), s14, .val (.int i15), .val (.int i16), .val (.ref o17), s18, s19] [(.int (own_cell (5 : Int32) i11 i10 j8 i13 i12 i15 i16)), (.int (5 : Int32)), (.ref o17)])) _
  refine st8 _ ?_
  exact kt
set_option maxRecDepth 65536 in
set_option maxHeartbeats 40000000 in
theorem tn0_378_404 {p : Program} {l : Launch} {e : Env} {s : State} {m : MethodId} {args : Array Value} {below : List Frame} {meth : Method} {c : Code} {T0 : State} {locs : List Loc} {Z : State} {a0 : Array Value} {h0 : Heap} (s0 : Slot) (s1 : Slot) (s2 : Slot) (s3 : Slot) (s4 : Slot) (s5 : Slot) (s6 : Slot) (o7 : Addr) (j8 : Int64) (i10 : Int32) (i11 : Int32) (i12 : Int32) (i13 : Int32) (s14 : Slot) (i15 : Int32) (i16 : Int32) (o17 : Addr) (s18 : Slot) (s19 : Slot) (n0 : Nat) (kb kP : ClassId) (vs : List Value)
    (X0 : Stand p l e room_1 s m args below meth c T0 locs 2 40) (hx : p.tables.exec = Jvm.exec) (hZ : Z.Warmed39 s.vm) (hw : ∀ d ∈ tables_1, d.before a0 Z = true) (hby : c.code = code) (hml : c.maxLocals = 20) (hown : s.vm.findClass "quotewarden/NumbersWholeNumberPinLaw" = some m.cls) (e0 : T0.heap = h0) (N0 : Fr n0 locs) (Z0 : n0 ≤ h0.size) (V : Arv Z h0 o17 kb .byte (21 : Int32) vs (.int (0 : Int32))) (hvs : vs.length = 21) (P : Arv Z h0 o7 kP .long (19 : Int32) (own_P.map Value.long) (.long (0 : Int64))) (ne : o7 ≠ o17) (g_o17 : n0 ≤ o17) (h19 : i10.toInt ≤ 19) :
    ∃ (T' : State) (h' : Heap) (L' : List Loc), Stand p l e room_1 s m args below meth c T' L' 2 40 ∧ T'.heap = h' ∧ (Fr n0 L' ∧ n0 ≤ h'.size ∧ Arv Z h' o17 kb .byte (21 : Int32) (vs.set 6 (.int (own_cell (6 : Int32) i11 i10 j8 i13 i12 i15 i16).toInt8.toInt32)) (.int (0 : Int32)) ∧ Arv Z h' o7 kP .long (19 : Int32) (own_P.map Value.long) (.long (0 : Int64))) ∧
      ∀ target, Steps p.tables e below (T'.setTop (mkF m 404 #[s0, s1, s2, s3, s4, s5, s6, .val (.ref o7), .val (.long j8), .second, .val (.int i10), .val (.int i11), .val (.int i12), .val (.int i13), s14, .val (.int i15), .val (.int i16), .val (.ref o17), s18, s19] [])) target → Steps p.tables e below (T0.setTop (mkF m 378 #[s0, s1, s2, s3, s4, s5, s6, .val (.ref o7), .val (.long j8), .second, .val (.int i10), .val (.int i11), .val (.int i12), .val (.int i13), s14, .val (.int i15), .val (.int i16), .val (.ref o17), s18, s19] [])) target := by
  obtain ⟨_, _, ⟨T7, L7, k7, n7⟩, -, X7, ⟨Lc7, hQ7, l7, y7, z7⟩, st7⟩ := Jvm.LawKit.callS X0 hx (y := (⟨"quotewarden/NumbersWholeNumberPinLaw", "cell", "(IIIJIZBB[J)B"⟩ : MethodName)) hown (mvT hZ (hw _ (List.mem_of_getElem? (i := 22) rfl))) (mvT hZ (hw _ (List.mem_of_getElem? (i := 23) rfl))) (mvT hZ (hw _ (List.mem_of_getElem? (i := 24) rfl))) (mvT hZ (hw _ (List.mem_of_getElem? (i := 25) rfl))) (by decide) (backOf (W := 2) (rm1 l Z a0 hw [] (6 : Int32) i11 i10 j8 i13 i12 i15 i16 o7  h0 n0 Z0 kP P h19) hZ (hw _ (List.mem_of_getElem? (i := 25) rfl)) (hw _ (List.mem_of_getElem? (i := 24) rfl)) (by decide) (by decide)) (g := (mkF m 400 #[s0, s1, s2, s3, s4, s5, s6, .val (.ref o7), .val (.long j8), .second, .val (.int i10), .val (.int i11), .val (.int i12), .val (.int i13), s14, .val (.int i15), .val (.int i16), .val (.ref o17), s18, s19] [(.ref o7), (.int i16), (.int i15), (.int i12), (.int i13), (.long j8), (.int i10), (.int i11), (.int (6 : Int32)), (.int (6 : Int32)), (.ref o17)])) rfl (by rw [hml]; rfl) (argsL := [(.int (6 : Int32)), (.int i11), (.int i10), (.long j8), (.int i13), (.int i12), (.int i15), (.int i16), (.ref o7)]) (rest := [(.int (6 : Int32)), (.ref o17)]) (lenOf pd_0_0 rfl) rfl (by show 2 * 0 + _ ≤ _; exact Nat.le_of_eq rfl) (hb hby at_400) (fun _ _ => ⟨rfl, e0, (by decide : 2 + 0 ≤ _), (by decide : 40 + 0 ≤ _)⟩)
  dsimp only [Pt.U, Pt.locs, Pt.cells, Pt.slots] at X7 l7 y7 z7 st7 hQ7
  subst l7 y7 z7
  obtain ⟨rfl, N7q, e7q⟩ := hQ7
  have N7 := Fr.app N0 N7q
  obtain ⟨cl_o17, Ar_o17, q_o17, S_o17, N_o17, H_o17, G_o17⟩ := V
  have hin403 : ¬ ((6 : Int32) < 0 ∨ cl_o17.slots.size ≤ ((6 : Int32)).toNatClampNeg) := inb_of S_o17 ⟨by decide, by decide⟩
  obtain ⟨T8, h8, X8, e8, W8, st8⟩ := stB X7 hx hZ e7q Ar_o17 (j := (6 : Int32)) hin403 (g := (mkF m 403 #[s0, s1, s2, s3, s4, s5, s6, .val (.ref o7), .val (.long j8), .second, .val (.int i10), .val (.int i11), .val (.int i12), .val (.int i13), s14, .val (.int i15), .val (.int i16), .val (.ref o17), s18, s19] [(.int (own_cell (6 : Int32) i11 i10 j8 i13 i12 i15 i16)), (.int (6 : Int32)), (.ref o17)])) rfl rfl (hb hby at_403)
  have N8 := Fr.snoc X8 N7 g_o17
  refine ⟨T8, h8, _, X8, e8, ⟨N8, Nat.le_trans Z0 (Nat.le_of_eq W8.size.symm), Arv.set Ar_o17 q_o17 S_o17 N_o17 H_o17 G_o17 (fits_nar_byte _) W8 6 rfl (by omega), P.other W8 ne⟩, fun target kt => ?_⟩
  show Steps p.tables e below (T0.setTop (mkF m 378 #[s0, s1, s2, s3, s4, s5, s6, .val (.ref o7), .val (.long j8), .second, .val (.int i10), .val (.int i11), .val (.int i12), .val (.int i13), s14, .val (.int i15), .val (.int i16), .val (.ref o17), s18, s19] [])) _
  refine XS.aload X0.here hx rfl (hb hby at_378) rfl rfl ?_
  show Steps p.tables e below (T0.setTop (mkF m 380 #[s0, s1, s2, s3, s4, s5, s6, .val (.ref o7), .val (.long j8), .second, .val (.int i10), .val (.int i11), .val (.int i12), .val (.int i13), s14, .val (.int i15), .val (.int i16), .val (.ref o17), s18, s19] [(.ref o17)])) _
  refine XS.bipush X0.here hx rfl (hb hby at_380) ?_
  show Steps p.tables e below (T0.setTop (mkF m 382 #[s0, s1, s2, s3, s4, s5, s6, .val (.ref o7), .val (.long j8), .second, .val (.int i10), .val (.int i11), .val (.int i12), .val (.int i13), s14, .val (.int i15), .val (.int i16), .val (.ref o17), s18, s19] [(.int (6 : Int32)), (.ref o17)])) _
  refine XS.bipush X0.here hx rfl (hb hby at_382) ?_
  show Steps p.tables e below (T0.setTop (mkF m 384 #[s0, s1, s2, s3, s4, s5, s6, .val (.ref o7), .val (.long j8), .second, .val (.int i10), .val (.int i11), .val (.int i12), .val (.int i13), s14, .val (.int i15), .val (.int i16), .val (.ref o17), s18, s19] [(.int (6 : Int32)), (.int (6 : Int32)), (.ref o17)])) _
  refine XS.iload X0.here hx rfl (hb hby at_384) rfl ?_
  show Steps p.tables e below (T0.setTop (mkF m 386 #[s0, s1, s2, s3, s4, s5, s6, .val (.ref o7), .val (.long j8), .second, .val (.int i10), .val (.int i11), .val (.int i12), .val (.int i13), s14, .val (.int i15), .val (.int i16), .val (.ref o17), s18, s19] [(.int i11), (.int (6 : Int32)), (.int (6 : Int32)), (.ref o17)])) _
  refine XS.iload X0.here hx rfl (hb hby at_386) rfl ?_
  show Steps p.tables e below (T0.setTop (mkF m 388 #[s0, s1, s2, s3, s4, s5, s6, .val (.ref o7), .val (.long j8), .second, .val (.int i10), .val (.int i11), .val (.int i12), .val (.int i13), s14, .val (.int i15), .val (.int i16), .val (.ref o17), s18, s19] [(.int i10), (.int i11), (.int (6 : Int32)), (.int (6 : Int32)), (.ref o17)])) _
  refine XS.lload X0.here hx rfl (hb hby at_388) rfl ?_
  show Steps p.tables e below (T0.setTop (mkF m 390 #[s0, s1, s2, s3, s4, s5, s6, .val (.ref o7), .val (.long j8), .second, .val (.int i10), .val (.int i11), .val (.int i12), .val (.int i13), s14, .val (.int i15), .val (.int i16), .val (.ref o17), s18, s19] [(.long j8), (.int i10), (.int i11), (.int (6 : Int32)), (.int (6 : Int32)), (.ref o17)])) _
  refine XS.iload X0.here hx rfl (hb hby at_390) rfl ?_
  show Steps p.tables e below (T0.setTop (mkF m 392 #[s0, s1, s2, s3, s4, s5, s6, .val (.ref o7), .val (.long j8), .second, .val (.int i10), .val (.int i11), .val (.int i12), .val (.int i13), s14, .val (.int i15), .val (.int i16), .val (.ref o17), s18, s19] [(.int i13), (.long j8), (.int i10), (.int i11), (.int (6 : Int32)), (.int (6 : Int32)), (.ref o17)])) _
  refine XS.iload X0.here hx rfl (hb hby at_392) rfl ?_
  show Steps p.tables e below (T0.setTop (mkF m 394 #[s0, s1, s2, s3, s4, s5, s6, .val (.ref o7), .val (.long j8), .second, .val (.int i10), .val (.int i11), .val (.int i12), .val (.int i13), s14, .val (.int i15), .val (.int i16), .val (.ref o17), s18, s19] [(.int i12), (.int i13), (.long j8), (.int i10), (.int i11), (.int (6 : Int32)), (.int (6 : Int32)), (.ref o17)])) _
  refine XS.iload X0.here hx rfl (hb hby at_394) rfl ?_
  show Steps p.tables e below (T0.setTop (mkF m 396 #[s0, s1, s2, s3, s4, s5, s6, .val (.ref o7), .val (.long j8), .second, .val (.int i10), .val (.int i11), .val (.int i12), .val (.int i13), s14, .val (.int i15), .val (.int i16), .val (.ref o17), s18, s19] [(.int i15), (.int i12), (.int i13), (.long j8), (.int i10), (.int i11), (.int (6 : Int32)), (.int (6 : Int32)), (.ref o17)])) _
  refine XS.iload X0.here hx rfl (hb hby at_396) rfl ?_
  show Steps p.tables e below (T0.setTop (mkF m 398 #[s0, s1, s2, s3, s4, s5, s6, .val (.ref o7), .val (.long j8), .second, .val (.int i10), .val (.int i11), .val (.int i12), .val (.int i13), s14, .val (.int i15), .val (.int i16), .val (.ref o17), s18, s19] [(.int i16), (.int i15), (.int i12), (.int i13), (.long j8), (.int i10), (.int i11), (.int (6 : Int32)), (.int (6 : Int32)), (.ref o17)])) _
  refine XS.aload X0.here hx rfl (hb hby at_398) rfl rfl ?_
  show Steps p.tables e below (T0.setTop (mkF m 400 #[s0, s1, s2, s3, s4, s5, s6, .val (.ref o7), .val (.long j8), .second, .val (.int i10), .val (.int i11), .val (.int i12), .val (.int i13), s14, .val (.int i15), .val (.int i16), .val (.ref o17), s18, s19] [(.ref o7), (.int i16), (.int i15), (.int i12), (.int i13), (.long j8), (.int i10), (.int i11), (.int (6 : Int32)), (.int (6 : Int32)), (.ref o17)])) _
  refine st7 _ ?_
  show Steps p.tables e below (T7.setTop (mkF m 403 #[s0, s1, s2, s3, s4, s5, s6, .val (.ref o7), .val (.long j8), .second, .val (.int i10), .val (.int i11), .val (.int i12), .val (.int i13), s14, .val (.int i15), .val (.int i16), .val (.ref o17), s18, s19] [(.int (own_cell (6 : Int32) i11 i10 j8 i13 i12 i15 i16)), (.int (6 : Int32)), (.ref o17)])) _
  refine st8 _ ?_
  exact kt
set_option maxRecDepth 65536 in
set_option maxHeartbeats 40000000 in
theorem tn0_404_430 {p : Program} {l : Launch} {e : Env} {s : State} {m : MethodId} {args : Array Value} {below : List Frame} {meth : Method} {c : Code} {T0 : State} {locs : List Loc} {Z : State} {a0 : Array Value} {h0 : Heap} (s0 : Slot) (s1 : Slot) (s2 : Slot) (s3 : Slot) (s4 : Slot) (s5 : Slot) (s6 : Slot) (o7 : Addr) (j8 : Int64) (i10 : Int32) (i11 : Int32) (i12 : Int32) (i13 : Int32) (s14 : Slot) (i15 : Int32) (i16 : Int32) (o17 : Addr) (s18 : Slot) (s19 : Slot) (n0 : Nat) (kb kP : ClassId) (vs : List Value)
    (X0 : Stand p l e room_1 s m args below meth c T0 locs 2 40) (hx : p.tables.exec = Jvm.exec) (hZ : Z.Warmed39 s.vm) (hw : ∀ d ∈ tables_1, d.before a0 Z = true) (hby : c.code = code) (hml : c.maxLocals = 20) (hown : s.vm.findClass "quotewarden/NumbersWholeNumberPinLaw" = some m.cls) (e0 : T0.heap = h0) (N0 : Fr n0 locs) (Z0 : n0 ≤ h0.size) (V : Arv Z h0 o17 kb .byte (21 : Int32) vs (.int (0 : Int32))) (hvs : vs.length = 21) (P : Arv Z h0 o7 kP .long (19 : Int32) (own_P.map Value.long) (.long (0 : Int64))) (ne : o7 ≠ o17) (g_o17 : n0 ≤ o17) (h19 : i10.toInt ≤ 19) :
    ∃ (T' : State) (h' : Heap) (L' : List Loc), Stand p l e room_1 s m args below meth c T' L' 2 40 ∧ T'.heap = h' ∧ (Fr n0 L' ∧ n0 ≤ h'.size ∧ Arv Z h' o17 kb .byte (21 : Int32) (vs.set 7 (.int (own_cell (7 : Int32) i11 i10 j8 i13 i12 i15 i16).toInt8.toInt32)) (.int (0 : Int32)) ∧ Arv Z h' o7 kP .long (19 : Int32) (own_P.map Value.long) (.long (0 : Int64))) ∧
      ∀ target, Steps p.tables e below (T'.setTop (mkF m 430 #[s0, s1, s2, s3, s4, s5, s6, .val (.ref o7), .val (.long j8), .second, .val (.int i10), .val (.int i11), .val (.int i12), .val (.int i13), s14, .val (.int i15), .val (.int i16), .val (.ref o17), s18, s19] [])) target → Steps p.tables e below (T0.setTop (mkF m 404 #[s0, s1, s2, s3, s4, s5, s6, .val (.ref o7), .val (.long j8), .second, .val (.int i10), .val (.int i11), .val (.int i12), .val (.int i13), s14, .val (.int i15), .val (.int i16), .val (.ref o17), s18, s19] [])) target := by
  obtain ⟨_, _, ⟨T7, L7, k7, n7⟩, -, X7, ⟨Lc7, hQ7, l7, y7, z7⟩, st7⟩ := Jvm.LawKit.callS X0 hx (y := (⟨"quotewarden/NumbersWholeNumberPinLaw", "cell", "(IIIJIZBB[J)B"⟩ : MethodName)) hown (mvT hZ (hw _ (List.mem_of_getElem? (i := 22) rfl))) (mvT hZ (hw _ (List.mem_of_getElem? (i := 23) rfl))) (mvT hZ (hw _ (List.mem_of_getElem? (i := 24) rfl))) (mvT hZ (hw _ (List.mem_of_getElem? (i := 25) rfl))) (by decide) (backOf (W := 2) (rm1 l Z a0 hw [] (7 : Int32) i11 i10 j8 i13 i12 i15 i16 o7  h0 n0 Z0 kP P h19) hZ (hw _ (List.mem_of_getElem? (i := 25) rfl)) (hw _ (List.mem_of_getElem? (i := 24) rfl)) (by decide) (by decide)) (g := (mkF m 426 #[s0, s1, s2, s3, s4, s5, s6, .val (.ref o7), .val (.long j8), .second, .val (.int i10), .val (.int i11), .val (.int i12), .val (.int i13), s14, .val (.int i15), .val (.int i16), .val (.ref o17), s18, s19] [(.ref o7), (.int i16), (.int i15), (.int i12), (.int i13), (.long j8), (.int i10), (.int i11), (.int (7 : Int32)), (.int (7 : Int32)), (.ref o17)])) rfl (by rw [hml]; rfl) (argsL := [(.int (7 : Int32)), (.int i11), (.int i10), (.long j8), (.int i13), (.int i12), (.int i15), (.int i16), (.ref o7)]) (rest := [(.int (7 : Int32)), (.ref o17)]) (lenOf pd_0_0 rfl) rfl (by show 2 * 0 + _ ≤ _; exact Nat.le_of_eq rfl) (hb hby at_426) (fun _ _ => ⟨rfl, e0, (by decide : 2 + 0 ≤ _), (by decide : 40 + 0 ≤ _)⟩)
  dsimp only [Pt.U, Pt.locs, Pt.cells, Pt.slots] at X7 l7 y7 z7 st7 hQ7
  subst l7 y7 z7
  obtain ⟨rfl, N7q, e7q⟩ := hQ7
  have N7 := Fr.app N0 N7q
  obtain ⟨cl_o17, Ar_o17, q_o17, S_o17, N_o17, H_o17, G_o17⟩ := V
  have hin429 : ¬ ((7 : Int32) < 0 ∨ cl_o17.slots.size ≤ ((7 : Int32)).toNatClampNeg) := inb_of S_o17 ⟨by decide, by decide⟩
  obtain ⟨T8, h8, X8, e8, W8, st8⟩ := stB X7 hx hZ e7q Ar_o17 (j := (7 : Int32)) hin429 (g := (mkF m 429 #[s0, s1, s2, s3, s4, s5, s6, .val (.ref o7), .val (.long j8), .second, .val (.int i10), .val (.int i11), .val (.int i12), .val (.int i13), s14, .val (.int i15), .val (.int i16), .val (.ref o17), s18, s19] [(.int (own_cell (7 : Int32) i11 i10 j8 i13 i12 i15 i16)), (.int (7 : Int32)), (.ref o17)])) rfl rfl (hb hby at_429)
  have N8 := Fr.snoc X8 N7 g_o17
  refine ⟨T8, h8, _, X8, e8, ⟨N8, Nat.le_trans Z0 (Nat.le_of_eq W8.size.symm), Arv.set Ar_o17 q_o17 S_o17 N_o17 H_o17 G_o17 (fits_nar_byte _) W8 7 rfl (by omega), P.other W8 ne⟩, fun target kt => ?_⟩
  show Steps p.tables e below (T0.setTop (mkF m 404 #[s0, s1, s2, s3, s4, s5, s6, .val (.ref o7), .val (.long j8), .second, .val (.int i10), .val (.int i11), .val (.int i12), .val (.int i13), s14, .val (.int i15), .val (.int i16), .val (.ref o17), s18, s19] [])) _
  refine XS.aload X0.here hx rfl (hb hby at_404) rfl rfl ?_
  show Steps p.tables e below (T0.setTop (mkF m 406 #[s0, s1, s2, s3, s4, s5, s6, .val (.ref o7), .val (.long j8), .second, .val (.int i10), .val (.int i11), .val (.int i12), .val (.int i13), s14, .val (.int i15), .val (.int i16), .val (.ref o17), s18, s19] [(.ref o17)])) _
  refine XS.bipush X0.here hx rfl (hb hby at_406) ?_
  show Steps p.tables e below (T0.setTop (mkF m 408 #[s0, s1, s2, s3, s4, s5, s6, .val (.ref o7), .val (.long j8), .second, .val (.int i10), .val (.int i11), .val (.int i12), .val (.int i13), s14, .val (.int i15), .val (.int i16), .val (.ref o17), s18, s19] [(.int (7 : Int32)), (.ref o17)])) _
  refine XS.bipush X0.here hx rfl (hb hby at_408) ?_
  show Steps p.tables e below (T0.setTop (mkF m 410 #[s0, s1, s2, s3, s4, s5, s6, .val (.ref o7), .val (.long j8), .second, .val (.int i10), .val (.int i11), .val (.int i12), .val (.int i13), s14, .val (.int i15), .val (.int i16), .val (.ref o17), s18, s19] [(.int (7 : Int32)), (.int (7 : Int32)), (.ref o17)])) _
  refine XS.iload X0.here hx rfl (hb hby at_410) rfl ?_
  show Steps p.tables e below (T0.setTop (mkF m 412 #[s0, s1, s2, s3, s4, s5, s6, .val (.ref o7), .val (.long j8), .second, .val (.int i10), .val (.int i11), .val (.int i12), .val (.int i13), s14, .val (.int i15), .val (.int i16), .val (.ref o17), s18, s19] [(.int i11), (.int (7 : Int32)), (.int (7 : Int32)), (.ref o17)])) _
  refine XS.iload X0.here hx rfl (hb hby at_412) rfl ?_
  show Steps p.tables e below (T0.setTop (mkF m 414 #[s0, s1, s2, s3, s4, s5, s6, .val (.ref o7), .val (.long j8), .second, .val (.int i10), .val (.int i11), .val (.int i12), .val (.int i13), s14, .val (.int i15), .val (.int i16), .val (.ref o17), s18, s19] [(.int i10), (.int i11), (.int (7 : Int32)), (.int (7 : Int32)), (.ref o17)])) _
  refine XS.lload X0.here hx rfl (hb hby at_414) rfl ?_
  show Steps p.tables e below (T0.setTop (mkF m 416 #[s0, s1, s2, s3, s4, s5, s6, .val (.ref o7), .val (.long j8), .second, .val (.int i10), .val (.int i11), .val (.int i12), .val (.int i13), s14, .val (.int i15), .val (.int i16), .val (.ref o17), s18, s19] [(.long j8), (.int i10), (.int i11), (.int (7 : Int32)), (.int (7 : Int32)), (.ref o17)])) _
  refine XS.iload X0.here hx rfl (hb hby at_416) rfl ?_
  show Steps p.tables e below (T0.setTop (mkF m 418 #[s0, s1, s2, s3, s4, s5, s6, .val (.ref o7), .val (.long j8), .second, .val (.int i10), .val (.int i11), .val (.int i12), .val (.int i13), s14, .val (.int i15), .val (.int i16), .val (.ref o17), s18, s19] [(.int i13), (.long j8), (.int i10), (.int i11), (.int (7 : Int32)), (.int (7 : Int32)), (.ref o17)])) _
  refine XS.iload X0.here hx rfl (hb hby at_418) rfl ?_
  show Steps p.tables e below (T0.setTop (mkF m 420 #[s0, s1, s2, s3, s4, s5, s6, .val (.ref o7), .val (.long j8), .second, .val (.int i10), .val (.int i11), .val (.int i12), .val (.int i13), s14, .val (.int i15), .val (.int i16), .val (.ref o17), s18, s19] [(.int i12), (.int i13), (.long j8), (.int i10), (.int i11), (.int (7 : Int32)), (.int (7 : Int32)), (.ref o17)])) _
  refine XS.iload X0.here hx rfl (hb hby at_420) rfl ?_
  show Steps p.tables e below (T0.setTop (mkF m 422 #[s0, s1, s2, s3, s4, s5, s6, .val (.ref o7), .val (.long j8), .second, .val (.int i10), .val (.int i11), .val (.int i12), .val (.int i13), s14, .val (.int i15), .val (.int i16), .val (.ref o17), s18, s19] [(.int i15), (.int i12), (.int i13), (.long j8), (.int i10), (.int i11), (.int (7 : Int32)), (.int (7 : Int32)), (.ref o17)])) _
  refine XS.iload X0.here hx rfl (hb hby at_422) rfl ?_
  show Steps p.tables e below (T0.setTop (mkF m 424 #[s0, s1, s2, s3, s4, s5, s6, .val (.ref o7), .val (.long j8), .second, .val (.int i10), .val (.int i11), .val (.int i12), .val (.int i13), s14, .val (.int i15), .val (.int i16), .val (.ref o17), s18, s19] [(.int i16), (.int i15), (.int i12), (.int i13), (.long j8), (.int i10), (.int i11), (.int (7 : Int32)), (.int (7 : Int32)), (.ref o17)])) _
  refine XS.aload X0.here hx rfl (hb hby at_424) rfl rfl ?_
  show Steps p.tables e below (T0.setTop (mkF m 426 #[s0, s1, s2, s3, s4, s5, s6, .val (.ref o7), .val (.long j8), .second, .val (.int i10), .val (.int i11), .val (.int i12), .val (.int i13), s14, .val (.int i15), .val (.int i16), .val (.ref o17), s18, s19] [(.ref o7), (.int i16), (.int i15), (.int i12), (.int i13), (.long j8), (.int i10), (.int i11), (.int (7 : Int32)), (.int (7 : Int32)), (.ref o17)])) _
  refine st7 _ ?_
  show Steps p.tables e below (T7.setTop (mkF m 429 #[s0, s1, s2, s3, s4, s5, s6, .val (.ref o7), .val (.long j8), .second, .val (.int i10), .val (.int i11), .val (.int i12), .val (.int i13), s14, .val (.int i15), .val (.int i16), .val (.ref o17), s18, s19] [(.int (own_cell (7 : Int32) i11 i10 j8 i13 i12 i15 i16)), (.int (7 : Int32)), (.ref o17)])) _
  refine st8 _ ?_
  exact kt
set_option maxRecDepth 65536 in
set_option maxHeartbeats 40000000 in
theorem tn0_430_456 {p : Program} {l : Launch} {e : Env} {s : State} {m : MethodId} {args : Array Value} {below : List Frame} {meth : Method} {c : Code} {T0 : State} {locs : List Loc} {Z : State} {a0 : Array Value} {h0 : Heap} (s0 : Slot) (s1 : Slot) (s2 : Slot) (s3 : Slot) (s4 : Slot) (s5 : Slot) (s6 : Slot) (o7 : Addr) (j8 : Int64) (i10 : Int32) (i11 : Int32) (i12 : Int32) (i13 : Int32) (s14 : Slot) (i15 : Int32) (i16 : Int32) (o17 : Addr) (s18 : Slot) (s19 : Slot) (n0 : Nat) (kb kP : ClassId) (vs : List Value)
    (X0 : Stand p l e room_1 s m args below meth c T0 locs 2 40) (hx : p.tables.exec = Jvm.exec) (hZ : Z.Warmed39 s.vm) (hw : ∀ d ∈ tables_1, d.before a0 Z = true) (hby : c.code = code) (hml : c.maxLocals = 20) (hown : s.vm.findClass "quotewarden/NumbersWholeNumberPinLaw" = some m.cls) (e0 : T0.heap = h0) (N0 : Fr n0 locs) (Z0 : n0 ≤ h0.size) (V : Arv Z h0 o17 kb .byte (21 : Int32) vs (.int (0 : Int32))) (hvs : vs.length = 21) (P : Arv Z h0 o7 kP .long (19 : Int32) (own_P.map Value.long) (.long (0 : Int64))) (ne : o7 ≠ o17) (g_o17 : n0 ≤ o17) (h19 : i10.toInt ≤ 19) :
    ∃ (T' : State) (h' : Heap) (L' : List Loc), Stand p l e room_1 s m args below meth c T' L' 2 40 ∧ T'.heap = h' ∧ (Fr n0 L' ∧ n0 ≤ h'.size ∧ Arv Z h' o17 kb .byte (21 : Int32) (vs.set 8 (.int (own_cell (8 : Int32) i11 i10 j8 i13 i12 i15 i16).toInt8.toInt32)) (.int (0 : Int32)) ∧ Arv Z h' o7 kP .long (19 : Int32) (own_P.map Value.long) (.long (0 : Int64))) ∧
      ∀ target, Steps p.tables e below (T'.setTop (mkF m 456 #[s0, s1, s2, s3, s4, s5, s6, .val (.ref o7), .val (.long j8), .second, .val (.int i10), .val (.int i11), .val (.int i12), .val (.int i13), s14, .val (.int i15), .val (.int i16), .val (.ref o17), s18, s19] [])) target → Steps p.tables e below (T0.setTop (mkF m 430 #[s0, s1, s2, s3, s4, s5, s6, .val (.ref o7), .val (.long j8), .second, .val (.int i10), .val (.int i11), .val (.int i12), .val (.int i13), s14, .val (.int i15), .val (.int i16), .val (.ref o17), s18, s19] [])) target := by
  obtain ⟨_, _, ⟨T7, L7, k7, n7⟩, -, X7, ⟨Lc7, hQ7, l7, y7, z7⟩, st7⟩ := Jvm.LawKit.callS X0 hx (y := (⟨"quotewarden/NumbersWholeNumberPinLaw", "cell", "(IIIJIZBB[J)B"⟩ : MethodName)) hown (mvT hZ (hw _ (List.mem_of_getElem? (i := 22) rfl))) (mvT hZ (hw _ (List.mem_of_getElem? (i := 23) rfl))) (mvT hZ (hw _ (List.mem_of_getElem? (i := 24) rfl))) (mvT hZ (hw _ (List.mem_of_getElem? (i := 25) rfl))) (by decide) (backOf (W := 2) (rm1 l Z a0 hw [] (8 : Int32) i11 i10 j8 i13 i12 i15 i16 o7  h0 n0 Z0 kP P h19) hZ (hw _ (List.mem_of_getElem? (i := 25) rfl)) (hw _ (List.mem_of_getElem? (i := 24) rfl)) (by decide) (by decide)) (g := (mkF m 452 #[s0, s1, s2, s3, s4, s5, s6, .val (.ref o7), .val (.long j8), .second, .val (.int i10), .val (.int i11), .val (.int i12), .val (.int i13), s14, .val (.int i15), .val (.int i16), .val (.ref o17), s18, s19] [(.ref o7), (.int i16), (.int i15), (.int i12), (.int i13), (.long j8), (.int i10), (.int i11), (.int (8 : Int32)), (.int (8 : Int32)), (.ref o17)])) rfl (by rw [hml]; rfl) (argsL := [(.int (8 : Int32)), (.int i11), (.int i10), (.long j8), (.int i13), (.int i12), (.int i15), (.int i16), (.ref o7)]) (rest := [(.int (8 : Int32)), (.ref o17)]) (lenOf pd_0_0 rfl) rfl (by show 2 * 0 + _ ≤ _; exact Nat.le_of_eq rfl) (hb hby at_452) (fun _ _ => ⟨rfl, e0, (by decide : 2 + 0 ≤ _), (by decide : 40 + 0 ≤ _)⟩)
  dsimp only [Pt.U, Pt.locs, Pt.cells, Pt.slots] at X7 l7 y7 z7 st7 hQ7
  subst l7 y7 z7
  obtain ⟨rfl, N7q, e7q⟩ := hQ7
  have N7 := Fr.app N0 N7q
  obtain ⟨cl_o17, Ar_o17, q_o17, S_o17, N_o17, H_o17, G_o17⟩ := V
  have hin455 : ¬ ((8 : Int32) < 0 ∨ cl_o17.slots.size ≤ ((8 : Int32)).toNatClampNeg) := inb_of S_o17 ⟨by decide, by decide⟩
  obtain ⟨T8, h8, X8, e8, W8, st8⟩ := stB X7 hx hZ e7q Ar_o17 (j := (8 : Int32)) hin455 (g := (mkF m 455 #[s0, s1, s2, s3, s4, s5, s6, .val (.ref o7), .val (.long j8), .second, .val (.int i10), .val (.int i11), .val (.int i12), .val (.int i13), s14, .val (.int i15), .val (.int i16), .val (.ref o17), s18, s19] [(.int (own_cell (8 : Int32) i11 i10 j8 i13 i12 i15 i16)), (.int (8 : Int32)), (.ref o17)])) rfl rfl (hb hby at_455)
  have N8 := Fr.snoc X8 N7 g_o17
  refine ⟨T8, h8, _, X8, e8, ⟨N8, Nat.le_trans Z0 (Nat.le_of_eq W8.size.symm), Arv.set Ar_o17 q_o17 S_o17 N_o17 H_o17 G_o17 (fits_nar_byte _) W8 8 rfl (by omega), P.other W8 ne⟩, fun target kt => ?_⟩
  show Steps p.tables e below (T0.setTop (mkF m 430 #[s0, s1, s2, s3, s4, s5, s6, .val (.ref o7), .val (.long j8), .second, .val (.int i10), .val (.int i11), .val (.int i12), .val (.int i13), s14, .val (.int i15), .val (.int i16), .val (.ref o17), s18, s19] [])) _
  refine XS.aload X0.here hx rfl (hb hby at_430) rfl rfl ?_
  show Steps p.tables e below (T0.setTop (mkF m 432 #[s0, s1, s2, s3, s4, s5, s6, .val (.ref o7), .val (.long j8), .second, .val (.int i10), .val (.int i11), .val (.int i12), .val (.int i13), s14, .val (.int i15), .val (.int i16), .val (.ref o17), s18, s19] [(.ref o17)])) _
  refine XS.bipush X0.here hx rfl (hb hby at_432) ?_
  show Steps p.tables e below (T0.setTop (mkF m 434 #[s0, s1, s2, s3, s4, s5, s6, .val (.ref o7), .val (.long j8), .second, .val (.int i10), .val (.int i11), .val (.int i12), .val (.int i13), s14, .val (.int i15), .val (.int i16), .val (.ref o17), s18, s19] [(.int (8 : Int32)), (.ref o17)])) _
  refine XS.bipush X0.here hx rfl (hb hby at_434) ?_
  show Steps p.tables e below (T0.setTop (mkF m 436 #[s0, s1, s2, s3, s4, s5, s6, .val (.ref o7), .val (.long j8), .second, .val (.int i10), .val (.int i11), .val (.int i12), .val (.int i13), s14, .val (.int i15), .val (.int i16), .val (.ref o17), s18, s19] [(.int (8 : Int32)), (.int (8 : Int32)), (.ref o17)])) _
  refine XS.iload X0.here hx rfl (hb hby at_436) rfl ?_
  show Steps p.tables e below (T0.setTop (mkF m 438 #[s0, s1, s2, s3, s4, s5, s6, .val (.ref o7), .val (.long j8), .second, .val (.int i10), .val (.int i11), .val (.int i12), .val (.int i13), s14, .val (.int i15), .val (.int i16), .val (.ref o17), s18, s19] [(.int i11), (.int (8 : Int32)), (.int (8 : Int32)), (.ref o17)])) _
  refine XS.iload X0.here hx rfl (hb hby at_438) rfl ?_
  show Steps p.tables e below (T0.setTop (mkF m 440 #[s0, s1, s2, s3, s4, s5, s6, .val (.ref o7), .val (.long j8), .second, .val (.int i10), .val (.int i11), .val (.int i12), .val (.int i13), s14, .val (.int i15), .val (.int i16), .val (.ref o17), s18, s19] [(.int i10), (.int i11), (.int (8 : Int32)), (.int (8 : Int32)), (.ref o17)])) _
  refine XS.lload X0.here hx rfl (hb hby at_440) rfl ?_
  show Steps p.tables e below (T0.setTop (mkF m 442 #[s0, s1, s2, s3, s4, s5, s6, .val (.ref o7), .val (.long j8), .second, .val (.int i10), .val (.int i11), .val (.int i12), .val (.int i13), s14, .val (.int i15), .val (.int i16), .val (.ref o17), s18, s19] [(.long j8), (.int i10), (.int i11), (.int (8 : Int32)), (.int (8 : Int32)), (.ref o17)])) _
  refine XS.iload X0.here hx rfl (hb hby at_442) rfl ?_
  show Steps p.tables e below (T0.setTop (mkF m 444 #[s0, s1, s2, s3, s4, s5, s6, .val (.ref o7), .val (.long j8), .second, .val (.int i10), .val (.int i11), .val (.int i12), .val (.int i13), s14, .val (.int i15), .val (.int i16), .val (.ref o17), s18, s19] [(.int i13), (.long j8), (.int i10), (.int i11), (.int (8 : Int32)), (.int (8 : Int32)), (.ref o17)])) _
  refine XS.iload X0.here hx rfl (hb hby at_444) rfl ?_
  show Steps p.tables e below (T0.setTop (mkF m 446 #[s0, s1, s2, s3, s4, s5, s6, .val (.ref o7), .val (.long j8), .second, .val (.int i10), .val (.int i11), .val (.int i12), .val (.int i13), s14, .val (.int i15), .val (.int i16), .val (.ref o17), s18, s19] [(.int i12), (.int i13), (.long j8), (.int i10), (.int i11), (.int (8 : Int32)), (.int (8 : Int32)), (.ref o17)])) _
  refine XS.iload X0.here hx rfl (hb hby at_446) rfl ?_
  show Steps p.tables e below (T0.setTop (mkF m 448 #[s0, s1, s2, s3, s4, s5, s6, .val (.ref o7), .val (.long j8), .second, .val (.int i10), .val (.int i11), .val (.int i12), .val (.int i13), s14, .val (.int i15), .val (.int i16), .val (.ref o17), s18, s19] [(.int i15), (.int i12), (.int i13), (.long j8), (.int i10), (.int i11), (.int (8 : Int32)), (.int (8 : Int32)), (.ref o17)])) _
  refine XS.iload X0.here hx rfl (hb hby at_448) rfl ?_
  show Steps p.tables e below (T0.setTop (mkF m 450 #[s0, s1, s2, s3, s4, s5, s6, .val (.ref o7), .val (.long j8), .second, .val (.int i10), .val (.int i11), .val (.int i12), .val (.int i13), s14, .val (.int i15), .val (.int i16), .val (.ref o17), s18, s19] [(.int i16), (.int i15), (.int i12), (.int i13), (.long j8), (.int i10), (.int i11), (.int (8 : Int32)), (.int (8 : Int32)), (.ref o17)])) _
  refine XS.aload X0.here hx rfl (hb hby at_450) rfl rfl ?_
  show Steps p.tables e below (T0.setTop (mkF m 452 #[s0, s1, s2, s3, s4, s5, s6, .val (.ref o7), .val (.long j8), .second, .val (.int i10), .val (.int i11), .val (.int i12), .val (.int i13), s14, .val (.int i15), .val (.int i16), .val (.ref o17), s18, s19] [(.ref o7), (.int i16), (.int i15), (.int i12), (.int i13), (.long j8), (.int i10), (.int i11), (.int (8 : Int32)), (.int (8 : Int32)), (.ref o17)])) _
  refine st7 _ ?_
  show Steps p.tables e below (T7.setTop (mkF m 455 #[s0, s1, s2, s3, s4, s5, s6, .val (.ref o7), .val (.long j8), .second, .val (.int i10), .val (.int i11), .val (.int i12), .val (.int i13), s14, .val (.int i15), .val (.int i16), .val (.ref o17), s18, s19] [(.int (own_cell (8 : Int32) i11 i10 j8 i13 i12 i15 i16)), (.int (8 : Int32)), (.ref o17)])) _
  refine st8 _ ?_
  exact kt
set_option maxRecDepth 65536 in
set_option maxHeartbeats 40000000 in
theorem tn0_456_482 {p : Program} {l : Launch} {e : Env} {s : State} {m : MethodId} {args : Array Value} {below : List Frame} {meth : Method} {c : Code} {T0 : State} {locs : List Loc} {Z : State} {a0 : Array Value} {h0 : Heap} (s0 : Slot) (s1 : Slot) (s2 : Slot) (s3 : Slot) (s4 : Slot) (s5 : Slot) (s6 : Slot) (o7 : Addr) (j8 : Int64) (i10 : Int32) (i11 : Int32) (i12 : Int32) (i13 : Int32) (s14 : Slot) (i15 : Int32) (i16 : Int32) (o17 : Addr) (s18 : Slot) (s19 : Slot) (n0 : Nat) (kb kP : ClassId) (vs : List Value)
    (X0 : Stand p l e room_1 s m args below meth c T0 locs 2 40) (hx : p.tables.exec = Jvm.exec) (hZ : Z.Warmed39 s.vm) (hw : ∀ d ∈ tables_1, d.before a0 Z = true) (hby : c.code = code) (hml : c.maxLocals = 20) (hown : s.vm.findClass "quotewarden/NumbersWholeNumberPinLaw" = some m.cls) (e0 : T0.heap = h0) (N0 : Fr n0 locs) (Z0 : n0 ≤ h0.size) (V : Arv Z h0 o17 kb .byte (21 : Int32) vs (.int (0 : Int32))) (hvs : vs.length = 21) (P : Arv Z h0 o7 kP .long (19 : Int32) (own_P.map Value.long) (.long (0 : Int64))) (ne : o7 ≠ o17) (g_o17 : n0 ≤ o17) (h19 : i10.toInt ≤ 19) :
    ∃ (T' : State) (h' : Heap) (L' : List Loc), Stand p l e room_1 s m args below meth c T' L' 2 40 ∧ T'.heap = h' ∧ (Fr n0 L' ∧ n0 ≤ h'.size ∧ Arv Z h' o17 kb .byte (21 : Int32) (vs.set 9 (.int (own_cell (9 : Int32) i11 i10 j8 i13 i12 i15 i16).toInt8.toInt32)) (.int (0 : Int32)) ∧ Arv Z h' o7 kP .long (19 : Int32) (own_P.map Value.long) (.long (0 : Int64))) ∧
      ∀ target, Steps p.tables e below (T'.setTop (mkF m 482 #[s0, s1, s2, s3, s4, s5, s6, .val (.ref o7), .val (.long j8), .second, .val (.int i10), .val (.int i11), .val (.int i12), .val (.int i13), s14, .val (.int i15), .val (.int i16), .val (.ref o17), s18, s19] [])) target → Steps p.tables e below (T0.setTop (mkF m 456 #[s0, s1, s2, s3, s4, s5, s6, .val (.ref o7), .val (.long j8), .second, .val (.int i10), .val (.int i11), .val (.int i12), .val (.int i13), s14, .val (.int i15), .val (.int i16), .val (.ref o17), s18, s19] [])) target := by
  obtain ⟨_, _, ⟨T7, L7, k7, n7⟩, -, X7, ⟨Lc7, hQ7, l7, y7, z7⟩, st7⟩ := Jvm.LawKit.callS X0 hx (y := (⟨"quotewarden/NumbersWholeNumberPinLaw", "cell", "(IIIJIZBB[J)B"⟩ : MethodName)) hown (mvT hZ (hw _ (List.mem_of_getElem? (i := 22) rfl))) (mvT hZ (hw _ (List.mem_of_getElem? (i := 23) rfl))) (mvT hZ (hw _ (List.mem_of_getElem? (i := 24) rfl))) (mvT hZ (hw _ (List.mem_of_getElem? (i := 25) rfl))) (by decide) (backOf (W := 2) (rm1 l Z a0 hw [] (9 : Int32) i11 i10 j8 i13 i12 i15 i16 o7  h0 n0 Z0 kP P h19) hZ (hw _ (List.mem_of_getElem? (i := 25) rfl)) (hw _ (List.mem_of_getElem? (i := 24) rfl)) (by decide) (by decide)) (g := (mkF m 478 #[s0, s1, s2, s3, s4, s5, s6, .val (.ref o7), .val (.long j8), .second, .val (.int i10), .val (.int i11), .val (.int i12), .val (.int i13), s14, .val (.int i15), .val (.int i16), .val (.ref o17), s18, s19] [(.ref o7), (.int i16), (.int i15), (.int i12), (.int i13), (.long j8), (.int i10), (.int i11), (.int (9 : Int32)), (.int (9 : Int32)), (.ref o17)])) rfl (by rw [hml]; rfl) (argsL := [(.int (9 : Int32)), (.int i11), (.int i10), (.long j8), (.int i13), (.int i12), (.int i15), (.int i16), (.ref o7)]) (rest := [(.int (9 : Int32)), (.ref o17)]) (lenOf pd_0_0 rfl) rfl (by show 2 * 0 + _ ≤ _; exact Nat.le_of_eq rfl) (hb hby at_478) (fun _ _ => ⟨rfl, e0, (by decide : 2 + 0 ≤ _), (by decide : 40 + 0 ≤ _)⟩)
  dsimp only [Pt.U, Pt.locs, Pt.cells, Pt.slots] at X7 l7 y7 z7 st7 hQ7
  subst l7 y7 z7
  obtain ⟨rfl, N7q, e7q⟩ := hQ7
  have N7 := Fr.app N0 N7q
  obtain ⟨cl_o17, Ar_o17, q_o17, S_o17, N_o17, H_o17, G_o17⟩ := V
  have hin481 : ¬ ((9 : Int32) < 0 ∨ cl_o17.slots.size ≤ ((9 : Int32)).toNatClampNeg) := inb_of S_o17 ⟨by decide, by decide⟩
  obtain ⟨T8, h8, X8, e8, W8, st8⟩ := stB X7 hx hZ e7q Ar_o17 (j := (9 : Int32)) hin481 (g := (mkF m 481 #[s0, s1, s2, s3, s4, s5, s6, .val (.ref o7), .val (.long j8), .second, .val (.int i10), .val (.int i11), .val (.int i12), .val (.int i13), s14, .val (.int i15), .val (.int i16), .val (.ref o17), s18, s19] [(.int (own_cell (9 : Int32) i11 i10 j8 i13 i12 i15 i16)), (.int (9 : Int32)), (.ref o17)])) rfl rfl (hb hby at_481)
  have N8 := Fr.snoc X8 N7 g_o17
  refine ⟨T8, h8, _, X8, e8, ⟨N8, Nat.le_trans Z0 (Nat.le_of_eq W8.size.symm), Arv.set Ar_o17 q_o17 S_o17 N_o17 H_o17 G_o17 (fits_nar_byte _) W8 9 rfl (by omega), P.other W8 ne⟩, fun target kt => ?_⟩
  show Steps p.tables e below (T0.setTop (mkF m 456 #[s0, s1, s2, s3, s4, s5, s6, .val (.ref o7), .val (.long j8), .second, .val (.int i10), .val (.int i11), .val (.int i12), .val (.int i13), s14, .val (.int i15), .val (.int i16), .val (.ref o17), s18, s19] [])) _
  refine XS.aload X0.here hx rfl (hb hby at_456) rfl rfl ?_
  show Steps p.tables e below (T0.setTop (mkF m 458 #[s0, s1, s2, s3, s4, s5, s6, .val (.ref o7), .val (.long j8), .second, .val (.int i10), .val (.int i11), .val (.int i12), .val (.int i13), s14, .val (.int i15), .val (.int i16), .val (.ref o17), s18, s19] [(.ref o17)])) _
  refine XS.bipush X0.here hx rfl (hb hby at_458) ?_
  show Steps p.tables e below (T0.setTop (mkF m 460 #[s0, s1, s2, s3, s4, s5, s6, .val (.ref o7), .val (.long j8), .second, .val (.int i10), .val (.int i11), .val (.int i12), .val (.int i13), s14, .val (.int i15), .val (.int i16), .val (.ref o17), s18, s19] [(.int (9 : Int32)), (.ref o17)])) _
  refine XS.bipush X0.here hx rfl (hb hby at_460) ?_
  show Steps p.tables e below (T0.setTop (mkF m 462 #[s0, s1, s2, s3, s4, s5, s6, .val (.ref o7), .val (.long j8), .second, .val (.int i10), .val (.int i11), .val (.int i12), .val (.int i13), s14, .val (.int i15), .val (.int i16), .val (.ref o17), s18, s19] [(.int (9 : Int32)), (.int (9 : Int32)), (.ref o17)])) _
  refine XS.iload X0.here hx rfl (hb hby at_462) rfl ?_
  show Steps p.tables e below (T0.setTop (mkF m 464 #[s0, s1, s2, s3, s4, s5, s6, .val (.ref o7), .val (.long j8), .second, .val (.int i10), .val (.int i11), .val (.int i12), .val (.int i13), s14, .val (.int i15), .val (.int i16), .val (.ref o17), s18, s19] [(.int i11), (.int (9 : Int32)), (.int (9 : Int32)), (.ref o17)])) _
  refine XS.iload X0.here hx rfl (hb hby at_464) rfl ?_
  show Steps p.tables e below (T0.setTop (mkF m 466 #[s0, s1, s2, s3, s4, s5, s6, .val (.ref o7), .val (.long j8), .second, .val (.int i10), .val (.int i11), .val (.int i12), .val (.int i13), s14, .val (.int i15), .val (.int i16), .val (.ref o17), s18, s19] [(.int i10), (.int i11), (.int (9 : Int32)), (.int (9 : Int32)), (.ref o17)])) _
  refine XS.lload X0.here hx rfl (hb hby at_466) rfl ?_
  show Steps p.tables e below (T0.setTop (mkF m 468 #[s0, s1, s2, s3, s4, s5, s6, .val (.ref o7), .val (.long j8), .second, .val (.int i10), .val (.int i11), .val (.int i12), .val (.int i13), s14, .val (.int i15), .val (.int i16), .val (.ref o17), s18, s19] [(.long j8), (.int i10), (.int i11), (.int (9 : Int32)), (.int (9 : Int32)), (.ref o17)])) _
  refine XS.iload X0.here hx rfl (hb hby at_468) rfl ?_
  show Steps p.tables e below (T0.setTop (mkF m 470 #[s0, s1, s2, s3, s4, s5, s6, .val (.ref o7), .val (.long j8), .second, .val (.int i10), .val (.int i11), .val (.int i12), .val (.int i13), s14, .val (.int i15), .val (.int i16), .val (.ref o17), s18, s19] [(.int i13), (.long j8), (.int i10), (.int i11), (.int (9 : Int32)), (.int (9 : Int32)), (.ref o17)])) _
  refine XS.iload X0.here hx rfl (hb hby at_470) rfl ?_
  show Steps p.tables e below (T0.setTop (mkF m 472 #[s0, s1, s2, s3, s4, s5, s6, .val (.ref o7), .val (.long j8), .second, .val (.int i10), .val (.int i11), .val (.int i12), .val (.int i13), s14, .val (.int i15), .val (.int i16), .val (.ref o17), s18, s19] [(.int i12), (.int i13), (.long j8), (.int i10), (.int i11), (.int (9 : Int32)), (.int (9 : Int32)), (.ref o17)])) _
  refine XS.iload X0.here hx rfl (hb hby at_472) rfl ?_
  show Steps p.tables e below (T0.setTop (mkF m 474 #[s0, s1, s2, s3, s4, s5, s6, .val (.ref o7), .val (.long j8), .second, .val (.int i10), .val (.int i11), .val (.int i12), .val (.int i13), s14, .val (.int i15), .val (.int i16), .val (.ref o17), s18, s19] [(.int i15), (.int i12), (.int i13), (.long j8), (.int i10), (.int i11), (.int (9 : Int32)), (.int (9 : Int32)), (.ref o17)])) _
  refine XS.iload X0.here hx rfl (hb hby at_474) rfl ?_
  show Steps p.tables e below (T0.setTop (mkF m 476 #[s0, s1, s2, s3, s4, s5, s6, .val (.ref o7), .val (.long j8), .second, .val (.int i10), .val (.int i11), .val (.int i12), .val (.int i13), s14, .val (.int i15), .val (.int i16), .val (.ref o17), s18, s19] [(.int i16), (.int i15), (.int i12), (.int i13), (.long j8), (.int i10), (.int i11), (.int (9 : Int32)), (.int (9 : Int32)), (.ref o17)])) _
  refine XS.aload X0.here hx rfl (hb hby at_476) rfl rfl ?_
  show Steps p.tables e below (T0.setTop (mkF m 478 #[s0, s1, s2, s3, s4, s5, s6, .val (.ref o7), .val (.long j8), .second, .val (.int i10), .val (.int i11), .val (.int i12), .val (.int i13), s14, .val (.int i15), .val (.int i16), .val (.ref o17), s18, s19] [(.ref o7), (.int i16), (.int i15), (.int i12), (.int i13), (.long j8), (.int i10), (.int i11), (.int (9 : Int32)), (.int (9 : Int32)), (.ref o17)])) _
  refine st7 _ ?_
  show Steps p.tables e below (T7.setTop (mkF m 481 #[s0, s1, s2, s3, s4, s5, s6, .val (.ref o7), .val (.long j8), .second, .val (.int i10), .val (.int i11), .val (.int i12), .val (.int i13), s14, .val (.int i15), .val (.int i16), .val (.ref o17), s18, s19] [(.int (own_cell (9 : Int32) i11 i10 j8 i13 i12 i15 i16)), (.int (9 : Int32)), (.ref o17)])) _
  refine st8 _ ?_
  exact kt
set_option maxRecDepth 65536 in
set_option maxHeartbeats 40000000 in
theorem tn0_482_508 {p : Program} {l : Launch} {e : Env} {s : State} {m : MethodId} {args : Array Value} {below : List Frame} {meth : Method} {c : Code} {T0 : State} {locs : List Loc} {Z : State} {a0 : Array Value} {h0 : Heap} (s0 : Slot) (s1 : Slot) (s2 : Slot) (s3 : Slot) (s4 : Slot) (s5 : Slot) (s6 : Slot) (o7 : Addr) (j8 : Int64) (i10 : Int32) (i11 : Int32) (i12 : Int32) (i13 : Int32) (s14 : Slot) (i15 : Int32) (i16 : Int32) (o17 : Addr) (s18 : Slot) (s19 : Slot) (n0 : Nat) (kb kP : ClassId) (vs : List Value)
    (X0 : Stand p l e room_1 s m args below meth c T0 locs 2 40) (hx : p.tables.exec = Jvm.exec) (hZ : Z.Warmed39 s.vm) (hw : ∀ d ∈ tables_1, d.before a0 Z = true) (hby : c.code = code) (hml : c.maxLocals = 20) (hown : s.vm.findClass "quotewarden/NumbersWholeNumberPinLaw" = some m.cls) (e0 : T0.heap = h0) (N0 : Fr n0 locs) (Z0 : n0 ≤ h0.size) (V : Arv Z h0 o17 kb .byte (21 : Int32) vs (.int (0 : Int32))) (hvs : vs.length = 21) (P : Arv Z h0 o7 kP .long (19 : Int32) (own_P.map Value.long) (.long (0 : Int64))) (ne : o7 ≠ o17) (g_o17 : n0 ≤ o17) (h19 : i10.toInt ≤ 19) :
    ∃ (T' : State) (h' : Heap) (L' : List Loc), Stand p l e room_1 s m args below meth c T' L' 2 40 ∧ T'.heap = h' ∧ (Fr n0 L' ∧ n0 ≤ h'.size ∧ Arv Z h' o17 kb .byte (21 : Int32) (vs.set 10 (.int (own_cell (10 : Int32) i11 i10 j8 i13 i12 i15 i16).toInt8.toInt32)) (.int (0 : Int32)) ∧ Arv Z h' o7 kP .long (19 : Int32) (own_P.map Value.long) (.long (0 : Int64))) ∧
      ∀ target, Steps p.tables e below (T'.setTop (mkF m 508 #[s0, s1, s2, s3, s4, s5, s6, .val (.ref o7), .val (.long j8), .second, .val (.int i10), .val (.int i11), .val (.int i12), .val (.int i13), s14, .val (.int i15), .val (.int i16), .val (.ref o17), s18, s19] [])) target → Steps p.tables e below (T0.setTop (mkF m 482 #[s0, s1, s2, s3, s4, s5, s6, .val (.ref o7), .val (.long j8), .second, .val (.int i10), .val (.int i11), .val (.int i12), .val (.int i13), s14, .val (.int i15), .val (.int i16), .val (.ref o17), s18, s19] [])) target := by
  obtain ⟨_, _, ⟨T7, L7, k7, n7⟩, -, X7, ⟨Lc7, hQ7, l7, y7, z7⟩, st7⟩ := Jvm.LawKit.callS X0 hx (y := (⟨"quotewarden/NumbersWholeNumberPinLaw", "cell", "(IIIJIZBB[J)B"⟩ : MethodName)) hown (mvT hZ (hw _ (List.mem_of_getElem? (i := 22) rfl))) (mvT hZ (hw _ (List.mem_of_getElem? (i := 23) rfl))) (mvT hZ (hw _ (List.mem_of_getElem? (i := 24) rfl))) (mvT hZ (hw _ (List.mem_of_getElem? (i := 25) rfl))) (by decide) (backOf (W := 2) (rm1 l Z a0 hw [] (10 : Int32) i11 i10 j8 i13 i12 i15 i16 o7  h0 n0 Z0 kP P h19) hZ (hw _ (List.mem_of_getElem? (i := 25) rfl)) (hw _ (List.mem_of_getElem? (i := 24) rfl)) (by decide) (by decide)) (g := (mkF m 504 #[s0, s1, s2, s3, s4, s5, s6, .val (.ref o7), .val (.long j8), .second, .val (.int i10), .val (.int i11), .val (.int i12), .val (.int i13), s14, .val (.int i15), .val (.int i16), .val (.ref o17), s18, s19] [(.ref o7), (.int i16), (.int i15), (.int i12), (.int i13), (.long j8), (.int i10), (.int i11), (.int (10 : Int32)), (.int (10 : Int32)), (.ref o17)])) rfl (by rw [hml]; rfl) (argsL := [(.int (10 : Int32)), (.int i11), (.int i10), (.long j8), (.int i13), (.int i12), (.int i15), (.int i16), (.ref o7)]) (rest := [(.int (10 : Int32)), (.ref o17)]) (lenOf pd_0_0 rfl) rfl (by show 2 * 0 + _ ≤ _; exact Nat.le_of_eq rfl) (hb hby at_504) (fun _ _ => ⟨rfl, e0, (by decide : 2 + 0 ≤ _), (by decide : 40 + 0 ≤ _)⟩)
  dsimp only [Pt.U, Pt.locs, Pt.cells, Pt.slots] at X7 l7 y7 z7 st7 hQ7
  subst l7 y7 z7
  obtain ⟨rfl, N7q, e7q⟩ := hQ7
  have N7 := Fr.app N0 N7q
  obtain ⟨cl_o17, Ar_o17, q_o17, S_o17, N_o17, H_o17, G_o17⟩ := V
  have hin507 : ¬ ((10 : Int32) < 0 ∨ cl_o17.slots.size ≤ ((10 : Int32)).toNatClampNeg) := inb_of S_o17 ⟨by decide, by decide⟩
  obtain ⟨T8, h8, X8, e8, W8, st8⟩ := stB X7 hx hZ e7q Ar_o17 (j := (10 : Int32)) hin507 (g := (mkF m 507 #[s0, s1, s2, s3, s4, s5, s6, .val (.ref o7), .val (.long j8), .second, .val (.int i10), .val (.int i11), .val (.int i12), .val (.int i13), s14, .val (.int i15), .val (.int i16), .val (.ref o17), s18, s19] [(.int (own_cell (10 : Int32) i11 i10 j8 i13 i12 i15 i16)), (.int (10 : Int32)), (.ref o17)])) rfl rfl (hb hby at_507)
  have N8 := Fr.snoc X8 N7 g_o17
  refine ⟨T8, h8, _, X8, e8, ⟨N8, Nat.le_trans Z0 (Nat.le_of_eq W8.size.symm), Arv.set Ar_o17 q_o17 S_o17 N_o17 H_o17 G_o17 (fits_nar_byte _) W8 10 rfl (by omega), P.other W8 ne⟩, fun target kt => ?_⟩
  show Steps p.tables e below (T0.setTop (mkF m 482 #[s0, s1, s2, s3, s4, s5, s6, .val (.ref o7), .val (.long j8), .second, .val (.int i10), .val (.int i11), .val (.int i12), .val (.int i13), s14, .val (.int i15), .val (.int i16), .val (.ref o17), s18, s19] [])) _
  refine XS.aload X0.here hx rfl (hb hby at_482) rfl rfl ?_
  show Steps p.tables e below (T0.setTop (mkF m 484 #[s0, s1, s2, s3, s4, s5, s6, .val (.ref o7), .val (.long j8), .second, .val (.int i10), .val (.int i11), .val (.int i12), .val (.int i13), s14, .val (.int i15), .val (.int i16), .val (.ref o17), s18, s19] [(.ref o17)])) _
  refine XS.bipush X0.here hx rfl (hb hby at_484) ?_
  show Steps p.tables e below (T0.setTop (mkF m 486 #[s0, s1, s2, s3, s4, s5, s6, .val (.ref o7), .val (.long j8), .second, .val (.int i10), .val (.int i11), .val (.int i12), .val (.int i13), s14, .val (.int i15), .val (.int i16), .val (.ref o17), s18, s19] [(.int (10 : Int32)), (.ref o17)])) _
  refine XS.bipush X0.here hx rfl (hb hby at_486) ?_
  show Steps p.tables e below (T0.setTop (mkF m 488 #[s0, s1, s2, s3, s4, s5, s6, .val (.ref o7), .val (.long j8), .second, .val (.int i10), .val (.int i11), .val (.int i12), .val (.int i13), s14, .val (.int i15), .val (.int i16), .val (.ref o17), s18, s19] [(.int (10 : Int32)), (.int (10 : Int32)), (.ref o17)])) _
  refine XS.iload X0.here hx rfl (hb hby at_488) rfl ?_
  show Steps p.tables e below (T0.setTop (mkF m 490 #[s0, s1, s2, s3, s4, s5, s6, .val (.ref o7), .val (.long j8), .second, .val (.int i10), .val (.int i11), .val (.int i12), .val (.int i13), s14, .val (.int i15), .val (.int i16), .val (.ref o17), s18, s19] [(.int i11), (.int (10 : Int32)), (.int (10 : Int32)), (.ref o17)])) _
  refine XS.iload X0.here hx rfl (hb hby at_490) rfl ?_
  show Steps p.tables e below (T0.setTop (mkF m 492 #[s0, s1, s2, s3, s4, s5, s6, .val (.ref o7), .val (.long j8), .second, .val (.int i10), .val (.int i11), .val (.int i12), .val (.int i13), s14, .val (.int i15), .val (.int i16), .val (.ref o17), s18, s19] [(.int i10), (.int i11), (.int (10 : Int32)), (.int (10 : Int32)), (.ref o17)])) _
  refine XS.lload X0.here hx rfl (hb hby at_492) rfl ?_
  show Steps p.tables e below (T0.setTop (mkF m 494 #[s0, s1, s2, s3, s4, s5, s6, .val (.ref o7), .val (.long j8), .second, .val (.int i10), .val (.int i11), .val (.int i12), .val (.int i13), s14, .val (.int i15), .val (.int i16), .val (.ref o17), s18, s19] [(.long j8), (.int i10), (.int i11), (.int (10 : Int32)), (.int (10 : Int32)), (.ref o17)])) _
  refine XS.iload X0.here hx rfl (hb hby at_494) rfl ?_
  show Steps p.tables e below (T0.setTop (mkF m 496 #[s0, s1, s2, s3, s4, s5, s6, .val (.ref o7), .val (.long j8), .second, .val (.int i10), .val (.int i11), .val (.int i12), .val (.int i13), s14, .val (.int i15), .val (.int i16), .val (.ref o17), s18, s19] [(.int i13), (.long j8), (.int i10), (.int i11), (.int (10 : Int32)), (.int (10 : Int32)), (.ref o17)])) _
  refine XS.iload X0.here hx rfl (hb hby at_496) rfl ?_
  show Steps p.tables e below (T0.setTop (mkF m 498 #[s0, s1, s2, s3, s4, s5, s6, .val (.ref o7), .val (.long j8), .second, .val (.int i10), .val (.int i11), .val (.int i12), .val (.int i13), s14, .val (.int i15), .val (.int i16), .val (.ref o17), s18, s19] [(.int i12), (.int i13), (.long j8), (.int i10), (.int i11), (.int (10 : Int32)), (.int (10 : Int32)), (.ref o17)])) _
  refine XS.iload X0.here hx rfl (hb hby at_498) rfl ?_
  show Steps p.tables e below (T0.setTop (mkF m 500 #[s0, s1, s2, s3, s4, s5, s6, .val (.ref o7), .val (.long j8), .second, .val (.int i10), .val (.int i11), .val (.int i12), .val (.int i13), s14, .val (.int i15), .val (.int i16), .val (.ref o17), s18, s19] [(.int i15), (.int i12), (.int i13), (.long j8), (.int i10), (.int i11), (.int (10 : Int32)), (.int (10 : Int32)), (.ref o17)])) _
  refine XS.iload X0.here hx rfl (hb hby at_500) rfl ?_
  show Steps p.tables e below (T0.setTop (mkF m 502 #[s0, s1, s2, s3, s4, s5, s6, .val (.ref o7), .val (.long j8), .second, .val (.int i10), .val (.int i11), .val (.int i12), .val (.int i13), s14, .val (.int i15), .val (.int i16), .val (.ref o17), s18, s19] [(.int i16), (.int i15), (.int i12), (.int i13), (.long j8), (.int i10), (.int i11), (.int (10 : Int32)), (.int (10 : Int32)), (.ref o17)])) _
  refine XS.aload X0.here hx rfl (hb hby at_502) rfl rfl ?_
  show Steps p.tables e below (T0.setTop (mkF m 504 #[s0, s1, s2, s3, s4, s5, s6, .val (.ref o7), .val (.long j8), .second, .val (.int i10), .val (.int i11), .val (.int i12), .val (.int i13), s14, .val (.int i15), .val (.int i16), .val (.ref o17), s18, s19] [(.ref o7), (.int i16), (.int i15), (.int i12), (.int i13), (.long j8), (.int i10), (.int i11), (.int (10 : Int32)), (.int (10 : Int32)), (.ref o17)])) _
  refine st7 _ ?_
  show Steps p.tables e below (T7.setTop (mkF m 507 #[s0, s1, s2, s3, s4, s5, s6, .val (.ref o7), .val (.long j8), .second, .val (.int i10), .val (.int i11), .val (.int i12), .val (.int i13), s14, .val (.int i15), .val (.int i16), .val (.ref o17), s18, s19] [(.int (own_cell (10 : Int32) i11 i10 j8 i13 i12 i15 i16)), (.int (10 : Int32)), (.ref o17)])) _
  refine st8 _ ?_
  exact kt
set_option maxRecDepth 65536 in
set_option maxHeartbeats 40000000 in
theorem tn0_508_534 {p : Program} {l : Launch} {e : Env} {s : State} {m : MethodId} {args : Array Value} {below : List Frame} {meth : Method} {c : Code} {T0 : State} {locs : List Loc} {Z : State} {a0 : Array Value} {h0 : Heap} (s0 : Slot) (s1 : Slot) (s2 : Slot) (s3 : Slot) (s4 : Slot) (s5 : Slot) (s6 : Slot) (o7 : Addr) (j8 : Int64) (i10 : Int32) (i11 : Int32) (i12 : Int32) (i13 : Int32) (s14 : Slot) (i15 : Int32) (i16 : Int32) (o17 : Addr) (s18 : Slot) (s19 : Slot) (n0 : Nat) (kb kP : ClassId) (vs : List Value)
    (X0 : Stand p l e room_1 s m args below meth c T0 locs 2 40) (hx : p.tables.exec = Jvm.exec) (hZ : Z.Warmed39 s.vm) (hw : ∀ d ∈ tables_1, d.before a0 Z = true) (hby : c.code = code) (hml : c.maxLocals = 20) (hown : s.vm.findClass "quotewarden/NumbersWholeNumberPinLaw" = some m.cls) (e0 : T0.heap = h0) (N0 : Fr n0 locs) (Z0 : n0 ≤ h0.size) (V : Arv Z h0 o17 kb .byte (21 : Int32) vs (.int (0 : Int32))) (hvs : vs.length = 21) (P : Arv Z h0 o7 kP .long (19 : Int32) (own_P.map Value.long) (.long (0 : Int64))) (ne : o7 ≠ o17) (g_o17 : n0 ≤ o17) (h19 : i10.toInt ≤ 19) :
    ∃ (T' : State) (h' : Heap) (L' : List Loc), Stand p l e room_1 s m args below meth c T' L' 2 40 ∧ T'.heap = h' ∧ (Fr n0 L' ∧ n0 ≤ h'.size ∧ Arv Z h' o17 kb .byte (21 : Int32) (vs.set 11 (.int (own_cell (11 : Int32) i11 i10 j8 i13 i12 i15 i16).toInt8.toInt32)) (.int (0 : Int32)) ∧ Arv Z h' o7 kP .long (19 : Int32) (own_P.map Value.long) (.long (0 : Int64))) ∧
      ∀ target, Steps p.tables e below (T'.setTop (mkF m 534 #[s0, s1, s2, s3, s4, s5, s6, .val (.ref o7), .val (.long j8), .second, .val (.int i10), .val (.int i11), .val (.int i12), .val (.int i13), s14, .val (.int i15), .val (.int i16), .val (.ref o17), s18, s19] [])) target → Steps p.tables e below (T0.setTop (mkF m 508 #[s0, s1, s2, s3, s4, s5, s6, .val (.ref o7), .val (.long j8), .second, .val (.int i10), .val (.int i11), .val (.int i12), .val (.int i13), s14, .val (.int i15), .val (.int i16), .val (.ref o17), s18, s19] [])) target := by
  obtain ⟨_, _, ⟨T7, L7, k7, n7⟩, -, X7, ⟨Lc7, hQ7, l7, y7, z7⟩, st7⟩ := Jvm.LawKit.callS X0 hx (y := (⟨"quotewarden/NumbersWholeNumberPinLaw", "cell", "(IIIJIZBB[J)B"⟩ : MethodName)) hown (mvT hZ (hw _ (List.mem_of_getElem? (i := 22) rfl))) (mvT hZ (hw _ (List.mem_of_getElem? (i := 23) rfl))) (mvT hZ (hw _ (List.mem_of_getElem? (i := 24) rfl))) (mvT hZ (hw _ (List.mem_of_getElem? (i := 25) rfl))) (by decide) (backOf (W := 2) (rm1 l Z a0 hw [] (11 : Int32) i11 i10 j8 i13 i12 i15 i16 o7  h0 n0 Z0 kP P h19) hZ (hw _ (List.mem_of_getElem? (i := 25) rfl)) (hw _ (List.mem_of_getElem? (i := 24) rfl)) (by decide) (by decide)) (g := (mkF m 530 #[s0, s1, s2, s3, s4, s5, s6, .val (.ref o7), .val (.long j8), .second, .val (.int i10), .val (.int i11), .val (.int i12), .val (.int i13), s14, .val (.int i15), .val (.int i16), .val (.ref o17), s18, s19] [(.ref o7), (.int i16), (.int i15), (.int i12), (.int i13), (.long j8), (.int i10), (.int i11), (.int (11 : Int32)), (.int (11 : Int32)), (.ref o17)])) rfl (by rw [hml]; rfl) (argsL := [(.int (11 : Int32)), (.int i11), (.int i10), (.long j8), (.int i13), (.int i12), (.int i15), (.int i16), (.ref o7)]) (rest := [(.int (11 : Int32)), (.ref o17)]) (lenOf pd_0_0 rfl) rfl (by show 2 * 0 + _ ≤ _; exact Nat.le_of_eq rfl) (hb hby at_530) (fun _ _ => ⟨rfl, e0, (by decide : 2 + 0 ≤ _), (by decide : 40 + 0 ≤ _)⟩)
  dsimp only [Pt.U, Pt.locs, Pt.cells, Pt.slots] at X7 l7 y7 z7 st7 hQ7
  subst l7 y7 z7
  obtain ⟨rfl, N7q, e7q⟩ := hQ7
  have N7 := Fr.app N0 N7q
  obtain ⟨cl_o17, Ar_o17, q_o17, S_o17, N_o17, H_o17, G_o17⟩ := V
  have hin533 : ¬ ((11 : Int32) < 0 ∨ cl_o17.slots.size ≤ ((11 : Int32)).toNatClampNeg) := inb_of S_o17 ⟨by decide, by decide⟩
  obtain ⟨T8, h8, X8, e8, W8, st8⟩ := stB X7 hx hZ e7q Ar_o17 (j := (11 : Int32)) hin533 (g := (mkF m 533 #[s0, s1, s2, s3, s4, s5, s6, .val (.ref o7), .val (.long j8), .second, .val (.int i10), .val (.int i11), .val (.int i12), .val (.int i13), s14, .val (.int i15), .val (.int i16), .val (.ref o17), s18, s19] [(.int (own_cell (11 : Int32) i11 i10 j8 i13 i12 i15 i16)), (.int (11 : Int32)), (.ref o17)])) rfl rfl (hb hby at_533)
  have N8 := Fr.snoc X8 N7 g_o17
  refine ⟨T8, h8, _, X8, e8, ⟨N8, Nat.le_trans Z0 (Nat.le_of_eq W8.size.symm), Arv.set Ar_o17 q_o17 S_o17 N_o17 H_o17 G_o17 (fits_nar_byte _) W8 11 rfl (by omega), P.other W8 ne⟩, fun target kt => ?_⟩
  show Steps p.tables e below (T0.setTop (mkF m 508 #[s0, s1, s2, s3, s4, s5, s6, .val (.ref o7), .val (.long j8), .second, .val (.int i10), .val (.int i11), .val (.int i12), .val (.int i13), s14, .val (.int i15), .val (.int i16), .val (.ref o17), s18, s19] [])) _
  refine XS.aload X0.here hx rfl (hb hby at_508) rfl rfl ?_
  show Steps p.tables e below (T0.setTop (mkF m 510 #[s0, s1, s2, s3, s4, s5, s6, .val (.ref o7), .val (.long j8), .second, .val (.int i10), .val (.int i11), .val (.int i12), .val (.int i13), s14, .val (.int i15), .val (.int i16), .val (.ref o17), s18, s19] [(.ref o17)])) _
  refine XS.bipush X0.here hx rfl (hb hby at_510) ?_
  show Steps p.tables e below (T0.setTop (mkF m 512 #[s0, s1, s2, s3, s4, s5, s6, .val (.ref o7), .val (.long j8), .second, .val (.int i10), .val (.int i11), .val (.int i12), .val (.int i13), s14, .val (.int i15), .val (.int i16), .val (.ref o17), s18, s19] [(.int (11 : Int32)), (.ref o17)])) _
  refine XS.bipush X0.here hx rfl (hb hby at_512) ?_
  show Steps p.tables e below (T0.setTop (mkF m 514 #[s0, s1, s2, s3, s4, s5, s6, .val (.ref o7), .val (.long j8), .second, .val (.int i10), .val (.int i11), .val (.int i12), .val (.int i13), s14, .val (.int i15), .val (.int i16), .val (.ref o17), s18, s19] [(.int (11 : Int32)), (.int (11 : Int32)), (.ref o17)])) _
  refine XS.iload X0.here hx rfl (hb hby at_514) rfl ?_
  show Steps p.tables e below (T0.setTop (mkF m 516 #[s0, s1, s2, s3, s4, s5, s6, .val (.ref o7), .val (.long j8), .second, .val (.int i10), .val (.int i11), .val (.int i12), .val (.int i13), s14, .val (.int i15), .val (.int i16), .val (.ref o17), s18, s19] [(.int i11), (.int (11 : Int32)), (.int (11 : Int32)), (.ref o17)])) _
  refine XS.iload X0.here hx rfl (hb hby at_516) rfl ?_
  show Steps p.tables e below (T0.setTop (mkF m 518 #[s0, s1, s2, s3, s4, s5, s6, .val (.ref o7), .val (.long j8), .second, .val (.int i10), .val (.int i11), .val (.int i12), .val (.int i13), s14, .val (.int i15), .val (.int i16), .val (.ref o17), s18, s19] [(.int i10), (.int i11), (.int (11 : Int32)), (.int (11 : Int32)), (.ref o17)])) _
  refine XS.lload X0.here hx rfl (hb hby at_518) rfl ?_
  show Steps p.tables e below (T0.setTop (mkF m 520 #[s0, s1, s2, s3, s4, s5, s6, .val (.ref o7), .val (.long j8), .second, .val (.int i10), .val (.int i11), .val (.int i12), .val (.int i13), s14, .val (.int i15), .val (.int i16), .val (.ref o17), s18, s19] [(.long j8), (.int i10), (.int i11), (.int (11 : Int32)), (.int (11 : Int32)), (.ref o17)])) _
  refine XS.iload X0.here hx rfl (hb hby at_520) rfl ?_
  show Steps p.tables e below (T0.setTop (mkF m 522 #[s0, s1, s2, s3, s4, s5, s6, .val (.ref o7), .val (.long j8), .second, .val (.int i10), .val (.int i11), .val (.int i12), .val (.int i13), s14, .val (.int i15), .val (.int i16), .val (.ref o17), s18, s19] [(.int i13), (.long j8), (.int i10), (.int i11), (.int (11 : Int32)), (.int (11 : Int32)), (.ref o17)])) _
  refine XS.iload X0.here hx rfl (hb hby at_522) rfl ?_
  show Steps p.tables e below (T0.setTop (mkF m 524 #[s0, s1, s2, s3, s4, s5, s6, .val (.ref o7), .val (.long j8), .second, .val (.int i10), .val (.int i11), .val (.int i12), .val (.int i13), s14, .val (.int i15), .val (.int i16), .val (.ref o17), s18, s19] [(.int i12), (.int i13), (.long j8), (.int i10), (.int i11), (.int (11 : Int32)), (.int (11 : Int32)), (.ref o17)])) _
  refine XS.iload X0.here hx rfl (hb hby at_524) rfl ?_
  show Steps p.tables e below (T0.setTop (mkF m 526 #[s0, s1, s2, s3, s4, s5, s6, .val (.ref o7), .val (.long j8), .second, .val (.int i10), .val (.int i11), .val (.int i12), .val (.int i13), s14, .val (.int i15), .val (.int i16), .val (.ref o17), s18, s19] [(.int i15), (.int i12), (.int i13), (.long j8), (.int i10), (.int i11), (.int (11 : Int32)), (.int (11 : Int32)), (.ref o17)])) _
  refine XS.iload X0.here hx rfl (hb hby at_526) rfl ?_
  show Steps p.tables e below (T0.setTop (mkF m 528 #[s0, s1, s2, s3, s4, s5, s6, .val (.ref o7), .val (.long j8), .second, .val (.int i10), .val (.int i11), .val (.int i12), .val (.int i13), s14, .val (.int i15), .val (.int i16), .val (.ref o17), s18, s19] [(.int i16), (.int i15), (.int i12), (.int i13), (.long j8), (.int i10), (.int i11), (.int (11 : Int32)), (.int (11 : Int32)), (.ref o17)])) _
  refine XS.aload X0.here hx rfl (hb hby at_528) rfl rfl ?_
  show Steps p.tables e below (T0.setTop (mkF m 530 #[s0, s1, s2, s3, s4, s5, s6, .val (.ref o7), .val (.long j8), .second, .val (.int i10), .val (.int i11), .val (.int i12), .val (.int i13), s14, .val (.int i15), .val (.int i16), .val (.ref o17), s18, s19] [(.ref o7), (.int i16), (.int i15), (.int i12), (.int i13), (.long j8), (.int i10), (.int i11), (.int (11 : Int32)), (.int (11 : Int32)), (.ref o17)])) _
  refine st7 _ ?_
  show Steps p.tables e below (T7.setTop (mkF m 533 #[s0, s1, s2, s3, s4, s5, s6, .val (.ref o7), .val (.long j8), .second, .val (.int i10), .val (.int i11), .val (.int i12), .val (.int i13), s14, .val (.int i15), .val (.int i16), .val (.ref o17), s18, s19] [(.int (own_cell (11 : Int32) i11 i10 j8 i13 i12 i15 i16)), (.int (11 : Int32)), (.ref o17)])) _
  refine st8 _ ?_
  exact kt
set_option maxRecDepth 65536 in
set_option maxHeartbeats 40000000 in
theorem tn0_534_560 {p : Program} {l : Launch} {e : Env} {s : State} {m : MethodId} {args : Array Value} {below : List Frame} {meth : Method} {c : Code} {T0 : State} {locs : List Loc} {Z : State} {a0 : Array Value} {h0 : Heap} (s0 : Slot) (s1 : Slot) (s2 : Slot) (s3 : Slot) (s4 : Slot) (s5 : Slot) (s6 : Slot) (o7 : Addr) (j8 : Int64) (i10 : Int32) (i11 : Int32) (i12 : Int32) (i13 : Int32) (s14 : Slot) (i15 : Int32) (i16 : Int32) (o17 : Addr) (s18 : Slot) (s19 : Slot) (n0 : Nat) (kb kP : ClassId) (vs : List Value)
    (X0 : Stand p l e room_1 s m args below meth c T0 locs 2 40) (hx : p.tables.exec = Jvm.exec) (hZ : Z.Warmed39 s.vm) (hw : ∀ d ∈ tables_1, d.before a0 Z = true) (hby : c.code = code) (hml : c.maxLocals = 20) (hown : s.vm.findClass "quotewarden/NumbersWholeNumberPinLaw" = some m.cls) (e0 : T0.heap = h0) (N0 : Fr n0 locs) (Z0 : n0 ≤ h0.size) (V : Arv Z h0 o17 kb .byte (21 : Int32) vs (.int (0 : Int32))) (hvs : vs.length = 21) (P : Arv Z h0 o7 kP .long (19 : Int32) (own_P.map Value.long) (.long (0 : Int64))) (ne : o7 ≠ o17) (g_o17 : n0 ≤ o17) (h19 : i10.toInt ≤ 19) :
    ∃ (T' : State) (h' : Heap) (L' : List Loc), Stand p l e room_1 s m args below meth c T' L' 2 40 ∧ T'.heap = h' ∧ (Fr n0 L' ∧ n0 ≤ h'.size ∧ Arv Z h' o17 kb .byte (21 : Int32) (vs.set 12 (.int (own_cell (12 : Int32) i11 i10 j8 i13 i12 i15 i16).toInt8.toInt32)) (.int (0 : Int32)) ∧ Arv Z h' o7 kP .long (19 : Int32) (own_P.map Value.long) (.long (0 : Int64))) ∧
      ∀ target, Steps p.tables e below (T'.setTop (mkF m 560 #[s0, s1, s2, s3, s4, s5, s6, .val (.ref o7), .val (.long j8), .second, .val (.int i10), .val (.int i11), .val (.int i12), .val (.int i13), s14, .val (.int i15), .val (.int i16), .val (.ref o17), s18, s19] [])) target → Steps p.tables e below (T0.setTop (mkF m 534 #[s0, s1, s2, s3, s4, s5, s6, .val (.ref o7), .val (.long j8), .second, .val (.int i10), .val (.int i11), .val (.int i12), .val (.int i13), s14, .val (.int i15), .val (.int i16), .val (.ref o17), s18, s19] [])) target := by
  obtain ⟨_, _, ⟨T7, L7, k7, n7⟩, -, X7, ⟨Lc7, hQ7, l7, y7, z7⟩, st7⟩ := Jvm.LawKit.callS X0 hx (y := (⟨"quotewarden/NumbersWholeNumberPinLaw", "cell", "(IIIJIZBB[J)B"⟩ : MethodName)) hown (mvT hZ (hw _ (List.mem_of_getElem? (i := 22) rfl))) (mvT hZ (hw _ (List.mem_of_getElem? (i := 23) rfl))) (mvT hZ (hw _ (List.mem_of_getElem? (i := 24) rfl))) (mvT hZ (hw _ (List.mem_of_getElem? (i := 25) rfl))) (by decide) (backOf (W := 2) (rm1 l Z a0 hw [] (12 : Int32) i11 i10 j8 i13 i12 i15 i16 o7  h0 n0 Z0 kP P h19) hZ (hw _ (List.mem_of_getElem? (i := 25) rfl)) (hw _ (List.mem_of_getElem? (i := 24) rfl)) (by decide) (by decide)) (g := (mkF m 556 #[s0, s1, s2, s3, s4, s5, s6, .val (.ref o7), .val (.long j8), .second, .val (.int i10), .val (.int i11), .val (.int i12), .val (.int i13), s14, .val (.int i15), .val (.int i16), .val (.ref o17), s18, s19] [(.ref o7), (.int i16), (.int i15), (.int i12), (.int i13), (.long j8), (.int i10), (.int i11), (.int (12 : Int32)), (.int (12 : Int32)), (.ref o17)])) rfl (by rw [hml]; rfl) (argsL := [(.int (12 : Int32)), (.int i11), (.int i10), (.long j8), (.int i13), (.int i12), (.int i15), (.int i16), (.ref o7)]) (rest := [(.int (12 : Int32)), (.ref o17)]) (lenOf pd_0_0 rfl) rfl (by show 2 * 0 + _ ≤ _; exact Nat.le_of_eq rfl) (hb hby at_556) (fun _ _ => ⟨rfl, e0, (by decide : 2 + 0 ≤ _), (by decide : 40 + 0 ≤ _)⟩)
  dsimp only [Pt.U, Pt.locs, Pt.cells, Pt.slots] at X7 l7 y7 z7 st7 hQ7
  subst l7 y7 z7
  obtain ⟨rfl, N7q, e7q⟩ := hQ7
  have N7 := Fr.app N0 N7q
  obtain ⟨cl_o17, Ar_o17, q_o17, S_o17, N_o17, H_o17, G_o17⟩ := V
  have hin559 : ¬ ((12 : Int32) < 0 ∨ cl_o17.slots.size ≤ ((12 : Int32)).toNatClampNeg) := inb_of S_o17 ⟨by decide, by decide⟩
  obtain ⟨T8, h8, X8, e8, W8, st8⟩ := stB X7 hx hZ e7q Ar_o17 (j := (12 : Int32)) hin559 (g := (mkF m 559 #[s0, s1, s2, s3, s4, s5, s6, .val (.ref o7), .val (.long j8), .second, .val (.int i10), .val (.int i11), .val (.int i12), .val (.int i13), s14, .val (.int i15), .val (.int i16), .val (.ref o17), s18, s19] [(.int (own_cell (12 : Int32) i11 i10 j8 i13 i12 i15 i16)), (.int (12 : Int32)), (.ref o17)])) rfl rfl (hb hby at_559)
  have N8 := Fr.snoc X8 N7 g_o17
  refine ⟨T8, h8, _, X8, e8, ⟨N8, Nat.le_trans Z0 (Nat.le_of_eq W8.size.symm), Arv.set Ar_o17 q_o17 S_o17 N_o17 H_o17 G_o17 (fits_nar_byte _) W8 12 rfl (by omega), P.other W8 ne⟩, fun target kt => ?_⟩
  show Steps p.tables e below (T0.setTop (mkF m 534 #[s0, s1, s2, s3, s4, s5, s6, .val (.ref o7), .val (.long j8), .second, .val (.int i10), .val (.int i11), .val (.int i12), .val (.int i13), s14, .val (.int i15), .val (.int i16), .val (.ref o17), s18, s19] [])) _
  refine XS.aload X0.here hx rfl (hb hby at_534) rfl rfl ?_
  show Steps p.tables e below (T0.setTop (mkF m 536 #[s0, s1, s2, s3, s4, s5, s6, .val (.ref o7), .val (.long j8), .second, .val (.int i10), .val (.int i11), .val (.int i12), .val (.int i13), s14, .val (.int i15), .val (.int i16), .val (.ref o17), s18, s19] [(.ref o17)])) _
  refine XS.bipush X0.here hx rfl (hb hby at_536) ?_
  show Steps p.tables e below (T0.setTop (mkF m 538 #[s0, s1, s2, s3, s4, s5, s6, .val (.ref o7), .val (.long j8), .second, .val (.int i10), .val (.int i11), .val (.int i12), .val (.int i13), s14, .val (.int i15), .val (.int i16), .val (.ref o17), s18, s19] [(.int (12 : Int32)), (.ref o17)])) _
  refine XS.bipush X0.here hx rfl (hb hby at_538) ?_
  show Steps p.tables e below (T0.setTop (mkF m 540 #[s0, s1, s2, s3, s4, s5, s6, .val (.ref o7), .val (.long j8), .second, .val (.int i10), .val (.int i11), .val (.int i12), .val (.int i13), s14, .val (.int i15), .val (.int i16), .val (.ref o17), s18, s19] [(.int (12 : Int32)), (.int (12 : Int32)), (.ref o17)])) _
  refine XS.iload X0.here hx rfl (hb hby at_540) rfl ?_
  show Steps p.tables e below (T0.setTop (mkF m 542 #[s0, s1, s2, s3, s4, s5, s6, .val (.ref o7), .val (.long j8), .second, .val (.int i10), .val (.int i11), .val (.int i12), .val (.int i13), s14, .val (.int i15), .val (.int i16), .val (.ref o17), s18, s19] [(.int i11), (.int (12 : Int32)), (.int (12 : Int32)), (.ref o17)])) _
  refine XS.iload X0.here hx rfl (hb hby at_542) rfl ?_
  show Steps p.tables e below (T0.setTop (mkF m 544 #[s0, s1, s2, s3, s4, s5, s6, .val (.ref o7), .val (.long j8), .second, .val (.int i10), .val (.int i11), .val (.int i12), .val (.int i13), s14, .val (.int i15), .val (.int i16), .val (.ref o17), s18, s19] [(.int i10), (.int i11), (.int (12 : Int32)), (.int (12 : Int32)), (.ref o17)])) _
  refine XS.lload X0.here hx rfl (hb hby at_544) rfl ?_
  show Steps p.tables e below (T0.setTop (mkF m 546 #[s0, s1, s2, s3, s4, s5, s6, .val (.ref o7), .val (.long j8), .second, .val (.int i10), .val (.int i11), .val (.int i12), .val (.int i13), s14, .val (.int i15), .val (.int i16), .val (.ref o17), s18, s19] [(.long j8), (.int i10), (.int i11), (.int (12 : Int32)), (.int (12 : Int32)), (.ref o17)])) _
  refine XS.iload X0.here hx rfl (hb hby at_546) rfl ?_
  show Steps p.tables e below (T0.setTop (mkF m 548 #[s0, s1, s2, s3, s4, s5, s6, .val (.ref o7), .val (.long j8), .second, .val (.int i10), .val (.int i11), .val (.int i12), .val (.int i13), s14, .val (.int i15), .val (.int i16), .val (.ref o17), s18, s19] [(.int i13), (.long j8), (.int i10), (.int i11), (.int (12 : Int32)), (.int (12 : Int32)), (.ref o17)])) _
  refine XS.iload X0.here hx rfl (hb hby at_548) rfl ?_
  show Steps p.tables e below (T0.setTop (mkF m 550 #[s0, s1, s2, s3, s4, s5, s6, .val (.ref o7), .val (.long j8), .second, .val (.int i10), .val (.int i11), .val (.int i12), .val (.int i13), s14, .val (.int i15), .val (.int i16), .val (.ref o17), s18, s19] [(.int i12), (.int i13), (.long j8), (.int i10), (.int i11), (.int (12 : Int32)), (.int (12 : Int32)), (.ref o17)])) _
  refine XS.iload X0.here hx rfl (hb hby at_550) rfl ?_
  show Steps p.tables e below (T0.setTop (mkF m 552 #[s0, s1, s2, s3, s4, s5, s6, .val (.ref o7), .val (.long j8), .second, .val (.int i10), .val (.int i11), .val (.int i12), .val (.int i13), s14, .val (.int i15), .val (.int i16), .val (.ref o17), s18, s19] [(.int i15), (.int i12), (.int i13), (.long j8), (.int i10), (.int i11), (.int (12 : Int32)), (.int (12 : Int32)), (.ref o17)])) _
  refine XS.iload X0.here hx rfl (hb hby at_552) rfl ?_
  show Steps p.tables e below (T0.setTop (mkF m 554 #[s0, s1, s2, s3, s4, s5, s6, .val (.ref o7), .val (.long j8), .second, .val (.int i10), .val (.int i11), .val (.int i12), .val (.int i13), s14, .val (.int i15), .val (.int i16), .val (.ref o17), s18, s19] [(.int i16), (.int i15), (.int i12), (.int i13), (.long j8), (.int i10), (.int i11), (.int (12 : Int32)), (.int (12 : Int32)), (.ref o17)])) _
  refine XS.aload X0.here hx rfl (hb hby at_554) rfl rfl ?_
  show Steps p.tables e below (T0.setTop (mkF m 556 #[s0, s1, s2, s3, s4, s5, s6, .val (.ref o7), .val (.long j8), .second, .val (.int i10), .val (.int i11), .val (.int i12), .val (.int i13), s14, .val (.int i15), .val (.int i16), .val (.ref o17), s18, s19] [(.ref o7), (.int i16), (.int i15), (.int i12), (.int i13), (.long j8), (.int i10), (.int i11), (.int (12 : Int32)), (.int (12 : Int32)), (.ref o17)])) _
  refine st7 _ ?_
  show Steps p.tables e below (T7.setTop (mkF m 559 #[s0, s1, s2, s3, s4, s5, s6, .val (.ref o7), .val (.long j8), .second, .val (.int i10), .val (.int i11), .val (.int i12), .val (.int i13), s14, .val (.int i15), .val (.int i16), .val (.ref o17), s18, s19] [(.int (own_cell (12 : Int32) i11 i10 j8 i13 i12 i15 i16)), (.int (12 : Int32)), (.ref o17)])) _
  refine st8 _ ?_
  exact kt
set_option maxRecDepth 65536 in
set_option maxHeartbeats 40000000 in
theorem tn0_560_586 {p : Program} {l : Launch} {e : Env} {s : State} {m : MethodId} {args : Array Value} {below : List Frame} {meth : Method} {c : Code} {T0 : State} {locs : List Loc} {Z : State} {a0 : Array Value} {h0 : Heap} (s0 : Slot) (s1 : Slot) (s2 : Slot) (s3 : Slot) (s4 : Slot) (s5 : Slot) (s6 : Slot) (o7 : Addr) (j8 : Int64) (i10 : Int32) (i11 : Int32) (i12 : Int32) (i13 : Int32) (s14 : Slot) (i15 : Int32) (i16 : Int32) (o17 : Addr) (s18 : Slot) (s19 : Slot) (n0 : Nat) (kb kP : ClassId) (vs : List Value)
    (X0 : Stand p l e room_1 s m args below meth c T0 locs 2 40) (hx : p.tables.exec = Jvm.exec) (hZ : Z.Warmed39 s.vm) (hw : ∀ d ∈ tables_1, d.before a0 Z = true) (hby : c.code = code) (hml : c.maxLocals = 20) (hown : s.vm.findClass "quotewarden/NumbersWholeNumberPinLaw" = some m.cls) (e0 : T0.heap = h0) (N0 : Fr n0 locs) (Z0 : n0 ≤ h0.size) (V : Arv Z h0 o17 kb .byte (21 : Int32) vs (.int (0 : Int32))) (hvs : vs.length = 21) (P : Arv Z h0 o7 kP .long (19 : Int32) (own_P.map Value.long) (.long (0 : Int64))) (ne : o7 ≠ o17) (g_o17 : n0 ≤ o17) (h19 : i10.toInt ≤ 19) :
    ∃ (T' : State) (h' : Heap) (L' : List Loc), Stand p l e room_1 s m args below meth c T' L' 2 40 ∧ T'.heap = h' ∧ (Fr n0 L' ∧ n0 ≤ h'.size ∧ Arv Z h' o17 kb .byte (21 : Int32) (vs.set 13 (.int (own_cell (13 : Int32) i11 i10 j8 i13 i12 i15 i16).toInt8.toInt32)) (.int (0 : Int32)) ∧ Arv Z h' o7 kP .long (19 : Int32) (own_P.map Value.long) (.long (0 : Int64))) ∧
      ∀ target, Steps p.tables e below (T'.setTop (mkF m 586 #[s0, s1, s2, s3, s4, s5, s6, .val (.ref o7), .val (.long j8), .second, .val (.int i10), .val (.int i11), .val (.int i12), .val (.int i13), s14, .val (.int i15), .val (.int i16), .val (.ref o17), s18, s19] [])) target → Steps p.tables e below (T0.setTop (mkF m 560 #[s0, s1, s2, s3, s4, s5, s6, .val (.ref o7), .val (.long j8), .second, .val (.int i10), .val (.int i11), .val (.int i12), .val (.int i13), s14, .val (.int i15), .val (.int i16), .val (.ref o17), s18, s19] [])) target := by
  obtain ⟨_, _, ⟨T7, L7, k7, n7⟩, -, X7, ⟨Lc7, hQ7, l7, y7, z7⟩, st7⟩ := Jvm.LawKit.callS X0 hx (y := (⟨"quotewarden/NumbersWholeNumberPinLaw", "cell", "(IIIJIZBB[J)B"⟩ : MethodName)) hown (mvT hZ (hw _ (List.mem_of_getElem? (i := 22) rfl))) (mvT hZ (hw _ (List.mem_of_getElem? (i := 23) rfl))) (mvT hZ (hw _ (List.mem_of_getElem? (i := 24) rfl))) (mvT hZ (hw _ (List.mem_of_getElem? (i := 25) rfl))) (by decide) (backOf (W := 2) (rm1 l Z a0 hw [] (13 : Int32) i11 i10 j8 i13 i12 i15 i16 o7  h0 n0 Z0 kP P h19) hZ (hw _ (List.mem_of_getElem? (i := 25) rfl)) (hw _ (List.mem_of_getElem? (i := 24) rfl)) (by decide) (by decide)) (g := (mkF m 582 #[s0, s1, s2, s3, s4, s5, s6, .val (.ref o7), .val (.long j8), .second, .val (.int i10), .val (.int i11), .val (.int i12), .val (.int i13), s14, .val (.int i15), .val (.int i16), .val (.ref o17), s18, s19] [(.ref o7), (.int i16), (.int i15), (.int i12), (.int i13), (.long j8), (.int i10), (.int i11), (.int (13 : Int32)), (.int (13 : Int32)), (.ref o17)])) rfl (by rw [hml]; rfl) (argsL := [(.int (13 : Int32)), (.int i11), (.int i10), (.long j8), (.int i13), (.int i12), (.int i15), (.int i16), (.ref o7)]) (rest := [(.int (13 : Int32)), (.ref o17)]) (lenOf pd_0_0 rfl) rfl (by show 2 * 0 + _ ≤ _; exact Nat.le_of_eq rfl) (hb hby at_582) (fun _ _ => ⟨rfl, e0, (by decide : 2 + 0 ≤ _), (by decide : 40 + 0 ≤ _)⟩)
  dsimp only [Pt.U, Pt.locs, Pt.cells, Pt.slots] at X7 l7 y7 z7 st7 hQ7
  subst l7 y7 z7
  obtain ⟨rfl, N7q, e7q⟩ := hQ7
  have N7 := Fr.app N0 N7q
  obtain ⟨cl_o17, Ar_o17, q_o17, S_o17, N_o17, H_o17, G_o17⟩ := V
  have hin585 : ¬ ((13 : Int32) < 0 ∨ cl_o17.slots.size ≤ ((13 : Int32)).toNatClampNeg) := inb_of S_o17 ⟨by decide, by decide⟩
  obtain ⟨T8, h8, X8, e8, W8, st8⟩ := stB X7 hx hZ e7q Ar_o17 (j := (13 : Int32)) hin585 (g := (mkF m 585 #[s0, s1, s2, s3, s4, s5, s6, .val (.ref o7), .val (.long j8), .second, .val (.int i10), .val (.int i11), .val (.int i12), .val (.int i13), s14, .val (.int i15), .val (.int i16), .val (.ref o17), s18, s19] [(.int (own_cell (13 : Int32) i11 i10 j8 i13 i12 i15 i16)), (.int (13 : Int32)), (.ref o17)])) rfl rfl (hb hby at_585)
  have N8 := Fr.snoc X8 N7 g_o17
  refine ⟨T8, h8, _, X8, e8, ⟨N8, Nat.le_trans Z0 (Nat.le_of_eq W8.size.symm), Arv.set Ar_o17 q_o17 S_o17 N_o17 H_o17 G_o17 (fits_nar_byte _) W8 13 rfl (by omega), P.other W8 ne⟩, fun target kt => ?_⟩
  show Steps p.tables e below (T0.setTop (mkF m 560 #[s0, s1, s2, s3, s4, s5, s6, .val (.ref o7), .val (.long j8), .second, .val (.int i10), .val (.int i11), .val (.int i12), .val (.int i13), s14, .val (.int i15), .val (.int i16), .val (.ref o17), s18, s19] [])) _
  refine XS.aload X0.here hx rfl (hb hby at_560) rfl rfl ?_
  show Steps p.tables e below (T0.setTop (mkF m 562 #[s0, s1, s2, s3, s4, s5, s6, .val (.ref o7), .val (.long j8), .second, .val (.int i10), .val (.int i11), .val (.int i12), .val (.int i13), s14, .val (.int i15), .val (.int i16), .val (.ref o17), s18, s19] [(.ref o17)])) _
  refine XS.bipush X0.here hx rfl (hb hby at_562) ?_
  show Steps p.tables e below (T0.setTop (mkF m 564 #[s0, s1, s2, s3, s4, s5, s6, .val (.ref o7), .val (.long j8), .second, .val (.int i10), .val (.int i11), .val (.int i12), .val (.int i13), s14, .val (.int i15), .val (.int i16), .val (.ref o17), s18, s19] [(.int (13 : Int32)), (.ref o17)])) _
  refine XS.bipush X0.here hx rfl (hb hby at_564) ?_
  show Steps p.tables e below (T0.setTop (mkF m 566 #[s0, s1, s2, s3, s4, s5, s6, .val (.ref o7), .val (.long j8), .second, .val (.int i10), .val (.int i11), .val (.int i12), .val (.int i13), s14, .val (.int i15), .val (.int i16), .val (.ref o17), s18, s19] [(.int (13 : Int32)), (.int (13 : Int32)), (.ref o17)])) _
  refine XS.iload X0.here hx rfl (hb hby at_566) rfl ?_
  show Steps p.tables e below (T0.setTop (mkF m 568 #[s0, s1, s2, s3, s4, s5, s6, .val (.ref o7), .val (.long j8), .second, .val (.int i10), .val (.int i11), .val (.int i12), .val (.int i13), s14, .val (.int i15), .val (.int i16), .val (.ref o17), s18, s19] [(.int i11), (.int (13 : Int32)), (.int (13 : Int32)), (.ref o17)])) _
  refine XS.iload X0.here hx rfl (hb hby at_568) rfl ?_
  show Steps p.tables e below (T0.setTop (mkF m 570 #[s0, s1, s2, s3, s4, s5, s6, .val (.ref o7), .val (.long j8), .second, .val (.int i10), .val (.int i11), .val (.int i12), .val (.int i13), s14, .val (.int i15), .val (.int i16), .val (.ref o17), s18, s19] [(.int i10), (.int i11), (.int (13 : Int32)), (.int (13 : Int32)), (.ref o17)])) _
  refine XS.lload X0.here hx rfl (hb hby at_570) rfl ?_
  show Steps p.tables e below (T0.setTop (mkF m 572 #[s0, s1, s2, s3, s4, s5, s6, .val (.ref o7), .val (.long j8), .second, .val (.int i10), .val (.int i11), .val (.int i12), .val (.int i13), s14, .val (.int i15), .val (.int i16), .val (.ref o17), s18, s19] [(.long j8), (.int i10), (.int i11), (.int (13 : Int32)), (.int (13 : Int32)), (.ref o17)])) _
  refine XS.iload X0.here hx rfl (hb hby at_572) rfl ?_
  show Steps p.tables e below (T0.setTop (mkF m 574 #[s0, s1, s2, s3, s4, s5, s6, .val (.ref o7), .val (.long j8), .second, .val (.int i10), .val (.int i11), .val (.int i12), .val (.int i13), s14, .val (.int i15), .val (.int i16), .val (.ref o17), s18, s19] [(.int i13), (.long j8), (.int i10), (.int i11), (.int (13 : Int32)), (.int (13 : Int32)), (.ref o17)])) _
  refine XS.iload X0.here hx rfl (hb hby at_574) rfl ?_
  show Steps p.tables e below (T0.setTop (mkF m 576 #[s0, s1, s2, s3, s4, s5, s6, .val (.ref o7), .val (.long j8), .second, .val (.int i10), .val (.int i11), .val (.int i12), .val (.int i13), s14, .val (.int i15), .val (.int i16), .val (.ref o17), s18, s19] [(.int i12), (.int i13), (.long j8), (.int i10), (.int i11), (.int (13 : Int32)), (.int (13 : Int32)), (.ref o17)])) _
  refine XS.iload X0.here hx rfl (hb hby at_576) rfl ?_
  show Steps p.tables e below (T0.setTop (mkF m 578 #[s0, s1, s2, s3, s4, s5, s6, .val (.ref o7), .val (.long j8), .second, .val (.int i10), .val (.int i11), .val (.int i12), .val (.int i13), s14, .val (.int i15), .val (.int i16), .val (.ref o17), s18, s19] [(.int i15), (.int i12), (.int i13), (.long j8), (.int i10), (.int i11), (.int (13 : Int32)), (.int (13 : Int32)), (.ref o17)])) _
  refine XS.iload X0.here hx rfl (hb hby at_578) rfl ?_
  show Steps p.tables e below (T0.setTop (mkF m 580 #[s0, s1, s2, s3, s4, s5, s6, .val (.ref o7), .val (.long j8), .second, .val (.int i10), .val (.int i11), .val (.int i12), .val (.int i13), s14, .val (.int i15), .val (.int i16), .val (.ref o17), s18, s19] [(.int i16), (.int i15), (.int i12), (.int i13), (.long j8), (.int i10), (.int i11), (.int (13 : Int32)), (.int (13 : Int32)), (.ref o17)])) _
  refine XS.aload X0.here hx rfl (hb hby at_580) rfl rfl ?_
  show Steps p.tables e below (T0.setTop (mkF m 582 #[s0, s1, s2, s3, s4, s5, s6, .val (.ref o7), .val (.long j8), .second, .val (.int i10), .val (.int i11), .val (.int i12), .val (.int i13), s14, .val (.int i15), .val (.int i16), .val (.ref o17), s18, s19] [(.ref o7), (.int i16), (.int i15), (.int i12), (.int i13), (.long j8), (.int i10), (.int i11), (.int (13 : Int32)), (.int (13 : Int32)), (.ref o17)])) _
  refine st7 _ ?_
  show Steps p.tables e below (T7.setTop (mkF m 585 #[s0, s1, s2, s3, s4, s5, s6, .val (.ref o7), .val (.long j8), .second, .val (.int i10), .val (.int i11), .val (.int i12), .val (.int i13), s14, .val (.int i15), .val (.int i16), .val (.ref o17), s18, s19] [(.int (own_cell (13 : Int32) i11 i10 j8 i13 i12 i15 i16)), (.int (13 : Int32)), (.ref o17)])) _
  refine st8 _ ?_
  exact kt
set_option maxRecDepth 65536 in
set_option maxHeartbeats 40000000 in
theorem tn0_586_612 {p : Program} {l : Launch} {e : Env} {s : State} {m : MethodId} {args : Array Value} {below : List Frame} {meth : Method} {c : Code} {T0 : State} {locs : List Loc} {Z : State} {a0 : Array Value} {h0 : Heap} (s0 : Slot) (s1 : Slot) (s2 : Slot) (s3 : Slot) (s4 : Slot) (s5 : Slot) (s6 : Slot) (o7 : Addr) (j8 : Int64) (i10 : Int32) (i11 : Int32) (i12 : Int32) (i13 : Int32) (s14 : Slot) (i15 : Int32) (i16 : Int32) (o17 : Addr) (s18 : Slot) (s19 : Slot) (n0 : Nat) (kb kP : ClassId) (vs : List Value)
    (X0 : Stand p l e room_1 s m args below meth c T0 locs 2 40) (hx : p.tables.exec = Jvm.exec) (hZ : Z.Warmed39 s.vm) (hw : ∀ d ∈ tables_1, d.before a0 Z = true) (hby : c.code = code) (hml : c.maxLocals = 20) (hown : s.vm.findClass "quotewarden/NumbersWholeNumberPinLaw" = some m.cls) (e0 : T0.heap = h0) (N0 : Fr n0 locs) (Z0 : n0 ≤ h0.size) (V : Arv Z h0 o17 kb .byte (21 : Int32) vs (.int (0 : Int32))) (hvs : vs.length = 21) (P : Arv Z h0 o7 kP .long (19 : Int32) (own_P.map Value.long) (.long (0 : Int64))) (ne : o7 ≠ o17) (g_o17 : n0 ≤ o17) (h19 : i10.toInt ≤ 19) :
    ∃ (T' : State) (h' : Heap) (L' : List Loc), Stand p l e room_1 s m args below meth c T' L' 2 40 ∧ T'.heap = h' ∧ (Fr n0 L' ∧ n0 ≤ h'.size ∧ Arv Z h' o17 kb .byte (21 : Int32) (vs.set 14 (.int (own_cell (14 : Int32) i11 i10 j8 i13 i12 i15 i16).toInt8.toInt32)) (.int (0 : Int32)) ∧ Arv Z h' o7 kP .long (19 : Int32) (own_P.map Value.long) (.long (0 : Int64))) ∧
      ∀ target, Steps p.tables e below (T'.setTop (mkF m 612 #[s0, s1, s2, s3, s4, s5, s6, .val (.ref o7), .val (.long j8), .second, .val (.int i10), .val (.int i11), .val (.int i12), .val (.int i13), s14, .val (.int i15), .val (.int i16), .val (.ref o17), s18, s19] [])) target → Steps p.tables e below (T0.setTop (mkF m 586 #[s0, s1, s2, s3, s4, s5, s6, .val (.ref o7), .val (.long j8), .second, .val (.int i10), .val (.int i11), .val (.int i12), .val (.int i13), s14, .val (.int i15), .val (.int i16), .val (.ref o17), s18, s19] [])) target := by
  obtain ⟨_, _, ⟨T7, L7, k7, n7⟩, -, X7, ⟨Lc7, hQ7, l7, y7, z7⟩, st7⟩ := Jvm.LawKit.callS X0 hx (y := (⟨"quotewarden/NumbersWholeNumberPinLaw", "cell", "(IIIJIZBB[J)B"⟩ : MethodName)) hown (mvT hZ (hw _ (List.mem_of_getElem? (i := 22) rfl))) (mvT hZ (hw _ (List.mem_of_getElem? (i := 23) rfl))) (mvT hZ (hw _ (List.mem_of_getElem? (i := 24) rfl))) (mvT hZ (hw _ (List.mem_of_getElem? (i := 25) rfl))) (by decide) (backOf (W := 2) (rm1 l Z a0 hw [] (14 : Int32) i11 i10 j8 i13 i12 i15 i16 o7  h0 n0 Z0 kP P h19) hZ (hw _ (List.mem_of_getElem? (i := 25) rfl)) (hw _ (List.mem_of_getElem? (i := 24) rfl)) (by decide) (by decide)) (g := (mkF m 608 #[s0, s1, s2, s3, s4, s5, s6, .val (.ref o7), .val (.long j8), .second, .val (.int i10), .val (.int i11), .val (.int i12), .val (.int i13), s14, .val (.int i15), .val (.int i16), .val (.ref o17), s18, s19] [(.ref o7), (.int i16), (.int i15), (.int i12), (.int i13), (.long j8), (.int i10), (.int i11), (.int (14 : Int32)), (.int (14 : Int32)), (.ref o17)])) rfl (by rw [hml]; rfl) (argsL := [(.int (14 : Int32)), (.int i11), (.int i10), (.long j8), (.int i13), (.int i12), (.int i15), (.int i16), (.ref o7)]) (rest := [(.int (14 : Int32)), (.ref o17)]) (lenOf pd_0_0 rfl) rfl (by show 2 * 0 + _ ≤ _; exact Nat.le_of_eq rfl) (hb hby at_608) (fun _ _ => ⟨rfl, e0, (by decide : 2 + 0 ≤ _), (by decide : 40 + 0 ≤ _)⟩)
  dsimp only [Pt.U, Pt.locs, Pt.cells, Pt.slots] at X7 l7 y7 z7 st7 hQ7
  subst l7 y7 z7
  obtain ⟨rfl, N7q, e7q⟩ := hQ7
  have N7 := Fr.app N0 N7q
  obtain ⟨cl_o17, Ar_o17, q_o17, S_o17, N_o17, H_o17, G_o17⟩ := V
  have hin611 : ¬ ((14 : Int32) < 0 ∨ cl_o17.slots.size ≤ ((14 : Int32)).toNatClampNeg) := inb_of S_o17 ⟨by decide, by decide⟩
  obtain ⟨T8, h8, X8, e8, W8, st8⟩ := stB X7 hx hZ e7q Ar_o17 (j := (14 : Int32)) hin611 (g := (mkF m 611 #[s0, s1, s2, s3, s4, s5, s6, .val (.ref o7), .val (.long j8), .second, .val (.int i10), .val (.int i11), .val (.int i12), .val (.int i13), s14, .val (.int i15), .val (.int i16), .val (.ref o17), s18, s19] [(.int (own_cell (14 : Int32) i11 i10 j8 i13 i12 i15 i16)), (.int (14 : Int32)), (.ref o17)])) rfl rfl (hb hby at_611)
  have N8 := Fr.snoc X8 N7 g_o17
  refine ⟨T8, h8, _, X8, e8, ⟨N8, Nat.le_trans Z0 (Nat.le_of_eq W8.size.symm), Arv.set Ar_o17 q_o17 S_o17 N_o17 H_o17 G_o17 (fits_nar_byte _) W8 14 rfl (by omega), P.other W8 ne⟩, fun target kt => ?_⟩
  show Steps p.tables e below (T0.setTop (mkF m 586 #[s0, s1, s2, s3, s4, s5, s6, .val (.ref o7), .val (.long j8), .second, .val (.int i10), .val (.int i11), .val (.int i12), .val (.int i13), s14, .val (.int i15), .val (.int i16), .val (.ref o17), s18, s19] [])) _
  refine XS.aload X0.here hx rfl (hb hby at_586) rfl rfl ?_
  show Steps p.tables e below (T0.setTop (mkF m 588 #[s0, s1, s2, s3, s4, s5, s6, .val (.ref o7), .val (.long j8), .second, .val (.int i10), .val (.int i11), .val (.int i12), .val (.int i13), s14, .val (.int i15), .val (.int i16), .val (.ref o17), s18, s19] [(.ref o17)])) _
  refine XS.bipush X0.here hx rfl (hb hby at_588) ?_
  show Steps p.tables e below (T0.setTop (mkF m 590 #[s0, s1, s2, s3, s4, s5, s6, .val (.ref o7), .val (.long j8), .second, .val (.int i10), .val (.int i11), .val (.int i12), .val (.int i13), s14, .val (.int i15), .val (.int i16), .val (.ref o17), s18, s19] [(.int (14 : Int32)), (.ref o17)])) _
  refine XS.bipush X0.here hx rfl (hb hby at_590) ?_
  show Steps p.tables e below (T0.setTop (mkF m 592 #[s0, s1, s2, s3, s4, s5, s6, .val (.ref o7), .val (.long j8), .second, .val (.int i10), .val (.int i11), .val (.int i12), .val (.int i13), s14, .val (.int i15), .val (.int i16), .val (.ref o17), s18, s19] [(.int (14 : Int32)), (.int (14 : Int32)), (.ref o17)])) _
  refine XS.iload X0.here hx rfl (hb hby at_592) rfl ?_
  show Steps p.tables e below (T0.setTop (mkF m 594 #[s0, s1, s2, s3, s4, s5, s6, .val (.ref o7), .val (.long j8), .second, .val (.int i10), .val (.int i11), .val (.int i12), .val (.int i13), s14, .val (.int i15), .val (.int i16), .val (.ref o17), s18, s19] [(.int i11), (.int (14 : Int32)), (.int (14 : Int32)), (.ref o17)])) _
  refine XS.iload X0.here hx rfl (hb hby at_594) rfl ?_
  show Steps p.tables e below (T0.setTop (mkF m 596 #[s0, s1, s2, s3, s4, s5, s6, .val (.ref o7), .val (.long j8), .second, .val (.int i10), .val (.int i11), .val (.int i12), .val (.int i13), s14, .val (.int i15), .val (.int i16), .val (.ref o17), s18, s19] [(.int i10), (.int i11), (.int (14 : Int32)), (.int (14 : Int32)), (.ref o17)])) _
  refine XS.lload X0.here hx rfl (hb hby at_596) rfl ?_
  show Steps p.tables e below (T0.setTop (mkF m 598 #[s0, s1, s2, s3, s4, s5, s6, .val (.ref o7), .val (.long j8), .second, .val (.int i10), .val (.int i11), .val (.int i12), .val (.int i13), s14, .val (.int i15), .val (.int i16), .val (.ref o17), s18, s19] [(.long j8), (.int i10), (.int i11), (.int (14 : Int32)), (.int (14 : Int32)), (.ref o17)])) _
  refine XS.iload X0.here hx rfl (hb hby at_598) rfl ?_
  show Steps p.tables e below (T0.setTop (mkF m 600 #[s0, s1, s2, s3, s4, s5, s6, .val (.ref o7), .val (.long j8), .second, .val (.int i10), .val (.int i11), .val (.int i12), .val (.int i13), s14, .val (.int i15), .val (.int i16), .val (.ref o17), s18, s19] [(.int i13), (.long j8), (.int i10), (.int i11), (.int (14 : Int32)), (.int (14 : Int32)), (.ref o17)])) _
  refine XS.iload X0.here hx rfl (hb hby at_600) rfl ?_
  show Steps p.tables e below (T0.setTop (mkF m 602 #[s0, s1, s2, s3, s4, s5, s6, .val (.ref o7), .val (.long j8), .second, .val (.int i10), .val (.int i11), .val (.int i12), .val (.int i13), s14, .val (.int i15), .val (.int i16), .val (.ref o17), s18, s19] [(.int i12), (.int i13), (.long j8), (.int i10), (.int i11), (.int (14 : Int32)), (.int (14 : Int32)), (.ref o17)])) _
  refine XS.iload X0.here hx rfl (hb hby at_602) rfl ?_
  show Steps p.tables e below (T0.setTop (mkF m 604 #[s0, s1, s2, s3, s4, s5, s6, .val (.ref o7), .val (.long j8), .second, .val (.int i10), .val (.int i11), .val (.int i12), .val (.int i13), s14, .val (.int i15), .val (.int i16), .val (.ref o17), s18, s19] [(.int i15), (.int i12), (.int i13), (.long j8), (.int i10), (.int i11), (.int (14 : Int32)), (.int (14 : Int32)), (.ref o17)])) _
  refine XS.iload X0.here hx rfl (hb hby at_604) rfl ?_
  show Steps p.tables e below (T0.setTop (mkF m 606 #[s0, s1, s2, s3, s4, s5, s6, .val (.ref o7), .val (.long j8), .second, .val (.int i10), .val (.int i11), .val (.int i12), .val (.int i13), s14, .val (.int i15), .val (.int i16), .val (.ref o17), s18, s19] [(.int i16), (.int i15), (.int i12), (.int i13), (.long j8), (.int i10), (.int i11), (.int (14 : Int32)), (.int (14 : Int32)), (.ref o17)])) _
  refine XS.aload X0.here hx rfl (hb hby at_606) rfl rfl ?_
  show Steps p.tables e below (T0.setTop (mkF m 608 #[s0, s1, s2, s3, s4, s5, s6, .val (.ref o7), .val (.long j8), .second, .val (.int i10), .val (.int i11), .val (.int i12), .val (.int i13), s14, .val (.int i15), .val (.int i16), .val (.ref o17), s18, s19] [(.ref o7), (.int i16), (.int i15), (.int i12), (.int i13), (.long j8), (.int i10), (.int i11), (.int (14 : Int32)), (.int (14 : Int32)), (.ref o17)])) _
  refine st7 _ ?_
  show Steps p.tables e below (T7.setTop (mkF m 611 #[s0, s1, s2, s3, s4, s5, s6, .val (.ref o7), .val (.long j8), .second, .val (.int i10), .val (.int i11), .val (.int i12), .val (.int i13), s14, .val (.int i15), .val (.int i16), .val (.ref o17), s18, s19] [(.int (own_cell (14 : Int32) i11 i10 j8 i13 i12 i15 i16)), (.int (14 : Int32)), (.ref o17)])) _
  refine st8 _ ?_
  exact kt
set_option maxRecDepth 65536 in
set_option maxHeartbeats 40000000 in
theorem tn0_612_638 {p : Program} {l : Launch} {e : Env} {s : State} {m : MethodId} {args : Array Value} {below : List Frame} {meth : Method} {c : Code} {T0 : State} {locs : List Loc} {Z : State} {a0 : Array Value} {h0 : Heap} (s0 : Slot) (s1 : Slot) (s2 : Slot) (s3 : Slot) (s4 : Slot) (s5 : Slot) (s6 : Slot) (o7 : Addr) (j8 : Int64) (i10 : Int32) (i11 : Int32) (i12 : Int32) (i13 : Int32) (s14 : Slot) (i15 : Int32) (i16 : Int32) (o17 : Addr) (s18 : Slot) (s19 : Slot) (n0 : Nat) (kb kP : ClassId) (vs : List Value)
    (X0 : Stand p l e room_1 s m args below meth c T0 locs 2 40) (hx : p.tables.exec = Jvm.exec) (hZ : Z.Warmed39 s.vm) (hw : ∀ d ∈ tables_1, d.before a0 Z = true) (hby : c.code = code) (hml : c.maxLocals = 20) (hown : s.vm.findClass "quotewarden/NumbersWholeNumberPinLaw" = some m.cls) (e0 : T0.heap = h0) (N0 : Fr n0 locs) (Z0 : n0 ≤ h0.size) (V : Arv Z h0 o17 kb .byte (21 : Int32) vs (.int (0 : Int32))) (hvs : vs.length = 21) (P : Arv Z h0 o7 kP .long (19 : Int32) (own_P.map Value.long) (.long (0 : Int64))) (ne : o7 ≠ o17) (g_o17 : n0 ≤ o17) (h19 : i10.toInt ≤ 19) :
    ∃ (T' : State) (h' : Heap) (L' : List Loc), Stand p l e room_1 s m args below meth c T' L' 2 40 ∧ T'.heap = h' ∧ (Fr n0 L' ∧ n0 ≤ h'.size ∧ Arv Z h' o17 kb .byte (21 : Int32) (vs.set 15 (.int (own_cell (15 : Int32) i11 i10 j8 i13 i12 i15 i16).toInt8.toInt32)) (.int (0 : Int32)) ∧ Arv Z h' o7 kP .long (19 : Int32) (own_P.map Value.long) (.long (0 : Int64))) ∧
      ∀ target, Steps p.tables e below (T'.setTop (mkF m 638 #[s0, s1, s2, s3, s4, s5, s6, .val (.ref o7), .val (.long j8), .second, .val (.int i10), .val (.int i11), .val (.int i12), .val (.int i13), s14, .val (.int i15), .val (.int i16), .val (.ref o17), s18, s19] [])) target → Steps p.tables e below (T0.setTop (mkF m 612 #[s0, s1, s2, s3, s4, s5, s6, .val (.ref o7), .val (.long j8), .second, .val (.int i10), .val (.int i11), .val (.int i12), .val (.int i13), s14, .val (.int i15), .val (.int i16), .val (.ref o17), s18, s19] [])) target := by
  obtain ⟨_, _, ⟨T7, L7, k7, n7⟩, -, X7, ⟨Lc7, hQ7, l7, y7, z7⟩, st7⟩ := Jvm.LawKit.callS X0 hx (y := (⟨"quotewarden/NumbersWholeNumberPinLaw", "cell", "(IIIJIZBB[J)B"⟩ : MethodName)) hown (mvT hZ (hw _ (List.mem_of_getElem? (i := 22) rfl))) (mvT hZ (hw _ (List.mem_of_getElem? (i := 23) rfl))) (mvT hZ (hw _ (List.mem_of_getElem? (i := 24) rfl))) (mvT hZ (hw _ (List.mem_of_getElem? (i := 25) rfl))) (by decide) (backOf (W := 2) (rm1 l Z a0 hw [] (15 : Int32) i11 i10 j8 i13 i12 i15 i16 o7  h0 n0 Z0 kP P h19) hZ (hw _ (List.mem_of_getElem? (i := 25) rfl)) (hw _ (List.mem_of_getElem? (i := 24) rfl)) (by decide) (by decide)) (g := (mkF m 634 #[s0, s1, s2, s3, s4, s5, s6, .val (.ref o7), .val (.long j8), .second, .val (.int i10), .val (.int i11), .val (.int i12), .val (.int i13), s14, .val (.int i15), .val (.int i16), .val (.ref o17), s18, s19] [(.ref o7), (.int i16), (.int i15), (.int i12), (.int i13), (.long j8), (.int i10), (.int i11), (.int (15 : Int32)), (.int (15 : Int32)), (.ref o17)])) rfl (by rw [hml]; rfl) (argsL := [(.int (15 : Int32)), (.int i11), (.int i10), (.long j8), (.int i13), (.int i12), (.int i15), (.int i16), (.ref o7)]) (rest := [(.int (15 : Int32)), (.ref o17)]) (lenOf pd_0_0 rfl) rfl (by show 2 * 0 + _ ≤ _; exact Nat.le_of_eq rfl) (hb hby at_634) (fun _ _ => ⟨rfl, e0, (by decide : 2 + 0 ≤ _), (by decide : 40 + 0 ≤ _)⟩)
  dsimp only [Pt.U, Pt.locs, Pt.cells, Pt.slots] at X7 l7 y7 z7 st7 hQ7
  subst l7 y7 z7
  obtain ⟨rfl, N7q, e7q⟩ := hQ7
  have N7 := Fr.app N0 N7q
  obtain ⟨cl_o17, Ar_o17, q_o17, S_o17, N_o17, H_o17, G_o17⟩ := V
  have hin637 : ¬ ((15 : Int32) < 0 ∨ cl_o17.slots.size ≤ ((15 : Int32)).toNatClampNeg) := inb_of S_o17 ⟨by decide, by decide⟩
  obtain ⟨T8, h8, X8, e8, W8, st8⟩ := stB X7 hx hZ e7q Ar_o17 (j := (15 : Int32)) hin637 (g := (mkF m 637 #[s0, s1, s2, s3, s4, s5, s6, .val (.ref o7), .val (.long j8), .second, .val (.int i10), .val (.int i11), .val (.int i12), .val (.int i13), s14, .val (.int i15), .val (.int i16), .val (.ref o17), s18, s19] [(.int (own_cell (15 : Int32) i11 i10 j8 i13 i12 i15 i16)), (.int (15 : Int32)), (.ref o17)])) rfl rfl (hb hby at_637)
  have N8 := Fr.snoc X8 N7 g_o17
  refine ⟨T8, h8, _, X8, e8, ⟨N8, Nat.le_trans Z0 (Nat.le_of_eq W8.size.symm), Arv.set Ar_o17 q_o17 S_o17 N_o17 H_o17 G_o17 (fits_nar_byte _) W8 15 rfl (by omega), P.other W8 ne⟩, fun target kt => ?_⟩
  show Steps p.tables e below (T0.setTop (mkF m 612 #[s0, s1, s2, s3, s4, s5, s6, .val (.ref o7), .val (.long j8), .second, .val (.int i10), .val (.int i11), .val (.int i12), .val (.int i13), s14, .val (.int i15), .val (.int i16), .val (.ref o17), s18, s19] [])) _
  refine XS.aload X0.here hx rfl (hb hby at_612) rfl rfl ?_
  show Steps p.tables e below (T0.setTop (mkF m 614 #[s0, s1, s2, s3, s4, s5, s6, .val (.ref o7), .val (.long j8), .second, .val (.int i10), .val (.int i11), .val (.int i12), .val (.int i13), s14, .val (.int i15), .val (.int i16), .val (.ref o17), s18, s19] [(.ref o17)])) _
  refine XS.bipush X0.here hx rfl (hb hby at_614) ?_
  show Steps p.tables e below (T0.setTop (mkF m 616 #[s0, s1, s2, s3, s4, s5, s6, .val (.ref o7), .val (.long j8), .second, .val (.int i10), .val (.int i11), .val (.int i12), .val (.int i13), s14, .val (.int i15), .val (.int i16), .val (.ref o17), s18, s19] [(.int (15 : Int32)), (.ref o17)])) _
  refine XS.bipush X0.here hx rfl (hb hby at_616) ?_
  show Steps p.tables e below (T0.setTop (mkF m 618 #[s0, s1, s2, s3, s4, s5, s6, .val (.ref o7), .val (.long j8), .second, .val (.int i10), .val (.int i11), .val (.int i12), .val (.int i13), s14, .val (.int i15), .val (.int i16), .val (.ref o17), s18, s19] [(.int (15 : Int32)), (.int (15 : Int32)), (.ref o17)])) _
  refine XS.iload X0.here hx rfl (hb hby at_618) rfl ?_
  show Steps p.tables e below (T0.setTop (mkF m 620 #[s0, s1, s2, s3, s4, s5, s6, .val (.ref o7), .val (.long j8), .second, .val (.int i10), .val (.int i11), .val (.int i12), .val (.int i13), s14, .val (.int i15), .val (.int i16), .val (.ref o17), s18, s19] [(.int i11), (.int (15 : Int32)), (.int (15 : Int32)), (.ref o17)])) _
  refine XS.iload X0.here hx rfl (hb hby at_620) rfl ?_
  show Steps p.tables e below (T0.setTop (mkF m 622 #[s0, s1, s2, s3, s4, s5, s6, .val (.ref o7), .val (.long j8), .second, .val (.int i10), .val (.int i11), .val (.int i12), .val (.int i13), s14, .val (.int i15), .val (.int i16), .val (.ref o17), s18, s19] [(.int i10), (.int i11), (.int (15 : Int32)), (.int (15 : Int32)), (.ref o17)])) _
  refine XS.lload X0.here hx rfl (hb hby at_622) rfl ?_
  show Steps p.tables e below (T0.setTop (mkF m 624 #[s0, s1, s2, s3, s4, s5, s6, .val (.ref o7), .val (.long j8), .second, .val (.int i10), .val (.int i11), .val (.int i12), .val (.int i13), s14, .val (.int i15), .val (.int i16), .val (.ref o17), s18, s19] [(.long j8), (.int i10), (.int i11), (.int (15 : Int32)), (.int (15 : Int32)), (.ref o17)])) _
  refine XS.iload X0.here hx rfl (hb hby at_624) rfl ?_
  show Steps p.tables e below (T0.setTop (mkF m 626 #[s0, s1, s2, s3, s4, s5, s6, .val (.ref o7), .val (.long j8), .second, .val (.int i10), .val (.int i11), .val (.int i12), .val (.int i13), s14, .val (.int i15), .val (.int i16), .val (.ref o17), s18, s19] [(.int i13), (.long j8), (.int i10), (.int i11), (.int (15 : Int32)), (.int (15 : Int32)), (.ref o17)])) _
  refine XS.iload X0.here hx rfl (hb hby at_626) rfl ?_
  show Steps p.tables e below (T0.setTop (mkF m 628 #[s0, s1, s2, s3, s4, s5, s6, .val (.ref o7), .val (.long j8), .second, .val (.int i10), .val (.int i11), .val (.int i12), .val (.int i13), s14, .val (.int i15), .val (.int i16), .val (.ref o17), s18, s19] [(.int i12), (.int i13), (.long j8), (.int i10), (.int i11), (.int (15 : Int32)), (.int (15 : Int32)), (.ref o17)])) _
  refine XS.iload X0.here hx rfl (hb hby at_628) rfl ?_
  show Steps p.tables e below (T0.setTop (mkF m 630 #[s0, s1, s2, s3, s4, s5, s6, .val (.ref o7), .val (.long j8), .second, .val (.int i10), .val (.int i11), .val (.int i12), .val (.int i13), s14, .val (.int i15), .val (.int i16), .val (.ref o17), s18, s19] [(.int i15), (.int i12), (.int i13), (.long j8), (.int i10), (.int i11), (.int (15 : Int32)), (.int (15 : Int32)), (.ref o17)])) _
  refine XS.iload X0.here hx rfl (hb hby at_630) rfl ?_
  show Steps p.tables e below (T0.setTop (mkF m 632 #[s0, s1, s2, s3, s4, s5, s6, .val (.ref o7), .val (.long j8), .second, .val (.int i10), .val (.int i11), .val (.int i12), .val (.int i13), s14, .val (.int i15), .val (.int i16), .val (.ref o17), s18, s19] [(.int i16), (.int i15), (.int i12), (.int i13), (.long j8), (.int i10), (.int i11), (.int (15 : Int32)), (.int (15 : Int32)), (.ref o17)])) _
  refine XS.aload X0.here hx rfl (hb hby at_632) rfl rfl ?_
  show Steps p.tables e below (T0.setTop (mkF m 634 #[s0, s1, s2, s3, s4, s5, s6, .val (.ref o7), .val (.long j8), .second, .val (.int i10), .val (.int i11), .val (.int i12), .val (.int i13), s14, .val (.int i15), .val (.int i16), .val (.ref o17), s18, s19] [(.ref o7), (.int i16), (.int i15), (.int i12), (.int i13), (.long j8), (.int i10), (.int i11), (.int (15 : Int32)), (.int (15 : Int32)), (.ref o17)])) _
  refine st7 _ ?_
  show Steps p.tables e below (T7.setTop (mkF m 637 #[s0, s1, s2, s3, s4, s5, s6, .val (.ref o7), .val (.long j8), .second, .val (.int i10), .val (.int i11), .val (.int i12), .val (.int i13), s14, .val (.int i15), .val (.int i16), .val (.ref o17), s18, s19] [(.int (own_cell (15 : Int32) i11 i10 j8 i13 i12 i15 i16)), (.int (15 : Int32)), (.ref o17)])) _
  refine st8 _ ?_
  exact kt
set_option maxRecDepth 65536 in
set_option maxHeartbeats 40000000 in
theorem tn0_638_664 {p : Program} {l : Launch} {e : Env} {s : State} {m : MethodId} {args : Array Value} {below : List Frame} {meth : Method} {c : Code} {T0 : State} {locs : List Loc} {Z : State} {a0 : Array Value} {h0 : Heap} (s0 : Slot) (s1 : Slot) (s2 : Slot) (s3 : Slot) (s4 : Slot) (s5 : Slot) (s6 : Slot) (o7 : Addr) (j8 : Int64) (i10 : Int32) (i11 : Int32) (i12 : Int32) (i13 : Int32) (s14 : Slot) (i15 : Int32) (i16 : Int32) (o17 : Addr) (s18 : Slot) (s19 : Slot) (n0 : Nat) (kb kP : ClassId) (vs : List Value)
    (X0 : Stand p l e room_1 s m args below meth c T0 locs 2 40) (hx : p.tables.exec = Jvm.exec) (hZ : Z.Warmed39 s.vm) (hw : ∀ d ∈ tables_1, d.before a0 Z = true) (hby : c.code = code) (hml : c.maxLocals = 20) (hown : s.vm.findClass "quotewarden/NumbersWholeNumberPinLaw" = some m.cls) (e0 : T0.heap = h0) (N0 : Fr n0 locs) (Z0 : n0 ≤ h0.size) (V : Arv Z h0 o17 kb .byte (21 : Int32) vs (.int (0 : Int32))) (hvs : vs.length = 21) (P : Arv Z h0 o7 kP .long (19 : Int32) (own_P.map Value.long) (.long (0 : Int64))) (ne : o7 ≠ o17) (g_o17 : n0 ≤ o17) (h19 : i10.toInt ≤ 19) :
    ∃ (T' : State) (h' : Heap) (L' : List Loc), Stand p l e room_1 s m args below meth c T' L' 2 40 ∧ T'.heap = h' ∧ (Fr n0 L' ∧ n0 ≤ h'.size ∧ Arv Z h' o17 kb .byte (21 : Int32) (vs.set 16 (.int (own_cell (16 : Int32) i11 i10 j8 i13 i12 i15 i16).toInt8.toInt32)) (.int (0 : Int32)) ∧ Arv Z h' o7 kP .long (19 : Int32) (own_P.map Value.long) (.long (0 : Int64))) ∧
      ∀ target, Steps p.tables e below (T'.setTop (mkF m 664 #[s0, s1, s2, s3, s4, s5, s6, .val (.ref o7), .val (.long j8), .second, .val (.int i10), .val (.int i11), .val (.int i12), .val (.int i13), s14, .val (.int i15), .val (.int i16), .val (.ref o17), s18, s19] [])) target → Steps p.tables e below (T0.setTop (mkF m 638 #[s0, s1, s2, s3, s4, s5, s6, .val (.ref o7), .val (.long j8), .second, .val (.int i10), .val (.int i11), .val (.int i12), .val (.int i13), s14, .val (.int i15), .val (.int i16), .val (.ref o17), s18, s19] [])) target := by
  obtain ⟨_, _, ⟨T7, L7, k7, n7⟩, -, X7, ⟨Lc7, hQ7, l7, y7, z7⟩, st7⟩ := Jvm.LawKit.callS X0 hx (y := (⟨"quotewarden/NumbersWholeNumberPinLaw", "cell", "(IIIJIZBB[J)B"⟩ : MethodName)) hown (mvT hZ (hw _ (List.mem_of_getElem? (i := 22) rfl))) (mvT hZ (hw _ (List.mem_of_getElem? (i := 23) rfl))) (mvT hZ (hw _ (List.mem_of_getElem? (i := 24) rfl))) (mvT hZ (hw _ (List.mem_of_getElem? (i := 25) rfl))) (by decide) (backOf (W := 2) (rm1 l Z a0 hw [] (16 : Int32) i11 i10 j8 i13 i12 i15 i16 o7  h0 n0 Z0 kP P h19) hZ (hw _ (List.mem_of_getElem? (i := 25) rfl)) (hw _ (List.mem_of_getElem? (i := 24) rfl)) (by decide) (by decide)) (g := (mkF m 660 #[s0, s1, s2, s3, s4, s5, s6, .val (.ref o7), .val (.long j8), .second, .val (.int i10), .val (.int i11), .val (.int i12), .val (.int i13), s14, .val (.int i15), .val (.int i16), .val (.ref o17), s18, s19] [(.ref o7), (.int i16), (.int i15), (.int i12), (.int i13), (.long j8), (.int i10), (.int i11), (.int (16 : Int32)), (.int (16 : Int32)), (.ref o17)])) rfl (by rw [hml]; rfl) (argsL := [(.int (16 : Int32)), (.int i11), (.int i10), (.long j8), (.int i13), (.int i12), (.int i15), (.int i16), (.ref o7)]) (rest := [(.int (16 : Int32)), (.ref o17)]) (lenOf pd_0_0 rfl) rfl (by show 2 * 0 + _ ≤ _; exact Nat.le_of_eq rfl) (hb hby at_660) (fun _ _ => ⟨rfl, e0, (by decide : 2 + 0 ≤ _), (by decide : 40 + 0 ≤ _)⟩)
  dsimp only [Pt.U, Pt.locs, Pt.cells, Pt.slots] at X7 l7 y7 z7 st7 hQ7
  subst l7 y7 z7
  obtain ⟨rfl, N7q, e7q⟩ := hQ7
  have N7 := Fr.app N0 N7q
  obtain ⟨cl_o17, Ar_o17, q_o17, S_o17, N_o17, H_o17, G_o17⟩ := V
  have hin663 : ¬ ((16 : Int32) < 0 ∨ cl_o17.slots.size ≤ ((16 : Int32)).toNatClampNeg) := inb_of S_o17 ⟨by decide, by decide⟩
  obtain ⟨T8, h8, X8, e8, W8, st8⟩ := stB X7 hx hZ e7q Ar_o17 (j := (16 : Int32)) hin663 (g := (mkF m 663 #[s0, s1, s2, s3, s4, s5, s6, .val (.ref o7), .val (.long j8), .second, .val (.int i10), .val (.int i11), .val (.int i12), .val (.int i13), s14, .val (.int i15), .val (.int i16), .val (.ref o17), s18, s19] [(.int (own_cell (16 : Int32) i11 i10 j8 i13 i12 i15 i16)), (.int (16 : Int32)), (.ref o17)])) rfl rfl (hb hby at_663)
  have N8 := Fr.snoc X8 N7 g_o17
  refine ⟨T8, h8, _, X8, e8, ⟨N8, Nat.le_trans Z0 (Nat.le_of_eq W8.size.symm), Arv.set Ar_o17 q_o17 S_o17 N_o17 H_o17 G_o17 (fits_nar_byte _) W8 16 rfl (by omega), P.other W8 ne⟩, fun target kt => ?_⟩
  show Steps p.tables e below (T0.setTop (mkF m 638 #[s0, s1, s2, s3, s4, s5, s6, .val (.ref o7), .val (.long j8), .second, .val (.int i10), .val (.int i11), .val (.int i12), .val (.int i13), s14, .val (.int i15), .val (.int i16), .val (.ref o17), s18, s19] [])) _
  refine XS.aload X0.here hx rfl (hb hby at_638) rfl rfl ?_
  show Steps p.tables e below (T0.setTop (mkF m 640 #[s0, s1, s2, s3, s4, s5, s6, .val (.ref o7), .val (.long j8), .second, .val (.int i10), .val (.int i11), .val (.int i12), .val (.int i13), s14, .val (.int i15), .val (.int i16), .val (.ref o17), s18, s19] [(.ref o17)])) _
  refine XS.bipush X0.here hx rfl (hb hby at_640) ?_
  show Steps p.tables e below (T0.setTop (mkF m 642 #[s0, s1, s2, s3, s4, s5, s6, .val (.ref o7), .val (.long j8), .second, .val (.int i10), .val (.int i11), .val (.int i12), .val (.int i13), s14, .val (.int i15), .val (.int i16), .val (.ref o17), s18, s19] [(.int (16 : Int32)), (.ref o17)])) _
  refine XS.bipush X0.here hx rfl (hb hby at_642) ?_
  show Steps p.tables e below (T0.setTop (mkF m 644 #[s0, s1, s2, s3, s4, s5, s6, .val (.ref o7), .val (.long j8), .second, .val (.int i10), .val (.int i11), .val (.int i12), .val (.int i13), s14, .val (.int i15), .val (.int i16), .val (.ref o17), s18, s19] [(.int (16 : Int32)), (.int (16 : Int32)), (.ref o17)])) _
  refine XS.iload X0.here hx rfl (hb hby at_644) rfl ?_
  show Steps p.tables e below (T0.setTop (mkF m 646 #[s0, s1, s2, s3, s4, s5, s6, .val (.ref o7), .val (.long j8), .second, .val (.int i10), .val (.int i11), .val (.int i12), .val (.int i13), s14, .val (.int i15), .val (.int i16), .val (.ref o17), s18, s19] [(.int i11), (.int (16 : Int32)), (.int (16 : Int32)), (.ref o17)])) _
  refine XS.iload X0.here hx rfl (hb hby at_646) rfl ?_
  show Steps p.tables e below (T0.setTop (mkF m 648 #[s0, s1, s2, s3, s4, s5, s6, .val (.ref o7), .val (.long j8), .second, .val (.int i10), .val (.int i11), .val (.int i12), .val (.int i13), s14, .val (.int i15), .val (.int i16), .val (.ref o17), s18, s19] [(.int i10), (.int i11), (.int (16 : Int32)), (.int (16 : Int32)), (.ref o17)])) _
  refine XS.lload X0.here hx rfl (hb hby at_648) rfl ?_
  show Steps p.tables e below (T0.setTop (mkF m 650 #[s0, s1, s2, s3, s4, s5, s6, .val (.ref o7), .val (.long j8), .second, .val (.int i10), .val (.int i11), .val (.int i12), .val (.int i13), s14, .val (.int i15), .val (.int i16), .val (.ref o17), s18, s19] [(.long j8), (.int i10), (.int i11), (.int (16 : Int32)), (.int (16 : Int32)), (.ref o17)])) _
  refine XS.iload X0.here hx rfl (hb hby at_650) rfl ?_
  show Steps p.tables e below (T0.setTop (mkF m 652 #[s0, s1, s2, s3, s4, s5, s6, .val (.ref o7), .val (.long j8), .second, .val (.int i10), .val (.int i11), .val (.int i12), .val (.int i13), s14, .val (.int i15), .val (.int i16), .val (.ref o17), s18, s19] [(.int i13), (.long j8), (.int i10), (.int i11), (.int (16 : Int32)), (.int (16 : Int32)), (.ref o17)])) _
  refine XS.iload X0.here hx rfl (hb hby at_652) rfl ?_
  show Steps p.tables e below (T0.setTop (mkF m 654 #[s0, s1, s2, s3, s4, s5, s6, .val (.ref o7), .val (.long j8), .second, .val (.int i10), .val (.int i11), .val (.int i12), .val (.int i13), s14, .val (.int i15), .val (.int i16), .val (.ref o17), s18, s19] [(.int i12), (.int i13), (.long j8), (.int i10), (.int i11), (.int (16 : Int32)), (.int (16 : Int32)), (.ref o17)])) _
  refine XS.iload X0.here hx rfl (hb hby at_654) rfl ?_
  show Steps p.tables e below (T0.setTop (mkF m 656 #[s0, s1, s2, s3, s4, s5, s6, .val (.ref o7), .val (.long j8), .second, .val (.int i10), .val (.int i11), .val (.int i12), .val (.int i13), s14, .val (.int i15), .val (.int i16), .val (.ref o17), s18, s19] [(.int i15), (.int i12), (.int i13), (.long j8), (.int i10), (.int i11), (.int (16 : Int32)), (.int (16 : Int32)), (.ref o17)])) _
  refine XS.iload X0.here hx rfl (hb hby at_656) rfl ?_
  show Steps p.tables e below (T0.setTop (mkF m 658 #[s0, s1, s2, s3, s4, s5, s6, .val (.ref o7), .val (.long j8), .second, .val (.int i10), .val (.int i11), .val (.int i12), .val (.int i13), s14, .val (.int i15), .val (.int i16), .val (.ref o17), s18, s19] [(.int i16), (.int i15), (.int i12), (.int i13), (.long j8), (.int i10), (.int i11), (.int (16 : Int32)), (.int (16 : Int32)), (.ref o17)])) _
  refine XS.aload X0.here hx rfl (hb hby at_658) rfl rfl ?_
  show Steps p.tables e below (T0.setTop (mkF m 660 #[s0, s1, s2, s3, s4, s5, s6, .val (.ref o7), .val (.long j8), .second, .val (.int i10), .val (.int i11), .val (.int i12), .val (.int i13), s14, .val (.int i15), .val (.int i16), .val (.ref o17), s18, s19] [(.ref o7), (.int i16), (.int i15), (.int i12), (.int i13), (.long j8), (.int i10), (.int i11), (.int (16 : Int32)), (.int (16 : Int32)), (.ref o17)])) _
  refine st7 _ ?_
  show Steps p.tables e below (T7.setTop (mkF m 663 #[s0, s1, s2, s3, s4, s5, s6, .val (.ref o7), .val (.long j8), .second, .val (.int i10), .val (.int i11), .val (.int i12), .val (.int i13), s14, .val (.int i15), .val (.int i16), .val (.ref o17), s18, s19] [(.int (own_cell (16 : Int32) i11 i10 j8 i13 i12 i15 i16)), (.int (16 : Int32)), (.ref o17)])) _
  refine st8 _ ?_
  exact kt
set_option maxRecDepth 65536 in
set_option maxHeartbeats 40000000 in
theorem tn0_664_690 {p : Program} {l : Launch} {e : Env} {s : State} {m : MethodId} {args : Array Value} {below : List Frame} {meth : Method} {c : Code} {T0 : State} {locs : List Loc} {Z : State} {a0 : Array Value} {h0 : Heap} (s0 : Slot) (s1 : Slot) (s2 : Slot) (s3 : Slot) (s4 : Slot) (s5 : Slot) (s6 : Slot) (o7 : Addr) (j8 : Int64) (i10 : Int32) (i11 : Int32) (i12 : Int32) (i13 : Int32) (s14 : Slot) (i15 : Int32) (i16 : Int32) (o17 : Addr) (s18 : Slot) (s19 : Slot) (n0 : Nat) (kb kP : ClassId) (vs : List Value)
    (X0 : Stand p l e room_1 s m args below meth c T0 locs 2 40) (hx : p.tables.exec = Jvm.exec) (hZ : Z.Warmed39 s.vm) (hw : ∀ d ∈ tables_1, d.before a0 Z = true) (hby : c.code = code) (hml : c.maxLocals = 20) (hown : s.vm.findClass "quotewarden/NumbersWholeNumberPinLaw" = some m.cls) (e0 : T0.heap = h0) (N0 : Fr n0 locs) (Z0 : n0 ≤ h0.size) (V : Arv Z h0 o17 kb .byte (21 : Int32) vs (.int (0 : Int32))) (hvs : vs.length = 21) (P : Arv Z h0 o7 kP .long (19 : Int32) (own_P.map Value.long) (.long (0 : Int64))) (ne : o7 ≠ o17) (g_o17 : n0 ≤ o17) (h19 : i10.toInt ≤ 19) :
    ∃ (T' : State) (h' : Heap) (L' : List Loc), Stand p l e room_1 s m args below meth c T' L' 2 40 ∧ T'.heap = h' ∧ (Fr n0 L' ∧ n0 ≤ h'.size ∧ Arv Z h' o17 kb .byte (21 : Int32) (vs.set 17 (.int (own_cell (17 : Int32) i11 i10 j8 i13 i12 i15 i16).toInt8.toInt32)) (.int (0 : Int32)) ∧ Arv Z h' o7 kP .long (19 : Int32) (own_P.map Value.long) (.long (0 : Int64))) ∧
      ∀ target, Steps p.tables e below (T'.setTop (mkF m 690 #[s0, s1, s2, s3, s4, s5, s6, .val (.ref o7), .val (.long j8), .second, .val (.int i10), .val (.int i11), .val (.int i12), .val (.int i13), s14, .val (.int i15), .val (.int i16), .val (.ref o17), s18, s19] [])) target → Steps p.tables e below (T0.setTop (mkF m 664 #[s0, s1, s2, s3, s4, s5, s6, .val (.ref o7), .val (.long j8), .second, .val (.int i10), .val (.int i11), .val (.int i12), .val (.int i13), s14, .val (.int i15), .val (.int i16), .val (.ref o17), s18, s19] [])) target := by
  obtain ⟨_, _, ⟨T7, L7, k7, n7⟩, -, X7, ⟨Lc7, hQ7, l7, y7, z7⟩, st7⟩ := Jvm.LawKit.callS X0 hx (y := (⟨"quotewarden/NumbersWholeNumberPinLaw", "cell", "(IIIJIZBB[J)B"⟩ : MethodName)) hown (mvT hZ (hw _ (List.mem_of_getElem? (i := 22) rfl))) (mvT hZ (hw _ (List.mem_of_getElem? (i := 23) rfl))) (mvT hZ (hw _ (List.mem_of_getElem? (i := 24) rfl))) (mvT hZ (hw _ (List.mem_of_getElem? (i := 25) rfl))) (by decide) (backOf (W := 2) (rm1 l Z a0 hw [] (17 : Int32) i11 i10 j8 i13 i12 i15 i16 o7  h0 n0 Z0 kP P h19) hZ (hw _ (List.mem_of_getElem? (i := 25) rfl)) (hw _ (List.mem_of_getElem? (i := 24) rfl)) (by decide) (by decide)) (g := (mkF m 686 #[s0, s1, s2, s3, s4, s5, s6, .val (.ref o7), .val (.long j8), .second, .val (.int i10), .val (.int i11), .val (.int i12), .val (.int i13), s14, .val (.int i15), .val (.int i16), .val (.ref o17), s18, s19] [(.ref o7), (.int i16), (.int i15), (.int i12), (.int i13), (.long j8), (.int i10), (.int i11), (.int (17 : Int32)), (.int (17 : Int32)), (.ref o17)])) rfl (by rw [hml]; rfl) (argsL := [(.int (17 : Int32)), (.int i11), (.int i10), (.long j8), (.int i13), (.int i12), (.int i15), (.int i16), (.ref o7)]) (rest := [(.int (17 : Int32)), (.ref o17)]) (lenOf pd_0_0 rfl) rfl (by show 2 * 0 + _ ≤ _; exact Nat.le_of_eq rfl) (hb hby at_686) (fun _ _ => ⟨rfl, e0, (by decide : 2 + 0 ≤ _), (by decide : 40 + 0 ≤ _)⟩)
  dsimp only [Pt.U, Pt.locs, Pt.cells, Pt.slots] at X7 l7 y7 z7 st7 hQ7
  subst l7 y7 z7
  obtain ⟨rfl, N7q, e7q⟩ := hQ7
  have N7 := Fr.app N0 N7q
  obtain ⟨cl_o17, Ar_o17, q_o17, S_o17, N_o17, H_o17, G_o17⟩ := V
  have hin689 : ¬ ((17 : Int32) < 0 ∨ cl_o17.slots.size ≤ ((17 : Int32)).toNatClampNeg) := inb_of S_o17 ⟨by decide, by decide⟩
  obtain ⟨T8, h8, X8, e8, W8, st8⟩ := stB X7 hx hZ e7q Ar_o17 (j := (17 : Int32)) hin689 (g := (mkF m 689 #[s0, s1, s2, s3, s4, s5, s6, .val (.ref o7), .val (.long j8), .second, .val (.int i10), .val (.int i11), .val (.int i12), .val (.int i13), s14, .val (.int i15), .val (.int i16), .val (.ref o17), s18, s19] [(.int (own_cell (17 : Int32) i11 i10 j8 i13 i12 i15 i16)), (.int (17 : Int32)), (.ref o17)])) rfl rfl (hb hby at_689)
  have N8 := Fr.snoc X8 N7 g_o17
  refine ⟨T8, h8, _, X8, e8, ⟨N8, Nat.le_trans Z0 (Nat.le_of_eq W8.size.symm), Arv.set Ar_o17 q_o17 S_o17 N_o17 H_o17 G_o17 (fits_nar_byte _) W8 17 rfl (by omega), P.other W8 ne⟩, fun target kt => ?_⟩
  show Steps p.tables e below (T0.setTop (mkF m 664 #[s0, s1, s2, s3, s4, s5, s6, .val (.ref o7), .val (.long j8), .second, .val (.int i10), .val (.int i11), .val (.int i12), .val (.int i13), s14, .val (.int i15), .val (.int i16), .val (.ref o17), s18, s19] [])) _
  refine XS.aload X0.here hx rfl (hb hby at_664) rfl rfl ?_
  show Steps p.tables e below (T0.setTop (mkF m 666 #[s0, s1, s2, s3, s4, s5, s6, .val (.ref o7), .val (.long j8), .second, .val (.int i10), .val (.int i11), .val (.int i12), .val (.int i13), s14, .val (.int i15), .val (.int i16), .val (.ref o17), s18, s19] [(.ref o17)])) _
  refine XS.bipush X0.here hx rfl (hb hby at_666) ?_
  show Steps p.tables e below (T0.setTop (mkF m 668 #[s0, s1, s2, s3, s4, s5, s6, .val (.ref o7), .val (.long j8), .second, .val (.int i10), .val (.int i11), .val (.int i12), .val (.int i13), s14, .val (.int i15), .val (.int i16), .val (.ref o17), s18, s19] [(.int (17 : Int32)), (.ref o17)])) _
  refine XS.bipush X0.here hx rfl (hb hby at_668) ?_
  show Steps p.tables e below (T0.setTop (mkF m 670 #[s0, s1, s2, s3, s4, s5, s6, .val (.ref o7), .val (.long j8), .second, .val (.int i10), .val (.int i11), .val (.int i12), .val (.int i13), s14, .val (.int i15), .val (.int i16), .val (.ref o17), s18, s19] [(.int (17 : Int32)), (.int (17 : Int32)), (.ref o17)])) _
  refine XS.iload X0.here hx rfl (hb hby at_670) rfl ?_
  show Steps p.tables e below (T0.setTop (mkF m 672 #[s0, s1, s2, s3, s4, s5, s6, .val (.ref o7), .val (.long j8), .second, .val (.int i10), .val (.int i11), .val (.int i12), .val (.int i13), s14, .val (.int i15), .val (.int i16), .val (.ref o17), s18, s19] [(.int i11), (.int (17 : Int32)), (.int (17 : Int32)), (.ref o17)])) _
  refine XS.iload X0.here hx rfl (hb hby at_672) rfl ?_
  show Steps p.tables e below (T0.setTop (mkF m 674 #[s0, s1, s2, s3, s4, s5, s6, .val (.ref o7), .val (.long j8), .second, .val (.int i10), .val (.int i11), .val (.int i12), .val (.int i13), s14, .val (.int i15), .val (.int i16), .val (.ref o17), s18, s19] [(.int i10), (.int i11), (.int (17 : Int32)), (.int (17 : Int32)), (.ref o17)])) _
  refine XS.lload X0.here hx rfl (hb hby at_674) rfl ?_
  show Steps p.tables e below (T0.setTop (mkF m 676 #[s0, s1, s2, s3, s4, s5, s6, .val (.ref o7), .val (.long j8), .second, .val (.int i10), .val (.int i11), .val (.int i12), .val (.int i13), s14, .val (.int i15), .val (.int i16), .val (.ref o17), s18, s19] [(.long j8), (.int i10), (.int i11), (.int (17 : Int32)), (.int (17 : Int32)), (.ref o17)])) _
  refine XS.iload X0.here hx rfl (hb hby at_676) rfl ?_
  show Steps p.tables e below (T0.setTop (mkF m 678 #[s0, s1, s2, s3, s4, s5, s6, .val (.ref o7), .val (.long j8), .second, .val (.int i10), .val (.int i11), .val (.int i12), .val (.int i13), s14, .val (.int i15), .val (.int i16), .val (.ref o17), s18, s19] [(.int i13), (.long j8), (.int i10), (.int i11), (.int (17 : Int32)), (.int (17 : Int32)), (.ref o17)])) _
  refine XS.iload X0.here hx rfl (hb hby at_678) rfl ?_
  show Steps p.tables e below (T0.setTop (mkF m 680 #[s0, s1, s2, s3, s4, s5, s6, .val (.ref o7), .val (.long j8), .second, .val (.int i10), .val (.int i11), .val (.int i12), .val (.int i13), s14, .val (.int i15), .val (.int i16), .val (.ref o17), s18, s19] [(.int i12), (.int i13), (.long j8), (.int i10), (.int i11), (.int (17 : Int32)), (.int (17 : Int32)), (.ref o17)])) _
  refine XS.iload X0.here hx rfl (hb hby at_680) rfl ?_
  show Steps p.tables e below (T0.setTop (mkF m 682 #[s0, s1, s2, s3, s4, s5, s6, .val (.ref o7), .val (.long j8), .second, .val (.int i10), .val (.int i11), .val (.int i12), .val (.int i13), s14, .val (.int i15), .val (.int i16), .val (.ref o17), s18, s19] [(.int i15), (.int i12), (.int i13), (.long j8), (.int i10), (.int i11), (.int (17 : Int32)), (.int (17 : Int32)), (.ref o17)])) _
  refine XS.iload X0.here hx rfl (hb hby at_682) rfl ?_
  show Steps p.tables e below (T0.setTop (mkF m 684 #[s0, s1, s2, s3, s4, s5, s6, .val (.ref o7), .val (.long j8), .second, .val (.int i10), .val (.int i11), .val (.int i12), .val (.int i13), s14, .val (.int i15), .val (.int i16), .val (.ref o17), s18, s19] [(.int i16), (.int i15), (.int i12), (.int i13), (.long j8), (.int i10), (.int i11), (.int (17 : Int32)), (.int (17 : Int32)), (.ref o17)])) _
  refine XS.aload X0.here hx rfl (hb hby at_684) rfl rfl ?_
  show Steps p.tables e below (T0.setTop (mkF m 686 #[s0, s1, s2, s3, s4, s5, s6, .val (.ref o7), .val (.long j8), .second, .val (.int i10), .val (.int i11), .val (.int i12), .val (.int i13), s14, .val (.int i15), .val (.int i16), .val (.ref o17), s18, s19] [(.ref o7), (.int i16), (.int i15), (.int i12), (.int i13), (.long j8), (.int i10), (.int i11), (.int (17 : Int32)), (.int (17 : Int32)), (.ref o17)])) _
  refine st7 _ ?_
  show Steps p.tables e below (T7.setTop (mkF m 689 #[s0, s1, s2, s3, s4, s5, s6, .val (.ref o7), .val (.long j8), .second, .val (.int i10), .val (.int i11), .val (.int i12), .val (.int i13), s14, .val (.int i15), .val (.int i16), .val (.ref o17), s18, s19] [(.int (own_cell (17 : Int32) i11 i10 j8 i13 i12 i15 i16)), (.int (17 : Int32)), (.ref o17)])) _
  refine st8 _ ?_
  exact kt
set_option maxRecDepth 65536 in
set_option maxHeartbeats 40000000 in
theorem tn0_690_716 {p : Program} {l : Launch} {e : Env} {s : State} {m : MethodId} {args : Array Value} {below : List Frame} {meth : Method} {c : Code} {T0 : State} {locs : List Loc} {Z : State} {a0 : Array Value} {h0 : Heap} (s0 : Slot) (s1 : Slot) (s2 : Slot) (s3 : Slot) (s4 : Slot) (s5 : Slot) (s6 : Slot) (o7 : Addr) (j8 : Int64) (i10 : Int32) (i11 : Int32) (i12 : Int32) (i13 : Int32) (s14 : Slot) (i15 : Int32) (i16 : Int32) (o17 : Addr) (s18 : Slot) (s19 : Slot) (n0 : Nat) (kb kP : ClassId) (vs : List Value)
    (X0 : Stand p l e room_1 s m args below meth c T0 locs 2 40) (hx : p.tables.exec = Jvm.exec) (hZ : Z.Warmed39 s.vm) (hw : ∀ d ∈ tables_1, d.before a0 Z = true) (hby : c.code = code) (hml : c.maxLocals = 20) (hown : s.vm.findClass "quotewarden/NumbersWholeNumberPinLaw" = some m.cls) (e0 : T0.heap = h0) (N0 : Fr n0 locs) (Z0 : n0 ≤ h0.size) (V : Arv Z h0 o17 kb .byte (21 : Int32) vs (.int (0 : Int32))) (hvs : vs.length = 21) (P : Arv Z h0 o7 kP .long (19 : Int32) (own_P.map Value.long) (.long (0 : Int64))) (ne : o7 ≠ o17) (g_o17 : n0 ≤ o17) (h19 : i10.toInt ≤ 19) :
    ∃ (T' : State) (h' : Heap) (L' : List Loc), Stand p l e room_1 s m args below meth c T' L' 2 40 ∧ T'.heap = h' ∧ (Fr n0 L' ∧ n0 ≤ h'.size ∧ Arv Z h' o17 kb .byte (21 : Int32) (vs.set 18 (.int (own_cell (18 : Int32) i11 i10 j8 i13 i12 i15 i16).toInt8.toInt32)) (.int (0 : Int32)) ∧ Arv Z h' o7 kP .long (19 : Int32) (own_P.map Value.long) (.long (0 : Int64))) ∧
      ∀ target, Steps p.tables e below (T'.setTop (mkF m 716 #[s0, s1, s2, s3, s4, s5, s6, .val (.ref o7), .val (.long j8), .second, .val (.int i10), .val (.int i11), .val (.int i12), .val (.int i13), s14, .val (.int i15), .val (.int i16), .val (.ref o17), s18, s19] [])) target → Steps p.tables e below (T0.setTop (mkF m 690 #[s0, s1, s2, s3, s4, s5, s6, .val (.ref o7), .val (.long j8), .second, .val (.int i10), .val (.int i11), .val (.int i12), .val (.int i13), s14, .val (.int i15), .val (.int i16), .val (.ref o17), s18, s19] [])) target := by
  obtain ⟨_, _, ⟨T7, L7, k7, n7⟩, -, X7, ⟨Lc7, hQ7, l7, y7, z7⟩, st7⟩ := Jvm.LawKit.callS X0 hx (y := (⟨"quotewarden/NumbersWholeNumberPinLaw", "cell", "(IIIJIZBB[J)B"⟩ : MethodName)) hown (mvT hZ (hw _ (List.mem_of_getElem? (i := 22) rfl))) (mvT hZ (hw _ (List.mem_of_getElem? (i := 23) rfl))) (mvT hZ (hw _ (List.mem_of_getElem? (i := 24) rfl))) (mvT hZ (hw _ (List.mem_of_getElem? (i := 25) rfl))) (by decide) (backOf (W := 2) (rm1 l Z a0 hw [] (18 : Int32) i11 i10 j8 i13 i12 i15 i16 o7  h0 n0 Z0 kP P h19) hZ (hw _ (List.mem_of_getElem? (i := 25) rfl)) (hw _ (List.mem_of_getElem? (i := 24) rfl)) (by decide) (by decide)) (g := (mkF m 712 #[s0, s1, s2, s3, s4, s5, s6, .val (.ref o7), .val (.long j8), .second, .val (.int i10), .val (.int i11), .val (.int i12), .val (.int i13), s14, .val (.int i15), .val (.int i16), .val (.ref o17), s18, s19] [(.ref o7), (.int i16), (.int i15), (.int i12), (.int i13), (.long j8), (.int i10), (.int i11), (.int (18 : Int32)), (.int (18 : Int32)), (.ref o17)])) rfl (by rw [hml]; rfl) (argsL := [(.int (18 : Int32)), (.int i11), (.int i10), (.long j8), (.int i13), (.int i12), (.int i15), (.int i16), (.ref o7)]) (rest := [(.int (18 : Int32)), (.ref o17)]) (lenOf pd_0_0 rfl) rfl (by show 2 * 0 + _ ≤ _; exact Nat.le_of_eq rfl) (hb hby at_712) (fun _ _ => ⟨rfl, e0, (by decide : 2 + 0 ≤ _), (by decide : 40 + 0 ≤ _)⟩)
  dsimp only [Pt.U, Pt.locs, Pt.cells, Pt.slots] at X7 l7 y7 z7 st7 hQ7
  subst l7 y7 z7
  obtain ⟨rfl, N7q, e7q⟩ := hQ7
  have N7 := Fr.app N0 N7q
  obtain ⟨cl_o17, Ar_o17, q_o17, S_o17, N_o17, H_o17, G_o17⟩ := V
  have hin715 : ¬ ((18 : Int32) < 0 ∨ cl_o17.slots.size ≤ ((18 : Int32)).toNatClampNeg) := inb_of S_o17 ⟨by decide, by decide⟩
  obtain ⟨T8, h8, X8, e8, W8, st8⟩ := stB X7 hx hZ e7q Ar_o17 (j := (18 : Int32)) hin715 (g := (mkF m 715 #[s0, s1, s2, s3, s4, s5, s6, .val (.ref o7), .val (.long j8), .second, .val (.int i10), .val (.int i11), .val (.int i12), .val (.int i13), s14, .val (.int i15), .val (.int i16), .val (.ref o17), s18, s19] [(.int (own_cell (18 : Int32) i11 i10 j8 i13 i12 i15 i16)), (.int (18 : Int32)), (.ref o17)])) rfl rfl (hb hby at_715)
  have N8 := Fr.snoc X8 N7 g_o17
  refine ⟨T8, h8, _, X8, e8, ⟨N8, Nat.le_trans Z0 (Nat.le_of_eq W8.size.symm), Arv.set Ar_o17 q_o17 S_o17 N_o17 H_o17 G_o17 (fits_nar_byte _) W8 18 rfl (by omega), P.other W8 ne⟩, fun target kt => ?_⟩
  show Steps p.tables e below (T0.setTop (mkF m 690 #[s0, s1, s2, s3, s4, s5, s6, .val (.ref o7), .val (.long j8), .second, .val (.int i10), .val (.int i11), .val (.int i12), .val (.int i13), s14, .val (.int i15), .val (.int i16), .val (.ref o17), s18, s19] [])) _
  refine XS.aload X0.here hx rfl (hb hby at_690) rfl rfl ?_
  show Steps p.tables e below (T0.setTop (mkF m 692 #[s0, s1, s2, s3, s4, s5, s6, .val (.ref o7), .val (.long j8), .second, .val (.int i10), .val (.int i11), .val (.int i12), .val (.int i13), s14, .val (.int i15), .val (.int i16), .val (.ref o17), s18, s19] [(.ref o17)])) _
  refine XS.bipush X0.here hx rfl (hb hby at_692) ?_
  show Steps p.tables e below (T0.setTop (mkF m 694 #[s0, s1, s2, s3, s4, s5, s6, .val (.ref o7), .val (.long j8), .second, .val (.int i10), .val (.int i11), .val (.int i12), .val (.int i13), s14, .val (.int i15), .val (.int i16), .val (.ref o17), s18, s19] [(.int (18 : Int32)), (.ref o17)])) _
  refine XS.bipush X0.here hx rfl (hb hby at_694) ?_
  show Steps p.tables e below (T0.setTop (mkF m 696 #[s0, s1, s2, s3, s4, s5, s6, .val (.ref o7), .val (.long j8), .second, .val (.int i10), .val (.int i11), .val (.int i12), .val (.int i13), s14, .val (.int i15), .val (.int i16), .val (.ref o17), s18, s19] [(.int (18 : Int32)), (.int (18 : Int32)), (.ref o17)])) _
  refine XS.iload X0.here hx rfl (hb hby at_696) rfl ?_
  show Steps p.tables e below (T0.setTop (mkF m 698 #[s0, s1, s2, s3, s4, s5, s6, .val (.ref o7), .val (.long j8), .second, .val (.int i10), .val (.int i11), .val (.int i12), .val (.int i13), s14, .val (.int i15), .val (.int i16), .val (.ref o17), s18, s19] [(.int i11), (.int (18 : Int32)), (.int (18 : Int32)), (.ref o17)])) _
  refine XS.iload X0.here hx rfl (hb hby at_698) rfl ?_
  show Steps p.tables e below (T0.setTop (mkF m 700 #[s0, s1, s2, s3, s4, s5, s6, .val (.ref o7), .val (.long j8), .second, .val (.int i10), .val (.int i11), .val (.int i12), .val (.int i13), s14, .val (.int i15), .val (.int i16), .val (.ref o17), s18, s19] [(.int i10), (.int i11), (.int (18 : Int32)), (.int (18 : Int32)), (.ref o17)])) _
  refine XS.lload X0.here hx rfl (hb hby at_700) rfl ?_
  show Steps p.tables e below (T0.setTop (mkF m 702 #[s0, s1, s2, s3, s4, s5, s6, .val (.ref o7), .val (.long j8), .second, .val (.int i10), .val (.int i11), .val (.int i12), .val (.int i13), s14, .val (.int i15), .val (.int i16), .val (.ref o17), s18, s19] [(.long j8), (.int i10), (.int i11), (.int (18 : Int32)), (.int (18 : Int32)), (.ref o17)])) _
  refine XS.iload X0.here hx rfl (hb hby at_702) rfl ?_
  show Steps p.tables e below (T0.setTop (mkF m 704 #[s0, s1, s2, s3, s4, s5, s6, .val (.ref o7), .val (.long j8), .second, .val (.int i10), .val (.int i11), .val (.int i12), .val (.int i13), s14, .val (.int i15), .val (.int i16), .val (.ref o17), s18, s19] [(.int i13), (.long j8), (.int i10), (.int i11), (.int (18 : Int32)), (.int (18 : Int32)), (.ref o17)])) _
  refine XS.iload X0.here hx rfl (hb hby at_704) rfl ?_
  show Steps p.tables e below (T0.setTop (mkF m 706 #[s0, s1, s2, s3, s4, s5, s6, .val (.ref o7), .val (.long j8), .second, .val (.int i10), .val (.int i11), .val (.int i12), .val (.int i13), s14, .val (.int i15), .val (.int i16), .val (.ref o17), s18, s19] [(.int i12), (.int i13), (.long j8), (.int i10), (.int i11), (.int (18 : Int32)), (.int (18 : Int32)), (.ref o17)])) _
  refine XS.iload X0.here hx rfl (hb hby at_706) rfl ?_
  show Steps p.tables e below (T0.setTop (mkF m 708 #[s0, s1, s2, s3, s4, s5, s6, .val (.ref o7), .val (.long j8), .second, .val (.int i10), .val (.int i11), .val (.int i12), .val (.int i13), s14, .val (.int i15), .val (.int i16), .val (.ref o17), s18, s19] [(.int i15), (.int i12), (.int i13), (.long j8), (.int i10), (.int i11), (.int (18 : Int32)), (.int (18 : Int32)), (.ref o17)])) _
  refine XS.iload X0.here hx rfl (hb hby at_708) rfl ?_
  show Steps p.tables e below (T0.setTop (mkF m 710 #[s0, s1, s2, s3, s4, s5, s6, .val (.ref o7), .val (.long j8), .second, .val (.int i10), .val (.int i11), .val (.int i12), .val (.int i13), s14, .val (.int i15), .val (.int i16), .val (.ref o17), s18, s19] [(.int i16), (.int i15), (.int i12), (.int i13), (.long j8), (.int i10), (.int i11), (.int (18 : Int32)), (.int (18 : Int32)), (.ref o17)])) _
  refine XS.aload X0.here hx rfl (hb hby at_710) rfl rfl ?_
  show Steps p.tables e below (T0.setTop (mkF m 712 #[s0, s1, s2, s3, s4, s5, s6, .val (.ref o7), .val (.long j8), .second, .val (.int i10), .val (.int i11), .val (.int i12), .val (.int i13), s14, .val (.int i15), .val (.int i16), .val (.ref o17), s18, s19] [(.ref o7), (.int i16), (.int i15), (.int i12), (.int i13), (.long j8), (.int i10), (.int i11), (.int (18 : Int32)), (.int (18 : Int32)), (.ref o17)])) _
  refine st7 _ ?_
  show Steps p.tables e below (T7.setTop (mkF m 715 #[s0, s1, s2, s3, s4, s5, s6, .val (.ref o7), .val (.long j8), .second, .val (.int i10), .val (.int i11), .val (.int i12), .val (.int i13), s14, .val (.int i15), .val (.int i16), .val (.ref o17), s18, s19] [(.int (own_cell (18 : Int32) i11 i10 j8 i13 i12 i15 i16)), (.int (18 : Int32)), (.ref o17)])) _
  refine st8 _ ?_
  exact kt
set_option maxRecDepth 65536 in
set_option maxHeartbeats 40000000 in
theorem tn0_716_742 {p : Program} {l : Launch} {e : Env} {s : State} {m : MethodId} {args : Array Value} {below : List Frame} {meth : Method} {c : Code} {T0 : State} {locs : List Loc} {Z : State} {a0 : Array Value} {h0 : Heap} (s0 : Slot) (s1 : Slot) (s2 : Slot) (s3 : Slot) (s4 : Slot) (s5 : Slot) (s6 : Slot) (o7 : Addr) (j8 : Int64) (i10 : Int32) (i11 : Int32) (i12 : Int32) (i13 : Int32) (s14 : Slot) (i15 : Int32) (i16 : Int32) (o17 : Addr) (s18 : Slot) (s19 : Slot) (n0 : Nat) (kb kP : ClassId) (vs : List Value)
    (X0 : Stand p l e room_1 s m args below meth c T0 locs 2 40) (hx : p.tables.exec = Jvm.exec) (hZ : Z.Warmed39 s.vm) (hw : ∀ d ∈ tables_1, d.before a0 Z = true) (hby : c.code = code) (hml : c.maxLocals = 20) (hown : s.vm.findClass "quotewarden/NumbersWholeNumberPinLaw" = some m.cls) (e0 : T0.heap = h0) (N0 : Fr n0 locs) (Z0 : n0 ≤ h0.size) (V : Arv Z h0 o17 kb .byte (21 : Int32) vs (.int (0 : Int32))) (hvs : vs.length = 21) (P : Arv Z h0 o7 kP .long (19 : Int32) (own_P.map Value.long) (.long (0 : Int64))) (ne : o7 ≠ o17) (g_o17 : n0 ≤ o17) (h19 : i10.toInt ≤ 19) :
    ∃ (T' : State) (h' : Heap) (L' : List Loc), Stand p l e room_1 s m args below meth c T' L' 2 40 ∧ T'.heap = h' ∧ (Fr n0 L' ∧ n0 ≤ h'.size ∧ Arv Z h' o17 kb .byte (21 : Int32) (vs.set 19 (.int (own_cell (19 : Int32) i11 i10 j8 i13 i12 i15 i16).toInt8.toInt32)) (.int (0 : Int32)) ∧ Arv Z h' o7 kP .long (19 : Int32) (own_P.map Value.long) (.long (0 : Int64))) ∧
      ∀ target, Steps p.tables e below (T'.setTop (mkF m 742 #[s0, s1, s2, s3, s4, s5, s6, .val (.ref o7), .val (.long j8), .second, .val (.int i10), .val (.int i11), .val (.int i12), .val (.int i13), s14, .val (.int i15), .val (.int i16), .val (.ref o17), s18, s19] [])) target → Steps p.tables e below (T0.setTop (mkF m 716 #[s0, s1, s2, s3, s4, s5, s6, .val (.ref o7), .val (.long j8), .second, .val (.int i10), .val (.int i11), .val (.int i12), .val (.int i13), s14, .val (.int i15), .val (.int i16), .val (.ref o17), s18, s19] [])) target := by
  obtain ⟨_, _, ⟨T7, L7, k7, n7⟩, -, X7, ⟨Lc7, hQ7, l7, y7, z7⟩, st7⟩ := Jvm.LawKit.callS X0 hx (y := (⟨"quotewarden/NumbersWholeNumberPinLaw", "cell", "(IIIJIZBB[J)B"⟩ : MethodName)) hown (mvT hZ (hw _ (List.mem_of_getElem? (i := 22) rfl))) (mvT hZ (hw _ (List.mem_of_getElem? (i := 23) rfl))) (mvT hZ (hw _ (List.mem_of_getElem? (i := 24) rfl))) (mvT hZ (hw _ (List.mem_of_getElem? (i := 25) rfl))) (by decide) (backOf (W := 2) (rm1 l Z a0 hw [] (19 : Int32) i11 i10 j8 i13 i12 i15 i16 o7  h0 n0 Z0 kP P h19) hZ (hw _ (List.mem_of_getElem? (i := 25) rfl)) (hw _ (List.mem_of_getElem? (i := 24) rfl)) (by decide) (by decide)) (g := (mkF m 738 #[s0, s1, s2, s3, s4, s5, s6, .val (.ref o7), .val (.long j8), .second, .val (.int i10), .val (.int i11), .val (.int i12), .val (.int i13), s14, .val (.int i15), .val (.int i16), .val (.ref o17), s18, s19] [(.ref o7), (.int i16), (.int i15), (.int i12), (.int i13), (.long j8), (.int i10), (.int i11), (.int (19 : Int32)), (.int (19 : Int32)), (.ref o17)])) rfl (by rw [hml]; rfl) (argsL := [(.int (19 : Int32)), (.int i11), (.int i10), (.long j8), (.int i13), (.int i12), (.int i15), (.int i16), (.ref o7)]) (rest := [(.int (19 : Int32)), (.ref o17)]) (lenOf pd_0_0 rfl) rfl (by show 2 * 0 + _ ≤ _; exact Nat.le_of_eq rfl) (hb hby at_738) (fun _ _ => ⟨rfl, e0, (by decide : 2 + 0 ≤ _), (by decide : 40 + 0 ≤ _)⟩)
  dsimp only [Pt.U, Pt.locs, Pt.cells, Pt.slots] at X7 l7 y7 z7 st7 hQ7
  subst l7 y7 z7
  obtain ⟨rfl, N7q, e7q⟩ := hQ7
  have N7 := Fr.app N0 N7q
  obtain ⟨cl_o17, Ar_o17, q_o17, S_o17, N_o17, H_o17, G_o17⟩ := V
  have hin741 : ¬ ((19 : Int32) < 0 ∨ cl_o17.slots.size ≤ ((19 : Int32)).toNatClampNeg) := inb_of S_o17 ⟨by decide, by decide⟩
  obtain ⟨T8, h8, X8, e8, W8, st8⟩ := stB X7 hx hZ e7q Ar_o17 (j := (19 : Int32)) hin741 (g := (mkF m 741 #[s0, s1, s2, s3, s4, s5, s6, .val (.ref o7), .val (.long j8), .second, .val (.int i10), .val (.int i11), .val (.int i12), .val (.int i13), s14, .val (.int i15), .val (.int i16), .val (.ref o17), s18, s19] [(.int (own_cell (19 : Int32) i11 i10 j8 i13 i12 i15 i16)), (.int (19 : Int32)), (.ref o17)])) rfl rfl (hb hby at_741)
  have N8 := Fr.snoc X8 N7 g_o17
  refine ⟨T8, h8, _, X8, e8, ⟨N8, Nat.le_trans Z0 (Nat.le_of_eq W8.size.symm), Arv.set Ar_o17 q_o17 S_o17 N_o17 H_o17 G_o17 (fits_nar_byte _) W8 19 rfl (by omega), P.other W8 ne⟩, fun target kt => ?_⟩
  show Steps p.tables e below (T0.setTop (mkF m 716 #[s0, s1, s2, s3, s4, s5, s6, .val (.ref o7), .val (.long j8), .second, .val (.int i10), .val (.int i11), .val (.int i12), .val (.int i13), s14, .val (.int i15), .val (.int i16), .val (.ref o17), s18, s19] [])) _
  refine XS.aload X0.here hx rfl (hb hby at_716) rfl rfl ?_
  show Steps p.tables e below (T0.setTop (mkF m 718 #[s0, s1, s2, s3, s4, s5, s6, .val (.ref o7), .val (.long j8), .second, .val (.int i10), .val (.int i11), .val (.int i12), .val (.int i13), s14, .val (.int i15), .val (.int i16), .val (.ref o17), s18, s19] [(.ref o17)])) _
  refine XS.bipush X0.here hx rfl (hb hby at_718) ?_
  show Steps p.tables e below (T0.setTop (mkF m 720 #[s0, s1, s2, s3, s4, s5, s6, .val (.ref o7), .val (.long j8), .second, .val (.int i10), .val (.int i11), .val (.int i12), .val (.int i13), s14, .val (.int i15), .val (.int i16), .val (.ref o17), s18, s19] [(.int (19 : Int32)), (.ref o17)])) _
  refine XS.bipush X0.here hx rfl (hb hby at_720) ?_
  show Steps p.tables e below (T0.setTop (mkF m 722 #[s0, s1, s2, s3, s4, s5, s6, .val (.ref o7), .val (.long j8), .second, .val (.int i10), .val (.int i11), .val (.int i12), .val (.int i13), s14, .val (.int i15), .val (.int i16), .val (.ref o17), s18, s19] [(.int (19 : Int32)), (.int (19 : Int32)), (.ref o17)])) _
  refine XS.iload X0.here hx rfl (hb hby at_722) rfl ?_
  show Steps p.tables e below (T0.setTop (mkF m 724 #[s0, s1, s2, s3, s4, s5, s6, .val (.ref o7), .val (.long j8), .second, .val (.int i10), .val (.int i11), .val (.int i12), .val (.int i13), s14, .val (.int i15), .val (.int i16), .val (.ref o17), s18, s19] [(.int i11), (.int (19 : Int32)), (.int (19 : Int32)), (.ref o17)])) _
  refine XS.iload X0.here hx rfl (hb hby at_724) rfl ?_
  show Steps p.tables e below (T0.setTop (mkF m 726 #[s0, s1, s2, s3, s4, s5, s6, .val (.ref o7), .val (.long j8), .second, .val (.int i10), .val (.int i11), .val (.int i12), .val (.int i13), s14, .val (.int i15), .val (.int i16), .val (.ref o17), s18, s19] [(.int i10), (.int i11), (.int (19 : Int32)), (.int (19 : Int32)), (.ref o17)])) _
  refine XS.lload X0.here hx rfl (hb hby at_726) rfl ?_
  show Steps p.tables e below (T0.setTop (mkF m 728 #[s0, s1, s2, s3, s4, s5, s6, .val (.ref o7), .val (.long j8), .second, .val (.int i10), .val (.int i11), .val (.int i12), .val (.int i13), s14, .val (.int i15), .val (.int i16), .val (.ref o17), s18, s19] [(.long j8), (.int i10), (.int i11), (.int (19 : Int32)), (.int (19 : Int32)), (.ref o17)])) _
  refine XS.iload X0.here hx rfl (hb hby at_728) rfl ?_
  show Steps p.tables e below (T0.setTop (mkF m 730 #[s0, s1, s2, s3, s4, s5, s6, .val (.ref o7), .val (.long j8), .second, .val (.int i10), .val (.int i11), .val (.int i12), .val (.int i13), s14, .val (.int i15), .val (.int i16), .val (.ref o17), s18, s19] [(.int i13), (.long j8), (.int i10), (.int i11), (.int (19 : Int32)), (.int (19 : Int32)), (.ref o17)])) _
  refine XS.iload X0.here hx rfl (hb hby at_730) rfl ?_
  show Steps p.tables e below (T0.setTop (mkF m 732 #[s0, s1, s2, s3, s4, s5, s6, .val (.ref o7), .val (.long j8), .second, .val (.int i10), .val (.int i11), .val (.int i12), .val (.int i13), s14, .val (.int i15), .val (.int i16), .val (.ref o17), s18, s19] [(.int i12), (.int i13), (.long j8), (.int i10), (.int i11), (.int (19 : Int32)), (.int (19 : Int32)), (.ref o17)])) _
  refine XS.iload X0.here hx rfl (hb hby at_732) rfl ?_
  show Steps p.tables e below (T0.setTop (mkF m 734 #[s0, s1, s2, s3, s4, s5, s6, .val (.ref o7), .val (.long j8), .second, .val (.int i10), .val (.int i11), .val (.int i12), .val (.int i13), s14, .val (.int i15), .val (.int i16), .val (.ref o17), s18, s19] [(.int i15), (.int i12), (.int i13), (.long j8), (.int i10), (.int i11), (.int (19 : Int32)), (.int (19 : Int32)), (.ref o17)])) _
  refine XS.iload X0.here hx rfl (hb hby at_734) rfl ?_
  show Steps p.tables e below (T0.setTop (mkF m 736 #[s0, s1, s2, s3, s4, s5, s6, .val (.ref o7), .val (.long j8), .second, .val (.int i10), .val (.int i11), .val (.int i12), .val (.int i13), s14, .val (.int i15), .val (.int i16), .val (.ref o17), s18, s19] [(.int i16), (.int i15), (.int i12), (.int i13), (.long j8), (.int i10), (.int i11), (.int (19 : Int32)), (.int (19 : Int32)), (.ref o17)])) _
  refine XS.aload X0.here hx rfl (hb hby at_736) rfl rfl ?_
  show Steps p.tables e below (T0.setTop (mkF m 738 #[s0, s1, s2, s3, s4, s5, s6, .val (.ref o7), .val (.long j8), .second, .val (.int i10), .val (.int i11), .val (.int i12), .val (.int i13), s14, .val (.int i15), .val (.int i16), .val (.ref o17), s18, s19] [(.ref o7), (.int i16), (.int i15), (.int i12), (.int i13), (.long j8), (.int i10), (.int i11), (.int (19 : Int32)), (.int (19 : Int32)), (.ref o17)])) _
  refine st7 _ ?_
  show Steps p.tables e below (T7.setTop (mkF m 741 #[s0, s1, s2, s3, s4, s5, s6, .val (.ref o7), .val (.long j8), .second, .val (.int i10), .val (.int i11), .val (.int i12), .val (.int i13), s14, .val (.int i15), .val (.int i16), .val (.ref o17), s18, s19] [(.int (own_cell (19 : Int32) i11 i10 j8 i13 i12 i15 i16)), (.int (19 : Int32)), (.ref o17)])) _
  refine st8 _ ?_
  exact kt
set_option maxRecDepth 65536 in
set_option maxHeartbeats 40000000 in
theorem tn0_742_768 {p : Program} {l : Launch} {e : Env} {s : State} {m : MethodId} {args : Array Value} {below : List Frame} {meth : Method} {c : Code} {T0 : State} {locs : List Loc} {Z : State} {a0 : Array Value} {h0 : Heap} (s0 : Slot) (s1 : Slot) (s2 : Slot) (s3 : Slot) (s4 : Slot) (s5 : Slot) (s6 : Slot) (o7 : Addr) (j8 : Int64) (i10 : Int32) (i11 : Int32) (i12 : Int32) (i13 : Int32) (s14 : Slot) (i15 : Int32) (i16 : Int32) (o17 : Addr) (s18 : Slot) (s19 : Slot) (n0 : Nat) (kb kP : ClassId) (vs : List Value)
    (X0 : Stand p l e room_1 s m args below meth c T0 locs 2 40) (hx : p.tables.exec = Jvm.exec) (hZ : Z.Warmed39 s.vm) (hw : ∀ d ∈ tables_1, d.before a0 Z = true) (hby : c.code = code) (hml : c.maxLocals = 20) (hown : s.vm.findClass "quotewarden/NumbersWholeNumberPinLaw" = some m.cls) (e0 : T0.heap = h0) (N0 : Fr n0 locs) (Z0 : n0 ≤ h0.size) (V : Arv Z h0 o17 kb .byte (21 : Int32) vs (.int (0 : Int32))) (hvs : vs.length = 21) (P : Arv Z h0 o7 kP .long (19 : Int32) (own_P.map Value.long) (.long (0 : Int64))) (ne : o7 ≠ o17) (g_o17 : n0 ≤ o17) (h19 : i10.toInt ≤ 19) :
    ∃ (T' : State) (h' : Heap) (L' : List Loc), Stand p l e room_1 s m args below meth c T' L' 2 40 ∧ T'.heap = h' ∧ (Fr n0 L' ∧ n0 ≤ h'.size ∧ Arv Z h' o17 kb .byte (21 : Int32) (vs.set 20 (.int (own_cell (20 : Int32) i11 i10 j8 i13 i12 i15 i16).toInt8.toInt32)) (.int (0 : Int32)) ∧ Arv Z h' o7 kP .long (19 : Int32) (own_P.map Value.long) (.long (0 : Int64))) ∧
      ∀ target, Steps p.tables e below (T'.setTop (mkF m 768 #[s0, s1, s2, s3, s4, s5, s6, .val (.ref o7), .val (.long j8), .second, .val (.int i10), .val (.int i11), .val (.int i12), .val (.int i13), s14, .val (.int i15), .val (.int i16), .val (.ref o17), s18, s19] [])) target → Steps p.tables e below (T0.setTop (mkF m 742 #[s0, s1, s2, s3, s4, s5, s6, .val (.ref o7), .val (.long j8), .second, .val (.int i10), .val (.int i11), .val (.int i12), .val (.int i13), s14, .val (.int i15), .val (.int i16), .val (.ref o17), s18, s19] [])) target := by
  obtain ⟨_, _, ⟨T7, L7, k7, n7⟩, -, X7, ⟨Lc7, hQ7, l7, y7, z7⟩, st7⟩ := Jvm.LawKit.callS X0 hx (y := (⟨"quotewarden/NumbersWholeNumberPinLaw", "cell", "(IIIJIZBB[J)B"⟩ : MethodName)) hown (mvT hZ (hw _ (List.mem_of_getElem? (i := 22) rfl))) (mvT hZ (hw _ (List.mem_of_getElem? (i := 23) rfl))) (mvT hZ (hw _ (List.mem_of_getElem? (i := 24) rfl))) (mvT hZ (hw _ (List.mem_of_getElem? (i := 25) rfl))) (by decide) (backOf (W := 2) (rm1 l Z a0 hw [] (20 : Int32) i11 i10 j8 i13 i12 i15 i16 o7  h0 n0 Z0 kP P h19) hZ (hw _ (List.mem_of_getElem? (i := 25) rfl)) (hw _ (List.mem_of_getElem? (i := 24) rfl)) (by decide) (by decide)) (g := (mkF m 764 #[s0, s1, s2, s3, s4, s5, s6, .val (.ref o7), .val (.long j8), .second, .val (.int i10), .val (.int i11), .val (.int i12), .val (.int i13), s14, .val (.int i15), .val (.int i16), .val (.ref o17), s18, s19] [(.ref o7), (.int i16), (.int i15), (.int i12), (.int i13), (.long j8), (.int i10), (.int i11), (.int (20 : Int32)), (.int (20 : Int32)), (.ref o17)])) rfl (by rw [hml]; rfl) (argsL := [(.int (20 : Int32)), (.int i11), (.int i10), (.long j8), (.int i13), (.int i12), (.int i15), (.int i16), (.ref o7)]) (rest := [(.int (20 : Int32)), (.ref o17)]) (lenOf pd_0_0 rfl) rfl (by show 2 * 0 + _ ≤ _; exact Nat.le_of_eq rfl) (hb hby at_764) (fun _ _ => ⟨rfl, e0, (by decide : 2 + 0 ≤ _), (by decide : 40 + 0 ≤ _)⟩)
  dsimp only [Pt.U, Pt.locs, Pt.cells, Pt.slots] at X7 l7 y7 z7 st7 hQ7
  subst l7 y7 z7
  obtain ⟨rfl, N7q, e7q⟩ := hQ7
  have N7 := Fr.app N0 N7q
  obtain ⟨cl_o17, Ar_o17, q_o17, S_o17, N_o17, H_o17, G_o17⟩ := V
  have hin767 : ¬ ((20 : Int32) < 0 ∨ cl_o17.slots.size ≤ ((20 : Int32)).toNatClampNeg) := inb_of S_o17 ⟨by decide, by decide⟩
  obtain ⟨T8, h8, X8, e8, W8, st8⟩ := stB X7 hx hZ e7q Ar_o17 (j := (20 : Int32)) hin767 (g := (mkF m 767 #[s0, s1, s2, s3, s4, s5, s6, .val (.ref o7), .val (.long j8), .second, .val (.int i10), .val (.int i11), .val (.int i12), .val (.int i13), s14, .val (.int i15), .val (.int i16), .val (.ref o17), s18, s19] [(.int (own_cell (20 : Int32) i11 i10 j8 i13 i12 i15 i16)), (.int (20 : Int32)), (.ref o17)])) rfl rfl (hb hby at_767)
  have N8 := Fr.snoc X8 N7 g_o17
  refine ⟨T8, h8, _, X8, e8, ⟨N8, Nat.le_trans Z0 (Nat.le_of_eq W8.size.symm), Arv.set Ar_o17 q_o17 S_o17 N_o17 H_o17 G_o17 (fits_nar_byte _) W8 20 rfl (by omega), P.other W8 ne⟩, fun target kt => ?_⟩
  show Steps p.tables e below (T0.setTop (mkF m 742 #[s0, s1, s2, s3, s4, s5, s6, .val (.ref o7), .val (.long j8), .second, .val (.int i10), .val (.int i11), .val (.int i12), .val (.int i13), s14, .val (.int i15), .val (.int i16), .val (.ref o17), s18, s19] [])) _
  refine XS.aload X0.here hx rfl (hb hby at_742) rfl rfl ?_
  show Steps p.tables e below (T0.setTop (mkF m 744 #[s0, s1, s2, s3, s4, s5, s6, .val (.ref o7), .val (.long j8), .second, .val (.int i10), .val (.int i11), .val (.int i12), .val (.int i13), s14, .val (.int i15), .val (.int i16), .val (.ref o17), s18, s19] [(.ref o17)])) _
  refine XS.bipush X0.here hx rfl (hb hby at_744) ?_
  show Steps p.tables e below (T0.setTop (mkF m 746 #[s0, s1, s2, s3, s4, s5, s6, .val (.ref o7), .val (.long j8), .second, .val (.int i10), .val (.int i11), .val (.int i12), .val (.int i13), s14, .val (.int i15), .val (.int i16), .val (.ref o17), s18, s19] [(.int (20 : Int32)), (.ref o17)])) _
  refine XS.bipush X0.here hx rfl (hb hby at_746) ?_
  show Steps p.tables e below (T0.setTop (mkF m 748 #[s0, s1, s2, s3, s4, s5, s6, .val (.ref o7), .val (.long j8), .second, .val (.int i10), .val (.int i11), .val (.int i12), .val (.int i13), s14, .val (.int i15), .val (.int i16), .val (.ref o17), s18, s19] [(.int (20 : Int32)), (.int (20 : Int32)), (.ref o17)])) _
  refine XS.iload X0.here hx rfl (hb hby at_748) rfl ?_
  show Steps p.tables e below (T0.setTop (mkF m 750 #[s0, s1, s2, s3, s4, s5, s6, .val (.ref o7), .val (.long j8), .second, .val (.int i10), .val (.int i11), .val (.int i12), .val (.int i13), s14, .val (.int i15), .val (.int i16), .val (.ref o17), s18, s19] [(.int i11), (.int (20 : Int32)), (.int (20 : Int32)), (.ref o17)])) _
  refine XS.iload X0.here hx rfl (hb hby at_750) rfl ?_
  show Steps p.tables e below (T0.setTop (mkF m 752 #[s0, s1, s2, s3, s4, s5, s6, .val (.ref o7), .val (.long j8), .second, .val (.int i10), .val (.int i11), .val (.int i12), .val (.int i13), s14, .val (.int i15), .val (.int i16), .val (.ref o17), s18, s19] [(.int i10), (.int i11), (.int (20 : Int32)), (.int (20 : Int32)), (.ref o17)])) _
  refine XS.lload X0.here hx rfl (hb hby at_752) rfl ?_
  show Steps p.tables e below (T0.setTop (mkF m 754 #[s0, s1, s2, s3, s4, s5, s6, .val (.ref o7), .val (.long j8), .second, .val (.int i10), .val (.int i11), .val (.int i12), .val (.int i13), s14, .val (.int i15), .val (.int i16), .val (.ref o17), s18, s19] [(.long j8), (.int i10), (.int i11), (.int (20 : Int32)), (.int (20 : Int32)), (.ref o17)])) _
  refine XS.iload X0.here hx rfl (hb hby at_754) rfl ?_
  show Steps p.tables e below (T0.setTop (mkF m 756 #[s0, s1, s2, s3, s4, s5, s6, .val (.ref o7), .val (.long j8), .second, .val (.int i10), .val (.int i11), .val (.int i12), .val (.int i13), s14, .val (.int i15), .val (.int i16), .val (.ref o17), s18, s19] [(.int i13), (.long j8), (.int i10), (.int i11), (.int (20 : Int32)), (.int (20 : Int32)), (.ref o17)])) _
  refine XS.iload X0.here hx rfl (hb hby at_756) rfl ?_
  show Steps p.tables e below (T0.setTop (mkF m 758 #[s0, s1, s2, s3, s4, s5, s6, .val (.ref o7), .val (.long j8), .second, .val (.int i10), .val (.int i11), .val (.int i12), .val (.int i13), s14, .val (.int i15), .val (.int i16), .val (.ref o17), s18, s19] [(.int i12), (.int i13), (.long j8), (.int i10), (.int i11), (.int (20 : Int32)), (.int (20 : Int32)), (.ref o17)])) _
  refine XS.iload X0.here hx rfl (hb hby at_758) rfl ?_
  show Steps p.tables e below (T0.setTop (mkF m 760 #[s0, s1, s2, s3, s4, s5, s6, .val (.ref o7), .val (.long j8), .second, .val (.int i10), .val (.int i11), .val (.int i12), .val (.int i13), s14, .val (.int i15), .val (.int i16), .val (.ref o17), s18, s19] [(.int i15), (.int i12), (.int i13), (.long j8), (.int i10), (.int i11), (.int (20 : Int32)), (.int (20 : Int32)), (.ref o17)])) _
  refine XS.iload X0.here hx rfl (hb hby at_760) rfl ?_
  show Steps p.tables e below (T0.setTop (mkF m 762 #[s0, s1, s2, s3, s4, s5, s6, .val (.ref o7), .val (.long j8), .second, .val (.int i10), .val (.int i11), .val (.int i12), .val (.int i13), s14, .val (.int i15), .val (.int i16), .val (.ref o17), s18, s19] [(.int i16), (.int i15), (.int i12), (.int i13), (.long j8), (.int i10), (.int i11), (.int (20 : Int32)), (.int (20 : Int32)), (.ref o17)])) _
  refine XS.aload X0.here hx rfl (hb hby at_762) rfl rfl ?_
  show Steps p.tables e below (T0.setTop (mkF m 764 #[s0, s1, s2, s3, s4, s5, s6, .val (.ref o7), .val (.long j8), .second, .val (.int i10), .val (.int i11), .val (.int i12), .val (.int i13), s14, .val (.int i15), .val (.int i16), .val (.ref o17), s18, s19] [(.ref o7), (.int i16), (.int i15), (.int i12), (.int i13), (.long j8), (.int i10), (.int i11), (.int (20 : Int32)), (.int (20 : Int32)), (.ref o17)])) _
  refine st7 _ ?_
  show Steps p.tables e below (T7.setTop (mkF m 767 #[s0, s1, s2, s3, s4, s5, s6, .val (.ref o7), .val (.long j8), .second, .val (.int i10), .val (.int i11), .val (.int i12), .val (.int i13), s14, .val (.int i15), .val (.int i16), .val (.ref o17), s18, s19] [(.int (own_cell (20 : Int32) i11 i10 j8 i13 i12 i15 i16)), (.int (20 : Int32)), (.ref o17)])) _
  refine st8 _ ?_
  exact kt
theorem pd_0_1 : parseMethodDescriptor "([BII)J" = some ⟨[(.array .byte), .int, .int], some .long⟩ := by decide +kernel
set_option maxRecDepth 65536 in
set_option maxHeartbeats 40000000 in
theorem tn0_801_819 {p : Program} {l : Launch} {e : Env} {s : State} {m : MethodId} {args : Array Value} {below : List Frame} {meth : Method} {c : Code} {T0 : State} {locs : List Loc} {Z : State} {a0 : Array Value} {h0 : Heap} (s0 : Slot) (s1 : Slot) (s2 : Slot) (s3 : Slot) (s4 : Slot) (s5 : Slot) (s6 : Slot) (s7 : Slot) (s8 : Slot) (s9 : Slot) (s12 : Slot) (s13 : Slot) (s14 : Slot) (s15 : Slot) (s16 : Slot) (o17 : Addr) (j18 : Int64) (n0 : Nat) (cl : Cell) (f : Nat → Int32) (I k : Nat)
    (X0 : Stand p l e room_1 s m args below meth c T0 locs 2 40) (hx : p.tables.exec = Jvm.exec) (hZ : Z.Warmed39 s.vm) (hw : ∀ d ∈ tables_1, d.before a0 Z = true) (hby : c.code = code) (hml : c.maxLocals = 20) (hown : s.vm.findClass "quotewarden/NumbersWholeNumberPinLaw" = some m.cls) (e0 : T0.heap = h0) (N0 : Fr n0 locs) (Z0 : n0 ≤ h0.size) (Ar : Arr Z h0 o17 cl .byte) (S : cl.slots.size = 21) (hJ : I + k ≤ 21) (hf : ∀ j, j < 21 → cl.slots[j]? = some (.int (f j))) (hfin : own_wn f I k = j18) :
    ∃ (T' : State) (L' : List Loc), Stand p l e room_1 s m args below meth c T' L' 2 40 ∧ Fr n0 L' ∧
      ∀ target, Steps p.tables e below (T'.setTop (mkF m 819 #[s0, s1, s2, s3, s4, s5, s6, s7, s8, s9, .val (.int (Int32.ofNat k)), .val (.int (Int32.ofNat I)), s12, s13, s14, s15, s16, .val (.ref o17), .val (.long j18), .second] [])) target → Steps p.tables e below (T0.setTop (mkF m 801 #[s0, s1, s2, s3, s4, s5, s6, s7, s8, s9, .val (.int (Int32.ofNat k)), .val (.int (Int32.ofNat I)), s12, s13, s14, s15, s16, .val (.ref o17), .val (.long j18), .second] [])) target := by
  obtain ⟨_, _, ⟨T7, L7, k7, n7⟩, -, X7, ⟨Lc7, hQ7, l7, y7, z7⟩, st7⟩ := Jvm.LawKit.callS X0 hx (y := (⟨"quotewarden/Numbers", "wholeNumber", "([BII)J"⟩ : MethodName)) hown (mvT hZ (hw _ (List.mem_of_getElem? (i := 27) rfl))) (mvT hZ (hw _ (List.mem_of_getElem? (i := 28) rfl))) (mvT hZ (hw _ (List.mem_of_getElem? (i := 29) rfl))) (mvT hZ (hw _ (List.mem_of_getElem? (i := 30) rfl))) (by decide) (backOf (W := 0) (rm2 l Z a0 hw [] o17 cl f I k 21 h0 n0 Z0 Ar S (by decide) hJ hf) hZ (hw _ (List.mem_of_getElem? (i := 30) rfl)) (hw _ (List.mem_of_getElem? (i := 29) rfl)) (by decide) (by decide)) (g := (mkF m 810 #[s0, s1, s2, s3, s4, s5, s6, s7, s8, s9, .val (.int (Int32.ofNat k)), .val (.int (Int32.ofNat I)), s12, s13, s14, s15, s16, .val (.ref o17), .val (.long j18), .second] [(.int ((Int32.ofNat I) + (Int32.ofNat k))), (.int (Int32.ofNat I)), (.ref o17)])) rfl (by rw [hml]; rfl) (argsL := [(.ref o17), (.int (Int32.ofNat I)), (.int ((Int32.ofNat I) + (Int32.ofNat k)))]) (rest := []) (lenOf pd_0_1 rfl) rfl (by show 2 * 0 + _ ≤ _; exact Nat.le_of_eq rfl) (hb hby at_810) (fun _ _ => ⟨by rw [Int32.ofNat_add], e0, (by decide : 2 + 0 ≤ _), (by decide : 40 + 0 ≤ _)⟩)
  dsimp only [Pt.U, Pt.locs, Pt.cells, Pt.slots] at X7 l7 y7 z7 st7 hQ7
  subst l7 y7 z7
  obtain ⟨rfl, N7q, e7q⟩ := hQ7
  have N7 := Fr.app N0 N7q
  refine ⟨T7, _, X7, N7, fun target kt => ?_⟩
  show Steps p.tables e below (T0.setTop (mkF m 801 #[s0, s1, s2, s3, s4, s5, s6, s7, s8, s9, .val (.int (Int32.ofNat k)), .val (.int (Int32.ofNat I)), s12, s13, s14, s15, s16, .val (.ref o17), .val (.long j18), .second] [])) _
  refine XS.aload X0.here hx rfl (hb hby at_801) rfl rfl ?_
  show Steps p.tables e below (T0.setTop (mkF m 803 #[s0, s1, s2, s3, s4, s5, s6, s7, s8, s9, .val (.int (Int32.ofNat k)), .val (.int (Int32.ofNat I)), s12, s13, s14, s15, s16, .val (.ref o17), .val (.long j18), .second] [(.ref o17)])) _
  refine XS.iload X0.here hx rfl (hb hby at_803) rfl ?_
  show Steps p.tables e below (T0.setTop (mkF m 805 #[s0, s1, s2, s3, s4, s5, s6, s7, s8, s9, .val (.int (Int32.ofNat k)), .val (.int (Int32.ofNat I)), s12, s13, s14, s15, s16, .val (.ref o17), .val (.long j18), .second] [(.int (Int32.ofNat I)), (.ref o17)])) _
  refine XS.iload X0.here hx rfl (hb hby at_805) rfl ?_
  show Steps p.tables e below (T0.setTop (mkF m 807 #[s0, s1, s2, s3, s4, s5, s6, s7, s8, s9, .val (.int (Int32.ofNat k)), .val (.int (Int32.ofNat I)), s12, s13, s14, s15, s16, .val (.ref o17), .val (.long j18), .second] [(.int (Int32.ofNat I)), (.int (Int32.ofNat I)), (.ref o17)])) _
  refine XS.iload X0.here hx rfl (hb hby at_807) rfl ?_
  show Steps p.tables e below (T0.setTop (mkF m 809 #[s0, s1, s2, s3, s4, s5, s6, s7, s8, s9, .val (.int (Int32.ofNat k)), .val (.int (Int32.ofNat I)), s12, s13, s14, s15, s16, .val (.ref o17), .val (.long j18), .second] [(.int (Int32.ofNat k)), (.int (Int32.ofNat I)), (.int (Int32.ofNat I)), (.ref o17)])) _
  refine XS.iadd X0.here hx rfl (hb hby at_809) rfl ?_
  show Steps p.tables e below (T0.setTop (mkF m 810 #[s0, s1, s2, s3, s4, s5, s6, s7, s8, s9, .val (.int (Int32.ofNat k)), .val (.int (Int32.ofNat I)), s12, s13, s14, s15, s16, .val (.ref o17), .val (.long j18), .second] [(.int ((Int32.ofNat I) + (Int32.ofNat k))), (.int (Int32.ofNat I)), (.ref o17)])) _
  refine st7 _ ?_
  show Steps p.tables e below (T7.setTop (mkF m 813 #[s0, s1, s2, s3, s4, s5, s6, s7, s8, s9, .val (.int (Int32.ofNat k)), .val (.int (Int32.ofNat I)), s12, s13, s14, s15, s16, .val (.ref o17), .val (.long j18), .second] [(.long (own_wn f I k))])) _
  refine XS.lload X7.here hx rfl (hb hby at_813) rfl ?_
  show Steps p.tables e below (T7.setTop (mkF m 815 #[s0, s1, s2, s3, s4, s5, s6, s7, s8, s9, .val (.int (Int32.ofNat k)), .val (.int (Int32.ofNat I)), s12, s13, s14, s15, s16, .val (.ref o17), .val (.long j18), .second] [(.long j18), (.long (own_wn f I k))])) _
  refine XS.lcmp X7.here hx rfl (hb hby at_815) rfl ?_
  show Steps p.tables e below (T7.setTop (mkF m 816 #[s0, s1, s2, s3, s4, s5, s6, s7, s8, s9, .val (.int (Int32.ofNat k)), .val (.int (Int32.ofNat I)), s12, s13, s14, s15, s16, .val (.ref o17), .val (.long j18), .second] [(.int (lcmpW (own_wn f I k) j18))])) _
  refine XS.ifNo X7.here hx rfl (hb hby at_816) rfl ((if0 _ _).trans (teq (own_lc _ _ hfin : (lcmpW (own_wn f I k) j18) = (0 : Int32))).2) ?_
  exact kt

theorem own_isd0 (f : Nat → Int32) : ∀ (k i t : Nat), i ≤ t → t < i + k → (f t < (48 : Int32) ∨ (57 : Int32) < f t) → own_isd f i k = 0 := by
  intro k
  induction k with
  | zero => intro i t h1 h2; omega
  | succ k ih =>
    intro i t h1 h2 h3
    rw [own_isd]
    by_cases a : f i < (48 : Int32)
    · rw [if_pos a]
    · rw [if_neg a]
      by_cases b : (57 : Int32) < f i
      · rw [if_pos b]
      · rw [if_neg b]
        have ne : t ≠ i := fun q => by
          subst q; rcases h3 with h | h
          · exact a h
          · exact b h
        exact ih (i + 1) t (by omega) (by omega) h3
theorem own_isd1 (f : Nat → Int32) : ∀ (k i : Nat), (∀ t, i ≤ t → t < i + k → ¬ f t < (48 : Int32) ∧ ¬ (57 : Int32) < f t) → own_isd f i k = 1 := by
  intro k
  induction k with
  | zero => intro i _; rfl
  | succ k ih =>
    intro i h
    have h0 := h i (Nat.le_refl _) (by omega)
    rw [own_isd, if_neg h0.1, if_neg h0.2]
    exact ih (i + 1) fun t h1 h2 => h t (by omega) (by omega)
theorem own_step (Y j : Nat) : 10 * ((Y / 10) % 10 ^ j) + Y % 10 = Y % 10 ^ (j + 1) := by
  rw [Nat.pow_succ, Nat.mul_comm (10 ^ j) 10, Nat.mod_mul]; omega
theorem own_pow18 {j : Nat} (h : j ≤ 18) : 10 ^ j ≤ 1000000000000000000 := by
  have := Nat.pow_le_pow_right (n := 10) (by decide) h
  exact Nat.le_trans this (by decide)
theorem own_digv (f : Nat → Int32) (Mn n o : Nat) (hn : n ≤ 18) (hf : ∀ i, i < n → (f (o + i)).toInt = 48 + (((Mn / 10 ^ (n - 1 - i)) % 10 : Nat) : Int)) :
    ∀ (k j : Nat) (acc : Int64), j + k = n → acc.toInt = (((Mn / 10 ^ k) % 10 ^ j : Nat) : Int) → (own_dig f (o + j) k acc).toInt = ((Mn % 10 ^ n : Nat) : Int) := by
  intro k
  induction k with
  | zero =>
    intro j acc hj ha
    have : j = n := by omega
    subst this
    rw [own_dig, ha, Nat.pow_zero, Nat.div_one]
  | succ k ih =>
    intro j acc hj ha
    rw [own_dig]
    refine ih (j + 1) _ (by omega) ?_
    have hfj := hf j (by omega)
    have e1 : n - 1 - j = k := by omega
    rw [e1] at hfj
    have hst := own_step (Mn / 10 ^ k) j
    rw [Nat.div_div_eq_div_mul, ← Nat.pow_succ] at hst
    have hb : (Mn / 10 ^ (k + 1)) % 10 ^ j < 10 ^ j := Nat.mod_lt _ (Nat.pow_pos (by decide))
    have hp := own_pow18 (j := j) (by omega)
    have hp' := own_pow18 (j := j + 1) (by omega)
    have hpe : 10 ^ (j + 1) = 10 ^ j * 10 := Nat.pow_succ ..
    have hd : (Mn / 10 ^ k) % 10 < 10 := Nat.mod_lt _ (by decide)
    rw [← hst]
    generalize (Mn / 10 ^ (k + 1)) % 10 ^ j = A at *
    generalize (Mn / 10 ^ k) % 10 = B at *
    have t10 : (10 : Int64).toInt = 10 := by decide +kernel
    have t48 : (48 : Int64).toInt = 48 := by decide +kernel
    have c1 := c_lmul (10 : Int64) acc
    have r1 := rng64 ((10 : Int64) * acc)
    have c2 := c_ladd ((10 : Int64) * acc) ((f (o + j)).toInt64)
    have r2 := rng64 (((10 : Int64) * acc) + ((f (o + j)).toInt64))
    have c3 := c_lsub (((10 : Int64) * acc) + ((f (o + j)).toInt64)) (48 : Int64)
    have r3 := rng64 ((((10 : Int64) * acc) + ((f (o + j)).toInt64)) - (48 : Int64))
    have il := c_i2l (f (o + j))
    rw [t10] at c1
    omega
theorem own_Pv : ∀ k, k < 19 → (own_P.getD k 0).toInt = ((10 ^ k : Nat) : Int) := by decide +kernel
theorem own_Dv (q : Int64) (Mn k : Nat) (hq : q.toInt = (Mn : Int)) (hk : k < 19) : (own_D q (own_P.getD k 0)).toInt = 48 + (((Mn / 10 ^ k) % 10 : Nat) : Int) := by
  have hw := own_Pv k hk
  generalize own_P.getD k 0 = w at *
  have rq := rng64 q
  have t10 : (10 : Int64).toInt = 10 := by decide +kernel
  have t48 : (48 : Int64).toInt = 48 := by decide +kernel
  have hle : Mn / 10 ^ k ≤ Mn := Nat.div_le_self _ _
  have d1 : (q / w).toInt = ((Mn / 10 ^ k : Nat) : Int) := by
    rw [Int64.toInt_div, hq, hw, Int.tdiv_eq_ediv_of_nonneg (Int.natCast_nonneg _), ← Int.natCast_ediv]
    generalize Mn / 10 ^ k = Y at *
    exact Int.bmod_eq_of_le (by omega) (by omega)
  generalize Mn / 10 ^ k = Y at *
  have d2 : ((q / w) % (10 : Int64)).toInt = ((Y % 10 : Nat) : Int) := by
    rw [Int64.toInt_mod, d1, t10, Int.tmod_eq_emod_of_nonneg (Int.natCast_nonneg _)]; omega
  unfold own_D
  have hd : Y % 10 < 10 := Nat.mod_lt _ (by decide)
  generalize Y % 10 = B at *
  generalize (q / w) % (10 : Int64) = x at *
  have c1 := c_ladd (48 : Int64) x
  have r1 := rng64 ((48 : Int64) + x)
  have c2 := c_l2i ((48 : Int64) + x)
  have r2 := rng32 ((48 : Int64) + x).toInt32
  have c3 := c_i2b ((48 : Int64) + x).toInt32
  have c4 := c_i2b ((48 : Int64) + x).toInt32.toInt8.toInt32
  rw [t48] at c1
  omega
theorem own_len (p : Int32) : ∃ n : Nat, n ≤ 19 ∧ ((p &&& (2147483647 : Int32)) % (20 : Int32)) = Int32.ofNat n := by
  have hm : (p &&& (2147483647 : Int32)).toInt = p.toInt % ((2 ^ 31 : Nat) : Int) := c_mask p 2147483647 31 (by decide) (by decide)
  have t : (20 : Int32).toInt = 20 := by decide +kernel
  refine ⟨((p &&& (2147483647 : Int32)).toInt % 20).toNat, by omega, ?_⟩
  apply Int32.toInt_inj.mp
  rw [Int32.toInt_mod, t, Int.tmod_eq_emod_of_nonneg (by omega), own_nat (by omega)]
  omega
theorem own_off (p : Int32) : ∃ n : Nat, n ≤ 1 ∧ ((p &&& (2147483647 : Int32)) % (2 : Int32)) = Int32.ofNat n := by
  have hm : (p &&& (2147483647 : Int32)).toInt = p.toInt % ((2 ^ 31 : Nat) : Int) := c_mask p 2147483647 31 (by decide) (by decide)
  have t : (2 : Int32).toInt = 2 := by decide +kernel
  refine ⟨((p &&& (2147483647 : Int32)).toInt % 2).toNat, by omega, ?_⟩
  apply Int32.toInt_inj.mp
  rw [Int32.toInt_mod, t, Int.tmod_eq_emod_of_nonneg (by omega), own_nat (by omega)]
  omega
theorem own_m (q : Int64) : ∃ n : Nat, n < 9223372036854775808 ∧ (q &&& (9223372036854775807 : Int64)).toInt = (n : Int) := by
  have hm : (q &&& (9223372036854775807 : Int64)).toInt = q.toInt % ((2 ^ 63 : Nat) : Int) := c_maskL q 9223372036854775807 63 (by decide) (by decide)
  exact ⟨((q &&& (9223372036854775807 : Int64)).toInt).toNat, by omega, by omega⟩
theorem own_subN {a b : Nat} (h : b ≤ a) (ha : a < 2147483648) : Int32.ofNat a - Int32.ofNat b = Int32.ofNat (a - b) := by
  apply Int32.toInt_inj.mp
  have s := c_isub (Int32.ofNat a) (Int32.ofNat b)
  have r := rng32 (Int32.ofNat a - Int32.ofNat b)
  rw [own_nat ha, own_nat (by omega)] at s
  rw [own_nat (by omega)]
  omega
theorem own_cellv (o n i : Nat) (ho : o ≤ 1) (hn : n ≤ 19) (hi : i < n) (m : Int64) (pos bad bb out : Int32) :
    own_cell (Int32.ofNat (o + i)) (Int32.ofNat o) (Int32.ofNat n) m pos bad bb out = if bad = (0 : Int32) then own_D m (own_P.getD (n - 1 - i) 0) else if Int32.ofNat i = pos then bb.toInt8.toInt32 else own_D m (own_P.getD (n - 1 - i) 0) := by
  have e1 : Int32.ofNat (o + i) - Int32.ofNat o = Int32.ofNat i := by rw [own_subN (by omega) (by omega)]; congr 1; omega
  have e2 : Int32.ofNat n - (1 : Int32) = Int32.ofNat (n - 1) := own_subN (b := 1) (by omega) (by omega)
  have e3 : Int32.ofNat (n - 1) - Int32.ofNat i = Int32.ofNat (n - 1 - i) := own_subN (by omega) (by omega)
  rw [own_cell, e1, if_neg (own_lt0 (by omega)), if_pos ((own_ltN (by omega) (by omega)).mpr hi), e2, e3, own_clamp (by omega)]
theorem own_byte (x : Int32) (h : -128 ≤ x.toInt) (h2 : x.toInt < 128) : x.toInt8.toInt32 = x := by
  apply Int32.toInt_inj.mp
  have := c_i2b x
  omega
theorem own_rv (x : Int32) : ((own_r x).toInt < 48 ∨ 57 < (own_r x).toInt) ∧ -128 ≤ (own_r x).toInt ∧ (own_r x).toInt < 128 := by
  have b := c_i2b x
  have t48 : (48 : Int32).toInt = 48 := by decide +kernel
  have t57 : (57 : Int32).toInt = 57 := by decide +kernel
  have t10 : (10 : Int32).toInt = 10 := by decide +kernel
  unfold own_r
  generalize x.toInt8.toInt32 = y at *
  by_cases h1 : y < (48 : Int32)
  · rw [if_pos h1]; rw [Int32.lt_iff_toInt_lt] at h1; omega
  · rw [if_neg h1]
    by_cases h2 : (57 : Int32) < y
    · rw [if_pos h2]; rw [Int32.lt_iff_toInt_lt] at h2; omega
    · rw [if_neg h2]
      rw [Int32.lt_iff_toInt_lt] at h1 h2
      have s := c_isub y 10
      have r := rng32 (y - 10)
      omega
theorem own_shr (x : Int32) : 0 ≤ ((x.toUInt32 >>> ((1 : Int32) &&& 31).toUInt32).toInt32).toInt := by
  have e : ((x.toUInt32 >>> ((1 : Int32) &&& 31).toUInt32).toInt32).toBitVec = x.toBitVec >>> 1 := rfl
  show 0 ≤ ((x.toUInt32 >>> ((1 : Int32) &&& 31).toUInt32).toInt32).toBitVec.toInt
  rw [e, BitVec.toInt_eq_toNat_cond, BitVec.toNat_ushiftRight, Nat.shiftRight_eq_div_pow]
  have := x.toBitVec.isLt
  split <;> omega
theorem own_posv (fl : Int32) (n : Nat) (h0 : 0 < n) (hn : n ≤ 19) : ∃ k, k < n ∧ own_pos fl (Int32.ofNat n) = Int32.ofNat k := by
  have z : (0 : Int32).toInt = 0 := by decide +kernel
  have hp : (0 : Int32) < Int32.ofNat n := by rw [Int32.lt_iff_toInt_lt, own_nat (by omega)]; omega
  unfold own_pos
  rw [if_pos hp]
  have s := own_shr fl
  generalize (fl.toUInt32 >>> ((1 : Int32) &&& 31).toUInt32).toInt32 = y at *
  have lt : y.toInt % (n : Int) < n := Int.emod_lt_of_pos _ (by omega)
  have ge : 0 ≤ y.toInt % (n : Int) := Int.emod_nonneg _ (by omega)
  refine ⟨(y.toInt % (n : Int)).toNat, by omega, ?_⟩
  apply Int32.toInt_inj.mp
  rw [Int32.toInt_mod, own_nat (by omega), own_nat (by omega), Int.tmod_eq_emod_of_nonneg s]
  omega
def own_f (o n : Nat) (m : Int64) (fl br out : Int32) (t : Nat) : Int32 := (own_cell (Int32.ofNat t) (Int32.ofNat o) (Int32.ofNat n) m (own_pos fl (Int32.ofNat n)) (own_bad fl (Int32.ofNat n)) ((own_r br).toInt8.toInt32) out).toInt8.toInt32
theorem own_fin (o n : Nat) (ho : o ≤ 1) (hn : n ≤ 19) (m : Int64) (Mn : Nat) (hm : m.toInt = (Mn : Int)) (fl br out : Int32) :
    own_wn (own_f o n m fl br out) o n = own_exp m (Int32.ofNat n) (own_bad fl (Int32.ofNat n)) := by
  have z : (0 : Int32).toInt = 0 := by decide +kernel
  have t18 : (18 : Int32).toInt = 18 := by decide +kernel
  have t48 : (48 : Int32).toInt = 48 := by decide +kernel
  have t57 : (57 : Int32).toInt = 57 := by decide +kernel
  have nn := own_nat (i := n) (by omega)
  have e0 : Int32.ofNat n = (0 : Int32) ↔ n = 0 := by rw [← Int32.toInt_inj, nn]; omega
  have e18 : (18 : Int32) < Int32.ofNat n ↔ 18 < n := by rw [Int32.lt_iff_toInt_lt, nn]; omega
  unfold own_wn own_exp
  by_cases h0 : n = 0
  · rw [if_pos h0, if_pos (e0.mpr h0)]
  · rw [if_neg h0, if_neg (fun q => h0 (e0.mp q))]
    by_cases h18 : 18 < n
    · rw [if_pos h18, if_pos (e18.mpr h18)]
    · rw [if_neg h18, if_neg (fun q => h18 (e18.mp q))]
      by_cases hb : own_bad fl (Int32.ofNat n) = (0 : Int32)
      · rw [if_pos hb]
        have hv : ∀ i, i < n → (own_f o n m fl br out (o + i)).toInt = 48 + (((Mn / 10 ^ (n - 1 - i)) % 10 : Nat) : Int) := by
          intro i hi
          have d := own_Dv m Mn (n - 1 - i) hm (by omega)
          unfold own_f
          rw [own_cellv o n i ho hn hi, if_pos hb]
          have b := c_i2b (own_D m (own_P.getD (n - 1 - i) 0))
          have hd : (Mn / 10 ^ (n - 1 - i)) % 10 < 10 := Nat.mod_lt _ (by decide)
          omega
        have hone : own_isd (own_f o n m fl br out) o n = 1 := own_isd1 _ n o fun t h1 h2 => by
          have v := hv (t - o) (by omega)
          rw [show o + (t - o) = t by omega] at v
          have hd : (Mn / 10 ^ (n - 1 - (t - o))) % 10 < 10 := Nat.mod_lt _ (by decide)
          rw [Int32.lt_iff_toInt_lt, Int32.lt_iff_toInt_lt]
          omega
        rw [hone, if_neg (by decide), own_clamp (by omega)]
        apply Int64.toInt_inj.mp
        have z64 : (0 : Int64).toInt = 0 := by decide +kernel
        have g := own_digv (own_f o n m fl br out) Mn n o (by omega) hv n 0 0 (by omega) (by rw [z64, Nat.pow_zero, Nat.mod_one]; rfl)
        rw [Nat.add_zero] at g
        rw [g, Int64.toInt_mod, own_Pv n (by omega), hm, Int.tmod_eq_emod_of_nonneg (by omega)]
        exact Int.natCast_emod _ _
      · rw [if_neg hb]
        obtain ⟨k, hk, ek⟩ := own_posv fl n (by omega) hn
        have r := own_rv br
        have hz : own_isd (own_f o n m fl br out) o n = 0 := own_isd0 _ n o (o + k) (by omega) (by omega) (by
          have e : own_f o n m fl br out (o + k) = own_r br := by
            unfold own_f
            rw [own_cellv o n k ho hn hk, if_neg hb, if_pos ek.symm, own_byte (own_r br) r.2.1 r.2.2, own_byte (own_r br) r.2.1 r.2.2, own_byte (own_r br) r.2.1 r.2.2]
          rw [e, Int32.lt_iff_toInt_lt, Int32.lt_iff_toInt_lt, t48, t57]
          exact r.1)
        rw [if_pos hz]
theorem own_setD (L : List Value) (k j : Nat) (v d : Value) (hL : L.length = 21) (hk : k < 21) : (L.set k v).getD j d = if j = k then v else L.getD j d := by
  rw [List.getD_eq_getElem?_getD, List.getD_eq_getElem?_getD]
  by_cases h : j = k
  · subst h
    rw [if_pos rfl, List.getElem?_set_self (by omega)]; rfl
  · rw [if_neg h, List.getElem?_set_ne (fun q => h q.symm)]
theorem own_sets (g : Nat → Value) (d : Value) : ∀ j, j < 21 → ((((((((((((((((((((((List.replicate 21 d).set 0 (g 0)).set 1 (g 1)).set 2 (g 2)).set 3 (g 3)).set 4 (g 4)).set 5 (g 5)).set 6 (g 6)).set 7 (g 7)).set 8 (g 8)).set 9 (g 9)).set 10 (g 10)).set 11 (g 11)).set 12 (g 12)).set 13 (g 13)).set 14 (g 14)).set 15 (g 15)).set 16 (g 16)).set 17 (g 17)).set 18 (g 18)).set 19 (g 19)).set 20 (g 20)).getD j d = g j := by
  intro j hj
  rw [own_setD _ 20 j _ _ (by simp only [List.length_set, List.length_replicate]) (by decide)]
  by_cases h20 : j = 20
  · rw [if_pos h20, h20]
  rw [if_neg h20]
  rw [own_setD _ 19 j _ _ (by simp only [List.length_set, List.length_replicate]) (by decide)]
  by_cases h19 : j = 19
  · rw [if_pos h19, h19]
  rw [if_neg h19]
  rw [own_setD _ 18 j _ _ (by simp only [List.length_set, List.length_replicate]) (by decide)]
  by_cases h18 : j = 18
  · rw [if_pos h18, h18]
  rw [if_neg h18]
  rw [own_setD _ 17 j _ _ (by simp only [List.length_set, List.length_replicate]) (by decide)]
  by_cases h17 : j = 17
  · rw [if_pos h17, h17]
  rw [if_neg h17]
  rw [own_setD _ 16 j _ _ (by simp only [List.length_set, List.length_replicate]) (by decide)]
  by_cases h16 : j = 16
  · rw [if_pos h16, h16]
  rw [if_neg h16]
  rw [own_setD _ 15 j _ _ (by simp only [List.length_set, List.length_replicate]) (by decide)]
  by_cases h15 : j = 15
  · rw [if_pos h15, h15]
  rw [if_neg h15]
  rw [own_setD _ 14 j _ _ (by simp only [List.length_set, List.length_replicate]) (by decide)]
  by_cases h14 : j = 14
  · rw [if_pos h14, h14]
  rw [if_neg h14]
  rw [own_setD _ 13 j _ _ (by simp only [List.length_set, List.length_replicate]) (by decide)]
  by_cases h13 : j = 13
  · rw [if_pos h13, h13]
  rw [if_neg h13]
  rw [own_setD _ 12 j _ _ (by simp only [List.length_set, List.length_replicate]) (by decide)]
  by_cases h12 : j = 12
  · rw [if_pos h12, h12]
  rw [if_neg h12]
  rw [own_setD _ 11 j _ _ (by simp only [List.length_set, List.length_replicate]) (by decide)]
  by_cases h11 : j = 11
  · rw [if_pos h11, h11]
  rw [if_neg h11]
  rw [own_setD _ 10 j _ _ (by simp only [List.length_set, List.length_replicate]) (by decide)]
  by_cases h10 : j = 10
  · rw [if_pos h10, h10]
  rw [if_neg h10]
  rw [own_setD _ 9 j _ _ (by simp only [List.length_set, List.length_replicate]) (by decide)]
  by_cases h9 : j = 9
  · rw [if_pos h9, h9]
  rw [if_neg h9]
  rw [own_setD _ 8 j _ _ (by simp only [List.length_set, List.length_replicate]) (by decide)]
  by_cases h8 : j = 8
  · rw [if_pos h8, h8]
  rw [if_neg h8]
  rw [own_setD _ 7 j _ _ (by simp only [List.length_set, List.length_replicate]) (by decide)]
  by_cases h7 : j = 7
  · rw [if_pos h7, h7]
  rw [if_neg h7]
  rw [own_setD _ 6 j _ _ (by simp only [List.length_set, List.length_replicate]) (by decide)]
  by_cases h6 : j = 6
  · rw [if_pos h6, h6]
  rw [if_neg h6]
  rw [own_setD _ 5 j _ _ (by simp only [List.length_set, List.length_replicate]) (by decide)]
  by_cases h5 : j = 5
  · rw [if_pos h5, h5]
  rw [if_neg h5]
  rw [own_setD _ 4 j _ _ (by simp only [List.length_set, List.length_replicate]) (by decide)]
  by_cases h4 : j = 4
  · rw [if_pos h4, h4]
  rw [if_neg h4]
  rw [own_setD _ 3 j _ _ (by simp only [List.length_set, List.length_replicate]) (by decide)]
  by_cases h3 : j = 3
  · rw [if_pos h3, h3]
  rw [if_neg h3]
  rw [own_setD _ 2 j _ _ (by simp only [List.length_set, List.length_replicate]) (by decide)]
  by_cases h2 : j = 2
  · rw [if_pos h2, h2]
  rw [if_neg h2]
  rw [own_setD _ 1 j _ _ (by simp only [List.length_set, List.length_replicate]) (by decide)]
  by_cases h1 : j = 1
  · rw [if_pos h1, h1]
  rw [if_neg h1]
  rw [own_setD _ 0 j _ _ (by simp only [List.length_set, List.length_replicate]) (by decide)]
  by_cases h0 : j = 0
  · rw [if_pos h0, h0]
  rw [if_neg h0]
  omega
theorem pn_0 : plainName "quotewarden/NumbersWholeNumberPinLaw" = true := by first | (simp [plainName, overriddenIn]; done) | decide +kernel
theorem ef_0 (m : MethodId) (x0 : Int64) (x1 : Int32) (x2 : Int32) (x3 : Int32) (x4 : Int32) (x5 : Int32) : entryFrame m #[(.long x0), (.int x1), (.int x2), (.int x3), (.int x4), (.int x5)] maxLocals = mkF m 0 #[.val (.long x0), .second, .val (.int x1), .val (.int x2), .val (.int x3), .val (.int x4), .val (.int x5), .unset, .unset, .unset, .unset, .unset, .unset, .unset, .unset, .unset, .unset, .unset, .unset, .unset] [] := by first | (simp [entryFrame, mkF, argsToLocals, Value.category, maxLocals]; done) | rfl
def Q0 (Z : State) (q1 : Int64) (p2 : Int32) (p3 : Int32) (p4 : Int32) (p5 : Int32) (p6 : Int32) (h0 : Heap) (n0 : Nat) (v : Option Value) (h : Heap) (L : List Loc) : Prop := v = some (.int (1 : Int32)) ∧ Fr n0 L
set_option maxRecDepth 65536 in
set_option maxHeartbeats 40000000 in
theorem rm0 (l : Launch) (Z : State) (a0 : Array Value) (hw : ∀ d ∈ tables_1, d.before a0 Z = true) (ws : List Jvm.Cond) (q1 : Int64) (p2 : Int32) (p3 : Int32) (p4 : Int32) (p5 : Int32) (p6 : Int32) (h0 : Heap) (n0 : Nat) (Z0 : n0 ≤ h0.size) :
    MetFree l x (head1 (Jvm.Cond.code x code maxLocals ret :: ws) room_1) (fun a U => a = #[(.long q1), (.int p2), (.int p3), (.int p4), (.int p5), (.int p6)] ∧ Z.Warmed39 U.vm ∧ U.heap = h0) (fun _ _ _ _ _ => True) (fun _ U o U' => ∃ v L, o = .returned v ∧ Q0 Z q1 p2 p3 p4 p5 p6 h0 n0 v U'.heap L ∧ FrameEnd U o U' L room_1.cells room_1.slots) := by
  refine MetFree.of_bodySF (plainFor_of_name pn_0) hisR ?_
  intro p e s m args below meth c s₁ Bd hml0 hP hK
  obtain ⟨rfl, hZ, hh⟩ := hP
  have hx := Bd.exec
  have hby := Bd.bytes
  have hml : c.maxLocals = 20 := hml0
  have hown : s.vm.findClass "quotewarden/NumbersWholeNumberPinLaw" = some m.cls := findClass_of_methodNamed Bd.named
  have hnm := (name_of_methodNamed Bd.named Bd.method).1
  have X0 : Stand p l e room_1 s m #[(.long q1), (.int p2), (.int p3), (.int p4), (.int p5), (.int p6)] below meth c s₁ [] 0 0 := Stand.of_body Bd
  have e0 : s₁.heap = h0 := by rw [← hh, Bd.state]; rfl
  have N0 := Fr.nil n0
  have pre0 : ∀ t, Steps p.tables e below (s₁.setTop (mkF m 0 #[.val (.long q1), .second, .val (.int p2), .val (.int p3), .val (.int p4), .val (.int p5), .val (.int p6), .unset, .unset, .unset, .unset, .unset, .unset, .unset, .unset, .unset, .unset, .unset, .unset, .unset] [])) t → Steps p.tables e below (s₁.setTop (entryFrame m #[(.long q1), (.int p2), (.int p3), (.int p4), (.int p5), (.int p6)] maxLocals)) t := fun t k => castTop (ef_0 m q1 p2 p3 p4 p5 p6) k
  obtain ⟨T7, h7, k7, X7, e7, E7, A7, st7⟩ := newP X0 hx hZ (hw _ (List.mem_of_getElem? (i := 0) rfl)) e0 (g := (mkF m 2 #[.val (.long q1), .second, .val (.int p2), .val (.int p3), .val (.int p4), .val (.int p5), .val (.int p6), .unset, .unset, .unset, .unset, .unset, .unset, .unset, .unset, .unset, .unset, .unset, .unset, .unset] [(.int (19 : Int32))])) rfl (hb hby at_2) rfl (by decide) (cap := 19) (by decide) (by decide) (by decide) (by decide)
  obtain ⟨b7, g7⟩ : ∃ z, z = h0.size := ⟨_, rfl⟩
  rw [← g7] at A7 st7
  have V_b7 : Arv Z h7 b7 k7 .long (19 : Int32) [(.long (0 : Int64)), (.long (0 : Int64)), (.long (0 : Int64)), (.long (0 : Int64)), (.long (0 : Int64)), (.long (0 : Int64)), (.long (0 : Int64)), (.long (0 : Int64)), (.long (0 : Int64)), (.long (0 : Int64)), (.long (0 : Int64)), (.long (0 : Int64)), (.long (0 : Int64)), (.long (0 : Int64)), (.long (0 : Int64)), (.long (0 : Int64)), (.long (0 : Int64)), (.long (0 : Int64)), (.long (0 : Int64))] (.long (0 : Int64)) := (Arv.new A7 (by decide)).pad (pad_rep [] (.long (0 : Int64)) 19)
  have g_b7 : n0 ≤ b7 := Nat.le_trans Z0 (Nat.le_of_eq g7.symm)
  have sz_b7 : h0.size ≤ b7 := (Nat.le_trans (Keep.refl h0 []).1 (Nat.le_of_eq g7.symm))
  have K7 : Keep h0 h7 [] := (Keep.refl h0 []).ext E7
  obtain ⟨cl_b7_7, Ar_b7, q_b7, S_b7, N_b7, H_b7, G_b7⟩ := V_b7
  have hin7 : ¬ ((0 : Int32) < 0 ∨ cl_b7_7.slots.size ≤ ((0 : Int32)).toNatClampNeg) := inb_of S_b7 ⟨by decide, by decide⟩
  obtain ⟨T8, h8, X8, e8, W8, st8⟩ := stJ X7 hx hZ e7 Ar_b7 (j := (0 : Int32)) hin7 (g := (mkF m 7 #[.val (.long q1), .second, .val (.int p2), .val (.int p3), .val (.int p4), .val (.int p5), .val (.int p6), .unset, .unset, .unset, .unset, .unset, .unset, .unset, .unset, .unset, .unset, .unset, .unset, .unset] [(.long (1 : Int64)), (.int (0 : Int32)), (.ref b7), (.ref b7)])) rfl rfl (hb hby at_7)
  have V_b7_8 := Arv.set Ar_b7 q_b7 S_b7 N_b7 H_b7 G_b7 rfl W8 0 rfl (Nat.le_of_ble_eq_true rfl)
  have K8 : Keep h0 h8 [] := K7.wr W8 (Or.inr sz_b7)
  have N8 := Fr.snoc X8 N0 g_b7
  obtain ⟨cl_b7_13, Ar_b7, q_b7, S_b7, N_b7, H_b7, G_b7⟩ := V_b7_8
  have hin13 : ¬ ((1 : Int32) < 0 ∨ cl_b7_13.slots.size ≤ ((1 : Int32)).toNatClampNeg) := inb_of S_b7 ⟨by decide, by decide⟩
  obtain ⟨T9, h9, X9, e9, W9, st9⟩ := stJ X8 hx hZ e8 Ar_b7 (j := (1 : Int32)) hin13 (g := (mkF m 13 #[.val (.long q1), .second, .val (.int p2), .val (.int p3), .val (.int p4), .val (.int p5), .val (.int p6), .unset, .unset, .unset, .unset, .unset, .unset, .unset, .unset, .unset, .unset, .unset, .unset, .unset] [(.long (10 : Int64)), (.int (1 : Int32)), (.ref b7), (.ref b7)])) rfl rfl (hb hby at_13)
  have V_b7_9 := Arv.set Ar_b7 q_b7 S_b7 N_b7 H_b7 G_b7 rfl W9 1 rfl (Nat.le_of_ble_eq_true rfl)
  have K9 : Keep h0 h9 [] := K8.wr W9 (Or.inr sz_b7)
  have N9 := Fr.snoc X9 N8 g_b7
  obtain ⟨cl_b7_19, Ar_b7, q_b7, S_b7, N_b7, H_b7, G_b7⟩ := V_b7_9
  have hin19 : ¬ ((2 : Int32) < 0 ∨ cl_b7_19.slots.size ≤ ((2 : Int32)).toNatClampNeg) := inb_of S_b7 ⟨by decide, by decide⟩
  obtain ⟨T10, h10, X10, e10, W10, st10⟩ := stJ X9 hx hZ e9 Ar_b7 (j := (2 : Int32)) hin19 (g := (mkF m 19 #[.val (.long q1), .second, .val (.int p2), .val (.int p3), .val (.int p4), .val (.int p5), .val (.int p6), .unset, .unset, .unset, .unset, .unset, .unset, .unset, .unset, .unset, .unset, .unset, .unset, .unset] [(.long (100 : Int64)), (.int (2 : Int32)), (.ref b7), (.ref b7)])) rfl rfl (hb hby at_19)
  have V_b7_10 := Arv.set Ar_b7 q_b7 S_b7 N_b7 H_b7 G_b7 rfl W10 2 rfl (Nat.le_of_ble_eq_true rfl)
  have K10 : Keep h0 h10 [] := K9.wr W10 (Or.inr sz_b7)
  have N10 := Fr.snoc X10 N9 g_b7
  obtain ⟨cl_b7_25, Ar_b7, q_b7, S_b7, N_b7, H_b7, G_b7⟩ := V_b7_10
  have hin25 : ¬ ((3 : Int32) < 0 ∨ cl_b7_25.slots.size ≤ ((3 : Int32)).toNatClampNeg) := inb_of S_b7 ⟨by decide, by decide⟩
  obtain ⟨T11, h11, X11, e11, W11, st11⟩ := stJ X10 hx hZ e10 Ar_b7 (j := (3 : Int32)) hin25 (g := (mkF m 25 #[.val (.long q1), .second, .val (.int p2), .val (.int p3), .val (.int p4), .val (.int p5), .val (.int p6), .unset, .unset, .unset, .unset, .unset, .unset, .unset, .unset, .unset, .unset, .unset, .unset, .unset] [(.long (1000 : Int64)), (.int (3 : Int32)), (.ref b7), (.ref b7)])) rfl rfl (hb hby at_25)
  have V_b7_11 := Arv.set Ar_b7 q_b7 S_b7 N_b7 H_b7 G_b7 rfl W11 3 rfl (Nat.le_of_ble_eq_true rfl)
  have K11 : Keep h0 h11 [] := K10.wr W11 (Or.inr sz_b7)
  have N11 := Fr.snoc X11 N10 g_b7
  obtain ⟨cl_b7_31, Ar_b7, q_b7, S_b7, N_b7, H_b7, G_b7⟩ := V_b7_11
  have hin31 : ¬ ((4 : Int32) < 0 ∨ cl_b7_31.slots.size ≤ ((4 : Int32)).toNatClampNeg) := inb_of S_b7 ⟨by decide, by decide⟩
  obtain ⟨T12, h12, X12, e12, W12, st12⟩ := stJ X11 hx hZ e11 Ar_b7 (j := (4 : Int32)) hin31 (g := (mkF m 31 #[.val (.long q1), .second, .val (.int p2), .val (.int p3), .val (.int p4), .val (.int p5), .val (.int p6), .unset, .unset, .unset, .unset, .unset, .unset, .unset, .unset, .unset, .unset, .unset, .unset, .unset] [(.long (10000 : Int64)), (.int (4 : Int32)), (.ref b7), (.ref b7)])) rfl rfl (hb hby at_31)
  have V_b7_12 := Arv.set Ar_b7 q_b7 S_b7 N_b7 H_b7 G_b7 rfl W12 4 rfl (Nat.le_of_ble_eq_true rfl)
  have K12 : Keep h0 h12 [] := K11.wr W12 (Or.inr sz_b7)
  have N12 := Fr.snoc X12 N11 g_b7
  obtain ⟨cl_b7_37, Ar_b7, q_b7, S_b7, N_b7, H_b7, G_b7⟩ := V_b7_12
  have hin37 : ¬ ((5 : Int32) < 0 ∨ cl_b7_37.slots.size ≤ ((5 : Int32)).toNatClampNeg) := inb_of S_b7 ⟨by decide, by decide⟩
  obtain ⟨T13, h13, X13, e13, W13, st13⟩ := stJ X12 hx hZ e12 Ar_b7 (j := (5 : Int32)) hin37 (g := (mkF m 37 #[.val (.long q1), .second, .val (.int p2), .val (.int p3), .val (.int p4), .val (.int p5), .val (.int p6), .unset, .unset, .unset, .unset, .unset, .unset, .unset, .unset, .unset, .unset, .unset, .unset, .unset] [(.long (100000 : Int64)), (.int (5 : Int32)), (.ref b7), (.ref b7)])) rfl rfl (hb hby at_37)
  have V_b7_13 := Arv.set Ar_b7 q_b7 S_b7 N_b7 H_b7 G_b7 rfl W13 5 rfl (Nat.le_of_ble_eq_true rfl)
  have K13 : Keep h0 h13 [] := K12.wr W13 (Or.inr sz_b7)
  have N13 := Fr.snoc X13 N12 g_b7
  obtain ⟨cl_b7_44, Ar_b7, q_b7, S_b7, N_b7, H_b7, G_b7⟩ := V_b7_13
  have hin44 : ¬ ((6 : Int32) < 0 ∨ cl_b7_44.slots.size ≤ ((6 : Int32)).toNatClampNeg) := inb_of S_b7 ⟨by decide, by decide⟩
  obtain ⟨T14, h14, X14, e14, W14, st14⟩ := stJ X13 hx hZ e13 Ar_b7 (j := (6 : Int32)) hin44 (g := (mkF m 44 #[.val (.long q1), .second, .val (.int p2), .val (.int p3), .val (.int p4), .val (.int p5), .val (.int p6), .unset, .unset, .unset, .unset, .unset, .unset, .unset, .unset, .unset, .unset, .unset, .unset, .unset] [(.long (1000000 : Int64)), (.int (6 : Int32)), (.ref b7), (.ref b7)])) rfl rfl (hb hby at_44)
  have V_b7_14 := Arv.set Ar_b7 q_b7 S_b7 N_b7 H_b7 G_b7 rfl W14 6 rfl (Nat.le_of_ble_eq_true rfl)
  have K14 : Keep h0 h14 [] := K13.wr W14 (Or.inr sz_b7)
  have N14 := Fr.snoc X14 N13 g_b7
  obtain ⟨cl_b7_51, Ar_b7, q_b7, S_b7, N_b7, H_b7, G_b7⟩ := V_b7_14
  have hin51 : ¬ ((7 : Int32) < 0 ∨ cl_b7_51.slots.size ≤ ((7 : Int32)).toNatClampNeg) := inb_of S_b7 ⟨by decide, by decide⟩
  obtain ⟨T15, h15, X15, e15, W15, st15⟩ := stJ X14 hx hZ e14 Ar_b7 (j := (7 : Int32)) hin51 (g := (mkF m 51 #[.val (.long q1), .second, .val (.int p2), .val (.int p3), .val (.int p4), .val (.int p5), .val (.int p6), .unset, .unset, .unset, .unset, .unset, .unset, .unset, .unset, .unset, .unset, .unset, .unset, .unset] [(.long (10000000 : Int64)), (.int (7 : Int32)), (.ref b7), (.ref b7)])) rfl rfl (hb hby at_51)
  have V_b7_15 := Arv.set Ar_b7 q_b7 S_b7 N_b7 H_b7 G_b7 rfl W15 7 rfl (Nat.le_of_ble_eq_true rfl)
  have K15 : Keep h0 h15 [] := K14.wr W15 (Or.inr sz_b7)
  have N15 := Fr.snoc X15 N14 g_b7
  obtain ⟨cl_b7_58, Ar_b7, q_b7, S_b7, N_b7, H_b7, G_b7⟩ := V_b7_15
  have hin58 : ¬ ((8 : Int32) < 0 ∨ cl_b7_58.slots.size ≤ ((8 : Int32)).toNatClampNeg) := inb_of S_b7 ⟨by decide, by decide⟩
  obtain ⟨T16, h16, X16, e16, W16, st16⟩ := stJ X15 hx hZ e15 Ar_b7 (j := (8 : Int32)) hin58 (g := (mkF m 58 #[.val (.long q1), .second, .val (.int p2), .val (.int p3), .val (.int p4), .val (.int p5), .val (.int p6), .unset, .unset, .unset, .unset, .unset, .unset, .unset, .unset, .unset, .unset, .unset, .unset, .unset] [(.long (100000000 : Int64)), (.int (8 : Int32)), (.ref b7), (.ref b7)])) rfl rfl (hb hby at_58)
  have V_b7_16 := Arv.set Ar_b7 q_b7 S_b7 N_b7 H_b7 G_b7 rfl W16 8 rfl (Nat.le_of_ble_eq_true rfl)
  have K16 : Keep h0 h16 [] := K15.wr W16 (Or.inr sz_b7)
  have N16 := Fr.snoc X16 N15 g_b7
  obtain ⟨cl_b7_65, Ar_b7, q_b7, S_b7, N_b7, H_b7, G_b7⟩ := V_b7_16
  have hin65 : ¬ ((9 : Int32) < 0 ∨ cl_b7_65.slots.size ≤ ((9 : Int32)).toNatClampNeg) := inb_of S_b7 ⟨by decide, by decide⟩
  obtain ⟨T17, h17, X17, e17, W17, st17⟩ := stJ X16 hx hZ e16 Ar_b7 (j := (9 : Int32)) hin65 (g := (mkF m 65 #[.val (.long q1), .second, .val (.int p2), .val (.int p3), .val (.int p4), .val (.int p5), .val (.int p6), .unset, .unset, .unset, .unset, .unset, .unset, .unset, .unset, .unset, .unset, .unset, .unset, .unset] [(.long (1000000000 : Int64)), (.int (9 : Int32)), (.ref b7), (.ref b7)])) rfl rfl (hb hby at_65)
  have V_b7_17 := Arv.set Ar_b7 q_b7 S_b7 N_b7 H_b7 G_b7 rfl W17 9 rfl (Nat.le_of_ble_eq_true rfl)
  have K17 : Keep h0 h17 [] := K16.wr W17 (Or.inr sz_b7)
  have N17 := Fr.snoc X17 N16 g_b7
  obtain ⟨cl_b7_72, Ar_b7, q_b7, S_b7, N_b7, H_b7, G_b7⟩ := V_b7_17
  have hin72 : ¬ ((10 : Int32) < 0 ∨ cl_b7_72.slots.size ≤ ((10 : Int32)).toNatClampNeg) := inb_of S_b7 ⟨by decide, by decide⟩
  obtain ⟨T18, h18, X18, e18, W18, st18⟩ := stJ X17 hx hZ e17 Ar_b7 (j := (10 : Int32)) hin72 (g := (mkF m 72 #[.val (.long q1), .second, .val (.int p2), .val (.int p3), .val (.int p4), .val (.int p5), .val (.int p6), .unset, .unset, .unset, .unset, .unset, .unset, .unset, .unset, .unset, .unset, .unset, .unset, .unset] [(.long (10000000000 : Int64)), (.int (10 : Int32)), (.ref b7), (.ref b7)])) rfl rfl (hb hby at_72)
  have V_b7_18 := Arv.set Ar_b7 q_b7 S_b7 N_b7 H_b7 G_b7 rfl W18 10 rfl (Nat.le_of_ble_eq_true rfl)
  have K18 : Keep h0 h18 [] := K17.wr W18 (Or.inr sz_b7)
  have N18 := Fr.snoc X18 N17 g_b7
  obtain ⟨cl_b7_79, Ar_b7, q_b7, S_b7, N_b7, H_b7, G_b7⟩ := V_b7_18
  have hin79 : ¬ ((11 : Int32) < 0 ∨ cl_b7_79.slots.size ≤ ((11 : Int32)).toNatClampNeg) := inb_of S_b7 ⟨by decide, by decide⟩
  obtain ⟨T19, h19, X19, e19, W19, st19⟩ := stJ X18 hx hZ e18 Ar_b7 (j := (11 : Int32)) hin79 (g := (mkF m 79 #[.val (.long q1), .second, .val (.int p2), .val (.int p3), .val (.int p4), .val (.int p5), .val (.int p6), .unset, .unset, .unset, .unset, .unset, .unset, .unset, .unset, .unset, .unset, .unset, .unset, .unset] [(.long (100000000000 : Int64)), (.int (11 : Int32)), (.ref b7), (.ref b7)])) rfl rfl (hb hby at_79)
  have V_b7_19 := Arv.set Ar_b7 q_b7 S_b7 N_b7 H_b7 G_b7 rfl W19 11 rfl (Nat.le_of_ble_eq_true rfl)
  have K19 : Keep h0 h19 [] := K18.wr W19 (Or.inr sz_b7)
  have N19 := Fr.snoc X19 N18 g_b7
  obtain ⟨cl_b7_86, Ar_b7, q_b7, S_b7, N_b7, H_b7, G_b7⟩ := V_b7_19
  have hin86 : ¬ ((12 : Int32) < 0 ∨ cl_b7_86.slots.size ≤ ((12 : Int32)).toNatClampNeg) := inb_of S_b7 ⟨by decide, by decide⟩
  obtain ⟨T20, h20, X20, e20, W20, st20⟩ := stJ X19 hx hZ e19 Ar_b7 (j := (12 : Int32)) hin86 (g := (mkF m 86 #[.val (.long q1), .second, .val (.int p2), .val (.int p3), .val (.int p4), .val (.int p5), .val (.int p6), .unset, .unset, .unset, .unset, .unset, .unset, .unset, .unset, .unset, .unset, .unset, .unset, .unset] [(.long (1000000000000 : Int64)), (.int (12 : Int32)), (.ref b7), (.ref b7)])) rfl rfl (hb hby at_86)
  have V_b7_20 := Arv.set Ar_b7 q_b7 S_b7 N_b7 H_b7 G_b7 rfl W20 12 rfl (Nat.le_of_ble_eq_true rfl)
  have K20 : Keep h0 h20 [] := K19.wr W20 (Or.inr sz_b7)
  have N20 := Fr.snoc X20 N19 g_b7
  obtain ⟨cl_b7_93, Ar_b7, q_b7, S_b7, N_b7, H_b7, G_b7⟩ := V_b7_20
  have hin93 : ¬ ((13 : Int32) < 0 ∨ cl_b7_93.slots.size ≤ ((13 : Int32)).toNatClampNeg) := inb_of S_b7 ⟨by decide, by decide⟩
  obtain ⟨T21, h21, X21, e21, W21, st21⟩ := stJ X20 hx hZ e20 Ar_b7 (j := (13 : Int32)) hin93 (g := (mkF m 93 #[.val (.long q1), .second, .val (.int p2), .val (.int p3), .val (.int p4), .val (.int p5), .val (.int p6), .unset, .unset, .unset, .unset, .unset, .unset, .unset, .unset, .unset, .unset, .unset, .unset, .unset] [(.long (10000000000000 : Int64)), (.int (13 : Int32)), (.ref b7), (.ref b7)])) rfl rfl (hb hby at_93)
  have V_b7_21 := Arv.set Ar_b7 q_b7 S_b7 N_b7 H_b7 G_b7 rfl W21 13 rfl (Nat.le_of_ble_eq_true rfl)
  have K21 : Keep h0 h21 [] := K20.wr W21 (Or.inr sz_b7)
  have N21 := Fr.snoc X21 N20 g_b7
  obtain ⟨cl_b7_100, Ar_b7, q_b7, S_b7, N_b7, H_b7, G_b7⟩ := V_b7_21
  have hin100 : ¬ ((14 : Int32) < 0 ∨ cl_b7_100.slots.size ≤ ((14 : Int32)).toNatClampNeg) := inb_of S_b7 ⟨by decide, by decide⟩
  obtain ⟨T22, h22, X22, e22, W22, st22⟩ := stJ X21 hx hZ e21 Ar_b7 (j := (14 : Int32)) hin100 (g := (mkF m 100 #[.val (.long q1), .second, .val (.int p2), .val (.int p3), .val (.int p4), .val (.int p5), .val (.int p6), .unset, .unset, .unset, .unset, .unset, .unset, .unset, .unset, .unset, .unset, .unset, .unset, .unset] [(.long (100000000000000 : Int64)), (.int (14 : Int32)), (.ref b7), (.ref b7)])) rfl rfl (hb hby at_100)
  have V_b7_22 := Arv.set Ar_b7 q_b7 S_b7 N_b7 H_b7 G_b7 rfl W22 14 rfl (Nat.le_of_ble_eq_true rfl)
  have K22 : Keep h0 h22 [] := K21.wr W22 (Or.inr sz_b7)
  have N22 := Fr.snoc X22 N21 g_b7
  obtain ⟨cl_b7_107, Ar_b7, q_b7, S_b7, N_b7, H_b7, G_b7⟩ := V_b7_22
  have hin107 : ¬ ((15 : Int32) < 0 ∨ cl_b7_107.slots.size ≤ ((15 : Int32)).toNatClampNeg) := inb_of S_b7 ⟨by decide, by decide⟩
  obtain ⟨T23, h23, X23, e23, W23, st23⟩ := stJ X22 hx hZ e22 Ar_b7 (j := (15 : Int32)) hin107 (g := (mkF m 107 #[.val (.long q1), .second, .val (.int p2), .val (.int p3), .val (.int p4), .val (.int p5), .val (.int p6), .unset, .unset, .unset, .unset, .unset, .unset, .unset, .unset, .unset, .unset, .unset, .unset, .unset] [(.long (1000000000000000 : Int64)), (.int (15 : Int32)), (.ref b7), (.ref b7)])) rfl rfl (hb hby at_107)
  have V_b7_23 := Arv.set Ar_b7 q_b7 S_b7 N_b7 H_b7 G_b7 rfl W23 15 rfl (Nat.le_of_ble_eq_true rfl)
  have K23 : Keep h0 h23 [] := K22.wr W23 (Or.inr sz_b7)
  have N23 := Fr.snoc X23 N22 g_b7
  obtain ⟨cl_b7_114, Ar_b7, q_b7, S_b7, N_b7, H_b7, G_b7⟩ := V_b7_23
  have hin114 : ¬ ((16 : Int32) < 0 ∨ cl_b7_114.slots.size ≤ ((16 : Int32)).toNatClampNeg) := inb_of S_b7 ⟨by decide, by decide⟩
  obtain ⟨T24, h24, X24, e24, W24, st24⟩ := stJ X23 hx hZ e23 Ar_b7 (j := (16 : Int32)) hin114 (g := (mkF m 114 #[.val (.long q1), .second, .val (.int p2), .val (.int p3), .val (.int p4), .val (.int p5), .val (.int p6), .unset, .unset, .unset, .unset, .unset, .unset, .unset, .unset, .unset, .unset, .unset, .unset, .unset] [(.long (10000000000000000 : Int64)), (.int (16 : Int32)), (.ref b7), (.ref b7)])) rfl rfl (hb hby at_114)
  have V_b7_24 := Arv.set Ar_b7 q_b7 S_b7 N_b7 H_b7 G_b7 rfl W24 16 rfl (Nat.le_of_ble_eq_true rfl)
  have K24 : Keep h0 h24 [] := K23.wr W24 (Or.inr sz_b7)
  have N24 := Fr.snoc X24 N23 g_b7
  obtain ⟨cl_b7_121, Ar_b7, q_b7, S_b7, N_b7, H_b7, G_b7⟩ := V_b7_24
  have hin121 : ¬ ((17 : Int32) < 0 ∨ cl_b7_121.slots.size ≤ ((17 : Int32)).toNatClampNeg) := inb_of S_b7 ⟨by decide, by decide⟩
  obtain ⟨T25, h25, X25, e25, W25, st25⟩ := stJ X24 hx hZ e24 Ar_b7 (j := (17 : Int32)) hin121 (g := (mkF m 121 #[.val (.long q1), .second, .val (.int p2), .val (.int p3), .val (.int p4), .val (.int p5), .val (.int p6), .unset, .unset, .unset, .unset, .unset, .unset, .unset, .unset, .unset, .unset, .unset, .unset, .unset] [(.long (100000000000000000 : Int64)), (.int (17 : Int32)), (.ref b7), (.ref b7)])) rfl rfl (hb hby at_121)
  have V_b7_25 := Arv.set Ar_b7 q_b7 S_b7 N_b7 H_b7 G_b7 rfl W25 17 rfl (Nat.le_of_ble_eq_true rfl)
  have K25 : Keep h0 h25 [] := K24.wr W25 (Or.inr sz_b7)
  have N25 := Fr.snoc X25 N24 g_b7
  obtain ⟨cl_b7_128, Ar_b7, q_b7, S_b7, N_b7, H_b7, G_b7⟩ := V_b7_25
  have hin128 : ¬ ((18 : Int32) < 0 ∨ cl_b7_128.slots.size ≤ ((18 : Int32)).toNatClampNeg) := inb_of S_b7 ⟨by decide, by decide⟩
  obtain ⟨T26, h26, X26, e26, W26, st26⟩ := stJ X25 hx hZ e25 Ar_b7 (j := (18 : Int32)) hin128 (g := (mkF m 128 #[.val (.long q1), .second, .val (.int p2), .val (.int p3), .val (.int p4), .val (.int p5), .val (.int p6), .unset, .unset, .unset, .unset, .unset, .unset, .unset, .unset, .unset, .unset, .unset, .unset, .unset] [(.long (1000000000000000000 : Int64)), (.int (18 : Int32)), (.ref b7), (.ref b7)])) rfl rfl (hb hby at_128)
  have V_b7_26 := Arv.set Ar_b7 q_b7 S_b7 N_b7 H_b7 G_b7 rfl W26 18 rfl (Nat.le_of_ble_eq_true rfl)
  have K26 : Keep h0 h26 [] := K25.wr W26 (Or.inr sz_b7)
  have N26 := Fr.snoc X26 N25 g_b7
  obtain ⟨nn, hnn, eL⟩ := own_len p2
  obtain ⟨oo, hoo, eO⟩ := own_off p3
  obtain ⟨Mn, hMn, eM⟩ := own_m q1
  have h19 : (Int32.ofNat nn).toInt ≤ 19 := by rw [own_nat (by omega)]; omega
  have PP : Arv Z h26 b7 k7 .long (19 : Int32) (own_P.map Value.long) (.long (0 : Int64)) := V_b7_26
  obtain ⟨T27, h27, b17, kb, X27, e27, ⟨VB, E27, gB⟩, st27⟩ := tn0_228_234 (.val (.long q1)) .second (.val (.int p2)) (.val (.int p3)) (.val (.int p4)) (.val (.int p5)) (.val (.int p6)) (.val (.ref b7)) (.val (.long (q1 &&& (9223372036854775807 : Int64)))) .second (.val (.int (Int32.ofNat nn))) (.val (.int (Int32.ofNat oo))) (.val (.int (own_bad p4 (Int32.ofNat nn)))) (.val (.int (own_pos p4 (Int32.ofNat nn)))) (.val (.int (own_r p5))) (.val (.int ((own_r p5).toInt8.toInt32))) (.val (.int (p6.toInt8.toInt32))) .unset .unset .unset X26 hx hZ hw hby hml hown e26 One.u
  have Z27 : n0 ≤ h27.size := Nat.le_trans (Nat.le_trans Z0 K26.1) E27.1
  have gB' : n0 ≤ b17 := Nat.le_trans (Nat.le_trans Z0 K26.1) (Nat.le_of_eq gB.symm)
  have neB : b7 ≠ b17 := Nat.ne_of_lt (Nat.lt_of_lt_of_eq PP.lt gB.symm)
  have P27 := PP.ext E27
  obtain ⟨Tc0, hc0, Lc0, Xc0, ec0, ⟨Nc0, Zc0, Vc0, Pc0⟩, stc0⟩ := tn0_234_258 (.val (.long q1)) .second (.val (.int p2)) (.val (.int p3)) (.val (.int p4)) (.val (.int p5)) (.val (.int p6)) b7 (q1 &&& (9223372036854775807 : Int64)) (Int32.ofNat nn) (Int32.ofNat oo) (own_bad p4 (Int32.ofNat nn)) (own_pos p4 (Int32.ofNat nn)) (.val (.int (own_r p5))) ((own_r p5).toInt8.toInt32) (p6.toInt8.toInt32) b17 .unset .unset n0 kb k7 _ X27 hx hZ hw hby hml hown e27 N26 Z27 VB (by simp only [List.length_set, List.length_replicate]) P27 neB gB' h19
  obtain ⟨Tc1, hc1, Lc1, Xc1, ec1, ⟨Nc1, Zc1, Vc1, Pc1⟩, stc1⟩ := tn0_258_282 (.val (.long q1)) .second (.val (.int p2)) (.val (.int p3)) (.val (.int p4)) (.val (.int p5)) (.val (.int p6)) b7 (q1 &&& (9223372036854775807 : Int64)) (Int32.ofNat nn) (Int32.ofNat oo) (own_bad p4 (Int32.ofNat nn)) (own_pos p4 (Int32.ofNat nn)) (.val (.int (own_r p5))) ((own_r p5).toInt8.toInt32) (p6.toInt8.toInt32) b17 .unset .unset n0 kb k7 _ Xc0 hx hZ hw hby hml hown ec0 Nc0 Zc0 Vc0 (by simp only [List.length_set, List.length_replicate]) Pc0 neB gB' h19
  obtain ⟨Tc2, hc2, Lc2, Xc2, ec2, ⟨Nc2, Zc2, Vc2, Pc2⟩, stc2⟩ := tn0_282_306 (.val (.long q1)) .second (.val (.int p2)) (.val (.int p3)) (.val (.int p4)) (.val (.int p5)) (.val (.int p6)) b7 (q1 &&& (9223372036854775807 : Int64)) (Int32.ofNat nn) (Int32.ofNat oo) (own_bad p4 (Int32.ofNat nn)) (own_pos p4 (Int32.ofNat nn)) (.val (.int (own_r p5))) ((own_r p5).toInt8.toInt32) (p6.toInt8.toInt32) b17 .unset .unset n0 kb k7 _ Xc1 hx hZ hw hby hml hown ec1 Nc1 Zc1 Vc1 (by simp only [List.length_set, List.length_replicate]) Pc1 neB gB' h19
  obtain ⟨Tc3, hc3, Lc3, Xc3, ec3, ⟨Nc3, Zc3, Vc3, Pc3⟩, stc3⟩ := tn0_306_330 (.val (.long q1)) .second (.val (.int p2)) (.val (.int p3)) (.val (.int p4)) (.val (.int p5)) (.val (.int p6)) b7 (q1 &&& (9223372036854775807 : Int64)) (Int32.ofNat nn) (Int32.ofNat oo) (own_bad p4 (Int32.ofNat nn)) (own_pos p4 (Int32.ofNat nn)) (.val (.int (own_r p5))) ((own_r p5).toInt8.toInt32) (p6.toInt8.toInt32) b17 .unset .unset n0 kb k7 _ Xc2 hx hZ hw hby hml hown ec2 Nc2 Zc2 Vc2 (by simp only [List.length_set, List.length_replicate]) Pc2 neB gB' h19
  obtain ⟨Tc4, hc4, Lc4, Xc4, ec4, ⟨Nc4, Zc4, Vc4, Pc4⟩, stc4⟩ := tn0_330_354 (.val (.long q1)) .second (.val (.int p2)) (.val (.int p3)) (.val (.int p4)) (.val (.int p5)) (.val (.int p6)) b7 (q1 &&& (9223372036854775807 : Int64)) (Int32.ofNat nn) (Int32.ofNat oo) (own_bad p4 (Int32.ofNat nn)) (own_pos p4 (Int32.ofNat nn)) (.val (.int (own_r p5))) ((own_r p5).toInt8.toInt32) (p6.toInt8.toInt32) b17 .unset .unset n0 kb k7 _ Xc3 hx hZ hw hby hml hown ec3 Nc3 Zc3 Vc3 (by simp only [List.length_set, List.length_replicate]) Pc3 neB gB' h19
  obtain ⟨Tc5, hc5, Lc5, Xc5, ec5, ⟨Nc5, Zc5, Vc5, Pc5⟩, stc5⟩ := tn0_354_378 (.val (.long q1)) .second (.val (.int p2)) (.val (.int p3)) (.val (.int p4)) (.val (.int p5)) (.val (.int p6)) b7 (q1 &&& (9223372036854775807 : Int64)) (Int32.ofNat nn) (Int32.ofNat oo) (own_bad p4 (Int32.ofNat nn)) (own_pos p4 (Int32.ofNat nn)) (.val (.int (own_r p5))) ((own_r p5).toInt8.toInt32) (p6.toInt8.toInt32) b17 .unset .unset n0 kb k7 _ Xc4 hx hZ hw hby hml hown ec4 Nc4 Zc4 Vc4 (by simp only [List.length_set, List.length_replicate]) Pc4 neB gB' h19
  obtain ⟨Tc6, hc6, Lc6, Xc6, ec6, ⟨Nc6, Zc6, Vc6, Pc6⟩, stc6⟩ := tn0_378_404 (.val (.long q1)) .second (.val (.int p2)) (.val (.int p3)) (.val (.int p4)) (.val (.int p5)) (.val (.int p6)) b7 (q1 &&& (9223372036854775807 : Int64)) (Int32.ofNat nn) (Int32.ofNat oo) (own_bad p4 (Int32.ofNat nn)) (own_pos p4 (Int32.ofNat nn)) (.val (.int (own_r p5))) ((own_r p5).toInt8.toInt32) (p6.toInt8.toInt32) b17 .unset .unset n0 kb k7 _ Xc5 hx hZ hw hby hml hown ec5 Nc5 Zc5 Vc5 (by simp only [List.length_set, List.length_replicate]) Pc5 neB gB' h19
  obtain ⟨Tc7, hc7, Lc7, Xc7, ec7, ⟨Nc7, Zc7, Vc7, Pc7⟩, stc7⟩ := tn0_404_430 (.val (.long q1)) .second (.val (.int p2)) (.val (.int p3)) (.val (.int p4)) (.val (.int p5)) (.val (.int p6)) b7 (q1 &&& (9223372036854775807 : Int64)) (Int32.ofNat nn) (Int32.ofNat oo) (own_bad p4 (Int32.ofNat nn)) (own_pos p4 (Int32.ofNat nn)) (.val (.int (own_r p5))) ((own_r p5).toInt8.toInt32) (p6.toInt8.toInt32) b17 .unset .unset n0 kb k7 _ Xc6 hx hZ hw hby hml hown ec6 Nc6 Zc6 Vc6 (by simp only [List.length_set, List.length_replicate]) Pc6 neB gB' h19
  obtain ⟨Tc8, hc8, Lc8, Xc8, ec8, ⟨Nc8, Zc8, Vc8, Pc8⟩, stc8⟩ := tn0_430_456 (.val (.long q1)) .second (.val (.int p2)) (.val (.int p3)) (.val (.int p4)) (.val (.int p5)) (.val (.int p6)) b7 (q1 &&& (9223372036854775807 : Int64)) (Int32.ofNat nn) (Int32.ofNat oo) (own_bad p4 (Int32.ofNat nn)) (own_pos p4 (Int32.ofNat nn)) (.val (.int (own_r p5))) ((own_r p5).toInt8.toInt32) (p6.toInt8.toInt32) b17 .unset .unset n0 kb k7 _ Xc7 hx hZ hw hby hml hown ec7 Nc7 Zc7 Vc7 (by simp only [List.length_set, List.length_replicate]) Pc7 neB gB' h19
  obtain ⟨Tc9, hc9, Lc9, Xc9, ec9, ⟨Nc9, Zc9, Vc9, Pc9⟩, stc9⟩ := tn0_456_482 (.val (.long q1)) .second (.val (.int p2)) (.val (.int p3)) (.val (.int p4)) (.val (.int p5)) (.val (.int p6)) b7 (q1 &&& (9223372036854775807 : Int64)) (Int32.ofNat nn) (Int32.ofNat oo) (own_bad p4 (Int32.ofNat nn)) (own_pos p4 (Int32.ofNat nn)) (.val (.int (own_r p5))) ((own_r p5).toInt8.toInt32) (p6.toInt8.toInt32) b17 .unset .unset n0 kb k7 _ Xc8 hx hZ hw hby hml hown ec8 Nc8 Zc8 Vc8 (by simp only [List.length_set, List.length_replicate]) Pc8 neB gB' h19
  obtain ⟨Tc10, hc10, Lc10, Xc10, ec10, ⟨Nc10, Zc10, Vc10, Pc10⟩, stc10⟩ := tn0_482_508 (.val (.long q1)) .second (.val (.int p2)) (.val (.int p3)) (.val (.int p4)) (.val (.int p5)) (.val (.int p6)) b7 (q1 &&& (9223372036854775807 : Int64)) (Int32.ofNat nn) (Int32.ofNat oo) (own_bad p4 (Int32.ofNat nn)) (own_pos p4 (Int32.ofNat nn)) (.val (.int (own_r p5))) ((own_r p5).toInt8.toInt32) (p6.toInt8.toInt32) b17 .unset .unset n0 kb k7 _ Xc9 hx hZ hw hby hml hown ec9 Nc9 Zc9 Vc9 (by simp only [List.length_set, List.length_replicate]) Pc9 neB gB' h19
  obtain ⟨Tc11, hc11, Lc11, Xc11, ec11, ⟨Nc11, Zc11, Vc11, Pc11⟩, stc11⟩ := tn0_508_534 (.val (.long q1)) .second (.val (.int p2)) (.val (.int p3)) (.val (.int p4)) (.val (.int p5)) (.val (.int p6)) b7 (q1 &&& (9223372036854775807 : Int64)) (Int32.ofNat nn) (Int32.ofNat oo) (own_bad p4 (Int32.ofNat nn)) (own_pos p4 (Int32.ofNat nn)) (.val (.int (own_r p5))) ((own_r p5).toInt8.toInt32) (p6.toInt8.toInt32) b17 .unset .unset n0 kb k7 _ Xc10 hx hZ hw hby hml hown ec10 Nc10 Zc10 Vc10 (by simp only [List.length_set, List.length_replicate]) Pc10 neB gB' h19
  obtain ⟨Tc12, hc12, Lc12, Xc12, ec12, ⟨Nc12, Zc12, Vc12, Pc12⟩, stc12⟩ := tn0_534_560 (.val (.long q1)) .second (.val (.int p2)) (.val (.int p3)) (.val (.int p4)) (.val (.int p5)) (.val (.int p6)) b7 (q1 &&& (9223372036854775807 : Int64)) (Int32.ofNat nn) (Int32.ofNat oo) (own_bad p4 (Int32.ofNat nn)) (own_pos p4 (Int32.ofNat nn)) (.val (.int (own_r p5))) ((own_r p5).toInt8.toInt32) (p6.toInt8.toInt32) b17 .unset .unset n0 kb k7 _ Xc11 hx hZ hw hby hml hown ec11 Nc11 Zc11 Vc11 (by simp only [List.length_set, List.length_replicate]) Pc11 neB gB' h19
  obtain ⟨Tc13, hc13, Lc13, Xc13, ec13, ⟨Nc13, Zc13, Vc13, Pc13⟩, stc13⟩ := tn0_560_586 (.val (.long q1)) .second (.val (.int p2)) (.val (.int p3)) (.val (.int p4)) (.val (.int p5)) (.val (.int p6)) b7 (q1 &&& (9223372036854775807 : Int64)) (Int32.ofNat nn) (Int32.ofNat oo) (own_bad p4 (Int32.ofNat nn)) (own_pos p4 (Int32.ofNat nn)) (.val (.int (own_r p5))) ((own_r p5).toInt8.toInt32) (p6.toInt8.toInt32) b17 .unset .unset n0 kb k7 _ Xc12 hx hZ hw hby hml hown ec12 Nc12 Zc12 Vc12 (by simp only [List.length_set, List.length_replicate]) Pc12 neB gB' h19
  obtain ⟨Tc14, hc14, Lc14, Xc14, ec14, ⟨Nc14, Zc14, Vc14, Pc14⟩, stc14⟩ := tn0_586_612 (.val (.long q1)) .second (.val (.int p2)) (.val (.int p3)) (.val (.int p4)) (.val (.int p5)) (.val (.int p6)) b7 (q1 &&& (9223372036854775807 : Int64)) (Int32.ofNat nn) (Int32.ofNat oo) (own_bad p4 (Int32.ofNat nn)) (own_pos p4 (Int32.ofNat nn)) (.val (.int (own_r p5))) ((own_r p5).toInt8.toInt32) (p6.toInt8.toInt32) b17 .unset .unset n0 kb k7 _ Xc13 hx hZ hw hby hml hown ec13 Nc13 Zc13 Vc13 (by simp only [List.length_set, List.length_replicate]) Pc13 neB gB' h19
  obtain ⟨Tc15, hc15, Lc15, Xc15, ec15, ⟨Nc15, Zc15, Vc15, Pc15⟩, stc15⟩ := tn0_612_638 (.val (.long q1)) .second (.val (.int p2)) (.val (.int p3)) (.val (.int p4)) (.val (.int p5)) (.val (.int p6)) b7 (q1 &&& (9223372036854775807 : Int64)) (Int32.ofNat nn) (Int32.ofNat oo) (own_bad p4 (Int32.ofNat nn)) (own_pos p4 (Int32.ofNat nn)) (.val (.int (own_r p5))) ((own_r p5).toInt8.toInt32) (p6.toInt8.toInt32) b17 .unset .unset n0 kb k7 _ Xc14 hx hZ hw hby hml hown ec14 Nc14 Zc14 Vc14 (by simp only [List.length_set, List.length_replicate]) Pc14 neB gB' h19
  obtain ⟨Tc16, hc16, Lc16, Xc16, ec16, ⟨Nc16, Zc16, Vc16, Pc16⟩, stc16⟩ := tn0_638_664 (.val (.long q1)) .second (.val (.int p2)) (.val (.int p3)) (.val (.int p4)) (.val (.int p5)) (.val (.int p6)) b7 (q1 &&& (9223372036854775807 : Int64)) (Int32.ofNat nn) (Int32.ofNat oo) (own_bad p4 (Int32.ofNat nn)) (own_pos p4 (Int32.ofNat nn)) (.val (.int (own_r p5))) ((own_r p5).toInt8.toInt32) (p6.toInt8.toInt32) b17 .unset .unset n0 kb k7 _ Xc15 hx hZ hw hby hml hown ec15 Nc15 Zc15 Vc15 (by simp only [List.length_set, List.length_replicate]) Pc15 neB gB' h19
  obtain ⟨Tc17, hc17, Lc17, Xc17, ec17, ⟨Nc17, Zc17, Vc17, Pc17⟩, stc17⟩ := tn0_664_690 (.val (.long q1)) .second (.val (.int p2)) (.val (.int p3)) (.val (.int p4)) (.val (.int p5)) (.val (.int p6)) b7 (q1 &&& (9223372036854775807 : Int64)) (Int32.ofNat nn) (Int32.ofNat oo) (own_bad p4 (Int32.ofNat nn)) (own_pos p4 (Int32.ofNat nn)) (.val (.int (own_r p5))) ((own_r p5).toInt8.toInt32) (p6.toInt8.toInt32) b17 .unset .unset n0 kb k7 _ Xc16 hx hZ hw hby hml hown ec16 Nc16 Zc16 Vc16 (by simp only [List.length_set, List.length_replicate]) Pc16 neB gB' h19
  obtain ⟨Tc18, hc18, Lc18, Xc18, ec18, ⟨Nc18, Zc18, Vc18, Pc18⟩, stc18⟩ := tn0_690_716 (.val (.long q1)) .second (.val (.int p2)) (.val (.int p3)) (.val (.int p4)) (.val (.int p5)) (.val (.int p6)) b7 (q1 &&& (9223372036854775807 : Int64)) (Int32.ofNat nn) (Int32.ofNat oo) (own_bad p4 (Int32.ofNat nn)) (own_pos p4 (Int32.ofNat nn)) (.val (.int (own_r p5))) ((own_r p5).toInt8.toInt32) (p6.toInt8.toInt32) b17 .unset .unset n0 kb k7 _ Xc17 hx hZ hw hby hml hown ec17 Nc17 Zc17 Vc17 (by simp only [List.length_set, List.length_replicate]) Pc17 neB gB' h19
  obtain ⟨Tc19, hc19, Lc19, Xc19, ec19, ⟨Nc19, Zc19, Vc19, Pc19⟩, stc19⟩ := tn0_716_742 (.val (.long q1)) .second (.val (.int p2)) (.val (.int p3)) (.val (.int p4)) (.val (.int p5)) (.val (.int p6)) b7 (q1 &&& (9223372036854775807 : Int64)) (Int32.ofNat nn) (Int32.ofNat oo) (own_bad p4 (Int32.ofNat nn)) (own_pos p4 (Int32.ofNat nn)) (.val (.int (own_r p5))) ((own_r p5).toInt8.toInt32) (p6.toInt8.toInt32) b17 .unset .unset n0 kb k7 _ Xc18 hx hZ hw hby hml hown ec18 Nc18 Zc18 Vc18 (by simp only [List.length_set, List.length_replicate]) Pc18 neB gB' h19
  obtain ⟨Tc20, hc20, Lc20, Xc20, ec20, ⟨Nc20, Zc20, Vc20, Pc20⟩, stc20⟩ := tn0_742_768 (.val (.long q1)) .second (.val (.int p2)) (.val (.int p3)) (.val (.int p4)) (.val (.int p5)) (.val (.int p6)) b7 (q1 &&& (9223372036854775807 : Int64)) (Int32.ofNat nn) (Int32.ofNat oo) (own_bad p4 (Int32.ofNat nn)) (own_pos p4 (Int32.ofNat nn)) (.val (.int (own_r p5))) ((own_r p5).toInt8.toInt32) (p6.toInt8.toInt32) b17 .unset .unset n0 kb k7 _ Xc19 hx hZ hw hby hml hown ec19 Nc19 Zc19 Vc19 (by simp only [List.length_set, List.length_replicate]) Pc19 neB gB' h19
  obtain ⟨clF, ArF, -, SF, NF, HF, -⟩ := Vc20
  have n21 : (21 : Int32).toNatClampNeg = 21 := by decide +kernel
  have SF' : clF.slots.size = 21 := SF.trans n21
  have hf : ∀ j, j < 21 → clF.slots[j]? = some (.int (own_f oo nn (q1 &&& (9223372036854775807 : Int64)) p4 p5 (p6.toInt8.toInt32) j)) := by
    intro j hj
    rw [HF j (by omega)]
    exact congrArg some (own_sets (fun t => Value.int (own_f oo nn (q1 &&& (9223372036854775807 : Int64)) p4 p5 (p6.toInt8.toInt32) t)) (.int (0 : Int32)) j hj)
  obtain ⟨Tw, Lw, Xw, Nw, stw⟩ := tn0_801_819 (.val (.long q1)) .second (.val (.int p2)) (.val (.int p3)) (.val (.int p4)) (.val (.int p5)) (.val (.int p6)) (.val (.ref b7)) (.val (.long (q1 &&& (9223372036854775807 : Int64)))) .second (.val (.int (own_bad p4 (Int32.ofNat nn)))) (.val (.int (own_pos p4 (Int32.ofNat nn)))) (.val (.int (own_r p5))) (.val (.int ((own_r p5).toInt8.toInt32))) (.val (.int (p6.toInt8.toInt32))) b17 (own_exp (q1 &&& (9223372036854775807 : Int64)) (Int32.ofNat nn) (own_bad p4 (Int32.ofNat nn))) n0 clF (own_f oo nn (q1 &&& (9223372036854775807 : Int64)) p4 p5 (p6.toInt8.toInt32)) oo nn Xc20 hx hZ hw hby hml hown ec20 Nc20 Zc20 ArF SF' (by omega) hf (own_fin oo nn hoo hnn (q1 &&& (9223372036854775807 : Int64)) Mn eM p4 p5 (p6.toInt8.toInt32))
  obtain ⟨fs, hr, hrun, hended, hW, hsame⟩ := Xw.leave (v := some (.int (1 : Int32))) (fun h => by rw [Bd.returns] at h; cases h)
  refine ⟨_, _, pre0 _ ?_, hrun, hended, _, _, rfl, ?_, ⟨_, rfl⟩, hW, hsame.mono (by decide) (by decide)⟩
  · show Steps p.tables e below (s₁.setTop (mkF m 0 #[.val (.long q1), .second, .val (.int p2), .val (.int p3), .val (.int p4), .val (.int p5), .val (.int p6), .unset, .unset, .unset, .unset, .unset, .unset, .unset, .unset, .unset, .unset, .unset, .unset, .unset] [])) _
    refine XS.bipush X0.here hx rfl (hb hby at_0) ?_
    show Steps p.tables e below (s₁.setTop (mkF m 2 #[.val (.long q1), .second, .val (.int p2), .val (.int p3), .val (.int p4), .val (.int p5), .val (.int p6), .unset, .unset, .unset, .unset, .unset, .unset, .unset, .unset, .unset, .unset, .unset, .unset, .unset] [(.int (19 : Int32))])) _
    refine st7 _ ?_
    show Steps p.tables e below (T7.setTop (mkF m 4 #[.val (.long q1), .second, .val (.int p2), .val (.int p3), .val (.int p4), .val (.int p5), .val (.int p6), .unset, .unset, .unset, .unset, .unset, .unset, .unset, .unset, .unset, .unset, .unset, .unset, .unset] [(.ref b7)])) _
    refine XS.dup X7.here hx rfl (hb hby at_4) rfl rfl ?_
    show Steps p.tables e below (T7.setTop (mkF m 5 #[.val (.long q1), .second, .val (.int p2), .val (.int p3), .val (.int p4), .val (.int p5), .val (.int p6), .unset, .unset, .unset, .unset, .unset, .unset, .unset, .unset, .unset, .unset, .unset, .unset, .unset] [(.ref b7), (.ref b7)])) _
    refine XS.iconst X7.here hx rfl (hb hby at_5) ?_
    show Steps p.tables e below (T7.setTop (mkF m 6 #[.val (.long q1), .second, .val (.int p2), .val (.int p3), .val (.int p4), .val (.int p5), .val (.int p6), .unset, .unset, .unset, .unset, .unset, .unset, .unset, .unset, .unset, .unset, .unset, .unset, .unset] [(.int (0 : Int32)), (.ref b7), (.ref b7)])) _
    refine XS.lconst X7.here hx rfl (hb hby at_6) ?_
    show Steps p.tables e below (T7.setTop (mkF m 7 #[.val (.long q1), .second, .val (.int p2), .val (.int p3), .val (.int p4), .val (.int p5), .val (.int p6), .unset, .unset, .unset, .unset, .unset, .unset, .unset, .unset, .unset, .unset, .unset, .unset, .unset] [(.long (1 : Int64)), (.int (0 : Int32)), (.ref b7), (.ref b7)])) _
    refine st8 _ ?_
    show Steps p.tables e below (T8.setTop (mkF m 8 #[.val (.long q1), .second, .val (.int p2), .val (.int p3), .val (.int p4), .val (.int p5), .val (.int p6), .unset, .unset, .unset, .unset, .unset, .unset, .unset, .unset, .unset, .unset, .unset, .unset, .unset] [(.ref b7)])) _
    refine XS.dup X8.here hx rfl (hb hby at_8) rfl rfl ?_
    show Steps p.tables e below (T8.setTop (mkF m 9 #[.val (.long q1), .second, .val (.int p2), .val (.int p3), .val (.int p4), .val (.int p5), .val (.int p6), .unset, .unset, .unset, .unset, .unset, .unset, .unset, .unset, .unset, .unset, .unset, .unset, .unset] [(.ref b7), (.ref b7)])) _
    refine XS.iconst X8.here hx rfl (hb hby at_9) ?_
    show Steps p.tables e below (T8.setTop (mkF m 10 #[.val (.long q1), .second, .val (.int p2), .val (.int p3), .val (.int p4), .val (.int p5), .val (.int p6), .unset, .unset, .unset, .unset, .unset, .unset, .unset, .unset, .unset, .unset, .unset, .unset, .unset] [(.int (1 : Int32)), (.ref b7), (.ref b7)])) _
    refine X8.ldc2Long hx hown (mvT hZ (hw _ (List.mem_of_getElem? (i := 1) rfl))) (g := (mkF m 10 #[.val (.long q1), .second, .val (.int p2), .val (.int p3), .val (.int p4), .val (.int p5), .val (.int p6), .unset, .unset, .unset, .unset, .unset, .unset, .unset, .unset, .unset, .unset, .unset, .unset, .unset] [(.int (1 : Int32)), (.ref b7), (.ref b7)])) rfl (hb hby at_10) _ ?_
    show Steps p.tables e below (T8.setTop (mkF m 13 #[.val (.long q1), .second, .val (.int p2), .val (.int p3), .val (.int p4), .val (.int p5), .val (.int p6), .unset, .unset, .unset, .unset, .unset, .unset, .unset, .unset, .unset, .unset, .unset, .unset, .unset] [(.long (10 : Int64)), (.int (1 : Int32)), (.ref b7), (.ref b7)])) _
    refine st9 _ ?_
    show Steps p.tables e below (T9.setTop (mkF m 14 #[.val (.long q1), .second, .val (.int p2), .val (.int p3), .val (.int p4), .val (.int p5), .val (.int p6), .unset, .unset, .unset, .unset, .unset, .unset, .unset, .unset, .unset, .unset, .unset, .unset, .unset] [(.ref b7)])) _
    refine XS.dup X9.here hx rfl (hb hby at_14) rfl rfl ?_
    show Steps p.tables e below (T9.setTop (mkF m 15 #[.val (.long q1), .second, .val (.int p2), .val (.int p3), .val (.int p4), .val (.int p5), .val (.int p6), .unset, .unset, .unset, .unset, .unset, .unset, .unset, .unset, .unset, .unset, .unset, .unset, .unset] [(.ref b7), (.ref b7)])) _
    refine XS.iconst X9.here hx rfl (hb hby at_15) ?_
    show Steps p.tables e below (T9.setTop (mkF m 16 #[.val (.long q1), .second, .val (.int p2), .val (.int p3), .val (.int p4), .val (.int p5), .val (.int p6), .unset, .unset, .unset, .unset, .unset, .unset, .unset, .unset, .unset, .unset, .unset, .unset, .unset] [(.int (2 : Int32)), (.ref b7), (.ref b7)])) _
    refine X9.ldc2Long hx hown (mvT hZ (hw _ (List.mem_of_getElem? (i := 2) rfl))) (g := (mkF m 16 #[.val (.long q1), .second, .val (.int p2), .val (.int p3), .val (.int p4), .val (.int p5), .val (.int p6), .unset, .unset, .unset, .unset, .unset, .unset, .unset, .unset, .unset, .unset, .unset, .unset, .unset] [(.int (2 : Int32)), (.ref b7), (.ref b7)])) rfl (hb hby at_16) _ ?_
    show Steps p.tables e below (T9.setTop (mkF m 19 #[.val (.long q1), .second, .val (.int p2), .val (.int p3), .val (.int p4), .val (.int p5), .val (.int p6), .unset, .unset, .unset, .unset, .unset, .unset, .unset, .unset, .unset, .unset, .unset, .unset, .unset] [(.long (100 : Int64)), (.int (2 : Int32)), (.ref b7), (.ref b7)])) _
    refine st10 _ ?_
    show Steps p.tables e below (T10.setTop (mkF m 20 #[.val (.long q1), .second, .val (.int p2), .val (.int p3), .val (.int p4), .val (.int p5), .val (.int p6), .unset, .unset, .unset, .unset, .unset, .unset, .unset, .unset, .unset, .unset, .unset, .unset, .unset] [(.ref b7)])) _
    refine XS.dup X10.here hx rfl (hb hby at_20) rfl rfl ?_
    show Steps p.tables e below (T10.setTop (mkF m 21 #[.val (.long q1), .second, .val (.int p2), .val (.int p3), .val (.int p4), .val (.int p5), .val (.int p6), .unset, .unset, .unset, .unset, .unset, .unset, .unset, .unset, .unset, .unset, .unset, .unset, .unset] [(.ref b7), (.ref b7)])) _
    refine XS.iconst X10.here hx rfl (hb hby at_21) ?_
    show Steps p.tables e below (T10.setTop (mkF m 22 #[.val (.long q1), .second, .val (.int p2), .val (.int p3), .val (.int p4), .val (.int p5), .val (.int p6), .unset, .unset, .unset, .unset, .unset, .unset, .unset, .unset, .unset, .unset, .unset, .unset, .unset] [(.int (3 : Int32)), (.ref b7), (.ref b7)])) _
    refine X10.ldc2Long hx hown (mvT hZ (hw _ (List.mem_of_getElem? (i := 3) rfl))) (g := (mkF m 22 #[.val (.long q1), .second, .val (.int p2), .val (.int p3), .val (.int p4), .val (.int p5), .val (.int p6), .unset, .unset, .unset, .unset, .unset, .unset, .unset, .unset, .unset, .unset, .unset, .unset, .unset] [(.int (3 : Int32)), (.ref b7), (.ref b7)])) rfl (hb hby at_22) _ ?_
    show Steps p.tables e below (T10.setTop (mkF m 25 #[.val (.long q1), .second, .val (.int p2), .val (.int p3), .val (.int p4), .val (.int p5), .val (.int p6), .unset, .unset, .unset, .unset, .unset, .unset, .unset, .unset, .unset, .unset, .unset, .unset, .unset] [(.long (1000 : Int64)), (.int (3 : Int32)), (.ref b7), (.ref b7)])) _
    refine st11 _ ?_
    show Steps p.tables e below (T11.setTop (mkF m 26 #[.val (.long q1), .second, .val (.int p2), .val (.int p3), .val (.int p4), .val (.int p5), .val (.int p6), .unset, .unset, .unset, .unset, .unset, .unset, .unset, .unset, .unset, .unset, .unset, .unset, .unset] [(.ref b7)])) _
    refine XS.dup X11.here hx rfl (hb hby at_26) rfl rfl ?_
    show Steps p.tables e below (T11.setTop (mkF m 27 #[.val (.long q1), .second, .val (.int p2), .val (.int p3), .val (.int p4), .val (.int p5), .val (.int p6), .unset, .unset, .unset, .unset, .unset, .unset, .unset, .unset, .unset, .unset, .unset, .unset, .unset] [(.ref b7), (.ref b7)])) _
    refine XS.iconst X11.here hx rfl (hb hby at_27) ?_
    show Steps p.tables e below (T11.setTop (mkF m 28 #[.val (.long q1), .second, .val (.int p2), .val (.int p3), .val (.int p4), .val (.int p5), .val (.int p6), .unset, .unset, .unset, .unset, .unset, .unset, .unset, .unset, .unset, .unset, .unset, .unset, .unset] [(.int (4 : Int32)), (.ref b7), (.ref b7)])) _
    refine X11.ldc2Long hx hown (mvT hZ (hw _ (List.mem_of_getElem? (i := 4) rfl))) (g := (mkF m 28 #[.val (.long q1), .second, .val (.int p2), .val (.int p3), .val (.int p4), .val (.int p5), .val (.int p6), .unset, .unset, .unset, .unset, .unset, .unset, .unset, .unset, .unset, .unset, .unset, .unset, .unset] [(.int (4 : Int32)), (.ref b7), (.ref b7)])) rfl (hb hby at_28) _ ?_
    show Steps p.tables e below (T11.setTop (mkF m 31 #[.val (.long q1), .second, .val (.int p2), .val (.int p3), .val (.int p4), .val (.int p5), .val (.int p6), .unset, .unset, .unset, .unset, .unset, .unset, .unset, .unset, .unset, .unset, .unset, .unset, .unset] [(.long (10000 : Int64)), (.int (4 : Int32)), (.ref b7), (.ref b7)])) _
    refine st12 _ ?_
    show Steps p.tables e below (T12.setTop (mkF m 32 #[.val (.long q1), .second, .val (.int p2), .val (.int p3), .val (.int p4), .val (.int p5), .val (.int p6), .unset, .unset, .unset, .unset, .unset, .unset, .unset, .unset, .unset, .unset, .unset, .unset, .unset] [(.ref b7)])) _
    refine XS.dup X12.here hx rfl (hb hby at_32) rfl rfl ?_
    show Steps p.tables e below (T12.setTop (mkF m 33 #[.val (.long q1), .second, .val (.int p2), .val (.int p3), .val (.int p4), .val (.int p5), .val (.int p6), .unset, .unset, .unset, .unset, .unset, .unset, .unset, .unset, .unset, .unset, .unset, .unset, .unset] [(.ref b7), (.ref b7)])) _
    refine XS.iconst X12.here hx rfl (hb hby at_33) ?_
    show Steps p.tables e below (T12.setTop (mkF m 34 #[.val (.long q1), .second, .val (.int p2), .val (.int p3), .val (.int p4), .val (.int p5), .val (.int p6), .unset, .unset, .unset, .unset, .unset, .unset, .unset, .unset, .unset, .unset, .unset, .unset, .unset] [(.int (5 : Int32)), (.ref b7), (.ref b7)])) _
    refine X12.ldc2Long hx hown (mvT hZ (hw _ (List.mem_of_getElem? (i := 5) rfl))) (g := (mkF m 34 #[.val (.long q1), .second, .val (.int p2), .val (.int p3), .val (.int p4), .val (.int p5), .val (.int p6), .unset, .unset, .unset, .unset, .unset, .unset, .unset, .unset, .unset, .unset, .unset, .unset, .unset] [(.int (5 : Int32)), (.ref b7), (.ref b7)])) rfl (hb hby at_34) _ ?_
    show Steps p.tables e below (T12.setTop (mkF m 37 #[.val (.long q1), .second, .val (.int p2), .val (.int p3), .val (.int p4), .val (.int p5), .val (.int p6), .unset, .unset, .unset, .unset, .unset, .unset, .unset, .unset, .unset, .unset, .unset, .unset, .unset] [(.long (100000 : Int64)), (.int (5 : Int32)), (.ref b7), (.ref b7)])) _
    refine st13 _ ?_
    show Steps p.tables e below (T13.setTop (mkF m 38 #[.val (.long q1), .second, .val (.int p2), .val (.int p3), .val (.int p4), .val (.int p5), .val (.int p6), .unset, .unset, .unset, .unset, .unset, .unset, .unset, .unset, .unset, .unset, .unset, .unset, .unset] [(.ref b7)])) _
    refine XS.dup X13.here hx rfl (hb hby at_38) rfl rfl ?_
    show Steps p.tables e below (T13.setTop (mkF m 39 #[.val (.long q1), .second, .val (.int p2), .val (.int p3), .val (.int p4), .val (.int p5), .val (.int p6), .unset, .unset, .unset, .unset, .unset, .unset, .unset, .unset, .unset, .unset, .unset, .unset, .unset] [(.ref b7), (.ref b7)])) _
    refine XS.bipush X13.here hx rfl (hb hby at_39) ?_
    show Steps p.tables e below (T13.setTop (mkF m 41 #[.val (.long q1), .second, .val (.int p2), .val (.int p3), .val (.int p4), .val (.int p5), .val (.int p6), .unset, .unset, .unset, .unset, .unset, .unset, .unset, .unset, .unset, .unset, .unset, .unset, .unset] [(.int (6 : Int32)), (.ref b7), (.ref b7)])) _
    refine X13.ldc2Long hx hown (mvT hZ (hw _ (List.mem_of_getElem? (i := 6) rfl))) (g := (mkF m 41 #[.val (.long q1), .second, .val (.int p2), .val (.int p3), .val (.int p4), .val (.int p5), .val (.int p6), .unset, .unset, .unset, .unset, .unset, .unset, .unset, .unset, .unset, .unset, .unset, .unset, .unset] [(.int (6 : Int32)), (.ref b7), (.ref b7)])) rfl (hb hby at_41) _ ?_
    show Steps p.tables e below (T13.setTop (mkF m 44 #[.val (.long q1), .second, .val (.int p2), .val (.int p3), .val (.int p4), .val (.int p5), .val (.int p6), .unset, .unset, .unset, .unset, .unset, .unset, .unset, .unset, .unset, .unset, .unset, .unset, .unset] [(.long (1000000 : Int64)), (.int (6 : Int32)), (.ref b7), (.ref b7)])) _
    refine st14 _ ?_
    show Steps p.tables e below (T14.setTop (mkF m 45 #[.val (.long q1), .second, .val (.int p2), .val (.int p3), .val (.int p4), .val (.int p5), .val (.int p6), .unset, .unset, .unset, .unset, .unset, .unset, .unset, .unset, .unset, .unset, .unset, .unset, .unset] [(.ref b7)])) _
    refine XS.dup X14.here hx rfl (hb hby at_45) rfl rfl ?_
    show Steps p.tables e below (T14.setTop (mkF m 46 #[.val (.long q1), .second, .val (.int p2), .val (.int p3), .val (.int p4), .val (.int p5), .val (.int p6), .unset, .unset, .unset, .unset, .unset, .unset, .unset, .unset, .unset, .unset, .unset, .unset, .unset] [(.ref b7), (.ref b7)])) _
    refine XS.bipush X14.here hx rfl (hb hby at_46) ?_
    show Steps p.tables e below (T14.setTop (mkF m 48 #[.val (.long q1), .second, .val (.int p2), .val (.int p3), .val (.int p4), .val (.int p5), .val (.int p6), .unset, .unset, .unset, .unset, .unset, .unset, .unset, .unset, .unset, .unset, .unset, .unset, .unset] [(.int (7 : Int32)), (.ref b7), (.ref b7)])) _
    refine X14.ldc2Long hx hown (mvT hZ (hw _ (List.mem_of_getElem? (i := 7) rfl))) (g := (mkF m 48 #[.val (.long q1), .second, .val (.int p2), .val (.int p3), .val (.int p4), .val (.int p5), .val (.int p6), .unset, .unset, .unset, .unset, .unset, .unset, .unset, .unset, .unset, .unset, .unset, .unset, .unset] [(.int (7 : Int32)), (.ref b7), (.ref b7)])) rfl (hb hby at_48) _ ?_
    show Steps p.tables e below (T14.setTop (mkF m 51 #[.val (.long q1), .second, .val (.int p2), .val (.int p3), .val (.int p4), .val (.int p5), .val (.int p6), .unset, .unset, .unset, .unset, .unset, .unset, .unset, .unset, .unset, .unset, .unset, .unset, .unset] [(.long (10000000 : Int64)), (.int (7 : Int32)), (.ref b7), (.ref b7)])) _
    refine st15 _ ?_
    show Steps p.tables e below (T15.setTop (mkF m 52 #[.val (.long q1), .second, .val (.int p2), .val (.int p3), .val (.int p4), .val (.int p5), .val (.int p6), .unset, .unset, .unset, .unset, .unset, .unset, .unset, .unset, .unset, .unset, .unset, .unset, .unset] [(.ref b7)])) _
    refine XS.dup X15.here hx rfl (hb hby at_52) rfl rfl ?_
    show Steps p.tables e below (T15.setTop (mkF m 53 #[.val (.long q1), .second, .val (.int p2), .val (.int p3), .val (.int p4), .val (.int p5), .val (.int p6), .unset, .unset, .unset, .unset, .unset, .unset, .unset, .unset, .unset, .unset, .unset, .unset, .unset] [(.ref b7), (.ref b7)])) _
    refine XS.bipush X15.here hx rfl (hb hby at_53) ?_
    show Steps p.tables e below (T15.setTop (mkF m 55 #[.val (.long q1), .second, .val (.int p2), .val (.int p3), .val (.int p4), .val (.int p5), .val (.int p6), .unset, .unset, .unset, .unset, .unset, .unset, .unset, .unset, .unset, .unset, .unset, .unset, .unset] [(.int (8 : Int32)), (.ref b7), (.ref b7)])) _
    refine X15.ldc2Long hx hown (mvT hZ (hw _ (List.mem_of_getElem? (i := 8) rfl))) (g := (mkF m 55 #[.val (.long q1), .second, .val (.int p2), .val (.int p3), .val (.int p4), .val (.int p5), .val (.int p6), .unset, .unset, .unset, .unset, .unset, .unset, .unset, .unset, .unset, .unset, .unset, .unset, .unset] [(.int (8 : Int32)), (.ref b7), (.ref b7)])) rfl (hb hby at_55) _ ?_
    show Steps p.tables e below (T15.setTop (mkF m 58 #[.val (.long q1), .second, .val (.int p2), .val (.int p3), .val (.int p4), .val (.int p5), .val (.int p6), .unset, .unset, .unset, .unset, .unset, .unset, .unset, .unset, .unset, .unset, .unset, .unset, .unset] [(.long (100000000 : Int64)), (.int (8 : Int32)), (.ref b7), (.ref b7)])) _
    refine st16 _ ?_
    show Steps p.tables e below (T16.setTop (mkF m 59 #[.val (.long q1), .second, .val (.int p2), .val (.int p3), .val (.int p4), .val (.int p5), .val (.int p6), .unset, .unset, .unset, .unset, .unset, .unset, .unset, .unset, .unset, .unset, .unset, .unset, .unset] [(.ref b7)])) _
    refine XS.dup X16.here hx rfl (hb hby at_59) rfl rfl ?_
    show Steps p.tables e below (T16.setTop (mkF m 60 #[.val (.long q1), .second, .val (.int p2), .val (.int p3), .val (.int p4), .val (.int p5), .val (.int p6), .unset, .unset, .unset, .unset, .unset, .unset, .unset, .unset, .unset, .unset, .unset, .unset, .unset] [(.ref b7), (.ref b7)])) _
    refine XS.bipush X16.here hx rfl (hb hby at_60) ?_
    show Steps p.tables e below (T16.setTop (mkF m 62 #[.val (.long q1), .second, .val (.int p2), .val (.int p3), .val (.int p4), .val (.int p5), .val (.int p6), .unset, .unset, .unset, .unset, .unset, .unset, .unset, .unset, .unset, .unset, .unset, .unset, .unset] [(.int (9 : Int32)), (.ref b7), (.ref b7)])) _
    refine X16.ldc2Long hx hown (mvT hZ (hw _ (List.mem_of_getElem? (i := 9) rfl))) (g := (mkF m 62 #[.val (.long q1), .second, .val (.int p2), .val (.int p3), .val (.int p4), .val (.int p5), .val (.int p6), .unset, .unset, .unset, .unset, .unset, .unset, .unset, .unset, .unset, .unset, .unset, .unset, .unset] [(.int (9 : Int32)), (.ref b7), (.ref b7)])) rfl (hb hby at_62) _ ?_
    show Steps p.tables e below (T16.setTop (mkF m 65 #[.val (.long q1), .second, .val (.int p2), .val (.int p3), .val (.int p4), .val (.int p5), .val (.int p6), .unset, .unset, .unset, .unset, .unset, .unset, .unset, .unset, .unset, .unset, .unset, .unset, .unset] [(.long (1000000000 : Int64)), (.int (9 : Int32)), (.ref b7), (.ref b7)])) _
    refine st17 _ ?_
    show Steps p.tables e below (T17.setTop (mkF m 66 #[.val (.long q1), .second, .val (.int p2), .val (.int p3), .val (.int p4), .val (.int p5), .val (.int p6), .unset, .unset, .unset, .unset, .unset, .unset, .unset, .unset, .unset, .unset, .unset, .unset, .unset] [(.ref b7)])) _
    refine XS.dup X17.here hx rfl (hb hby at_66) rfl rfl ?_
    show Steps p.tables e below (T17.setTop (mkF m 67 #[.val (.long q1), .second, .val (.int p2), .val (.int p3), .val (.int p4), .val (.int p5), .val (.int p6), .unset, .unset, .unset, .unset, .unset, .unset, .unset, .unset, .unset, .unset, .unset, .unset, .unset] [(.ref b7), (.ref b7)])) _
    refine XS.bipush X17.here hx rfl (hb hby at_67) ?_
    show Steps p.tables e below (T17.setTop (mkF m 69 #[.val (.long q1), .second, .val (.int p2), .val (.int p3), .val (.int p4), .val (.int p5), .val (.int p6), .unset, .unset, .unset, .unset, .unset, .unset, .unset, .unset, .unset, .unset, .unset, .unset, .unset] [(.int (10 : Int32)), (.ref b7), (.ref b7)])) _
    refine X17.ldc2Long hx hown (mvT hZ (hw _ (List.mem_of_getElem? (i := 10) rfl))) (g := (mkF m 69 #[.val (.long q1), .second, .val (.int p2), .val (.int p3), .val (.int p4), .val (.int p5), .val (.int p6), .unset, .unset, .unset, .unset, .unset, .unset, .unset, .unset, .unset, .unset, .unset, .unset, .unset] [(.int (10 : Int32)), (.ref b7), (.ref b7)])) rfl (hb hby at_69) _ ?_
    show Steps p.tables e below (T17.setTop (mkF m 72 #[.val (.long q1), .second, .val (.int p2), .val (.int p3), .val (.int p4), .val (.int p5), .val (.int p6), .unset, .unset, .unset, .unset, .unset, .unset, .unset, .unset, .unset, .unset, .unset, .unset, .unset] [(.long (10000000000 : Int64)), (.int (10 : Int32)), (.ref b7), (.ref b7)])) _
    refine st18 _ ?_
    show Steps p.tables e below (T18.setTop (mkF m 73 #[.val (.long q1), .second, .val (.int p2), .val (.int p3), .val (.int p4), .val (.int p5), .val (.int p6), .unset, .unset, .unset, .unset, .unset, .unset, .unset, .unset, .unset, .unset, .unset, .unset, .unset] [(.ref b7)])) _
    refine XS.dup X18.here hx rfl (hb hby at_73) rfl rfl ?_
    show Steps p.tables e below (T18.setTop (mkF m 74 #[.val (.long q1), .second, .val (.int p2), .val (.int p3), .val (.int p4), .val (.int p5), .val (.int p6), .unset, .unset, .unset, .unset, .unset, .unset, .unset, .unset, .unset, .unset, .unset, .unset, .unset] [(.ref b7), (.ref b7)])) _
    refine XS.bipush X18.here hx rfl (hb hby at_74) ?_
    show Steps p.tables e below (T18.setTop (mkF m 76 #[.val (.long q1), .second, .val (.int p2), .val (.int p3), .val (.int p4), .val (.int p5), .val (.int p6), .unset, .unset, .unset, .unset, .unset, .unset, .unset, .unset, .unset, .unset, .unset, .unset, .unset] [(.int (11 : Int32)), (.ref b7), (.ref b7)])) _
    refine X18.ldc2Long hx hown (mvT hZ (hw _ (List.mem_of_getElem? (i := 11) rfl))) (g := (mkF m 76 #[.val (.long q1), .second, .val (.int p2), .val (.int p3), .val (.int p4), .val (.int p5), .val (.int p6), .unset, .unset, .unset, .unset, .unset, .unset, .unset, .unset, .unset, .unset, .unset, .unset, .unset] [(.int (11 : Int32)), (.ref b7), (.ref b7)])) rfl (hb hby at_76) _ ?_
    show Steps p.tables e below (T18.setTop (mkF m 79 #[.val (.long q1), .second, .val (.int p2), .val (.int p3), .val (.int p4), .val (.int p5), .val (.int p6), .unset, .unset, .unset, .unset, .unset, .unset, .unset, .unset, .unset, .unset, .unset, .unset, .unset] [(.long (100000000000 : Int64)), (.int (11 : Int32)), (.ref b7), (.ref b7)])) _
    refine st19 _ ?_
    show Steps p.tables e below (T19.setTop (mkF m 80 #[.val (.long q1), .second, .val (.int p2), .val (.int p3), .val (.int p4), .val (.int p5), .val (.int p6), .unset, .unset, .unset, .unset, .unset, .unset, .unset, .unset, .unset, .unset, .unset, .unset, .unset] [(.ref b7)])) _
    refine XS.dup X19.here hx rfl (hb hby at_80) rfl rfl ?_
    show Steps p.tables e below (T19.setTop (mkF m 81 #[.val (.long q1), .second, .val (.int p2), .val (.int p3), .val (.int p4), .val (.int p5), .val (.int p6), .unset, .unset, .unset, .unset, .unset, .unset, .unset, .unset, .unset, .unset, .unset, .unset, .unset] [(.ref b7), (.ref b7)])) _
    refine XS.bipush X19.here hx rfl (hb hby at_81) ?_
    show Steps p.tables e below (T19.setTop (mkF m 83 #[.val (.long q1), .second, .val (.int p2), .val (.int p3), .val (.int p4), .val (.int p5), .val (.int p6), .unset, .unset, .unset, .unset, .unset, .unset, .unset, .unset, .unset, .unset, .unset, .unset, .unset] [(.int (12 : Int32)), (.ref b7), (.ref b7)])) _
    refine X19.ldc2Long hx hown (mvT hZ (hw _ (List.mem_of_getElem? (i := 12) rfl))) (g := (mkF m 83 #[.val (.long q1), .second, .val (.int p2), .val (.int p3), .val (.int p4), .val (.int p5), .val (.int p6), .unset, .unset, .unset, .unset, .unset, .unset, .unset, .unset, .unset, .unset, .unset, .unset, .unset] [(.int (12 : Int32)), (.ref b7), (.ref b7)])) rfl (hb hby at_83) _ ?_
    show Steps p.tables e below (T19.setTop (mkF m 86 #[.val (.long q1), .second, .val (.int p2), .val (.int p3), .val (.int p4), .val (.int p5), .val (.int p6), .unset, .unset, .unset, .unset, .unset, .unset, .unset, .unset, .unset, .unset, .unset, .unset, .unset] [(.long (1000000000000 : Int64)), (.int (12 : Int32)), (.ref b7), (.ref b7)])) _
    refine st20 _ ?_
    show Steps p.tables e below (T20.setTop (mkF m 87 #[.val (.long q1), .second, .val (.int p2), .val (.int p3), .val (.int p4), .val (.int p5), .val (.int p6), .unset, .unset, .unset, .unset, .unset, .unset, .unset, .unset, .unset, .unset, .unset, .unset, .unset] [(.ref b7)])) _
    refine XS.dup X20.here hx rfl (hb hby at_87) rfl rfl ?_
    show Steps p.tables e below (T20.setTop (mkF m 88 #[.val (.long q1), .second, .val (.int p2), .val (.int p3), .val (.int p4), .val (.int p5), .val (.int p6), .unset, .unset, .unset, .unset, .unset, .unset, .unset, .unset, .unset, .unset, .unset, .unset, .unset] [(.ref b7), (.ref b7)])) _
    refine XS.bipush X20.here hx rfl (hb hby at_88) ?_
    show Steps p.tables e below (T20.setTop (mkF m 90 #[.val (.long q1), .second, .val (.int p2), .val (.int p3), .val (.int p4), .val (.int p5), .val (.int p6), .unset, .unset, .unset, .unset, .unset, .unset, .unset, .unset, .unset, .unset, .unset, .unset, .unset] [(.int (13 : Int32)), (.ref b7), (.ref b7)])) _
    refine X20.ldc2Long hx hown (mvT hZ (hw _ (List.mem_of_getElem? (i := 13) rfl))) (g := (mkF m 90 #[.val (.long q1), .second, .val (.int p2), .val (.int p3), .val (.int p4), .val (.int p5), .val (.int p6), .unset, .unset, .unset, .unset, .unset, .unset, .unset, .unset, .unset, .unset, .unset, .unset, .unset] [(.int (13 : Int32)), (.ref b7), (.ref b7)])) rfl (hb hby at_90) _ ?_
    show Steps p.tables e below (T20.setTop (mkF m 93 #[.val (.long q1), .second, .val (.int p2), .val (.int p3), .val (.int p4), .val (.int p5), .val (.int p6), .unset, .unset, .unset, .unset, .unset, .unset, .unset, .unset, .unset, .unset, .unset, .unset, .unset] [(.long (10000000000000 : Int64)), (.int (13 : Int32)), (.ref b7), (.ref b7)])) _
    refine st21 _ ?_
    show Steps p.tables e below (T21.setTop (mkF m 94 #[.val (.long q1), .second, .val (.int p2), .val (.int p3), .val (.int p4), .val (.int p5), .val (.int p6), .unset, .unset, .unset, .unset, .unset, .unset, .unset, .unset, .unset, .unset, .unset, .unset, .unset] [(.ref b7)])) _
    refine XS.dup X21.here hx rfl (hb hby at_94) rfl rfl ?_
    show Steps p.tables e below (T21.setTop (mkF m 95 #[.val (.long q1), .second, .val (.int p2), .val (.int p3), .val (.int p4), .val (.int p5), .val (.int p6), .unset, .unset, .unset, .unset, .unset, .unset, .unset, .unset, .unset, .unset, .unset, .unset, .unset] [(.ref b7), (.ref b7)])) _
    refine XS.bipush X21.here hx rfl (hb hby at_95) ?_
    show Steps p.tables e below (T21.setTop (mkF m 97 #[.val (.long q1), .second, .val (.int p2), .val (.int p3), .val (.int p4), .val (.int p5), .val (.int p6), .unset, .unset, .unset, .unset, .unset, .unset, .unset, .unset, .unset, .unset, .unset, .unset, .unset] [(.int (14 : Int32)), (.ref b7), (.ref b7)])) _
    refine X21.ldc2Long hx hown (mvT hZ (hw _ (List.mem_of_getElem? (i := 14) rfl))) (g := (mkF m 97 #[.val (.long q1), .second, .val (.int p2), .val (.int p3), .val (.int p4), .val (.int p5), .val (.int p6), .unset, .unset, .unset, .unset, .unset, .unset, .unset, .unset, .unset, .unset, .unset, .unset, .unset] [(.int (14 : Int32)), (.ref b7), (.ref b7)])) rfl (hb hby at_97) _ ?_
    show Steps p.tables e below (T21.setTop (mkF m 100 #[.val (.long q1), .second, .val (.int p2), .val (.int p3), .val (.int p4), .val (.int p5), .val (.int p6), .unset, .unset, .unset, .unset, .unset, .unset, .unset, .unset, .unset, .unset, .unset, .unset, .unset] [(.long (100000000000000 : Int64)), (.int (14 : Int32)), (.ref b7), (.ref b7)])) _
    refine st22 _ ?_
    show Steps p.tables e below (T22.setTop (mkF m 101 #[.val (.long q1), .second, .val (.int p2), .val (.int p3), .val (.int p4), .val (.int p5), .val (.int p6), .unset, .unset, .unset, .unset, .unset, .unset, .unset, .unset, .unset, .unset, .unset, .unset, .unset] [(.ref b7)])) _
    refine XS.dup X22.here hx rfl (hb hby at_101) rfl rfl ?_
    show Steps p.tables e below (T22.setTop (mkF m 102 #[.val (.long q1), .second, .val (.int p2), .val (.int p3), .val (.int p4), .val (.int p5), .val (.int p6), .unset, .unset, .unset, .unset, .unset, .unset, .unset, .unset, .unset, .unset, .unset, .unset, .unset] [(.ref b7), (.ref b7)])) _
    refine XS.bipush X22.here hx rfl (hb hby at_102) ?_
    show Steps p.tables e below (T22.setTop (mkF m 104 #[.val (.long q1), .second, .val (.int p2), .val (.int p3), .val (.int p4), .val (.int p5), .val (.int p6), .unset, .unset, .unset, .unset, .unset, .unset, .unset, .unset, .unset, .unset, .unset, .unset, .unset] [(.int (15 : Int32)), (.ref b7), (.ref b7)])) _
    refine X22.ldc2Long hx hown (mvT hZ (hw _ (List.mem_of_getElem? (i := 15) rfl))) (g := (mkF m 104 #[.val (.long q1), .second, .val (.int p2), .val (.int p3), .val (.int p4), .val (.int p5), .val (.int p6), .unset, .unset, .unset, .unset, .unset, .unset, .unset, .unset, .unset, .unset, .unset, .unset, .unset] [(.int (15 : Int32)), (.ref b7), (.ref b7)])) rfl (hb hby at_104) _ ?_
    show Steps p.tables e below (T22.setTop (mkF m 107 #[.val (.long q1), .second, .val (.int p2), .val (.int p3), .val (.int p4), .val (.int p5), .val (.int p6), .unset, .unset, .unset, .unset, .unset, .unset, .unset, .unset, .unset, .unset, .unset, .unset, .unset] [(.long (1000000000000000 : Int64)), (.int (15 : Int32)), (.ref b7), (.ref b7)])) _
    refine st23 _ ?_
    show Steps p.tables e below (T23.setTop (mkF m 108 #[.val (.long q1), .second, .val (.int p2), .val (.int p3), .val (.int p4), .val (.int p5), .val (.int p6), .unset, .unset, .unset, .unset, .unset, .unset, .unset, .unset, .unset, .unset, .unset, .unset, .unset] [(.ref b7)])) _
    refine XS.dup X23.here hx rfl (hb hby at_108) rfl rfl ?_
    show Steps p.tables e below (T23.setTop (mkF m 109 #[.val (.long q1), .second, .val (.int p2), .val (.int p3), .val (.int p4), .val (.int p5), .val (.int p6), .unset, .unset, .unset, .unset, .unset, .unset, .unset, .unset, .unset, .unset, .unset, .unset, .unset] [(.ref b7), (.ref b7)])) _
    refine XS.bipush X23.here hx rfl (hb hby at_109) ?_
    show Steps p.tables e below (T23.setTop (mkF m 111 #[.val (.long q1), .second, .val (.int p2), .val (.int p3), .val (.int p4), .val (.int p5), .val (.int p6), .unset, .unset, .unset, .unset, .unset, .unset, .unset, .unset, .unset, .unset, .unset, .unset, .unset] [(.int (16 : Int32)), (.ref b7), (.ref b7)])) _
    refine X23.ldc2Long hx hown (mvT hZ (hw _ (List.mem_of_getElem? (i := 16) rfl))) (g := (mkF m 111 #[.val (.long q1), .second, .val (.int p2), .val (.int p3), .val (.int p4), .val (.int p5), .val (.int p6), .unset, .unset, .unset, .unset, .unset, .unset, .unset, .unset, .unset, .unset, .unset, .unset, .unset] [(.int (16 : Int32)), (.ref b7), (.ref b7)])) rfl (hb hby at_111) _ ?_
    show Steps p.tables e below (T23.setTop (mkF m 114 #[.val (.long q1), .second, .val (.int p2), .val (.int p3), .val (.int p4), .val (.int p5), .val (.int p6), .unset, .unset, .unset, .unset, .unset, .unset, .unset, .unset, .unset, .unset, .unset, .unset, .unset] [(.long (10000000000000000 : Int64)), (.int (16 : Int32)), (.ref b7), (.ref b7)])) _
    refine st24 _ ?_
    show Steps p.tables e below (T24.setTop (mkF m 115 #[.val (.long q1), .second, .val (.int p2), .val (.int p3), .val (.int p4), .val (.int p5), .val (.int p6), .unset, .unset, .unset, .unset, .unset, .unset, .unset, .unset, .unset, .unset, .unset, .unset, .unset] [(.ref b7)])) _
    refine XS.dup X24.here hx rfl (hb hby at_115) rfl rfl ?_
    show Steps p.tables e below (T24.setTop (mkF m 116 #[.val (.long q1), .second, .val (.int p2), .val (.int p3), .val (.int p4), .val (.int p5), .val (.int p6), .unset, .unset, .unset, .unset, .unset, .unset, .unset, .unset, .unset, .unset, .unset, .unset, .unset] [(.ref b7), (.ref b7)])) _
    refine XS.bipush X24.here hx rfl (hb hby at_116) ?_
    show Steps p.tables e below (T24.setTop (mkF m 118 #[.val (.long q1), .second, .val (.int p2), .val (.int p3), .val (.int p4), .val (.int p5), .val (.int p6), .unset, .unset, .unset, .unset, .unset, .unset, .unset, .unset, .unset, .unset, .unset, .unset, .unset] [(.int (17 : Int32)), (.ref b7), (.ref b7)])) _
    refine X24.ldc2Long hx hown (mvT hZ (hw _ (List.mem_of_getElem? (i := 17) rfl))) (g := (mkF m 118 #[.val (.long q1), .second, .val (.int p2), .val (.int p3), .val (.int p4), .val (.int p5), .val (.int p6), .unset, .unset, .unset, .unset, .unset, .unset, .unset, .unset, .unset, .unset, .unset, .unset, .unset] [(.int (17 : Int32)), (.ref b7), (.ref b7)])) rfl (hb hby at_118) _ ?_
    show Steps p.tables e below (T24.setTop (mkF m 121 #[.val (.long q1), .second, .val (.int p2), .val (.int p3), .val (.int p4), .val (.int p5), .val (.int p6), .unset, .unset, .unset, .unset, .unset, .unset, .unset, .unset, .unset, .unset, .unset, .unset, .unset] [(.long (100000000000000000 : Int64)), (.int (17 : Int32)), (.ref b7), (.ref b7)])) _
    refine st25 _ ?_
    show Steps p.tables e below (T25.setTop (mkF m 122 #[.val (.long q1), .second, .val (.int p2), .val (.int p3), .val (.int p4), .val (.int p5), .val (.int p6), .unset, .unset, .unset, .unset, .unset, .unset, .unset, .unset, .unset, .unset, .unset, .unset, .unset] [(.ref b7)])) _
    refine XS.dup X25.here hx rfl (hb hby at_122) rfl rfl ?_
    show Steps p.tables e below (T25.setTop (mkF m 123 #[.val (.long q1), .second, .val (.int p2), .val (.int p3), .val (.int p4), .val (.int p5), .val (.int p6), .unset, .unset, .unset, .unset, .unset, .unset, .unset, .unset, .unset, .unset, .unset, .unset, .unset] [(.ref b7), (.ref b7)])) _
    refine XS.bipush X25.here hx rfl (hb hby at_123) ?_
    show Steps p.tables e below (T25.setTop (mkF m 125 #[.val (.long q1), .second, .val (.int p2), .val (.int p3), .val (.int p4), .val (.int p5), .val (.int p6), .unset, .unset, .unset, .unset, .unset, .unset, .unset, .unset, .unset, .unset, .unset, .unset, .unset] [(.int (18 : Int32)), (.ref b7), (.ref b7)])) _
    refine X25.ldc2Long hx hown (mvT hZ (hw _ (List.mem_of_getElem? (i := 18) rfl))) (g := (mkF m 125 #[.val (.long q1), .second, .val (.int p2), .val (.int p3), .val (.int p4), .val (.int p5), .val (.int p6), .unset, .unset, .unset, .unset, .unset, .unset, .unset, .unset, .unset, .unset, .unset, .unset, .unset] [(.int (18 : Int32)), (.ref b7), (.ref b7)])) rfl (hb hby at_125) _ ?_
    show Steps p.tables e below (T25.setTop (mkF m 128 #[.val (.long q1), .second, .val (.int p2), .val (.int p3), .val (.int p4), .val (.int p5), .val (.int p6), .unset, .unset, .unset, .unset, .unset, .unset, .unset, .unset, .unset, .unset, .unset, .unset, .unset] [(.long (1000000000000000000 : Int64)), (.int (18 : Int32)), (.ref b7), (.ref b7)])) _
    refine st26 _ ?_
    show Steps p.tables e below (T26.setTop (mkF m 129 #[.val (.long q1), .second, .val (.int p2), .val (.int p3), .val (.int p4), .val (.int p5), .val (.int p6), .unset, .unset, .unset, .unset, .unset, .unset, .unset, .unset, .unset, .unset, .unset, .unset, .unset] [(.ref b7)])) _
    refine XS.astore X26.here hx rfl (hb hby at_129) rfl rfl (l' := #[.val (.long q1), .second, .val (.int p2), .val (.int p3), .val (.int p4), .val (.int p5), .val (.int p6), .val (.ref b7), .unset, .unset, .unset, .unset, .unset, .unset, .unset, .unset, .unset, .unset, .unset, .unset]) rfl ?_
    show Steps p.tables e below (T26.setTop (mkF m 131 #[.val (.long q1), .second, .val (.int p2), .val (.int p3), .val (.int p4), .val (.int p5), .val (.int p6), .val (.ref b7), .unset, .unset, .unset, .unset, .unset, .unset, .unset, .unset, .unset, .unset, .unset, .unset] [])) _
    refine XS.lloadN X26.here hx rfl (hb hby at_131) rfl ?_
    show Steps p.tables e below (T26.setTop (mkF m 132 #[.val (.long q1), .second, .val (.int p2), .val (.int p3), .val (.int p4), .val (.int p5), .val (.int p6), .val (.ref b7), .unset, .unset, .unset, .unset, .unset, .unset, .unset, .unset, .unset, .unset, .unset, .unset] [(.long q1)])) _
    refine X26.ldc2Long hx hown (mvT hZ (hw _ (List.mem_of_getElem? (i := 19) rfl))) (g := (mkF m 132 #[.val (.long q1), .second, .val (.int p2), .val (.int p3), .val (.int p4), .val (.int p5), .val (.int p6), .val (.ref b7), .unset, .unset, .unset, .unset, .unset, .unset, .unset, .unset, .unset, .unset, .unset, .unset] [(.long q1)])) rfl (hb hby at_132) _ ?_
    show Steps p.tables e below (T26.setTop (mkF m 135 #[.val (.long q1), .second, .val (.int p2), .val (.int p3), .val (.int p4), .val (.int p5), .val (.int p6), .val (.ref b7), .unset, .unset, .unset, .unset, .unset, .unset, .unset, .unset, .unset, .unset, .unset, .unset] [(.long (9223372036854775807 : Int64)), (.long q1)])) _
    refine XS.land X26.here hx rfl (hb hby at_135) rfl ?_
    show Steps p.tables e below (T26.setTop (mkF m 136 #[.val (.long q1), .second, .val (.int p2), .val (.int p3), .val (.int p4), .val (.int p5), .val (.int p6), .val (.ref b7), .unset, .unset, .unset, .unset, .unset, .unset, .unset, .unset, .unset, .unset, .unset, .unset] [(.long (q1 &&& (9223372036854775807 : Int64)))])) _
    refine XS.lstore X26.here hx rfl (hb hby at_136) rfl (l' := #[.val (.long q1), .second, .val (.int p2), .val (.int p3), .val (.int p4), .val (.int p5), .val (.int p6), .val (.ref b7), .val (.long (q1 &&& (9223372036854775807 : Int64))), .second, .unset, .unset, .unset, .unset, .unset, .unset, .unset, .unset, .unset, .unset]) rfl ?_
    show Steps p.tables e below (T26.setTop (mkF m 138 #[.val (.long q1), .second, .val (.int p2), .val (.int p3), .val (.int p4), .val (.int p5), .val (.int p6), .val (.ref b7), .val (.long (q1 &&& (9223372036854775807 : Int64))), .second, .unset, .unset, .unset, .unset, .unset, .unset, .unset, .unset, .unset, .unset] [])) _
    refine XS.iloadN X26.here hx rfl (hb hby at_138) rfl ?_
    show Steps p.tables e below (T26.setTop (mkF m 139 #[.val (.long q1), .second, .val (.int p2), .val (.int p3), .val (.int p4), .val (.int p5), .val (.int p6), .val (.ref b7), .val (.long (q1 &&& (9223372036854775807 : Int64))), .second, .unset, .unset, .unset, .unset, .unset, .unset, .unset, .unset, .unset, .unset] [(.int p2)])) _
    refine X26.ldcInt hx hown (mvT hZ (hw _ (List.mem_of_getElem? (i := 20) rfl))) (g := (mkF m 139 #[.val (.long q1), .second, .val (.int p2), .val (.int p3), .val (.int p4), .val (.int p5), .val (.int p6), .val (.ref b7), .val (.long (q1 &&& (9223372036854775807 : Int64))), .second, .unset, .unset, .unset, .unset, .unset, .unset, .unset, .unset, .unset, .unset] [(.int p2)])) rfl (hb hby at_139) _ ?_
    show Steps p.tables e below (T26.setTop (mkF m 141 #[.val (.long q1), .second, .val (.int p2), .val (.int p3), .val (.int p4), .val (.int p5), .val (.int p6), .val (.ref b7), .val (.long (q1 &&& (9223372036854775807 : Int64))), .second, .unset, .unset, .unset, .unset, .unset, .unset, .unset, .unset, .unset, .unset] [(.int (2147483647 : Int32)), (.int p2)])) _
    refine XS.iand X26.here hx rfl (hb hby at_141) rfl ?_
    show Steps p.tables e below (T26.setTop (mkF m 142 #[.val (.long q1), .second, .val (.int p2), .val (.int p3), .val (.int p4), .val (.int p5), .val (.int p6), .val (.ref b7), .val (.long (q1 &&& (9223372036854775807 : Int64))), .second, .unset, .unset, .unset, .unset, .unset, .unset, .unset, .unset, .unset, .unset] [(.int (p2 &&& (2147483647 : Int32)))])) _
    refine XS.bipush X26.here hx rfl (hb hby at_142) ?_
    show Steps p.tables e below (T26.setTop (mkF m 144 #[.val (.long q1), .second, .val (.int p2), .val (.int p3), .val (.int p4), .val (.int p5), .val (.int p6), .val (.ref b7), .val (.long (q1 &&& (9223372036854775807 : Int64))), .second, .unset, .unset, .unset, .unset, .unset, .unset, .unset, .unset, .unset, .unset] [(.int (20 : Int32)), (.int (p2 &&& (2147483647 : Int32)))])) _
    refine iremM X26 hx rfl (hb hby at_144) rfl (by decide) ?_
    show Steps p.tables e below (T26.setTop (mkF m 145 #[.val (.long q1), .second, .val (.int p2), .val (.int p3), .val (.int p4), .val (.int p5), .val (.int p6), .val (.ref b7), .val (.long (q1 &&& (9223372036854775807 : Int64))), .second, .unset, .unset, .unset, .unset, .unset, .unset, .unset, .unset, .unset, .unset] [(.int ((p2 &&& (2147483647 : Int32)) % (20 : Int32)))])) _
    refine XS.istore X26.here hx rfl (hb hby at_145) rfl (l' := #[.val (.long q1), .second, .val (.int p2), .val (.int p3), .val (.int p4), .val (.int p5), .val (.int p6), .val (.ref b7), .val (.long (q1 &&& (9223372036854775807 : Int64))), .second, .val (.int ((p2 &&& (2147483647 : Int32)) % (20 : Int32))), .unset, .unset, .unset, .unset, .unset, .unset, .unset, .unset, .unset]) rfl ?_
    show Steps p.tables e below (T26.setTop (mkF m 147 #[.val (.long q1), .second, .val (.int p2), .val (.int p3), .val (.int p4), .val (.int p5), .val (.int p6), .val (.ref b7), .val (.long (q1 &&& (9223372036854775807 : Int64))), .second, .val (.int ((p2 &&& (2147483647 : Int32)) % (20 : Int32))), .unset, .unset, .unset, .unset, .unset, .unset, .unset, .unset, .unset] [])) _
    refine XS.iloadN X26.here hx rfl (hb hby at_147) rfl ?_
    show Steps p.tables e below (T26.setTop (mkF m 148 #[.val (.long q1), .second, .val (.int p2), .val (.int p3), .val (.int p4), .val (.int p5), .val (.int p6), .val (.ref b7), .val (.long (q1 &&& (9223372036854775807 : Int64))), .second, .val (.int ((p2 &&& (2147483647 : Int32)) % (20 : Int32))), .unset, .unset, .unset, .unset, .unset, .unset, .unset, .unset, .unset] [(.int p3)])) _
    refine X26.ldcInt hx hown (mvT hZ (hw _ (List.mem_of_getElem? (i := 20) rfl))) (g := (mkF m 148 #[.val (.long q1), .second, .val (.int p2), .val (.int p3), .val (.int p4), .val (.int p5), .val (.int p6), .val (.ref b7), .val (.long (q1 &&& (9223372036854775807 : Int64))), .second, .val (.int ((p2 &&& (2147483647 : Int32)) % (20 : Int32))), .unset, .unset, .unset, .unset, .unset, .unset, .unset, .unset, .unset] [(.int p3)])) rfl (hb hby at_148) _ ?_
    show Steps p.tables e below (T26.setTop (mkF m 150 #[.val (.long q1), .second, .val (.int p2), .val (.int p3), .val (.int p4), .val (.int p5), .val (.int p6), .val (.ref b7), .val (.long (q1 &&& (9223372036854775807 : Int64))), .second, .val (.int ((p2 &&& (2147483647 : Int32)) % (20 : Int32))), .unset, .unset, .unset, .unset, .unset, .unset, .unset, .unset, .unset] [(.int (2147483647 : Int32)), (.int p3)])) _
    refine XS.iand X26.here hx rfl (hb hby at_150) rfl ?_
    show Steps p.tables e below (T26.setTop (mkF m 151 #[.val (.long q1), .second, .val (.int p2), .val (.int p3), .val (.int p4), .val (.int p5), .val (.int p6), .val (.ref b7), .val (.long (q1 &&& (9223372036854775807 : Int64))), .second, .val (.int ((p2 &&& (2147483647 : Int32)) % (20 : Int32))), .unset, .unset, .unset, .unset, .unset, .unset, .unset, .unset, .unset] [(.int (p3 &&& (2147483647 : Int32)))])) _
    refine XS.iconst X26.here hx rfl (hb hby at_151) ?_
    show Steps p.tables e below (T26.setTop (mkF m 152 #[.val (.long q1), .second, .val (.int p2), .val (.int p3), .val (.int p4), .val (.int p5), .val (.int p6), .val (.ref b7), .val (.long (q1 &&& (9223372036854775807 : Int64))), .second, .val (.int ((p2 &&& (2147483647 : Int32)) % (20 : Int32))), .unset, .unset, .unset, .unset, .unset, .unset, .unset, .unset, .unset] [(.int (2 : Int32)), (.int (p3 &&& (2147483647 : Int32)))])) _
    refine iremM X26 hx rfl (hb hby at_152) rfl (by decide) ?_
    show Steps p.tables e below (T26.setTop (mkF m 153 #[.val (.long q1), .second, .val (.int p2), .val (.int p3), .val (.int p4), .val (.int p5), .val (.int p6), .val (.ref b7), .val (.long (q1 &&& (9223372036854775807 : Int64))), .second, .val (.int ((p2 &&& (2147483647 : Int32)) % (20 : Int32))), .unset, .unset, .unset, .unset, .unset, .unset, .unset, .unset, .unset] [(.int ((p3 &&& (2147483647 : Int32)) % (2 : Int32)))])) _
    refine XS.istore X26.here hx rfl (hb hby at_153) rfl (l' := #[.val (.long q1), .second, .val (.int p2), .val (.int p3), .val (.int p4), .val (.int p5), .val (.int p6), .val (.ref b7), .val (.long (q1 &&& (9223372036854775807 : Int64))), .second, .val (.int ((p2 &&& (2147483647 : Int32)) % (20 : Int32))), .val (.int ((p3 &&& (2147483647 : Int32)) % (2 : Int32))), .unset, .unset, .unset, .unset, .unset, .unset, .unset, .unset]) rfl ?_
    show Steps p.tables e below (T26.setTop (mkF m 155 #[.val (.long q1), .second, .val (.int p2), .val (.int p3), .val (.int p4), .val (.int p5), .val (.int p6), .val (.ref b7), .val (.long (q1 &&& (9223372036854775807 : Int64))), .second, .val (.int ((p2 &&& (2147483647 : Int32)) % (20 : Int32))), .val (.int ((p3 &&& (2147483647 : Int32)) % (2 : Int32))), .unset, .unset, .unset, .unset, .unset, .unset, .unset, .unset] [])) _
    rw [eL, eO]
    refine seg2 _ _ _ _ _ _ _ _ _ _ _ _ _ _ _ _ _ _ _ _ X26 hx hZ hw hby hml hown e26 One.u _ ?_
    refine seg3 _ _ _ _ _ _ _ _ _ _ _ _ _ _ _ _ _ _ _ _ X26 hx hZ hw hby hml hown e26 One.u _ ?_
    refine seg4 _ _ _ _ _ _ _ _ _ _ _ _ _ _ _ _ _ _ _ _ X26 hx hZ hw hby hml hown e26 One.u One.u One.u _ ?_
    refine st27 _ ?_
    refine stc0 _ ?_
    refine stc1 _ ?_
    refine stc2 _ ?_
    refine stc3 _ ?_
    refine stc4 _ ?_
    refine stc5 _ ?_
    refine stc6 _ ?_
    refine stc7 _ ?_
    refine stc8 _ ?_
    refine stc9 _ ?_
    refine stc10 _ ?_
    refine stc11 _ ?_
    refine stc12 _ ?_
    refine stc13 _ ?_
    refine stc14 _ ?_
    refine stc15 _ ?_
    refine stc16 _ ?_
    refine stc17 _ ?_
    refine stc18 _ ?_
    refine stc19 _ ?_
    refine stc20 _ ?_
    refine seg6 _ _ _ _ _ _ _ _ _ _ _ _ _ _ _ _ _ k7 Xc20 hx hZ hw hby hml hown ec20 Pc20 (own_lt0 (by omega)) h19 _ ?_
    refine stw _ ?_
    refine XS.iconst Xw.here hx rfl (hb hby at_819) ?_
    show Steps p.tables e below (Tw.setTop (mkF m 820 #[.val (.long q1), .second, .val (.int p2), .val (.int p3), .val (.int p4), .val (.int p5), .val (.int p6), .val (.ref b7), .val (.long (q1 &&& (9223372036854775807 : Int64))), .second, .val (.int (Int32.ofNat nn)), .val (.int (Int32.ofNat oo)), .val (.int (own_bad p4 (Int32.ofNat nn))), .val (.int (own_pos p4 (Int32.ofNat nn))), .val (.int (own_r p5)), .val (.int ((own_r p5).toInt8.toInt32)), .val (.int (p6.toInt8.toInt32)), .val (.ref b17), .val (.long (own_exp (q1 &&& (9223372036854775807 : Int64)) (Int32.ofNat nn) (own_bad p4 (Int32.ofNat nn)))), .second] [(.int (1 : Int32))])) _
    refine XS.goto Xw.here hx rfl (pc0 := 820) (pc' := 824) rfl (hb hby at_820) (by decide) (by decide) ?_
    show Steps p.tables e below (Tw.setTop (mkF m 824 #[.val (.long q1), .second, .val (.int p2), .val (.int p3), .val (.int p4), .val (.int p5), .val (.int p6), .val (.ref b7), .val (.long (q1 &&& (9223372036854775807 : Int64))), .second, .val (.int (Int32.ofNat nn)), .val (.int (Int32.ofNat oo)), .val (.int (own_bad p4 (Int32.ofNat nn))), .val (.int (own_pos p4 (Int32.ofNat nn))), .val (.int (own_r p5)), .val (.int ((own_r p5).toInt8.toInt32)), .val (.int (p6.toInt8.toInt32)), .val (.ref b17), .val (.long (own_exp (q1 &&& (9223372036854775807 : Int64)) (Int32.ofNat nn) (own_bad p4 (Int32.ofNat nn)))), .second] [(.int (1 : Int32))])) _
    exact retN Xw hx (t := .boolean) Bd.returns (by simp) (hb hby at_824) hr
  · exact ⟨rfl, Nw⟩
set_option maxRecDepth 65536 in
set_option maxHeartbeats 40000000 in
theorem comes_1 {Post : Tables → Env → Array Value → State → Outcome → State → Prop} (hpost : ∀ tb e args s v u, (limb_1_1.after args s (.returned v) u = true ∧ limb_1_2.after args s (.returned v) u = true ∧ True) → FrameEnd s (.returned v) u (Jvm.fieldLocs frame_1_writes args s ++ Jvm.arrayLocs frame_1_arrays args s ++ Jvm.staticLocs frame_1_statics s) 16 192 → Post tb e args s (.returned v) u) :
    ArmFor flags0 classFile x code maxLocals ret World_1 tables_1 room_1 Calls_1 rest_1 Pre_1 Post := by
  intro l hfl _ _ p e ha hc hk s m args below hf hA hF happ hP
  obtain ⟨hcalls, hrest, hpre⟩ := hP
  obtain ⟨-, -, -, hnamed, -, -, -, hat⟩ := (Spec.applies_iff hf).mp happ
  obtain ⟨hg, hn⟩ := and_e (Cond.before_iff.mp (show (Jvm.Cond.and given_1 narrow_1).before args s = true from hpre))
  obtain ⟨g71, g72⟩ := and_e hg
  obtain ⟨g73, g74⟩ := and_e g72
  obtain ⟨g75, g76⟩ := and_e g74
  obtain ⟨g77, g78⟩ := and_e g76
  obtain ⟨g79, g80⟩ := and_e g78
  obtain ⟨g81, g82⟩ := and_e g80
  obtain ⟨w0, w1, w2, w3, w4, w5, rfl⟩ : ∃ w0 w1 w2 w3 w4 w5 : Value, args = #[w0, w1, w2, w3, w4, w5] := by
    have hs : args.size = 6 := by simpa [Cond.value, given_1] using g71
    obtain ⟨L⟩ := args
    match L, hs with
    | [w0, w1, w2, w3, w4, w5], _ => exact ⟨w0, w1, w2, w3, w4, w5, rfl⟩
  have hw := fun d (hd : d ∈ tables_1) => atoms_spec (ws := Jvm.Cond.code x code maxLocals ret :: tables_1) hat d (List.mem_cons_of_mem _ hd)
  have hfit : Fit s := fun {y c} hc i hi => by
    obtain ⟨ha, rfl⟩ := Array.getElem?_eq_some_iff.mp hc
    have q := List.all_eq_true.mp ((Array.all_eq_true_iff_forall_mem.mp hF) _ (Array.getElem_mem ha)) i (List.mem_range.mpr hi)
    simpa [Array.getElem?_eq_getElem hi] using q
  obtain ⟨i0, ei0⟩ := isL_v g73
  obtain rfl : w0 = (.long i0) := Option.some.inj ei0
  obtain ⟨i1, ei1⟩ := is_v g75
  obtain rfl : w1 = (.int i1) := Option.some.inj ei1
  obtain ⟨i2, ei2⟩ := is_v g77
  obtain rfl : w2 = (.int i2) := Option.some.inj ei2
  obtain ⟨i3, ei3⟩ := is_v g79
  obtain rfl : w3 = (.int i3) := Option.some.inj ei3
  obtain ⟨i4, ei4⟩ := is_v g81
  obtain rfl : w4 = (.int i4) := Option.some.inj ei4
  obtain ⟨i5, ei5⟩ := is_v g82
  obtain rfl : w5 = (.int i5) := Option.some.inj ei5
  obtain ⟨n, o, h1, h2, h3, _, L, rfl, ⟨rfl, N⟩, hq⟩ := rm0 l s _ hw tables_1 i0 i1 i2 i3 i4 i5 s.heap s.heap.size (Nat.le_refl _) p e ha hc hk s m _ below hf ((Spec.applies_iff_loose hf).mp happ).1 ⟨rfl, State.Warmed39.refl s, rfl⟩ trivial
  refine ⟨n, _, h1, h2, h3, hpost _ _ _ _ _ _ ⟨Cond.after_iff.mpr rfl, Cond.after_iff.mpr (eq_i res_at (Term.int_eval (1)) rfl), trivial⟩ ⟨hq.1, hq.2.1, (hq.2.2.sift fun y hy => Or.inr (N y hy)).mono (by decide) (by decide)⟩⟩
theorem main_1_1 : Claimed_1_1 := comes_1 fun _ _ _ _ _ _ h hF => ⟨h.1, hF⟩
theorem main_1_2 : Claimed_1_2 := comes_1 fun _ _ _ _ _ _ h hF => ⟨h.2.1, hF⟩

end Jvm.Pilot.@@N@@
namespace Jvm.Pilot.@@N@@
open Jvm Jvm.ClassFile Sem Op Lib Jvm.Free Jvm.Stand Jvm.Pilot.@@N@@.Jvm.D
/-! MADE BY PROGRAM (witnessworld.py) out of the Statement's table words and the real class files: 11 classes; the members and pool entries that the words name. The judged class is class 1, her method 1. -/
namespace start1
open Jvm.ClassFile
def u (s : String) : CpInfo := .utf8 (stringToUtf16 s)
/-- a pool by its gaps: so many unusable entries, then the entry; so many at the end -/
def gap : Nat → List CpInfo → List CpInfo
  | 0, r => r
  | n + 1, r => .unusable :: gap n r
def poolList (es : List (Nat × CpInfo)) (last : Nat) : List CpInfo := es.foldr (fun e r => gap e.1 (e.2 :: r)) (gap last [])
def pool (es : List (Nat × CpInfo)) (last : Nat) : Array CpInfo := ⟨poolList es last⟩
def fileOf (pool : Array CpInfo) (this : Nat) (attrs : Array Attribute := #[]) (ms : Array MethodInfo := #[]) (fl : Nat := 33) (sup : Nat := 0) (ifs : Array Nat := #[]) (fds : Array FieldInfo := #[]) : ClassFile where
  minorVersion := 0
  majorVersion := 65
  constantPool := pool
  accessFlags := fl
  thisClass := this
  superClass := sup
  interfaces := ifs
  fields := fds
  methods := ms
  attributes := attrs
def plain (name : String) (sup : Option ClassId) : Class where
  name := name
  kind := .ordinary
  loader := none
  accessFlags := 33
  super := sup
  interfaces := #[]
  cf := none
  fields := #[]
  methods := #[]
  instanceTypes := #[]
  staticTypes := #[]
  resolved := #[]
  callSites := []
  init := .initialized
  statics := none
  mirror := none

def pool0 : Array CpInfo := pool [(5, u "<init>"), (0, u "()V"), (1, .class_ 10), (1, u "java/lang/Object")] 113

def k0m0 : Method := { name := "<init>", desc := "()V", sig := { parameters := [], returnType := none }, accessFlags := 1, code := none }
/-- java/lang/Object -/
def k0 : Class := { plain "java/lang/Object" none with
  accessFlags := 33
  interfaces := #[]
  cf := some (fileOf pool0 8 #[] #[{ accessFlags := 1, nameIndex := 5, descriptorIndex := 6, attributes := #[] }] 33 0 #[] #[])
  fields := #[]
  methods := #[k0m0]
  instanceTypes := #[]
  staticTypes := #[]
  resolved := Array.replicate 124 none
  statics := none }

def pool1 : Array CpInfo := pool [(2, .class_ 4), (1, u "java/lang/Object"), (0, u "<init>"), (0, u "()V"), (0, .long 10), (1, .long 100), (1, .long 1000), (1, .long 10000), (1, .long 100000), (1, .long 1000000), (1, .long 10000000), (1, .long 100000000), (1, .long 1000000000), (1, .long 10000000000), (1, .long 100000000000), (1, .long 1000000000000), (1, .long 10000000000000), (1, .long 100000000000000), (1, .long 1000000000000000), (1, .long 10000000000000000), (1, .long 100000000000000000), (1, .long 1000000000000000000), (3, .long 9223372036854775807), (1, .integer 2147483647), (0, .methodref 49 50), (0, .class_ 51), (0, .nameAndType 52 53), (0, u "quotewarden/NumbersWholeNumberPinLaw"), (0, u "cell"), (0, u "(IIIJIZBB[J)B"), (0, .long 18446744073709551615), (1, .methodref 57 58), (0, .class_ 59), (0, .nameAndType 60 61), (0, u "quotewarden/Numbers"), (0, u "wholeNumber"), (0, u "([BII)J"), (0, .long 48), (3, u "law"), (0, u "(JIIIII)Z")] 7

def k1m0 : Method := { name := "<init>", desc := "()V", sig := { parameters := [], returnType := none }, accessFlags := 2, code := none }
def k1c1 : Code := { maxStack := 12, maxLocals := 20, code := code, exceptionTable := #[], attributes := #[] }
def k1m1 : Method := { name := "law", desc := "(JIIIII)Z", sig := { parameters := [.long, .int, .int, .int, .int, .int], returnType := some .boolean }, accessFlags := 9, code := some k1c1 }
def k1c2 : Code := { maxStack := 5, maxLocals := 13, code := method_3_code, exceptionTable := #[], attributes := #[] }
def k1m2 : Method := { name := "cell", desc := "(IIIJIZBB[J)B", sig := { parameters := [.int, .int, .int, .long, .int, .boolean, .byte, .byte, (.array .long)], returnType := some .byte }, accessFlags := 10, code := some k1c2 }
/-- quotewarden/NumbersWholeNumberPinLaw -/
def k1 : Class := { plain "quotewarden/NumbersWholeNumberPinLaw" (some 0) with
  accessFlags := 49
  interfaces := #[]
  cf := some (fileOf pool1 49 #[] #[{ accessFlags := 2, nameIndex := 5, descriptorIndex := 6, attributes := #[] }, { accessFlags := 9, nameIndex := 66, descriptorIndex := 67, attributes := #[] }, { accessFlags := 10, nameIndex := 52, descriptorIndex := 53, attributes := #[] }] 49 2 #[] #[])
  fields := #[]
  methods := #[k1m0, k1m1, k1m2]
  instanceTypes := #[]
  staticTypes := #[]
  resolved := Array.replicate 75 none
  statics := none }

def pool2 : Array CpInfo := pool [(2, .class_ 4), (1, u "java/lang/Object"), (0, u "<init>"), (0, u "()V"), (0, .methodref 8 9), (0, .class_ 10), (0, .nameAndType 11 12), (0, u "quotewarden/Numbers"), (0, u "isDigits"), (0, u "([BII)Z"), (16, .methodref 8 30), (0, .nameAndType 31 32), (0, u "digits"), (0, u "([BII)J"), (8, .long 18446744073709551615), (1, .long 10), (1, .long 48), (1, u "DECIMAL"), (0, u "Ljava/lang/String;"), (3, u "WHOLE_NUMBER"), (2, u "LONG_DIGITS"), (0, u "I"), (6, u "wholeNumber")] 2

def k2m0 : Method := { name := "<init>", desc := "()V", sig := { parameters := [], returnType := none }, accessFlags := 2, code := none }
def k2c1 : Code := { maxStack := 3, maxLocals := 3, code := prog_28_method_3_code, exceptionTable := #[], attributes := #[] }
def k2m1 : Method := { name := "wholeNumber", desc := "([BII)J", sig := { parameters := [(.array .byte), .int, .int], returnType := some .long }, accessFlags := 8, code := some k2c1 }
def k2c2 : Code := { maxStack := 2, maxLocals := 4, code := prog_28_method_4_code, exceptionTable := #[], attributes := #[] }
def k2m2 : Method := { name := "isDigits", desc := "([BII)Z", sig := { parameters := [(.array .byte), .int, .int], returnType := some .boolean }, accessFlags := 10, code := some k2c2 }
def k2c3 : Code := { maxStack := 4, maxLocals := 6, code := prog_28_method_5_code, exceptionTable := #[], attributes := #[] }
def k2m3 : Method := { name := "digits", desc := "([BII)J", sig := { parameters := [(.array .byte), .int, .int], returnType := some .long }, accessFlags := 10, code := some k2c3 }
/-- quotewarden/Numbers -/
def k2 : Class := { plain "quotewarden/Numbers" (some 0) with
  accessFlags := 48
  interfaces := #[]
  cf := some (fileOf pool2 8 #[] #[{ accessFlags := 2, nameIndex := 5, descriptorIndex := 6, attributes := #[] }, { accessFlags := 8, nameIndex := 63, descriptorIndex := 32, attributes := #[] }, { accessFlags := 10, nameIndex := 11, descriptorIndex := 12, attributes := #[] }, { accessFlags := 10, nameIndex := 31, descriptorIndex := 32, attributes := #[] }] 48 2 #[] #[{ accessFlags := 24, nameIndex := 47, descriptorIndex := 48, attributes := #[] }, { accessFlags := 24, nameIndex := 52, descriptorIndex := 48, attributes := #[] }, { accessFlags := 26, nameIndex := 55, descriptorIndex := 56, attributes := #[] }])
  fields := #[{ name := "DECIMAL", type := (.object "java/lang/String"), accessFlags := 24, slot := 0, constantValue := 0 }, { name := "WHOLE_NUMBER", type := (.object "java/lang/String"), accessFlags := 24, slot := 1, constantValue := 0 }, { name := "LONG_DIGITS", type := .int, accessFlags := 26, slot := 2, constantValue := 0 }]
  methods := #[k2m0, k2m1, k2m2, k2m3]
  instanceTypes := #[]
  staticTypes := #[(.object "java/lang/String"), (.object "java/lang/String"), .int]
  resolved := Array.replicate 66 none
  statics := none }

def pool3 : Array CpInfo := pool [(1, u "java/lang/Cloneable"), (0, .class_ 1), (0, u "java/lang/Object"), (0, .class_ 3)] 3

/-- java/lang/Cloneable -/
def k3 : Class := { plain "java/lang/Cloneable" (some 0) with
  accessFlags := 1537
  interfaces := #[]
  cf := some (fileOf pool3 2 #[] #[] 1537 4 #[] #[])
  fields := #[]
  methods := #[]
  instanceTypes := #[]
  staticTypes := #[]
  resolved := Array.replicate 8 none
  statics := none }

def pool4 : Array CpInfo := pool [(1, u "java/io/Serializable"), (0, .class_ 1), (0, u "java/lang/Object"), (0, .class_ 3)] 3

/-- java/io/Serializable -/
def k4 : Class := { plain "java/io/Serializable" (some 0) with
  accessFlags := 1537
  interfaces := #[]
  cf := some (fileOf pool4 2 #[] #[] 1537 4 #[] #[])
  fields := #[]
  methods := #[]
  instanceTypes := #[]
  staticTypes := #[]
  resolved := Array.replicate 8 none
  statics := none }

/-- the primitive byte -/
def k5 : Class := { plain "byte" none with kind := .primitive 'B', accessFlags := 0x411 }
/-- [B -/
def k6 : Class := { plain "[B" (some 0) with kind := .array 5 .byte, interfaces := #[3, 4], accessFlags := 1041 }

/-- the primitive int -/
def k7 : Class := { plain "int" none with kind := .primitive 'I', accessFlags := 0x411 }
/-- [I -/
def k8 : Class := { plain "[I" (some 0) with kind := .array 7 .int, interfaces := #[3, 4], accessFlags := 1041 }

/-- the primitive long -/
def k9 : Class := { plain "long" none with kind := .primitive 'J', accessFlags := 0x411 }
/-- [J -/
def k10 : Class := { plain "[J" (some 0) with kind := .array 9 .long, interfaces := #[3, 4], accessFlags := 1041 }

def heap : Heap := #[]
def classes : Array Class := #[k0, k1, k2, k3, k4, k5, k6, k7, k8, k9, k10]
def interned : List (Array UInt16 × Addr) := []
def slotsUsed : Nat := 0
def theMethod : MethodId := ⟨1, 1⟩
def args0 : Array Value := #[.long 12345, .int 3, .int 1, .int 0, .int 7, .int 8]
def aboutOver (below : List Frame) : State where
  vm := { classes := classes, interned := interned.toArray }
  heap := heap
  slotsUsed := slotsUsed
  threads := #[{ frames := .invoking theMethod args0 :: below }]
def below0 : List Frame := [.native { method := ⟨0, 0⟩, args := #[] }]
def about1 : State := aboutOver below0
def p0 : Program := .bare "" "" ""
def e0 : Env := launch0.env 0 0 0
theorem w_frames : about1.frames = Frame.invoking theMethod args0 :: below0 := rfl
set_option maxRecDepth 65536 in
theorem w_args : argsFit about1.vm theMethod args0 = true := by decide +kernel
set_option maxRecDepth 65536 in
theorem w_heap : heapFits about1 = true := by decide +kernel
set_option maxRecDepth 65536 in
theorem w_runnable : about1.curStatus? = some .runnable := by decide +kernel
set_option maxRecDepth 65536 in
theorem w_alone : about1.alone = true := by decide +kernel
set_option maxRecDepth 65536 in
theorem w_named : about1.methodNamed? x = some theMethod := by decide +kernel
set_option maxRecDepth 65536 in
theorem w_hears : about1.hears theMethod below0 = true := by decide +kernel
set_option maxRecDepth 65536 in
theorem w_ripe : about1.ripe theMethod args0 below0 = true := by decide +kernel
theorem w_running : about1.status = .running := rfl
set_option maxRecDepth 65536 in
theorem w_room : about1.hasRoom e0.platform room_1 = true :=
  launch0.hasRoom_least _ room_1 (by decide +kernel) (by decide +kernel) (by decide +kernel) (by decide +kernel) (by decide +kernel) (by decide +kernel)
theorem allAtoms_all (ts : List Jvm.Cond) (a : Array Jvm.Value) (st : Jvm.State) : (allAtoms ts).before a st = ts.all (fun c => c.before a st) := by
  induction ts with
  | nil => rfl
  | cons c t ih =>
    show (Jvm.Cond.and c (allAtoms t)).before a st = _
    rw [Jvm.Cond.before_and, ih, List.all_cons]
def words1 : List Jvm.Cond := Jvm.Cond.code x code maxLocals ret :: tables_1
/-- a 'code' word, met by the world's own term for the bytes: nothing is compared byte by byte -/
theorem code_word {y : MethodName} {bytes : ByteArray} {mx : Nat} {rt : Option FieldType} {a : Array Value} {s : State} {m : MethodId} {meth : Method} {c : Code} (h1 : s.methodNamed? y = some m) (h2 : s.vm.method? m = some meth) (h3 : meth.code = some c) (h4 : c.code = bytes)
    (h5 : (c.maxLocals == mx && c.exceptionTable.isEmpty && decide (c.maxStack ≤ mostOperands) && decide (meth.sig.returnType = rt) && !meth.locks && decide (parseMethodDescriptor y.desc = some meth.sig)) = true) : (Jvm.Cond.code y bytes mx rt).before a s = true := by
  simp only [Bool.and_eq_true, beq_iff_eq, Bool.not_eq_true', decide_eq_true_eq] at h5
  obtain ⟨⟨⟨⟨⟨g1, g2⟩, g3⟩, g4⟩, g5⟩, g6⟩ := h5
  simp [Cond.before, Cond.holds, Cond.value, h1, h2, h3, h4, g1, g2, g3, g4, g5, g6]
def isCode : Jvm.Cond → Bool
  | .code _ _ _ _ => true
  | _ => false
theorem all_split {L : List Jvm.Cond} {P : Jvm.Cond → Bool} (h1 : L.all (fun c => isCode c || P c) = true) (h2 : ∀ c ∈ L.filter isCode, P c = true) : L.all P = true := by
  refine List.all_eq_true.mpr fun c hc => ?_
  have h := List.all_eq_true.mp h1 c hc
  rcases Bool.eq_false_or_eq_true (isCode c) with hi | hi
  · exact h2 c (List.mem_filter.mpr ⟨hc, hi⟩)
  · simpa [hi] using h
set_option maxRecDepth 65536 in
theorem w_c0 : (Jvm.Cond.code x code maxLocals ret).before args0 about1 = true := code_word (m := ⟨1, 1⟩) (meth := k1m1) (c := k1c1) (by decide +kernel) rfl rfl rfl (by decide +kernel)
set_option maxRecDepth 65536 in
theorem w_c1 : (Jvm.Cond.code ({ cls := "quotewarden/NumbersWholeNumberPinLaw", name := "cell", desc := "(IIIJIZBB[J)B" } : Jvm.MethodName) method_3_code (13 : Nat) (Option.some Jvm.ClassFile.FieldType.byte)).before args0 about1 = true := code_word (m := ⟨1, 2⟩) (meth := k1m2) (c := k1c2) (by decide +kernel) rfl rfl rfl (by decide +kernel)
set_option maxRecDepth 65536 in
theorem w_c2 : (Jvm.Cond.code ({ cls := "quotewarden/Numbers", name := "wholeNumber", desc := "([BII)J" } : Jvm.MethodName) prog_28_method_3_code (3 : Nat) (Option.some Jvm.ClassFile.FieldType.long)).before args0 about1 = true := code_word (m := ⟨2, 1⟩) (meth := k2m1) (c := k2c1) (by decide +kernel) rfl rfl rfl (by decide +kernel)
set_option maxRecDepth 65536 in
theorem w_c3 : (Jvm.Cond.code ({ cls := "quotewarden/Numbers", name := "isDigits", desc := "([BII)Z" } : Jvm.MethodName) prog_28_method_4_code (4 : Nat) (Option.some Jvm.ClassFile.FieldType.boolean)).before args0 about1 = true := code_word (m := ⟨2, 2⟩) (meth := k2m2) (c := k2c2) (by decide +kernel) rfl rfl rfl (by decide +kernel)
set_option maxRecDepth 65536 in
theorem w_c4 : (Jvm.Cond.code ({ cls := "quotewarden/Numbers", name := "digits", desc := "([BII)J" } : Jvm.MethodName) prog_28_method_5_code (6 : Nat) (Option.some Jvm.ClassFile.FieldType.long)).before args0 about1 = true := code_word (m := ⟨2, 3⟩) (meth := k2m3) (c := k2c3) (by decide +kernel) rfl rfl rfl (by decide +kernel)
def codes1 : List Jvm.Cond := [Jvm.Cond.code x code maxLocals ret, Jvm.Cond.code ({ cls := "quotewarden/NumbersWholeNumberPinLaw", name := "cell", desc := "(IIIJIZBB[J)B" } : Jvm.MethodName) method_3_code (13 : Nat) (Option.some Jvm.ClassFile.FieldType.byte), Jvm.Cond.code ({ cls := "quotewarden/Numbers", name := "wholeNumber", desc := "([BII)J" } : Jvm.MethodName) prog_28_method_3_code (3 : Nat) (Option.some Jvm.ClassFile.FieldType.long), Jvm.Cond.code ({ cls := "quotewarden/Numbers", name := "isDigits", desc := "([BII)Z" } : Jvm.MethodName) prog_28_method_4_code (4 : Nat) (Option.some Jvm.ClassFile.FieldType.boolean), Jvm.Cond.code ({ cls := "quotewarden/Numbers", name := "digits", desc := "([BII)J" } : Jvm.MethodName) prog_28_method_5_code (6 : Nat) (Option.some Jvm.ClassFile.FieldType.long)]
set_option maxRecDepth 65536 in
theorem codes_eq : words1.filter isCode = codes1 := rfl
theorem w_codes : ∀ c ∈ words1.filter isCode, c.before args0 about1 = true := by
  rw [codes_eq]
  intro c hc
  simp only [codes1, List.mem_cons, List.not_mem_nil, or_false] at hc
  rcases hc with rfl | rfl | rfl | rfl | rfl
  · exact w_c0
  · exact w_c1
  · exact w_c2
  · exact w_c3
  · exact w_c4
set_option maxRecDepth 65536 in
theorem w_t1 : (words1.take 24).all (fun c => isCode c || c.before args0 about1) = true := by decide +kernel
set_option maxRecDepth 65536 in
theorem w_t2 : (words1.drop 24).all (fun c => isCode c || c.before args0 about1) = true := by decide +kernel
theorem w_tables : (allAtoms (Jvm.Cond.code x code maxLocals ret :: tables_1)).before args0 about1 = true := by
  rw [allAtoms_all]
  show words1.all (fun c => c.before args0 about1) = true
  refine all_split ?_ w_codes
  rw [← List.take_append_drop 24 words1, List.all_append, w_t1, w_t2]
  rfl
set_option maxRecDepth 65536 in
theorem w_case : (Jvm.Cond.and given_1 narrow_1).before args0 about1 = true := by decide +kernel
theorem w_applies : (headSpec (Jvm.Cond.code x code maxLocals ret :: tables_1) room_1).applies x e0.platform about1 = true :=
  (Spec.applies_iff w_frames).mpr ⟨w_running, w_runnable, w_alone, w_named, w_hears, w_ripe, w_room, w_tables⟩
theorem atStart : AtStart classFile x code maxLocals ret World_1 tables_1 room_1 Calls_1 rest_1 Pre_1 launch0 p0 e0 about1 theMethod args0 below0 :=
  ⟨lists_1, trivial, launch0.admits_env _ _ _, launch0.least_env, fairChoices_fair.cas, fairChoices_fair.clock, w_frames, w_args, w_heap, w_applies, trivial, trivial, w_case⟩
end start1
theorem witness_1 : WitnessClaimed_1 := ⟨start1.p0, start1.e0, start1.about1, start1.theMethod, start1.args0, start1.below0, start1.atStart⟩
end Jvm.Pilot.@@N@@
