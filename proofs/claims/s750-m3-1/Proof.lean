import JvmDerived
import JvmDerived.Pilot.@@N@@Statement
import JvmDerived.Pilot.@@N@@Code
set_option linter.unusedVariables false
set_option linter.unusedSimpArgs false
@@BLOCK:NumsL.lean.txt@@
namespace Jvm.Pilot.@@N@@
open Jvm Jvm.ClassFile Sem Op Lib Jvm.Free Jvm.Stand Jvm.LawKit Jvm.RoadKit Bundle Jvm.Pilot.@@N@@.Jvm.D
section Own
variable {p : Program} {l : Launch} {e : Env} {R : Room} {s : State} {m : MethodId} {args : Array Value} {below : List Frame} {meth : Method} {c : Code} {T : State} {locs : List Loc} {cells slots : Nat}
theorem own_ireturn (X : Stand p l e R s m args below meth c T locs cells slots) (hx : p.tables.exec = Jvm.exec) {pc : Nat} {Ls : Array Slot} {z : Int32} {rest : List Value} (hret : meth.sig.returnType = some .int) (hd : decode c.code pc = .ok (.ireturn, 1)) {fs : List Frame}
    (hl : ∀ (f : JFrame) (acts : List Action), f.method = m → f.locked = none → f.entered = [] → (doReturn e (T.setTop f) acts (some (.int z))).1 = T.setFrames fs) : Steps p.tables e below (T.setTop (mkF m pc Ls (.int z :: rest))) (T.setFrames fs) := by
  have hm' : T.vm.method? m = some meth := X.method'
  have hn : narrow .int (.int z) = .int z := rfl
  show Steps p.tables e below (T.setTop { method := m, pc := pc, locals := Ls, stack := _ :: rest, locked := none }) _
  jvm_step X.here [X.here.top, hx, hd, hm', hret, hn]
  first | (intro acts; rw [hl _ acts rfl rfl rfl]) | rw [hl _ _ rfl rfl rfl]
  exact Steps.refl _
theorem own_more (X : Stand p l e R s m args below meth c T locs cells slots) {k n : Nat} (h1 : cells ≤ k) (h2 : slots ≤ n) : Stand p l e R s m args below meth c T locs k n := { X with same := X.same.mono h1 h2 }
theorem own_retV (X : Stand p l e R s m args below meth c T locs cells slots) (hx : p.tables.exec = Jvm.exec) (hlk : meth.locks = false) (hret : meth.sig.returnType = none) {pc : Nat} {Ls : Array Slot} (hd : decode c.code pc = .ok (.return_, 1)) {base : State}
    (pre : ∀ t, Steps p.tables e below (T.setTop (mkF m pc Ls [])) t → Steps p.tables e below base t) {Q : Option Value → Heap → List Loc → Prop} (hQ : Q none T.heap locs) {k n : Nat} (h1 : cells ≤ k) (h2 : slots ≤ n) :
    ∃ s₂ o, Steps p.tables e below base s₂ ∧ s₂.status = .running ∧ Ended s₂ below o ∧ ∃ v L, o = .returned v ∧ Q v s₂.heap L ∧ FrameEnd s o s₂ L k n := by
  obtain ⟨fs, hr, hrun, hended, hW, hsame⟩ := X.leave (v := none) (fun _ => rfl)
  exact ⟨_, _, pre _ (X.returnOut hx hret hd hr), hrun, hended, _, _, rfl, hQ, ⟨_, rfl⟩, hW, hsame.mono h1 h2⟩
theorem own_retI (X : Stand p l e R s m args below meth c T locs cells slots) (hx : p.tables.exec = Jvm.exec) (hlk : meth.locks = false) (hret : meth.sig.returnType = some .int) {pc : Nat} {Ls : Array Slot} {z : Int32} {rest : List Value} (hd : decode c.code pc = .ok (.ireturn, 1)) {base : State}
    (pre : ∀ t, Steps p.tables e below (T.setTop (mkF m pc Ls (.int z :: rest))) t → Steps p.tables e below base t) {Q : Option Value → Heap → List Loc → Prop} (hQ : Q (some (.int z)) T.heap locs) {k n : Nat} (h1 : cells ≤ k) (h2 : slots ≤ n) :
    ∃ s₂ o, Steps p.tables e below base s₂ ∧ s₂.status = .running ∧ Ended s₂ below o ∧ ∃ v L, o = .returned v ∧ Q v s₂.heap L ∧ FrameEnd s o s₂ L k n := by
  obtain ⟨fs, hr, hrun, hended, hW, hsame⟩ := X.leave (v := some (.int z)) (fun h => by rw [hret] at h; cases h)
  exact ⟨_, _, pre _ (own_ireturn X hx hret hd hr), hrun, hended, _, _, rfl, hQ, ⟨_, rfl⟩, hW, hsame.mono h1 h2⟩
theorem own_retN (X : Stand p l e R s m args below meth c T locs cells slots) (hx : p.tables.exec = Jvm.exec) (hlk : meth.locks = false) {t : FieldType} (hret : meth.sig.returnType = some t) (ht : t = .boolean ∨ t = .byte ∨ t = .char ∨ t = .short) {pc : Nat} {Ls : Array Slot} {z : Int32} {rest : List Value} (hd : decode c.code pc = .ok (.ireturn, 1)) {base : State}
    (pre : ∀ t, Steps p.tables e below (T.setTop (mkF m pc Ls (.int z :: rest))) t → Steps p.tables e below base t) {Q : Option Value → Heap → List Loc → Prop} (hQ : Q (some (.int (nar t z))) T.heap locs) {k n : Nat} (h1 : cells ≤ k) (h2 : slots ≤ n) :
    ∃ s₂ o, Steps p.tables e below base s₂ ∧ s₂.status = .running ∧ Ended s₂ below o ∧ ∃ v L, o = .returned v ∧ Q v s₂.heap L ∧ FrameEnd s o s₂ L k n := by
  obtain ⟨fs, hr, hrun, hended, hW, hsame⟩ := X.leave (v := some (.int (nar t z))) (fun h => by rw [hret] at h; cases h)
  exact ⟨_, _, pre _ (retN X hx hret ht hd hr), hrun, hended, _, _, rfl, hQ, ⟨_, rfl⟩, hW, hsame.mono h1 h2⟩
theorem own_retJ (X : Stand p l e R s m args below meth c T locs cells slots) (hx : p.tables.exec = Jvm.exec) (hlk : meth.locks = false) (hret : meth.sig.returnType = some .long) {pc : Nat} {Ls : Array Slot} {z : Int64} (hd : decode c.code pc = .ok (.lreturn, 1)) {base : State}
    (pre : ∀ t, Steps p.tables e below (T.setTop (mkF m pc Ls [.long z])) t → Steps p.tables e below base t) {Q : Option Value → Heap → List Loc → Prop} (hQ : Q (some (.long z)) T.heap locs) {k n : Nat} (h1 : cells ≤ k) (h2 : slots ≤ n) :
    ∃ s₂ o, Steps p.tables e below base s₂ ∧ s₂.status = .running ∧ Ended s₂ below o ∧ ∃ v L, o = .returned v ∧ Q v s₂.heap L ∧ FrameEnd s o s₂ L k n := by
  obtain ⟨fs, hr, hrun, hended, hW, hsame⟩ := X.leave (v := some (.long z)) (fun h => by rw [hret] at h; cases h)
  exact ⟨_, _, pre _ (X.lreturnOut hx hret hd hr), hrun, hended, _, _, rfl, hQ, ⟨_, rfl⟩, hW, hsame.mono h1 h2⟩
theorem own_retA (X : Stand p l e R s m args below meth c T locs cells slots) (hx : p.tables.exec = Jvm.exec) (hlk : meth.locks = false) {w : Value} {t : FieldType} (hw : w.isRef = true) (hret : meth.sig.returnType = some t) (ht : t.isReference = true) {pc : Nat} {Ls : Array Slot} (hd : decode c.code pc = .ok (.areturn, 1)) {base : State}
    (pre : ∀ t, Steps p.tables e below (T.setTop (mkF m pc Ls [w])) t → Steps p.tables e below base t) {Q : Option Value → Heap → List Loc → Prop} (hQ : Q (some w) T.heap locs) {k n : Nat} (h1 : cells ≤ k) (h2 : slots ≤ n) :
    ∃ s₂ o, Steps p.tables e below base s₂ ∧ s₂.status = .running ∧ Ended s₂ below o ∧ ∃ v L, o = .returned v ∧ Q v s₂.heap L ∧ FrameEnd s o s₂ L k n := by
  obtain ⟨fs, hr, hrun, hended, hW, hsame⟩ := X.leave (v := some w) (fun h => by rw [hret] at h; cases h)
  exact ⟨_, _, pre _ (X.areturnOut hx hw hret ht hd hr), hrun, hended, _, _, rfl, hQ, ⟨_, rfl⟩, hW, hsame.mono h1 h2⟩
end Own
theorem own_rem {x y : Int32} (hx : 0 ≤ x.toInt) (hy : 0 < y.toInt) : (x - x / y * y).toInt = x.toInt % y.toInt := by
  have hq : (x / y).toInt = x.toInt / y.toInt := by
    rw [Jvm.Kit.i32_div (by omega), Int.tdiv_eq_ediv_of_nonneg hx]
  have h1 : 0 ≤ x.toInt / y.toInt := Int.ediv_nonneg hx (by omega)
  have h2 : x.toInt / y.toInt * y.toInt ≤ x.toInt := Int.ediv_mul_le _ (by omega)
  have h3 : 0 ≤ x.toInt / y.toInt * y.toInt := Int.mul_nonneg h1 (by omega)
  have h4 := Int32.toInt_lt x
  have hm : (x / y * y).toInt = x.toInt / y.toInt * y.toInt := by
    rw [Jvm.Kit.i32_mul (by rw [hq]; omega) (by rw [hq]; omega), hq]
  rw [Jvm.Kit.i32_sub (by rw [hm]; omega) (by rw [hm]; omega), hm, Int.emod_def, Int.mul_comm]

theorem ef_0 (m : MethodId) (x0 : Int32) (x1 : Int32) (x2 : Int32) (x3 : Int32) (x4 : Int32) : entryFrame m #[(.int x0), (.int x1), (.int x2), (.int x3), (.int x4)] 5 = mkF m 0 #[.val (.int x0), .val (.int x1), .val (.int x2), .val (.int x3), .val (.int x4)] [] := by first | (simp [entryFrame, mkF, argsToLocals, Value.category]; done) | rfl
theorem pn_1 : plainName "com/example/avocet/avocet/index/PostingsOccurrencesPinLaw" = true := by first | (simp [plainName, overriddenIn]; done) | decide +kernel
theorem d1_0 : decode method_2_code 0 = .ok (.iload_n 0, 1) := by decide +kernel
theorem d1_1 : decode method_2_code 1 = .ok (.ifCond .ne 7, 3) := by decide +kernel
theorem d1_4 : decode method_2_code 4 = .ok (.iconst 0, 1) := by decide +kernel
theorem d1_5 : decode method_2_code 5 = .ok (.newarray .int, 2) := by decide +kernel
theorem d1_7 : decode method_2_code 7 = .ok (.areturn, 1) := by decide +kernel
def Q1_0 (Z : State) (p2 p3 p4 p5 : Int32) (h0 : Heap) (n0 : Nat) (v : Option Value) (h : Heap) (L : List Loc) : Prop := ∃ (r : Addr) (kc : ClassId), v = some (.ref r) ∧ Fr n0 L ∧ Keep h0 h [] ∧ h0.size ≤ r ∧ n0 ≤ r ∧ Arv Z h r kc .int (0 : Int32) [] (.int (0 : Int32))
set_option maxRecDepth 65536 in
set_option maxHeartbeats 40000000 in
theorem rm1_0 (l : Launch) (Z : State) (a0 : Array Value) (hw : ∀ d ∈ tables_1, d.before a0 Z = true) (ws : List Jvm.Cond) (p2 p3 p4 p5 : Int32) (h0 : Heap) (n0 : Nat) (Z0 : n0 ≤ h0.size) :
    MetFree l (⟨"com/example/avocet/avocet/index/PostingsOccurrencesPinLaw", "pick", "(IIIII)[I"⟩ : MethodName) (head1 (Jvm.Cond.code (⟨"com/example/avocet/avocet/index/PostingsOccurrencesPinLaw", "pick", "(IIIII)[I"⟩ : MethodName) method_2_code 5 (some (.array .int)) :: ws) ({ frames := 0, cells := 1, slots := 0, locals := 0 } : Room)) (fun a U => a = #[(.int (0 : Int32)), (.int p2), (.int p3), (.int p4), (.int p5)] ∧ Z.Warmed39 U.vm ∧ U.heap = h0) (fun _ _ _ _ _ => True) (fun _ U o U' => ∃ v L, o = .returned v ∧ Q1_0 Z p2 p3 p4 p5 h0 n0 v U'.heap L ∧ FrameEnd U o U' L ({ frames := 0, cells := 1, slots := 0, locals := 0 } : Room).cells ({ frames := 0, cells := 1, slots := 0, locals := 0 } : Room).slots) := by
  refine MetFree.of_bodySF (plainFor_of_name pn_1) hisR ?_
  intro p e s m args below meth c s₁ Bd hml0 hP hK
  obtain ⟨rfl, hZ, hh⟩ := hP
  have hx := Bd.exec
  have hby := Bd.bytes
  have hml : c.maxLocals = 5 := hml0
  have hown : s.vm.findClass "com/example/avocet/avocet/index/PostingsOccurrencesPinLaw" = some m.cls := findClass_of_methodNamed Bd.named
  have hnm := (name_of_methodNamed Bd.named Bd.method).1
  have X0 : Stand p l e ({ frames := 0, cells := 1, slots := 0, locals := 0 } : Room) s m #[(.int (0 : Int32)), (.int p2), (.int p3), (.int p4), (.int p5)] below meth c s₁ [] 0 0 := Stand.of_body Bd
  have e0 : s₁.heap = h0 := by rw [← hh, Bd.state]; rfl
  have N0 := Fr.nil n0
  have pre0 : ∀ t, Steps p.tables e below (s₁.setTop (mkF m 0 #[.val (.int (0 : Int32)), .val (.int p2), .val (.int p3), .val (.int p4), .val (.int p5)] [])) t → Steps p.tables e below (s₁.setTop (entryFrame m #[(.int (0 : Int32)), (.int p2), (.int p3), (.int p4), (.int p5)] 5)) t := fun t k => castTop (ef_0 m (0 : Int32) p2 p3 p4 p5) k
  obtain ⟨T1, h1, k1, X1, e1, E1, A1, st1⟩ := newP X0 hx hZ (hw _ (List.mem_of_getElem? (i := 4) rfl)) e0 (g := (mkF m 5 #[.val (.int (0 : Int32)), .val (.int p2), .val (.int p3), .val (.int p4), .val (.int p5)] [(.int (0 : Int32))])) rfl (hb hby d1_5) rfl (by decide) (cap := 0) (by decide) (by decide) (by decide) (by decide)
  obtain ⟨b1, g1⟩ : ∃ z, z = h0.size := ⟨_, rfl⟩
  rw [← g1] at A1 st1
  have G1 : n0 ≤ b1 := Nat.le_trans Z0 (Nat.le_of_eq g1.symm)
  have sz1 : h0.size ≤ b1 := Nat.le_trans (Keep.refl h0 []).1 (Nat.le_of_eq g1.symm)
  have c2 := (Keep.refl h0 []).ext E1
  have z3 : n0 ≤ h1.size := Nat.le_trans Z0 E1.1
  have V1 : Arv Z h1 b1 k1 .int (0 : Int32) [] (.int (0 : Int32)) := (Arv.new A1 (by decide)).pad (pad_rep [] (.int (0 : Int32)) 0)
  have pre4 : ∀ t, Steps p.tables e below (T1.setTop (mkF m 7 #[.val (.int (0 : Int32)), .val (.int p2), .val (.int p3), .val (.int p4), .val (.int p5)] [(.ref b1)])) t → Steps p.tables e below (s₁.setTop (entryFrame m #[(.int (0 : Int32)), (.int p2), (.int p3), (.int p4), (.int p5)] 5)) t := fun t kt => pre0 t (by
    show Steps p.tables e below (s₁.setTop (mkF m 0 #[.val (.int (0 : Int32)), .val (.int p2), .val (.int p3), .val (.int p4), .val (.int p5)] [])) _
    refine XS.iloadN X0.here hx rfl (hb hby d1_0) rfl ?_
    show Steps p.tables e below (s₁.setTop (mkF m 1 #[.val (.int (0 : Int32)), .val (.int p2), .val (.int p3), .val (.int p4), .val (.int p5)] [(.int (0 : Int32))])) _
    refine XS.ifNo X0.here hx rfl (hb hby d1_1) rfl ((if0 _ _).trans (teq (by decide : (0 : Int32) = (0 : Int32))).2) ?_
    show Steps p.tables e below (s₁.setTop (mkF m 4 #[.val (.int (0 : Int32)), .val (.int p2), .val (.int p3), .val (.int p4), .val (.int p5)] [])) _
    refine XS.iconst X0.here hx rfl (hb hby d1_4) ?_
    show Steps p.tables e below (s₁.setTop (mkF m 5 #[.val (.int (0 : Int32)), .val (.int p2), .val (.int p3), .val (.int p4), .val (.int p5)] [(.int (0 : Int32))])) _
    refine st1 _ ?_
    exact kt)
  have hQ : Q1_0 Z p2 p3 p4 p5 h0 n0 (some (.ref b1)) h1 _ := ⟨b1, k1, rfl, N0, c2, sz1, G1, V1⟩
  exact own_retA X1 hx Bd.notSynchronized rfl Bd.returns rfl (hb hby d1_7) pre4 (show Q1_0 Z p2 p3 p4 p5 h0 n0 _ _ _ from (by rw [e1]; exact hQ)) (by decide) (by decide)
theorem d1_8 : decode method_2_code 8 = .ok (.iload_n 0, 1) := by decide +kernel
theorem d1_9 : decode method_2_code 9 = .ok (.iconst 1, 1) := by decide +kernel
theorem d1_10 : decode method_2_code 10 = .ok (.if_icmp .ne 11, 3) := by decide +kernel
theorem d1_13 : decode method_2_code 13 = .ok (.iconst 1, 1) := by decide +kernel
theorem d1_14 : decode method_2_code 14 = .ok (.newarray .int, 2) := by decide +kernel
theorem d1_16 : decode method_2_code 16 = .ok (.dup, 1) := by decide +kernel
theorem d1_17 : decode method_2_code 17 = .ok (.iconst 0, 1) := by decide +kernel
theorem d1_18 : decode method_2_code 18 = .ok (.iload_n 1, 1) := by decide +kernel
theorem d1_19 : decode method_2_code 19 = .ok (.iastore, 1) := by decide +kernel
theorem d1_20 : decode method_2_code 20 = .ok (.areturn, 1) := by decide +kernel
def Q1_1 (Z : State) (p2 p3 p4 p5 : Int32) (h0 : Heap) (n0 : Nat) (v : Option Value) (h : Heap) (L : List Loc) : Prop := ∃ (r : Addr) (kc : ClassId), v = some (.ref r) ∧ Fr n0 L ∧ Keep h0 h [] ∧ h0.size ≤ r ∧ n0 ≤ r ∧ Arv Z h r kc .int (1 : Int32) [(.int p2)] (.int (0 : Int32))
set_option maxRecDepth 65536 in
set_option maxHeartbeats 40000000 in
theorem rm1_1 (l : Launch) (Z : State) (a0 : Array Value) (hw : ∀ d ∈ tables_1, d.before a0 Z = true) (ws : List Jvm.Cond) (p2 p3 p4 p5 : Int32) (h0 : Heap) (n0 : Nat) (Z0 : n0 ≤ h0.size) :
    MetFree l (⟨"com/example/avocet/avocet/index/PostingsOccurrencesPinLaw", "pick", "(IIIII)[I"⟩ : MethodName) (head1 (Jvm.Cond.code (⟨"com/example/avocet/avocet/index/PostingsOccurrencesPinLaw", "pick", "(IIIII)[I"⟩ : MethodName) method_2_code 5 (some (.array .int)) :: ws) ({ frames := 0, cells := 1, slots := 1, locals := 0 } : Room)) (fun a U => a = #[(.int (1 : Int32)), (.int p2), (.int p3), (.int p4), (.int p5)] ∧ Z.Warmed39 U.vm ∧ U.heap = h0) (fun _ _ _ _ _ => True) (fun _ U o U' => ∃ v L, o = .returned v ∧ Q1_1 Z p2 p3 p4 p5 h0 n0 v U'.heap L ∧ FrameEnd U o U' L ({ frames := 0, cells := 1, slots := 1, locals := 0 } : Room).cells ({ frames := 0, cells := 1, slots := 1, locals := 0 } : Room).slots) := by
  refine MetFree.of_bodySF (plainFor_of_name pn_1) hisR ?_
  intro p e s m args below meth c s₁ Bd hml0 hP hK
  obtain ⟨rfl, hZ, hh⟩ := hP
  have hx := Bd.exec
  have hby := Bd.bytes
  have hml : c.maxLocals = 5 := hml0
  have hown : s.vm.findClass "com/example/avocet/avocet/index/PostingsOccurrencesPinLaw" = some m.cls := findClass_of_methodNamed Bd.named
  have hnm := (name_of_methodNamed Bd.named Bd.method).1
  have X0 : Stand p l e ({ frames := 0, cells := 1, slots := 1, locals := 0 } : Room) s m #[(.int (1 : Int32)), (.int p2), (.int p3), (.int p4), (.int p5)] below meth c s₁ [] 0 0 := Stand.of_body Bd
  have e0 : s₁.heap = h0 := by rw [← hh, Bd.state]; rfl
  have N0 := Fr.nil n0
  have pre0 : ∀ t, Steps p.tables e below (s₁.setTop (mkF m 0 #[.val (.int (1 : Int32)), .val (.int p2), .val (.int p3), .val (.int p4), .val (.int p5)] [])) t → Steps p.tables e below (s₁.setTop (entryFrame m #[(.int (1 : Int32)), (.int p2), (.int p3), (.int p4), (.int p5)] 5)) t := fun t k => castTop (ef_0 m (1 : Int32) p2 p3 p4 p5) k
  obtain ⟨T5, h5, k5, X5, e5, E5, A5, st5⟩ := newP X0 hx hZ (hw _ (List.mem_of_getElem? (i := 4) rfl)) e0 (g := (mkF m 14 #[.val (.int (1 : Int32)), .val (.int p2), .val (.int p3), .val (.int p4), .val (.int p5)] [(.int (1 : Int32))])) rfl (hb hby d1_14) rfl (by decide) (cap := 1) (by decide) (by decide) (by decide) (by decide)
  obtain ⟨b5, g5⟩ : ∃ z, z = h0.size := ⟨_, rfl⟩
  rw [← g5] at A5 st5
  have G5 : n0 ≤ b5 := Nat.le_trans Z0 (Nat.le_of_eq g5.symm)
  have sz5 : h0.size ≤ b5 := Nat.le_trans (Keep.refl h0 []).1 (Nat.le_of_eq g5.symm)
  have c6 := (Keep.refl h0 []).ext E5
  have z7 : n0 ≤ h5.size := Nat.le_trans Z0 E5.1
  have V5 : Arv Z h5 b5 k5 .int (1 : Int32) [(.int (0 : Int32))] (.int (0 : Int32)) := (Arv.new A5 (by decide)).pad (pad_rep [] (.int (0 : Int32)) 1)
  obtain ⟨cl8, Ar8, q8, S8, M8, H8, J8⟩ := id V5
  have hin8 : ¬ ((0 : Int32) < 0 ∨ cl8.slots.size ≤ ((0 : Int32)).toNatClampNeg) := inb_of S8 ⟨by decide, by decide⟩
  obtain ⟨T9, h9, X9, e9, W9, st9⟩ := stI X5 hx hZ e5 Ar8 (j := (0 : Int32)) hin8 (g := (mkF m 19 #[.val (.int (1 : Int32)), .val (.int p2), .val (.int p3), .val (.int p4), .val (.int p5)] [(.int p2), (.int (0 : Int32)), (.ref b5), (.ref b5)])) rfl rfl (hb hby d1_19)
  have V9 : Arv Z h9 b5 k5 .int (1 : Int32) [(.int p2)] (.int (0 : Int32)) := Arv.set Ar8 q8 S8 M8 H8 J8 rfl W9 0 rfl (Nat.le_of_ble_eq_true rfl)
  have N9 := Fr.snoc X9 N0 G5
  have z10 : n0 ≤ h9.size := Nat.le_trans z7 (Keep.of_wr W9).1
  have c11 := c6.wr W9 (Or.inr sz5)
  have pre13 : ∀ t, Steps p.tables e below (T9.setTop (mkF m 20 #[.val (.int (1 : Int32)), .val (.int p2), .val (.int p3), .val (.int p4), .val (.int p5)] [(.ref b5)])) t → Steps p.tables e below (s₁.setTop (entryFrame m #[(.int (1 : Int32)), (.int p2), (.int p3), (.int p4), (.int p5)] 5)) t := fun t kt => pre0 t (by
    show Steps p.tables e below (s₁.setTop (mkF m 0 #[.val (.int (1 : Int32)), .val (.int p2), .val (.int p3), .val (.int p4), .val (.int p5)] [])) _
    refine XS.iloadN X0.here hx rfl (hb hby d1_0) rfl ?_
    show Steps p.tables e below (s₁.setTop (mkF m 1 #[.val (.int (1 : Int32)), .val (.int p2), .val (.int p3), .val (.int p4), .val (.int p5)] [(.int (1 : Int32))])) _
    refine XS.ifYes X0.here hx rfl (pc0 := 1) (pc' := 8) rfl (hb hby d1_1) rfl ((if0 _ _).trans (feq (by decide : ¬ ((1 : Int32) = (0 : Int32)))).2) (by decide) (by decide) ?_
    show Steps p.tables e below (s₁.setTop (mkF m 8 #[.val (.int (1 : Int32)), .val (.int p2), .val (.int p3), .val (.int p4), .val (.int p5)] [])) _
    refine XS.iloadN X0.here hx rfl (hb hby d1_8) rfl ?_
    show Steps p.tables e below (s₁.setTop (mkF m 9 #[.val (.int (1 : Int32)), .val (.int p2), .val (.int p3), .val (.int p4), .val (.int p5)] [(.int (1 : Int32))])) _
    refine XS.iconst X0.here hx rfl (hb hby d1_9) ?_
    show Steps p.tables e below (s₁.setTop (mkF m 10 #[.val (.int (1 : Int32)), .val (.int p2), .val (.int p3), .val (.int p4), .val (.int p5)] [(.int (1 : Int32)), (.int (1 : Int32))])) _
    refine XS.icmpNo X0.here hx rfl (hb hby d1_10) rfl (teq (by decide : (1 : Int32) = (1 : Int32))).2 ?_
    show Steps p.tables e below (s₁.setTop (mkF m 13 #[.val (.int (1 : Int32)), .val (.int p2), .val (.int p3), .val (.int p4), .val (.int p5)] [])) _
    refine XS.iconst X0.here hx rfl (hb hby d1_13) ?_
    show Steps p.tables e below (s₁.setTop (mkF m 14 #[.val (.int (1 : Int32)), .val (.int p2), .val (.int p3), .val (.int p4), .val (.int p5)] [(.int (1 : Int32))])) _
    refine st5 _ ?_
    show Steps p.tables e below (T5.setTop (mkF m 16 #[.val (.int (1 : Int32)), .val (.int p2), .val (.int p3), .val (.int p4), .val (.int p5)] [(.ref b5)])) _
    refine XS.dup X5.here hx rfl (hb hby d1_16) rfl rfl ?_
    show Steps p.tables e below (T5.setTop (mkF m 17 #[.val (.int (1 : Int32)), .val (.int p2), .val (.int p3), .val (.int p4), .val (.int p5)] [(.ref b5), (.ref b5)])) _
    refine XS.iconst X5.here hx rfl (hb hby d1_17) ?_
    show Steps p.tables e below (T5.setTop (mkF m 18 #[.val (.int (1 : Int32)), .val (.int p2), .val (.int p3), .val (.int p4), .val (.int p5)] [(.int (0 : Int32)), (.ref b5), (.ref b5)])) _
    refine XS.iloadN X5.here hx rfl (hb hby d1_18) rfl ?_
    show Steps p.tables e below (T5.setTop (mkF m 19 #[.val (.int (1 : Int32)), .val (.int p2), .val (.int p3), .val (.int p4), .val (.int p5)] [(.int p2), (.int (0 : Int32)), (.ref b5), (.ref b5)])) _
    refine st9 _ ?_
    exact kt)
  have hQ : Q1_1 Z p2 p3 p4 p5 h0 n0 (some (.ref b5)) h9 _ := ⟨b5, k5, rfl, N9, c11, sz5, G5, V9⟩
  exact own_retA X9 hx Bd.notSynchronized rfl Bd.returns rfl (hb hby d1_20) pre13 (show Q1_1 Z p2 p3 p4 p5 h0 n0 _ _ _ from (by rw [e9]; exact hQ)) (by decide) (by decide)
theorem d1_21 : decode method_2_code 21 = .ok (.iload_n 0, 1) := by decide +kernel
theorem d1_22 : decode method_2_code 22 = .ok (.iconst 2, 1) := by decide +kernel
theorem d1_23 : decode method_2_code 23 = .ok (.if_icmp .ne 15, 3) := by decide +kernel
theorem d1_26 : decode method_2_code 26 = .ok (.iconst 2, 1) := by decide +kernel
theorem d1_27 : decode method_2_code 27 = .ok (.newarray .int, 2) := by decide +kernel
theorem d1_29 : decode method_2_code 29 = .ok (.dup, 1) := by decide +kernel
theorem d1_30 : decode method_2_code 30 = .ok (.iconst 0, 1) := by decide +kernel
theorem d1_31 : decode method_2_code 31 = .ok (.iload_n 1, 1) := by decide +kernel
theorem d1_32 : decode method_2_code 32 = .ok (.iastore, 1) := by decide +kernel
theorem d1_33 : decode method_2_code 33 = .ok (.dup, 1) := by decide +kernel
theorem d1_34 : decode method_2_code 34 = .ok (.iconst 1, 1) := by decide +kernel
theorem d1_35 : decode method_2_code 35 = .ok (.iload_n 2, 1) := by decide +kernel
theorem d1_36 : decode method_2_code 36 = .ok (.iastore, 1) := by decide +kernel
theorem d1_37 : decode method_2_code 37 = .ok (.areturn, 1) := by decide +kernel
def Q1_2 (Z : State) (p2 p3 p4 p5 : Int32) (h0 : Heap) (n0 : Nat) (v : Option Value) (h : Heap) (L : List Loc) : Prop := ∃ (r : Addr) (kc : ClassId), v = some (.ref r) ∧ Fr n0 L ∧ Keep h0 h [] ∧ h0.size ≤ r ∧ n0 ≤ r ∧ Arv Z h r kc .int (2 : Int32) [(.int p2), (.int p3)] (.int (0 : Int32))
set_option maxRecDepth 65536 in
set_option maxHeartbeats 40000000 in
theorem rm1_2 (l : Launch) (Z : State) (a0 : Array Value) (hw : ∀ d ∈ tables_1, d.before a0 Z = true) (ws : List Jvm.Cond) (p2 p3 p4 p5 : Int32) (h0 : Heap) (n0 : Nat) (Z0 : n0 ≤ h0.size) :
    MetFree l (⟨"com/example/avocet/avocet/index/PostingsOccurrencesPinLaw", "pick", "(IIIII)[I"⟩ : MethodName) (head1 (Jvm.Cond.code (⟨"com/example/avocet/avocet/index/PostingsOccurrencesPinLaw", "pick", "(IIIII)[I"⟩ : MethodName) method_2_code 5 (some (.array .int)) :: ws) ({ frames := 0, cells := 1, slots := 2, locals := 0 } : Room)) (fun a U => a = #[(.int (2 : Int32)), (.int p2), (.int p3), (.int p4), (.int p5)] ∧ Z.Warmed39 U.vm ∧ U.heap = h0) (fun _ _ _ _ _ => True) (fun _ U o U' => ∃ v L, o = .returned v ∧ Q1_2 Z p2 p3 p4 p5 h0 n0 v U'.heap L ∧ FrameEnd U o U' L ({ frames := 0, cells := 1, slots := 2, locals := 0 } : Room).cells ({ frames := 0, cells := 1, slots := 2, locals := 0 } : Room).slots) := by
  refine MetFree.of_bodySF (plainFor_of_name pn_1) hisR ?_
  intro p e s m args below meth c s₁ Bd hml0 hP hK
  obtain ⟨rfl, hZ, hh⟩ := hP
  have hx := Bd.exec
  have hby := Bd.bytes
  have hml : c.maxLocals = 5 := hml0
  have hown : s.vm.findClass "com/example/avocet/avocet/index/PostingsOccurrencesPinLaw" = some m.cls := findClass_of_methodNamed Bd.named
  have hnm := (name_of_methodNamed Bd.named Bd.method).1
  have X0 : Stand p l e ({ frames := 0, cells := 1, slots := 2, locals := 0 } : Room) s m #[(.int (2 : Int32)), (.int p2), (.int p3), (.int p4), (.int p5)] below meth c s₁ [] 0 0 := Stand.of_body Bd
  have e0 : s₁.heap = h0 := by rw [← hh, Bd.state]; rfl
  have N0 := Fr.nil n0
  have pre0 : ∀ t, Steps p.tables e below (s₁.setTop (mkF m 0 #[.val (.int (2 : Int32)), .val (.int p2), .val (.int p3), .val (.int p4), .val (.int p5)] [])) t → Steps p.tables e below (s₁.setTop (entryFrame m #[(.int (2 : Int32)), (.int p2), (.int p3), (.int p4), (.int p5)] 5)) t := fun t k => castTop (ef_0 m (2 : Int32) p2 p3 p4 p5) k
  obtain ⟨T14, h14, k14, X14, e14, E14, A14, st14⟩ := newP X0 hx hZ (hw _ (List.mem_of_getElem? (i := 4) rfl)) e0 (g := (mkF m 27 #[.val (.int (2 : Int32)), .val (.int p2), .val (.int p3), .val (.int p4), .val (.int p5)] [(.int (2 : Int32))])) rfl (hb hby d1_27) rfl (by decide) (cap := 2) (by decide) (by decide) (by decide) (by decide)
  obtain ⟨b14, g14⟩ : ∃ z, z = h0.size := ⟨_, rfl⟩
  rw [← g14] at A14 st14
  have G14 : n0 ≤ b14 := Nat.le_trans Z0 (Nat.le_of_eq g14.symm)
  have sz14 : h0.size ≤ b14 := Nat.le_trans (Keep.refl h0 []).1 (Nat.le_of_eq g14.symm)
  have c15 := (Keep.refl h0 []).ext E14
  have z16 : n0 ≤ h14.size := Nat.le_trans Z0 E14.1
  have V14 : Arv Z h14 b14 k14 .int (2 : Int32) [(.int (0 : Int32)), (.int (0 : Int32))] (.int (0 : Int32)) := (Arv.new A14 (by decide)).pad (pad_rep [] (.int (0 : Int32)) 2)
  obtain ⟨cl17, Ar17, q17, S17, M17, H17, J17⟩ := id V14
  have hin17 : ¬ ((0 : Int32) < 0 ∨ cl17.slots.size ≤ ((0 : Int32)).toNatClampNeg) := inb_of S17 ⟨by decide, by decide⟩
  obtain ⟨T18, h18, X18, e18, W18, st18⟩ := stI X14 hx hZ e14 Ar17 (j := (0 : Int32)) hin17 (g := (mkF m 32 #[.val (.int (2 : Int32)), .val (.int p2), .val (.int p3), .val (.int p4), .val (.int p5)] [(.int p2), (.int (0 : Int32)), (.ref b14), (.ref b14)])) rfl rfl (hb hby d1_32)
  have V18 : Arv Z h18 b14 k14 .int (2 : Int32) [(.int p2), (.int (0 : Int32))] (.int (0 : Int32)) := Arv.set Ar17 q17 S17 M17 H17 J17 rfl W18 0 rfl (Nat.le_of_ble_eq_true rfl)
  have N18 := Fr.snoc X18 N0 G14
  have z19 : n0 ≤ h18.size := Nat.le_trans z16 (Keep.of_wr W18).1
  have c20 := c15.wr W18 (Or.inr sz14)
  obtain ⟨cl22, Ar22, q22, S22, M22, H22, J22⟩ := id V18
  have hin22 : ¬ ((1 : Int32) < 0 ∨ cl22.slots.size ≤ ((1 : Int32)).toNatClampNeg) := inb_of S22 ⟨by decide, by decide⟩
  obtain ⟨T23, h23, X23, e23, W23, st23⟩ := stI X18 hx hZ e18 Ar22 (j := (1 : Int32)) hin22 (g := (mkF m 36 #[.val (.int (2 : Int32)), .val (.int p2), .val (.int p3), .val (.int p4), .val (.int p5)] [(.int p3), (.int (1 : Int32)), (.ref b14), (.ref b14)])) rfl rfl (hb hby d1_36)
  have V23 : Arv Z h23 b14 k14 .int (2 : Int32) [(.int p2), (.int p3)] (.int (0 : Int32)) := Arv.set Ar22 q22 S22 M22 H22 J22 rfl W23 1 rfl (Nat.le_of_ble_eq_true rfl)
  have N23 := Fr.snoc X23 N18 G14
  have z24 : n0 ≤ h23.size := Nat.le_trans z19 (Keep.of_wr W23).1
  have c25 := c20.wr W23 (Or.inr sz14)
  have pre27 : ∀ t, Steps p.tables e below (T23.setTop (mkF m 37 #[.val (.int (2 : Int32)), .val (.int p2), .val (.int p3), .val (.int p4), .val (.int p5)] [(.ref b14)])) t → Steps p.tables e below (s₁.setTop (entryFrame m #[(.int (2 : Int32)), (.int p2), (.int p3), (.int p4), (.int p5)] 5)) t := fun t kt => pre0 t (by
    show Steps p.tables e below (s₁.setTop (mkF m 0 #[.val (.int (2 : Int32)), .val (.int p2), .val (.int p3), .val (.int p4), .val (.int p5)] [])) _
    refine XS.iloadN X0.here hx rfl (hb hby d1_0) rfl ?_
    show Steps p.tables e below (s₁.setTop (mkF m 1 #[.val (.int (2 : Int32)), .val (.int p2), .val (.int p3), .val (.int p4), .val (.int p5)] [(.int (2 : Int32))])) _
    refine XS.ifYes X0.here hx rfl (pc0 := 1) (pc' := 8) rfl (hb hby d1_1) rfl ((if0 _ _).trans (feq (by decide : ¬ ((2 : Int32) = (0 : Int32)))).2) (by decide) (by decide) ?_
    show Steps p.tables e below (s₁.setTop (mkF m 8 #[.val (.int (2 : Int32)), .val (.int p2), .val (.int p3), .val (.int p4), .val (.int p5)] [])) _
    refine XS.iloadN X0.here hx rfl (hb hby d1_8) rfl ?_
    show Steps p.tables e below (s₁.setTop (mkF m 9 #[.val (.int (2 : Int32)), .val (.int p2), .val (.int p3), .val (.int p4), .val (.int p5)] [(.int (2 : Int32))])) _
    refine XS.iconst X0.here hx rfl (hb hby d1_9) ?_
    show Steps p.tables e below (s₁.setTop (mkF m 10 #[.val (.int (2 : Int32)), .val (.int p2), .val (.int p3), .val (.int p4), .val (.int p5)] [(.int (1 : Int32)), (.int (2 : Int32))])) _
    refine XS.icmpYes X0.here hx rfl (pc0 := 10) (pc' := 21) rfl (hb hby d1_10) rfl (feq (by decide : ¬ ((2 : Int32) = (1 : Int32)))).2 (by decide) (by decide) ?_
    show Steps p.tables e below (s₁.setTop (mkF m 21 #[.val (.int (2 : Int32)), .val (.int p2), .val (.int p3), .val (.int p4), .val (.int p5)] [])) _
    refine XS.iloadN X0.here hx rfl (hb hby d1_21) rfl ?_
    show Steps p.tables e below (s₁.setTop (mkF m 22 #[.val (.int (2 : Int32)), .val (.int p2), .val (.int p3), .val (.int p4), .val (.int p5)] [(.int (2 : Int32))])) _
    refine XS.iconst X0.here hx rfl (hb hby d1_22) ?_
    show Steps p.tables e below (s₁.setTop (mkF m 23 #[.val (.int (2 : Int32)), .val (.int p2), .val (.int p3), .val (.int p4), .val (.int p5)] [(.int (2 : Int32)), (.int (2 : Int32))])) _
    refine XS.icmpNo X0.here hx rfl (hb hby d1_23) rfl (teq (by decide : (2 : Int32) = (2 : Int32))).2 ?_
    show Steps p.tables e below (s₁.setTop (mkF m 26 #[.val (.int (2 : Int32)), .val (.int p2), .val (.int p3), .val (.int p4), .val (.int p5)] [])) _
    refine XS.iconst X0.here hx rfl (hb hby d1_26) ?_
    show Steps p.tables e below (s₁.setTop (mkF m 27 #[.val (.int (2 : Int32)), .val (.int p2), .val (.int p3), .val (.int p4), .val (.int p5)] [(.int (2 : Int32))])) _
    refine st14 _ ?_
    show Steps p.tables e below (T14.setTop (mkF m 29 #[.val (.int (2 : Int32)), .val (.int p2), .val (.int p3), .val (.int p4), .val (.int p5)] [(.ref b14)])) _
    refine XS.dup X14.here hx rfl (hb hby d1_29) rfl rfl ?_
    show Steps p.tables e below (T14.setTop (mkF m 30 #[.val (.int (2 : Int32)), .val (.int p2), .val (.int p3), .val (.int p4), .val (.int p5)] [(.ref b14), (.ref b14)])) _
    refine XS.iconst X14.here hx rfl (hb hby d1_30) ?_
    show Steps p.tables e below (T14.setTop (mkF m 31 #[.val (.int (2 : Int32)), .val (.int p2), .val (.int p3), .val (.int p4), .val (.int p5)] [(.int (0 : Int32)), (.ref b14), (.ref b14)])) _
    refine XS.iloadN X14.here hx rfl (hb hby d1_31) rfl ?_
    show Steps p.tables e below (T14.setTop (mkF m 32 #[.val (.int (2 : Int32)), .val (.int p2), .val (.int p3), .val (.int p4), .val (.int p5)] [(.int p2), (.int (0 : Int32)), (.ref b14), (.ref b14)])) _
    refine st18 _ ?_
    show Steps p.tables e below (T18.setTop (mkF m 33 #[.val (.int (2 : Int32)), .val (.int p2), .val (.int p3), .val (.int p4), .val (.int p5)] [(.ref b14)])) _
    refine XS.dup X18.here hx rfl (hb hby d1_33) rfl rfl ?_
    show Steps p.tables e below (T18.setTop (mkF m 34 #[.val (.int (2 : Int32)), .val (.int p2), .val (.int p3), .val (.int p4), .val (.int p5)] [(.ref b14), (.ref b14)])) _
    refine XS.iconst X18.here hx rfl (hb hby d1_34) ?_
    show Steps p.tables e below (T18.setTop (mkF m 35 #[.val (.int (2 : Int32)), .val (.int p2), .val (.int p3), .val (.int p4), .val (.int p5)] [(.int (1 : Int32)), (.ref b14), (.ref b14)])) _
    refine XS.iloadN X18.here hx rfl (hb hby d1_35) rfl ?_
    show Steps p.tables e below (T18.setTop (mkF m 36 #[.val (.int (2 : Int32)), .val (.int p2), .val (.int p3), .val (.int p4), .val (.int p5)] [(.int p3), (.int (1 : Int32)), (.ref b14), (.ref b14)])) _
    refine st23 _ ?_
    exact kt)
  have hQ : Q1_2 Z p2 p3 p4 p5 h0 n0 (some (.ref b14)) h23 _ := ⟨b14, k14, rfl, N23, c25, sz14, G14, V23⟩
  exact own_retA X23 hx Bd.notSynchronized rfl Bd.returns rfl (hb hby d1_37) pre27 (show Q1_2 Z p2 p3 p4 p5 h0 n0 _ _ _ from (by rw [e23]; exact hQ)) (by decide) (by decide)
theorem d1_38 : decode method_2_code 38 = .ok (.iload_n 0, 1) := by decide +kernel
theorem d1_39 : decode method_2_code 39 = .ok (.iconst 3, 1) := by decide +kernel
theorem d1_40 : decode method_2_code 40 = .ok (.if_icmp .ne 19, 3) := by decide +kernel
theorem d1_43 : decode method_2_code 43 = .ok (.iconst 3, 1) := by decide +kernel
theorem d1_44 : decode method_2_code 44 = .ok (.newarray .int, 2) := by decide +kernel
theorem d1_46 : decode method_2_code 46 = .ok (.dup, 1) := by decide +kernel
theorem d1_47 : decode method_2_code 47 = .ok (.iconst 0, 1) := by decide +kernel
theorem d1_48 : decode method_2_code 48 = .ok (.iload_n 1, 1) := by decide +kernel
theorem d1_49 : decode method_2_code 49 = .ok (.iastore, 1) := by decide +kernel
theorem d1_50 : decode method_2_code 50 = .ok (.dup, 1) := by decide +kernel
theorem d1_51 : decode method_2_code 51 = .ok (.iconst 1, 1) := by decide +kernel
theorem d1_52 : decode method_2_code 52 = .ok (.iload_n 2, 1) := by decide +kernel
theorem d1_53 : decode method_2_code 53 = .ok (.iastore, 1) := by decide +kernel
theorem d1_54 : decode method_2_code 54 = .ok (.dup, 1) := by decide +kernel
theorem d1_55 : decode method_2_code 55 = .ok (.iconst 2, 1) := by decide +kernel
theorem d1_56 : decode method_2_code 56 = .ok (.iload_n 3, 1) := by decide +kernel
theorem d1_57 : decode method_2_code 57 = .ok (.iastore, 1) := by decide +kernel
theorem d1_58 : decode method_2_code 58 = .ok (.areturn, 1) := by decide +kernel
def Q1_3 (Z : State) (p2 p3 p4 p5 : Int32) (h0 : Heap) (n0 : Nat) (v : Option Value) (h : Heap) (L : List Loc) : Prop := ∃ (r : Addr) (kc : ClassId), v = some (.ref r) ∧ Fr n0 L ∧ Keep h0 h [] ∧ h0.size ≤ r ∧ n0 ≤ r ∧ Arv Z h r kc .int (3 : Int32) [(.int p2), (.int p3), (.int p4)] (.int (0 : Int32))
set_option maxRecDepth 65536 in
set_option maxHeartbeats 40000000 in
theorem rm1_3 (l : Launch) (Z : State) (a0 : Array Value) (hw : ∀ d ∈ tables_1, d.before a0 Z = true) (ws : List Jvm.Cond) (p2 p3 p4 p5 : Int32) (h0 : Heap) (n0 : Nat) (Z0 : n0 ≤ h0.size) :
    MetFree l (⟨"com/example/avocet/avocet/index/PostingsOccurrencesPinLaw", "pick", "(IIIII)[I"⟩ : MethodName) (head1 (Jvm.Cond.code (⟨"com/example/avocet/avocet/index/PostingsOccurrencesPinLaw", "pick", "(IIIII)[I"⟩ : MethodName) method_2_code 5 (some (.array .int)) :: ws) ({ frames := 0, cells := 1, slots := 3, locals := 0 } : Room)) (fun a U => a = #[(.int (3 : Int32)), (.int p2), (.int p3), (.int p4), (.int p5)] ∧ Z.Warmed39 U.vm ∧ U.heap = h0) (fun _ _ _ _ _ => True) (fun _ U o U' => ∃ v L, o = .returned v ∧ Q1_3 Z p2 p3 p4 p5 h0 n0 v U'.heap L ∧ FrameEnd U o U' L ({ frames := 0, cells := 1, slots := 3, locals := 0 } : Room).cells ({ frames := 0, cells := 1, slots := 3, locals := 0 } : Room).slots) := by
  refine MetFree.of_bodySF (plainFor_of_name pn_1) hisR ?_
  intro p e s m args below meth c s₁ Bd hml0 hP hK
  obtain ⟨rfl, hZ, hh⟩ := hP
  have hx := Bd.exec
  have hby := Bd.bytes
  have hml : c.maxLocals = 5 := hml0
  have hown : s.vm.findClass "com/example/avocet/avocet/index/PostingsOccurrencesPinLaw" = some m.cls := findClass_of_methodNamed Bd.named
  have hnm := (name_of_methodNamed Bd.named Bd.method).1
  have X0 : Stand p l e ({ frames := 0, cells := 1, slots := 3, locals := 0 } : Room) s m #[(.int (3 : Int32)), (.int p2), (.int p3), (.int p4), (.int p5)] below meth c s₁ [] 0 0 := Stand.of_body Bd
  have e0 : s₁.heap = h0 := by rw [← hh, Bd.state]; rfl
  have N0 := Fr.nil n0
  have pre0 : ∀ t, Steps p.tables e below (s₁.setTop (mkF m 0 #[.val (.int (3 : Int32)), .val (.int p2), .val (.int p3), .val (.int p4), .val (.int p5)] [])) t → Steps p.tables e below (s₁.setTop (entryFrame m #[(.int (3 : Int32)), (.int p2), (.int p3), (.int p4), (.int p5)] 5)) t := fun t k => castTop (ef_0 m (3 : Int32) p2 p3 p4 p5) k
  obtain ⟨T28, h28, k28, X28, e28, E28, A28, st28⟩ := newP X0 hx hZ (hw _ (List.mem_of_getElem? (i := 4) rfl)) e0 (g := (mkF m 44 #[.val (.int (3 : Int32)), .val (.int p2), .val (.int p3), .val (.int p4), .val (.int p5)] [(.int (3 : Int32))])) rfl (hb hby d1_44) rfl (by decide) (cap := 3) (by decide) (by decide) (by decide) (by decide)
  obtain ⟨b28, g28⟩ : ∃ z, z = h0.size := ⟨_, rfl⟩
  rw [← g28] at A28 st28
  have G28 : n0 ≤ b28 := Nat.le_trans Z0 (Nat.le_of_eq g28.symm)
  have sz28 : h0.size ≤ b28 := Nat.le_trans (Keep.refl h0 []).1 (Nat.le_of_eq g28.symm)
  have c29 := (Keep.refl h0 []).ext E28
  have z30 : n0 ≤ h28.size := Nat.le_trans Z0 E28.1
  have V28 : Arv Z h28 b28 k28 .int (3 : Int32) [(.int (0 : Int32)), (.int (0 : Int32)), (.int (0 : Int32))] (.int (0 : Int32)) := (Arv.new A28 (by decide)).pad (pad_rep [] (.int (0 : Int32)) 3)
  obtain ⟨cl31, Ar31, q31, S31, M31, H31, J31⟩ := id V28
  have hin31 : ¬ ((0 : Int32) < 0 ∨ cl31.slots.size ≤ ((0 : Int32)).toNatClampNeg) := inb_of S31 ⟨by decide, by decide⟩
  obtain ⟨T32, h32, X32, e32, W32, st32⟩ := stI X28 hx hZ e28 Ar31 (j := (0 : Int32)) hin31 (g := (mkF m 49 #[.val (.int (3 : Int32)), .val (.int p2), .val (.int p3), .val (.int p4), .val (.int p5)] [(.int p2), (.int (0 : Int32)), (.ref b28), (.ref b28)])) rfl rfl (hb hby d1_49)
  have V32 : Arv Z h32 b28 k28 .int (3 : Int32) [(.int p2), (.int (0 : Int32)), (.int (0 : Int32))] (.int (0 : Int32)) := Arv.set Ar31 q31 S31 M31 H31 J31 rfl W32 0 rfl (Nat.le_of_ble_eq_true rfl)
  have N32 := Fr.snoc X32 N0 G28
  have z33 : n0 ≤ h32.size := Nat.le_trans z30 (Keep.of_wr W32).1
  have c34 := c29.wr W32 (Or.inr sz28)
  obtain ⟨cl36, Ar36, q36, S36, M36, H36, J36⟩ := id V32
  have hin36 : ¬ ((1 : Int32) < 0 ∨ cl36.slots.size ≤ ((1 : Int32)).toNatClampNeg) := inb_of S36 ⟨by decide, by decide⟩
  obtain ⟨T37, h37, X37, e37, W37, st37⟩ := stI X32 hx hZ e32 Ar36 (j := (1 : Int32)) hin36 (g := (mkF m 53 #[.val (.int (3 : Int32)), .val (.int p2), .val (.int p3), .val (.int p4), .val (.int p5)] [(.int p3), (.int (1 : Int32)), (.ref b28), (.ref b28)])) rfl rfl (hb hby d1_53)
  have V37 : Arv Z h37 b28 k28 .int (3 : Int32) [(.int p2), (.int p3), (.int (0 : Int32))] (.int (0 : Int32)) := Arv.set Ar36 q36 S36 M36 H36 J36 rfl W37 1 rfl (Nat.le_of_ble_eq_true rfl)
  have N37 := Fr.snoc X37 N32 G28
  have z38 : n0 ≤ h37.size := Nat.le_trans z33 (Keep.of_wr W37).1
  have c39 := c34.wr W37 (Or.inr sz28)
  obtain ⟨cl41, Ar41, q41, S41, M41, H41, J41⟩ := id V37
  have hin41 : ¬ ((2 : Int32) < 0 ∨ cl41.slots.size ≤ ((2 : Int32)).toNatClampNeg) := inb_of S41 ⟨by decide, by decide⟩
  obtain ⟨T42, h42, X42, e42, W42, st42⟩ := stI X37 hx hZ e37 Ar41 (j := (2 : Int32)) hin41 (g := (mkF m 57 #[.val (.int (3 : Int32)), .val (.int p2), .val (.int p3), .val (.int p4), .val (.int p5)] [(.int p4), (.int (2 : Int32)), (.ref b28), (.ref b28)])) rfl rfl (hb hby d1_57)
  have V42 : Arv Z h42 b28 k28 .int (3 : Int32) [(.int p2), (.int p3), (.int p4)] (.int (0 : Int32)) := Arv.set Ar41 q41 S41 M41 H41 J41 rfl W42 2 rfl (Nat.le_of_ble_eq_true rfl)
  have N42 := Fr.snoc X42 N37 G28
  have z43 : n0 ≤ h42.size := Nat.le_trans z38 (Keep.of_wr W42).1
  have c44 := c39.wr W42 (Or.inr sz28)
  have pre46 : ∀ t, Steps p.tables e below (T42.setTop (mkF m 58 #[.val (.int (3 : Int32)), .val (.int p2), .val (.int p3), .val (.int p4), .val (.int p5)] [(.ref b28)])) t → Steps p.tables e below (s₁.setTop (entryFrame m #[(.int (3 : Int32)), (.int p2), (.int p3), (.int p4), (.int p5)] 5)) t := fun t kt => pre0 t (by
    show Steps p.tables e below (s₁.setTop (mkF m 0 #[.val (.int (3 : Int32)), .val (.int p2), .val (.int p3), .val (.int p4), .val (.int p5)] [])) _
    refine XS.iloadN X0.here hx rfl (hb hby d1_0) rfl ?_
    show Steps p.tables e below (s₁.setTop (mkF m 1 #[.val (.int (3 : Int32)), .val (.int p2), .val (.int p3), .val (.int p4), .val (.int p5)] [(.int (3 : Int32))])) _
    refine XS.ifYes X0.here hx rfl (pc0 := 1) (pc' := 8) rfl (hb hby d1_1) rfl ((if0 _ _).trans (feq (by decide : ¬ ((3 : Int32) = (0 : Int32)))).2) (by decide) (by decide) ?_
    show Steps p.tables e below (s₁.setTop (mkF m 8 #[.val (.int (3 : Int32)), .val (.int p2), .val (.int p3), .val (.int p4), .val (.int p5)] [])) _
    refine XS.iloadN X0.here hx rfl (hb hby d1_8) rfl ?_
    show Steps p.tables e below (s₁.setTop (mkF m 9 #[.val (.int (3 : Int32)), .val (.int p2), .val (.int p3), .val (.int p4), .val (.int p5)] [(.int (3 : Int32))])) _
    refine XS.iconst X0.here hx rfl (hb hby d1_9) ?_
    show Steps p.tables e below (s₁.setTop (mkF m 10 #[.val (.int (3 : Int32)), .val (.int p2), .val (.int p3), .val (.int p4), .val (.int p5)] [(.int (1 : Int32)), (.int (3 : Int32))])) _
    refine XS.icmpYes X0.here hx rfl (pc0 := 10) (pc' := 21) rfl (hb hby d1_10) rfl (feq (by decide : ¬ ((3 : Int32) = (1 : Int32)))).2 (by decide) (by decide) ?_
    show Steps p.tables e below (s₁.setTop (mkF m 21 #[.val (.int (3 : Int32)), .val (.int p2), .val (.int p3), .val (.int p4), .val (.int p5)] [])) _
    refine XS.iloadN X0.here hx rfl (hb hby d1_21) rfl ?_
    show Steps p.tables e below (s₁.setTop (mkF m 22 #[.val (.int (3 : Int32)), .val (.int p2), .val (.int p3), .val (.int p4), .val (.int p5)] [(.int (3 : Int32))])) _
    refine XS.iconst X0.here hx rfl (hb hby d1_22) ?_
    show Steps p.tables e below (s₁.setTop (mkF m 23 #[.val (.int (3 : Int32)), .val (.int p2), .val (.int p3), .val (.int p4), .val (.int p5)] [(.int (2 : Int32)), (.int (3 : Int32))])) _
    refine XS.icmpYes X0.here hx rfl (pc0 := 23) (pc' := 38) rfl (hb hby d1_23) rfl (feq (by decide : ¬ ((3 : Int32) = (2 : Int32)))).2 (by decide) (by decide) ?_
    show Steps p.tables e below (s₁.setTop (mkF m 38 #[.val (.int (3 : Int32)), .val (.int p2), .val (.int p3), .val (.int p4), .val (.int p5)] [])) _
    refine XS.iloadN X0.here hx rfl (hb hby d1_38) rfl ?_
    show Steps p.tables e below (s₁.setTop (mkF m 39 #[.val (.int (3 : Int32)), .val (.int p2), .val (.int p3), .val (.int p4), .val (.int p5)] [(.int (3 : Int32))])) _
    refine XS.iconst X0.here hx rfl (hb hby d1_39) ?_
    show Steps p.tables e below (s₁.setTop (mkF m 40 #[.val (.int (3 : Int32)), .val (.int p2), .val (.int p3), .val (.int p4), .val (.int p5)] [(.int (3 : Int32)), (.int (3 : Int32))])) _
    refine XS.icmpNo X0.here hx rfl (hb hby d1_40) rfl (teq (by decide : (3 : Int32) = (3 : Int32))).2 ?_
    show Steps p.tables e below (s₁.setTop (mkF m 43 #[.val (.int (3 : Int32)), .val (.int p2), .val (.int p3), .val (.int p4), .val (.int p5)] [])) _
    refine XS.iconst X0.here hx rfl (hb hby d1_43) ?_
    show Steps p.tables e below (s₁.setTop (mkF m 44 #[.val (.int (3 : Int32)), .val (.int p2), .val (.int p3), .val (.int p4), .val (.int p5)] [(.int (3 : Int32))])) _
    refine st28 _ ?_
    show Steps p.tables e below (T28.setTop (mkF m 46 #[.val (.int (3 : Int32)), .val (.int p2), .val (.int p3), .val (.int p4), .val (.int p5)] [(.ref b28)])) _
    refine XS.dup X28.here hx rfl (hb hby d1_46) rfl rfl ?_
    show Steps p.tables e below (T28.setTop (mkF m 47 #[.val (.int (3 : Int32)), .val (.int p2), .val (.int p3), .val (.int p4), .val (.int p5)] [(.ref b28), (.ref b28)])) _
    refine XS.iconst X28.here hx rfl (hb hby d1_47) ?_
    show Steps p.tables e below (T28.setTop (mkF m 48 #[.val (.int (3 : Int32)), .val (.int p2), .val (.int p3), .val (.int p4), .val (.int p5)] [(.int (0 : Int32)), (.ref b28), (.ref b28)])) _
    refine XS.iloadN X28.here hx rfl (hb hby d1_48) rfl ?_
    show Steps p.tables e below (T28.setTop (mkF m 49 #[.val (.int (3 : Int32)), .val (.int p2), .val (.int p3), .val (.int p4), .val (.int p5)] [(.int p2), (.int (0 : Int32)), (.ref b28), (.ref b28)])) _
    refine st32 _ ?_
    show Steps p.tables e below (T32.setTop (mkF m 50 #[.val (.int (3 : Int32)), .val (.int p2), .val (.int p3), .val (.int p4), .val (.int p5)] [(.ref b28)])) _
    refine XS.dup X32.here hx rfl (hb hby d1_50) rfl rfl ?_
    show Steps p.tables e below (T32.setTop (mkF m 51 #[.val (.int (3 : Int32)), .val (.int p2), .val (.int p3), .val (.int p4), .val (.int p5)] [(.ref b28), (.ref b28)])) _
    refine XS.iconst X32.here hx rfl (hb hby d1_51) ?_
    show Steps p.tables e below (T32.setTop (mkF m 52 #[.val (.int (3 : Int32)), .val (.int p2), .val (.int p3), .val (.int p4), .val (.int p5)] [(.int (1 : Int32)), (.ref b28), (.ref b28)])) _
    refine XS.iloadN X32.here hx rfl (hb hby d1_52) rfl ?_
    show Steps p.tables e below (T32.setTop (mkF m 53 #[.val (.int (3 : Int32)), .val (.int p2), .val (.int p3), .val (.int p4), .val (.int p5)] [(.int p3), (.int (1 : Int32)), (.ref b28), (.ref b28)])) _
    refine st37 _ ?_
    show Steps p.tables e below (T37.setTop (mkF m 54 #[.val (.int (3 : Int32)), .val (.int p2), .val (.int p3), .val (.int p4), .val (.int p5)] [(.ref b28)])) _
    refine XS.dup X37.here hx rfl (hb hby d1_54) rfl rfl ?_
    show Steps p.tables e below (T37.setTop (mkF m 55 #[.val (.int (3 : Int32)), .val (.int p2), .val (.int p3), .val (.int p4), .val (.int p5)] [(.ref b28), (.ref b28)])) _
    refine XS.iconst X37.here hx rfl (hb hby d1_55) ?_
    show Steps p.tables e below (T37.setTop (mkF m 56 #[.val (.int (3 : Int32)), .val (.int p2), .val (.int p3), .val (.int p4), .val (.int p5)] [(.int (2 : Int32)), (.ref b28), (.ref b28)])) _
    refine XS.iloadN X37.here hx rfl (hb hby d1_56) rfl ?_
    show Steps p.tables e below (T37.setTop (mkF m 57 #[.val (.int (3 : Int32)), .val (.int p2), .val (.int p3), .val (.int p4), .val (.int p5)] [(.int p4), (.int (2 : Int32)), (.ref b28), (.ref b28)])) _
    refine st42 _ ?_
    exact kt)
  have hQ : Q1_3 Z p2 p3 p4 p5 h0 n0 (some (.ref b28)) h42 _ := ⟨b28, k28, rfl, N42, c44, sz28, G28, V42⟩
  exact own_retA X42 hx Bd.notSynchronized rfl Bd.returns rfl (hb hby d1_58) pre46 (show Q1_3 Z p2 p3 p4 p5 h0 n0 _ _ _ from (by rw [e42]; exact hQ)) (by decide) (by decide)
theorem d1_59 : decode method_2_code 59 = .ok (.iconst 4, 1) := by decide +kernel
theorem d1_60 : decode method_2_code 60 = .ok (.newarray .int, 2) := by decide +kernel
theorem d1_62 : decode method_2_code 62 = .ok (.dup, 1) := by decide +kernel
theorem d1_63 : decode method_2_code 63 = .ok (.iconst 0, 1) := by decide +kernel
theorem d1_64 : decode method_2_code 64 = .ok (.iload_n 1, 1) := by decide +kernel
theorem d1_65 : decode method_2_code 65 = .ok (.iastore, 1) := by decide +kernel
theorem d1_66 : decode method_2_code 66 = .ok (.dup, 1) := by decide +kernel
theorem d1_67 : decode method_2_code 67 = .ok (.iconst 1, 1) := by decide +kernel
theorem d1_68 : decode method_2_code 68 = .ok (.iload_n 2, 1) := by decide +kernel
theorem d1_69 : decode method_2_code 69 = .ok (.iastore, 1) := by decide +kernel
theorem d1_70 : decode method_2_code 70 = .ok (.dup, 1) := by decide +kernel
theorem d1_71 : decode method_2_code 71 = .ok (.iconst 2, 1) := by decide +kernel
theorem d1_72 : decode method_2_code 72 = .ok (.iload_n 3, 1) := by decide +kernel
theorem d1_73 : decode method_2_code 73 = .ok (.iastore, 1) := by decide +kernel
theorem d1_74 : decode method_2_code 74 = .ok (.dup, 1) := by decide +kernel
theorem d1_75 : decode method_2_code 75 = .ok (.iconst 3, 1) := by decide +kernel
theorem d1_76 : decode method_2_code 76 = .ok (.iload 4, 2) := by decide +kernel
theorem d1_78 : decode method_2_code 78 = .ok (.iastore, 1) := by decide +kernel
theorem d1_79 : decode method_2_code 79 = .ok (.areturn, 1) := by decide +kernel
def Q1_4 (Z : State) (p2 p3 p4 p5 : Int32) (h0 : Heap) (n0 : Nat) (v : Option Value) (h : Heap) (L : List Loc) : Prop := ∃ (r : Addr) (kc : ClassId), v = some (.ref r) ∧ Fr n0 L ∧ Keep h0 h [] ∧ h0.size ≤ r ∧ n0 ≤ r ∧ Arv Z h r kc .int (4 : Int32) [(.int p2), (.int p3), (.int p4), (.int p5)] (.int (0 : Int32))
set_option maxRecDepth 65536 in
set_option maxHeartbeats 40000000 in
theorem rm1_4 (l : Launch) (Z : State) (a0 : Array Value) (hw : ∀ d ∈ tables_1, d.before a0 Z = true) (ws : List Jvm.Cond) (p2 p3 p4 p5 : Int32) (h0 : Heap) (n0 : Nat) (Z0 : n0 ≤ h0.size) :
    MetFree l (⟨"com/example/avocet/avocet/index/PostingsOccurrencesPinLaw", "pick", "(IIIII)[I"⟩ : MethodName) (head1 (Jvm.Cond.code (⟨"com/example/avocet/avocet/index/PostingsOccurrencesPinLaw", "pick", "(IIIII)[I"⟩ : MethodName) method_2_code 5 (some (.array .int)) :: ws) ({ frames := 0, cells := 1, slots := 4, locals := 0 } : Room)) (fun a U => a = #[(.int (4 : Int32)), (.int p2), (.int p3), (.int p4), (.int p5)] ∧ Z.Warmed39 U.vm ∧ U.heap = h0) (fun _ _ _ _ _ => True) (fun _ U o U' => ∃ v L, o = .returned v ∧ Q1_4 Z p2 p3 p4 p5 h0 n0 v U'.heap L ∧ FrameEnd U o U' L ({ frames := 0, cells := 1, slots := 4, locals := 0 } : Room).cells ({ frames := 0, cells := 1, slots := 4, locals := 0 } : Room).slots) := by
  refine MetFree.of_bodySF (plainFor_of_name pn_1) hisR ?_
  intro p e s m args below meth c s₁ Bd hml0 hP hK
  obtain ⟨rfl, hZ, hh⟩ := hP
  have hx := Bd.exec
  have hby := Bd.bytes
  have hml : c.maxLocals = 5 := hml0
  have hown : s.vm.findClass "com/example/avocet/avocet/index/PostingsOccurrencesPinLaw" = some m.cls := findClass_of_methodNamed Bd.named
  have hnm := (name_of_methodNamed Bd.named Bd.method).1
  have X0 : Stand p l e ({ frames := 0, cells := 1, slots := 4, locals := 0 } : Room) s m #[(.int (4 : Int32)), (.int p2), (.int p3), (.int p4), (.int p5)] below meth c s₁ [] 0 0 := Stand.of_body Bd
  have e0 : s₁.heap = h0 := by rw [← hh, Bd.state]; rfl
  have N0 := Fr.nil n0
  have pre0 : ∀ t, Steps p.tables e below (s₁.setTop (mkF m 0 #[.val (.int (4 : Int32)), .val (.int p2), .val (.int p3), .val (.int p4), .val (.int p5)] [])) t → Steps p.tables e below (s₁.setTop (entryFrame m #[(.int (4 : Int32)), (.int p2), (.int p3), (.int p4), (.int p5)] 5)) t := fun t k => castTop (ef_0 m (4 : Int32) p2 p3 p4 p5) k
  obtain ⟨T47, h47, k47, X47, e47, E47, A47, st47⟩ := newP X0 hx hZ (hw _ (List.mem_of_getElem? (i := 4) rfl)) e0 (g := (mkF m 60 #[.val (.int (4 : Int32)), .val (.int p2), .val (.int p3), .val (.int p4), .val (.int p5)] [(.int (4 : Int32))])) rfl (hb hby d1_60) rfl (by decide) (cap := 4) (by decide) (by decide) (by decide) (by decide)
  obtain ⟨b47, g47⟩ : ∃ z, z = h0.size := ⟨_, rfl⟩
  rw [← g47] at A47 st47
  have G47 : n0 ≤ b47 := Nat.le_trans Z0 (Nat.le_of_eq g47.symm)
  have sz47 : h0.size ≤ b47 := Nat.le_trans (Keep.refl h0 []).1 (Nat.le_of_eq g47.symm)
  have c48 := (Keep.refl h0 []).ext E47
  have z49 : n0 ≤ h47.size := Nat.le_trans Z0 E47.1
  have V47 : Arv Z h47 b47 k47 .int (4 : Int32) [(.int (0 : Int32)), (.int (0 : Int32)), (.int (0 : Int32)), (.int (0 : Int32))] (.int (0 : Int32)) := (Arv.new A47 (by decide)).pad (pad_rep [] (.int (0 : Int32)) 4)
  obtain ⟨cl50, Ar50, q50, S50, M50, H50, J50⟩ := id V47
  have hin50 : ¬ ((0 : Int32) < 0 ∨ cl50.slots.size ≤ ((0 : Int32)).toNatClampNeg) := inb_of S50 ⟨by decide, by decide⟩
  obtain ⟨T51, h51, X51, e51, W51, st51⟩ := stI X47 hx hZ e47 Ar50 (j := (0 : Int32)) hin50 (g := (mkF m 65 #[.val (.int (4 : Int32)), .val (.int p2), .val (.int p3), .val (.int p4), .val (.int p5)] [(.int p2), (.int (0 : Int32)), (.ref b47), (.ref b47)])) rfl rfl (hb hby d1_65)
  have V51 : Arv Z h51 b47 k47 .int (4 : Int32) [(.int p2), (.int (0 : Int32)), (.int (0 : Int32)), (.int (0 : Int32))] (.int (0 : Int32)) := Arv.set Ar50 q50 S50 M50 H50 J50 rfl W51 0 rfl (Nat.le_of_ble_eq_true rfl)
  have N51 := Fr.snoc X51 N0 G47
  have z52 : n0 ≤ h51.size := Nat.le_trans z49 (Keep.of_wr W51).1
  have c53 := c48.wr W51 (Or.inr sz47)
  obtain ⟨cl55, Ar55, q55, S55, M55, H55, J55⟩ := id V51
  have hin55 : ¬ ((1 : Int32) < 0 ∨ cl55.slots.size ≤ ((1 : Int32)).toNatClampNeg) := inb_of S55 ⟨by decide, by decide⟩
  obtain ⟨T56, h56, X56, e56, W56, st56⟩ := stI X51 hx hZ e51 Ar55 (j := (1 : Int32)) hin55 (g := (mkF m 69 #[.val (.int (4 : Int32)), .val (.int p2), .val (.int p3), .val (.int p4), .val (.int p5)] [(.int p3), (.int (1 : Int32)), (.ref b47), (.ref b47)])) rfl rfl (hb hby d1_69)
  have V56 : Arv Z h56 b47 k47 .int (4 : Int32) [(.int p2), (.int p3), (.int (0 : Int32)), (.int (0 : Int32))] (.int (0 : Int32)) := Arv.set Ar55 q55 S55 M55 H55 J55 rfl W56 1 rfl (Nat.le_of_ble_eq_true rfl)
  have N56 := Fr.snoc X56 N51 G47
  have z57 : n0 ≤ h56.size := Nat.le_trans z52 (Keep.of_wr W56).1
  have c58 := c53.wr W56 (Or.inr sz47)
  obtain ⟨cl60, Ar60, q60, S60, M60, H60, J60⟩ := id V56
  have hin60 : ¬ ((2 : Int32) < 0 ∨ cl60.slots.size ≤ ((2 : Int32)).toNatClampNeg) := inb_of S60 ⟨by decide, by decide⟩
  obtain ⟨T61, h61, X61, e61, W61, st61⟩ := stI X56 hx hZ e56 Ar60 (j := (2 : Int32)) hin60 (g := (mkF m 73 #[.val (.int (4 : Int32)), .val (.int p2), .val (.int p3), .val (.int p4), .val (.int p5)] [(.int p4), (.int (2 : Int32)), (.ref b47), (.ref b47)])) rfl rfl (hb hby d1_73)
  have V61 : Arv Z h61 b47 k47 .int (4 : Int32) [(.int p2), (.int p3), (.int p4), (.int (0 : Int32))] (.int (0 : Int32)) := Arv.set Ar60 q60 S60 M60 H60 J60 rfl W61 2 rfl (Nat.le_of_ble_eq_true rfl)
  have N61 := Fr.snoc X61 N56 G47
  have z62 : n0 ≤ h61.size := Nat.le_trans z57 (Keep.of_wr W61).1
  have c63 := c58.wr W61 (Or.inr sz47)
  obtain ⟨cl65, Ar65, q65, S65, M65, H65, J65⟩ := id V61
  have hin65 : ¬ ((3 : Int32) < 0 ∨ cl65.slots.size ≤ ((3 : Int32)).toNatClampNeg) := inb_of S65 ⟨by decide, by decide⟩
  obtain ⟨T66, h66, X66, e66, W66, st66⟩ := stI X61 hx hZ e61 Ar65 (j := (3 : Int32)) hin65 (g := (mkF m 78 #[.val (.int (4 : Int32)), .val (.int p2), .val (.int p3), .val (.int p4), .val (.int p5)] [(.int p5), (.int (3 : Int32)), (.ref b47), (.ref b47)])) rfl rfl (hb hby d1_78)
  have V66 : Arv Z h66 b47 k47 .int (4 : Int32) [(.int p2), (.int p3), (.int p4), (.int p5)] (.int (0 : Int32)) := Arv.set Ar65 q65 S65 M65 H65 J65 rfl W66 3 rfl (Nat.le_of_ble_eq_true rfl)
  have N66 := Fr.snoc X66 N61 G47
  have z67 : n0 ≤ h66.size := Nat.le_trans z62 (Keep.of_wr W66).1
  have c68 := c63.wr W66 (Or.inr sz47)
  have pre70 : ∀ t, Steps p.tables e below (T66.setTop (mkF m 79 #[.val (.int (4 : Int32)), .val (.int p2), .val (.int p3), .val (.int p4), .val (.int p5)] [(.ref b47)])) t → Steps p.tables e below (s₁.setTop (entryFrame m #[(.int (4 : Int32)), (.int p2), (.int p3), (.int p4), (.int p5)] 5)) t := fun t kt => pre0 t (by
    show Steps p.tables e below (s₁.setTop (mkF m 0 #[.val (.int (4 : Int32)), .val (.int p2), .val (.int p3), .val (.int p4), .val (.int p5)] [])) _
    refine XS.iloadN X0.here hx rfl (hb hby d1_0) rfl ?_
    show Steps p.tables e below (s₁.setTop (mkF m 1 #[.val (.int (4 : Int32)), .val (.int p2), .val (.int p3), .val (.int p4), .val (.int p5)] [(.int (4 : Int32))])) _
    refine XS.ifYes X0.here hx rfl (pc0 := 1) (pc' := 8) rfl (hb hby d1_1) rfl ((if0 _ _).trans (feq (by decide : ¬ ((4 : Int32) = (0 : Int32)))).2) (by decide) (by decide) ?_
    show Steps p.tables e below (s₁.setTop (mkF m 8 #[.val (.int (4 : Int32)), .val (.int p2), .val (.int p3), .val (.int p4), .val (.int p5)] [])) _
    refine XS.iloadN X0.here hx rfl (hb hby d1_8) rfl ?_
    show Steps p.tables e below (s₁.setTop (mkF m 9 #[.val (.int (4 : Int32)), .val (.int p2), .val (.int p3), .val (.int p4), .val (.int p5)] [(.int (4 : Int32))])) _
    refine XS.iconst X0.here hx rfl (hb hby d1_9) ?_
    show Steps p.tables e below (s₁.setTop (mkF m 10 #[.val (.int (4 : Int32)), .val (.int p2), .val (.int p3), .val (.int p4), .val (.int p5)] [(.int (1 : Int32)), (.int (4 : Int32))])) _
    refine XS.icmpYes X0.here hx rfl (pc0 := 10) (pc' := 21) rfl (hb hby d1_10) rfl (feq (by decide : ¬ ((4 : Int32) = (1 : Int32)))).2 (by decide) (by decide) ?_
    show Steps p.tables e below (s₁.setTop (mkF m 21 #[.val (.int (4 : Int32)), .val (.int p2), .val (.int p3), .val (.int p4), .val (.int p5)] [])) _
    refine XS.iloadN X0.here hx rfl (hb hby d1_21) rfl ?_
    show Steps p.tables e below (s₁.setTop (mkF m 22 #[.val (.int (4 : Int32)), .val (.int p2), .val (.int p3), .val (.int p4), .val (.int p5)] [(.int (4 : Int32))])) _
    refine XS.iconst X0.here hx rfl (hb hby d1_22) ?_
    show Steps p.tables e below (s₁.setTop (mkF m 23 #[.val (.int (4 : Int32)), .val (.int p2), .val (.int p3), .val (.int p4), .val (.int p5)] [(.int (2 : Int32)), (.int (4 : Int32))])) _
    refine XS.icmpYes X0.here hx rfl (pc0 := 23) (pc' := 38) rfl (hb hby d1_23) rfl (feq (by decide : ¬ ((4 : Int32) = (2 : Int32)))).2 (by decide) (by decide) ?_
    show Steps p.tables e below (s₁.setTop (mkF m 38 #[.val (.int (4 : Int32)), .val (.int p2), .val (.int p3), .val (.int p4), .val (.int p5)] [])) _
    refine XS.iloadN X0.here hx rfl (hb hby d1_38) rfl ?_
    show Steps p.tables e below (s₁.setTop (mkF m 39 #[.val (.int (4 : Int32)), .val (.int p2), .val (.int p3), .val (.int p4), .val (.int p5)] [(.int (4 : Int32))])) _
    refine XS.iconst X0.here hx rfl (hb hby d1_39) ?_
    show Steps p.tables e below (s₁.setTop (mkF m 40 #[.val (.int (4 : Int32)), .val (.int p2), .val (.int p3), .val (.int p4), .val (.int p5)] [(.int (3 : Int32)), (.int (4 : Int32))])) _
    refine XS.icmpYes X0.here hx rfl (pc0 := 40) (pc' := 59) rfl (hb hby d1_40) rfl (feq (by decide : ¬ ((4 : Int32) = (3 : Int32)))).2 (by decide) (by decide) ?_
    show Steps p.tables e below (s₁.setTop (mkF m 59 #[.val (.int (4 : Int32)), .val (.int p2), .val (.int p3), .val (.int p4), .val (.int p5)] [])) _
    refine XS.iconst X0.here hx rfl (hb hby d1_59) ?_
    show Steps p.tables e below (s₁.setTop (mkF m 60 #[.val (.int (4 : Int32)), .val (.int p2), .val (.int p3), .val (.int p4), .val (.int p5)] [(.int (4 : Int32))])) _
    refine st47 _ ?_
    show Steps p.tables e below (T47.setTop (mkF m 62 #[.val (.int (4 : Int32)), .val (.int p2), .val (.int p3), .val (.int p4), .val (.int p5)] [(.ref b47)])) _
    refine XS.dup X47.here hx rfl (hb hby d1_62) rfl rfl ?_
    show Steps p.tables e below (T47.setTop (mkF m 63 #[.val (.int (4 : Int32)), .val (.int p2), .val (.int p3), .val (.int p4), .val (.int p5)] [(.ref b47), (.ref b47)])) _
    refine XS.iconst X47.here hx rfl (hb hby d1_63) ?_
    show Steps p.tables e below (T47.setTop (mkF m 64 #[.val (.int (4 : Int32)), .val (.int p2), .val (.int p3), .val (.int p4), .val (.int p5)] [(.int (0 : Int32)), (.ref b47), (.ref b47)])) _
    refine XS.iloadN X47.here hx rfl (hb hby d1_64) rfl ?_
    show Steps p.tables e below (T47.setTop (mkF m 65 #[.val (.int (4 : Int32)), .val (.int p2), .val (.int p3), .val (.int p4), .val (.int p5)] [(.int p2), (.int (0 : Int32)), (.ref b47), (.ref b47)])) _
    refine st51 _ ?_
    show Steps p.tables e below (T51.setTop (mkF m 66 #[.val (.int (4 : Int32)), .val (.int p2), .val (.int p3), .val (.int p4), .val (.int p5)] [(.ref b47)])) _
    refine XS.dup X51.here hx rfl (hb hby d1_66) rfl rfl ?_
    show Steps p.tables e below (T51.setTop (mkF m 67 #[.val (.int (4 : Int32)), .val (.int p2), .val (.int p3), .val (.int p4), .val (.int p5)] [(.ref b47), (.ref b47)])) _
    refine XS.iconst X51.here hx rfl (hb hby d1_67) ?_
    show Steps p.tables e below (T51.setTop (mkF m 68 #[.val (.int (4 : Int32)), .val (.int p2), .val (.int p3), .val (.int p4), .val (.int p5)] [(.int (1 : Int32)), (.ref b47), (.ref b47)])) _
    refine XS.iloadN X51.here hx rfl (hb hby d1_68) rfl ?_
    show Steps p.tables e below (T51.setTop (mkF m 69 #[.val (.int (4 : Int32)), .val (.int p2), .val (.int p3), .val (.int p4), .val (.int p5)] [(.int p3), (.int (1 : Int32)), (.ref b47), (.ref b47)])) _
    refine st56 _ ?_
    show Steps p.tables e below (T56.setTop (mkF m 70 #[.val (.int (4 : Int32)), .val (.int p2), .val (.int p3), .val (.int p4), .val (.int p5)] [(.ref b47)])) _
    refine XS.dup X56.here hx rfl (hb hby d1_70) rfl rfl ?_
    show Steps p.tables e below (T56.setTop (mkF m 71 #[.val (.int (4 : Int32)), .val (.int p2), .val (.int p3), .val (.int p4), .val (.int p5)] [(.ref b47), (.ref b47)])) _
    refine XS.iconst X56.here hx rfl (hb hby d1_71) ?_
    show Steps p.tables e below (T56.setTop (mkF m 72 #[.val (.int (4 : Int32)), .val (.int p2), .val (.int p3), .val (.int p4), .val (.int p5)] [(.int (2 : Int32)), (.ref b47), (.ref b47)])) _
    refine XS.iloadN X56.here hx rfl (hb hby d1_72) rfl ?_
    show Steps p.tables e below (T56.setTop (mkF m 73 #[.val (.int (4 : Int32)), .val (.int p2), .val (.int p3), .val (.int p4), .val (.int p5)] [(.int p4), (.int (2 : Int32)), (.ref b47), (.ref b47)])) _
    refine st61 _ ?_
    show Steps p.tables e below (T61.setTop (mkF m 74 #[.val (.int (4 : Int32)), .val (.int p2), .val (.int p3), .val (.int p4), .val (.int p5)] [(.ref b47)])) _
    refine XS.dup X61.here hx rfl (hb hby d1_74) rfl rfl ?_
    show Steps p.tables e below (T61.setTop (mkF m 75 #[.val (.int (4 : Int32)), .val (.int p2), .val (.int p3), .val (.int p4), .val (.int p5)] [(.ref b47), (.ref b47)])) _
    refine XS.iconst X61.here hx rfl (hb hby d1_75) ?_
    show Steps p.tables e below (T61.setTop (mkF m 76 #[.val (.int (4 : Int32)), .val (.int p2), .val (.int p3), .val (.int p4), .val (.int p5)] [(.int (3 : Int32)), (.ref b47), (.ref b47)])) _
    refine XS.iload X61.here hx rfl (hb hby d1_76) rfl ?_
    show Steps p.tables e below (T61.setTop (mkF m 78 #[.val (.int (4 : Int32)), .val (.int p2), .val (.int p3), .val (.int p4), .val (.int p5)] [(.int p5), (.int (3 : Int32)), (.ref b47), (.ref b47)])) _
    refine st66 _ ?_
    exact kt)
  have hQ : Q1_4 Z p2 p3 p4 p5 h0 n0 (some (.ref b47)) h66 _ := ⟨b47, k47, rfl, N66, c68, sz47, G47, V66⟩
  exact own_retA X66 hx Bd.notSynchronized rfl Bd.returns rfl (hb hby d1_79) pre70 (show Q1_4 Z p2 p3 p4 p5 h0 n0 _ _ _ from (by rw [e66]; exact hQ)) (by decide) (by decide)
theorem ef_68 (m : MethodId) (x0 : Addr) (x1 : Addr) (x2 : Addr) : entryFrame m #[(.ref x0), (.ref x1), (.ref x2)] 3 = mkF m 0 #[.val (.ref x0), .val (.ref x1), .val (.ref x2)] [] := by first | (simp [entryFrame, mkF, argsToLocals, Value.category]; done) | rfl
theorem pn_69 : plainName "com/example/avocet/avocet/index/Postings" = true := by first | (simp [plainName, overriddenIn]; done) | decide +kernel
theorem d2_0 : decode prog_34_method_1_code 0 = .ok (.aload_n 0, 1) := by decide +kernel
theorem d2_1 : decode prog_34_method_1_code 1 = .ok (.invokespecial 1, 3) := by decide +kernel
theorem d2_4 : decode prog_34_method_1_code 4 = .ok (.aload_n 0, 1) := by decide +kernel
theorem d2_5 : decode prog_34_method_1_code 5 = .ok (.aload_n 1, 1) := by decide +kernel
theorem d2_6 : decode prog_34_method_1_code 6 = .ok (.putfield 7, 3) := by decide +kernel
theorem d2_9 : decode prog_34_method_1_code 9 = .ok (.aload_n 0, 1) := by decide +kernel
theorem d2_10 : decode prog_34_method_1_code 10 = .ok (.aload_n 2, 1) := by decide +kernel
theorem d2_11 : decode prog_34_method_1_code 11 = .ok (.putfield 13, 3) := by decide +kernel
theorem d2_14 : decode prog_34_method_1_code 14 = .ok (.return_, 1) := by decide +kernel
def Q2 (Z : State) (a1 a2 a3 : Addr) (h0 : Heap) (n0 : Nat) (v : Option Value) (h : Heap) (L : List Loc) : Prop := v = none ∧ Fr n0 L ∧ Keep h0 h [a1] ∧ Fld Z h a1 "com/example/avocet/avocet/index/Postings" "documents" "[I" (.ref a2) ∧ Fld Z h a1 "com/example/avocet/avocet/index/Postings" "frequencies" "[I" (.ref a3)
set_option maxRecDepth 65536 in
set_option maxHeartbeats 40000000 in
theorem rm2 (l : Launch) (Z : State) (a0 : Array Value) (hw : ∀ d ∈ tables_1, d.before a0 Z = true) (ws : List Jvm.Cond) (a1 a2 a3 : Addr) (h0 : Heap) (n0 : Nat) (Z0 : n0 ≤ h0.size) (E1 : Exa Z h0 a1 "com/example/avocet/avocet/index/Postings") (F1 : Fld Z h0 a1 "com/example/avocet/avocet/index/Postings" "documents" "[I" .null) (F2 : Fld Z h0 a1 "com/example/avocet/avocet/index/Postings" "frequencies" "[I" .null) (G1 : n0 ≤ a1) :
    MetFree l (⟨"com/example/avocet/avocet/index/Postings", "<init>", "([I[I)V"⟩ : MethodName) (head1 (Jvm.Cond.code (⟨"com/example/avocet/avocet/index/Postings", "<init>", "([I[I)V"⟩ : MethodName) prog_34_method_1_code 3 none :: ws) ({ frames := 1, cells := 0, slots := 0, locals := 12 } : Room)) (fun a U => a = #[(.ref a1), (.ref a2), (.ref a3)] ∧ Z.Warmed39 U.vm ∧ U.heap = h0) (fun _ _ _ _ _ => True) (fun _ U o U' => ∃ v L, o = .returned v ∧ Q2 Z a1 a2 a3 h0 n0 v U'.heap L ∧ FrameEnd U o U' L ({ frames := 1, cells := 0, slots := 0, locals := 12 } : Room).cells ({ frames := 1, cells := 0, slots := 0, locals := 12 } : Room).slots) := by
  refine MetFree.of_bodySF (plainFor_of_name pn_69) hisR ?_
  intro p e s m args below meth c s₁ Bd hml0 hP hK
  obtain ⟨rfl, hZ, hh⟩ := hP
  have hx := Bd.exec
  have hby := Bd.bytes
  have hml : c.maxLocals = 3 := hml0
  have hown : s.vm.findClass "com/example/avocet/avocet/index/Postings" = some m.cls := findClass_of_methodNamed Bd.named
  have hnm := (name_of_methodNamed Bd.named Bd.method).1
  have X0 : Stand p l e ({ frames := 1, cells := 0, slots := 0, locals := 12 } : Room) s m #[(.ref a1), (.ref a2), (.ref a3)] below meth c s₁ [] 0 0 := Stand.of_body Bd
  have e0 : s₁.heap = h0 := by rw [← hh, Bd.state]; rfl
  have N0 := Fr.nil n0
  have pre0 : ∀ t, Steps p.tables e below (s₁.setTop (mkF m 0 #[.val (.ref a1), .val (.ref a2), .val (.ref a3)] [])) t → Steps p.tables e below (s₁.setTop (entryFrame m #[(.ref a1), (.ref a2), (.ref a3)] 3)) t := fun t k => castTop (ef_68 m a1 a2 a3) k
  obtain ⟨T71, X71, e71, st71⟩ := initO X0 hx hZ hown (hw _ (List.mem_of_getElem? (i := 11) rfl)) (hw _ (List.mem_of_getElem? (i := 12) rfl)) (hw _ (List.mem_of_getElem? (i := 13) rfl)) e0 (g := (mkF m 1 #[.val (.ref a1), .val (.ref a2), .val (.ref a3)] [(.ref a1)])) rfl (by rw [hml]; rfl) rfl (hb hby d2_1) (by decide) (W := 0) (by show 2 * 0 + _ ≤ _; exact Nat.le_of_eq rfl) (by decide)
  obtain ⟨T72, h72, X72, e72, W72, st72⟩ := putF X71 hx hZ hown (host := "") (Or.inl (hw _ (List.mem_of_getElem? (i := 14) rfl))) Via.refl e71 F1 E1 (Or.inr ⟨(hw _ (List.mem_of_getElem? (i := 15) rfl)), rfl, hnm⟩) (hw _ (List.mem_of_getElem? (i := 6) rfl)) (ty := (.array .int)) (by decide) rfl rfl (g := (mkF m 6 #[.val (.ref a1), .val (.ref a2), .val (.ref a3)] [(.ref a2), (.ref a1)])) rfl rfl (hb hby d2_6)
  have Fw72 := F1.same W72
  have N72 := Fr.snoc X72 N0 G1
  have z73 : n0 ≤ h72.size := Nat.le_trans Z0 (Keep.of_wr W72).1
  have c74 := E1.wr W72
  have c76 := F2.other W72 (Or.inr (slot_ne (Or.inr (hw _ (List.mem_of_getElem? (i := 17) rfl))) (Or.inr (hw _ (List.mem_of_getElem? (i := 15) rfl))) (by decide) (t := (.array .int)) (t' := (.array .int)) (by decide) (by decide)))
  have c77 := (Keep.refl h0 [a1]).wr W72 (Or.inl (List.mem_of_getElem? (i := 0) rfl))
  obtain ⟨T78, h78, X78, e78, W78, st78⟩ := putF X72 hx hZ hown (host := "") (Or.inl (hw _ (List.mem_of_getElem? (i := 16) rfl))) Via.refl e72 c76 c74 (Or.inr ⟨(hw _ (List.mem_of_getElem? (i := 17) rfl)), rfl, hnm⟩) (hw _ (List.mem_of_getElem? (i := 6) rfl)) (ty := (.array .int)) (by decide) rfl rfl (g := (mkF m 11 #[.val (.ref a1), .val (.ref a2), .val (.ref a3)] [(.ref a3), (.ref a1)])) rfl rfl (hb hby d2_11)
  have Fw78 := c76.same W78
  have N78 := Fr.snoc X78 N72 G1
  have z79 : n0 ≤ h78.size := Nat.le_trans z73 (Keep.of_wr W78).1
  have c80 := c74.wr W78
  have c82 := c77.wr W78 (Or.inl (List.mem_of_getElem? (i := 0) rfl))
  have c83 := Fw72.other W78 (Or.inr (slot_ne (Or.inr (hw _ (List.mem_of_getElem? (i := 15) rfl))) (Or.inr (hw _ (List.mem_of_getElem? (i := 17) rfl))) (by decide) (t := (.array .int)) (t' := (.array .int)) (by decide) (by decide)))
  have pre84 : ∀ t, Steps p.tables e below (T78.setTop (mkF m 14 #[.val (.ref a1), .val (.ref a2), .val (.ref a3)] [])) t → Steps p.tables e below (s₁.setTop (entryFrame m #[(.ref a1), (.ref a2), (.ref a3)] 3)) t := fun t kt => pre0 t (by
    show Steps p.tables e below (s₁.setTop (mkF m 0 #[.val (.ref a1), .val (.ref a2), .val (.ref a3)] [])) _
    refine XS.aloadN X0.here hx rfl (hb hby d2_0) rfl rfl ?_
    show Steps p.tables e below (s₁.setTop (mkF m 1 #[.val (.ref a1), .val (.ref a2), .val (.ref a3)] [(.ref a1)])) _
    refine st71 _ ?_
    show Steps p.tables e below (T71.setTop (mkF m 4 #[.val (.ref a1), .val (.ref a2), .val (.ref a3)] [])) _
    refine XS.aloadN X71.here hx rfl (hb hby d2_4) rfl rfl ?_
    show Steps p.tables e below (T71.setTop (mkF m 5 #[.val (.ref a1), .val (.ref a2), .val (.ref a3)] [(.ref a1)])) _
    refine XS.aloadN X71.here hx rfl (hb hby d2_5) rfl rfl ?_
    show Steps p.tables e below (T71.setTop (mkF m 6 #[.val (.ref a1), .val (.ref a2), .val (.ref a3)] [(.ref a2), (.ref a1)])) _
    refine st72 _ ?_
    show Steps p.tables e below (T72.setTop (mkF m 9 #[.val (.ref a1), .val (.ref a2), .val (.ref a3)] [])) _
    refine XS.aloadN X72.here hx rfl (hb hby d2_9) rfl rfl ?_
    show Steps p.tables e below (T72.setTop (mkF m 10 #[.val (.ref a1), .val (.ref a2), .val (.ref a3)] [(.ref a1)])) _
    refine XS.aloadN X72.here hx rfl (hb hby d2_10) rfl rfl ?_
    show Steps p.tables e below (T72.setTop (mkF m 11 #[.val (.ref a1), .val (.ref a2), .val (.ref a3)] [(.ref a3), (.ref a1)])) _
    refine st78 _ ?_
    exact kt)
  have hQ : Q2 Z a1 a2 a3 h0 n0 none h78 _ := ⟨rfl, N78, c82, c83, Fw78⟩
  exact own_retV X78 hx Bd.notSynchronized Bd.returns (hb hby d2_14) pre84 (show Q2 Z a1 a2 a3 h0 n0 _ _ _ from (by rw [e78]; exact hQ)) (by decide) (by decide)
theorem ef_79 (m : MethodId) (x0 : Addr) : entryFrame m #[(.ref x0)] 7 = mkF m 0 #[.val (.ref x0), .unset, .unset, .unset, .unset, .unset, .unset] [] := by first | (simp [entryFrame, mkF, argsToLocals, Value.category]; done) | rfl
theorem d4_0 : decode prog_34_method_3_code 0 = .ok (.lconst 0, 1) := by decide +kernel
theorem d4_1 : decode prog_34_method_3_code 1 = .ok (.lstore_n 1, 1) := by decide +kernel
theorem d4_2 : decode prog_34_method_3_code 2 = .ok (.aload_n 0, 1) := by decide +kernel
theorem d4_3 : decode prog_34_method_3_code 3 = .ok (.getfield 13, 3) := by decide +kernel
theorem d4_6 : decode prog_34_method_3_code 6 = .ok (.astore_n 3, 1) := by decide +kernel
theorem d4_7 : decode prog_34_method_3_code 7 = .ok (.aload_n 3, 1) := by decide +kernel
theorem d4_8 : decode prog_34_method_3_code 8 = .ok (.arraylength, 1) := by decide +kernel
theorem d4_9 : decode prog_34_method_3_code 9 = .ok (.istore 4, 2) := by decide +kernel
theorem d4_11 : decode prog_34_method_3_code 11 = .ok (.iconst 0, 1) := by decide +kernel
theorem d4_12 : decode prog_34_method_3_code 12 = .ok (.istore 5, 2) := by decide +kernel
theorem d4_14 : decode prog_34_method_3_code 14 = .ok (.iload 5, 2) := by decide +kernel
theorem d4_16 : decode prog_34_method_3_code 16 = .ok (.iload 4, 2) := by decide +kernel
theorem d4_18 : decode prog_34_method_3_code 18 = .ok (.if_icmp .ge 21, 3) := by decide +kernel
theorem d4_39 : decode prog_34_method_3_code 39 = .ok (.lload_n 1, 1) := by decide +kernel
theorem d4_40 : decode prog_34_method_3_code 40 = .ok (.lreturn, 1) := by decide +kernel
def Q4_0 (p2 p3 p4 p5 : Int32) (h0 : Heap) (n0 : Nat) (v : Option Value) (h : Heap) (L : List Loc) : Prop := v = some (.long (0 : Int64)) ∧ Fr n0 L ∧ h = h0
set_option maxRecDepth 65536 in
set_option maxHeartbeats 40000000 in
theorem rm4_0 (l : Launch) (Z : State) (a0 : Array Value) (hw : ∀ d ∈ tables_1, d.before a0 Z = true) (ws : List Jvm.Cond) (a1 a3 : Addr) (kc : ClassId) (p2 p3 p4 p5 : Int32) (h0 : Heap) (n0 : Nat) (Z0 : n0 ≤ h0.size) (F2 : Fld Z h0 a1 "com/example/avocet/avocet/index/Postings" "frequencies" "[I" (.ref a3)) (V3 : Arv Z h0 a3 kc .int (0 : Int32) [] (.int (0 : Int32))) :
    MetFree l (⟨"com/example/avocet/avocet/index/Postings", "occurrences", "()J"⟩ : MethodName) (head1 (Jvm.Cond.code (⟨"com/example/avocet/avocet/index/Postings", "occurrences", "()J"⟩ : MethodName) prog_34_method_3_code 7 (some .long) :: ws) ({ frames := 0, cells := 0, slots := 0, locals := 0 } : Room)) (fun a U => a = #[(.ref a1)] ∧ Z.Warmed39 U.vm ∧ U.heap = h0) (fun _ _ _ _ _ => True) (fun _ U o U' => ∃ v L, o = .returned v ∧ Q4_0 p2 p3 p4 p5 h0 n0 v U'.heap L ∧ FrameEnd U o U' L ({ frames := 0, cells := 0, slots := 0, locals := 0 } : Room).cells ({ frames := 0, cells := 0, slots := 0, locals := 0 } : Room).slots) := by
  refine MetFree.of_bodySF (plainFor_of_name pn_69) hisR ?_
  intro p e s m args below meth c s₁ Bd hml0 hP hK
  obtain ⟨rfl, hZ, hh⟩ := hP
  have hx := Bd.exec
  have hby := Bd.bytes
  have hml : c.maxLocals = 7 := hml0
  have hown : s.vm.findClass "com/example/avocet/avocet/index/Postings" = some m.cls := findClass_of_methodNamed Bd.named
  have hnm := (name_of_methodNamed Bd.named Bd.method).1
  have X0 : Stand p l e ({ frames := 0, cells := 0, slots := 0, locals := 0 } : Room) s m #[(.ref a1)] below meth c s₁ [] 0 0 := Stand.of_body Bd
  have e0 : s₁.heap = h0 := by rw [← hh, Bd.state]; rfl
  have N0 := Fr.nil n0
  have pre0 : ∀ t, Steps p.tables e below (s₁.setTop (mkF m 0 #[.val (.ref a1), .unset, .unset, .unset, .unset, .unset, .unset] [])) t → Steps p.tables e below (s₁.setTop (entryFrame m #[(.ref a1)] 7)) t := fun t k => castTop (ef_79 m a1) k
  obtain ⟨T85, X85, e85, st85⟩ := getF X0 hx hZ hown (host := "") (Or.inl (hw _ (List.mem_of_getElem? (i := 16) rfl))) Via.refl e0 F2 (g := (mkF m 3 #[.val (.ref a1), .val (.long (0 : Int64)), .second, .unset, .unset, .unset, .unset] [(.ref a1)])) rfl rfl (hb hby d4_3)
  obtain ⟨cl86, A86, q86, S86, M86, H86, J86⟩ := id V3
  have pre87 : ∀ t, Steps p.tables e below (T85.setTop (mkF m 40 #[.val (.ref a1), .val (.long (0 : Int64)), .second, .val (.ref a3), .val (.int (0 : Int32)), .val (.int (0 : Int32)), .unset] [(.long (0 : Int64))])) t → Steps p.tables e below (s₁.setTop (entryFrame m #[(.ref a1)] 7)) t := fun t kt => pre0 t (by
    show Steps p.tables e below (s₁.setTop (mkF m 0 #[.val (.ref a1), .unset, .unset, .unset, .unset, .unset, .unset] [])) _
    refine XS.lconst X0.here hx rfl (hb hby d4_0) ?_
    show Steps p.tables e below (s₁.setTop (mkF m 1 #[.val (.ref a1), .unset, .unset, .unset, .unset, .unset, .unset] [(.long (0 : Int64))])) _
    refine XS.lstoreN X0.here hx rfl (hb hby d4_1) rfl (l' := #[.val (.ref a1), .val (.long (0 : Int64)), .second, .unset, .unset, .unset, .unset]) rfl ?_
    show Steps p.tables e below (s₁.setTop (mkF m 2 #[.val (.ref a1), .val (.long (0 : Int64)), .second, .unset, .unset, .unset, .unset] [])) _
    refine XS.aloadN X0.here hx rfl (hb hby d4_2) rfl rfl ?_
    show Steps p.tables e below (s₁.setTop (mkF m 3 #[.val (.ref a1), .val (.long (0 : Int64)), .second, .unset, .unset, .unset, .unset] [(.ref a1)])) _
    refine st85 _ ?_
    show Steps p.tables e below (T85.setTop (mkF m 6 #[.val (.ref a1), .val (.long (0 : Int64)), .second, .unset, .unset, .unset, .unset] [(.ref a3)])) _
    refine XS.astoreN X85.here hx rfl (hb hby d4_6) rfl rfl (l' := #[.val (.ref a1), .val (.long (0 : Int64)), .second, .val (.ref a3), .unset, .unset, .unset]) rfl ?_
    show Steps p.tables e below (T85.setTop (mkF m 7 #[.val (.ref a1), .val (.long (0 : Int64)), .second, .val (.ref a3), .unset, .unset, .unset] [])) _
    refine XS.aloadN X85.here hx rfl (hb hby d4_7) rfl rfl ?_
    show Steps p.tables e below (T85.setTop (mkF m 8 #[.val (.ref a1), .val (.long (0 : Int64)), .second, .val (.ref a3), .unset, .unset, .unset] [(.ref a3)])) _
    refine X85.arraylength hx (by rw [e85]; exact A86.1) (State.isArrayOf_alike hZ.alike A86.2.1) (g := (mkF m 8 #[.val (.ref a1), .val (.long (0 : Int64)), .second, .val (.ref a3), .unset, .unset, .unset] [(.ref a3)])) rfl rfl (hb hby d4_8) _ ?_
    rw [len_of S86 M86]
    show Steps p.tables e below (T85.setTop (mkF m 9 #[.val (.ref a1), .val (.long (0 : Int64)), .second, .val (.ref a3), .unset, .unset, .unset] [(.int (0 : Int32))])) _
    refine XS.istore X85.here hx rfl (hb hby d4_9) rfl (l' := #[.val (.ref a1), .val (.long (0 : Int64)), .second, .val (.ref a3), .val (.int (0 : Int32)), .unset, .unset]) rfl ?_
    show Steps p.tables e below (T85.setTop (mkF m 11 #[.val (.ref a1), .val (.long (0 : Int64)), .second, .val (.ref a3), .val (.int (0 : Int32)), .unset, .unset] [])) _
    refine XS.iconst X85.here hx rfl (hb hby d4_11) ?_
    show Steps p.tables e below (T85.setTop (mkF m 12 #[.val (.ref a1), .val (.long (0 : Int64)), .second, .val (.ref a3), .val (.int (0 : Int32)), .unset, .unset] [(.int (0 : Int32))])) _
    refine XS.istore X85.here hx rfl (hb hby d4_12) rfl (l' := #[.val (.ref a1), .val (.long (0 : Int64)), .second, .val (.ref a3), .val (.int (0 : Int32)), .val (.int (0 : Int32)), .unset]) rfl ?_
    show Steps p.tables e below (T85.setTop (mkF m 14 #[.val (.ref a1), .val (.long (0 : Int64)), .second, .val (.ref a3), .val (.int (0 : Int32)), .val (.int (0 : Int32)), .unset] [])) _
    refine XS.iload X85.here hx rfl (hb hby d4_14) rfl ?_
    show Steps p.tables e below (T85.setTop (mkF m 16 #[.val (.ref a1), .val (.long (0 : Int64)), .second, .val (.ref a3), .val (.int (0 : Int32)), .val (.int (0 : Int32)), .unset] [(.int (0 : Int32))])) _
    refine XS.iload X85.here hx rfl (hb hby d4_16) rfl ?_
    show Steps p.tables e below (T85.setTop (mkF m 18 #[.val (.ref a1), .val (.long (0 : Int64)), .second, .val (.ref a3), .val (.int (0 : Int32)), .val (.int (0 : Int32)), .unset] [(.int (0 : Int32)), (.int (0 : Int32))])) _
    refine XS.icmpYes X85.here hx rfl (pc0 := 18) (pc' := 39) rfl (hb hby d4_18) rfl (flt (by decide : ¬ ((0 : Int32) < (0 : Int32)))).2.1 (by decide) (by decide) ?_
    show Steps p.tables e below (T85.setTop (mkF m 39 #[.val (.ref a1), .val (.long (0 : Int64)), .second, .val (.ref a3), .val (.int (0 : Int32)), .val (.int (0 : Int32)), .unset] [])) _
    refine XS.lloadN X85.here hx rfl (hb hby d4_39) rfl ?_
    exact kt)
  exact own_retJ X85 hx Bd.notSynchronized Bd.returns (hb hby d4_40) pre87 (show Q4_0 p2 p3 p4 p5 h0 n0 _ _ _ from ⟨rfl, N0, e85⟩) (by decide) (by decide)
theorem d4_21 : decode prog_34_method_3_code 21 = .ok (.aload_n 3, 1) := by decide +kernel
theorem d4_22 : decode prog_34_method_3_code 22 = .ok (.iload 5, 2) := by decide +kernel
theorem d4_24 : decode prog_34_method_3_code 24 = .ok (.iaload, 1) := by decide +kernel
theorem d4_25 : decode prog_34_method_3_code 25 = .ok (.istore 6, 2) := by decide +kernel
theorem d4_27 : decode prog_34_method_3_code 27 = .ok (.lload_n 1, 1) := by decide +kernel
theorem d4_28 : decode prog_34_method_3_code 28 = .ok (.iload 6, 2) := by decide +kernel
theorem d4_30 : decode prog_34_method_3_code 30 = .ok (.i2l, 1) := by decide +kernel
theorem d4_31 : decode prog_34_method_3_code 31 = .ok (.ladd, 1) := by decide +kernel
theorem d4_32 : decode prog_34_method_3_code 32 = .ok (.lstore_n 1, 1) := by decide +kernel
theorem d4_33 : decode prog_34_method_3_code 33 = .ok (.iinc 5 1, 3) := by decide +kernel
theorem d4_36 : decode prog_34_method_3_code 36 = .ok (.goto (-22), 3) := by decide +kernel
def Q4_1 (p2 p3 p4 p5 : Int32) (h0 : Heap) (n0 : Nat) (v : Option Value) (h : Heap) (L : List Loc) : Prop := v = some (.long ((0 : Int64) + (p2.toInt64))) ∧ Fr n0 L ∧ h = h0
set_option maxRecDepth 65536 in
set_option maxHeartbeats 40000000 in
theorem rm4_1 (l : Launch) (Z : State) (a0 : Array Value) (hw : ∀ d ∈ tables_1, d.before a0 Z = true) (ws : List Jvm.Cond) (a1 a3 : Addr) (kc : ClassId) (p2 p3 p4 p5 : Int32) (h0 : Heap) (n0 : Nat) (Z0 : n0 ≤ h0.size) (F2 : Fld Z h0 a1 "com/example/avocet/avocet/index/Postings" "frequencies" "[I" (.ref a3)) (V3 : Arv Z h0 a3 kc .int (1 : Int32) [(.int p2)] (.int (0 : Int32))) :
    MetFree l (⟨"com/example/avocet/avocet/index/Postings", "occurrences", "()J"⟩ : MethodName) (head1 (Jvm.Cond.code (⟨"com/example/avocet/avocet/index/Postings", "occurrences", "()J"⟩ : MethodName) prog_34_method_3_code 7 (some .long) :: ws) ({ frames := 0, cells := 0, slots := 0, locals := 0 } : Room)) (fun a U => a = #[(.ref a1)] ∧ Z.Warmed39 U.vm ∧ U.heap = h0) (fun _ _ _ _ _ => True) (fun _ U o U' => ∃ v L, o = .returned v ∧ Q4_1 p2 p3 p4 p5 h0 n0 v U'.heap L ∧ FrameEnd U o U' L ({ frames := 0, cells := 0, slots := 0, locals := 0 } : Room).cells ({ frames := 0, cells := 0, slots := 0, locals := 0 } : Room).slots) := by
  refine MetFree.of_bodySF (plainFor_of_name pn_69) hisR ?_
  intro p e s m args below meth c s₁ Bd hml0 hP hK
  obtain ⟨rfl, hZ, hh⟩ := hP
  have hx := Bd.exec
  have hby := Bd.bytes
  have hml : c.maxLocals = 7 := hml0
  have hown : s.vm.findClass "com/example/avocet/avocet/index/Postings" = some m.cls := findClass_of_methodNamed Bd.named
  have hnm := (name_of_methodNamed Bd.named Bd.method).1
  have X0 : Stand p l e ({ frames := 0, cells := 0, slots := 0, locals := 0 } : Room) s m #[(.ref a1)] below meth c s₁ [] 0 0 := Stand.of_body Bd
  have e0 : s₁.heap = h0 := by rw [← hh, Bd.state]; rfl
  have N0 := Fr.nil n0
  have pre0 : ∀ t, Steps p.tables e below (s₁.setTop (mkF m 0 #[.val (.ref a1), .unset, .unset, .unset, .unset, .unset, .unset] [])) t → Steps p.tables e below (s₁.setTop (entryFrame m #[(.ref a1)] 7)) t := fun t k => castTop (ef_79 m a1) k
  obtain ⟨T88, X88, e88, st88⟩ := getF X0 hx hZ hown (host := "") (Or.inl (hw _ (List.mem_of_getElem? (i := 16) rfl))) Via.refl e0 F2 (g := (mkF m 3 #[.val (.ref a1), .val (.long (0 : Int64)), .second, .unset, .unset, .unset, .unset] [(.ref a1)])) rfl rfl (hb hby d4_3)
  obtain ⟨cl89, A89, q89, S89, M89, H89, J89⟩ := id V3
  obtain ⟨cl90, A90, q90, S90, M90, H90, J90⟩ := id V3
  have hin90 : ¬ ((0 : Int32) < 0 ∨ cl90.slots.size ≤ ((0 : Int32)).toNatClampNeg) := inb_of S90 ⟨by decide, by decide⟩
  have hat90 : cl90.slots[((0 : Int32)).toNatClampNeg]? = some (.int p2) := H90.at hin90 rfl
  have pre91 : ∀ t, Steps p.tables e below (T88.setTop (mkF m 40 #[.val (.ref a1), .val (.long ((0 : Int64) + (p2.toInt64))), .second, .val (.ref a3), .val (.int (1 : Int32)), .val (.int (1 : Int32)), .val (.int p2)] [(.long ((0 : Int64) + (p2.toInt64)))])) t → Steps p.tables e below (s₁.setTop (entryFrame m #[(.ref a1)] 7)) t := fun t kt => pre0 t (by
    show Steps p.tables e below (s₁.setTop (mkF m 0 #[.val (.ref a1), .unset, .unset, .unset, .unset, .unset, .unset] [])) _
    refine XS.lconst X0.here hx rfl (hb hby d4_0) ?_
    show Steps p.tables e below (s₁.setTop (mkF m 1 #[.val (.ref a1), .unset, .unset, .unset, .unset, .unset, .unset] [(.long (0 : Int64))])) _
    refine XS.lstoreN X0.here hx rfl (hb hby d4_1) rfl (l' := #[.val (.ref a1), .val (.long (0 : Int64)), .second, .unset, .unset, .unset, .unset]) rfl ?_
    show Steps p.tables e below (s₁.setTop (mkF m 2 #[.val (.ref a1), .val (.long (0 : Int64)), .second, .unset, .unset, .unset, .unset] [])) _
    refine XS.aloadN X0.here hx rfl (hb hby d4_2) rfl rfl ?_
    show Steps p.tables e below (s₁.setTop (mkF m 3 #[.val (.ref a1), .val (.long (0 : Int64)), .second, .unset, .unset, .unset, .unset] [(.ref a1)])) _
    refine st88 _ ?_
    show Steps p.tables e below (T88.setTop (mkF m 6 #[.val (.ref a1), .val (.long (0 : Int64)), .second, .unset, .unset, .unset, .unset] [(.ref a3)])) _
    refine XS.astoreN X88.here hx rfl (hb hby d4_6) rfl rfl (l' := #[.val (.ref a1), .val (.long (0 : Int64)), .second, .val (.ref a3), .unset, .unset, .unset]) rfl ?_
    show Steps p.tables e below (T88.setTop (mkF m 7 #[.val (.ref a1), .val (.long (0 : Int64)), .second, .val (.ref a3), .unset, .unset, .unset] [])) _
    refine XS.aloadN X88.here hx rfl (hb hby d4_7) rfl rfl ?_
    show Steps p.tables e below (T88.setTop (mkF m 8 #[.val (.ref a1), .val (.long (0 : Int64)), .second, .val (.ref a3), .unset, .unset, .unset] [(.ref a3)])) _
    refine X88.arraylength hx (by rw [e88]; exact A89.1) (State.isArrayOf_alike hZ.alike A89.2.1) (g := (mkF m 8 #[.val (.ref a1), .val (.long (0 : Int64)), .second, .val (.ref a3), .unset, .unset, .unset] [(.ref a3)])) rfl rfl (hb hby d4_8) _ ?_
    rw [len_of S89 M89]
    show Steps p.tables e below (T88.setTop (mkF m 9 #[.val (.ref a1), .val (.long (0 : Int64)), .second, .val (.ref a3), .unset, .unset, .unset] [(.int (1 : Int32))])) _
    refine XS.istore X88.here hx rfl (hb hby d4_9) rfl (l' := #[.val (.ref a1), .val (.long (0 : Int64)), .second, .val (.ref a3), .val (.int (1 : Int32)), .unset, .unset]) rfl ?_
    show Steps p.tables e below (T88.setTop (mkF m 11 #[.val (.ref a1), .val (.long (0 : Int64)), .second, .val (.ref a3), .val (.int (1 : Int32)), .unset, .unset] [])) _
    refine XS.iconst X88.here hx rfl (hb hby d4_11) ?_
    show Steps p.tables e below (T88.setTop (mkF m 12 #[.val (.ref a1), .val (.long (0 : Int64)), .second, .val (.ref a3), .val (.int (1 : Int32)), .unset, .unset] [(.int (0 : Int32))])) _
    refine XS.istore X88.here hx rfl (hb hby d4_12) rfl (l' := #[.val (.ref a1), .val (.long (0 : Int64)), .second, .val (.ref a3), .val (.int (1 : Int32)), .val (.int (0 : Int32)), .unset]) rfl ?_
    show Steps p.tables e below (T88.setTop (mkF m 14 #[.val (.ref a1), .val (.long (0 : Int64)), .second, .val (.ref a3), .val (.int (1 : Int32)), .val (.int (0 : Int32)), .unset] [])) _
    refine XS.iload X88.here hx rfl (hb hby d4_14) rfl ?_
    show Steps p.tables e below (T88.setTop (mkF m 16 #[.val (.ref a1), .val (.long (0 : Int64)), .second, .val (.ref a3), .val (.int (1 : Int32)), .val (.int (0 : Int32)), .unset] [(.int (0 : Int32))])) _
    refine XS.iload X88.here hx rfl (hb hby d4_16) rfl ?_
    show Steps p.tables e below (T88.setTop (mkF m 18 #[.val (.ref a1), .val (.long (0 : Int64)), .second, .val (.ref a3), .val (.int (1 : Int32)), .val (.int (0 : Int32)), .unset] [(.int (1 : Int32)), (.int (0 : Int32))])) _
    refine XS.icmpNo X88.here hx rfl (hb hby d4_18) rfl (tlt (by decide : (0 : Int32) < (1 : Int32))).2.1 ?_
    show Steps p.tables e below (T88.setTop (mkF m 21 #[.val (.ref a1), .val (.long (0 : Int64)), .second, .val (.ref a3), .val (.int (1 : Int32)), .val (.int (0 : Int32)), .unset] [])) _
    refine XS.aloadN X88.here hx rfl (hb hby d4_21) rfl rfl ?_
    show Steps p.tables e below (T88.setTop (mkF m 22 #[.val (.ref a1), .val (.long (0 : Int64)), .second, .val (.ref a3), .val (.int (1 : Int32)), .val (.int (0 : Int32)), .unset] [(.ref a3)])) _
    refine XS.iload X88.here hx rfl (hb hby d4_22) rfl ?_
    show Steps p.tables e below (T88.setTop (mkF m 24 #[.val (.ref a1), .val (.long (0 : Int64)), .second, .val (.ref a3), .val (.int (1 : Int32)), .val (.int (0 : Int32)), .unset] [(.int (0 : Int32)), (.ref a3)])) _
    refine X88.iaload hx (j := (0 : Int32)) (v := (.int p2)) (by rw [e88]; exact A90.1) (State.isArrayOf_alike hZ.alike A90.2.1) A90.2.2 hin90 hat90 (g := (mkF m 24 #[.val (.ref a1), .val (.long (0 : Int64)), .second, .val (.ref a3), .val (.int (1 : Int32)), .val (.int (0 : Int32)), .unset] [(.int (0 : Int32)), (.ref a3)])) rfl rfl (hb hby d4_24) _ ?_
    show Steps p.tables e below (T88.setTop (mkF m 25 #[.val (.ref a1), .val (.long (0 : Int64)), .second, .val (.ref a3), .val (.int (1 : Int32)), .val (.int (0 : Int32)), .unset] [(.int p2)])) _
    refine XS.istore X88.here hx rfl (hb hby d4_25) rfl (l' := #[.val (.ref a1), .val (.long (0 : Int64)), .second, .val (.ref a3), .val (.int (1 : Int32)), .val (.int (0 : Int32)), .val (.int p2)]) rfl ?_
    show Steps p.tables e below (T88.setTop (mkF m 27 #[.val (.ref a1), .val (.long (0 : Int64)), .second, .val (.ref a3), .val (.int (1 : Int32)), .val (.int (0 : Int32)), .val (.int p2)] [])) _
    refine XS.lloadN X88.here hx rfl (hb hby d4_27) rfl ?_
    show Steps p.tables e below (T88.setTop (mkF m 28 #[.val (.ref a1), .val (.long (0 : Int64)), .second, .val (.ref a3), .val (.int (1 : Int32)), .val (.int (0 : Int32)), .val (.int p2)] [(.long (0 : Int64))])) _
    refine XS.iload X88.here hx rfl (hb hby d4_28) rfl ?_
    show Steps p.tables e below (T88.setTop (mkF m 30 #[.val (.ref a1), .val (.long (0 : Int64)), .second, .val (.ref a3), .val (.int (1 : Int32)), .val (.int (0 : Int32)), .val (.int p2)] [(.int p2), (.long (0 : Int64))])) _
    refine XS.i2l X88.here hx rfl (hb hby d4_30) rfl ?_
    show Steps p.tables e below (T88.setTop (mkF m 31 #[.val (.ref a1), .val (.long (0 : Int64)), .second, .val (.ref a3), .val (.int (1 : Int32)), .val (.int (0 : Int32)), .val (.int p2)] [(.long (p2.toInt64)), (.long (0 : Int64))])) _
    refine XS.ladd X88.here hx rfl (hb hby d4_31) rfl ?_
    show Steps p.tables e below (T88.setTop (mkF m 32 #[.val (.ref a1), .val (.long (0 : Int64)), .second, .val (.ref a3), .val (.int (1 : Int32)), .val (.int (0 : Int32)), .val (.int p2)] [(.long ((0 : Int64) + (p2.toInt64)))])) _
    refine XS.lstoreN X88.here hx rfl (hb hby d4_32) rfl (l' := #[.val (.ref a1), .val (.long ((0 : Int64) + (p2.toInt64))), .second, .val (.ref a3), .val (.int (1 : Int32)), .val (.int (0 : Int32)), .val (.int p2)]) rfl ?_
    show Steps p.tables e below (T88.setTop (mkF m 33 #[.val (.ref a1), .val (.long ((0 : Int64) + (p2.toInt64))), .second, .val (.ref a3), .val (.int (1 : Int32)), .val (.int (0 : Int32)), .val (.int p2)] [])) _
    refine XS.iinc X88.here hx rfl (hb hby d4_33) rfl (l' := #[.val (.ref a1), .val (.long ((0 : Int64) + (p2.toInt64))), .second, .val (.ref a3), .val (.int (1 : Int32)), .val (.int (1 : Int32)), .val (.int p2)]) rfl ?_
    show Steps p.tables e below (T88.setTop (mkF m 36 #[.val (.ref a1), .val (.long ((0 : Int64) + (p2.toInt64))), .second, .val (.ref a3), .val (.int (1 : Int32)), .val (.int (1 : Int32)), .val (.int p2)] [])) _
    refine XS.goto X88.here hx rfl (pc0 := 36) (pc' := 14) rfl (hb hby d4_36) (by decide) (by decide) ?_
    show Steps p.tables e below (T88.setTop (mkF m 14 #[.val (.ref a1), .val (.long ((0 : Int64) + (p2.toInt64))), .second, .val (.ref a3), .val (.int (1 : Int32)), .val (.int (1 : Int32)), .val (.int p2)] [])) _
    refine XS.iload X88.here hx rfl (hb hby d4_14) rfl ?_
    show Steps p.tables e below (T88.setTop (mkF m 16 #[.val (.ref a1), .val (.long ((0 : Int64) + (p2.toInt64))), .second, .val (.ref a3), .val (.int (1 : Int32)), .val (.int (1 : Int32)), .val (.int p2)] [(.int (1 : Int32))])) _
    refine XS.iload X88.here hx rfl (hb hby d4_16) rfl ?_
    show Steps p.tables e below (T88.setTop (mkF m 18 #[.val (.ref a1), .val (.long ((0 : Int64) + (p2.toInt64))), .second, .val (.ref a3), .val (.int (1 : Int32)), .val (.int (1 : Int32)), .val (.int p2)] [(.int (1 : Int32)), (.int (1 : Int32))])) _
    refine XS.icmpYes X88.here hx rfl (pc0 := 18) (pc' := 39) rfl (hb hby d4_18) rfl (flt (by decide : ¬ ((1 : Int32) < (1 : Int32)))).2.1 (by decide) (by decide) ?_
    show Steps p.tables e below (T88.setTop (mkF m 39 #[.val (.ref a1), .val (.long ((0 : Int64) + (p2.toInt64))), .second, .val (.ref a3), .val (.int (1 : Int32)), .val (.int (1 : Int32)), .val (.int p2)] [])) _
    refine XS.lloadN X88.here hx rfl (hb hby d4_39) rfl ?_
    exact kt)
  exact own_retJ X88 hx Bd.notSynchronized Bd.returns (hb hby d4_40) pre91 (show Q4_1 p2 p3 p4 p5 h0 n0 _ _ _ from ⟨rfl, N0, e88⟩) (by decide) (by decide)
def Q4_2 (p2 p3 p4 p5 : Int32) (h0 : Heap) (n0 : Nat) (v : Option Value) (h : Heap) (L : List Loc) : Prop := v = some (.long (((0 : Int64) + (p2.toInt64)) + (p3.toInt64))) ∧ Fr n0 L ∧ h = h0
set_option maxRecDepth 65536 in
set_option maxHeartbeats 40000000 in
theorem rm4_2 (l : Launch) (Z : State) (a0 : Array Value) (hw : ∀ d ∈ tables_1, d.before a0 Z = true) (ws : List Jvm.Cond) (a1 a3 : Addr) (kc : ClassId) (p2 p3 p4 p5 : Int32) (h0 : Heap) (n0 : Nat) (Z0 : n0 ≤ h0.size) (F2 : Fld Z h0 a1 "com/example/avocet/avocet/index/Postings" "frequencies" "[I" (.ref a3)) (V3 : Arv Z h0 a3 kc .int (2 : Int32) [(.int p2), (.int p3)] (.int (0 : Int32))) :
    MetFree l (⟨"com/example/avocet/avocet/index/Postings", "occurrences", "()J"⟩ : MethodName) (head1 (Jvm.Cond.code (⟨"com/example/avocet/avocet/index/Postings", "occurrences", "()J"⟩ : MethodName) prog_34_method_3_code 7 (some .long) :: ws) ({ frames := 0, cells := 0, slots := 0, locals := 0 } : Room)) (fun a U => a = #[(.ref a1)] ∧ Z.Warmed39 U.vm ∧ U.heap = h0) (fun _ _ _ _ _ => True) (fun _ U o U' => ∃ v L, o = .returned v ∧ Q4_2 p2 p3 p4 p5 h0 n0 v U'.heap L ∧ FrameEnd U o U' L ({ frames := 0, cells := 0, slots := 0, locals := 0 } : Room).cells ({ frames := 0, cells := 0, slots := 0, locals := 0 } : Room).slots) := by
  refine MetFree.of_bodySF (plainFor_of_name pn_69) hisR ?_
  intro p e s m args below meth c s₁ Bd hml0 hP hK
  obtain ⟨rfl, hZ, hh⟩ := hP
  have hx := Bd.exec
  have hby := Bd.bytes
  have hml : c.maxLocals = 7 := hml0
  have hown : s.vm.findClass "com/example/avocet/avocet/index/Postings" = some m.cls := findClass_of_methodNamed Bd.named
  have hnm := (name_of_methodNamed Bd.named Bd.method).1
  have X0 : Stand p l e ({ frames := 0, cells := 0, slots := 0, locals := 0 } : Room) s m #[(.ref a1)] below meth c s₁ [] 0 0 := Stand.of_body Bd
  have e0 : s₁.heap = h0 := by rw [← hh, Bd.state]; rfl
  have N0 := Fr.nil n0
  have pre0 : ∀ t, Steps p.tables e below (s₁.setTop (mkF m 0 #[.val (.ref a1), .unset, .unset, .unset, .unset, .unset, .unset] [])) t → Steps p.tables e below (s₁.setTop (entryFrame m #[(.ref a1)] 7)) t := fun t k => castTop (ef_79 m a1) k
  obtain ⟨T92, X92, e92, st92⟩ := getF X0 hx hZ hown (host := "") (Or.inl (hw _ (List.mem_of_getElem? (i := 16) rfl))) Via.refl e0 F2 (g := (mkF m 3 #[.val (.ref a1), .val (.long (0 : Int64)), .second, .unset, .unset, .unset, .unset] [(.ref a1)])) rfl rfl (hb hby d4_3)
  obtain ⟨cl93, A93, q93, S93, M93, H93, J93⟩ := id V3
  obtain ⟨cl94, A94, q94, S94, M94, H94, J94⟩ := id V3
  have hin94 : ¬ ((0 : Int32) < 0 ∨ cl94.slots.size ≤ ((0 : Int32)).toNatClampNeg) := inb_of S94 ⟨by decide, by decide⟩
  have hat94 : cl94.slots[((0 : Int32)).toNatClampNeg]? = some (.int p2) := H94.at hin94 rfl
  obtain ⟨cl95, A95, q95, S95, M95, H95, J95⟩ := id V3
  have hin95 : ¬ ((1 : Int32) < 0 ∨ cl95.slots.size ≤ ((1 : Int32)).toNatClampNeg) := inb_of S95 ⟨by decide, by decide⟩
  have hat95 : cl95.slots[((1 : Int32)).toNatClampNeg]? = some (.int p3) := H95.at hin95 rfl
  have pre96 : ∀ t, Steps p.tables e below (T92.setTop (mkF m 40 #[.val (.ref a1), .val (.long (((0 : Int64) + (p2.toInt64)) + (p3.toInt64))), .second, .val (.ref a3), .val (.int (2 : Int32)), .val (.int (2 : Int32)), .val (.int p3)] [(.long (((0 : Int64) + (p2.toInt64)) + (p3.toInt64)))])) t → Steps p.tables e below (s₁.setTop (entryFrame m #[(.ref a1)] 7)) t := fun t kt => pre0 t (by
    show Steps p.tables e below (s₁.setTop (mkF m 0 #[.val (.ref a1), .unset, .unset, .unset, .unset, .unset, .unset] [])) _
    refine XS.lconst X0.here hx rfl (hb hby d4_0) ?_
    show Steps p.tables e below (s₁.setTop (mkF m 1 #[.val (.ref a1), .unset, .unset, .unset, .unset, .unset, .unset] [(.long (0 : Int64))])) _
    refine XS.lstoreN X0.here hx rfl (hb hby d4_1) rfl (l' := #[.val (.ref a1), .val (.long (0 : Int64)), .second, .unset, .unset, .unset, .unset]) rfl ?_
    show Steps p.tables e below (s₁.setTop (mkF m 2 #[.val (.ref a1), .val (.long (0 : Int64)), .second, .unset, .unset, .unset, .unset] [])) _
    refine XS.aloadN X0.here hx rfl (hb hby d4_2) rfl rfl ?_
    show Steps p.tables e below (s₁.setTop (mkF m 3 #[.val (.ref a1), .val (.long (0 : Int64)), .second, .unset, .unset, .unset, .unset] [(.ref a1)])) _
    refine st92 _ ?_
    show Steps p.tables e below (T92.setTop (mkF m 6 #[.val (.ref a1), .val (.long (0 : Int64)), .second, .unset, .unset, .unset, .unset] [(.ref a3)])) _
    refine XS.astoreN X92.here hx rfl (hb hby d4_6) rfl rfl (l' := #[.val (.ref a1), .val (.long (0 : Int64)), .second, .val (.ref a3), .unset, .unset, .unset]) rfl ?_
    show Steps p.tables e below (T92.setTop (mkF m 7 #[.val (.ref a1), .val (.long (0 : Int64)), .second, .val (.ref a3), .unset, .unset, .unset] [])) _
    refine XS.aloadN X92.here hx rfl (hb hby d4_7) rfl rfl ?_
    show Steps p.tables e below (T92.setTop (mkF m 8 #[.val (.ref a1), .val (.long (0 : Int64)), .second, .val (.ref a3), .unset, .unset, .unset] [(.ref a3)])) _
    refine X92.arraylength hx (by rw [e92]; exact A93.1) (State.isArrayOf_alike hZ.alike A93.2.1) (g := (mkF m 8 #[.val (.ref a1), .val (.long (0 : Int64)), .second, .val (.ref a3), .unset, .unset, .unset] [(.ref a3)])) rfl rfl (hb hby d4_8) _ ?_
    rw [len_of S93 M93]
    show Steps p.tables e below (T92.setTop (mkF m 9 #[.val (.ref a1), .val (.long (0 : Int64)), .second, .val (.ref a3), .unset, .unset, .unset] [(.int (2 : Int32))])) _
    refine XS.istore X92.here hx rfl (hb hby d4_9) rfl (l' := #[.val (.ref a1), .val (.long (0 : Int64)), .second, .val (.ref a3), .val (.int (2 : Int32)), .unset, .unset]) rfl ?_
    show Steps p.tables e below (T92.setTop (mkF m 11 #[.val (.ref a1), .val (.long (0 : Int64)), .second, .val (.ref a3), .val (.int (2 : Int32)), .unset, .unset] [])) _
    refine XS.iconst X92.here hx rfl (hb hby d4_11) ?_
    show Steps p.tables e below (T92.setTop (mkF m 12 #[.val (.ref a1), .val (.long (0 : Int64)), .second, .val (.ref a3), .val (.int (2 : Int32)), .unset, .unset] [(.int (0 : Int32))])) _
    refine XS.istore X92.here hx rfl (hb hby d4_12) rfl (l' := #[.val (.ref a1), .val (.long (0 : Int64)), .second, .val (.ref a3), .val (.int (2 : Int32)), .val (.int (0 : Int32)), .unset]) rfl ?_
    show Steps p.tables e below (T92.setTop (mkF m 14 #[.val (.ref a1), .val (.long (0 : Int64)), .second, .val (.ref a3), .val (.int (2 : Int32)), .val (.int (0 : Int32)), .unset] [])) _
    refine XS.iload X92.here hx rfl (hb hby d4_14) rfl ?_
    show Steps p.tables e below (T92.setTop (mkF m 16 #[.val (.ref a1), .val (.long (0 : Int64)), .second, .val (.ref a3), .val (.int (2 : Int32)), .val (.int (0 : Int32)), .unset] [(.int (0 : Int32))])) _
    refine XS.iload X92.here hx rfl (hb hby d4_16) rfl ?_
    show Steps p.tables e below (T92.setTop (mkF m 18 #[.val (.ref a1), .val (.long (0 : Int64)), .second, .val (.ref a3), .val (.int (2 : Int32)), .val (.int (0 : Int32)), .unset] [(.int (2 : Int32)), (.int (0 : Int32))])) _
    refine XS.icmpNo X92.here hx rfl (hb hby d4_18) rfl (tlt (by decide : (0 : Int32) < (2 : Int32))).2.1 ?_
    show Steps p.tables e below (T92.setTop (mkF m 21 #[.val (.ref a1), .val (.long (0 : Int64)), .second, .val (.ref a3), .val (.int (2 : Int32)), .val (.int (0 : Int32)), .unset] [])) _
    refine XS.aloadN X92.here hx rfl (hb hby d4_21) rfl rfl ?_
    show Steps p.tables e below (T92.setTop (mkF m 22 #[.val (.ref a1), .val (.long (0 : Int64)), .second, .val (.ref a3), .val (.int (2 : Int32)), .val (.int (0 : Int32)), .unset] [(.ref a3)])) _
    refine XS.iload X92.here hx rfl (hb hby d4_22) rfl ?_
    show Steps p.tables e below (T92.setTop (mkF m 24 #[.val (.ref a1), .val (.long (0 : Int64)), .second, .val (.ref a3), .val (.int (2 : Int32)), .val (.int (0 : Int32)), .unset] [(.int (0 : Int32)), (.ref a3)])) _
    refine X92.iaload hx (j := (0 : Int32)) (v := (.int p2)) (by rw [e92]; exact A94.1) (State.isArrayOf_alike hZ.alike A94.2.1) A94.2.2 hin94 hat94 (g := (mkF m 24 #[.val (.ref a1), .val (.long (0 : Int64)), .second, .val (.ref a3), .val (.int (2 : Int32)), .val (.int (0 : Int32)), .unset] [(.int (0 : Int32)), (.ref a3)])) rfl rfl (hb hby d4_24) _ ?_
    show Steps p.tables e below (T92.setTop (mkF m 25 #[.val (.ref a1), .val (.long (0 : Int64)), .second, .val (.ref a3), .val (.int (2 : Int32)), .val (.int (0 : Int32)), .unset] [(.int p2)])) _
    refine XS.istore X92.here hx rfl (hb hby d4_25) rfl (l' := #[.val (.ref a1), .val (.long (0 : Int64)), .second, .val (.ref a3), .val (.int (2 : Int32)), .val (.int (0 : Int32)), .val (.int p2)]) rfl ?_
    show Steps p.tables e below (T92.setTop (mkF m 27 #[.val (.ref a1), .val (.long (0 : Int64)), .second, .val (.ref a3), .val (.int (2 : Int32)), .val (.int (0 : Int32)), .val (.int p2)] [])) _
    refine XS.lloadN X92.here hx rfl (hb hby d4_27) rfl ?_
    show Steps p.tables e below (T92.setTop (mkF m 28 #[.val (.ref a1), .val (.long (0 : Int64)), .second, .val (.ref a3), .val (.int (2 : Int32)), .val (.int (0 : Int32)), .val (.int p2)] [(.long (0 : Int64))])) _
    refine XS.iload X92.here hx rfl (hb hby d4_28) rfl ?_
    show Steps p.tables e below (T92.setTop (mkF m 30 #[.val (.ref a1), .val (.long (0 : Int64)), .second, .val (.ref a3), .val (.int (2 : Int32)), .val (.int (0 : Int32)), .val (.int p2)] [(.int p2), (.long (0 : Int64))])) _
    refine XS.i2l X92.here hx rfl (hb hby d4_30) rfl ?_
    show Steps p.tables e below (T92.setTop (mkF m 31 #[.val (.ref a1), .val (.long (0 : Int64)), .second, .val (.ref a3), .val (.int (2 : Int32)), .val (.int (0 : Int32)), .val (.int p2)] [(.long (p2.toInt64)), (.long (0 : Int64))])) _
    refine XS.ladd X92.here hx rfl (hb hby d4_31) rfl ?_
    show Steps p.tables e below (T92.setTop (mkF m 32 #[.val (.ref a1), .val (.long (0 : Int64)), .second, .val (.ref a3), .val (.int (2 : Int32)), .val (.int (0 : Int32)), .val (.int p2)] [(.long ((0 : Int64) + (p2.toInt64)))])) _
    refine XS.lstoreN X92.here hx rfl (hb hby d4_32) rfl (l' := #[.val (.ref a1), .val (.long ((0 : Int64) + (p2.toInt64))), .second, .val (.ref a3), .val (.int (2 : Int32)), .val (.int (0 : Int32)), .val (.int p2)]) rfl ?_
    show Steps p.tables e below (T92.setTop (mkF m 33 #[.val (.ref a1), .val (.long ((0 : Int64) + (p2.toInt64))), .second, .val (.ref a3), .val (.int (2 : Int32)), .val (.int (0 : Int32)), .val (.int p2)] [])) _
    refine XS.iinc X92.here hx rfl (hb hby d4_33) rfl (l' := #[.val (.ref a1), .val (.long ((0 : Int64) + (p2.toInt64))), .second, .val (.ref a3), .val (.int (2 : Int32)), .val (.int (1 : Int32)), .val (.int p2)]) rfl ?_
    show Steps p.tables e below (T92.setTop (mkF m 36 #[.val (.ref a1), .val (.long ((0 : Int64) + (p2.toInt64))), .second, .val (.ref a3), .val (.int (2 : Int32)), .val (.int (1 : Int32)), .val (.int p2)] [])) _
    refine XS.goto X92.here hx rfl (pc0 := 36) (pc' := 14) rfl (hb hby d4_36) (by decide) (by decide) ?_
    show Steps p.tables e below (T92.setTop (mkF m 14 #[.val (.ref a1), .val (.long ((0 : Int64) + (p2.toInt64))), .second, .val (.ref a3), .val (.int (2 : Int32)), .val (.int (1 : Int32)), .val (.int p2)] [])) _
    refine XS.iload X92.here hx rfl (hb hby d4_14) rfl ?_
    show Steps p.tables e below (T92.setTop (mkF m 16 #[.val (.ref a1), .val (.long ((0 : Int64) + (p2.toInt64))), .second, .val (.ref a3), .val (.int (2 : Int32)), .val (.int (1 : Int32)), .val (.int p2)] [(.int (1 : Int32))])) _
    refine XS.iload X92.here hx rfl (hb hby d4_16) rfl ?_
    show Steps p.tables e below (T92.setTop (mkF m 18 #[.val (.ref a1), .val (.long ((0 : Int64) + (p2.toInt64))), .second, .val (.ref a3), .val (.int (2 : Int32)), .val (.int (1 : Int32)), .val (.int p2)] [(.int (2 : Int32)), (.int (1 : Int32))])) _
    refine XS.icmpNo X92.here hx rfl (hb hby d4_18) rfl (tlt (by decide : (1 : Int32) < (2 : Int32))).2.1 ?_
    show Steps p.tables e below (T92.setTop (mkF m 21 #[.val (.ref a1), .val (.long ((0 : Int64) + (p2.toInt64))), .second, .val (.ref a3), .val (.int (2 : Int32)), .val (.int (1 : Int32)), .val (.int p2)] [])) _
    refine XS.aloadN X92.here hx rfl (hb hby d4_21) rfl rfl ?_
    show Steps p.tables e below (T92.setTop (mkF m 22 #[.val (.ref a1), .val (.long ((0 : Int64) + (p2.toInt64))), .second, .val (.ref a3), .val (.int (2 : Int32)), .val (.int (1 : Int32)), .val (.int p2)] [(.ref a3)])) _
    refine XS.iload X92.here hx rfl (hb hby d4_22) rfl ?_
    show Steps p.tables e below (T92.setTop (mkF m 24 #[.val (.ref a1), .val (.long ((0 : Int64) + (p2.toInt64))), .second, .val (.ref a3), .val (.int (2 : Int32)), .val (.int (1 : Int32)), .val (.int p2)] [(.int (1 : Int32)), (.ref a3)])) _
    refine X92.iaload hx (j := (1 : Int32)) (v := (.int p3)) (by rw [e92]; exact A95.1) (State.isArrayOf_alike hZ.alike A95.2.1) A95.2.2 hin95 hat95 (g := (mkF m 24 #[.val (.ref a1), .val (.long ((0 : Int64) + (p2.toInt64))), .second, .val (.ref a3), .val (.int (2 : Int32)), .val (.int (1 : Int32)), .val (.int p2)] [(.int (1 : Int32)), (.ref a3)])) rfl rfl (hb hby d4_24) _ ?_
    show Steps p.tables e below (T92.setTop (mkF m 25 #[.val (.ref a1), .val (.long ((0 : Int64) + (p2.toInt64))), .second, .val (.ref a3), .val (.int (2 : Int32)), .val (.int (1 : Int32)), .val (.int p2)] [(.int p3)])) _
    refine XS.istore X92.here hx rfl (hb hby d4_25) rfl (l' := #[.val (.ref a1), .val (.long ((0 : Int64) + (p2.toInt64))), .second, .val (.ref a3), .val (.int (2 : Int32)), .val (.int (1 : Int32)), .val (.int p3)]) rfl ?_
    show Steps p.tables e below (T92.setTop (mkF m 27 #[.val (.ref a1), .val (.long ((0 : Int64) + (p2.toInt64))), .second, .val (.ref a3), .val (.int (2 : Int32)), .val (.int (1 : Int32)), .val (.int p3)] [])) _
    refine XS.lloadN X92.here hx rfl (hb hby d4_27) rfl ?_
    show Steps p.tables e below (T92.setTop (mkF m 28 #[.val (.ref a1), .val (.long ((0 : Int64) + (p2.toInt64))), .second, .val (.ref a3), .val (.int (2 : Int32)), .val (.int (1 : Int32)), .val (.int p3)] [(.long ((0 : Int64) + (p2.toInt64)))])) _
    refine XS.iload X92.here hx rfl (hb hby d4_28) rfl ?_
    show Steps p.tables e below (T92.setTop (mkF m 30 #[.val (.ref a1), .val (.long ((0 : Int64) + (p2.toInt64))), .second, .val (.ref a3), .val (.int (2 : Int32)), .val (.int (1 : Int32)), .val (.int p3)] [(.int p3), (.long ((0 : Int64) + (p2.toInt64)))])) _
    refine XS.i2l X92.here hx rfl (hb hby d4_30) rfl ?_
    show Steps p.tables e below (T92.setTop (mkF m 31 #[.val (.ref a1), .val (.long ((0 : Int64) + (p2.toInt64))), .second, .val (.ref a3), .val (.int (2 : Int32)), .val (.int (1 : Int32)), .val (.int p3)] [(.long (p3.toInt64)), (.long ((0 : Int64) + (p2.toInt64)))])) _
    refine XS.ladd X92.here hx rfl (hb hby d4_31) rfl ?_
    show Steps p.tables e below (T92.setTop (mkF m 32 #[.val (.ref a1), .val (.long ((0 : Int64) + (p2.toInt64))), .second, .val (.ref a3), .val (.int (2 : Int32)), .val (.int (1 : Int32)), .val (.int p3)] [(.long (((0 : Int64) + (p2.toInt64)) + (p3.toInt64)))])) _
    refine XS.lstoreN X92.here hx rfl (hb hby d4_32) rfl (l' := #[.val (.ref a1), .val (.long (((0 : Int64) + (p2.toInt64)) + (p3.toInt64))), .second, .val (.ref a3), .val (.int (2 : Int32)), .val (.int (1 : Int32)), .val (.int p3)]) rfl ?_
    show Steps p.tables e below (T92.setTop (mkF m 33 #[.val (.ref a1), .val (.long (((0 : Int64) + (p2.toInt64)) + (p3.toInt64))), .second, .val (.ref a3), .val (.int (2 : Int32)), .val (.int (1 : Int32)), .val (.int p3)] [])) _
    refine XS.iinc X92.here hx rfl (hb hby d4_33) rfl (l' := #[.val (.ref a1), .val (.long (((0 : Int64) + (p2.toInt64)) + (p3.toInt64))), .second, .val (.ref a3), .val (.int (2 : Int32)), .val (.int (2 : Int32)), .val (.int p3)]) rfl ?_
    show Steps p.tables e below (T92.setTop (mkF m 36 #[.val (.ref a1), .val (.long (((0 : Int64) + (p2.toInt64)) + (p3.toInt64))), .second, .val (.ref a3), .val (.int (2 : Int32)), .val (.int (2 : Int32)), .val (.int p3)] [])) _
    refine XS.goto X92.here hx rfl (pc0 := 36) (pc' := 14) rfl (hb hby d4_36) (by decide) (by decide) ?_
    show Steps p.tables e below (T92.setTop (mkF m 14 #[.val (.ref a1), .val (.long (((0 : Int64) + (p2.toInt64)) + (p3.toInt64))), .second, .val (.ref a3), .val (.int (2 : Int32)), .val (.int (2 : Int32)), .val (.int p3)] [])) _
    refine XS.iload X92.here hx rfl (hb hby d4_14) rfl ?_
    show Steps p.tables e below (T92.setTop (mkF m 16 #[.val (.ref a1), .val (.long (((0 : Int64) + (p2.toInt64)) + (p3.toInt64))), .second, .val (.ref a3), .val (.int (2 : Int32)), .val (.int (2 : Int32)), .val (.int p3)] [(.int (2 : Int32))])) _
    refine XS.iload X92.here hx rfl (hb hby d4_16) rfl ?_
    show Steps p.tables e below (T92.setTop (mkF m 18 #[.val (.ref a1), .val (.long (((0 : Int64) + (p2.toInt64)) + (p3.toInt64))), .second, .val (.ref a3), .val (.int (2 : Int32)), .val (.int (2 : Int32)), .val (.int p3)] [(.int (2 : Int32)), (.int (2 : Int32))])) _
    refine XS.icmpYes X92.here hx rfl (pc0 := 18) (pc' := 39) rfl (hb hby d4_18) rfl (flt (by decide : ¬ ((2 : Int32) < (2 : Int32)))).2.1 (by decide) (by decide) ?_
    show Steps p.tables e below (T92.setTop (mkF m 39 #[.val (.ref a1), .val (.long (((0 : Int64) + (p2.toInt64)) + (p3.toInt64))), .second, .val (.ref a3), .val (.int (2 : Int32)), .val (.int (2 : Int32)), .val (.int p3)] [])) _
    refine XS.lloadN X92.here hx rfl (hb hby d4_39) rfl ?_
    exact kt)
  exact own_retJ X92 hx Bd.notSynchronized Bd.returns (hb hby d4_40) pre96 (show Q4_2 p2 p3 p4 p5 h0 n0 _ _ _ from ⟨rfl, N0, e92⟩) (by decide) (by decide)
def Q4_3 (p2 p3 p4 p5 : Int32) (h0 : Heap) (n0 : Nat) (v : Option Value) (h : Heap) (L : List Loc) : Prop := v = some (.long ((((0 : Int64) + (p2.toInt64)) + (p3.toInt64)) + (p4.toInt64))) ∧ Fr n0 L ∧ h = h0
set_option maxRecDepth 65536 in
set_option maxHeartbeats 40000000 in
theorem rm4_3 (l : Launch) (Z : State) (a0 : Array Value) (hw : ∀ d ∈ tables_1, d.before a0 Z = true) (ws : List Jvm.Cond) (a1 a3 : Addr) (kc : ClassId) (p2 p3 p4 p5 : Int32) (h0 : Heap) (n0 : Nat) (Z0 : n0 ≤ h0.size) (F2 : Fld Z h0 a1 "com/example/avocet/avocet/index/Postings" "frequencies" "[I" (.ref a3)) (V3 : Arv Z h0 a3 kc .int (3 : Int32) [(.int p2), (.int p3), (.int p4)] (.int (0 : Int32))) :
    MetFree l (⟨"com/example/avocet/avocet/index/Postings", "occurrences", "()J"⟩ : MethodName) (head1 (Jvm.Cond.code (⟨"com/example/avocet/avocet/index/Postings", "occurrences", "()J"⟩ : MethodName) prog_34_method_3_code 7 (some .long) :: ws) ({ frames := 0, cells := 0, slots := 0, locals := 0 } : Room)) (fun a U => a = #[(.ref a1)] ∧ Z.Warmed39 U.vm ∧ U.heap = h0) (fun _ _ _ _ _ => True) (fun _ U o U' => ∃ v L, o = .returned v ∧ Q4_3 p2 p3 p4 p5 h0 n0 v U'.heap L ∧ FrameEnd U o U' L ({ frames := 0, cells := 0, slots := 0, locals := 0 } : Room).cells ({ frames := 0, cells := 0, slots := 0, locals := 0 } : Room).slots) := by
  refine MetFree.of_bodySF (plainFor_of_name pn_69) hisR ?_
  intro p e s m args below meth c s₁ Bd hml0 hP hK
  obtain ⟨rfl, hZ, hh⟩ := hP
  have hx := Bd.exec
  have hby := Bd.bytes
  have hml : c.maxLocals = 7 := hml0
  have hown : s.vm.findClass "com/example/avocet/avocet/index/Postings" = some m.cls := findClass_of_methodNamed Bd.named
  have hnm := (name_of_methodNamed Bd.named Bd.method).1
  have X0 : Stand p l e ({ frames := 0, cells := 0, slots := 0, locals := 0 } : Room) s m #[(.ref a1)] below meth c s₁ [] 0 0 := Stand.of_body Bd
  have e0 : s₁.heap = h0 := by rw [← hh, Bd.state]; rfl
  have N0 := Fr.nil n0
  have pre0 : ∀ t, Steps p.tables e below (s₁.setTop (mkF m 0 #[.val (.ref a1), .unset, .unset, .unset, .unset, .unset, .unset] [])) t → Steps p.tables e below (s₁.setTop (entryFrame m #[(.ref a1)] 7)) t := fun t k => castTop (ef_79 m a1) k
  obtain ⟨T97, X97, e97, st97⟩ := getF X0 hx hZ hown (host := "") (Or.inl (hw _ (List.mem_of_getElem? (i := 16) rfl))) Via.refl e0 F2 (g := (mkF m 3 #[.val (.ref a1), .val (.long (0 : Int64)), .second, .unset, .unset, .unset, .unset] [(.ref a1)])) rfl rfl (hb hby d4_3)
  obtain ⟨cl98, A98, q98, S98, M98, H98, J98⟩ := id V3
  obtain ⟨cl99, A99, q99, S99, M99, H99, J99⟩ := id V3
  have hin99 : ¬ ((0 : Int32) < 0 ∨ cl99.slots.size ≤ ((0 : Int32)).toNatClampNeg) := inb_of S99 ⟨by decide, by decide⟩
  have hat99 : cl99.slots[((0 : Int32)).toNatClampNeg]? = some (.int p2) := H99.at hin99 rfl
  obtain ⟨cl100, A100, q100, S100, M100, H100, J100⟩ := id V3
  have hin100 : ¬ ((1 : Int32) < 0 ∨ cl100.slots.size ≤ ((1 : Int32)).toNatClampNeg) := inb_of S100 ⟨by decide, by decide⟩
  have hat100 : cl100.slots[((1 : Int32)).toNatClampNeg]? = some (.int p3) := H100.at hin100 rfl
  obtain ⟨cl101, A101, q101, S101, M101, H101, J101⟩ := id V3
  have hin101 : ¬ ((2 : Int32) < 0 ∨ cl101.slots.size ≤ ((2 : Int32)).toNatClampNeg) := inb_of S101 ⟨by decide, by decide⟩
  have hat101 : cl101.slots[((2 : Int32)).toNatClampNeg]? = some (.int p4) := H101.at hin101 rfl
  have pre102 : ∀ t, Steps p.tables e below (T97.setTop (mkF m 40 #[.val (.ref a1), .val (.long ((((0 : Int64) + (p2.toInt64)) + (p3.toInt64)) + (p4.toInt64))), .second, .val (.ref a3), .val (.int (3 : Int32)), .val (.int (3 : Int32)), .val (.int p4)] [(.long ((((0 : Int64) + (p2.toInt64)) + (p3.toInt64)) + (p4.toInt64)))])) t → Steps p.tables e below (s₁.setTop (entryFrame m #[(.ref a1)] 7)) t := fun t kt => pre0 t (by
    show Steps p.tables e below (s₁.setTop (mkF m 0 #[.val (.ref a1), .unset, .unset, .unset, .unset, .unset, .unset] [])) _
    refine XS.lconst X0.here hx rfl (hb hby d4_0) ?_
    show Steps p.tables e below (s₁.setTop (mkF m 1 #[.val (.ref a1), .unset, .unset, .unset, .unset, .unset, .unset] [(.long (0 : Int64))])) _
    refine XS.lstoreN X0.here hx rfl (hb hby d4_1) rfl (l' := #[.val (.ref a1), .val (.long (0 : Int64)), .second, .unset, .unset, .unset, .unset]) rfl ?_
    show Steps p.tables e below (s₁.setTop (mkF m 2 #[.val (.ref a1), .val (.long (0 : Int64)), .second, .unset, .unset, .unset, .unset] [])) _
    refine XS.aloadN X0.here hx rfl (hb hby d4_2) rfl rfl ?_
    show Steps p.tables e below (s₁.setTop (mkF m 3 #[.val (.ref a1), .val (.long (0 : Int64)), .second, .unset, .unset, .unset, .unset] [(.ref a1)])) _
    refine st97 _ ?_
    show Steps p.tables e below (T97.setTop (mkF m 6 #[.val (.ref a1), .val (.long (0 : Int64)), .second, .unset, .unset, .unset, .unset] [(.ref a3)])) _
    refine XS.astoreN X97.here hx rfl (hb hby d4_6) rfl rfl (l' := #[.val (.ref a1), .val (.long (0 : Int64)), .second, .val (.ref a3), .unset, .unset, .unset]) rfl ?_
    show Steps p.tables e below (T97.setTop (mkF m 7 #[.val (.ref a1), .val (.long (0 : Int64)), .second, .val (.ref a3), .unset, .unset, .unset] [])) _
    refine XS.aloadN X97.here hx rfl (hb hby d4_7) rfl rfl ?_
    show Steps p.tables e below (T97.setTop (mkF m 8 #[.val (.ref a1), .val (.long (0 : Int64)), .second, .val (.ref a3), .unset, .unset, .unset] [(.ref a3)])) _
    refine X97.arraylength hx (by rw [e97]; exact A98.1) (State.isArrayOf_alike hZ.alike A98.2.1) (g := (mkF m 8 #[.val (.ref a1), .val (.long (0 : Int64)), .second, .val (.ref a3), .unset, .unset, .unset] [(.ref a3)])) rfl rfl (hb hby d4_8) _ ?_
    rw [len_of S98 M98]
    show Steps p.tables e below (T97.setTop (mkF m 9 #[.val (.ref a1), .val (.long (0 : Int64)), .second, .val (.ref a3), .unset, .unset, .unset] [(.int (3 : Int32))])) _
    refine XS.istore X97.here hx rfl (hb hby d4_9) rfl (l' := #[.val (.ref a1), .val (.long (0 : Int64)), .second, .val (.ref a3), .val (.int (3 : Int32)), .unset, .unset]) rfl ?_
    show Steps p.tables e below (T97.setTop (mkF m 11 #[.val (.ref a1), .val (.long (0 : Int64)), .second, .val (.ref a3), .val (.int (3 : Int32)), .unset, .unset] [])) _
    refine XS.iconst X97.here hx rfl (hb hby d4_11) ?_
    show Steps p.tables e below (T97.setTop (mkF m 12 #[.val (.ref a1), .val (.long (0 : Int64)), .second, .val (.ref a3), .val (.int (3 : Int32)), .unset, .unset] [(.int (0 : Int32))])) _
    refine XS.istore X97.here hx rfl (hb hby d4_12) rfl (l' := #[.val (.ref a1), .val (.long (0 : Int64)), .second, .val (.ref a3), .val (.int (3 : Int32)), .val (.int (0 : Int32)), .unset]) rfl ?_
    show Steps p.tables e below (T97.setTop (mkF m 14 #[.val (.ref a1), .val (.long (0 : Int64)), .second, .val (.ref a3), .val (.int (3 : Int32)), .val (.int (0 : Int32)), .unset] [])) _
    refine XS.iload X97.here hx rfl (hb hby d4_14) rfl ?_
    show Steps p.tables e below (T97.setTop (mkF m 16 #[.val (.ref a1), .val (.long (0 : Int64)), .second, .val (.ref a3), .val (.int (3 : Int32)), .val (.int (0 : Int32)), .unset] [(.int (0 : Int32))])) _
    refine XS.iload X97.here hx rfl (hb hby d4_16) rfl ?_
    show Steps p.tables e below (T97.setTop (mkF m 18 #[.val (.ref a1), .val (.long (0 : Int64)), .second, .val (.ref a3), .val (.int (3 : Int32)), .val (.int (0 : Int32)), .unset] [(.int (3 : Int32)), (.int (0 : Int32))])) _
    refine XS.icmpNo X97.here hx rfl (hb hby d4_18) rfl (tlt (by decide : (0 : Int32) < (3 : Int32))).2.1 ?_
    show Steps p.tables e below (T97.setTop (mkF m 21 #[.val (.ref a1), .val (.long (0 : Int64)), .second, .val (.ref a3), .val (.int (3 : Int32)), .val (.int (0 : Int32)), .unset] [])) _
    refine XS.aloadN X97.here hx rfl (hb hby d4_21) rfl rfl ?_
    show Steps p.tables e below (T97.setTop (mkF m 22 #[.val (.ref a1), .val (.long (0 : Int64)), .second, .val (.ref a3), .val (.int (3 : Int32)), .val (.int (0 : Int32)), .unset] [(.ref a3)])) _
    refine XS.iload X97.here hx rfl (hb hby d4_22) rfl ?_
    show Steps p.tables e below (T97.setTop (mkF m 24 #[.val (.ref a1), .val (.long (0 : Int64)), .second, .val (.ref a3), .val (.int (3 : Int32)), .val (.int (0 : Int32)), .unset] [(.int (0 : Int32)), (.ref a3)])) _
    refine X97.iaload hx (j := (0 : Int32)) (v := (.int p2)) (by rw [e97]; exact A99.1) (State.isArrayOf_alike hZ.alike A99.2.1) A99.2.2 hin99 hat99 (g := (mkF m 24 #[.val (.ref a1), .val (.long (0 : Int64)), .second, .val (.ref a3), .val (.int (3 : Int32)), .val (.int (0 : Int32)), .unset] [(.int (0 : Int32)), (.ref a3)])) rfl rfl (hb hby d4_24) _ ?_
    show Steps p.tables e below (T97.setTop (mkF m 25 #[.val (.ref a1), .val (.long (0 : Int64)), .second, .val (.ref a3), .val (.int (3 : Int32)), .val (.int (0 : Int32)), .unset] [(.int p2)])) _
    refine XS.istore X97.here hx rfl (hb hby d4_25) rfl (l' := #[.val (.ref a1), .val (.long (0 : Int64)), .second, .val (.ref a3), .val (.int (3 : Int32)), .val (.int (0 : Int32)), .val (.int p2)]) rfl ?_
    show Steps p.tables e below (T97.setTop (mkF m 27 #[.val (.ref a1), .val (.long (0 : Int64)), .second, .val (.ref a3), .val (.int (3 : Int32)), .val (.int (0 : Int32)), .val (.int p2)] [])) _
    refine XS.lloadN X97.here hx rfl (hb hby d4_27) rfl ?_
    show Steps p.tables e below (T97.setTop (mkF m 28 #[.val (.ref a1), .val (.long (0 : Int64)), .second, .val (.ref a3), .val (.int (3 : Int32)), .val (.int (0 : Int32)), .val (.int p2)] [(.long (0 : Int64))])) _
    refine XS.iload X97.here hx rfl (hb hby d4_28) rfl ?_
    show Steps p.tables e below (T97.setTop (mkF m 30 #[.val (.ref a1), .val (.long (0 : Int64)), .second, .val (.ref a3), .val (.int (3 : Int32)), .val (.int (0 : Int32)), .val (.int p2)] [(.int p2), (.long (0 : Int64))])) _
    refine XS.i2l X97.here hx rfl (hb hby d4_30) rfl ?_
    show Steps p.tables e below (T97.setTop (mkF m 31 #[.val (.ref a1), .val (.long (0 : Int64)), .second, .val (.ref a3), .val (.int (3 : Int32)), .val (.int (0 : Int32)), .val (.int p2)] [(.long (p2.toInt64)), (.long (0 : Int64))])) _
    refine XS.ladd X97.here hx rfl (hb hby d4_31) rfl ?_
    show Steps p.tables e below (T97.setTop (mkF m 32 #[.val (.ref a1), .val (.long (0 : Int64)), .second, .val (.ref a3), .val (.int (3 : Int32)), .val (.int (0 : Int32)), .val (.int p2)] [(.long ((0 : Int64) + (p2.toInt64)))])) _
    refine XS.lstoreN X97.here hx rfl (hb hby d4_32) rfl (l' := #[.val (.ref a1), .val (.long ((0 : Int64) + (p2.toInt64))), .second, .val (.ref a3), .val (.int (3 : Int32)), .val (.int (0 : Int32)), .val (.int p2)]) rfl ?_
    show Steps p.tables e below (T97.setTop (mkF m 33 #[.val (.ref a1), .val (.long ((0 : Int64) + (p2.toInt64))), .second, .val (.ref a3), .val (.int (3 : Int32)), .val (.int (0 : Int32)), .val (.int p2)] [])) _
    refine XS.iinc X97.here hx rfl (hb hby d4_33) rfl (l' := #[.val (.ref a1), .val (.long ((0 : Int64) + (p2.toInt64))), .second, .val (.ref a3), .val (.int (3 : Int32)), .val (.int (1 : Int32)), .val (.int p2)]) rfl ?_
    show Steps p.tables e below (T97.setTop (mkF m 36 #[.val (.ref a1), .val (.long ((0 : Int64) + (p2.toInt64))), .second, .val (.ref a3), .val (.int (3 : Int32)), .val (.int (1 : Int32)), .val (.int p2)] [])) _
    refine XS.goto X97.here hx rfl (pc0 := 36) (pc' := 14) rfl (hb hby d4_36) (by decide) (by decide) ?_
    show Steps p.tables e below (T97.setTop (mkF m 14 #[.val (.ref a1), .val (.long ((0 : Int64) + (p2.toInt64))), .second, .val (.ref a3), .val (.int (3 : Int32)), .val (.int (1 : Int32)), .val (.int p2)] [])) _
    refine XS.iload X97.here hx rfl (hb hby d4_14) rfl ?_
    show Steps p.tables e below (T97.setTop (mkF m 16 #[.val (.ref a1), .val (.long ((0 : Int64) + (p2.toInt64))), .second, .val (.ref a3), .val (.int (3 : Int32)), .val (.int (1 : Int32)), .val (.int p2)] [(.int (1 : Int32))])) _
    refine XS.iload X97.here hx rfl (hb hby d4_16) rfl ?_
    show Steps p.tables e below (T97.setTop (mkF m 18 #[.val (.ref a1), .val (.long ((0 : Int64) + (p2.toInt64))), .second, .val (.ref a3), .val (.int (3 : Int32)), .val (.int (1 : Int32)), .val (.int p2)] [(.int (3 : Int32)), (.int (1 : Int32))])) _
    refine XS.icmpNo X97.here hx rfl (hb hby d4_18) rfl (tlt (by decide : (1 : Int32) < (3 : Int32))).2.1 ?_
    show Steps p.tables e below (T97.setTop (mkF m 21 #[.val (.ref a1), .val (.long ((0 : Int64) + (p2.toInt64))), .second, .val (.ref a3), .val (.int (3 : Int32)), .val (.int (1 : Int32)), .val (.int p2)] [])) _
    refine XS.aloadN X97.here hx rfl (hb hby d4_21) rfl rfl ?_
    show Steps p.tables e below (T97.setTop (mkF m 22 #[.val (.ref a1), .val (.long ((0 : Int64) + (p2.toInt64))), .second, .val (.ref a3), .val (.int (3 : Int32)), .val (.int (1 : Int32)), .val (.int p2)] [(.ref a3)])) _
    refine XS.iload X97.here hx rfl (hb hby d4_22) rfl ?_
    show Steps p.tables e below (T97.setTop (mkF m 24 #[.val (.ref a1), .val (.long ((0 : Int64) + (p2.toInt64))), .second, .val (.ref a3), .val (.int (3 : Int32)), .val (.int (1 : Int32)), .val (.int p2)] [(.int (1 : Int32)), (.ref a3)])) _
    refine X97.iaload hx (j := (1 : Int32)) (v := (.int p3)) (by rw [e97]; exact A100.1) (State.isArrayOf_alike hZ.alike A100.2.1) A100.2.2 hin100 hat100 (g := (mkF m 24 #[.val (.ref a1), .val (.long ((0 : Int64) + (p2.toInt64))), .second, .val (.ref a3), .val (.int (3 : Int32)), .val (.int (1 : Int32)), .val (.int p2)] [(.int (1 : Int32)), (.ref a3)])) rfl rfl (hb hby d4_24) _ ?_
    show Steps p.tables e below (T97.setTop (mkF m 25 #[.val (.ref a1), .val (.long ((0 : Int64) + (p2.toInt64))), .second, .val (.ref a3), .val (.int (3 : Int32)), .val (.int (1 : Int32)), .val (.int p2)] [(.int p3)])) _
    refine XS.istore X97.here hx rfl (hb hby d4_25) rfl (l' := #[.val (.ref a1), .val (.long ((0 : Int64) + (p2.toInt64))), .second, .val (.ref a3), .val (.int (3 : Int32)), .val (.int (1 : Int32)), .val (.int p3)]) rfl ?_
    show Steps p.tables e below (T97.setTop (mkF m 27 #[.val (.ref a1), .val (.long ((0 : Int64) + (p2.toInt64))), .second, .val (.ref a3), .val (.int (3 : Int32)), .val (.int (1 : Int32)), .val (.int p3)] [])) _
    refine XS.lloadN X97.here hx rfl (hb hby d4_27) rfl ?_
    show Steps p.tables e below (T97.setTop (mkF m 28 #[.val (.ref a1), .val (.long ((0 : Int64) + (p2.toInt64))), .second, .val (.ref a3), .val (.int (3 : Int32)), .val (.int (1 : Int32)), .val (.int p3)] [(.long ((0 : Int64) + (p2.toInt64)))])) _
    refine XS.iload X97.here hx rfl (hb hby d4_28) rfl ?_
    show Steps p.tables e below (T97.setTop (mkF m 30 #[.val (.ref a1), .val (.long ((0 : Int64) + (p2.toInt64))), .second, .val (.ref a3), .val (.int (3 : Int32)), .val (.int (1 : Int32)), .val (.int p3)] [(.int p3), (.long ((0 : Int64) + (p2.toInt64)))])) _
    refine XS.i2l X97.here hx rfl (hb hby d4_30) rfl ?_
    show Steps p.tables e below (T97.setTop (mkF m 31 #[.val (.ref a1), .val (.long ((0 : Int64) + (p2.toInt64))), .second, .val (.ref a3), .val (.int (3 : Int32)), .val (.int (1 : Int32)), .val (.int p3)] [(.long (p3.toInt64)), (.long ((0 : Int64) + (p2.toInt64)))])) _
    refine XS.ladd X97.here hx rfl (hb hby d4_31) rfl ?_
    show Steps p.tables e below (T97.setTop (mkF m 32 #[.val (.ref a1), .val (.long ((0 : Int64) + (p2.toInt64))), .second, .val (.ref a3), .val (.int (3 : Int32)), .val (.int (1 : Int32)), .val (.int p3)] [(.long (((0 : Int64) + (p2.toInt64)) + (p3.toInt64)))])) _
    refine XS.lstoreN X97.here hx rfl (hb hby d4_32) rfl (l' := #[.val (.ref a1), .val (.long (((0 : Int64) + (p2.toInt64)) + (p3.toInt64))), .second, .val (.ref a3), .val (.int (3 : Int32)), .val (.int (1 : Int32)), .val (.int p3)]) rfl ?_
    show Steps p.tables e below (T97.setTop (mkF m 33 #[.val (.ref a1), .val (.long (((0 : Int64) + (p2.toInt64)) + (p3.toInt64))), .second, .val (.ref a3), .val (.int (3 : Int32)), .val (.int (1 : Int32)), .val (.int p3)] [])) _
    refine XS.iinc X97.here hx rfl (hb hby d4_33) rfl (l' := #[.val (.ref a1), .val (.long (((0 : Int64) + (p2.toInt64)) + (p3.toInt64))), .second, .val (.ref a3), .val (.int (3 : Int32)), .val (.int (2 : Int32)), .val (.int p3)]) rfl ?_
    show Steps p.tables e below (T97.setTop (mkF m 36 #[.val (.ref a1), .val (.long (((0 : Int64) + (p2.toInt64)) + (p3.toInt64))), .second, .val (.ref a3), .val (.int (3 : Int32)), .val (.int (2 : Int32)), .val (.int p3)] [])) _
    refine XS.goto X97.here hx rfl (pc0 := 36) (pc' := 14) rfl (hb hby d4_36) (by decide) (by decide) ?_
    show Steps p.tables e below (T97.setTop (mkF m 14 #[.val (.ref a1), .val (.long (((0 : Int64) + (p2.toInt64)) + (p3.toInt64))), .second, .val (.ref a3), .val (.int (3 : Int32)), .val (.int (2 : Int32)), .val (.int p3)] [])) _
    refine XS.iload X97.here hx rfl (hb hby d4_14) rfl ?_
    show Steps p.tables e below (T97.setTop (mkF m 16 #[.val (.ref a1), .val (.long (((0 : Int64) + (p2.toInt64)) + (p3.toInt64))), .second, .val (.ref a3), .val (.int (3 : Int32)), .val (.int (2 : Int32)), .val (.int p3)] [(.int (2 : Int32))])) _
    refine XS.iload X97.here hx rfl (hb hby d4_16) rfl ?_
    show Steps p.tables e below (T97.setTop (mkF m 18 #[.val (.ref a1), .val (.long (((0 : Int64) + (p2.toInt64)) + (p3.toInt64))), .second, .val (.ref a3), .val (.int (3 : Int32)), .val (.int (2 : Int32)), .val (.int p3)] [(.int (3 : Int32)), (.int (2 : Int32))])) _
    refine XS.icmpNo X97.here hx rfl (hb hby d4_18) rfl (tlt (by decide : (2 : Int32) < (3 : Int32))).2.1 ?_
    show Steps p.tables e below (T97.setTop (mkF m 21 #[.val (.ref a1), .val (.long (((0 : Int64) + (p2.toInt64)) + (p3.toInt64))), .second, .val (.ref a3), .val (.int (3 : Int32)), .val (.int (2 : Int32)), .val (.int p3)] [])) _
    refine XS.aloadN X97.here hx rfl (hb hby d4_21) rfl rfl ?_
    show Steps p.tables e below (T97.setTop (mkF m 22 #[.val (.ref a1), .val (.long (((0 : Int64) + (p2.toInt64)) + (p3.toInt64))), .second, .val (.ref a3), .val (.int (3 : Int32)), .val (.int (2 : Int32)), .val (.int p3)] [(.ref a3)])) _
    refine XS.iload X97.here hx rfl (hb hby d4_22) rfl ?_
    show Steps p.tables e below (T97.setTop (mkF m 24 #[.val (.ref a1), .val (.long (((0 : Int64) + (p2.toInt64)) + (p3.toInt64))), .second, .val (.ref a3), .val (.int (3 : Int32)), .val (.int (2 : Int32)), .val (.int p3)] [(.int (2 : Int32)), (.ref a3)])) _
    refine X97.iaload hx (j := (2 : Int32)) (v := (.int p4)) (by rw [e97]; exact A101.1) (State.isArrayOf_alike hZ.alike A101.2.1) A101.2.2 hin101 hat101 (g := (mkF m 24 #[.val (.ref a1), .val (.long (((0 : Int64) + (p2.toInt64)) + (p3.toInt64))), .second, .val (.ref a3), .val (.int (3 : Int32)), .val (.int (2 : Int32)), .val (.int p3)] [(.int (2 : Int32)), (.ref a3)])) rfl rfl (hb hby d4_24) _ ?_
    show Steps p.tables e below (T97.setTop (mkF m 25 #[.val (.ref a1), .val (.long (((0 : Int64) + (p2.toInt64)) + (p3.toInt64))), .second, .val (.ref a3), .val (.int (3 : Int32)), .val (.int (2 : Int32)), .val (.int p3)] [(.int p4)])) _
    refine XS.istore X97.here hx rfl (hb hby d4_25) rfl (l' := #[.val (.ref a1), .val (.long (((0 : Int64) + (p2.toInt64)) + (p3.toInt64))), .second, .val (.ref a3), .val (.int (3 : Int32)), .val (.int (2 : Int32)), .val (.int p4)]) rfl ?_
    show Steps p.tables e below (T97.setTop (mkF m 27 #[.val (.ref a1), .val (.long (((0 : Int64) + (p2.toInt64)) + (p3.toInt64))), .second, .val (.ref a3), .val (.int (3 : Int32)), .val (.int (2 : Int32)), .val (.int p4)] [])) _
    refine XS.lloadN X97.here hx rfl (hb hby d4_27) rfl ?_
    show Steps p.tables e below (T97.setTop (mkF m 28 #[.val (.ref a1), .val (.long (((0 : Int64) + (p2.toInt64)) + (p3.toInt64))), .second, .val (.ref a3), .val (.int (3 : Int32)), .val (.int (2 : Int32)), .val (.int p4)] [(.long (((0 : Int64) + (p2.toInt64)) + (p3.toInt64)))])) _
    refine XS.iload X97.here hx rfl (hb hby d4_28) rfl ?_
    show Steps p.tables e below (T97.setTop (mkF m 30 #[.val (.ref a1), .val (.long (((0 : Int64) + (p2.toInt64)) + (p3.toInt64))), .second, .val (.ref a3), .val (.int (3 : Int32)), .val (.int (2 : Int32)), .val (.int p4)] [(.int p4), (.long (((0 : Int64) + (p2.toInt64)) + (p3.toInt64)))])) _
    refine XS.i2l X97.here hx rfl (hb hby d4_30) rfl ?_
    show Steps p.tables e below (T97.setTop (mkF m 31 #[.val (.ref a1), .val (.long (((0 : Int64) + (p2.toInt64)) + (p3.toInt64))), .second, .val (.ref a3), .val (.int (3 : Int32)), .val (.int (2 : Int32)), .val (.int p4)] [(.long (p4.toInt64)), (.long (((0 : Int64) + (p2.toInt64)) + (p3.toInt64)))])) _
    refine XS.ladd X97.here hx rfl (hb hby d4_31) rfl ?_
    show Steps p.tables e below (T97.setTop (mkF m 32 #[.val (.ref a1), .val (.long (((0 : Int64) + (p2.toInt64)) + (p3.toInt64))), .second, .val (.ref a3), .val (.int (3 : Int32)), .val (.int (2 : Int32)), .val (.int p4)] [(.long ((((0 : Int64) + (p2.toInt64)) + (p3.toInt64)) + (p4.toInt64)))])) _
    refine XS.lstoreN X97.here hx rfl (hb hby d4_32) rfl (l' := #[.val (.ref a1), .val (.long ((((0 : Int64) + (p2.toInt64)) + (p3.toInt64)) + (p4.toInt64))), .second, .val (.ref a3), .val (.int (3 : Int32)), .val (.int (2 : Int32)), .val (.int p4)]) rfl ?_
    show Steps p.tables e below (T97.setTop (mkF m 33 #[.val (.ref a1), .val (.long ((((0 : Int64) + (p2.toInt64)) + (p3.toInt64)) + (p4.toInt64))), .second, .val (.ref a3), .val (.int (3 : Int32)), .val (.int (2 : Int32)), .val (.int p4)] [])) _
    refine XS.iinc X97.here hx rfl (hb hby d4_33) rfl (l' := #[.val (.ref a1), .val (.long ((((0 : Int64) + (p2.toInt64)) + (p3.toInt64)) + (p4.toInt64))), .second, .val (.ref a3), .val (.int (3 : Int32)), .val (.int (3 : Int32)), .val (.int p4)]) rfl ?_
    show Steps p.tables e below (T97.setTop (mkF m 36 #[.val (.ref a1), .val (.long ((((0 : Int64) + (p2.toInt64)) + (p3.toInt64)) + (p4.toInt64))), .second, .val (.ref a3), .val (.int (3 : Int32)), .val (.int (3 : Int32)), .val (.int p4)] [])) _
    refine XS.goto X97.here hx rfl (pc0 := 36) (pc' := 14) rfl (hb hby d4_36) (by decide) (by decide) ?_
    show Steps p.tables e below (T97.setTop (mkF m 14 #[.val (.ref a1), .val (.long ((((0 : Int64) + (p2.toInt64)) + (p3.toInt64)) + (p4.toInt64))), .second, .val (.ref a3), .val (.int (3 : Int32)), .val (.int (3 : Int32)), .val (.int p4)] [])) _
    refine XS.iload X97.here hx rfl (hb hby d4_14) rfl ?_
    show Steps p.tables e below (T97.setTop (mkF m 16 #[.val (.ref a1), .val (.long ((((0 : Int64) + (p2.toInt64)) + (p3.toInt64)) + (p4.toInt64))), .second, .val (.ref a3), .val (.int (3 : Int32)), .val (.int (3 : Int32)), .val (.int p4)] [(.int (3 : Int32))])) _
    refine XS.iload X97.here hx rfl (hb hby d4_16) rfl ?_
    show Steps p.tables e below (T97.setTop (mkF m 18 #[.val (.ref a1), .val (.long ((((0 : Int64) + (p2.toInt64)) + (p3.toInt64)) + (p4.toInt64))), .second, .val (.ref a3), .val (.int (3 : Int32)), .val (.int (3 : Int32)), .val (.int p4)] [(.int (3 : Int32)), (.int (3 : Int32))])) _
    refine XS.icmpYes X97.here hx rfl (pc0 := 18) (pc' := 39) rfl (hb hby d4_18) rfl (flt (by decide : ¬ ((3 : Int32) < (3 : Int32)))).2.1 (by decide) (by decide) ?_
    show Steps p.tables e below (T97.setTop (mkF m 39 #[.val (.ref a1), .val (.long ((((0 : Int64) + (p2.toInt64)) + (p3.toInt64)) + (p4.toInt64))), .second, .val (.ref a3), .val (.int (3 : Int32)), .val (.int (3 : Int32)), .val (.int p4)] [])) _
    refine XS.lloadN X97.here hx rfl (hb hby d4_39) rfl ?_
    exact kt)
  exact own_retJ X97 hx Bd.notSynchronized Bd.returns (hb hby d4_40) pre102 (show Q4_3 p2 p3 p4 p5 h0 n0 _ _ _ from ⟨rfl, N0, e97⟩) (by decide) (by decide)
def Q4_4 (p2 p3 p4 p5 : Int32) (h0 : Heap) (n0 : Nat) (v : Option Value) (h : Heap) (L : List Loc) : Prop := v = some (.long (((((0 : Int64) + (p2.toInt64)) + (p3.toInt64)) + (p4.toInt64)) + (p5.toInt64))) ∧ Fr n0 L ∧ h = h0
set_option maxRecDepth 65536 in
set_option maxHeartbeats 40000000 in
theorem rm4_4 (l : Launch) (Z : State) (a0 : Array Value) (hw : ∀ d ∈ tables_1, d.before a0 Z = true) (ws : List Jvm.Cond) (a1 a3 : Addr) (kc : ClassId) (p2 p3 p4 p5 : Int32) (h0 : Heap) (n0 : Nat) (Z0 : n0 ≤ h0.size) (F2 : Fld Z h0 a1 "com/example/avocet/avocet/index/Postings" "frequencies" "[I" (.ref a3)) (V3 : Arv Z h0 a3 kc .int (4 : Int32) [(.int p2), (.int p3), (.int p4), (.int p5)] (.int (0 : Int32))) :
    MetFree l (⟨"com/example/avocet/avocet/index/Postings", "occurrences", "()J"⟩ : MethodName) (head1 (Jvm.Cond.code (⟨"com/example/avocet/avocet/index/Postings", "occurrences", "()J"⟩ : MethodName) prog_34_method_3_code 7 (some .long) :: ws) ({ frames := 0, cells := 0, slots := 0, locals := 0 } : Room)) (fun a U => a = #[(.ref a1)] ∧ Z.Warmed39 U.vm ∧ U.heap = h0) (fun _ _ _ _ _ => True) (fun _ U o U' => ∃ v L, o = .returned v ∧ Q4_4 p2 p3 p4 p5 h0 n0 v U'.heap L ∧ FrameEnd U o U' L ({ frames := 0, cells := 0, slots := 0, locals := 0 } : Room).cells ({ frames := 0, cells := 0, slots := 0, locals := 0 } : Room).slots) := by
  refine MetFree.of_bodySF (plainFor_of_name pn_69) hisR ?_
  intro p e s m args below meth c s₁ Bd hml0 hP hK
  obtain ⟨rfl, hZ, hh⟩ := hP
  have hx := Bd.exec
  have hby := Bd.bytes
  have hml : c.maxLocals = 7 := hml0
  have hown : s.vm.findClass "com/example/avocet/avocet/index/Postings" = some m.cls := findClass_of_methodNamed Bd.named
  have hnm := (name_of_methodNamed Bd.named Bd.method).1
  have X0 : Stand p l e ({ frames := 0, cells := 0, slots := 0, locals := 0 } : Room) s m #[(.ref a1)] below meth c s₁ [] 0 0 := Stand.of_body Bd
  have e0 : s₁.heap = h0 := by rw [← hh, Bd.state]; rfl
  have N0 := Fr.nil n0
  have pre0 : ∀ t, Steps p.tables e below (s₁.setTop (mkF m 0 #[.val (.ref a1), .unset, .unset, .unset, .unset, .unset, .unset] [])) t → Steps p.tables e below (s₁.setTop (entryFrame m #[(.ref a1)] 7)) t := fun t k => castTop (ef_79 m a1) k
  obtain ⟨T103, X103, e103, st103⟩ := getF X0 hx hZ hown (host := "") (Or.inl (hw _ (List.mem_of_getElem? (i := 16) rfl))) Via.refl e0 F2 (g := (mkF m 3 #[.val (.ref a1), .val (.long (0 : Int64)), .second, .unset, .unset, .unset, .unset] [(.ref a1)])) rfl rfl (hb hby d4_3)
  obtain ⟨cl104, A104, q104, S104, M104, H104, J104⟩ := id V3
  obtain ⟨cl105, A105, q105, S105, M105, H105, J105⟩ := id V3
  have hin105 : ¬ ((0 : Int32) < 0 ∨ cl105.slots.size ≤ ((0 : Int32)).toNatClampNeg) := inb_of S105 ⟨by decide, by decide⟩
  have hat105 : cl105.slots[((0 : Int32)).toNatClampNeg]? = some (.int p2) := H105.at hin105 rfl
  obtain ⟨cl106, A106, q106, S106, M106, H106, J106⟩ := id V3
  have hin106 : ¬ ((1 : Int32) < 0 ∨ cl106.slots.size ≤ ((1 : Int32)).toNatClampNeg) := inb_of S106 ⟨by decide, by decide⟩
  have hat106 : cl106.slots[((1 : Int32)).toNatClampNeg]? = some (.int p3) := H106.at hin106 rfl
  obtain ⟨cl107, A107, q107, S107, M107, H107, J107⟩ := id V3
  have hin107 : ¬ ((2 : Int32) < 0 ∨ cl107.slots.size ≤ ((2 : Int32)).toNatClampNeg) := inb_of S107 ⟨by decide, by decide⟩
  have hat107 : cl107.slots[((2 : Int32)).toNatClampNeg]? = some (.int p4) := H107.at hin107 rfl
  obtain ⟨cl108, A108, q108, S108, M108, H108, J108⟩ := id V3
  have hin108 : ¬ ((3 : Int32) < 0 ∨ cl108.slots.size ≤ ((3 : Int32)).toNatClampNeg) := inb_of S108 ⟨by decide, by decide⟩
  have hat108 : cl108.slots[((3 : Int32)).toNatClampNeg]? = some (.int p5) := H108.at hin108 rfl
  have pre109 : ∀ t, Steps p.tables e below (T103.setTop (mkF m 40 #[.val (.ref a1), .val (.long (((((0 : Int64) + (p2.toInt64)) + (p3.toInt64)) + (p4.toInt64)) + (p5.toInt64))), .second, .val (.ref a3), .val (.int (4 : Int32)), .val (.int (4 : Int32)), .val (.int p5)] [(.long (((((0 : Int64) + (p2.toInt64)) + (p3.toInt64)) + (p4.toInt64)) + (p5.toInt64)))])) t → Steps p.tables e below (s₁.setTop (entryFrame m #[(.ref a1)] 7)) t := fun t kt => pre0 t (by
    show Steps p.tables e below (s₁.setTop (mkF m 0 #[.val (.ref a1), .unset, .unset, .unset, .unset, .unset, .unset] [])) _
    refine XS.lconst X0.here hx rfl (hb hby d4_0) ?_
    show Steps p.tables e below (s₁.setTop (mkF m 1 #[.val (.ref a1), .unset, .unset, .unset, .unset, .unset, .unset] [(.long (0 : Int64))])) _
    refine XS.lstoreN X0.here hx rfl (hb hby d4_1) rfl (l' := #[.val (.ref a1), .val (.long (0 : Int64)), .second, .unset, .unset, .unset, .unset]) rfl ?_
    show Steps p.tables e below (s₁.setTop (mkF m 2 #[.val (.ref a1), .val (.long (0 : Int64)), .second, .unset, .unset, .unset, .unset] [])) _
    refine XS.aloadN X0.here hx rfl (hb hby d4_2) rfl rfl ?_
    show Steps p.tables e below (s₁.setTop (mkF m 3 #[.val (.ref a1), .val (.long (0 : Int64)), .second, .unset, .unset, .unset, .unset] [(.ref a1)])) _
    refine st103 _ ?_
    show Steps p.tables e below (T103.setTop (mkF m 6 #[.val (.ref a1), .val (.long (0 : Int64)), .second, .unset, .unset, .unset, .unset] [(.ref a3)])) _
    refine XS.astoreN X103.here hx rfl (hb hby d4_6) rfl rfl (l' := #[.val (.ref a1), .val (.long (0 : Int64)), .second, .val (.ref a3), .unset, .unset, .unset]) rfl ?_
    show Steps p.tables e below (T103.setTop (mkF m 7 #[.val (.ref a1), .val (.long (0 : Int64)), .second, .val (.ref a3), .unset, .unset, .unset] [])) _
    refine XS.aloadN X103.here hx rfl (hb hby d4_7) rfl rfl ?_
    show Steps p.tables e below (T103.setTop (mkF m 8 #[.val (.ref a1), .val (.long (0 : Int64)), .second, .val (.ref a3), .unset, .unset, .unset] [(.ref a3)])) _
    refine X103.arraylength hx (by rw [e103]; exact A104.1) (State.isArrayOf_alike hZ.alike A104.2.1) (g := (mkF m 8 #[.val (.ref a1), .val (.long (0 : Int64)), .second, .val (.ref a3), .unset, .unset, .unset] [(.ref a3)])) rfl rfl (hb hby d4_8) _ ?_
    rw [len_of S104 M104]
    show Steps p.tables e below (T103.setTop (mkF m 9 #[.val (.ref a1), .val (.long (0 : Int64)), .second, .val (.ref a3), .unset, .unset, .unset] [(.int (4 : Int32))])) _
    refine XS.istore X103.here hx rfl (hb hby d4_9) rfl (l' := #[.val (.ref a1), .val (.long (0 : Int64)), .second, .val (.ref a3), .val (.int (4 : Int32)), .unset, .unset]) rfl ?_
    show Steps p.tables e below (T103.setTop (mkF m 11 #[.val (.ref a1), .val (.long (0 : Int64)), .second, .val (.ref a3), .val (.int (4 : Int32)), .unset, .unset] [])) _
    refine XS.iconst X103.here hx rfl (hb hby d4_11) ?_
    show Steps p.tables e below (T103.setTop (mkF m 12 #[.val (.ref a1), .val (.long (0 : Int64)), .second, .val (.ref a3), .val (.int (4 : Int32)), .unset, .unset] [(.int (0 : Int32))])) _
    refine XS.istore X103.here hx rfl (hb hby d4_12) rfl (l' := #[.val (.ref a1), .val (.long (0 : Int64)), .second, .val (.ref a3), .val (.int (4 : Int32)), .val (.int (0 : Int32)), .unset]) rfl ?_
    show Steps p.tables e below (T103.setTop (mkF m 14 #[.val (.ref a1), .val (.long (0 : Int64)), .second, .val (.ref a3), .val (.int (4 : Int32)), .val (.int (0 : Int32)), .unset] [])) _
    refine XS.iload X103.here hx rfl (hb hby d4_14) rfl ?_
    show Steps p.tables e below (T103.setTop (mkF m 16 #[.val (.ref a1), .val (.long (0 : Int64)), .second, .val (.ref a3), .val (.int (4 : Int32)), .val (.int (0 : Int32)), .unset] [(.int (0 : Int32))])) _
    refine XS.iload X103.here hx rfl (hb hby d4_16) rfl ?_
    show Steps p.tables e below (T103.setTop (mkF m 18 #[.val (.ref a1), .val (.long (0 : Int64)), .second, .val (.ref a3), .val (.int (4 : Int32)), .val (.int (0 : Int32)), .unset] [(.int (4 : Int32)), (.int (0 : Int32))])) _
    refine XS.icmpNo X103.here hx rfl (hb hby d4_18) rfl (tlt (by decide : (0 : Int32) < (4 : Int32))).2.1 ?_
    show Steps p.tables e below (T103.setTop (mkF m 21 #[.val (.ref a1), .val (.long (0 : Int64)), .second, .val (.ref a3), .val (.int (4 : Int32)), .val (.int (0 : Int32)), .unset] [])) _
    refine XS.aloadN X103.here hx rfl (hb hby d4_21) rfl rfl ?_
    show Steps p.tables e below (T103.setTop (mkF m 22 #[.val (.ref a1), .val (.long (0 : Int64)), .second, .val (.ref a3), .val (.int (4 : Int32)), .val (.int (0 : Int32)), .unset] [(.ref a3)])) _
    refine XS.iload X103.here hx rfl (hb hby d4_22) rfl ?_
    show Steps p.tables e below (T103.setTop (mkF m 24 #[.val (.ref a1), .val (.long (0 : Int64)), .second, .val (.ref a3), .val (.int (4 : Int32)), .val (.int (0 : Int32)), .unset] [(.int (0 : Int32)), (.ref a3)])) _
    refine X103.iaload hx (j := (0 : Int32)) (v := (.int p2)) (by rw [e103]; exact A105.1) (State.isArrayOf_alike hZ.alike A105.2.1) A105.2.2 hin105 hat105 (g := (mkF m 24 #[.val (.ref a1), .val (.long (0 : Int64)), .second, .val (.ref a3), .val (.int (4 : Int32)), .val (.int (0 : Int32)), .unset] [(.int (0 : Int32)), (.ref a3)])) rfl rfl (hb hby d4_24) _ ?_
    show Steps p.tables e below (T103.setTop (mkF m 25 #[.val (.ref a1), .val (.long (0 : Int64)), .second, .val (.ref a3), .val (.int (4 : Int32)), .val (.int (0 : Int32)), .unset] [(.int p2)])) _
    refine XS.istore X103.here hx rfl (hb hby d4_25) rfl (l' := #[.val (.ref a1), .val (.long (0 : Int64)), .second, .val (.ref a3), .val (.int (4 : Int32)), .val (.int (0 : Int32)), .val (.int p2)]) rfl ?_
    show Steps p.tables e below (T103.setTop (mkF m 27 #[.val (.ref a1), .val (.long (0 : Int64)), .second, .val (.ref a3), .val (.int (4 : Int32)), .val (.int (0 : Int32)), .val (.int p2)] [])) _
    refine XS.lloadN X103.here hx rfl (hb hby d4_27) rfl ?_
    show Steps p.tables e below (T103.setTop (mkF m 28 #[.val (.ref a1), .val (.long (0 : Int64)), .second, .val (.ref a3), .val (.int (4 : Int32)), .val (.int (0 : Int32)), .val (.int p2)] [(.long (0 : Int64))])) _
    refine XS.iload X103.here hx rfl (hb hby d4_28) rfl ?_
    show Steps p.tables e below (T103.setTop (mkF m 30 #[.val (.ref a1), .val (.long (0 : Int64)), .second, .val (.ref a3), .val (.int (4 : Int32)), .val (.int (0 : Int32)), .val (.int p2)] [(.int p2), (.long (0 : Int64))])) _
    refine XS.i2l X103.here hx rfl (hb hby d4_30) rfl ?_
    show Steps p.tables e below (T103.setTop (mkF m 31 #[.val (.ref a1), .val (.long (0 : Int64)), .second, .val (.ref a3), .val (.int (4 : Int32)), .val (.int (0 : Int32)), .val (.int p2)] [(.long (p2.toInt64)), (.long (0 : Int64))])) _
    refine XS.ladd X103.here hx rfl (hb hby d4_31) rfl ?_
    show Steps p.tables e below (T103.setTop (mkF m 32 #[.val (.ref a1), .val (.long (0 : Int64)), .second, .val (.ref a3), .val (.int (4 : Int32)), .val (.int (0 : Int32)), .val (.int p2)] [(.long ((0 : Int64) + (p2.toInt64)))])) _
    refine XS.lstoreN X103.here hx rfl (hb hby d4_32) rfl (l' := #[.val (.ref a1), .val (.long ((0 : Int64) + (p2.toInt64))), .second, .val (.ref a3), .val (.int (4 : Int32)), .val (.int (0 : Int32)), .val (.int p2)]) rfl ?_
    show Steps p.tables e below (T103.setTop (mkF m 33 #[.val (.ref a1), .val (.long ((0 : Int64) + (p2.toInt64))), .second, .val (.ref a3), .val (.int (4 : Int32)), .val (.int (0 : Int32)), .val (.int p2)] [])) _
    refine XS.iinc X103.here hx rfl (hb hby d4_33) rfl (l' := #[.val (.ref a1), .val (.long ((0 : Int64) + (p2.toInt64))), .second, .val (.ref a3), .val (.int (4 : Int32)), .val (.int (1 : Int32)), .val (.int p2)]) rfl ?_
    show Steps p.tables e below (T103.setTop (mkF m 36 #[.val (.ref a1), .val (.long ((0 : Int64) + (p2.toInt64))), .second, .val (.ref a3), .val (.int (4 : Int32)), .val (.int (1 : Int32)), .val (.int p2)] [])) _
    refine XS.goto X103.here hx rfl (pc0 := 36) (pc' := 14) rfl (hb hby d4_36) (by decide) (by decide) ?_
    show Steps p.tables e below (T103.setTop (mkF m 14 #[.val (.ref a1), .val (.long ((0 : Int64) + (p2.toInt64))), .second, .val (.ref a3), .val (.int (4 : Int32)), .val (.int (1 : Int32)), .val (.int p2)] [])) _
    refine XS.iload X103.here hx rfl (hb hby d4_14) rfl ?_
    show Steps p.tables e below (T103.setTop (mkF m 16 #[.val (.ref a1), .val (.long ((0 : Int64) + (p2.toInt64))), .second, .val (.ref a3), .val (.int (4 : Int32)), .val (.int (1 : Int32)), .val (.int p2)] [(.int (1 : Int32))])) _
    refine XS.iload X103.here hx rfl (hb hby d4_16) rfl ?_
    show Steps p.tables e below (T103.setTop (mkF m 18 #[.val (.ref a1), .val (.long ((0 : Int64) + (p2.toInt64))), .second, .val (.ref a3), .val (.int (4 : Int32)), .val (.int (1 : Int32)), .val (.int p2)] [(.int (4 : Int32)), (.int (1 : Int32))])) _
    refine XS.icmpNo X103.here hx rfl (hb hby d4_18) rfl (tlt (by decide : (1 : Int32) < (4 : Int32))).2.1 ?_
    show Steps p.tables e below (T103.setTop (mkF m 21 #[.val (.ref a1), .val (.long ((0 : Int64) + (p2.toInt64))), .second, .val (.ref a3), .val (.int (4 : Int32)), .val (.int (1 : Int32)), .val (.int p2)] [])) _
    refine XS.aloadN X103.here hx rfl (hb hby d4_21) rfl rfl ?_
    show Steps p.tables e below (T103.setTop (mkF m 22 #[.val (.ref a1), .val (.long ((0 : Int64) + (p2.toInt64))), .second, .val (.ref a3), .val (.int (4 : Int32)), .val (.int (1 : Int32)), .val (.int p2)] [(.ref a3)])) _
    refine XS.iload X103.here hx rfl (hb hby d4_22) rfl ?_
    show Steps p.tables e below (T103.setTop (mkF m 24 #[.val (.ref a1), .val (.long ((0 : Int64) + (p2.toInt64))), .second, .val (.ref a3), .val (.int (4 : Int32)), .val (.int (1 : Int32)), .val (.int p2)] [(.int (1 : Int32)), (.ref a3)])) _
    refine X103.iaload hx (j := (1 : Int32)) (v := (.int p3)) (by rw [e103]; exact A106.1) (State.isArrayOf_alike hZ.alike A106.2.1) A106.2.2 hin106 hat106 (g := (mkF m 24 #[.val (.ref a1), .val (.long ((0 : Int64) + (p2.toInt64))), .second, .val (.ref a3), .val (.int (4 : Int32)), .val (.int (1 : Int32)), .val (.int p2)] [(.int (1 : Int32)), (.ref a3)])) rfl rfl (hb hby d4_24) _ ?_
    show Steps p.tables e below (T103.setTop (mkF m 25 #[.val (.ref a1), .val (.long ((0 : Int64) + (p2.toInt64))), .second, .val (.ref a3), .val (.int (4 : Int32)), .val (.int (1 : Int32)), .val (.int p2)] [(.int p3)])) _
    refine XS.istore X103.here hx rfl (hb hby d4_25) rfl (l' := #[.val (.ref a1), .val (.long ((0 : Int64) + (p2.toInt64))), .second, .val (.ref a3), .val (.int (4 : Int32)), .val (.int (1 : Int32)), .val (.int p3)]) rfl ?_
    show Steps p.tables e below (T103.setTop (mkF m 27 #[.val (.ref a1), .val (.long ((0 : Int64) + (p2.toInt64))), .second, .val (.ref a3), .val (.int (4 : Int32)), .val (.int (1 : Int32)), .val (.int p3)] [])) _
    refine XS.lloadN X103.here hx rfl (hb hby d4_27) rfl ?_
    show Steps p.tables e below (T103.setTop (mkF m 28 #[.val (.ref a1), .val (.long ((0 : Int64) + (p2.toInt64))), .second, .val (.ref a3), .val (.int (4 : Int32)), .val (.int (1 : Int32)), .val (.int p3)] [(.long ((0 : Int64) + (p2.toInt64)))])) _
    refine XS.iload X103.here hx rfl (hb hby d4_28) rfl ?_
    show Steps p.tables e below (T103.setTop (mkF m 30 #[.val (.ref a1), .val (.long ((0 : Int64) + (p2.toInt64))), .second, .val (.ref a3), .val (.int (4 : Int32)), .val (.int (1 : Int32)), .val (.int p3)] [(.int p3), (.long ((0 : Int64) + (p2.toInt64)))])) _
    refine XS.i2l X103.here hx rfl (hb hby d4_30) rfl ?_
    show Steps p.tables e below (T103.setTop (mkF m 31 #[.val (.ref a1), .val (.long ((0 : Int64) + (p2.toInt64))), .second, .val (.ref a3), .val (.int (4 : Int32)), .val (.int (1 : Int32)), .val (.int p3)] [(.long (p3.toInt64)), (.long ((0 : Int64) + (p2.toInt64)))])) _
    refine XS.ladd X103.here hx rfl (hb hby d4_31) rfl ?_
    show Steps p.tables e below (T103.setTop (mkF m 32 #[.val (.ref a1), .val (.long ((0 : Int64) + (p2.toInt64))), .second, .val (.ref a3), .val (.int (4 : Int32)), .val (.int (1 : Int32)), .val (.int p3)] [(.long (((0 : Int64) + (p2.toInt64)) + (p3.toInt64)))])) _
    refine XS.lstoreN X103.here hx rfl (hb hby d4_32) rfl (l' := #[.val (.ref a1), .val (.long (((0 : Int64) + (p2.toInt64)) + (p3.toInt64))), .second, .val (.ref a3), .val (.int (4 : Int32)), .val (.int (1 : Int32)), .val (.int p3)]) rfl ?_
    show Steps p.tables e below (T103.setTop (mkF m 33 #[.val (.ref a1), .val (.long (((0 : Int64) + (p2.toInt64)) + (p3.toInt64))), .second, .val (.ref a3), .val (.int (4 : Int32)), .val (.int (1 : Int32)), .val (.int p3)] [])) _
    refine XS.iinc X103.here hx rfl (hb hby d4_33) rfl (l' := #[.val (.ref a1), .val (.long (((0 : Int64) + (p2.toInt64)) + (p3.toInt64))), .second, .val (.ref a3), .val (.int (4 : Int32)), .val (.int (2 : Int32)), .val (.int p3)]) rfl ?_
    show Steps p.tables e below (T103.setTop (mkF m 36 #[.val (.ref a1), .val (.long (((0 : Int64) + (p2.toInt64)) + (p3.toInt64))), .second, .val (.ref a3), .val (.int (4 : Int32)), .val (.int (2 : Int32)), .val (.int p3)] [])) _
    refine XS.goto X103.here hx rfl (pc0 := 36) (pc' := 14) rfl (hb hby d4_36) (by decide) (by decide) ?_
    show Steps p.tables e below (T103.setTop (mkF m 14 #[.val (.ref a1), .val (.long (((0 : Int64) + (p2.toInt64)) + (p3.toInt64))), .second, .val (.ref a3), .val (.int (4 : Int32)), .val (.int (2 : Int32)), .val (.int p3)] [])) _
    refine XS.iload X103.here hx rfl (hb hby d4_14) rfl ?_
    show Steps p.tables e below (T103.setTop (mkF m 16 #[.val (.ref a1), .val (.long (((0 : Int64) + (p2.toInt64)) + (p3.toInt64))), .second, .val (.ref a3), .val (.int (4 : Int32)), .val (.int (2 : Int32)), .val (.int p3)] [(.int (2 : Int32))])) _
    refine XS.iload X103.here hx rfl (hb hby d4_16) rfl ?_
    show Steps p.tables e below (T103.setTop (mkF m 18 #[.val (.ref a1), .val (.long (((0 : Int64) + (p2.toInt64)) + (p3.toInt64))), .second, .val (.ref a3), .val (.int (4 : Int32)), .val (.int (2 : Int32)), .val (.int p3)] [(.int (4 : Int32)), (.int (2 : Int32))])) _
    refine XS.icmpNo X103.here hx rfl (hb hby d4_18) rfl (tlt (by decide : (2 : Int32) < (4 : Int32))).2.1 ?_
    show Steps p.tables e below (T103.setTop (mkF m 21 #[.val (.ref a1), .val (.long (((0 : Int64) + (p2.toInt64)) + (p3.toInt64))), .second, .val (.ref a3), .val (.int (4 : Int32)), .val (.int (2 : Int32)), .val (.int p3)] [])) _
    refine XS.aloadN X103.here hx rfl (hb hby d4_21) rfl rfl ?_
    show Steps p.tables e below (T103.setTop (mkF m 22 #[.val (.ref a1), .val (.long (((0 : Int64) + (p2.toInt64)) + (p3.toInt64))), .second, .val (.ref a3), .val (.int (4 : Int32)), .val (.int (2 : Int32)), .val (.int p3)] [(.ref a3)])) _
    refine XS.iload X103.here hx rfl (hb hby d4_22) rfl ?_
    show Steps p.tables e below (T103.setTop (mkF m 24 #[.val (.ref a1), .val (.long (((0 : Int64) + (p2.toInt64)) + (p3.toInt64))), .second, .val (.ref a3), .val (.int (4 : Int32)), .val (.int (2 : Int32)), .val (.int p3)] [(.int (2 : Int32)), (.ref a3)])) _
    refine X103.iaload hx (j := (2 : Int32)) (v := (.int p4)) (by rw [e103]; exact A107.1) (State.isArrayOf_alike hZ.alike A107.2.1) A107.2.2 hin107 hat107 (g := (mkF m 24 #[.val (.ref a1), .val (.long (((0 : Int64) + (p2.toInt64)) + (p3.toInt64))), .second, .val (.ref a3), .val (.int (4 : Int32)), .val (.int (2 : Int32)), .val (.int p3)] [(.int (2 : Int32)), (.ref a3)])) rfl rfl (hb hby d4_24) _ ?_
    show Steps p.tables e below (T103.setTop (mkF m 25 #[.val (.ref a1), .val (.long (((0 : Int64) + (p2.toInt64)) + (p3.toInt64))), .second, .val (.ref a3), .val (.int (4 : Int32)), .val (.int (2 : Int32)), .val (.int p3)] [(.int p4)])) _
    refine XS.istore X103.here hx rfl (hb hby d4_25) rfl (l' := #[.val (.ref a1), .val (.long (((0 : Int64) + (p2.toInt64)) + (p3.toInt64))), .second, .val (.ref a3), .val (.int (4 : Int32)), .val (.int (2 : Int32)), .val (.int p4)]) rfl ?_
    show Steps p.tables e below (T103.setTop (mkF m 27 #[.val (.ref a1), .val (.long (((0 : Int64) + (p2.toInt64)) + (p3.toInt64))), .second, .val (.ref a3), .val (.int (4 : Int32)), .val (.int (2 : Int32)), .val (.int p4)] [])) _
    refine XS.lloadN X103.here hx rfl (hb hby d4_27) rfl ?_
    show Steps p.tables e below (T103.setTop (mkF m 28 #[.val (.ref a1), .val (.long (((0 : Int64) + (p2.toInt64)) + (p3.toInt64))), .second, .val (.ref a3), .val (.int (4 : Int32)), .val (.int (2 : Int32)), .val (.int p4)] [(.long (((0 : Int64) + (p2.toInt64)) + (p3.toInt64)))])) _
    refine XS.iload X103.here hx rfl (hb hby d4_28) rfl ?_
    show Steps p.tables e below (T103.setTop (mkF m 30 #[.val (.ref a1), .val (.long (((0 : Int64) + (p2.toInt64)) + (p3.toInt64))), .second, .val (.ref a3), .val (.int (4 : Int32)), .val (.int (2 : Int32)), .val (.int p4)] [(.int p4), (.long (((0 : Int64) + (p2.toInt64)) + (p3.toInt64)))])) _
    refine XS.i2l X103.here hx rfl (hb hby d4_30) rfl ?_
    show Steps p.tables e below (T103.setTop (mkF m 31 #[.val (.ref a1), .val (.long (((0 : Int64) + (p2.toInt64)) + (p3.toInt64))), .second, .val (.ref a3), .val (.int (4 : Int32)), .val (.int (2 : Int32)), .val (.int p4)] [(.long (p4.toInt64)), (.long (((0 : Int64) + (p2.toInt64)) + (p3.toInt64)))])) _
    refine XS.ladd X103.here hx rfl (hb hby d4_31) rfl ?_
    show Steps p.tables e below (T103.setTop (mkF m 32 #[.val (.ref a1), .val (.long (((0 : Int64) + (p2.toInt64)) + (p3.toInt64))), .second, .val (.ref a3), .val (.int (4 : Int32)), .val (.int (2 : Int32)), .val (.int p4)] [(.long ((((0 : Int64) + (p2.toInt64)) + (p3.toInt64)) + (p4.toInt64)))])) _
    refine XS.lstoreN X103.here hx rfl (hb hby d4_32) rfl (l' := #[.val (.ref a1), .val (.long ((((0 : Int64) + (p2.toInt64)) + (p3.toInt64)) + (p4.toInt64))), .second, .val (.ref a3), .val (.int (4 : Int32)), .val (.int (2 : Int32)), .val (.int p4)]) rfl ?_
    show Steps p.tables e below (T103.setTop (mkF m 33 #[.val (.ref a1), .val (.long ((((0 : Int64) + (p2.toInt64)) + (p3.toInt64)) + (p4.toInt64))), .second, .val (.ref a3), .val (.int (4 : Int32)), .val (.int (2 : Int32)), .val (.int p4)] [])) _
    refine XS.iinc X103.here hx rfl (hb hby d4_33) rfl (l' := #[.val (.ref a1), .val (.long ((((0 : Int64) + (p2.toInt64)) + (p3.toInt64)) + (p4.toInt64))), .second, .val (.ref a3), .val (.int (4 : Int32)), .val (.int (3 : Int32)), .val (.int p4)]) rfl ?_
    show Steps p.tables e below (T103.setTop (mkF m 36 #[.val (.ref a1), .val (.long ((((0 : Int64) + (p2.toInt64)) + (p3.toInt64)) + (p4.toInt64))), .second, .val (.ref a3), .val (.int (4 : Int32)), .val (.int (3 : Int32)), .val (.int p4)] [])) _
    refine XS.goto X103.here hx rfl (pc0 := 36) (pc' := 14) rfl (hb hby d4_36) (by decide) (by decide) ?_
    show Steps p.tables e below (T103.setTop (mkF m 14 #[.val (.ref a1), .val (.long ((((0 : Int64) + (p2.toInt64)) + (p3.toInt64)) + (p4.toInt64))), .second, .val (.ref a3), .val (.int (4 : Int32)), .val (.int (3 : Int32)), .val (.int p4)] [])) _
    refine XS.iload X103.here hx rfl (hb hby d4_14) rfl ?_
    show Steps p.tables e below (T103.setTop (mkF m 16 #[.val (.ref a1), .val (.long ((((0 : Int64) + (p2.toInt64)) + (p3.toInt64)) + (p4.toInt64))), .second, .val (.ref a3), .val (.int (4 : Int32)), .val (.int (3 : Int32)), .val (.int p4)] [(.int (3 : Int32))])) _
    refine XS.iload X103.here hx rfl (hb hby d4_16) rfl ?_
    show Steps p.tables e below (T103.setTop (mkF m 18 #[.val (.ref a1), .val (.long ((((0 : Int64) + (p2.toInt64)) + (p3.toInt64)) + (p4.toInt64))), .second, .val (.ref a3), .val (.int (4 : Int32)), .val (.int (3 : Int32)), .val (.int p4)] [(.int (4 : Int32)), (.int (3 : Int32))])) _
    refine XS.icmpNo X103.here hx rfl (hb hby d4_18) rfl (tlt (by decide : (3 : Int32) < (4 : Int32))).2.1 ?_
    show Steps p.tables e below (T103.setTop (mkF m 21 #[.val (.ref a1), .val (.long ((((0 : Int64) + (p2.toInt64)) + (p3.toInt64)) + (p4.toInt64))), .second, .val (.ref a3), .val (.int (4 : Int32)), .val (.int (3 : Int32)), .val (.int p4)] [])) _
    refine XS.aloadN X103.here hx rfl (hb hby d4_21) rfl rfl ?_
    show Steps p.tables e below (T103.setTop (mkF m 22 #[.val (.ref a1), .val (.long ((((0 : Int64) + (p2.toInt64)) + (p3.toInt64)) + (p4.toInt64))), .second, .val (.ref a3), .val (.int (4 : Int32)), .val (.int (3 : Int32)), .val (.int p4)] [(.ref a3)])) _
    refine XS.iload X103.here hx rfl (hb hby d4_22) rfl ?_
    show Steps p.tables e below (T103.setTop (mkF m 24 #[.val (.ref a1), .val (.long ((((0 : Int64) + (p2.toInt64)) + (p3.toInt64)) + (p4.toInt64))), .second, .val (.ref a3), .val (.int (4 : Int32)), .val (.int (3 : Int32)), .val (.int p4)] [(.int (3 : Int32)), (.ref a3)])) _
    refine X103.iaload hx (j := (3 : Int32)) (v := (.int p5)) (by rw [e103]; exact A108.1) (State.isArrayOf_alike hZ.alike A108.2.1) A108.2.2 hin108 hat108 (g := (mkF m 24 #[.val (.ref a1), .val (.long ((((0 : Int64) + (p2.toInt64)) + (p3.toInt64)) + (p4.toInt64))), .second, .val (.ref a3), .val (.int (4 : Int32)), .val (.int (3 : Int32)), .val (.int p4)] [(.int (3 : Int32)), (.ref a3)])) rfl rfl (hb hby d4_24) _ ?_
    show Steps p.tables e below (T103.setTop (mkF m 25 #[.val (.ref a1), .val (.long ((((0 : Int64) + (p2.toInt64)) + (p3.toInt64)) + (p4.toInt64))), .second, .val (.ref a3), .val (.int (4 : Int32)), .val (.int (3 : Int32)), .val (.int p4)] [(.int p5)])) _
    refine XS.istore X103.here hx rfl (hb hby d4_25) rfl (l' := #[.val (.ref a1), .val (.long ((((0 : Int64) + (p2.toInt64)) + (p3.toInt64)) + (p4.toInt64))), .second, .val (.ref a3), .val (.int (4 : Int32)), .val (.int (3 : Int32)), .val (.int p5)]) rfl ?_
    show Steps p.tables e below (T103.setTop (mkF m 27 #[.val (.ref a1), .val (.long ((((0 : Int64) + (p2.toInt64)) + (p3.toInt64)) + (p4.toInt64))), .second, .val (.ref a3), .val (.int (4 : Int32)), .val (.int (3 : Int32)), .val (.int p5)] [])) _
    refine XS.lloadN X103.here hx rfl (hb hby d4_27) rfl ?_
    show Steps p.tables e below (T103.setTop (mkF m 28 #[.val (.ref a1), .val (.long ((((0 : Int64) + (p2.toInt64)) + (p3.toInt64)) + (p4.toInt64))), .second, .val (.ref a3), .val (.int (4 : Int32)), .val (.int (3 : Int32)), .val (.int p5)] [(.long ((((0 : Int64) + (p2.toInt64)) + (p3.toInt64)) + (p4.toInt64)))])) _
    refine XS.iload X103.here hx rfl (hb hby d4_28) rfl ?_
    show Steps p.tables e below (T103.setTop (mkF m 30 #[.val (.ref a1), .val (.long ((((0 : Int64) + (p2.toInt64)) + (p3.toInt64)) + (p4.toInt64))), .second, .val (.ref a3), .val (.int (4 : Int32)), .val (.int (3 : Int32)), .val (.int p5)] [(.int p5), (.long ((((0 : Int64) + (p2.toInt64)) + (p3.toInt64)) + (p4.toInt64)))])) _
    refine XS.i2l X103.here hx rfl (hb hby d4_30) rfl ?_
    show Steps p.tables e below (T103.setTop (mkF m 31 #[.val (.ref a1), .val (.long ((((0 : Int64) + (p2.toInt64)) + (p3.toInt64)) + (p4.toInt64))), .second, .val (.ref a3), .val (.int (4 : Int32)), .val (.int (3 : Int32)), .val (.int p5)] [(.long (p5.toInt64)), (.long ((((0 : Int64) + (p2.toInt64)) + (p3.toInt64)) + (p4.toInt64)))])) _
    refine XS.ladd X103.here hx rfl (hb hby d4_31) rfl ?_
    show Steps p.tables e below (T103.setTop (mkF m 32 #[.val (.ref a1), .val (.long ((((0 : Int64) + (p2.toInt64)) + (p3.toInt64)) + (p4.toInt64))), .second, .val (.ref a3), .val (.int (4 : Int32)), .val (.int (3 : Int32)), .val (.int p5)] [(.long (((((0 : Int64) + (p2.toInt64)) + (p3.toInt64)) + (p4.toInt64)) + (p5.toInt64)))])) _
    refine XS.lstoreN X103.here hx rfl (hb hby d4_32) rfl (l' := #[.val (.ref a1), .val (.long (((((0 : Int64) + (p2.toInt64)) + (p3.toInt64)) + (p4.toInt64)) + (p5.toInt64))), .second, .val (.ref a3), .val (.int (4 : Int32)), .val (.int (3 : Int32)), .val (.int p5)]) rfl ?_
    show Steps p.tables e below (T103.setTop (mkF m 33 #[.val (.ref a1), .val (.long (((((0 : Int64) + (p2.toInt64)) + (p3.toInt64)) + (p4.toInt64)) + (p5.toInt64))), .second, .val (.ref a3), .val (.int (4 : Int32)), .val (.int (3 : Int32)), .val (.int p5)] [])) _
    refine XS.iinc X103.here hx rfl (hb hby d4_33) rfl (l' := #[.val (.ref a1), .val (.long (((((0 : Int64) + (p2.toInt64)) + (p3.toInt64)) + (p4.toInt64)) + (p5.toInt64))), .second, .val (.ref a3), .val (.int (4 : Int32)), .val (.int (4 : Int32)), .val (.int p5)]) rfl ?_
    show Steps p.tables e below (T103.setTop (mkF m 36 #[.val (.ref a1), .val (.long (((((0 : Int64) + (p2.toInt64)) + (p3.toInt64)) + (p4.toInt64)) + (p5.toInt64))), .second, .val (.ref a3), .val (.int (4 : Int32)), .val (.int (4 : Int32)), .val (.int p5)] [])) _
    refine XS.goto X103.here hx rfl (pc0 := 36) (pc' := 14) rfl (hb hby d4_36) (by decide) (by decide) ?_
    show Steps p.tables e below (T103.setTop (mkF m 14 #[.val (.ref a1), .val (.long (((((0 : Int64) + (p2.toInt64)) + (p3.toInt64)) + (p4.toInt64)) + (p5.toInt64))), .second, .val (.ref a3), .val (.int (4 : Int32)), .val (.int (4 : Int32)), .val (.int p5)] [])) _
    refine XS.iload X103.here hx rfl (hb hby d4_14) rfl ?_
    show Steps p.tables e below (T103.setTop (mkF m 16 #[.val (.ref a1), .val (.long (((((0 : Int64) + (p2.toInt64)) + (p3.toInt64)) + (p4.toInt64)) + (p5.toInt64))), .second, .val (.ref a3), .val (.int (4 : Int32)), .val (.int (4 : Int32)), .val (.int p5)] [(.int (4 : Int32))])) _
    refine XS.iload X103.here hx rfl (hb hby d4_16) rfl ?_
    show Steps p.tables e below (T103.setTop (mkF m 18 #[.val (.ref a1), .val (.long (((((0 : Int64) + (p2.toInt64)) + (p3.toInt64)) + (p4.toInt64)) + (p5.toInt64))), .second, .val (.ref a3), .val (.int (4 : Int32)), .val (.int (4 : Int32)), .val (.int p5)] [(.int (4 : Int32)), (.int (4 : Int32))])) _
    refine XS.icmpYes X103.here hx rfl (pc0 := 18) (pc' := 39) rfl (hb hby d4_18) rfl (flt (by decide : ¬ ((4 : Int32) < (4 : Int32)))).2.1 (by decide) (by decide) ?_
    show Steps p.tables e below (T103.setTop (mkF m 39 #[.val (.ref a1), .val (.long (((((0 : Int64) + (p2.toInt64)) + (p3.toInt64)) + (p4.toInt64)) + (p5.toInt64))), .second, .val (.ref a3), .val (.int (4 : Int32)), .val (.int (4 : Int32)), .val (.int p5)] [])) _
    refine XS.lloadN X103.here hx rfl (hb hby d4_39) rfl ?_
    exact kt)
  exact own_retJ X103 hx Bd.notSynchronized Bd.returns (hb hby d4_40) pre109 (show Q4_4 p2 p3 p4 p5 h0 n0 _ _ _ from ⟨rfl, N0, e103⟩) (by decide) (by decide)
theorem own_n (x : Int32) : ∀ k : Int32, k = ((x &&& (7 : Int32)) - (x &&& (7 : Int32)) / (5 : Int32) * (5 : Int32)) → (k = (0 : Int32) ∨ k = (1 : Int32) ∨ k = (2 : Int32) ∨ k = (3 : Int32) ∨ k = (4 : Int32)) := by
  intro k hk
  have e1 : (x &&& (7 : Int32)).toInt = x.toInt % 2 ^ 3 := Jvm.Kit.i32_mask x _ (k := 3) (by decide) (by decide)
  have e2 : k.toInt = (x &&& (7 : Int32)).toInt % 5 := by rw [hk]; exact own_rem (by omega) (by decide)
  have e3 : k.toInt = 0 ∨ k.toInt = 1 ∨ k.toInt = 2 ∨ k.toInt = 3 ∨ k.toInt = 4 := by omega
  rcases e3 with h | h | h | h | h <;> simp only [← Int32.toInt_inj, h] <;> decide
theorem ef_106 (m : MethodId) (x0 : Int32) (x1 : Int32) (x2 : Int32) (x3 : Int32) (x4 : Int32) : entryFrame m #[(.int x0), (.int x1), (.int x2), (.int x3), (.int x4)] maxLocals = mkF m 0 #[.val (.int x0), .val (.int x1), .val (.int x2), .val (.int x3), .val (.int x4), .unset, .unset, .unset, .unset, .unset, .unset] [] := by first | (simp [entryFrame, mkF, argsToLocals, Value.category, maxLocals]; done) | rfl
theorem pd_107 : parseMethodDescriptor "(IIIII)[I" = some ⟨[.int, .int, .int, .int, .int], some (.array .int)⟩ := by decide +kernel
theorem pd_108 : parseMethodDescriptor "([I[I)V" = some ⟨[(.array .int), (.array .int)], none⟩ := by decide +kernel
theorem pd_109 : parseMethodDescriptor "()J" = some ⟨[], some .long⟩ := by decide +kernel
def Q0 (h0 : Heap) (n0 : Nat) (v : Option Value) (h : Heap) (L : List Loc) : Prop := v = some (.int (1 : Int32)) ∧ Fr n0 L
set_option maxRecDepth 65536 in
set_option maxHeartbeats 40000000 in
theorem rm0 (l : Launch) (Z : State) (a0 : Array Value) (hw : ∀ d ∈ tables_1, d.before a0 Z = true) (ws : List Jvm.Cond) (p1 p2 p3 p4 p5 : Int32) (h0 : Heap) (n0 : Nat) (Z0 : n0 ≤ h0.size) :
    MetFree l x (head1 (Jvm.Cond.code x code maxLocals ret :: ws) room_1) (fun a U => a = #[(.int p1), (.int p2), (.int p3), (.int p4), (.int p5)] ∧ Z.Warmed39 U.vm ∧ U.heap = h0) (fun _ _ _ _ _ => True) (fun _ U o U' => ∃ v L, o = .returned v ∧ Q0 h0 n0 v U'.heap L ∧ FrameEnd U o U' L room_1.cells room_1.slots) := by
  refine MetFree.of_bodySF (plainFor_of_name pn_1) hisR ?_
  intro p e s m args below meth c s₁ Bd hml0 hP hK
  obtain ⟨rfl, hZ, hh⟩ := hP
  have hx := Bd.exec
  have hby := Bd.bytes
  have hml : c.maxLocals = 11 := hml0
  have hown : s.vm.findClass "com/example/avocet/avocet/index/PostingsOccurrencesPinLaw" = some m.cls := findClass_of_methodNamed Bd.named
  have hnm := (name_of_methodNamed Bd.named Bd.method).1
  have X0 : Stand p l e room_1 s m #[(.int p1), (.int p2), (.int p3), (.int p4), (.int p5)] below meth c s₁ [] 0 0 := Stand.of_body Bd
  have e0 : s₁.heap = h0 := by rw [← hh, Bd.state]; rfl
  have N0 := Fr.nil n0
  have pre0 : ∀ t, Steps p.tables e below (s₁.setTop (mkF m 0 #[.val (.int p1), .val (.int p2), .val (.int p3), .val (.int p4), .val (.int p5), .unset, .unset, .unset, .unset, .unset, .unset] [])) t → Steps p.tables e below (s₁.setTop (entryFrame m #[(.int p1), (.int p2), (.int p3), (.int p4), (.int p5)] maxLocals)) t := fun t k => castTop (ef_106 m p1 p2 p3 p4 p5) k
  have pre110 : ∀ t, Steps p.tables e below (s₁.setTop (mkF m 6 #[.val (.int p1), .val (.int p2), .val (.int p3), .val (.int p4), .val (.int p5), .unset, .unset, .unset, .unset, .unset, .unset] [(.int ((p1 &&& (7 : Int32)) - (p1 &&& (7 : Int32)) / (5 : Int32) * (5 : Int32)))])) t → Steps p.tables e below (s₁.setTop (entryFrame m #[(.int p1), (.int p2), (.int p3), (.int p4), (.int p5)] maxLocals)) t := fun t kt => pre0 t (by
    show Steps p.tables e below (s₁.setTop (mkF m 0 #[.val (.int p1), .val (.int p2), .val (.int p3), .val (.int p4), .val (.int p5), .unset, .unset, .unset, .unset, .unset, .unset] [])) _
    refine XS.iloadN X0.here hx rfl (hb hby at_0) rfl ?_
    show Steps p.tables e below (s₁.setTop (mkF m 1 #[.val (.int p1), .val (.int p2), .val (.int p3), .val (.int p4), .val (.int p5), .unset, .unset, .unset, .unset, .unset, .unset] [(.int p1)])) _
    refine XS.bipush X0.here hx rfl (hb hby at_1) ?_
    show Steps p.tables e below (s₁.setTop (mkF m 3 #[.val (.int p1), .val (.int p2), .val (.int p3), .val (.int p4), .val (.int p5), .unset, .unset, .unset, .unset, .unset, .unset] [(.int (7 : Int32)), (.int p1)])) _
    refine XS.iand X0.here hx rfl (hb hby at_3) rfl ?_
    show Steps p.tables e below (s₁.setTop (mkF m 4 #[.val (.int p1), .val (.int p2), .val (.int p3), .val (.int p4), .val (.int p5), .unset, .unset, .unset, .unset, .unset, .unset] [(.int (p1 &&& (7 : Int32)))])) _
    refine XS.iconst X0.here hx rfl (hb hby at_4) ?_
    show Steps p.tables e below (s₁.setTop (mkF m 5 #[.val (.int p1), .val (.int p2), .val (.int p3), .val (.int p4), .val (.int p5), .unset, .unset, .unset, .unset, .unset, .unset] [(.int (5 : Int32)), (.int (p1 &&& (7 : Int32)))])) _
    refine XS.irem X0.here hx rfl (hb hby at_5) rfl (by decide) ?_
    exact kt)
  obtain ⟨kk, hkk⟩ : ∃ z : Int32, z = ((p1 &&& (7 : Int32)) - (p1 &&& (7 : Int32)) / (5 : Int32) * (5 : Int32)) := ⟨_, rfl⟩
  have pre111 : ∀ t, Steps p.tables e below (s₁.setTop (mkF m 6 #[.val (.int p1), .val (.int p2), .val (.int p3), .val (.int p4), .val (.int p5), .unset, .unset, .unset, .unset, .unset, .unset] [(.int kk)])) t → Steps p.tables e below (s₁.setTop (entryFrame m #[(.int p1), (.int p2), (.int p3), (.int p4), (.int p5)] maxLocals)) t := by rw [hkk]; exact pre110
  have pre112 : ∀ t, Steps p.tables e below (s₁.setTop (mkF m 14 #[.val (.int p1), .val (.int p2), .val (.int p3), .val (.int p4), .val (.int p5), .val (.int kk), .unset, .unset, .unset, .unset, .unset] [(.int (3 : Int32)), (.int (2 : Int32)), (.int (1 : Int32)), (.int (0 : Int32)), (.int kk)])) t → Steps p.tables e below (s₁.setTop (entryFrame m #[(.int p1), (.int p2), (.int p3), (.int p4), (.int p5)] maxLocals)) t := fun t kt => pre111 t (by
    show Steps p.tables e below (s₁.setTop (mkF m 6 #[.val (.int p1), .val (.int p2), .val (.int p3), .val (.int p4), .val (.int p5), .unset, .unset, .unset, .unset, .unset, .unset] [(.int kk)])) _
    refine XS.istore X0.here hx rfl (hb hby at_6) rfl (l' := #[.val (.int p1), .val (.int p2), .val (.int p3), .val (.int p4), .val (.int p5), .val (.int kk), .unset, .unset, .unset, .unset, .unset]) rfl ?_
    show Steps p.tables e below (s₁.setTop (mkF m 8 #[.val (.int p1), .val (.int p2), .val (.int p3), .val (.int p4), .val (.int p5), .val (.int kk), .unset, .unset, .unset, .unset, .unset] [])) _
    refine XS.iload X0.here hx rfl (hb hby at_8) rfl ?_
    show Steps p.tables e below (s₁.setTop (mkF m 10 #[.val (.int p1), .val (.int p2), .val (.int p3), .val (.int p4), .val (.int p5), .val (.int kk), .unset, .unset, .unset, .unset, .unset] [(.int kk)])) _
    refine XS.iconst X0.here hx rfl (hb hby at_10) ?_
    show Steps p.tables e below (s₁.setTop (mkF m 11 #[.val (.int p1), .val (.int p2), .val (.int p3), .val (.int p4), .val (.int p5), .val (.int kk), .unset, .unset, .unset, .unset, .unset] [(.int (0 : Int32)), (.int kk)])) _
    refine XS.iconst X0.here hx rfl (hb hby at_11) ?_
    show Steps p.tables e below (s₁.setTop (mkF m 12 #[.val (.int p1), .val (.int p2), .val (.int p3), .val (.int p4), .val (.int p5), .val (.int kk), .unset, .unset, .unset, .unset, .unset] [(.int (1 : Int32)), (.int (0 : Int32)), (.int kk)])) _
    refine XS.iconst X0.here hx rfl (hb hby at_12) ?_
    show Steps p.tables e below (s₁.setTop (mkF m 13 #[.val (.int p1), .val (.int p2), .val (.int p3), .val (.int p4), .val (.int p5), .val (.int kk), .unset, .unset, .unset, .unset, .unset] [(.int (2 : Int32)), (.int (1 : Int32)), (.int (0 : Int32)), (.int kk)])) _
    refine XS.iconst X0.here hx rfl (hb hby at_13) ?_
    exact kt)
  rcases own_n p1 kk hkk with hk | hk | hk | hk | hk
  · have pre113 : ∀ t, Steps p.tables e below (s₁.setTop (mkF m 14 #[.val (.int p1), .val (.int p2), .val (.int p3), .val (.int p4), .val (.int p5), .val (.int (0 : Int32)), .unset, .unset, .unset, .unset, .unset] [(.int (3 : Int32)), (.int (2 : Int32)), (.int (1 : Int32)), (.int (0 : Int32)), (.int (0 : Int32))])) t → Steps p.tables e below (s₁.setTop (entryFrame m #[(.int p1), (.int p2), (.int p3), (.int p4), (.int p5)] maxLocals)) t := by have q := pre112; rw [hk] at q; exact q
    obtain ⟨_, _, ⟨T114, L114, k114, n114⟩, -, X114, ⟨Lc114, hQ114, l114, y114, z114⟩, st114⟩ := Jvm.LawKit.callS X0 hx (y := (⟨"com/example/avocet/avocet/index/PostingsOccurrencesPinLaw", "pick", "(IIIII)[I"⟩ : MethodName)) hown (mvT hZ (hw _ (List.mem_of_getElem? (i := 0) rfl))) (mvT hZ (hw _ (List.mem_of_getElem? (i := 1) rfl))) (mvT hZ (hw _ (List.mem_of_getElem? (i := 2) rfl))) (mvT hZ (hw _ (List.mem_of_getElem? (i := 3) rfl))) (by decide) (backOf (W := 0) (rm1_0 l Z a0 hw [] (0 : Int32) (1 : Int32) (2 : Int32) (3 : Int32) h0 n0 Z0) hZ (hw _ (List.mem_of_getElem? (i := 3) rfl)) (hw _ (List.mem_of_getElem? (i := 2) rfl)) (by decide) (by decide)) (g := (mkF m 14 #[.val (.int p1), .val (.int p2), .val (.int p3), .val (.int p4), .val (.int p5), .val (.int (0 : Int32)), .unset, .unset, .unset, .unset, .unset] [(.int (3 : Int32)), (.int (2 : Int32)), (.int (1 : Int32)), (.int (0 : Int32)), (.int (0 : Int32))])) rfl (by rw [hml]; rfl) (argsL := [(.int (0 : Int32)), (.int (0 : Int32)), (.int (1 : Int32)), (.int (2 : Int32)), (.int (3 : Int32))]) (rest := []) (lenOf pd_107 rfl) rfl (by show 2 * 0 + _ ≤ _; exact Nat.le_of_eq rfl) (hb hby at_14) (fun _ _ => ⟨rfl, e0, (by decide : 0 + 1 ≤ _), (by decide : 0 + 0 ≤ _)⟩)
    dsimp only [Pt.U, Pt.locs, Pt.cells, Pt.slots] at X114 l114 y114 z114 st114 hQ114
    subst l114 y114 z114
    obtain ⟨r114, kc114, rfl, Nq114, K114, z114, G114, V114⟩ := hQ114
    have N114 := Fr.app N0 Nq114
    have z115 : n0 ≤ T114.heap.size := Nat.le_trans Z0 K114.1
    obtain ⟨_, _, ⟨T116, L116, k116, n116⟩, -, X116, ⟨Lc116, hQ116, l116, y116, z116⟩, st116⟩ := Jvm.LawKit.callS X114 hx (y := (⟨"com/example/avocet/avocet/index/PostingsOccurrencesPinLaw", "pick", "(IIIII)[I"⟩ : MethodName)) hown (mvT hZ (hw _ (List.mem_of_getElem? (i := 0) rfl))) (mvT hZ (hw _ (List.mem_of_getElem? (i := 1) rfl))) (mvT hZ (hw _ (List.mem_of_getElem? (i := 2) rfl))) (mvT hZ (hw _ (List.mem_of_getElem? (i := 3) rfl))) (by decide) (backOf (W := 0) (rm1_0 l Z a0 hw [] p2 p3 p4 p5 T114.heap n0 z115) hZ (hw _ (List.mem_of_getElem? (i := 3) rfl)) (hw _ (List.mem_of_getElem? (i := 2) rfl)) (by decide) (by decide)) (g := (mkF m 26 #[.val (.int p1), .val (.int p2), .val (.int p3), .val (.int p4), .val (.int p5), .val (.int (0 : Int32)), .val (.ref r114), .unset, .unset, .unset, .unset] [(.int p5), (.int p4), (.int p3), (.int p2), (.int (0 : Int32))])) rfl (by rw [hml]; rfl) (argsL := [(.int (0 : Int32)), (.int p2), (.int p3), (.int p4), (.int p5)]) (rest := []) (lenOf pd_107 rfl) rfl (by show 2 * 0 + _ ≤ _; exact Nat.le_of_eq rfl) (hb hby at_26) (fun _ _ => ⟨rfl, rfl, (by decide : 1 + 1 ≤ _), (by decide : 0 + 0 ≤ _)⟩)
    dsimp only [Pt.U, Pt.locs, Pt.cells, Pt.slots] at X116 l116 y116 z116 st116 hQ116
    subst l116 y116 z116
    obtain ⟨r116, kc116, rfl, Nq116, K116, z116, G116, V116⟩ := hQ116
    have N116 := Fr.app N114 Nq116
    have ne117 : r114 ≠ r116 := Nat.ne_of_lt (Nat.lt_of_lt_of_le V114.lt z116)
    have z118 : n0 ≤ T116.heap.size := Nat.le_trans z115 K116.1
    have c119 := V114.keep K116 nin0
    obtain ⟨T120, h120, X120, e120, E120, A120, D120, -, st120⟩ := newO X116 hx hZ hown (hw _ (List.mem_of_getElem? (i := 5) rfl)) (hw _ (List.mem_of_getElem? (i := 6) rfl)) (hw _ (List.mem_of_getElem? (i := 7) rfl)) rfl (g := (mkF m 31 #[.val (.int p1), .val (.int p2), .val (.int p3), .val (.int p4), .val (.int p5), .val (.int (0 : Int32)), .val (.ref r114), .val (.ref r116), .unset, .unset, .unset] [])) rfl (hb hby at_31) (by decide) (by decide)
    obtain ⟨b120, g120⟩ : ∃ z, z = T116.heap.size := ⟨_, rfl⟩
    rw [← g120] at A120 D120 st120
    have G120 : n0 ≤ b120 := Nat.le_trans z118 (Nat.le_of_eq g120.symm)
    have ne121 : r114 ≠ b120 := Nat.ne_of_lt (Nat.lt_of_lt_of_le c119.lt (Nat.le_of_eq g120.symm))
    have ne122 : r116 ≠ b120 := Nat.ne_of_lt (Nat.lt_of_lt_of_le V116.lt (Nat.le_of_eq g120.symm))
    have c123 := c119.ext E120
    have c124 := V116.ext E120
    have F125 : Fld Z h120 b120 "com/example/avocet/avocet/index/Postings" "documents" "[I" .null := D120 (Or.inr (hw _ (List.mem_of_getElem? (i := 15) rfl))) (ty := (.array .int)) (by decide)
    have F126 : Fld Z h120 b120 "com/example/avocet/avocet/index/Postings" "frequencies" "[I" .null := D120 (Or.inr (hw _ (List.mem_of_getElem? (i := 17) rfl))) (ty := (.array .int)) (by decide)
    have z127 : n0 ≤ h120.size := Nat.le_trans z118 E120.1
    obtain ⟨_, _, ⟨T128, L128, k128, n128⟩, -, X128, ⟨Lc128, hQ128, l128, y128, z128⟩, st128⟩ := X120.specialBack hx (y := (⟨"com/example/avocet/avocet/index/Postings", "<init>", "([I[I)V"⟩ : MethodName)) rfl hown (mvT hZ (hw _ (List.mem_of_getElem? (i := 8) rfl))) (mvT hZ (hw _ (List.mem_of_getElem? (i := 9) rfl))) (mvT hZ (hw _ (List.mem_of_getElem? (i := 10) rfl))) (by decide) (backOf (W := 1) (rm2 l Z a0 hw [] b120 r114 r116 h120 n0 z127 A120 F125 F126 G120) hZ (hw _ (List.mem_of_getElem? (i := 10) rfl)) (hw _ (List.mem_of_getElem? (i := 7) rfl)) (by decide) (by decide)) (g := (mkF m 39 #[.val (.int p1), .val (.int p2), .val (.int p3), .val (.int p4), .val (.int p5), .val (.int (0 : Int32)), .val (.ref r114), .val (.ref r116), .unset, .unset, .unset] [(.ref r116), (.ref r114), (.ref b120), (.ref b120)])) rfl (by rw [hml]; rfl) (Steps.refl _) (a := b120) (argsL := [(.ref r114), (.ref r116)]) (rest := [(.ref b120)]) (lenOf pd_108 rfl) rfl (by show 2 * 0 + _ ≤ _; exact Nat.le_of_eq rfl) (hb hby at_39) (fun _ _ => ⟨rfl, e120, (by decide : 3 + 0 ≤ _), (by decide : 2 + 0 ≤ _)⟩)
    dsimp only [Pt.U, Pt.locs, Pt.cells, Pt.slots] at X128 l128 y128 z128 st128 hQ128
    subst l128 y128 z128
    obtain ⟨rfl, Nq128, K128, Fd128, Ff128⟩ := hQ128
    have N128 := Fr.app N116 Nq128
    have z129 : n0 ≤ T128.heap.size := Nat.le_trans z127 K128.1
    have c130 := c123.keep K128 (ninS ne121 nin0)
    have c131 := c124.keep K128 (ninS ne122 nin0)
    have c132 := A120.keep K128
    obtain ⟨cq135, kq135, q135a, q135b, q135c⟩ := isOf hZ rfl c132
    obtain ⟨_, _, ⟨T135, L135, k135, n135⟩, -, X135, ⟨Lc135, hQ135, l135, y135, z135⟩, st135⟩ := X128.virtualBack hx (y := (⟨"com/example/avocet/avocet/index/Postings", "occurrences", "()J"⟩ : MethodName)) (z := (⟨"com/example/avocet/avocet/index/Postings", "occurrences", "()J"⟩ : MethodName)) hown (mvT hZ (hw _ (List.mem_of_getElem? (i := 18) rfl))) (mvT hZ (hw _ (List.mem_of_getElem? (i := 19) rfl))) (notFace_of_selects (args := #[]) (mvT hZ (hw _ (List.mem_of_getElem? (i := 21) rfl)))) (mvT hZ (hw _ (List.mem_of_getElem? (i := 21) rfl))) (mvT hZ (hw _ (List.mem_of_getElem? (i := 20) rfl))) (by decide) (backOf (W := 0) (rm4_0 l Z a0 hw [] b120 r116 kc116 p2 p3 p4 p5 T128.heap n0 z129 Ff128 c131) hZ (hw _ (List.mem_of_getElem? (i := 22) rfl)) (hw _ (List.mem_of_getElem? (i := 7) rfl)) (by decide) (by decide)) q135a q135c (g := (mkF m 102 #[.val (.int p1), .val (.int p2), .val (.int p3), .val (.int p4), .val (.int p5), .val (.int (0 : Int32)), .val (.ref r114), .val (.ref r116), .val (.ref b120), .val (.long (0 : Int64)), .second] [(.ref b120)])) rfl (by rw [hml]; rfl) (Steps.refl _) (argsL := []) (rest := []) (lenOf pd_109 rfl) rfl (by show 2 * 0 + _ ≤ _; exact Nat.le_of_eq rfl) (hb hby at_102) (fun _ _ => ⟨rfl, rfl, (by decide : 3 + 0 ≤ _), (by decide : 2 + 0 ≤ _)⟩)
    dsimp only [Pt.U, Pt.locs, Pt.cells, Pt.slots] at X135 l135 y135 z135 st135 hQ135
    subst l135 y135 z135
    obtain ⟨rfl, Nq135, e135⟩ := hQ135
    have N135 := Fr.app N128 Nq135
    have pre136 : ∀ t, Steps p.tables e below (T135.setTop (mkF m 116 #[.val (.int p1), .val (.int p2), .val (.int p3), .val (.int p4), .val (.int p5), .val (.int (0 : Int32)), .val (.ref r114), .val (.ref r116), .val (.ref b120), .val (.long (0 : Int64)), .second] [(.int (1 : Int32))])) t → Steps p.tables e below (s₁.setTop (entryFrame m #[(.int p1), (.int p2), (.int p3), (.int p4), (.int p5)] maxLocals)) t := fun t kt => pre113 t (by
      show Steps p.tables e below (s₁.setTop (mkF m 14 #[.val (.int p1), .val (.int p2), .val (.int p3), .val (.int p4), .val (.int p5), .val (.int (0 : Int32)), .unset, .unset, .unset, .unset, .unset] [(.int (3 : Int32)), (.int (2 : Int32)), (.int (1 : Int32)), (.int (0 : Int32)), (.int (0 : Int32))])) _
      refine st114 _ ?_
      show Steps p.tables e below (T114.setTop (mkF m 17 #[.val (.int p1), .val (.int p2), .val (.int p3), .val (.int p4), .val (.int p5), .val (.int (0 : Int32)), .unset, .unset, .unset, .unset, .unset] [(.ref r114)])) _
      refine XS.astore X114.here hx rfl (hb hby at_17) rfl rfl (l' := #[.val (.int p1), .val (.int p2), .val (.int p3), .val (.int p4), .val (.int p5), .val (.int (0 : Int32)), .val (.ref r114), .unset, .unset, .unset, .unset]) rfl ?_
      show Steps p.tables e below (T114.setTop (mkF m 19 #[.val (.int p1), .val (.int p2), .val (.int p3), .val (.int p4), .val (.int p5), .val (.int (0 : Int32)), .val (.ref r114), .unset, .unset, .unset, .unset] [])) _
      refine XS.iload X114.here hx rfl (hb hby at_19) rfl ?_
      show Steps p.tables e below (T114.setTop (mkF m 21 #[.val (.int p1), .val (.int p2), .val (.int p3), .val (.int p4), .val (.int p5), .val (.int (0 : Int32)), .val (.ref r114), .unset, .unset, .unset, .unset] [(.int (0 : Int32))])) _
      refine XS.iloadN X114.here hx rfl (hb hby at_21) rfl ?_
      show Steps p.tables e below (T114.setTop (mkF m 22 #[.val (.int p1), .val (.int p2), .val (.int p3), .val (.int p4), .val (.int p5), .val (.int (0 : Int32)), .val (.ref r114), .unset, .unset, .unset, .unset] [(.int p2), (.int (0 : Int32))])) _
      refine XS.iloadN X114.here hx rfl (hb hby at_22) rfl ?_
      show Steps p.tables e below (T114.setTop (mkF m 23 #[.val (.int p1), .val (.int p2), .val (.int p3), .val (.int p4), .val (.int p5), .val (.int (0 : Int32)), .val (.ref r114), .unset, .unset, .unset, .unset] [(.int p3), (.int p2), (.int (0 : Int32))])) _
      refine XS.iloadN X114.here hx rfl (hb hby at_23) rfl ?_
      show Steps p.tables e below (T114.setTop (mkF m 24 #[.val (.int p1), .val (.int p2), .val (.int p3), .val (.int p4), .val (.int p5), .val (.int (0 : Int32)), .val (.ref r114), .unset, .unset, .unset, .unset] [(.int p4), (.int p3), (.int p2), (.int (0 : Int32))])) _
      refine XS.iload X114.here hx rfl (hb hby at_24) rfl ?_
      show Steps p.tables e below (T114.setTop (mkF m 26 #[.val (.int p1), .val (.int p2), .val (.int p3), .val (.int p4), .val (.int p5), .val (.int (0 : Int32)), .val (.ref r114), .unset, .unset, .unset, .unset] [(.int p5), (.int p4), (.int p3), (.int p2), (.int (0 : Int32))])) _
      refine st116 _ ?_
      show Steps p.tables e below (T116.setTop (mkF m 29 #[.val (.int p1), .val (.int p2), .val (.int p3), .val (.int p4), .val (.int p5), .val (.int (0 : Int32)), .val (.ref r114), .unset, .unset, .unset, .unset] [(.ref r116)])) _
      refine XS.astore X116.here hx rfl (hb hby at_29) rfl rfl (l' := #[.val (.int p1), .val (.int p2), .val (.int p3), .val (.int p4), .val (.int p5), .val (.int (0 : Int32)), .val (.ref r114), .val (.ref r116), .unset, .unset, .unset]) rfl ?_
      show Steps p.tables e below (T116.setTop (mkF m 31 #[.val (.int p1), .val (.int p2), .val (.int p3), .val (.int p4), .val (.int p5), .val (.int (0 : Int32)), .val (.ref r114), .val (.ref r116), .unset, .unset, .unset] [])) _
      refine st120 _ ?_
      show Steps p.tables e below (T120.setTop (mkF m 34 #[.val (.int p1), .val (.int p2), .val (.int p3), .val (.int p4), .val (.int p5), .val (.int (0 : Int32)), .val (.ref r114), .val (.ref r116), .unset, .unset, .unset] [(.ref b120)])) _
      refine XS.dup X120.here hx rfl (hb hby at_34) rfl rfl ?_
      show Steps p.tables e below (T120.setTop (mkF m 35 #[.val (.int p1), .val (.int p2), .val (.int p3), .val (.int p4), .val (.int p5), .val (.int (0 : Int32)), .val (.ref r114), .val (.ref r116), .unset, .unset, .unset] [(.ref b120), (.ref b120)])) _
      refine XS.aload X120.here hx rfl (hb hby at_35) rfl rfl ?_
      show Steps p.tables e below (T120.setTop (mkF m 37 #[.val (.int p1), .val (.int p2), .val (.int p3), .val (.int p4), .val (.int p5), .val (.int (0 : Int32)), .val (.ref r114), .val (.ref r116), .unset, .unset, .unset] [(.ref r114), (.ref b120), (.ref b120)])) _
      refine XS.aload X120.here hx rfl (hb hby at_37) rfl rfl ?_
      show Steps p.tables e below (T120.setTop (mkF m 39 #[.val (.int p1), .val (.int p2), .val (.int p3), .val (.int p4), .val (.int p5), .val (.int (0 : Int32)), .val (.ref r114), .val (.ref r116), .unset, .unset, .unset] [(.ref r116), (.ref r114), (.ref b120), (.ref b120)])) _
      refine st128.trans ?_
      show Steps p.tables e below (T128.setTop (mkF m 42 #[.val (.int p1), .val (.int p2), .val (.int p3), .val (.int p4), .val (.int p5), .val (.int (0 : Int32)), .val (.ref r114), .val (.ref r116), .unset, .unset, .unset] [(.ref b120)])) _
      refine XS.astore X128.here hx rfl (hb hby at_42) rfl rfl (l' := #[.val (.int p1), .val (.int p2), .val (.int p3), .val (.int p4), .val (.int p5), .val (.int (0 : Int32)), .val (.ref r114), .val (.ref r116), .val (.ref b120), .unset, .unset]) rfl ?_
      show Steps p.tables e below (T128.setTop (mkF m 44 #[.val (.int p1), .val (.int p2), .val (.int p3), .val (.int p4), .val (.int p5), .val (.int (0 : Int32)), .val (.ref r114), .val (.ref r116), .val (.ref b120), .unset, .unset] [])) _
      refine XS.lconst X128.here hx rfl (hb hby at_44) ?_
      show Steps p.tables e below (T128.setTop (mkF m 45 #[.val (.int p1), .val (.int p2), .val (.int p3), .val (.int p4), .val (.int p5), .val (.int (0 : Int32)), .val (.ref r114), .val (.ref r116), .val (.ref b120), .unset, .unset] [(.long (0 : Int64))])) _
      refine XS.lstore X128.here hx rfl (hb hby at_45) rfl (l' := #[.val (.int p1), .val (.int p2), .val (.int p3), .val (.int p4), .val (.int p5), .val (.int (0 : Int32)), .val (.ref r114), .val (.ref r116), .val (.ref b120), .val (.long (0 : Int64)), .second]) rfl ?_
      show Steps p.tables e below (T128.setTop (mkF m 47 #[.val (.int p1), .val (.int p2), .val (.int p3), .val (.int p4), .val (.int p5), .val (.int (0 : Int32)), .val (.ref r114), .val (.ref r116), .val (.ref b120), .val (.long (0 : Int64)), .second] [])) _
      refine XS.iload X128.here hx rfl (hb hby at_47) rfl ?_
      show Steps p.tables e below (T128.setTop (mkF m 49 #[.val (.int p1), .val (.int p2), .val (.int p3), .val (.int p4), .val (.int p5), .val (.int (0 : Int32)), .val (.ref r114), .val (.ref r116), .val (.ref b120), .val (.long (0 : Int64)), .second] [(.int (0 : Int32))])) _
      refine XS.iconst X128.here hx rfl (hb hby at_49) ?_
      show Steps p.tables e below (T128.setTop (mkF m 50 #[.val (.int p1), .val (.int p2), .val (.int p3), .val (.int p4), .val (.int p5), .val (.int (0 : Int32)), .val (.ref r114), .val (.ref r116), .val (.ref b120), .val (.long (0 : Int64)), .second] [(.int (1 : Int32)), (.int (0 : Int32))])) _
      refine XS.icmpYes X128.here hx rfl (pc0 := 50) (pc' := 60) rfl (hb hby at_50) rfl (tlt (by decide : (0 : Int32) < (1 : Int32))).1 (by decide) (by decide) ?_
      show Steps p.tables e below (T128.setTop (mkF m 60 #[.val (.int p1), .val (.int p2), .val (.int p3), .val (.int p4), .val (.int p5), .val (.int (0 : Int32)), .val (.ref r114), .val (.ref r116), .val (.ref b120), .val (.long (0 : Int64)), .second] [])) _
      refine XS.iload X128.here hx rfl (hb hby at_60) rfl ?_
      show Steps p.tables e below (T128.setTop (mkF m 62 #[.val (.int p1), .val (.int p2), .val (.int p3), .val (.int p4), .val (.int p5), .val (.int (0 : Int32)), .val (.ref r114), .val (.ref r116), .val (.ref b120), .val (.long (0 : Int64)), .second] [(.int (0 : Int32))])) _
      refine XS.iconst X128.here hx rfl (hb hby at_62) ?_
      show Steps p.tables e below (T128.setTop (mkF m 63 #[.val (.int p1), .val (.int p2), .val (.int p3), .val (.int p4), .val (.int p5), .val (.int (0 : Int32)), .val (.ref r114), .val (.ref r116), .val (.ref b120), .val (.long (0 : Int64)), .second] [(.int (2 : Int32)), (.int (0 : Int32))])) _
      refine XS.icmpYes X128.here hx rfl (pc0 := 63) (pc' := 73) rfl (hb hby at_63) rfl (tlt (by decide : (0 : Int32) < (2 : Int32))).1 (by decide) (by decide) ?_
      show Steps p.tables e below (T128.setTop (mkF m 73 #[.val (.int p1), .val (.int p2), .val (.int p3), .val (.int p4), .val (.int p5), .val (.int (0 : Int32)), .val (.ref r114), .val (.ref r116), .val (.ref b120), .val (.long (0 : Int64)), .second] [])) _
      refine XS.iload X128.here hx rfl (hb hby at_73) rfl ?_
      show Steps p.tables e below (T128.setTop (mkF m 75 #[.val (.int p1), .val (.int p2), .val (.int p3), .val (.int p4), .val (.int p5), .val (.int (0 : Int32)), .val (.ref r114), .val (.ref r116), .val (.ref b120), .val (.long (0 : Int64)), .second] [(.int (0 : Int32))])) _
      refine XS.iconst X128.here hx rfl (hb hby at_75) ?_
      show Steps p.tables e below (T128.setTop (mkF m 76 #[.val (.int p1), .val (.int p2), .val (.int p3), .val (.int p4), .val (.int p5), .val (.int (0 : Int32)), .val (.ref r114), .val (.ref r116), .val (.ref b120), .val (.long (0 : Int64)), .second] [(.int (3 : Int32)), (.int (0 : Int32))])) _
      refine XS.icmpYes X128.here hx rfl (pc0 := 76) (pc' := 86) rfl (hb hby at_76) rfl (tlt (by decide : (0 : Int32) < (3 : Int32))).1 (by decide) (by decide) ?_
      show Steps p.tables e below (T128.setTop (mkF m 86 #[.val (.int p1), .val (.int p2), .val (.int p3), .val (.int p4), .val (.int p5), .val (.int (0 : Int32)), .val (.ref r114), .val (.ref r116), .val (.ref b120), .val (.long (0 : Int64)), .second] [])) _
      refine XS.iload X128.here hx rfl (hb hby at_86) rfl ?_
      show Steps p.tables e below (T128.setTop (mkF m 88 #[.val (.int p1), .val (.int p2), .val (.int p3), .val (.int p4), .val (.int p5), .val (.int (0 : Int32)), .val (.ref r114), .val (.ref r116), .val (.ref b120), .val (.long (0 : Int64)), .second] [(.int (0 : Int32))])) _
      refine XS.iconst X128.here hx rfl (hb hby at_88) ?_
      show Steps p.tables e below (T128.setTop (mkF m 89 #[.val (.int p1), .val (.int p2), .val (.int p3), .val (.int p4), .val (.int p5), .val (.int (0 : Int32)), .val (.ref r114), .val (.ref r116), .val (.ref b120), .val (.long (0 : Int64)), .second] [(.int (4 : Int32)), (.int (0 : Int32))])) _
      refine XS.icmpYes X128.here hx rfl (pc0 := 89) (pc' := 100) rfl (hb hby at_89) rfl (tlt (by decide : (0 : Int32) < (4 : Int32))).1 (by decide) (by decide) ?_
      show Steps p.tables e below (T128.setTop (mkF m 100 #[.val (.int p1), .val (.int p2), .val (.int p3), .val (.int p4), .val (.int p5), .val (.int (0 : Int32)), .val (.ref r114), .val (.ref r116), .val (.ref b120), .val (.long (0 : Int64)), .second] [])) _
      refine XS.aload X128.here hx rfl (hb hby at_100) rfl rfl ?_
      show Steps p.tables e below (T128.setTop (mkF m 102 #[.val (.int p1), .val (.int p2), .val (.int p3), .val (.int p4), .val (.int p5), .val (.int (0 : Int32)), .val (.ref r114), .val (.ref r116), .val (.ref b120), .val (.long (0 : Int64)), .second] [(.ref b120)])) _
      refine st135.trans ?_
      show Steps p.tables e below (T135.setTop (mkF m 105 #[.val (.int p1), .val (.int p2), .val (.int p3), .val (.int p4), .val (.int p5), .val (.int (0 : Int32)), .val (.ref r114), .val (.ref r116), .val (.ref b120), .val (.long (0 : Int64)), .second] [(.long (0 : Int64))])) _
      refine XS.lload X135.here hx rfl (hb hby at_105) rfl ?_
      show Steps p.tables e below (T135.setTop (mkF m 107 #[.val (.int p1), .val (.int p2), .val (.int p3), .val (.int p4), .val (.int p5), .val (.int (0 : Int32)), .val (.ref r114), .val (.ref r116), .val (.ref b120), .val (.long (0 : Int64)), .second] [(.long (0 : Int64)), (.long (0 : Int64))])) _
      refine XS.lcmp X135.here hx rfl (hb hby at_107) rfl ?_
      show Steps p.tables e below (T135.setTop (mkF m 108 #[.val (.int p1), .val (.int p2), .val (.int p3), .val (.int p4), .val (.int p5), .val (.int (0 : Int32)), .val (.ref r114), .val (.ref r116), .val (.ref b120), .val (.long (0 : Int64)), .second] [(.int (lcmpW (0 : Int64) (0 : Int64)))])) _
      refine XS.ifNo X135.here hx rfl (hb hby at_108) rfl ((if0 _ _).trans (teq ((lw_eq _ _).mpr (by decide : (0 : Int64) = (0 : Int64)))).2) ?_
      show Steps p.tables e below (T135.setTop (mkF m 111 #[.val (.int p1), .val (.int p2), .val (.int p3), .val (.int p4), .val (.int p5), .val (.int (0 : Int32)), .val (.ref r114), .val (.ref r116), .val (.ref b120), .val (.long (0 : Int64)), .second] [])) _
      refine XS.iconst X135.here hx rfl (hb hby at_111) ?_
      show Steps p.tables e below (T135.setTop (mkF m 112 #[.val (.int p1), .val (.int p2), .val (.int p3), .val (.int p4), .val (.int p5), .val (.int (0 : Int32)), .val (.ref r114), .val (.ref r116), .val (.ref b120), .val (.long (0 : Int64)), .second] [(.int (1 : Int32))])) _
      refine XS.goto X135.here hx rfl (pc0 := 112) (pc' := 116) rfl (hb hby at_112) (by decide) (by decide) ?_
      exact kt)
    exact own_retN X135 hx Bd.notSynchronized (t := .boolean) Bd.returns (by simp) (hb hby at_116) pre136 (show Q0 h0 n0 _ _ _ from ⟨rfl, N135⟩) (by decide) (by decide)
  · have pre137 : ∀ t, Steps p.tables e below (s₁.setTop (mkF m 14 #[.val (.int p1), .val (.int p2), .val (.int p3), .val (.int p4), .val (.int p5), .val (.int (1 : Int32)), .unset, .unset, .unset, .unset, .unset] [(.int (3 : Int32)), (.int (2 : Int32)), (.int (1 : Int32)), (.int (0 : Int32)), (.int (1 : Int32))])) t → Steps p.tables e below (s₁.setTop (entryFrame m #[(.int p1), (.int p2), (.int p3), (.int p4), (.int p5)] maxLocals)) t := by have q := pre112; rw [hk] at q; exact q
    obtain ⟨_, _, ⟨T138, L138, k138, n138⟩, -, X138, ⟨Lc138, hQ138, l138, y138, z138⟩, st138⟩ := Jvm.LawKit.callS X0 hx (y := (⟨"com/example/avocet/avocet/index/PostingsOccurrencesPinLaw", "pick", "(IIIII)[I"⟩ : MethodName)) hown (mvT hZ (hw _ (List.mem_of_getElem? (i := 0) rfl))) (mvT hZ (hw _ (List.mem_of_getElem? (i := 1) rfl))) (mvT hZ (hw _ (List.mem_of_getElem? (i := 2) rfl))) (mvT hZ (hw _ (List.mem_of_getElem? (i := 3) rfl))) (by decide) (backOf (W := 0) (rm1_1 l Z a0 hw [] (0 : Int32) (1 : Int32) (2 : Int32) (3 : Int32) h0 n0 Z0) hZ (hw _ (List.mem_of_getElem? (i := 3) rfl)) (hw _ (List.mem_of_getElem? (i := 2) rfl)) (by decide) (by decide)) (g := (mkF m 14 #[.val (.int p1), .val (.int p2), .val (.int p3), .val (.int p4), .val (.int p5), .val (.int (1 : Int32)), .unset, .unset, .unset, .unset, .unset] [(.int (3 : Int32)), (.int (2 : Int32)), (.int (1 : Int32)), (.int (0 : Int32)), (.int (1 : Int32))])) rfl (by rw [hml]; rfl) (argsL := [(.int (1 : Int32)), (.int (0 : Int32)), (.int (1 : Int32)), (.int (2 : Int32)), (.int (3 : Int32))]) (rest := []) (lenOf pd_107 rfl) rfl (by show 2 * 0 + _ ≤ _; exact Nat.le_of_eq rfl) (hb hby at_14) (fun _ _ => ⟨rfl, e0, (by decide : 0 + 1 ≤ _), (by decide : 0 + 1 ≤ _)⟩)
    dsimp only [Pt.U, Pt.locs, Pt.cells, Pt.slots] at X138 l138 y138 z138 st138 hQ138
    subst l138 y138 z138
    obtain ⟨r138, kc138, rfl, Nq138, K138, z138, G138, V138⟩ := hQ138
    have N138 := Fr.app N0 Nq138
    have z139 : n0 ≤ T138.heap.size := Nat.le_trans Z0 K138.1
    obtain ⟨_, _, ⟨T140, L140, k140, n140⟩, -, X140, ⟨Lc140, hQ140, l140, y140, z140⟩, st140⟩ := Jvm.LawKit.callS X138 hx (y := (⟨"com/example/avocet/avocet/index/PostingsOccurrencesPinLaw", "pick", "(IIIII)[I"⟩ : MethodName)) hown (mvT hZ (hw _ (List.mem_of_getElem? (i := 0) rfl))) (mvT hZ (hw _ (List.mem_of_getElem? (i := 1) rfl))) (mvT hZ (hw _ (List.mem_of_getElem? (i := 2) rfl))) (mvT hZ (hw _ (List.mem_of_getElem? (i := 3) rfl))) (by decide) (backOf (W := 0) (rm1_1 l Z a0 hw [] p2 p3 p4 p5 T138.heap n0 z139) hZ (hw _ (List.mem_of_getElem? (i := 3) rfl)) (hw _ (List.mem_of_getElem? (i := 2) rfl)) (by decide) (by decide)) (g := (mkF m 26 #[.val (.int p1), .val (.int p2), .val (.int p3), .val (.int p4), .val (.int p5), .val (.int (1 : Int32)), .val (.ref r138), .unset, .unset, .unset, .unset] [(.int p5), (.int p4), (.int p3), (.int p2), (.int (1 : Int32))])) rfl (by rw [hml]; rfl) (argsL := [(.int (1 : Int32)), (.int p2), (.int p3), (.int p4), (.int p5)]) (rest := []) (lenOf pd_107 rfl) rfl (by show 2 * 0 + _ ≤ _; exact Nat.le_of_eq rfl) (hb hby at_26) (fun _ _ => ⟨rfl, rfl, (by decide : 1 + 1 ≤ _), (by decide : 1 + 1 ≤ _)⟩)
    dsimp only [Pt.U, Pt.locs, Pt.cells, Pt.slots] at X140 l140 y140 z140 st140 hQ140
    subst l140 y140 z140
    obtain ⟨r140, kc140, rfl, Nq140, K140, z140, G140, V140⟩ := hQ140
    have N140 := Fr.app N138 Nq140
    have ne141 : r138 ≠ r140 := Nat.ne_of_lt (Nat.lt_of_lt_of_le V138.lt z140)
    have z142 : n0 ≤ T140.heap.size := Nat.le_trans z139 K140.1
    have c143 := V138.keep K140 nin0
    obtain ⟨T144, h144, X144, e144, E144, A144, D144, -, st144⟩ := newO X140 hx hZ hown (hw _ (List.mem_of_getElem? (i := 5) rfl)) (hw _ (List.mem_of_getElem? (i := 6) rfl)) (hw _ (List.mem_of_getElem? (i := 7) rfl)) rfl (g := (mkF m 31 #[.val (.int p1), .val (.int p2), .val (.int p3), .val (.int p4), .val (.int p5), .val (.int (1 : Int32)), .val (.ref r138), .val (.ref r140), .unset, .unset, .unset] [])) rfl (hb hby at_31) (by decide) (by decide)
    obtain ⟨b144, g144⟩ : ∃ z, z = T140.heap.size := ⟨_, rfl⟩
    rw [← g144] at A144 D144 st144
    have G144 : n0 ≤ b144 := Nat.le_trans z142 (Nat.le_of_eq g144.symm)
    have ne145 : r138 ≠ b144 := Nat.ne_of_lt (Nat.lt_of_lt_of_le c143.lt (Nat.le_of_eq g144.symm))
    have ne146 : r140 ≠ b144 := Nat.ne_of_lt (Nat.lt_of_lt_of_le V140.lt (Nat.le_of_eq g144.symm))
    have c147 := c143.ext E144
    have c148 := V140.ext E144
    have F149 : Fld Z h144 b144 "com/example/avocet/avocet/index/Postings" "documents" "[I" .null := D144 (Or.inr (hw _ (List.mem_of_getElem? (i := 15) rfl))) (ty := (.array .int)) (by decide)
    have F150 : Fld Z h144 b144 "com/example/avocet/avocet/index/Postings" "frequencies" "[I" .null := D144 (Or.inr (hw _ (List.mem_of_getElem? (i := 17) rfl))) (ty := (.array .int)) (by decide)
    have z151 : n0 ≤ h144.size := Nat.le_trans z142 E144.1
    obtain ⟨_, _, ⟨T152, L152, k152, n152⟩, -, X152, ⟨Lc152, hQ152, l152, y152, z152⟩, st152⟩ := X144.specialBack hx (y := (⟨"com/example/avocet/avocet/index/Postings", "<init>", "([I[I)V"⟩ : MethodName)) rfl hown (mvT hZ (hw _ (List.mem_of_getElem? (i := 8) rfl))) (mvT hZ (hw _ (List.mem_of_getElem? (i := 9) rfl))) (mvT hZ (hw _ (List.mem_of_getElem? (i := 10) rfl))) (by decide) (backOf (W := 1) (rm2 l Z a0 hw [] b144 r138 r140 h144 n0 z151 A144 F149 F150 G144) hZ (hw _ (List.mem_of_getElem? (i := 10) rfl)) (hw _ (List.mem_of_getElem? (i := 7) rfl)) (by decide) (by decide)) (g := (mkF m 39 #[.val (.int p1), .val (.int p2), .val (.int p3), .val (.int p4), .val (.int p5), .val (.int (1 : Int32)), .val (.ref r138), .val (.ref r140), .unset, .unset, .unset] [(.ref r140), (.ref r138), (.ref b144), (.ref b144)])) rfl (by rw [hml]; rfl) (Steps.refl _) (a := b144) (argsL := [(.ref r138), (.ref r140)]) (rest := [(.ref b144)]) (lenOf pd_108 rfl) rfl (by show 2 * 0 + _ ≤ _; exact Nat.le_of_eq rfl) (hb hby at_39) (fun _ _ => ⟨rfl, e144, (by decide : 3 + 0 ≤ _), (by decide : 4 + 0 ≤ _)⟩)
    dsimp only [Pt.U, Pt.locs, Pt.cells, Pt.slots] at X152 l152 y152 z152 st152 hQ152
    subst l152 y152 z152
    obtain ⟨rfl, Nq152, K152, Fd152, Ff152⟩ := hQ152
    have N152 := Fr.app N140 Nq152
    have z153 : n0 ≤ T152.heap.size := Nat.le_trans z151 K152.1
    have c154 := c147.keep K152 (ninS ne145 nin0)
    have c155 := c148.keep K152 (ninS ne146 nin0)
    have c156 := A144.keep K152
    obtain ⟨cq159, kq159, q159a, q159b, q159c⟩ := isOf hZ rfl c156
    obtain ⟨_, _, ⟨T159, L159, k159, n159⟩, -, X159, ⟨Lc159, hQ159, l159, y159, z159⟩, st159⟩ := X152.virtualBack hx (y := (⟨"com/example/avocet/avocet/index/Postings", "occurrences", "()J"⟩ : MethodName)) (z := (⟨"com/example/avocet/avocet/index/Postings", "occurrences", "()J"⟩ : MethodName)) hown (mvT hZ (hw _ (List.mem_of_getElem? (i := 18) rfl))) (mvT hZ (hw _ (List.mem_of_getElem? (i := 19) rfl))) (notFace_of_selects (args := #[]) (mvT hZ (hw _ (List.mem_of_getElem? (i := 21) rfl)))) (mvT hZ (hw _ (List.mem_of_getElem? (i := 21) rfl))) (mvT hZ (hw _ (List.mem_of_getElem? (i := 20) rfl))) (by decide) (backOf (W := 0) (rm4_1 l Z a0 hw [] b144 r140 kc140 p2 p3 p4 p5 T152.heap n0 z153 Ff152 c155) hZ (hw _ (List.mem_of_getElem? (i := 22) rfl)) (hw _ (List.mem_of_getElem? (i := 7) rfl)) (by decide) (by decide)) q159a q159c (g := (mkF m 102 #[.val (.int p1), .val (.int p2), .val (.int p3), .val (.int p4), .val (.int p5), .val (.int (1 : Int32)), .val (.ref r138), .val (.ref r140), .val (.ref b144), .val (.long ((0 : Int64) + (p2.toInt64))), .second] [(.ref b144)])) rfl (by rw [hml]; rfl) (Steps.refl _) (argsL := []) (rest := []) (lenOf pd_109 rfl) rfl (by show 2 * 0 + _ ≤ _; exact Nat.le_of_eq rfl) (hb hby at_102) (fun _ _ => ⟨rfl, rfl, (by decide : 3 + 0 ≤ _), (by decide : 4 + 0 ≤ _)⟩)
    dsimp only [Pt.U, Pt.locs, Pt.cells, Pt.slots] at X159 l159 y159 z159 st159 hQ159
    subst l159 y159 z159
    obtain ⟨rfl, Nq159, e159⟩ := hQ159
    have N159 := Fr.app N152 Nq159
    have pre160 : ∀ t, Steps p.tables e below (T159.setTop (mkF m 116 #[.val (.int p1), .val (.int p2), .val (.int p3), .val (.int p4), .val (.int p5), .val (.int (1 : Int32)), .val (.ref r138), .val (.ref r140), .val (.ref b144), .val (.long ((0 : Int64) + (p2.toInt64))), .second] [(.int (1 : Int32))])) t → Steps p.tables e below (s₁.setTop (entryFrame m #[(.int p1), (.int p2), (.int p3), (.int p4), (.int p5)] maxLocals)) t := fun t kt => pre137 t (by
      show Steps p.tables e below (s₁.setTop (mkF m 14 #[.val (.int p1), .val (.int p2), .val (.int p3), .val (.int p4), .val (.int p5), .val (.int (1 : Int32)), .unset, .unset, .unset, .unset, .unset] [(.int (3 : Int32)), (.int (2 : Int32)), (.int (1 : Int32)), (.int (0 : Int32)), (.int (1 : Int32))])) _
      refine st138 _ ?_
      show Steps p.tables e below (T138.setTop (mkF m 17 #[.val (.int p1), .val (.int p2), .val (.int p3), .val (.int p4), .val (.int p5), .val (.int (1 : Int32)), .unset, .unset, .unset, .unset, .unset] [(.ref r138)])) _
      refine XS.astore X138.here hx rfl (hb hby at_17) rfl rfl (l' := #[.val (.int p1), .val (.int p2), .val (.int p3), .val (.int p4), .val (.int p5), .val (.int (1 : Int32)), .val (.ref r138), .unset, .unset, .unset, .unset]) rfl ?_
      show Steps p.tables e below (T138.setTop (mkF m 19 #[.val (.int p1), .val (.int p2), .val (.int p3), .val (.int p4), .val (.int p5), .val (.int (1 : Int32)), .val (.ref r138), .unset, .unset, .unset, .unset] [])) _
      refine XS.iload X138.here hx rfl (hb hby at_19) rfl ?_
      show Steps p.tables e below (T138.setTop (mkF m 21 #[.val (.int p1), .val (.int p2), .val (.int p3), .val (.int p4), .val (.int p5), .val (.int (1 : Int32)), .val (.ref r138), .unset, .unset, .unset, .unset] [(.int (1 : Int32))])) _
      refine XS.iloadN X138.here hx rfl (hb hby at_21) rfl ?_
      show Steps p.tables e below (T138.setTop (mkF m 22 #[.val (.int p1), .val (.int p2), .val (.int p3), .val (.int p4), .val (.int p5), .val (.int (1 : Int32)), .val (.ref r138), .unset, .unset, .unset, .unset] [(.int p2), (.int (1 : Int32))])) _
      refine XS.iloadN X138.here hx rfl (hb hby at_22) rfl ?_
      show Steps p.tables e below (T138.setTop (mkF m 23 #[.val (.int p1), .val (.int p2), .val (.int p3), .val (.int p4), .val (.int p5), .val (.int (1 : Int32)), .val (.ref r138), .unset, .unset, .unset, .unset] [(.int p3), (.int p2), (.int (1 : Int32))])) _
      refine XS.iloadN X138.here hx rfl (hb hby at_23) rfl ?_
      show Steps p.tables e below (T138.setTop (mkF m 24 #[.val (.int p1), .val (.int p2), .val (.int p3), .val (.int p4), .val (.int p5), .val (.int (1 : Int32)), .val (.ref r138), .unset, .unset, .unset, .unset] [(.int p4), (.int p3), (.int p2), (.int (1 : Int32))])) _
      refine XS.iload X138.here hx rfl (hb hby at_24) rfl ?_
      show Steps p.tables e below (T138.setTop (mkF m 26 #[.val (.int p1), .val (.int p2), .val (.int p3), .val (.int p4), .val (.int p5), .val (.int (1 : Int32)), .val (.ref r138), .unset, .unset, .unset, .unset] [(.int p5), (.int p4), (.int p3), (.int p2), (.int (1 : Int32))])) _
      refine st140 _ ?_
      show Steps p.tables e below (T140.setTop (mkF m 29 #[.val (.int p1), .val (.int p2), .val (.int p3), .val (.int p4), .val (.int p5), .val (.int (1 : Int32)), .val (.ref r138), .unset, .unset, .unset, .unset] [(.ref r140)])) _
      refine XS.astore X140.here hx rfl (hb hby at_29) rfl rfl (l' := #[.val (.int p1), .val (.int p2), .val (.int p3), .val (.int p4), .val (.int p5), .val (.int (1 : Int32)), .val (.ref r138), .val (.ref r140), .unset, .unset, .unset]) rfl ?_
      show Steps p.tables e below (T140.setTop (mkF m 31 #[.val (.int p1), .val (.int p2), .val (.int p3), .val (.int p4), .val (.int p5), .val (.int (1 : Int32)), .val (.ref r138), .val (.ref r140), .unset, .unset, .unset] [])) _
      refine st144 _ ?_
      show Steps p.tables e below (T144.setTop (mkF m 34 #[.val (.int p1), .val (.int p2), .val (.int p3), .val (.int p4), .val (.int p5), .val (.int (1 : Int32)), .val (.ref r138), .val (.ref r140), .unset, .unset, .unset] [(.ref b144)])) _
      refine XS.dup X144.here hx rfl (hb hby at_34) rfl rfl ?_
      show Steps p.tables e below (T144.setTop (mkF m 35 #[.val (.int p1), .val (.int p2), .val (.int p3), .val (.int p4), .val (.int p5), .val (.int (1 : Int32)), .val (.ref r138), .val (.ref r140), .unset, .unset, .unset] [(.ref b144), (.ref b144)])) _
      refine XS.aload X144.here hx rfl (hb hby at_35) rfl rfl ?_
      show Steps p.tables e below (T144.setTop (mkF m 37 #[.val (.int p1), .val (.int p2), .val (.int p3), .val (.int p4), .val (.int p5), .val (.int (1 : Int32)), .val (.ref r138), .val (.ref r140), .unset, .unset, .unset] [(.ref r138), (.ref b144), (.ref b144)])) _
      refine XS.aload X144.here hx rfl (hb hby at_37) rfl rfl ?_
      show Steps p.tables e below (T144.setTop (mkF m 39 #[.val (.int p1), .val (.int p2), .val (.int p3), .val (.int p4), .val (.int p5), .val (.int (1 : Int32)), .val (.ref r138), .val (.ref r140), .unset, .unset, .unset] [(.ref r140), (.ref r138), (.ref b144), (.ref b144)])) _
      refine st152.trans ?_
      show Steps p.tables e below (T152.setTop (mkF m 42 #[.val (.int p1), .val (.int p2), .val (.int p3), .val (.int p4), .val (.int p5), .val (.int (1 : Int32)), .val (.ref r138), .val (.ref r140), .unset, .unset, .unset] [(.ref b144)])) _
      refine XS.astore X152.here hx rfl (hb hby at_42) rfl rfl (l' := #[.val (.int p1), .val (.int p2), .val (.int p3), .val (.int p4), .val (.int p5), .val (.int (1 : Int32)), .val (.ref r138), .val (.ref r140), .val (.ref b144), .unset, .unset]) rfl ?_
      show Steps p.tables e below (T152.setTop (mkF m 44 #[.val (.int p1), .val (.int p2), .val (.int p3), .val (.int p4), .val (.int p5), .val (.int (1 : Int32)), .val (.ref r138), .val (.ref r140), .val (.ref b144), .unset, .unset] [])) _
      refine XS.lconst X152.here hx rfl (hb hby at_44) ?_
      show Steps p.tables e below (T152.setTop (mkF m 45 #[.val (.int p1), .val (.int p2), .val (.int p3), .val (.int p4), .val (.int p5), .val (.int (1 : Int32)), .val (.ref r138), .val (.ref r140), .val (.ref b144), .unset, .unset] [(.long (0 : Int64))])) _
      refine XS.lstore X152.here hx rfl (hb hby at_45) rfl (l' := #[.val (.int p1), .val (.int p2), .val (.int p3), .val (.int p4), .val (.int p5), .val (.int (1 : Int32)), .val (.ref r138), .val (.ref r140), .val (.ref b144), .val (.long (0 : Int64)), .second]) rfl ?_
      show Steps p.tables e below (T152.setTop (mkF m 47 #[.val (.int p1), .val (.int p2), .val (.int p3), .val (.int p4), .val (.int p5), .val (.int (1 : Int32)), .val (.ref r138), .val (.ref r140), .val (.ref b144), .val (.long (0 : Int64)), .second] [])) _
      refine XS.iload X152.here hx rfl (hb hby at_47) rfl ?_
      show Steps p.tables e below (T152.setTop (mkF m 49 #[.val (.int p1), .val (.int p2), .val (.int p3), .val (.int p4), .val (.int p5), .val (.int (1 : Int32)), .val (.ref r138), .val (.ref r140), .val (.ref b144), .val (.long (0 : Int64)), .second] [(.int (1 : Int32))])) _
      refine XS.iconst X152.here hx rfl (hb hby at_49) ?_
      show Steps p.tables e below (T152.setTop (mkF m 50 #[.val (.int p1), .val (.int p2), .val (.int p3), .val (.int p4), .val (.int p5), .val (.int (1 : Int32)), .val (.ref r138), .val (.ref r140), .val (.ref b144), .val (.long (0 : Int64)), .second] [(.int (1 : Int32)), (.int (1 : Int32))])) _
      refine XS.icmpNo X152.here hx rfl (hb hby at_50) rfl (flt (by decide : ¬ ((1 : Int32) < (1 : Int32)))).1 ?_
      show Steps p.tables e below (T152.setTop (mkF m 53 #[.val (.int p1), .val (.int p2), .val (.int p3), .val (.int p4), .val (.int p5), .val (.int (1 : Int32)), .val (.ref r138), .val (.ref r140), .val (.ref b144), .val (.long (0 : Int64)), .second] [])) _
      refine XS.lload X152.here hx rfl (hb hby at_53) rfl ?_
      show Steps p.tables e below (T152.setTop (mkF m 55 #[.val (.int p1), .val (.int p2), .val (.int p3), .val (.int p4), .val (.int p5), .val (.int (1 : Int32)), .val (.ref r138), .val (.ref r140), .val (.ref b144), .val (.long (0 : Int64)), .second] [(.long (0 : Int64))])) _
      refine XS.iloadN X152.here hx rfl (hb hby at_55) rfl ?_
      show Steps p.tables e below (T152.setTop (mkF m 56 #[.val (.int p1), .val (.int p2), .val (.int p3), .val (.int p4), .val (.int p5), .val (.int (1 : Int32)), .val (.ref r138), .val (.ref r140), .val (.ref b144), .val (.long (0 : Int64)), .second] [(.int p2), (.long (0 : Int64))])) _
      refine XS.i2l X152.here hx rfl (hb hby at_56) rfl ?_
      show Steps p.tables e below (T152.setTop (mkF m 57 #[.val (.int p1), .val (.int p2), .val (.int p3), .val (.int p4), .val (.int p5), .val (.int (1 : Int32)), .val (.ref r138), .val (.ref r140), .val (.ref b144), .val (.long (0 : Int64)), .second] [(.long (p2.toInt64)), (.long (0 : Int64))])) _
      refine XS.ladd X152.here hx rfl (hb hby at_57) rfl ?_
      show Steps p.tables e below (T152.setTop (mkF m 58 #[.val (.int p1), .val (.int p2), .val (.int p3), .val (.int p4), .val (.int p5), .val (.int (1 : Int32)), .val (.ref r138), .val (.ref r140), .val (.ref b144), .val (.long (0 : Int64)), .second] [(.long ((0 : Int64) + (p2.toInt64)))])) _
      refine XS.lstore X152.here hx rfl (hb hby at_58) rfl (l' := #[.val (.int p1), .val (.int p2), .val (.int p3), .val (.int p4), .val (.int p5), .val (.int (1 : Int32)), .val (.ref r138), .val (.ref r140), .val (.ref b144), .val (.long ((0 : Int64) + (p2.toInt64))), .second]) rfl ?_
      show Steps p.tables e below (T152.setTop (mkF m 60 #[.val (.int p1), .val (.int p2), .val (.int p3), .val (.int p4), .val (.int p5), .val (.int (1 : Int32)), .val (.ref r138), .val (.ref r140), .val (.ref b144), .val (.long ((0 : Int64) + (p2.toInt64))), .second] [])) _
      refine XS.iload X152.here hx rfl (hb hby at_60) rfl ?_
      show Steps p.tables e below (T152.setTop (mkF m 62 #[.val (.int p1), .val (.int p2), .val (.int p3), .val (.int p4), .val (.int p5), .val (.int (1 : Int32)), .val (.ref r138), .val (.ref r140), .val (.ref b144), .val (.long ((0 : Int64) + (p2.toInt64))), .second] [(.int (1 : Int32))])) _
      refine XS.iconst X152.here hx rfl (hb hby at_62) ?_
      show Steps p.tables e below (T152.setTop (mkF m 63 #[.val (.int p1), .val (.int p2), .val (.int p3), .val (.int p4), .val (.int p5), .val (.int (1 : Int32)), .val (.ref r138), .val (.ref r140), .val (.ref b144), .val (.long ((0 : Int64) + (p2.toInt64))), .second] [(.int (2 : Int32)), (.int (1 : Int32))])) _
      refine XS.icmpYes X152.here hx rfl (pc0 := 63) (pc' := 73) rfl (hb hby at_63) rfl (tlt (by decide : (1 : Int32) < (2 : Int32))).1 (by decide) (by decide) ?_
      show Steps p.tables e below (T152.setTop (mkF m 73 #[.val (.int p1), .val (.int p2), .val (.int p3), .val (.int p4), .val (.int p5), .val (.int (1 : Int32)), .val (.ref r138), .val (.ref r140), .val (.ref b144), .val (.long ((0 : Int64) + (p2.toInt64))), .second] [])) _
      refine XS.iload X152.here hx rfl (hb hby at_73) rfl ?_
      show Steps p.tables e below (T152.setTop (mkF m 75 #[.val (.int p1), .val (.int p2), .val (.int p3), .val (.int p4), .val (.int p5), .val (.int (1 : Int32)), .val (.ref r138), .val (.ref r140), .val (.ref b144), .val (.long ((0 : Int64) + (p2.toInt64))), .second] [(.int (1 : Int32))])) _
      refine XS.iconst X152.here hx rfl (hb hby at_75) ?_
      show Steps p.tables e below (T152.setTop (mkF m 76 #[.val (.int p1), .val (.int p2), .val (.int p3), .val (.int p4), .val (.int p5), .val (.int (1 : Int32)), .val (.ref r138), .val (.ref r140), .val (.ref b144), .val (.long ((0 : Int64) + (p2.toInt64))), .second] [(.int (3 : Int32)), (.int (1 : Int32))])) _
      refine XS.icmpYes X152.here hx rfl (pc0 := 76) (pc' := 86) rfl (hb hby at_76) rfl (tlt (by decide : (1 : Int32) < (3 : Int32))).1 (by decide) (by decide) ?_
      show Steps p.tables e below (T152.setTop (mkF m 86 #[.val (.int p1), .val (.int p2), .val (.int p3), .val (.int p4), .val (.int p5), .val (.int (1 : Int32)), .val (.ref r138), .val (.ref r140), .val (.ref b144), .val (.long ((0 : Int64) + (p2.toInt64))), .second] [])) _
      refine XS.iload X152.here hx rfl (hb hby at_86) rfl ?_
      show Steps p.tables e below (T152.setTop (mkF m 88 #[.val (.int p1), .val (.int p2), .val (.int p3), .val (.int p4), .val (.int p5), .val (.int (1 : Int32)), .val (.ref r138), .val (.ref r140), .val (.ref b144), .val (.long ((0 : Int64) + (p2.toInt64))), .second] [(.int (1 : Int32))])) _
      refine XS.iconst X152.here hx rfl (hb hby at_88) ?_
      show Steps p.tables e below (T152.setTop (mkF m 89 #[.val (.int p1), .val (.int p2), .val (.int p3), .val (.int p4), .val (.int p5), .val (.int (1 : Int32)), .val (.ref r138), .val (.ref r140), .val (.ref b144), .val (.long ((0 : Int64) + (p2.toInt64))), .second] [(.int (4 : Int32)), (.int (1 : Int32))])) _
      refine XS.icmpYes X152.here hx rfl (pc0 := 89) (pc' := 100) rfl (hb hby at_89) rfl (tlt (by decide : (1 : Int32) < (4 : Int32))).1 (by decide) (by decide) ?_
      show Steps p.tables e below (T152.setTop (mkF m 100 #[.val (.int p1), .val (.int p2), .val (.int p3), .val (.int p4), .val (.int p5), .val (.int (1 : Int32)), .val (.ref r138), .val (.ref r140), .val (.ref b144), .val (.long ((0 : Int64) + (p2.toInt64))), .second] [])) _
      refine XS.aload X152.here hx rfl (hb hby at_100) rfl rfl ?_
      show Steps p.tables e below (T152.setTop (mkF m 102 #[.val (.int p1), .val (.int p2), .val (.int p3), .val (.int p4), .val (.int p5), .val (.int (1 : Int32)), .val (.ref r138), .val (.ref r140), .val (.ref b144), .val (.long ((0 : Int64) + (p2.toInt64))), .second] [(.ref b144)])) _
      refine st159.trans ?_
      show Steps p.tables e below (T159.setTop (mkF m 105 #[.val (.int p1), .val (.int p2), .val (.int p3), .val (.int p4), .val (.int p5), .val (.int (1 : Int32)), .val (.ref r138), .val (.ref r140), .val (.ref b144), .val (.long ((0 : Int64) + (p2.toInt64))), .second] [(.long ((0 : Int64) + (p2.toInt64)))])) _
      refine XS.lload X159.here hx rfl (hb hby at_105) rfl ?_
      show Steps p.tables e below (T159.setTop (mkF m 107 #[.val (.int p1), .val (.int p2), .val (.int p3), .val (.int p4), .val (.int p5), .val (.int (1 : Int32)), .val (.ref r138), .val (.ref r140), .val (.ref b144), .val (.long ((0 : Int64) + (p2.toInt64))), .second] [(.long ((0 : Int64) + (p2.toInt64))), (.long ((0 : Int64) + (p2.toInt64)))])) _
      refine XS.lcmp X159.here hx rfl (hb hby at_107) rfl ?_
      show Steps p.tables e below (T159.setTop (mkF m 108 #[.val (.int p1), .val (.int p2), .val (.int p3), .val (.int p4), .val (.int p5), .val (.int (1 : Int32)), .val (.ref r138), .val (.ref r140), .val (.ref b144), .val (.long ((0 : Int64) + (p2.toInt64))), .second] [(.int (lcmpW ((0 : Int64) + (p2.toInt64)) ((0 : Int64) + (p2.toInt64))))])) _
      refine XS.ifNo X159.here hx rfl (hb hby at_108) rfl ((if0 _ _).trans (teq ((lw_eq _ _).mpr (rfl : ((0 : Int64) + (p2.toInt64)) = ((0 : Int64) + (p2.toInt64))))).2) ?_
      show Steps p.tables e below (T159.setTop (mkF m 111 #[.val (.int p1), .val (.int p2), .val (.int p3), .val (.int p4), .val (.int p5), .val (.int (1 : Int32)), .val (.ref r138), .val (.ref r140), .val (.ref b144), .val (.long ((0 : Int64) + (p2.toInt64))), .second] [])) _
      refine XS.iconst X159.here hx rfl (hb hby at_111) ?_
      show Steps p.tables e below (T159.setTop (mkF m 112 #[.val (.int p1), .val (.int p2), .val (.int p3), .val (.int p4), .val (.int p5), .val (.int (1 : Int32)), .val (.ref r138), .val (.ref r140), .val (.ref b144), .val (.long ((0 : Int64) + (p2.toInt64))), .second] [(.int (1 : Int32))])) _
      refine XS.goto X159.here hx rfl (pc0 := 112) (pc' := 116) rfl (hb hby at_112) (by decide) (by decide) ?_
      exact kt)
    exact own_retN X159 hx Bd.notSynchronized (t := .boolean) Bd.returns (by simp) (hb hby at_116) pre160 (show Q0 h0 n0 _ _ _ from ⟨rfl, N159⟩) (by decide) (by decide)
  · have pre161 : ∀ t, Steps p.tables e below (s₁.setTop (mkF m 14 #[.val (.int p1), .val (.int p2), .val (.int p3), .val (.int p4), .val (.int p5), .val (.int (2 : Int32)), .unset, .unset, .unset, .unset, .unset] [(.int (3 : Int32)), (.int (2 : Int32)), (.int (1 : Int32)), (.int (0 : Int32)), (.int (2 : Int32))])) t → Steps p.tables e below (s₁.setTop (entryFrame m #[(.int p1), (.int p2), (.int p3), (.int p4), (.int p5)] maxLocals)) t := by have q := pre112; rw [hk] at q; exact q
    obtain ⟨_, _, ⟨T162, L162, k162, n162⟩, -, X162, ⟨Lc162, hQ162, l162, y162, z162⟩, st162⟩ := Jvm.LawKit.callS X0 hx (y := (⟨"com/example/avocet/avocet/index/PostingsOccurrencesPinLaw", "pick", "(IIIII)[I"⟩ : MethodName)) hown (mvT hZ (hw _ (List.mem_of_getElem? (i := 0) rfl))) (mvT hZ (hw _ (List.mem_of_getElem? (i := 1) rfl))) (mvT hZ (hw _ (List.mem_of_getElem? (i := 2) rfl))) (mvT hZ (hw _ (List.mem_of_getElem? (i := 3) rfl))) (by decide) (backOf (W := 0) (rm1_2 l Z a0 hw [] (0 : Int32) (1 : Int32) (2 : Int32) (3 : Int32) h0 n0 Z0) hZ (hw _ (List.mem_of_getElem? (i := 3) rfl)) (hw _ (List.mem_of_getElem? (i := 2) rfl)) (by decide) (by decide)) (g := (mkF m 14 #[.val (.int p1), .val (.int p2), .val (.int p3), .val (.int p4), .val (.int p5), .val (.int (2 : Int32)), .unset, .unset, .unset, .unset, .unset] [(.int (3 : Int32)), (.int (2 : Int32)), (.int (1 : Int32)), (.int (0 : Int32)), (.int (2 : Int32))])) rfl (by rw [hml]; rfl) (argsL := [(.int (2 : Int32)), (.int (0 : Int32)), (.int (1 : Int32)), (.int (2 : Int32)), (.int (3 : Int32))]) (rest := []) (lenOf pd_107 rfl) rfl (by show 2 * 0 + _ ≤ _; exact Nat.le_of_eq rfl) (hb hby at_14) (fun _ _ => ⟨rfl, e0, (by decide : 0 + 1 ≤ _), (by decide : 0 + 2 ≤ _)⟩)
    dsimp only [Pt.U, Pt.locs, Pt.cells, Pt.slots] at X162 l162 y162 z162 st162 hQ162
    subst l162 y162 z162
    obtain ⟨r162, kc162, rfl, Nq162, K162, z162, G162, V162⟩ := hQ162
    have N162 := Fr.app N0 Nq162
    have z163 : n0 ≤ T162.heap.size := Nat.le_trans Z0 K162.1
    obtain ⟨_, _, ⟨T164, L164, k164, n164⟩, -, X164, ⟨Lc164, hQ164, l164, y164, z164⟩, st164⟩ := Jvm.LawKit.callS X162 hx (y := (⟨"com/example/avocet/avocet/index/PostingsOccurrencesPinLaw", "pick", "(IIIII)[I"⟩ : MethodName)) hown (mvT hZ (hw _ (List.mem_of_getElem? (i := 0) rfl))) (mvT hZ (hw _ (List.mem_of_getElem? (i := 1) rfl))) (mvT hZ (hw _ (List.mem_of_getElem? (i := 2) rfl))) (mvT hZ (hw _ (List.mem_of_getElem? (i := 3) rfl))) (by decide) (backOf (W := 0) (rm1_2 l Z a0 hw [] p2 p3 p4 p5 T162.heap n0 z163) hZ (hw _ (List.mem_of_getElem? (i := 3) rfl)) (hw _ (List.mem_of_getElem? (i := 2) rfl)) (by decide) (by decide)) (g := (mkF m 26 #[.val (.int p1), .val (.int p2), .val (.int p3), .val (.int p4), .val (.int p5), .val (.int (2 : Int32)), .val (.ref r162), .unset, .unset, .unset, .unset] [(.int p5), (.int p4), (.int p3), (.int p2), (.int (2 : Int32))])) rfl (by rw [hml]; rfl) (argsL := [(.int (2 : Int32)), (.int p2), (.int p3), (.int p4), (.int p5)]) (rest := []) (lenOf pd_107 rfl) rfl (by show 2 * 0 + _ ≤ _; exact Nat.le_of_eq rfl) (hb hby at_26) (fun _ _ => ⟨rfl, rfl, (by decide : 1 + 1 ≤ _), (by decide : 2 + 2 ≤ _)⟩)
    dsimp only [Pt.U, Pt.locs, Pt.cells, Pt.slots] at X164 l164 y164 z164 st164 hQ164
    subst l164 y164 z164
    obtain ⟨r164, kc164, rfl, Nq164, K164, z164, G164, V164⟩ := hQ164
    have N164 := Fr.app N162 Nq164
    have ne165 : r162 ≠ r164 := Nat.ne_of_lt (Nat.lt_of_lt_of_le V162.lt z164)
    have z166 : n0 ≤ T164.heap.size := Nat.le_trans z163 K164.1
    have c167 := V162.keep K164 nin0
    obtain ⟨T168, h168, X168, e168, E168, A168, D168, -, st168⟩ := newO X164 hx hZ hown (hw _ (List.mem_of_getElem? (i := 5) rfl)) (hw _ (List.mem_of_getElem? (i := 6) rfl)) (hw _ (List.mem_of_getElem? (i := 7) rfl)) rfl (g := (mkF m 31 #[.val (.int p1), .val (.int p2), .val (.int p3), .val (.int p4), .val (.int p5), .val (.int (2 : Int32)), .val (.ref r162), .val (.ref r164), .unset, .unset, .unset] [])) rfl (hb hby at_31) (by decide) (by decide)
    obtain ⟨b168, g168⟩ : ∃ z, z = T164.heap.size := ⟨_, rfl⟩
    rw [← g168] at A168 D168 st168
    have G168 : n0 ≤ b168 := Nat.le_trans z166 (Nat.le_of_eq g168.symm)
    have ne169 : r162 ≠ b168 := Nat.ne_of_lt (Nat.lt_of_lt_of_le c167.lt (Nat.le_of_eq g168.symm))
    have ne170 : r164 ≠ b168 := Nat.ne_of_lt (Nat.lt_of_lt_of_le V164.lt (Nat.le_of_eq g168.symm))
    have c171 := c167.ext E168
    have c172 := V164.ext E168
    have F173 : Fld Z h168 b168 "com/example/avocet/avocet/index/Postings" "documents" "[I" .null := D168 (Or.inr (hw _ (List.mem_of_getElem? (i := 15) rfl))) (ty := (.array .int)) (by decide)
    have F174 : Fld Z h168 b168 "com/example/avocet/avocet/index/Postings" "frequencies" "[I" .null := D168 (Or.inr (hw _ (List.mem_of_getElem? (i := 17) rfl))) (ty := (.array .int)) (by decide)
    have z175 : n0 ≤ h168.size := Nat.le_trans z166 E168.1
    obtain ⟨_, _, ⟨T176, L176, k176, n176⟩, -, X176, ⟨Lc176, hQ176, l176, y176, z176⟩, st176⟩ := X168.specialBack hx (y := (⟨"com/example/avocet/avocet/index/Postings", "<init>", "([I[I)V"⟩ : MethodName)) rfl hown (mvT hZ (hw _ (List.mem_of_getElem? (i := 8) rfl))) (mvT hZ (hw _ (List.mem_of_getElem? (i := 9) rfl))) (mvT hZ (hw _ (List.mem_of_getElem? (i := 10) rfl))) (by decide) (backOf (W := 1) (rm2 l Z a0 hw [] b168 r162 r164 h168 n0 z175 A168 F173 F174 G168) hZ (hw _ (List.mem_of_getElem? (i := 10) rfl)) (hw _ (List.mem_of_getElem? (i := 7) rfl)) (by decide) (by decide)) (g := (mkF m 39 #[.val (.int p1), .val (.int p2), .val (.int p3), .val (.int p4), .val (.int p5), .val (.int (2 : Int32)), .val (.ref r162), .val (.ref r164), .unset, .unset, .unset] [(.ref r164), (.ref r162), (.ref b168), (.ref b168)])) rfl (by rw [hml]; rfl) (Steps.refl _) (a := b168) (argsL := [(.ref r162), (.ref r164)]) (rest := [(.ref b168)]) (lenOf pd_108 rfl) rfl (by show 2 * 0 + _ ≤ _; exact Nat.le_of_eq rfl) (hb hby at_39) (fun _ _ => ⟨rfl, e168, (by decide : 3 + 0 ≤ _), (by decide : 6 + 0 ≤ _)⟩)
    dsimp only [Pt.U, Pt.locs, Pt.cells, Pt.slots] at X176 l176 y176 z176 st176 hQ176
    subst l176 y176 z176
    obtain ⟨rfl, Nq176, K176, Fd176, Ff176⟩ := hQ176
    have N176 := Fr.app N164 Nq176
    have z177 : n0 ≤ T176.heap.size := Nat.le_trans z175 K176.1
    have c178 := c171.keep K176 (ninS ne169 nin0)
    have c179 := c172.keep K176 (ninS ne170 nin0)
    have c180 := A168.keep K176
    obtain ⟨cq183, kq183, q183a, q183b, q183c⟩ := isOf hZ rfl c180
    obtain ⟨_, _, ⟨T183, L183, k183, n183⟩, -, X183, ⟨Lc183, hQ183, l183, y183, z183⟩, st183⟩ := X176.virtualBack hx (y := (⟨"com/example/avocet/avocet/index/Postings", "occurrences", "()J"⟩ : MethodName)) (z := (⟨"com/example/avocet/avocet/index/Postings", "occurrences", "()J"⟩ : MethodName)) hown (mvT hZ (hw _ (List.mem_of_getElem? (i := 18) rfl))) (mvT hZ (hw _ (List.mem_of_getElem? (i := 19) rfl))) (notFace_of_selects (args := #[]) (mvT hZ (hw _ (List.mem_of_getElem? (i := 21) rfl)))) (mvT hZ (hw _ (List.mem_of_getElem? (i := 21) rfl))) (mvT hZ (hw _ (List.mem_of_getElem? (i := 20) rfl))) (by decide) (backOf (W := 0) (rm4_2 l Z a0 hw [] b168 r164 kc164 p2 p3 p4 p5 T176.heap n0 z177 Ff176 c179) hZ (hw _ (List.mem_of_getElem? (i := 22) rfl)) (hw _ (List.mem_of_getElem? (i := 7) rfl)) (by decide) (by decide)) q183a q183c (g := (mkF m 102 #[.val (.int p1), .val (.int p2), .val (.int p3), .val (.int p4), .val (.int p5), .val (.int (2 : Int32)), .val (.ref r162), .val (.ref r164), .val (.ref b168), .val (.long (((0 : Int64) + (p2.toInt64)) + (p3.toInt64))), .second] [(.ref b168)])) rfl (by rw [hml]; rfl) (Steps.refl _) (argsL := []) (rest := []) (lenOf pd_109 rfl) rfl (by show 2 * 0 + _ ≤ _; exact Nat.le_of_eq rfl) (hb hby at_102) (fun _ _ => ⟨rfl, rfl, (by decide : 3 + 0 ≤ _), (by decide : 6 + 0 ≤ _)⟩)
    dsimp only [Pt.U, Pt.locs, Pt.cells, Pt.slots] at X183 l183 y183 z183 st183 hQ183
    subst l183 y183 z183
    obtain ⟨rfl, Nq183, e183⟩ := hQ183
    have N183 := Fr.app N176 Nq183
    have pre184 : ∀ t, Steps p.tables e below (T183.setTop (mkF m 116 #[.val (.int p1), .val (.int p2), .val (.int p3), .val (.int p4), .val (.int p5), .val (.int (2 : Int32)), .val (.ref r162), .val (.ref r164), .val (.ref b168), .val (.long (((0 : Int64) + (p2.toInt64)) + (p3.toInt64))), .second] [(.int (1 : Int32))])) t → Steps p.tables e below (s₁.setTop (entryFrame m #[(.int p1), (.int p2), (.int p3), (.int p4), (.int p5)] maxLocals)) t := fun t kt => pre161 t (by
      show Steps p.tables e below (s₁.setTop (mkF m 14 #[.val (.int p1), .val (.int p2), .val (.int p3), .val (.int p4), .val (.int p5), .val (.int (2 : Int32)), .unset, .unset, .unset, .unset, .unset] [(.int (3 : Int32)), (.int (2 : Int32)), (.int (1 : Int32)), (.int (0 : Int32)), (.int (2 : Int32))])) _
      refine st162 _ ?_
      show Steps p.tables e below (T162.setTop (mkF m 17 #[.val (.int p1), .val (.int p2), .val (.int p3), .val (.int p4), .val (.int p5), .val (.int (2 : Int32)), .unset, .unset, .unset, .unset, .unset] [(.ref r162)])) _
      refine XS.astore X162.here hx rfl (hb hby at_17) rfl rfl (l' := #[.val (.int p1), .val (.int p2), .val (.int p3), .val (.int p4), .val (.int p5), .val (.int (2 : Int32)), .val (.ref r162), .unset, .unset, .unset, .unset]) rfl ?_
      show Steps p.tables e below (T162.setTop (mkF m 19 #[.val (.int p1), .val (.int p2), .val (.int p3), .val (.int p4), .val (.int p5), .val (.int (2 : Int32)), .val (.ref r162), .unset, .unset, .unset, .unset] [])) _
      refine XS.iload X162.here hx rfl (hb hby at_19) rfl ?_
      show Steps p.tables e below (T162.setTop (mkF m 21 #[.val (.int p1), .val (.int p2), .val (.int p3), .val (.int p4), .val (.int p5), .val (.int (2 : Int32)), .val (.ref r162), .unset, .unset, .unset, .unset] [(.int (2 : Int32))])) _
      refine XS.iloadN X162.here hx rfl (hb hby at_21) rfl ?_
      show Steps p.tables e below (T162.setTop (mkF m 22 #[.val (.int p1), .val (.int p2), .val (.int p3), .val (.int p4), .val (.int p5), .val (.int (2 : Int32)), .val (.ref r162), .unset, .unset, .unset, .unset] [(.int p2), (.int (2 : Int32))])) _
      refine XS.iloadN X162.here hx rfl (hb hby at_22) rfl ?_
      show Steps p.tables e below (T162.setTop (mkF m 23 #[.val (.int p1), .val (.int p2), .val (.int p3), .val (.int p4), .val (.int p5), .val (.int (2 : Int32)), .val (.ref r162), .unset, .unset, .unset, .unset] [(.int p3), (.int p2), (.int (2 : Int32))])) _
      refine XS.iloadN X162.here hx rfl (hb hby at_23) rfl ?_
      show Steps p.tables e below (T162.setTop (mkF m 24 #[.val (.int p1), .val (.int p2), .val (.int p3), .val (.int p4), .val (.int p5), .val (.int (2 : Int32)), .val (.ref r162), .unset, .unset, .unset, .unset] [(.int p4), (.int p3), (.int p2), (.int (2 : Int32))])) _
      refine XS.iload X162.here hx rfl (hb hby at_24) rfl ?_
      show Steps p.tables e below (T162.setTop (mkF m 26 #[.val (.int p1), .val (.int p2), .val (.int p3), .val (.int p4), .val (.int p5), .val (.int (2 : Int32)), .val (.ref r162), .unset, .unset, .unset, .unset] [(.int p5), (.int p4), (.int p3), (.int p2), (.int (2 : Int32))])) _
      refine st164 _ ?_
      show Steps p.tables e below (T164.setTop (mkF m 29 #[.val (.int p1), .val (.int p2), .val (.int p3), .val (.int p4), .val (.int p5), .val (.int (2 : Int32)), .val (.ref r162), .unset, .unset, .unset, .unset] [(.ref r164)])) _
      refine XS.astore X164.here hx rfl (hb hby at_29) rfl rfl (l' := #[.val (.int p1), .val (.int p2), .val (.int p3), .val (.int p4), .val (.int p5), .val (.int (2 : Int32)), .val (.ref r162), .val (.ref r164), .unset, .unset, .unset]) rfl ?_
      show Steps p.tables e below (T164.setTop (mkF m 31 #[.val (.int p1), .val (.int p2), .val (.int p3), .val (.int p4), .val (.int p5), .val (.int (2 : Int32)), .val (.ref r162), .val (.ref r164), .unset, .unset, .unset] [])) _
      refine st168 _ ?_
      show Steps p.tables e below (T168.setTop (mkF m 34 #[.val (.int p1), .val (.int p2), .val (.int p3), .val (.int p4), .val (.int p5), .val (.int (2 : Int32)), .val (.ref r162), .val (.ref r164), .unset, .unset, .unset] [(.ref b168)])) _
      refine XS.dup X168.here hx rfl (hb hby at_34) rfl rfl ?_
      show Steps p.tables e below (T168.setTop (mkF m 35 #[.val (.int p1), .val (.int p2), .val (.int p3), .val (.int p4), .val (.int p5), .val (.int (2 : Int32)), .val (.ref r162), .val (.ref r164), .unset, .unset, .unset] [(.ref b168), (.ref b168)])) _
      refine XS.aload X168.here hx rfl (hb hby at_35) rfl rfl ?_
      show Steps p.tables e below (T168.setTop (mkF m 37 #[.val (.int p1), .val (.int p2), .val (.int p3), .val (.int p4), .val (.int p5), .val (.int (2 : Int32)), .val (.ref r162), .val (.ref r164), .unset, .unset, .unset] [(.ref r162), (.ref b168), (.ref b168)])) _
      refine XS.aload X168.here hx rfl (hb hby at_37) rfl rfl ?_
      show Steps p.tables e below (T168.setTop (mkF m 39 #[.val (.int p1), .val (.int p2), .val (.int p3), .val (.int p4), .val (.int p5), .val (.int (2 : Int32)), .val (.ref r162), .val (.ref r164), .unset, .unset, .unset] [(.ref r164), (.ref r162), (.ref b168), (.ref b168)])) _
      refine st176.trans ?_
      show Steps p.tables e below (T176.setTop (mkF m 42 #[.val (.int p1), .val (.int p2), .val (.int p3), .val (.int p4), .val (.int p5), .val (.int (2 : Int32)), .val (.ref r162), .val (.ref r164), .unset, .unset, .unset] [(.ref b168)])) _
      refine XS.astore X176.here hx rfl (hb hby at_42) rfl rfl (l' := #[.val (.int p1), .val (.int p2), .val (.int p3), .val (.int p4), .val (.int p5), .val (.int (2 : Int32)), .val (.ref r162), .val (.ref r164), .val (.ref b168), .unset, .unset]) rfl ?_
      show Steps p.tables e below (T176.setTop (mkF m 44 #[.val (.int p1), .val (.int p2), .val (.int p3), .val (.int p4), .val (.int p5), .val (.int (2 : Int32)), .val (.ref r162), .val (.ref r164), .val (.ref b168), .unset, .unset] [])) _
      refine XS.lconst X176.here hx rfl (hb hby at_44) ?_
      show Steps p.tables e below (T176.setTop (mkF m 45 #[.val (.int p1), .val (.int p2), .val (.int p3), .val (.int p4), .val (.int p5), .val (.int (2 : Int32)), .val (.ref r162), .val (.ref r164), .val (.ref b168), .unset, .unset] [(.long (0 : Int64))])) _
      refine XS.lstore X176.here hx rfl (hb hby at_45) rfl (l' := #[.val (.int p1), .val (.int p2), .val (.int p3), .val (.int p4), .val (.int p5), .val (.int (2 : Int32)), .val (.ref r162), .val (.ref r164), .val (.ref b168), .val (.long (0 : Int64)), .second]) rfl ?_
      show Steps p.tables e below (T176.setTop (mkF m 47 #[.val (.int p1), .val (.int p2), .val (.int p3), .val (.int p4), .val (.int p5), .val (.int (2 : Int32)), .val (.ref r162), .val (.ref r164), .val (.ref b168), .val (.long (0 : Int64)), .second] [])) _
      refine XS.iload X176.here hx rfl (hb hby at_47) rfl ?_
      show Steps p.tables e below (T176.setTop (mkF m 49 #[.val (.int p1), .val (.int p2), .val (.int p3), .val (.int p4), .val (.int p5), .val (.int (2 : Int32)), .val (.ref r162), .val (.ref r164), .val (.ref b168), .val (.long (0 : Int64)), .second] [(.int (2 : Int32))])) _
      refine XS.iconst X176.here hx rfl (hb hby at_49) ?_
      show Steps p.tables e below (T176.setTop (mkF m 50 #[.val (.int p1), .val (.int p2), .val (.int p3), .val (.int p4), .val (.int p5), .val (.int (2 : Int32)), .val (.ref r162), .val (.ref r164), .val (.ref b168), .val (.long (0 : Int64)), .second] [(.int (1 : Int32)), (.int (2 : Int32))])) _
      refine XS.icmpNo X176.here hx rfl (hb hby at_50) rfl (flt (by decide : ¬ ((2 : Int32) < (1 : Int32)))).1 ?_
      show Steps p.tables e below (T176.setTop (mkF m 53 #[.val (.int p1), .val (.int p2), .val (.int p3), .val (.int p4), .val (.int p5), .val (.int (2 : Int32)), .val (.ref r162), .val (.ref r164), .val (.ref b168), .val (.long (0 : Int64)), .second] [])) _
      refine XS.lload X176.here hx rfl (hb hby at_53) rfl ?_
      show Steps p.tables e below (T176.setTop (mkF m 55 #[.val (.int p1), .val (.int p2), .val (.int p3), .val (.int p4), .val (.int p5), .val (.int (2 : Int32)), .val (.ref r162), .val (.ref r164), .val (.ref b168), .val (.long (0 : Int64)), .second] [(.long (0 : Int64))])) _
      refine XS.iloadN X176.here hx rfl (hb hby at_55) rfl ?_
      show Steps p.tables e below (T176.setTop (mkF m 56 #[.val (.int p1), .val (.int p2), .val (.int p3), .val (.int p4), .val (.int p5), .val (.int (2 : Int32)), .val (.ref r162), .val (.ref r164), .val (.ref b168), .val (.long (0 : Int64)), .second] [(.int p2), (.long (0 : Int64))])) _
      refine XS.i2l X176.here hx rfl (hb hby at_56) rfl ?_
      show Steps p.tables e below (T176.setTop (mkF m 57 #[.val (.int p1), .val (.int p2), .val (.int p3), .val (.int p4), .val (.int p5), .val (.int (2 : Int32)), .val (.ref r162), .val (.ref r164), .val (.ref b168), .val (.long (0 : Int64)), .second] [(.long (p2.toInt64)), (.long (0 : Int64))])) _
      refine XS.ladd X176.here hx rfl (hb hby at_57) rfl ?_
      show Steps p.tables e below (T176.setTop (mkF m 58 #[.val (.int p1), .val (.int p2), .val (.int p3), .val (.int p4), .val (.int p5), .val (.int (2 : Int32)), .val (.ref r162), .val (.ref r164), .val (.ref b168), .val (.long (0 : Int64)), .second] [(.long ((0 : Int64) + (p2.toInt64)))])) _
      refine XS.lstore X176.here hx rfl (hb hby at_58) rfl (l' := #[.val (.int p1), .val (.int p2), .val (.int p3), .val (.int p4), .val (.int p5), .val (.int (2 : Int32)), .val (.ref r162), .val (.ref r164), .val (.ref b168), .val (.long ((0 : Int64) + (p2.toInt64))), .second]) rfl ?_
      show Steps p.tables e below (T176.setTop (mkF m 60 #[.val (.int p1), .val (.int p2), .val (.int p3), .val (.int p4), .val (.int p5), .val (.int (2 : Int32)), .val (.ref r162), .val (.ref r164), .val (.ref b168), .val (.long ((0 : Int64) + (p2.toInt64))), .second] [])) _
      refine XS.iload X176.here hx rfl (hb hby at_60) rfl ?_
      show Steps p.tables e below (T176.setTop (mkF m 62 #[.val (.int p1), .val (.int p2), .val (.int p3), .val (.int p4), .val (.int p5), .val (.int (2 : Int32)), .val (.ref r162), .val (.ref r164), .val (.ref b168), .val (.long ((0 : Int64) + (p2.toInt64))), .second] [(.int (2 : Int32))])) _
      refine XS.iconst X176.here hx rfl (hb hby at_62) ?_
      show Steps p.tables e below (T176.setTop (mkF m 63 #[.val (.int p1), .val (.int p2), .val (.int p3), .val (.int p4), .val (.int p5), .val (.int (2 : Int32)), .val (.ref r162), .val (.ref r164), .val (.ref b168), .val (.long ((0 : Int64) + (p2.toInt64))), .second] [(.int (2 : Int32)), (.int (2 : Int32))])) _
      refine XS.icmpNo X176.here hx rfl (hb hby at_63) rfl (flt (by decide : ¬ ((2 : Int32) < (2 : Int32)))).1 ?_
      show Steps p.tables e below (T176.setTop (mkF m 66 #[.val (.int p1), .val (.int p2), .val (.int p3), .val (.int p4), .val (.int p5), .val (.int (2 : Int32)), .val (.ref r162), .val (.ref r164), .val (.ref b168), .val (.long ((0 : Int64) + (p2.toInt64))), .second] [])) _
      refine XS.lload X176.here hx rfl (hb hby at_66) rfl ?_
      show Steps p.tables e below (T176.setTop (mkF m 68 #[.val (.int p1), .val (.int p2), .val (.int p3), .val (.int p4), .val (.int p5), .val (.int (2 : Int32)), .val (.ref r162), .val (.ref r164), .val (.ref b168), .val (.long ((0 : Int64) + (p2.toInt64))), .second] [(.long ((0 : Int64) + (p2.toInt64)))])) _
      refine XS.iloadN X176.here hx rfl (hb hby at_68) rfl ?_
      show Steps p.tables e below (T176.setTop (mkF m 69 #[.val (.int p1), .val (.int p2), .val (.int p3), .val (.int p4), .val (.int p5), .val (.int (2 : Int32)), .val (.ref r162), .val (.ref r164), .val (.ref b168), .val (.long ((0 : Int64) + (p2.toInt64))), .second] [(.int p3), (.long ((0 : Int64) + (p2.toInt64)))])) _
      refine XS.i2l X176.here hx rfl (hb hby at_69) rfl ?_
      show Steps p.tables e below (T176.setTop (mkF m 70 #[.val (.int p1), .val (.int p2), .val (.int p3), .val (.int p4), .val (.int p5), .val (.int (2 : Int32)), .val (.ref r162), .val (.ref r164), .val (.ref b168), .val (.long ((0 : Int64) + (p2.toInt64))), .second] [(.long (p3.toInt64)), (.long ((0 : Int64) + (p2.toInt64)))])) _
      refine XS.ladd X176.here hx rfl (hb hby at_70) rfl ?_
      show Steps p.tables e below (T176.setTop (mkF m 71 #[.val (.int p1), .val (.int p2), .val (.int p3), .val (.int p4), .val (.int p5), .val (.int (2 : Int32)), .val (.ref r162), .val (.ref r164), .val (.ref b168), .val (.long ((0 : Int64) + (p2.toInt64))), .second] [(.long (((0 : Int64) + (p2.toInt64)) + (p3.toInt64)))])) _
      refine XS.lstore X176.here hx rfl (hb hby at_71) rfl (l' := #[.val (.int p1), .val (.int p2), .val (.int p3), .val (.int p4), .val (.int p5), .val (.int (2 : Int32)), .val (.ref r162), .val (.ref r164), .val (.ref b168), .val (.long (((0 : Int64) + (p2.toInt64)) + (p3.toInt64))), .second]) rfl ?_
      show Steps p.tables e below (T176.setTop (mkF m 73 #[.val (.int p1), .val (.int p2), .val (.int p3), .val (.int p4), .val (.int p5), .val (.int (2 : Int32)), .val (.ref r162), .val (.ref r164), .val (.ref b168), .val (.long (((0 : Int64) + (p2.toInt64)) + (p3.toInt64))), .second] [])) _
      refine XS.iload X176.here hx rfl (hb hby at_73) rfl ?_
      show Steps p.tables e below (T176.setTop (mkF m 75 #[.val (.int p1), .val (.int p2), .val (.int p3), .val (.int p4), .val (.int p5), .val (.int (2 : Int32)), .val (.ref r162), .val (.ref r164), .val (.ref b168), .val (.long (((0 : Int64) + (p2.toInt64)) + (p3.toInt64))), .second] [(.int (2 : Int32))])) _
      refine XS.iconst X176.here hx rfl (hb hby at_75) ?_
      show Steps p.tables e below (T176.setTop (mkF m 76 #[.val (.int p1), .val (.int p2), .val (.int p3), .val (.int p4), .val (.int p5), .val (.int (2 : Int32)), .val (.ref r162), .val (.ref r164), .val (.ref b168), .val (.long (((0 : Int64) + (p2.toInt64)) + (p3.toInt64))), .second] [(.int (3 : Int32)), (.int (2 : Int32))])) _
      refine XS.icmpYes X176.here hx rfl (pc0 := 76) (pc' := 86) rfl (hb hby at_76) rfl (tlt (by decide : (2 : Int32) < (3 : Int32))).1 (by decide) (by decide) ?_
      show Steps p.tables e below (T176.setTop (mkF m 86 #[.val (.int p1), .val (.int p2), .val (.int p3), .val (.int p4), .val (.int p5), .val (.int (2 : Int32)), .val (.ref r162), .val (.ref r164), .val (.ref b168), .val (.long (((0 : Int64) + (p2.toInt64)) + (p3.toInt64))), .second] [])) _
      refine XS.iload X176.here hx rfl (hb hby at_86) rfl ?_
      show Steps p.tables e below (T176.setTop (mkF m 88 #[.val (.int p1), .val (.int p2), .val (.int p3), .val (.int p4), .val (.int p5), .val (.int (2 : Int32)), .val (.ref r162), .val (.ref r164), .val (.ref b168), .val (.long (((0 : Int64) + (p2.toInt64)) + (p3.toInt64))), .second] [(.int (2 : Int32))])) _
      refine XS.iconst X176.here hx rfl (hb hby at_88) ?_
      show Steps p.tables e below (T176.setTop (mkF m 89 #[.val (.int p1), .val (.int p2), .val (.int p3), .val (.int p4), .val (.int p5), .val (.int (2 : Int32)), .val (.ref r162), .val (.ref r164), .val (.ref b168), .val (.long (((0 : Int64) + (p2.toInt64)) + (p3.toInt64))), .second] [(.int (4 : Int32)), (.int (2 : Int32))])) _
      refine XS.icmpYes X176.here hx rfl (pc0 := 89) (pc' := 100) rfl (hb hby at_89) rfl (tlt (by decide : (2 : Int32) < (4 : Int32))).1 (by decide) (by decide) ?_
      show Steps p.tables e below (T176.setTop (mkF m 100 #[.val (.int p1), .val (.int p2), .val (.int p3), .val (.int p4), .val (.int p5), .val (.int (2 : Int32)), .val (.ref r162), .val (.ref r164), .val (.ref b168), .val (.long (((0 : Int64) + (p2.toInt64)) + (p3.toInt64))), .second] [])) _
      refine XS.aload X176.here hx rfl (hb hby at_100) rfl rfl ?_
      show Steps p.tables e below (T176.setTop (mkF m 102 #[.val (.int p1), .val (.int p2), .val (.int p3), .val (.int p4), .val (.int p5), .val (.int (2 : Int32)), .val (.ref r162), .val (.ref r164), .val (.ref b168), .val (.long (((0 : Int64) + (p2.toInt64)) + (p3.toInt64))), .second] [(.ref b168)])) _
      refine st183.trans ?_
      show Steps p.tables e below (T183.setTop (mkF m 105 #[.val (.int p1), .val (.int p2), .val (.int p3), .val (.int p4), .val (.int p5), .val (.int (2 : Int32)), .val (.ref r162), .val (.ref r164), .val (.ref b168), .val (.long (((0 : Int64) + (p2.toInt64)) + (p3.toInt64))), .second] [(.long (((0 : Int64) + (p2.toInt64)) + (p3.toInt64)))])) _
      refine XS.lload X183.here hx rfl (hb hby at_105) rfl ?_
      show Steps p.tables e below (T183.setTop (mkF m 107 #[.val (.int p1), .val (.int p2), .val (.int p3), .val (.int p4), .val (.int p5), .val (.int (2 : Int32)), .val (.ref r162), .val (.ref r164), .val (.ref b168), .val (.long (((0 : Int64) + (p2.toInt64)) + (p3.toInt64))), .second] [(.long (((0 : Int64) + (p2.toInt64)) + (p3.toInt64))), (.long (((0 : Int64) + (p2.toInt64)) + (p3.toInt64)))])) _
      refine XS.lcmp X183.here hx rfl (hb hby at_107) rfl ?_
      show Steps p.tables e below (T183.setTop (mkF m 108 #[.val (.int p1), .val (.int p2), .val (.int p3), .val (.int p4), .val (.int p5), .val (.int (2 : Int32)), .val (.ref r162), .val (.ref r164), .val (.ref b168), .val (.long (((0 : Int64) + (p2.toInt64)) + (p3.toInt64))), .second] [(.int (lcmpW (((0 : Int64) + (p2.toInt64)) + (p3.toInt64)) (((0 : Int64) + (p2.toInt64)) + (p3.toInt64))))])) _
      refine XS.ifNo X183.here hx rfl (hb hby at_108) rfl ((if0 _ _).trans (teq ((lw_eq _ _).mpr (rfl : (((0 : Int64) + (p2.toInt64)) + (p3.toInt64)) = (((0 : Int64) + (p2.toInt64)) + (p3.toInt64))))).2) ?_
      show Steps p.tables e below (T183.setTop (mkF m 111 #[.val (.int p1), .val (.int p2), .val (.int p3), .val (.int p4), .val (.int p5), .val (.int (2 : Int32)), .val (.ref r162), .val (.ref r164), .val (.ref b168), .val (.long (((0 : Int64) + (p2.toInt64)) + (p3.toInt64))), .second] [])) _
      refine XS.iconst X183.here hx rfl (hb hby at_111) ?_
      show Steps p.tables e below (T183.setTop (mkF m 112 #[.val (.int p1), .val (.int p2), .val (.int p3), .val (.int p4), .val (.int p5), .val (.int (2 : Int32)), .val (.ref r162), .val (.ref r164), .val (.ref b168), .val (.long (((0 : Int64) + (p2.toInt64)) + (p3.toInt64))), .second] [(.int (1 : Int32))])) _
      refine XS.goto X183.here hx rfl (pc0 := 112) (pc' := 116) rfl (hb hby at_112) (by decide) (by decide) ?_
      exact kt)
    exact own_retN X183 hx Bd.notSynchronized (t := .boolean) Bd.returns (by simp) (hb hby at_116) pre184 (show Q0 h0 n0 _ _ _ from ⟨rfl, N183⟩) (by decide) (by decide)
  · have pre185 : ∀ t, Steps p.tables e below (s₁.setTop (mkF m 14 #[.val (.int p1), .val (.int p2), .val (.int p3), .val (.int p4), .val (.int p5), .val (.int (3 : Int32)), .unset, .unset, .unset, .unset, .unset] [(.int (3 : Int32)), (.int (2 : Int32)), (.int (1 : Int32)), (.int (0 : Int32)), (.int (3 : Int32))])) t → Steps p.tables e below (s₁.setTop (entryFrame m #[(.int p1), (.int p2), (.int p3), (.int p4), (.int p5)] maxLocals)) t := by have q := pre112; rw [hk] at q; exact q
    obtain ⟨_, _, ⟨T186, L186, k186, n186⟩, -, X186, ⟨Lc186, hQ186, l186, y186, z186⟩, st186⟩ := Jvm.LawKit.callS X0 hx (y := (⟨"com/example/avocet/avocet/index/PostingsOccurrencesPinLaw", "pick", "(IIIII)[I"⟩ : MethodName)) hown (mvT hZ (hw _ (List.mem_of_getElem? (i := 0) rfl))) (mvT hZ (hw _ (List.mem_of_getElem? (i := 1) rfl))) (mvT hZ (hw _ (List.mem_of_getElem? (i := 2) rfl))) (mvT hZ (hw _ (List.mem_of_getElem? (i := 3) rfl))) (by decide) (backOf (W := 0) (rm1_3 l Z a0 hw [] (0 : Int32) (1 : Int32) (2 : Int32) (3 : Int32) h0 n0 Z0) hZ (hw _ (List.mem_of_getElem? (i := 3) rfl)) (hw _ (List.mem_of_getElem? (i := 2) rfl)) (by decide) (by decide)) (g := (mkF m 14 #[.val (.int p1), .val (.int p2), .val (.int p3), .val (.int p4), .val (.int p5), .val (.int (3 : Int32)), .unset, .unset, .unset, .unset, .unset] [(.int (3 : Int32)), (.int (2 : Int32)), (.int (1 : Int32)), (.int (0 : Int32)), (.int (3 : Int32))])) rfl (by rw [hml]; rfl) (argsL := [(.int (3 : Int32)), (.int (0 : Int32)), (.int (1 : Int32)), (.int (2 : Int32)), (.int (3 : Int32))]) (rest := []) (lenOf pd_107 rfl) rfl (by show 2 * 0 + _ ≤ _; exact Nat.le_of_eq rfl) (hb hby at_14) (fun _ _ => ⟨rfl, e0, (by decide : 0 + 1 ≤ _), (by decide : 0 + 3 ≤ _)⟩)
    dsimp only [Pt.U, Pt.locs, Pt.cells, Pt.slots] at X186 l186 y186 z186 st186 hQ186
    subst l186 y186 z186
    obtain ⟨r186, kc186, rfl, Nq186, K186, z186, G186, V186⟩ := hQ186
    have N186 := Fr.app N0 Nq186
    have z187 : n0 ≤ T186.heap.size := Nat.le_trans Z0 K186.1
    obtain ⟨_, _, ⟨T188, L188, k188, n188⟩, -, X188, ⟨Lc188, hQ188, l188, y188, z188⟩, st188⟩ := Jvm.LawKit.callS X186 hx (y := (⟨"com/example/avocet/avocet/index/PostingsOccurrencesPinLaw", "pick", "(IIIII)[I"⟩ : MethodName)) hown (mvT hZ (hw _ (List.mem_of_getElem? (i := 0) rfl))) (mvT hZ (hw _ (List.mem_of_getElem? (i := 1) rfl))) (mvT hZ (hw _ (List.mem_of_getElem? (i := 2) rfl))) (mvT hZ (hw _ (List.mem_of_getElem? (i := 3) rfl))) (by decide) (backOf (W := 0) (rm1_3 l Z a0 hw [] p2 p3 p4 p5 T186.heap n0 z187) hZ (hw _ (List.mem_of_getElem? (i := 3) rfl)) (hw _ (List.mem_of_getElem? (i := 2) rfl)) (by decide) (by decide)) (g := (mkF m 26 #[.val (.int p1), .val (.int p2), .val (.int p3), .val (.int p4), .val (.int p5), .val (.int (3 : Int32)), .val (.ref r186), .unset, .unset, .unset, .unset] [(.int p5), (.int p4), (.int p3), (.int p2), (.int (3 : Int32))])) rfl (by rw [hml]; rfl) (argsL := [(.int (3 : Int32)), (.int p2), (.int p3), (.int p4), (.int p5)]) (rest := []) (lenOf pd_107 rfl) rfl (by show 2 * 0 + _ ≤ _; exact Nat.le_of_eq rfl) (hb hby at_26) (fun _ _ => ⟨rfl, rfl, (by decide : 1 + 1 ≤ _), (by decide : 3 + 3 ≤ _)⟩)
    dsimp only [Pt.U, Pt.locs, Pt.cells, Pt.slots] at X188 l188 y188 z188 st188 hQ188
    subst l188 y188 z188
    obtain ⟨r188, kc188, rfl, Nq188, K188, z188, G188, V188⟩ := hQ188
    have N188 := Fr.app N186 Nq188
    have ne189 : r186 ≠ r188 := Nat.ne_of_lt (Nat.lt_of_lt_of_le V186.lt z188)
    have z190 : n0 ≤ T188.heap.size := Nat.le_trans z187 K188.1
    have c191 := V186.keep K188 nin0
    obtain ⟨T192, h192, X192, e192, E192, A192, D192, -, st192⟩ := newO X188 hx hZ hown (hw _ (List.mem_of_getElem? (i := 5) rfl)) (hw _ (List.mem_of_getElem? (i := 6) rfl)) (hw _ (List.mem_of_getElem? (i := 7) rfl)) rfl (g := (mkF m 31 #[.val (.int p1), .val (.int p2), .val (.int p3), .val (.int p4), .val (.int p5), .val (.int (3 : Int32)), .val (.ref r186), .val (.ref r188), .unset, .unset, .unset] [])) rfl (hb hby at_31) (by decide) (by decide)
    obtain ⟨b192, g192⟩ : ∃ z, z = T188.heap.size := ⟨_, rfl⟩
    rw [← g192] at A192 D192 st192
    have G192 : n0 ≤ b192 := Nat.le_trans z190 (Nat.le_of_eq g192.symm)
    have ne193 : r186 ≠ b192 := Nat.ne_of_lt (Nat.lt_of_lt_of_le c191.lt (Nat.le_of_eq g192.symm))
    have ne194 : r188 ≠ b192 := Nat.ne_of_lt (Nat.lt_of_lt_of_le V188.lt (Nat.le_of_eq g192.symm))
    have c195 := c191.ext E192
    have c196 := V188.ext E192
    have F197 : Fld Z h192 b192 "com/example/avocet/avocet/index/Postings" "documents" "[I" .null := D192 (Or.inr (hw _ (List.mem_of_getElem? (i := 15) rfl))) (ty := (.array .int)) (by decide)
    have F198 : Fld Z h192 b192 "com/example/avocet/avocet/index/Postings" "frequencies" "[I" .null := D192 (Or.inr (hw _ (List.mem_of_getElem? (i := 17) rfl))) (ty := (.array .int)) (by decide)
    have z199 : n0 ≤ h192.size := Nat.le_trans z190 E192.1
    obtain ⟨_, _, ⟨T200, L200, k200, n200⟩, -, X200, ⟨Lc200, hQ200, l200, y200, z200⟩, st200⟩ := X192.specialBack hx (y := (⟨"com/example/avocet/avocet/index/Postings", "<init>", "([I[I)V"⟩ : MethodName)) rfl hown (mvT hZ (hw _ (List.mem_of_getElem? (i := 8) rfl))) (mvT hZ (hw _ (List.mem_of_getElem? (i := 9) rfl))) (mvT hZ (hw _ (List.mem_of_getElem? (i := 10) rfl))) (by decide) (backOf (W := 1) (rm2 l Z a0 hw [] b192 r186 r188 h192 n0 z199 A192 F197 F198 G192) hZ (hw _ (List.mem_of_getElem? (i := 10) rfl)) (hw _ (List.mem_of_getElem? (i := 7) rfl)) (by decide) (by decide)) (g := (mkF m 39 #[.val (.int p1), .val (.int p2), .val (.int p3), .val (.int p4), .val (.int p5), .val (.int (3 : Int32)), .val (.ref r186), .val (.ref r188), .unset, .unset, .unset] [(.ref r188), (.ref r186), (.ref b192), (.ref b192)])) rfl (by rw [hml]; rfl) (Steps.refl _) (a := b192) (argsL := [(.ref r186), (.ref r188)]) (rest := [(.ref b192)]) (lenOf pd_108 rfl) rfl (by show 2 * 0 + _ ≤ _; exact Nat.le_of_eq rfl) (hb hby at_39) (fun _ _ => ⟨rfl, e192, (by decide : 3 + 0 ≤ _), (by decide : 8 + 0 ≤ _)⟩)
    dsimp only [Pt.U, Pt.locs, Pt.cells, Pt.slots] at X200 l200 y200 z200 st200 hQ200
    subst l200 y200 z200
    obtain ⟨rfl, Nq200, K200, Fd200, Ff200⟩ := hQ200
    have N200 := Fr.app N188 Nq200
    have z201 : n0 ≤ T200.heap.size := Nat.le_trans z199 K200.1
    have c202 := c195.keep K200 (ninS ne193 nin0)
    have c203 := c196.keep K200 (ninS ne194 nin0)
    have c204 := A192.keep K200
    obtain ⟨cq207, kq207, q207a, q207b, q207c⟩ := isOf hZ rfl c204
    obtain ⟨_, _, ⟨T207, L207, k207, n207⟩, -, X207, ⟨Lc207, hQ207, l207, y207, z207⟩, st207⟩ := X200.virtualBack hx (y := (⟨"com/example/avocet/avocet/index/Postings", "occurrences", "()J"⟩ : MethodName)) (z := (⟨"com/example/avocet/avocet/index/Postings", "occurrences", "()J"⟩ : MethodName)) hown (mvT hZ (hw _ (List.mem_of_getElem? (i := 18) rfl))) (mvT hZ (hw _ (List.mem_of_getElem? (i := 19) rfl))) (notFace_of_selects (args := #[]) (mvT hZ (hw _ (List.mem_of_getElem? (i := 21) rfl)))) (mvT hZ (hw _ (List.mem_of_getElem? (i := 21) rfl))) (mvT hZ (hw _ (List.mem_of_getElem? (i := 20) rfl))) (by decide) (backOf (W := 0) (rm4_3 l Z a0 hw [] b192 r188 kc188 p2 p3 p4 p5 T200.heap n0 z201 Ff200 c203) hZ (hw _ (List.mem_of_getElem? (i := 22) rfl)) (hw _ (List.mem_of_getElem? (i := 7) rfl)) (by decide) (by decide)) q207a q207c (g := (mkF m 102 #[.val (.int p1), .val (.int p2), .val (.int p3), .val (.int p4), .val (.int p5), .val (.int (3 : Int32)), .val (.ref r186), .val (.ref r188), .val (.ref b192), .val (.long ((((0 : Int64) + (p2.toInt64)) + (p3.toInt64)) + (p4.toInt64))), .second] [(.ref b192)])) rfl (by rw [hml]; rfl) (Steps.refl _) (argsL := []) (rest := []) (lenOf pd_109 rfl) rfl (by show 2 * 0 + _ ≤ _; exact Nat.le_of_eq rfl) (hb hby at_102) (fun _ _ => ⟨rfl, rfl, (by decide : 3 + 0 ≤ _), (by decide : 8 + 0 ≤ _)⟩)
    dsimp only [Pt.U, Pt.locs, Pt.cells, Pt.slots] at X207 l207 y207 z207 st207 hQ207
    subst l207 y207 z207
    obtain ⟨rfl, Nq207, e207⟩ := hQ207
    have N207 := Fr.app N200 Nq207
    have pre208 : ∀ t, Steps p.tables e below (T207.setTop (mkF m 116 #[.val (.int p1), .val (.int p2), .val (.int p3), .val (.int p4), .val (.int p5), .val (.int (3 : Int32)), .val (.ref r186), .val (.ref r188), .val (.ref b192), .val (.long ((((0 : Int64) + (p2.toInt64)) + (p3.toInt64)) + (p4.toInt64))), .second] [(.int (1 : Int32))])) t → Steps p.tables e below (s₁.setTop (entryFrame m #[(.int p1), (.int p2), (.int p3), (.int p4), (.int p5)] maxLocals)) t := fun t kt => pre185 t (by
      show Steps p.tables e below (s₁.setTop (mkF m 14 #[.val (.int p1), .val (.int p2), .val (.int p3), .val (.int p4), .val (.int p5), .val (.int (3 : Int32)), .unset, .unset, .unset, .unset, .unset] [(.int (3 : Int32)), (.int (2 : Int32)), (.int (1 : Int32)), (.int (0 : Int32)), (.int (3 : Int32))])) _
      refine st186 _ ?_
      show Steps p.tables e below (T186.setTop (mkF m 17 #[.val (.int p1), .val (.int p2), .val (.int p3), .val (.int p4), .val (.int p5), .val (.int (3 : Int32)), .unset, .unset, .unset, .unset, .unset] [(.ref r186)])) _
      refine XS.astore X186.here hx rfl (hb hby at_17) rfl rfl (l' := #[.val (.int p1), .val (.int p2), .val (.int p3), .val (.int p4), .val (.int p5), .val (.int (3 : Int32)), .val (.ref r186), .unset, .unset, .unset, .unset]) rfl ?_
      show Steps p.tables e below (T186.setTop (mkF m 19 #[.val (.int p1), .val (.int p2), .val (.int p3), .val (.int p4), .val (.int p5), .val (.int (3 : Int32)), .val (.ref r186), .unset, .unset, .unset, .unset] [])) _
      refine XS.iload X186.here hx rfl (hb hby at_19) rfl ?_
      show Steps p.tables e below (T186.setTop (mkF m 21 #[.val (.int p1), .val (.int p2), .val (.int p3), .val (.int p4), .val (.int p5), .val (.int (3 : Int32)), .val (.ref r186), .unset, .unset, .unset, .unset] [(.int (3 : Int32))])) _
      refine XS.iloadN X186.here hx rfl (hb hby at_21) rfl ?_
      show Steps p.tables e below (T186.setTop (mkF m 22 #[.val (.int p1), .val (.int p2), .val (.int p3), .val (.int p4), .val (.int p5), .val (.int (3 : Int32)), .val (.ref r186), .unset, .unset, .unset, .unset] [(.int p2), (.int (3 : Int32))])) _
      refine XS.iloadN X186.here hx rfl (hb hby at_22) rfl ?_
      show Steps p.tables e below (T186.setTop (mkF m 23 #[.val (.int p1), .val (.int p2), .val (.int p3), .val (.int p4), .val (.int p5), .val (.int (3 : Int32)), .val (.ref r186), .unset, .unset, .unset, .unset] [(.int p3), (.int p2), (.int (3 : Int32))])) _
      refine XS.iloadN X186.here hx rfl (hb hby at_23) rfl ?_
      show Steps p.tables e below (T186.setTop (mkF m 24 #[.val (.int p1), .val (.int p2), .val (.int p3), .val (.int p4), .val (.int p5), .val (.int (3 : Int32)), .val (.ref r186), .unset, .unset, .unset, .unset] [(.int p4), (.int p3), (.int p2), (.int (3 : Int32))])) _
      refine XS.iload X186.here hx rfl (hb hby at_24) rfl ?_
      show Steps p.tables e below (T186.setTop (mkF m 26 #[.val (.int p1), .val (.int p2), .val (.int p3), .val (.int p4), .val (.int p5), .val (.int (3 : Int32)), .val (.ref r186), .unset, .unset, .unset, .unset] [(.int p5), (.int p4), (.int p3), (.int p2), (.int (3 : Int32))])) _
      refine st188 _ ?_
      show Steps p.tables e below (T188.setTop (mkF m 29 #[.val (.int p1), .val (.int p2), .val (.int p3), .val (.int p4), .val (.int p5), .val (.int (3 : Int32)), .val (.ref r186), .unset, .unset, .unset, .unset] [(.ref r188)])) _
      refine XS.astore X188.here hx rfl (hb hby at_29) rfl rfl (l' := #[.val (.int p1), .val (.int p2), .val (.int p3), .val (.int p4), .val (.int p5), .val (.int (3 : Int32)), .val (.ref r186), .val (.ref r188), .unset, .unset, .unset]) rfl ?_
      show Steps p.tables e below (T188.setTop (mkF m 31 #[.val (.int p1), .val (.int p2), .val (.int p3), .val (.int p4), .val (.int p5), .val (.int (3 : Int32)), .val (.ref r186), .val (.ref r188), .unset, .unset, .unset] [])) _
      refine st192 _ ?_
      show Steps p.tables e below (T192.setTop (mkF m 34 #[.val (.int p1), .val (.int p2), .val (.int p3), .val (.int p4), .val (.int p5), .val (.int (3 : Int32)), .val (.ref r186), .val (.ref r188), .unset, .unset, .unset] [(.ref b192)])) _
      refine XS.dup X192.here hx rfl (hb hby at_34) rfl rfl ?_
      show Steps p.tables e below (T192.setTop (mkF m 35 #[.val (.int p1), .val (.int p2), .val (.int p3), .val (.int p4), .val (.int p5), .val (.int (3 : Int32)), .val (.ref r186), .val (.ref r188), .unset, .unset, .unset] [(.ref b192), (.ref b192)])) _
      refine XS.aload X192.here hx rfl (hb hby at_35) rfl rfl ?_
      show Steps p.tables e below (T192.setTop (mkF m 37 #[.val (.int p1), .val (.int p2), .val (.int p3), .val (.int p4), .val (.int p5), .val (.int (3 : Int32)), .val (.ref r186), .val (.ref r188), .unset, .unset, .unset] [(.ref r186), (.ref b192), (.ref b192)])) _
      refine XS.aload X192.here hx rfl (hb hby at_37) rfl rfl ?_
      show Steps p.tables e below (T192.setTop (mkF m 39 #[.val (.int p1), .val (.int p2), .val (.int p3), .val (.int p4), .val (.int p5), .val (.int (3 : Int32)), .val (.ref r186), .val (.ref r188), .unset, .unset, .unset] [(.ref r188), (.ref r186), (.ref b192), (.ref b192)])) _
      refine st200.trans ?_
      show Steps p.tables e below (T200.setTop (mkF m 42 #[.val (.int p1), .val (.int p2), .val (.int p3), .val (.int p4), .val (.int p5), .val (.int (3 : Int32)), .val (.ref r186), .val (.ref r188), .unset, .unset, .unset] [(.ref b192)])) _
      refine XS.astore X200.here hx rfl (hb hby at_42) rfl rfl (l' := #[.val (.int p1), .val (.int p2), .val (.int p3), .val (.int p4), .val (.int p5), .val (.int (3 : Int32)), .val (.ref r186), .val (.ref r188), .val (.ref b192), .unset, .unset]) rfl ?_
      show Steps p.tables e below (T200.setTop (mkF m 44 #[.val (.int p1), .val (.int p2), .val (.int p3), .val (.int p4), .val (.int p5), .val (.int (3 : Int32)), .val (.ref r186), .val (.ref r188), .val (.ref b192), .unset, .unset] [])) _
      refine XS.lconst X200.here hx rfl (hb hby at_44) ?_
      show Steps p.tables e below (T200.setTop (mkF m 45 #[.val (.int p1), .val (.int p2), .val (.int p3), .val (.int p4), .val (.int p5), .val (.int (3 : Int32)), .val (.ref r186), .val (.ref r188), .val (.ref b192), .unset, .unset] [(.long (0 : Int64))])) _
      refine XS.lstore X200.here hx rfl (hb hby at_45) rfl (l' := #[.val (.int p1), .val (.int p2), .val (.int p3), .val (.int p4), .val (.int p5), .val (.int (3 : Int32)), .val (.ref r186), .val (.ref r188), .val (.ref b192), .val (.long (0 : Int64)), .second]) rfl ?_
      show Steps p.tables e below (T200.setTop (mkF m 47 #[.val (.int p1), .val (.int p2), .val (.int p3), .val (.int p4), .val (.int p5), .val (.int (3 : Int32)), .val (.ref r186), .val (.ref r188), .val (.ref b192), .val (.long (0 : Int64)), .second] [])) _
      refine XS.iload X200.here hx rfl (hb hby at_47) rfl ?_
      show Steps p.tables e below (T200.setTop (mkF m 49 #[.val (.int p1), .val (.int p2), .val (.int p3), .val (.int p4), .val (.int p5), .val (.int (3 : Int32)), .val (.ref r186), .val (.ref r188), .val (.ref b192), .val (.long (0 : Int64)), .second] [(.int (3 : Int32))])) _
      refine XS.iconst X200.here hx rfl (hb hby at_49) ?_
      show Steps p.tables e below (T200.setTop (mkF m 50 #[.val (.int p1), .val (.int p2), .val (.int p3), .val (.int p4), .val (.int p5), .val (.int (3 : Int32)), .val (.ref r186), .val (.ref r188), .val (.ref b192), .val (.long (0 : Int64)), .second] [(.int (1 : Int32)), (.int (3 : Int32))])) _
      refine XS.icmpNo X200.here hx rfl (hb hby at_50) rfl (flt (by decide : ¬ ((3 : Int32) < (1 : Int32)))).1 ?_
      show Steps p.tables e below (T200.setTop (mkF m 53 #[.val (.int p1), .val (.int p2), .val (.int p3), .val (.int p4), .val (.int p5), .val (.int (3 : Int32)), .val (.ref r186), .val (.ref r188), .val (.ref b192), .val (.long (0 : Int64)), .second] [])) _
      refine XS.lload X200.here hx rfl (hb hby at_53) rfl ?_
      show Steps p.tables e below (T200.setTop (mkF m 55 #[.val (.int p1), .val (.int p2), .val (.int p3), .val (.int p4), .val (.int p5), .val (.int (3 : Int32)), .val (.ref r186), .val (.ref r188), .val (.ref b192), .val (.long (0 : Int64)), .second] [(.long (0 : Int64))])) _
      refine XS.iloadN X200.here hx rfl (hb hby at_55) rfl ?_
      show Steps p.tables e below (T200.setTop (mkF m 56 #[.val (.int p1), .val (.int p2), .val (.int p3), .val (.int p4), .val (.int p5), .val (.int (3 : Int32)), .val (.ref r186), .val (.ref r188), .val (.ref b192), .val (.long (0 : Int64)), .second] [(.int p2), (.long (0 : Int64))])) _
      refine XS.i2l X200.here hx rfl (hb hby at_56) rfl ?_
      show Steps p.tables e below (T200.setTop (mkF m 57 #[.val (.int p1), .val (.int p2), .val (.int p3), .val (.int p4), .val (.int p5), .val (.int (3 : Int32)), .val (.ref r186), .val (.ref r188), .val (.ref b192), .val (.long (0 : Int64)), .second] [(.long (p2.toInt64)), (.long (0 : Int64))])) _
      refine XS.ladd X200.here hx rfl (hb hby at_57) rfl ?_
      show Steps p.tables e below (T200.setTop (mkF m 58 #[.val (.int p1), .val (.int p2), .val (.int p3), .val (.int p4), .val (.int p5), .val (.int (3 : Int32)), .val (.ref r186), .val (.ref r188), .val (.ref b192), .val (.long (0 : Int64)), .second] [(.long ((0 : Int64) + (p2.toInt64)))])) _
      refine XS.lstore X200.here hx rfl (hb hby at_58) rfl (l' := #[.val (.int p1), .val (.int p2), .val (.int p3), .val (.int p4), .val (.int p5), .val (.int (3 : Int32)), .val (.ref r186), .val (.ref r188), .val (.ref b192), .val (.long ((0 : Int64) + (p2.toInt64))), .second]) rfl ?_
      show Steps p.tables e below (T200.setTop (mkF m 60 #[.val (.int p1), .val (.int p2), .val (.int p3), .val (.int p4), .val (.int p5), .val (.int (3 : Int32)), .val (.ref r186), .val (.ref r188), .val (.ref b192), .val (.long ((0 : Int64) + (p2.toInt64))), .second] [])) _
      refine XS.iload X200.here hx rfl (hb hby at_60) rfl ?_
      show Steps p.tables e below (T200.setTop (mkF m 62 #[.val (.int p1), .val (.int p2), .val (.int p3), .val (.int p4), .val (.int p5), .val (.int (3 : Int32)), .val (.ref r186), .val (.ref r188), .val (.ref b192), .val (.long ((0 : Int64) + (p2.toInt64))), .second] [(.int (3 : Int32))])) _
      refine XS.iconst X200.here hx rfl (hb hby at_62) ?_
      show Steps p.tables e below (T200.setTop (mkF m 63 #[.val (.int p1), .val (.int p2), .val (.int p3), .val (.int p4), .val (.int p5), .val (.int (3 : Int32)), .val (.ref r186), .val (.ref r188), .val (.ref b192), .val (.long ((0 : Int64) + (p2.toInt64))), .second] [(.int (2 : Int32)), (.int (3 : Int32))])) _
      refine XS.icmpNo X200.here hx rfl (hb hby at_63) rfl (flt (by decide : ¬ ((3 : Int32) < (2 : Int32)))).1 ?_
      show Steps p.tables e below (T200.setTop (mkF m 66 #[.val (.int p1), .val (.int p2), .val (.int p3), .val (.int p4), .val (.int p5), .val (.int (3 : Int32)), .val (.ref r186), .val (.ref r188), .val (.ref b192), .val (.long ((0 : Int64) + (p2.toInt64))), .second] [])) _
      refine XS.lload X200.here hx rfl (hb hby at_66) rfl ?_
      show Steps p.tables e below (T200.setTop (mkF m 68 #[.val (.int p1), .val (.int p2), .val (.int p3), .val (.int p4), .val (.int p5), .val (.int (3 : Int32)), .val (.ref r186), .val (.ref r188), .val (.ref b192), .val (.long ((0 : Int64) + (p2.toInt64))), .second] [(.long ((0 : Int64) + (p2.toInt64)))])) _
      refine XS.iloadN X200.here hx rfl (hb hby at_68) rfl ?_
      show Steps p.tables e below (T200.setTop (mkF m 69 #[.val (.int p1), .val (.int p2), .val (.int p3), .val (.int p4), .val (.int p5), .val (.int (3 : Int32)), .val (.ref r186), .val (.ref r188), .val (.ref b192), .val (.long ((0 : Int64) + (p2.toInt64))), .second] [(.int p3), (.long ((0 : Int64) + (p2.toInt64)))])) _
      refine XS.i2l X200.here hx rfl (hb hby at_69) rfl ?_
      show Steps p.tables e below (T200.setTop (mkF m 70 #[.val (.int p1), .val (.int p2), .val (.int p3), .val (.int p4), .val (.int p5), .val (.int (3 : Int32)), .val (.ref r186), .val (.ref r188), .val (.ref b192), .val (.long ((0 : Int64) + (p2.toInt64))), .second] [(.long (p3.toInt64)), (.long ((0 : Int64) + (p2.toInt64)))])) _
      refine XS.ladd X200.here hx rfl (hb hby at_70) rfl ?_
      show Steps p.tables e below (T200.setTop (mkF m 71 #[.val (.int p1), .val (.int p2), .val (.int p3), .val (.int p4), .val (.int p5), .val (.int (3 : Int32)), .val (.ref r186), .val (.ref r188), .val (.ref b192), .val (.long ((0 : Int64) + (p2.toInt64))), .second] [(.long (((0 : Int64) + (p2.toInt64)) + (p3.toInt64)))])) _
      refine XS.lstore X200.here hx rfl (hb hby at_71) rfl (l' := #[.val (.int p1), .val (.int p2), .val (.int p3), .val (.int p4), .val (.int p5), .val (.int (3 : Int32)), .val (.ref r186), .val (.ref r188), .val (.ref b192), .val (.long (((0 : Int64) + (p2.toInt64)) + (p3.toInt64))), .second]) rfl ?_
      show Steps p.tables e below (T200.setTop (mkF m 73 #[.val (.int p1), .val (.int p2), .val (.int p3), .val (.int p4), .val (.int p5), .val (.int (3 : Int32)), .val (.ref r186), .val (.ref r188), .val (.ref b192), .val (.long (((0 : Int64) + (p2.toInt64)) + (p3.toInt64))), .second] [])) _
      refine XS.iload X200.here hx rfl (hb hby at_73) rfl ?_
      show Steps p.tables e below (T200.setTop (mkF m 75 #[.val (.int p1), .val (.int p2), .val (.int p3), .val (.int p4), .val (.int p5), .val (.int (3 : Int32)), .val (.ref r186), .val (.ref r188), .val (.ref b192), .val (.long (((0 : Int64) + (p2.toInt64)) + (p3.toInt64))), .second] [(.int (3 : Int32))])) _
      refine XS.iconst X200.here hx rfl (hb hby at_75) ?_
      show Steps p.tables e below (T200.setTop (mkF m 76 #[.val (.int p1), .val (.int p2), .val (.int p3), .val (.int p4), .val (.int p5), .val (.int (3 : Int32)), .val (.ref r186), .val (.ref r188), .val (.ref b192), .val (.long (((0 : Int64) + (p2.toInt64)) + (p3.toInt64))), .second] [(.int (3 : Int32)), (.int (3 : Int32))])) _
      refine XS.icmpNo X200.here hx rfl (hb hby at_76) rfl (flt (by decide : ¬ ((3 : Int32) < (3 : Int32)))).1 ?_
      show Steps p.tables e below (T200.setTop (mkF m 79 #[.val (.int p1), .val (.int p2), .val (.int p3), .val (.int p4), .val (.int p5), .val (.int (3 : Int32)), .val (.ref r186), .val (.ref r188), .val (.ref b192), .val (.long (((0 : Int64) + (p2.toInt64)) + (p3.toInt64))), .second] [])) _
      refine XS.lload X200.here hx rfl (hb hby at_79) rfl ?_
      show Steps p.tables e below (T200.setTop (mkF m 81 #[.val (.int p1), .val (.int p2), .val (.int p3), .val (.int p4), .val (.int p5), .val (.int (3 : Int32)), .val (.ref r186), .val (.ref r188), .val (.ref b192), .val (.long (((0 : Int64) + (p2.toInt64)) + (p3.toInt64))), .second] [(.long (((0 : Int64) + (p2.toInt64)) + (p3.toInt64)))])) _
      refine XS.iloadN X200.here hx rfl (hb hby at_81) rfl ?_
      show Steps p.tables e below (T200.setTop (mkF m 82 #[.val (.int p1), .val (.int p2), .val (.int p3), .val (.int p4), .val (.int p5), .val (.int (3 : Int32)), .val (.ref r186), .val (.ref r188), .val (.ref b192), .val (.long (((0 : Int64) + (p2.toInt64)) + (p3.toInt64))), .second] [(.int p4), (.long (((0 : Int64) + (p2.toInt64)) + (p3.toInt64)))])) _
      refine XS.i2l X200.here hx rfl (hb hby at_82) rfl ?_
      show Steps p.tables e below (T200.setTop (mkF m 83 #[.val (.int p1), .val (.int p2), .val (.int p3), .val (.int p4), .val (.int p5), .val (.int (3 : Int32)), .val (.ref r186), .val (.ref r188), .val (.ref b192), .val (.long (((0 : Int64) + (p2.toInt64)) + (p3.toInt64))), .second] [(.long (p4.toInt64)), (.long (((0 : Int64) + (p2.toInt64)) + (p3.toInt64)))])) _
      refine XS.ladd X200.here hx rfl (hb hby at_83) rfl ?_
      show Steps p.tables e below (T200.setTop (mkF m 84 #[.val (.int p1), .val (.int p2), .val (.int p3), .val (.int p4), .val (.int p5), .val (.int (3 : Int32)), .val (.ref r186), .val (.ref r188), .val (.ref b192), .val (.long (((0 : Int64) + (p2.toInt64)) + (p3.toInt64))), .second] [(.long ((((0 : Int64) + (p2.toInt64)) + (p3.toInt64)) + (p4.toInt64)))])) _
      refine XS.lstore X200.here hx rfl (hb hby at_84) rfl (l' := #[.val (.int p1), .val (.int p2), .val (.int p3), .val (.int p4), .val (.int p5), .val (.int (3 : Int32)), .val (.ref r186), .val (.ref r188), .val (.ref b192), .val (.long ((((0 : Int64) + (p2.toInt64)) + (p3.toInt64)) + (p4.toInt64))), .second]) rfl ?_
      show Steps p.tables e below (T200.setTop (mkF m 86 #[.val (.int p1), .val (.int p2), .val (.int p3), .val (.int p4), .val (.int p5), .val (.int (3 : Int32)), .val (.ref r186), .val (.ref r188), .val (.ref b192), .val (.long ((((0 : Int64) + (p2.toInt64)) + (p3.toInt64)) + (p4.toInt64))), .second] [])) _
      refine XS.iload X200.here hx rfl (hb hby at_86) rfl ?_
      show Steps p.tables e below (T200.setTop (mkF m 88 #[.val (.int p1), .val (.int p2), .val (.int p3), .val (.int p4), .val (.int p5), .val (.int (3 : Int32)), .val (.ref r186), .val (.ref r188), .val (.ref b192), .val (.long ((((0 : Int64) + (p2.toInt64)) + (p3.toInt64)) + (p4.toInt64))), .second] [(.int (3 : Int32))])) _
      refine XS.iconst X200.here hx rfl (hb hby at_88) ?_
      show Steps p.tables e below (T200.setTop (mkF m 89 #[.val (.int p1), .val (.int p2), .val (.int p3), .val (.int p4), .val (.int p5), .val (.int (3 : Int32)), .val (.ref r186), .val (.ref r188), .val (.ref b192), .val (.long ((((0 : Int64) + (p2.toInt64)) + (p3.toInt64)) + (p4.toInt64))), .second] [(.int (4 : Int32)), (.int (3 : Int32))])) _
      refine XS.icmpYes X200.here hx rfl (pc0 := 89) (pc' := 100) rfl (hb hby at_89) rfl (tlt (by decide : (3 : Int32) < (4 : Int32))).1 (by decide) (by decide) ?_
      show Steps p.tables e below (T200.setTop (mkF m 100 #[.val (.int p1), .val (.int p2), .val (.int p3), .val (.int p4), .val (.int p5), .val (.int (3 : Int32)), .val (.ref r186), .val (.ref r188), .val (.ref b192), .val (.long ((((0 : Int64) + (p2.toInt64)) + (p3.toInt64)) + (p4.toInt64))), .second] [])) _
      refine XS.aload X200.here hx rfl (hb hby at_100) rfl rfl ?_
      show Steps p.tables e below (T200.setTop (mkF m 102 #[.val (.int p1), .val (.int p2), .val (.int p3), .val (.int p4), .val (.int p5), .val (.int (3 : Int32)), .val (.ref r186), .val (.ref r188), .val (.ref b192), .val (.long ((((0 : Int64) + (p2.toInt64)) + (p3.toInt64)) + (p4.toInt64))), .second] [(.ref b192)])) _
      refine st207.trans ?_
      show Steps p.tables e below (T207.setTop (mkF m 105 #[.val (.int p1), .val (.int p2), .val (.int p3), .val (.int p4), .val (.int p5), .val (.int (3 : Int32)), .val (.ref r186), .val (.ref r188), .val (.ref b192), .val (.long ((((0 : Int64) + (p2.toInt64)) + (p3.toInt64)) + (p4.toInt64))), .second] [(.long ((((0 : Int64) + (p2.toInt64)) + (p3.toInt64)) + (p4.toInt64)))])) _
      refine XS.lload X207.here hx rfl (hb hby at_105) rfl ?_
      show Steps p.tables e below (T207.setTop (mkF m 107 #[.val (.int p1), .val (.int p2), .val (.int p3), .val (.int p4), .val (.int p5), .val (.int (3 : Int32)), .val (.ref r186), .val (.ref r188), .val (.ref b192), .val (.long ((((0 : Int64) + (p2.toInt64)) + (p3.toInt64)) + (p4.toInt64))), .second] [(.long ((((0 : Int64) + (p2.toInt64)) + (p3.toInt64)) + (p4.toInt64))), (.long ((((0 : Int64) + (p2.toInt64)) + (p3.toInt64)) + (p4.toInt64)))])) _
      refine XS.lcmp X207.here hx rfl (hb hby at_107) rfl ?_
      show Steps p.tables e below (T207.setTop (mkF m 108 #[.val (.int p1), .val (.int p2), .val (.int p3), .val (.int p4), .val (.int p5), .val (.int (3 : Int32)), .val (.ref r186), .val (.ref r188), .val (.ref b192), .val (.long ((((0 : Int64) + (p2.toInt64)) + (p3.toInt64)) + (p4.toInt64))), .second] [(.int (lcmpW ((((0 : Int64) + (p2.toInt64)) + (p3.toInt64)) + (p4.toInt64)) ((((0 : Int64) + (p2.toInt64)) + (p3.toInt64)) + (p4.toInt64))))])) _
      refine XS.ifNo X207.here hx rfl (hb hby at_108) rfl ((if0 _ _).trans (teq ((lw_eq _ _).mpr (rfl : ((((0 : Int64) + (p2.toInt64)) + (p3.toInt64)) + (p4.toInt64)) = ((((0 : Int64) + (p2.toInt64)) + (p3.toInt64)) + (p4.toInt64))))).2) ?_
      show Steps p.tables e below (T207.setTop (mkF m 111 #[.val (.int p1), .val (.int p2), .val (.int p3), .val (.int p4), .val (.int p5), .val (.int (3 : Int32)), .val (.ref r186), .val (.ref r188), .val (.ref b192), .val (.long ((((0 : Int64) + (p2.toInt64)) + (p3.toInt64)) + (p4.toInt64))), .second] [])) _
      refine XS.iconst X207.here hx rfl (hb hby at_111) ?_
      show Steps p.tables e below (T207.setTop (mkF m 112 #[.val (.int p1), .val (.int p2), .val (.int p3), .val (.int p4), .val (.int p5), .val (.int (3 : Int32)), .val (.ref r186), .val (.ref r188), .val (.ref b192), .val (.long ((((0 : Int64) + (p2.toInt64)) + (p3.toInt64)) + (p4.toInt64))), .second] [(.int (1 : Int32))])) _
      refine XS.goto X207.here hx rfl (pc0 := 112) (pc' := 116) rfl (hb hby at_112) (by decide) (by decide) ?_
      exact kt)
    exact own_retN X207 hx Bd.notSynchronized (t := .boolean) Bd.returns (by simp) (hb hby at_116) pre208 (show Q0 h0 n0 _ _ _ from ⟨rfl, N207⟩) (by decide) (by decide)
  · have pre209 : ∀ t, Steps p.tables e below (s₁.setTop (mkF m 14 #[.val (.int p1), .val (.int p2), .val (.int p3), .val (.int p4), .val (.int p5), .val (.int (4 : Int32)), .unset, .unset, .unset, .unset, .unset] [(.int (3 : Int32)), (.int (2 : Int32)), (.int (1 : Int32)), (.int (0 : Int32)), (.int (4 : Int32))])) t → Steps p.tables e below (s₁.setTop (entryFrame m #[(.int p1), (.int p2), (.int p3), (.int p4), (.int p5)] maxLocals)) t := by have q := pre112; rw [hk] at q; exact q
    obtain ⟨_, _, ⟨T210, L210, k210, n210⟩, -, X210, ⟨Lc210, hQ210, l210, y210, z210⟩, st210⟩ := Jvm.LawKit.callS X0 hx (y := (⟨"com/example/avocet/avocet/index/PostingsOccurrencesPinLaw", "pick", "(IIIII)[I"⟩ : MethodName)) hown (mvT hZ (hw _ (List.mem_of_getElem? (i := 0) rfl))) (mvT hZ (hw _ (List.mem_of_getElem? (i := 1) rfl))) (mvT hZ (hw _ (List.mem_of_getElem? (i := 2) rfl))) (mvT hZ (hw _ (List.mem_of_getElem? (i := 3) rfl))) (by decide) (backOf (W := 0) (rm1_4 l Z a0 hw [] (0 : Int32) (1 : Int32) (2 : Int32) (3 : Int32) h0 n0 Z0) hZ (hw _ (List.mem_of_getElem? (i := 3) rfl)) (hw _ (List.mem_of_getElem? (i := 2) rfl)) (by decide) (by decide)) (g := (mkF m 14 #[.val (.int p1), .val (.int p2), .val (.int p3), .val (.int p4), .val (.int p5), .val (.int (4 : Int32)), .unset, .unset, .unset, .unset, .unset] [(.int (3 : Int32)), (.int (2 : Int32)), (.int (1 : Int32)), (.int (0 : Int32)), (.int (4 : Int32))])) rfl (by rw [hml]; rfl) (argsL := [(.int (4 : Int32)), (.int (0 : Int32)), (.int (1 : Int32)), (.int (2 : Int32)), (.int (3 : Int32))]) (rest := []) (lenOf pd_107 rfl) rfl (by show 2 * 0 + _ ≤ _; exact Nat.le_of_eq rfl) (hb hby at_14) (fun _ _ => ⟨rfl, e0, (by decide : 0 + 1 ≤ _), (by decide : 0 + 4 ≤ _)⟩)
    dsimp only [Pt.U, Pt.locs, Pt.cells, Pt.slots] at X210 l210 y210 z210 st210 hQ210
    subst l210 y210 z210
    obtain ⟨r210, kc210, rfl, Nq210, K210, z210, G210, V210⟩ := hQ210
    have N210 := Fr.app N0 Nq210
    have z211 : n0 ≤ T210.heap.size := Nat.le_trans Z0 K210.1
    obtain ⟨_, _, ⟨T212, L212, k212, n212⟩, -, X212, ⟨Lc212, hQ212, l212, y212, z212⟩, st212⟩ := Jvm.LawKit.callS X210 hx (y := (⟨"com/example/avocet/avocet/index/PostingsOccurrencesPinLaw", "pick", "(IIIII)[I"⟩ : MethodName)) hown (mvT hZ (hw _ (List.mem_of_getElem? (i := 0) rfl))) (mvT hZ (hw _ (List.mem_of_getElem? (i := 1) rfl))) (mvT hZ (hw _ (List.mem_of_getElem? (i := 2) rfl))) (mvT hZ (hw _ (List.mem_of_getElem? (i := 3) rfl))) (by decide) (backOf (W := 0) (rm1_4 l Z a0 hw [] p2 p3 p4 p5 T210.heap n0 z211) hZ (hw _ (List.mem_of_getElem? (i := 3) rfl)) (hw _ (List.mem_of_getElem? (i := 2) rfl)) (by decide) (by decide)) (g := (mkF m 26 #[.val (.int p1), .val (.int p2), .val (.int p3), .val (.int p4), .val (.int p5), .val (.int (4 : Int32)), .val (.ref r210), .unset, .unset, .unset, .unset] [(.int p5), (.int p4), (.int p3), (.int p2), (.int (4 : Int32))])) rfl (by rw [hml]; rfl) (argsL := [(.int (4 : Int32)), (.int p2), (.int p3), (.int p4), (.int p5)]) (rest := []) (lenOf pd_107 rfl) rfl (by show 2 * 0 + _ ≤ _; exact Nat.le_of_eq rfl) (hb hby at_26) (fun _ _ => ⟨rfl, rfl, (by decide : 1 + 1 ≤ _), (by decide : 4 + 4 ≤ _)⟩)
    dsimp only [Pt.U, Pt.locs, Pt.cells, Pt.slots] at X212 l212 y212 z212 st212 hQ212
    subst l212 y212 z212
    obtain ⟨r212, kc212, rfl, Nq212, K212, z212, G212, V212⟩ := hQ212
    have N212 := Fr.app N210 Nq212
    have ne213 : r210 ≠ r212 := Nat.ne_of_lt (Nat.lt_of_lt_of_le V210.lt z212)
    have z214 : n0 ≤ T212.heap.size := Nat.le_trans z211 K212.1
    have c215 := V210.keep K212 nin0
    obtain ⟨T216, h216, X216, e216, E216, A216, D216, -, st216⟩ := newO X212 hx hZ hown (hw _ (List.mem_of_getElem? (i := 5) rfl)) (hw _ (List.mem_of_getElem? (i := 6) rfl)) (hw _ (List.mem_of_getElem? (i := 7) rfl)) rfl (g := (mkF m 31 #[.val (.int p1), .val (.int p2), .val (.int p3), .val (.int p4), .val (.int p5), .val (.int (4 : Int32)), .val (.ref r210), .val (.ref r212), .unset, .unset, .unset] [])) rfl (hb hby at_31) (by decide) (by decide)
    obtain ⟨b216, g216⟩ : ∃ z, z = T212.heap.size := ⟨_, rfl⟩
    rw [← g216] at A216 D216 st216
    have G216 : n0 ≤ b216 := Nat.le_trans z214 (Nat.le_of_eq g216.symm)
    have ne217 : r210 ≠ b216 := Nat.ne_of_lt (Nat.lt_of_lt_of_le c215.lt (Nat.le_of_eq g216.symm))
    have ne218 : r212 ≠ b216 := Nat.ne_of_lt (Nat.lt_of_lt_of_le V212.lt (Nat.le_of_eq g216.symm))
    have c219 := c215.ext E216
    have c220 := V212.ext E216
    have F221 : Fld Z h216 b216 "com/example/avocet/avocet/index/Postings" "documents" "[I" .null := D216 (Or.inr (hw _ (List.mem_of_getElem? (i := 15) rfl))) (ty := (.array .int)) (by decide)
    have F222 : Fld Z h216 b216 "com/example/avocet/avocet/index/Postings" "frequencies" "[I" .null := D216 (Or.inr (hw _ (List.mem_of_getElem? (i := 17) rfl))) (ty := (.array .int)) (by decide)
    have z223 : n0 ≤ h216.size := Nat.le_trans z214 E216.1
    obtain ⟨_, _, ⟨T224, L224, k224, n224⟩, -, X224, ⟨Lc224, hQ224, l224, y224, z224⟩, st224⟩ := X216.specialBack hx (y := (⟨"com/example/avocet/avocet/index/Postings", "<init>", "([I[I)V"⟩ : MethodName)) rfl hown (mvT hZ (hw _ (List.mem_of_getElem? (i := 8) rfl))) (mvT hZ (hw _ (List.mem_of_getElem? (i := 9) rfl))) (mvT hZ (hw _ (List.mem_of_getElem? (i := 10) rfl))) (by decide) (backOf (W := 1) (rm2 l Z a0 hw [] b216 r210 r212 h216 n0 z223 A216 F221 F222 G216) hZ (hw _ (List.mem_of_getElem? (i := 10) rfl)) (hw _ (List.mem_of_getElem? (i := 7) rfl)) (by decide) (by decide)) (g := (mkF m 39 #[.val (.int p1), .val (.int p2), .val (.int p3), .val (.int p4), .val (.int p5), .val (.int (4 : Int32)), .val (.ref r210), .val (.ref r212), .unset, .unset, .unset] [(.ref r212), (.ref r210), (.ref b216), (.ref b216)])) rfl (by rw [hml]; rfl) (Steps.refl _) (a := b216) (argsL := [(.ref r210), (.ref r212)]) (rest := [(.ref b216)]) (lenOf pd_108 rfl) rfl (by show 2 * 0 + _ ≤ _; exact Nat.le_of_eq rfl) (hb hby at_39) (fun _ _ => ⟨rfl, e216, (by decide : 3 + 0 ≤ _), (by decide : 10 + 0 ≤ _)⟩)
    dsimp only [Pt.U, Pt.locs, Pt.cells, Pt.slots] at X224 l224 y224 z224 st224 hQ224
    subst l224 y224 z224
    obtain ⟨rfl, Nq224, K224, Fd224, Ff224⟩ := hQ224
    have N224 := Fr.app N212 Nq224
    have z225 : n0 ≤ T224.heap.size := Nat.le_trans z223 K224.1
    have c226 := c219.keep K224 (ninS ne217 nin0)
    have c227 := c220.keep K224 (ninS ne218 nin0)
    have c228 := A216.keep K224
    obtain ⟨cq231, kq231, q231a, q231b, q231c⟩ := isOf hZ rfl c228
    obtain ⟨_, _, ⟨T231, L231, k231, n231⟩, -, X231, ⟨Lc231, hQ231, l231, y231, z231⟩, st231⟩ := X224.virtualBack hx (y := (⟨"com/example/avocet/avocet/index/Postings", "occurrences", "()J"⟩ : MethodName)) (z := (⟨"com/example/avocet/avocet/index/Postings", "occurrences", "()J"⟩ : MethodName)) hown (mvT hZ (hw _ (List.mem_of_getElem? (i := 18) rfl))) (mvT hZ (hw _ (List.mem_of_getElem? (i := 19) rfl))) (notFace_of_selects (args := #[]) (mvT hZ (hw _ (List.mem_of_getElem? (i := 21) rfl)))) (mvT hZ (hw _ (List.mem_of_getElem? (i := 21) rfl))) (mvT hZ (hw _ (List.mem_of_getElem? (i := 20) rfl))) (by decide) (backOf (W := 0) (rm4_4 l Z a0 hw [] b216 r212 kc212 p2 p3 p4 p5 T224.heap n0 z225 Ff224 c227) hZ (hw _ (List.mem_of_getElem? (i := 22) rfl)) (hw _ (List.mem_of_getElem? (i := 7) rfl)) (by decide) (by decide)) q231a q231c (g := (mkF m 102 #[.val (.int p1), .val (.int p2), .val (.int p3), .val (.int p4), .val (.int p5), .val (.int (4 : Int32)), .val (.ref r210), .val (.ref r212), .val (.ref b216), .val (.long (((((0 : Int64) + (p2.toInt64)) + (p3.toInt64)) + (p4.toInt64)) + (p5.toInt64))), .second] [(.ref b216)])) rfl (by rw [hml]; rfl) (Steps.refl _) (argsL := []) (rest := []) (lenOf pd_109 rfl) rfl (by show 2 * 0 + _ ≤ _; exact Nat.le_of_eq rfl) (hb hby at_102) (fun _ _ => ⟨rfl, rfl, (by decide : 3 + 0 ≤ _), (by decide : 10 + 0 ≤ _)⟩)
    dsimp only [Pt.U, Pt.locs, Pt.cells, Pt.slots] at X231 l231 y231 z231 st231 hQ231
    subst l231 y231 z231
    obtain ⟨rfl, Nq231, e231⟩ := hQ231
    have N231 := Fr.app N224 Nq231
    have pre232 : ∀ t, Steps p.tables e below (T231.setTop (mkF m 116 #[.val (.int p1), .val (.int p2), .val (.int p3), .val (.int p4), .val (.int p5), .val (.int (4 : Int32)), .val (.ref r210), .val (.ref r212), .val (.ref b216), .val (.long (((((0 : Int64) + (p2.toInt64)) + (p3.toInt64)) + (p4.toInt64)) + (p5.toInt64))), .second] [(.int (1 : Int32))])) t → Steps p.tables e below (s₁.setTop (entryFrame m #[(.int p1), (.int p2), (.int p3), (.int p4), (.int p5)] maxLocals)) t := fun t kt => pre209 t (by
      show Steps p.tables e below (s₁.setTop (mkF m 14 #[.val (.int p1), .val (.int p2), .val (.int p3), .val (.int p4), .val (.int p5), .val (.int (4 : Int32)), .unset, .unset, .unset, .unset, .unset] [(.int (3 : Int32)), (.int (2 : Int32)), (.int (1 : Int32)), (.int (0 : Int32)), (.int (4 : Int32))])) _
      refine st210 _ ?_
      show Steps p.tables e below (T210.setTop (mkF m 17 #[.val (.int p1), .val (.int p2), .val (.int p3), .val (.int p4), .val (.int p5), .val (.int (4 : Int32)), .unset, .unset, .unset, .unset, .unset] [(.ref r210)])) _
      refine XS.astore X210.here hx rfl (hb hby at_17) rfl rfl (l' := #[.val (.int p1), .val (.int p2), .val (.int p3), .val (.int p4), .val (.int p5), .val (.int (4 : Int32)), .val (.ref r210), .unset, .unset, .unset, .unset]) rfl ?_
      show Steps p.tables e below (T210.setTop (mkF m 19 #[.val (.int p1), .val (.int p2), .val (.int p3), .val (.int p4), .val (.int p5), .val (.int (4 : Int32)), .val (.ref r210), .unset, .unset, .unset, .unset] [])) _
      refine XS.iload X210.here hx rfl (hb hby at_19) rfl ?_
      show Steps p.tables e below (T210.setTop (mkF m 21 #[.val (.int p1), .val (.int p2), .val (.int p3), .val (.int p4), .val (.int p5), .val (.int (4 : Int32)), .val (.ref r210), .unset, .unset, .unset, .unset] [(.int (4 : Int32))])) _
      refine XS.iloadN X210.here hx rfl (hb hby at_21) rfl ?_
      show Steps p.tables e below (T210.setTop (mkF m 22 #[.val (.int p1), .val (.int p2), .val (.int p3), .val (.int p4), .val (.int p5), .val (.int (4 : Int32)), .val (.ref r210), .unset, .unset, .unset, .unset] [(.int p2), (.int (4 : Int32))])) _
      refine XS.iloadN X210.here hx rfl (hb hby at_22) rfl ?_
      show Steps p.tables e below (T210.setTop (mkF m 23 #[.val (.int p1), .val (.int p2), .val (.int p3), .val (.int p4), .val (.int p5), .val (.int (4 : Int32)), .val (.ref r210), .unset, .unset, .unset, .unset] [(.int p3), (.int p2), (.int (4 : Int32))])) _
      refine XS.iloadN X210.here hx rfl (hb hby at_23) rfl ?_
      show Steps p.tables e below (T210.setTop (mkF m 24 #[.val (.int p1), .val (.int p2), .val (.int p3), .val (.int p4), .val (.int p5), .val (.int (4 : Int32)), .val (.ref r210), .unset, .unset, .unset, .unset] [(.int p4), (.int p3), (.int p2), (.int (4 : Int32))])) _
      refine XS.iload X210.here hx rfl (hb hby at_24) rfl ?_
      show Steps p.tables e below (T210.setTop (mkF m 26 #[.val (.int p1), .val (.int p2), .val (.int p3), .val (.int p4), .val (.int p5), .val (.int (4 : Int32)), .val (.ref r210), .unset, .unset, .unset, .unset] [(.int p5), (.int p4), (.int p3), (.int p2), (.int (4 : Int32))])) _
      refine st212 _ ?_
      show Steps p.tables e below (T212.setTop (mkF m 29 #[.val (.int p1), .val (.int p2), .val (.int p3), .val (.int p4), .val (.int p5), .val (.int (4 : Int32)), .val (.ref r210), .unset, .unset, .unset, .unset] [(.ref r212)])) _
      refine XS.astore X212.here hx rfl (hb hby at_29) rfl rfl (l' := #[.val (.int p1), .val (.int p2), .val (.int p3), .val (.int p4), .val (.int p5), .val (.int (4 : Int32)), .val (.ref r210), .val (.ref r212), .unset, .unset, .unset]) rfl ?_
      show Steps p.tables e below (T212.setTop (mkF m 31 #[.val (.int p1), .val (.int p2), .val (.int p3), .val (.int p4), .val (.int p5), .val (.int (4 : Int32)), .val (.ref r210), .val (.ref r212), .unset, .unset, .unset] [])) _
      refine st216 _ ?_
      show Steps p.tables e below (T216.setTop (mkF m 34 #[.val (.int p1), .val (.int p2), .val (.int p3), .val (.int p4), .val (.int p5), .val (.int (4 : Int32)), .val (.ref r210), .val (.ref r212), .unset, .unset, .unset] [(.ref b216)])) _
      refine XS.dup X216.here hx rfl (hb hby at_34) rfl rfl ?_
      show Steps p.tables e below (T216.setTop (mkF m 35 #[.val (.int p1), .val (.int p2), .val (.int p3), .val (.int p4), .val (.int p5), .val (.int (4 : Int32)), .val (.ref r210), .val (.ref r212), .unset, .unset, .unset] [(.ref b216), (.ref b216)])) _
      refine XS.aload X216.here hx rfl (hb hby at_35) rfl rfl ?_
      show Steps p.tables e below (T216.setTop (mkF m 37 #[.val (.int p1), .val (.int p2), .val (.int p3), .val (.int p4), .val (.int p5), .val (.int (4 : Int32)), .val (.ref r210), .val (.ref r212), .unset, .unset, .unset] [(.ref r210), (.ref b216), (.ref b216)])) _
      refine XS.aload X216.here hx rfl (hb hby at_37) rfl rfl ?_
      show Steps p.tables e below (T216.setTop (mkF m 39 #[.val (.int p1), .val (.int p2), .val (.int p3), .val (.int p4), .val (.int p5), .val (.int (4 : Int32)), .val (.ref r210), .val (.ref r212), .unset, .unset, .unset] [(.ref r212), (.ref r210), (.ref b216), (.ref b216)])) _
      refine st224.trans ?_
      show Steps p.tables e below (T224.setTop (mkF m 42 #[.val (.int p1), .val (.int p2), .val (.int p3), .val (.int p4), .val (.int p5), .val (.int (4 : Int32)), .val (.ref r210), .val (.ref r212), .unset, .unset, .unset] [(.ref b216)])) _
      refine XS.astore X224.here hx rfl (hb hby at_42) rfl rfl (l' := #[.val (.int p1), .val (.int p2), .val (.int p3), .val (.int p4), .val (.int p5), .val (.int (4 : Int32)), .val (.ref r210), .val (.ref r212), .val (.ref b216), .unset, .unset]) rfl ?_
      show Steps p.tables e below (T224.setTop (mkF m 44 #[.val (.int p1), .val (.int p2), .val (.int p3), .val (.int p4), .val (.int p5), .val (.int (4 : Int32)), .val (.ref r210), .val (.ref r212), .val (.ref b216), .unset, .unset] [])) _
      refine XS.lconst X224.here hx rfl (hb hby at_44) ?_
      show Steps p.tables e below (T224.setTop (mkF m 45 #[.val (.int p1), .val (.int p2), .val (.int p3), .val (.int p4), .val (.int p5), .val (.int (4 : Int32)), .val (.ref r210), .val (.ref r212), .val (.ref b216), .unset, .unset] [(.long (0 : Int64))])) _
      refine XS.lstore X224.here hx rfl (hb hby at_45) rfl (l' := #[.val (.int p1), .val (.int p2), .val (.int p3), .val (.int p4), .val (.int p5), .val (.int (4 : Int32)), .val (.ref r210), .val (.ref r212), .val (.ref b216), .val (.long (0 : Int64)), .second]) rfl ?_
      show Steps p.tables e below (T224.setTop (mkF m 47 #[.val (.int p1), .val (.int p2), .val (.int p3), .val (.int p4), .val (.int p5), .val (.int (4 : Int32)), .val (.ref r210), .val (.ref r212), .val (.ref b216), .val (.long (0 : Int64)), .second] [])) _
      refine XS.iload X224.here hx rfl (hb hby at_47) rfl ?_
      show Steps p.tables e below (T224.setTop (mkF m 49 #[.val (.int p1), .val (.int p2), .val (.int p3), .val (.int p4), .val (.int p5), .val (.int (4 : Int32)), .val (.ref r210), .val (.ref r212), .val (.ref b216), .val (.long (0 : Int64)), .second] [(.int (4 : Int32))])) _
      refine XS.iconst X224.here hx rfl (hb hby at_49) ?_
      show Steps p.tables e below (T224.setTop (mkF m 50 #[.val (.int p1), .val (.int p2), .val (.int p3), .val (.int p4), .val (.int p5), .val (.int (4 : Int32)), .val (.ref r210), .val (.ref r212), .val (.ref b216), .val (.long (0 : Int64)), .second] [(.int (1 : Int32)), (.int (4 : Int32))])) _
      refine XS.icmpNo X224.here hx rfl (hb hby at_50) rfl (flt (by decide : ¬ ((4 : Int32) < (1 : Int32)))).1 ?_
      show Steps p.tables e below (T224.setTop (mkF m 53 #[.val (.int p1), .val (.int p2), .val (.int p3), .val (.int p4), .val (.int p5), .val (.int (4 : Int32)), .val (.ref r210), .val (.ref r212), .val (.ref b216), .val (.long (0 : Int64)), .second] [])) _
      refine XS.lload X224.here hx rfl (hb hby at_53) rfl ?_
      show Steps p.tables e below (T224.setTop (mkF m 55 #[.val (.int p1), .val (.int p2), .val (.int p3), .val (.int p4), .val (.int p5), .val (.int (4 : Int32)), .val (.ref r210), .val (.ref r212), .val (.ref b216), .val (.long (0 : Int64)), .second] [(.long (0 : Int64))])) _
      refine XS.iloadN X224.here hx rfl (hb hby at_55) rfl ?_
      show Steps p.tables e below (T224.setTop (mkF m 56 #[.val (.int p1), .val (.int p2), .val (.int p3), .val (.int p4), .val (.int p5), .val (.int (4 : Int32)), .val (.ref r210), .val (.ref r212), .val (.ref b216), .val (.long (0 : Int64)), .second] [(.int p2), (.long (0 : Int64))])) _
      refine XS.i2l X224.here hx rfl (hb hby at_56) rfl ?_
      show Steps p.tables e below (T224.setTop (mkF m 57 #[.val (.int p1), .val (.int p2), .val (.int p3), .val (.int p4), .val (.int p5), .val (.int (4 : Int32)), .val (.ref r210), .val (.ref r212), .val (.ref b216), .val (.long (0 : Int64)), .second] [(.long (p2.toInt64)), (.long (0 : Int64))])) _
      refine XS.ladd X224.here hx rfl (hb hby at_57) rfl ?_
      show Steps p.tables e below (T224.setTop (mkF m 58 #[.val (.int p1), .val (.int p2), .val (.int p3), .val (.int p4), .val (.int p5), .val (.int (4 : Int32)), .val (.ref r210), .val (.ref r212), .val (.ref b216), .val (.long (0 : Int64)), .second] [(.long ((0 : Int64) + (p2.toInt64)))])) _
      refine XS.lstore X224.here hx rfl (hb hby at_58) rfl (l' := #[.val (.int p1), .val (.int p2), .val (.int p3), .val (.int p4), .val (.int p5), .val (.int (4 : Int32)), .val (.ref r210), .val (.ref r212), .val (.ref b216), .val (.long ((0 : Int64) + (p2.toInt64))), .second]) rfl ?_
      show Steps p.tables e below (T224.setTop (mkF m 60 #[.val (.int p1), .val (.int p2), .val (.int p3), .val (.int p4), .val (.int p5), .val (.int (4 : Int32)), .val (.ref r210), .val (.ref r212), .val (.ref b216), .val (.long ((0 : Int64) + (p2.toInt64))), .second] [])) _
      refine XS.iload X224.here hx rfl (hb hby at_60) rfl ?_
      show Steps p.tables e below (T224.setTop (mkF m 62 #[.val (.int p1), .val (.int p2), .val (.int p3), .val (.int p4), .val (.int p5), .val (.int (4 : Int32)), .val (.ref r210), .val (.ref r212), .val (.ref b216), .val (.long ((0 : Int64) + (p2.toInt64))), .second] [(.int (4 : Int32))])) _
      refine XS.iconst X224.here hx rfl (hb hby at_62) ?_
      show Steps p.tables e below (T224.setTop (mkF m 63 #[.val (.int p1), .val (.int p2), .val (.int p3), .val (.int p4), .val (.int p5), .val (.int (4 : Int32)), .val (.ref r210), .val (.ref r212), .val (.ref b216), .val (.long ((0 : Int64) + (p2.toInt64))), .second] [(.int (2 : Int32)), (.int (4 : Int32))])) _
      refine XS.icmpNo X224.here hx rfl (hb hby at_63) rfl (flt (by decide : ¬ ((4 : Int32) < (2 : Int32)))).1 ?_
      show Steps p.tables e below (T224.setTop (mkF m 66 #[.val (.int p1), .val (.int p2), .val (.int p3), .val (.int p4), .val (.int p5), .val (.int (4 : Int32)), .val (.ref r210), .val (.ref r212), .val (.ref b216), .val (.long ((0 : Int64) + (p2.toInt64))), .second] [])) _
      refine XS.lload X224.here hx rfl (hb hby at_66) rfl ?_
      show Steps p.tables e below (T224.setTop (mkF m 68 #[.val (.int p1), .val (.int p2), .val (.int p3), .val (.int p4), .val (.int p5), .val (.int (4 : Int32)), .val (.ref r210), .val (.ref r212), .val (.ref b216), .val (.long ((0 : Int64) + (p2.toInt64))), .second] [(.long ((0 : Int64) + (p2.toInt64)))])) _
      refine XS.iloadN X224.here hx rfl (hb hby at_68) rfl ?_
      show Steps p.tables e below (T224.setTop (mkF m 69 #[.val (.int p1), .val (.int p2), .val (.int p3), .val (.int p4), .val (.int p5), .val (.int (4 : Int32)), .val (.ref r210), .val (.ref r212), .val (.ref b216), .val (.long ((0 : Int64) + (p2.toInt64))), .second] [(.int p3), (.long ((0 : Int64) + (p2.toInt64)))])) _
      refine XS.i2l X224.here hx rfl (hb hby at_69) rfl ?_
      show Steps p.tables e below (T224.setTop (mkF m 70 #[.val (.int p1), .val (.int p2), .val (.int p3), .val (.int p4), .val (.int p5), .val (.int (4 : Int32)), .val (.ref r210), .val (.ref r212), .val (.ref b216), .val (.long ((0 : Int64) + (p2.toInt64))), .second] [(.long (p3.toInt64)), (.long ((0 : Int64) + (p2.toInt64)))])) _
      refine XS.ladd X224.here hx rfl (hb hby at_70) rfl ?_
      show Steps p.tables e below (T224.setTop (mkF m 71 #[.val (.int p1), .val (.int p2), .val (.int p3), .val (.int p4), .val (.int p5), .val (.int (4 : Int32)), .val (.ref r210), .val (.ref r212), .val (.ref b216), .val (.long ((0 : Int64) + (p2.toInt64))), .second] [(.long (((0 : Int64) + (p2.toInt64)) + (p3.toInt64)))])) _
      refine XS.lstore X224.here hx rfl (hb hby at_71) rfl (l' := #[.val (.int p1), .val (.int p2), .val (.int p3), .val (.int p4), .val (.int p5), .val (.int (4 : Int32)), .val (.ref r210), .val (.ref r212), .val (.ref b216), .val (.long (((0 : Int64) + (p2.toInt64)) + (p3.toInt64))), .second]) rfl ?_
      show Steps p.tables e below (T224.setTop (mkF m 73 #[.val (.int p1), .val (.int p2), .val (.int p3), .val (.int p4), .val (.int p5), .val (.int (4 : Int32)), .val (.ref r210), .val (.ref r212), .val (.ref b216), .val (.long (((0 : Int64) + (p2.toInt64)) + (p3.toInt64))), .second] [])) _
      refine XS.iload X224.here hx rfl (hb hby at_73) rfl ?_
      show Steps p.tables e below (T224.setTop (mkF m 75 #[.val (.int p1), .val (.int p2), .val (.int p3), .val (.int p4), .val (.int p5), .val (.int (4 : Int32)), .val (.ref r210), .val (.ref r212), .val (.ref b216), .val (.long (((0 : Int64) + (p2.toInt64)) + (p3.toInt64))), .second] [(.int (4 : Int32))])) _
      refine XS.iconst X224.here hx rfl (hb hby at_75) ?_
      show Steps p.tables e below (T224.setTop (mkF m 76 #[.val (.int p1), .val (.int p2), .val (.int p3), .val (.int p4), .val (.int p5), .val (.int (4 : Int32)), .val (.ref r210), .val (.ref r212), .val (.ref b216), .val (.long (((0 : Int64) + (p2.toInt64)) + (p3.toInt64))), .second] [(.int (3 : Int32)), (.int (4 : Int32))])) _
      refine XS.icmpNo X224.here hx rfl (hb hby at_76) rfl (flt (by decide : ¬ ((4 : Int32) < (3 : Int32)))).1 ?_
      show Steps p.tables e below (T224.setTop (mkF m 79 #[.val (.int p1), .val (.int p2), .val (.int p3), .val (.int p4), .val (.int p5), .val (.int (4 : Int32)), .val (.ref r210), .val (.ref r212), .val (.ref b216), .val (.long (((0 : Int64) + (p2.toInt64)) + (p3.toInt64))), .second] [])) _
      refine XS.lload X224.here hx rfl (hb hby at_79) rfl ?_
      show Steps p.tables e below (T224.setTop (mkF m 81 #[.val (.int p1), .val (.int p2), .val (.int p3), .val (.int p4), .val (.int p5), .val (.int (4 : Int32)), .val (.ref r210), .val (.ref r212), .val (.ref b216), .val (.long (((0 : Int64) + (p2.toInt64)) + (p3.toInt64))), .second] [(.long (((0 : Int64) + (p2.toInt64)) + (p3.toInt64)))])) _
      refine XS.iloadN X224.here hx rfl (hb hby at_81) rfl ?_
      show Steps p.tables e below (T224.setTop (mkF m 82 #[.val (.int p1), .val (.int p2), .val (.int p3), .val (.int p4), .val (.int p5), .val (.int (4 : Int32)), .val (.ref r210), .val (.ref r212), .val (.ref b216), .val (.long (((0 : Int64) + (p2.toInt64)) + (p3.toInt64))), .second] [(.int p4), (.long (((0 : Int64) + (p2.toInt64)) + (p3.toInt64)))])) _
      refine XS.i2l X224.here hx rfl (hb hby at_82) rfl ?_
      show Steps p.tables e below (T224.setTop (mkF m 83 #[.val (.int p1), .val (.int p2), .val (.int p3), .val (.int p4), .val (.int p5), .val (.int (4 : Int32)), .val (.ref r210), .val (.ref r212), .val (.ref b216), .val (.long (((0 : Int64) + (p2.toInt64)) + (p3.toInt64))), .second] [(.long (p4.toInt64)), (.long (((0 : Int64) + (p2.toInt64)) + (p3.toInt64)))])) _
      refine XS.ladd X224.here hx rfl (hb hby at_83) rfl ?_
      show Steps p.tables e below (T224.setTop (mkF m 84 #[.val (.int p1), .val (.int p2), .val (.int p3), .val (.int p4), .val (.int p5), .val (.int (4 : Int32)), .val (.ref r210), .val (.ref r212), .val (.ref b216), .val (.long (((0 : Int64) + (p2.toInt64)) + (p3.toInt64))), .second] [(.long ((((0 : Int64) + (p2.toInt64)) + (p3.toInt64)) + (p4.toInt64)))])) _
      refine XS.lstore X224.here hx rfl (hb hby at_84) rfl (l' := #[.val (.int p1), .val (.int p2), .val (.int p3), .val (.int p4), .val (.int p5), .val (.int (4 : Int32)), .val (.ref r210), .val (.ref r212), .val (.ref b216), .val (.long ((((0 : Int64) + (p2.toInt64)) + (p3.toInt64)) + (p4.toInt64))), .second]) rfl ?_
      show Steps p.tables e below (T224.setTop (mkF m 86 #[.val (.int p1), .val (.int p2), .val (.int p3), .val (.int p4), .val (.int p5), .val (.int (4 : Int32)), .val (.ref r210), .val (.ref r212), .val (.ref b216), .val (.long ((((0 : Int64) + (p2.toInt64)) + (p3.toInt64)) + (p4.toInt64))), .second] [])) _
      refine XS.iload X224.here hx rfl (hb hby at_86) rfl ?_
      show Steps p.tables e below (T224.setTop (mkF m 88 #[.val (.int p1), .val (.int p2), .val (.int p3), .val (.int p4), .val (.int p5), .val (.int (4 : Int32)), .val (.ref r210), .val (.ref r212), .val (.ref b216), .val (.long ((((0 : Int64) + (p2.toInt64)) + (p3.toInt64)) + (p4.toInt64))), .second] [(.int (4 : Int32))])) _
      refine XS.iconst X224.here hx rfl (hb hby at_88) ?_
      show Steps p.tables e below (T224.setTop (mkF m 89 #[.val (.int p1), .val (.int p2), .val (.int p3), .val (.int p4), .val (.int p5), .val (.int (4 : Int32)), .val (.ref r210), .val (.ref r212), .val (.ref b216), .val (.long ((((0 : Int64) + (p2.toInt64)) + (p3.toInt64)) + (p4.toInt64))), .second] [(.int (4 : Int32)), (.int (4 : Int32))])) _
      refine XS.icmpNo X224.here hx rfl (hb hby at_89) rfl (flt (by decide : ¬ ((4 : Int32) < (4 : Int32)))).1 ?_
      show Steps p.tables e below (T224.setTop (mkF m 92 #[.val (.int p1), .val (.int p2), .val (.int p3), .val (.int p4), .val (.int p5), .val (.int (4 : Int32)), .val (.ref r210), .val (.ref r212), .val (.ref b216), .val (.long ((((0 : Int64) + (p2.toInt64)) + (p3.toInt64)) + (p4.toInt64))), .second] [])) _
      refine XS.lload X224.here hx rfl (hb hby at_92) rfl ?_
      show Steps p.tables e below (T224.setTop (mkF m 94 #[.val (.int p1), .val (.int p2), .val (.int p3), .val (.int p4), .val (.int p5), .val (.int (4 : Int32)), .val (.ref r210), .val (.ref r212), .val (.ref b216), .val (.long ((((0 : Int64) + (p2.toInt64)) + (p3.toInt64)) + (p4.toInt64))), .second] [(.long ((((0 : Int64) + (p2.toInt64)) + (p3.toInt64)) + (p4.toInt64)))])) _
      refine XS.iload X224.here hx rfl (hb hby at_94) rfl ?_
      show Steps p.tables e below (T224.setTop (mkF m 96 #[.val (.int p1), .val (.int p2), .val (.int p3), .val (.int p4), .val (.int p5), .val (.int (4 : Int32)), .val (.ref r210), .val (.ref r212), .val (.ref b216), .val (.long ((((0 : Int64) + (p2.toInt64)) + (p3.toInt64)) + (p4.toInt64))), .second] [(.int p5), (.long ((((0 : Int64) + (p2.toInt64)) + (p3.toInt64)) + (p4.toInt64)))])) _
      refine XS.i2l X224.here hx rfl (hb hby at_96) rfl ?_
      show Steps p.tables e below (T224.setTop (mkF m 97 #[.val (.int p1), .val (.int p2), .val (.int p3), .val (.int p4), .val (.int p5), .val (.int (4 : Int32)), .val (.ref r210), .val (.ref r212), .val (.ref b216), .val (.long ((((0 : Int64) + (p2.toInt64)) + (p3.toInt64)) + (p4.toInt64))), .second] [(.long (p5.toInt64)), (.long ((((0 : Int64) + (p2.toInt64)) + (p3.toInt64)) + (p4.toInt64)))])) _
      refine XS.ladd X224.here hx rfl (hb hby at_97) rfl ?_
      show Steps p.tables e below (T224.setTop (mkF m 98 #[.val (.int p1), .val (.int p2), .val (.int p3), .val (.int p4), .val (.int p5), .val (.int (4 : Int32)), .val (.ref r210), .val (.ref r212), .val (.ref b216), .val (.long ((((0 : Int64) + (p2.toInt64)) + (p3.toInt64)) + (p4.toInt64))), .second] [(.long (((((0 : Int64) + (p2.toInt64)) + (p3.toInt64)) + (p4.toInt64)) + (p5.toInt64)))])) _
      refine XS.lstore X224.here hx rfl (hb hby at_98) rfl (l' := #[.val (.int p1), .val (.int p2), .val (.int p3), .val (.int p4), .val (.int p5), .val (.int (4 : Int32)), .val (.ref r210), .val (.ref r212), .val (.ref b216), .val (.long (((((0 : Int64) + (p2.toInt64)) + (p3.toInt64)) + (p4.toInt64)) + (p5.toInt64))), .second]) rfl ?_
      show Steps p.tables e below (T224.setTop (mkF m 100 #[.val (.int p1), .val (.int p2), .val (.int p3), .val (.int p4), .val (.int p5), .val (.int (4 : Int32)), .val (.ref r210), .val (.ref r212), .val (.ref b216), .val (.long (((((0 : Int64) + (p2.toInt64)) + (p3.toInt64)) + (p4.toInt64)) + (p5.toInt64))), .second] [])) _
      refine XS.aload X224.here hx rfl (hb hby at_100) rfl rfl ?_
      show Steps p.tables e below (T224.setTop (mkF m 102 #[.val (.int p1), .val (.int p2), .val (.int p3), .val (.int p4), .val (.int p5), .val (.int (4 : Int32)), .val (.ref r210), .val (.ref r212), .val (.ref b216), .val (.long (((((0 : Int64) + (p2.toInt64)) + (p3.toInt64)) + (p4.toInt64)) + (p5.toInt64))), .second] [(.ref b216)])) _
      refine st231.trans ?_
      show Steps p.tables e below (T231.setTop (mkF m 105 #[.val (.int p1), .val (.int p2), .val (.int p3), .val (.int p4), .val (.int p5), .val (.int (4 : Int32)), .val (.ref r210), .val (.ref r212), .val (.ref b216), .val (.long (((((0 : Int64) + (p2.toInt64)) + (p3.toInt64)) + (p4.toInt64)) + (p5.toInt64))), .second] [(.long (((((0 : Int64) + (p2.toInt64)) + (p3.toInt64)) + (p4.toInt64)) + (p5.toInt64)))])) _
      refine XS.lload X231.here hx rfl (hb hby at_105) rfl ?_
      show Steps p.tables e below (T231.setTop (mkF m 107 #[.val (.int p1), .val (.int p2), .val (.int p3), .val (.int p4), .val (.int p5), .val (.int (4 : Int32)), .val (.ref r210), .val (.ref r212), .val (.ref b216), .val (.long (((((0 : Int64) + (p2.toInt64)) + (p3.toInt64)) + (p4.toInt64)) + (p5.toInt64))), .second] [(.long (((((0 : Int64) + (p2.toInt64)) + (p3.toInt64)) + (p4.toInt64)) + (p5.toInt64))), (.long (((((0 : Int64) + (p2.toInt64)) + (p3.toInt64)) + (p4.toInt64)) + (p5.toInt64)))])) _
      refine XS.lcmp X231.here hx rfl (hb hby at_107) rfl ?_
      show Steps p.tables e below (T231.setTop (mkF m 108 #[.val (.int p1), .val (.int p2), .val (.int p3), .val (.int p4), .val (.int p5), .val (.int (4 : Int32)), .val (.ref r210), .val (.ref r212), .val (.ref b216), .val (.long (((((0 : Int64) + (p2.toInt64)) + (p3.toInt64)) + (p4.toInt64)) + (p5.toInt64))), .second] [(.int (lcmpW (((((0 : Int64) + (p2.toInt64)) + (p3.toInt64)) + (p4.toInt64)) + (p5.toInt64)) (((((0 : Int64) + (p2.toInt64)) + (p3.toInt64)) + (p4.toInt64)) + (p5.toInt64))))])) _
      refine XS.ifNo X231.here hx rfl (hb hby at_108) rfl ((if0 _ _).trans (teq ((lw_eq _ _).mpr (rfl : (((((0 : Int64) + (p2.toInt64)) + (p3.toInt64)) + (p4.toInt64)) + (p5.toInt64)) = (((((0 : Int64) + (p2.toInt64)) + (p3.toInt64)) + (p4.toInt64)) + (p5.toInt64))))).2) ?_
      show Steps p.tables e below (T231.setTop (mkF m 111 #[.val (.int p1), .val (.int p2), .val (.int p3), .val (.int p4), .val (.int p5), .val (.int (4 : Int32)), .val (.ref r210), .val (.ref r212), .val (.ref b216), .val (.long (((((0 : Int64) + (p2.toInt64)) + (p3.toInt64)) + (p4.toInt64)) + (p5.toInt64))), .second] [])) _
      refine XS.iconst X231.here hx rfl (hb hby at_111) ?_
      show Steps p.tables e below (T231.setTop (mkF m 112 #[.val (.int p1), .val (.int p2), .val (.int p3), .val (.int p4), .val (.int p5), .val (.int (4 : Int32)), .val (.ref r210), .val (.ref r212), .val (.ref b216), .val (.long (((((0 : Int64) + (p2.toInt64)) + (p3.toInt64)) + (p4.toInt64)) + (p5.toInt64))), .second] [(.int (1 : Int32))])) _
      refine XS.goto X231.here hx rfl (pc0 := 112) (pc' := 116) rfl (hb hby at_112) (by decide) (by decide) ?_
      exact kt)
    exact own_retN X231 hx Bd.notSynchronized (t := .boolean) Bd.returns (by simp) (hb hby at_116) pre232 (show Q0 h0 n0 _ _ _ from ⟨rfl, N231⟩) (by decide) (by decide)
set_option maxRecDepth 65536 in
set_option maxHeartbeats 40000000 in
theorem comes_1 {Post : Tables → Env → Array Value → State → Outcome → State → Prop} (hpost : ∀ tb e args s v u, (limb_1_1.after args s (.returned v) u = true ∧ limb_1_2.after args s (.returned v) u = true ∧ True) → FrameEnd s (.returned v) u (Jvm.fieldLocs frame_1_writes args s ++ Jvm.arrayLocs frame_1_arrays args s ++ Jvm.staticLocs frame_1_statics s) 16 128 → Post tb e args s (.returned v) u) :
    ArmFor flags0 classFile x code maxLocals ret World_1 tables_1 room_1 Calls_1 rest_1 Pre_1 Post := by
  intro l hfl _ _ p e ha hc hk s m args below hf hA hF happ hP
  obtain ⟨hcalls, hrest, hpre⟩ := hP
  obtain ⟨-, -, -, hnamed, -, -, -, hat⟩ := (Spec.applies_iff hf).mp happ
  obtain ⟨hg, hn⟩ := and_e (Cond.before_iff.mp (show (Jvm.Cond.and given_1 narrow_1).before args s = true from hpre))
  obtain ⟨g1a, g1b⟩ := and_e hg
  obtain ⟨g2a, g2b⟩ := and_e g1b
  obtain ⟨g3a, g3b⟩ := and_e g2b
  obtain ⟨g4a, g4b⟩ := and_e g3b
  obtain ⟨g5a, g5b⟩ := and_e g4b
  obtain ⟨w0, w1, w2, w3, w4, rfl⟩ : ∃ w0 w1 w2 w3 w4 : Value, args = #[w0, w1, w2, w3, w4] := by
    have hs : args.size = 5 := by simpa [Cond.value, given_1] using g1a
    obtain ⟨L⟩ := args
    match L, hs with
    | [w0, w1, w2, w3, w4], _ => exact ⟨w0, w1, w2, w3, w4, rfl⟩
  have hw := fun d (hd : d ∈ tables_1) => atoms_spec (ws := Jvm.Cond.code x code maxLocals ret :: tables_1) hat d (List.mem_cons_of_mem _ hd)
  have hfit : Fit s := fun {y c} hc i hi => by
    obtain ⟨ha, rfl⟩ := Array.getElem?_eq_some_iff.mp hc
    have q := List.all_eq_true.mp ((Array.all_eq_true_iff_forall_mem.mp hF) _ (Array.getElem_mem ha)) i (List.mem_range.mpr hi)
    simpa [Array.getElem?_eq_getElem hi] using q
  obtain ⟨i0, ei0⟩ := is_v g2a
  obtain rfl : w0 = (.int i0) := Option.some.inj ei0
  obtain ⟨i1, ei1⟩ := is_v g3a
  obtain rfl : w1 = (.int i1) := Option.some.inj ei1
  obtain ⟨i2, ei2⟩ := is_v g4a
  obtain rfl : w2 = (.int i2) := Option.some.inj ei2
  obtain ⟨i3, ei3⟩ := is_v g5a
  obtain rfl : w3 = (.int i3) := Option.some.inj ei3
  obtain ⟨i4, ei4⟩ := is_v g5b
  obtain rfl : w4 = (.int i4) := Option.some.inj ei4
  obtain ⟨n, o, h1, h2, h3, _, L, rfl, ⟨rfl, N⟩, hq⟩ := rm0 l s _ hw tables_1 i0 i1 i2 i3 i4 s.heap s.heap.size (Nat.le_refl _) p e ha hc hk s m _ below hf ((Spec.applies_iff_loose hf).mp happ).1 ⟨rfl, State.Warmed39.refl s, rfl⟩ trivial
  refine ⟨n, _, h1, h2, h3, hpost _ _ _ _ _ _ ⟨Cond.after_iff.mpr rfl, Cond.after_iff.mpr (eq_i res_at (Term.int_eval (1)) rfl), trivial⟩ ⟨hq.1, hq.2.1, (hq.2.2.sift fun y hy => Or.inr (N y hy)).mono (by decide) (by decide)⟩⟩
theorem main_1_1 : Claimed_1_1 := comes_1 fun _ _ _ _ _ _ h hF => ⟨h.1, hF⟩
theorem main_1_2 : Claimed_1_2 := comes_1 fun _ _ _ _ _ _ h hF => ⟨h.2.1, hF⟩
end Jvm.Pilot.@@N@@
namespace Jvm.Pilot.@@N@@
open Jvm Jvm.ClassFile Sem Op Lib Jvm.Free Jvm.Stand Jvm.Pilot.@@N@@.Jvm.D
/-! MADE BY PROGRAM (witnessworld.py) out of the Statement's table words and the real class files: 9 classes; the members and pool entries that the words name. The judged class is class 1, her method 2. -/
namespace start1
open Jvm.ClassFile
def u (s : String) : CpInfo := .utf8 (stringToUtf16 s)
/-- a pool by its gaps: so many unusable entries, then the entry; so many at the end -/
def gap : Nat → List CpInfo → List CpInfo
  | 0, r => r
  | n + 1, r => .unusable :: gap n r
def poolList (es : List (Nat × CpInfo)) (last : Nat) : List CpInfo := es.foldr (fun e r => gap e.1 (e.2 :: r)) (gap last [])
def pool (es : List (Nat × CpInfo)) (last : Nat) : Array CpInfo := ⟨poolList es last⟩
def fileOf (pool : Array CpInfo) (this : Nat) (attrs : Array Attribute := #[]) (ms : Array MethodInfo := #[]) (fl : Nat := 33) (sup : Nat := 0) (ifs : Array Nat := #[]) (fds : Array FieldInfo := #[]) : ClassFile where
  minorVersion := 0
  majorVersion := 65
  constantPool := pool
  accessFlags := fl
  thisClass := this
  superClass := sup
  interfaces := ifs
  fields := fds
  methods := ms
  attributes := attrs
def plain (name : String) (sup : Option ClassId) : Class where
  name := name
  kind := .ordinary
  loader := none
  accessFlags := 33
  super := sup
  interfaces := #[]
  cf := none
  fields := #[]
  methods := #[]
  instanceTypes := #[]
  staticTypes := #[]
  resolved := #[]
  callSites := []
  init := .initialized
  statics := none
  mirror := none

def pool0 : Array CpInfo := pool [(5, u "<init>"), (0, u "()V"), (1, .class_ 10), (1, u "java/lang/Object")] 113

def k0c0 : Code := { maxStack := 0, maxLocals := 1, code := object_method_1_code, exceptionTable := #[], attributes := #[] }
def k0m0 : Method := { name := "<init>", desc := "()V", sig := { parameters := [], returnType := none }, accessFlags := 1, code := some k0c0 }
/-- java/lang/Object -/
def k0 : Class := { plain "java/lang/Object" none with
  accessFlags := 33
  interfaces := #[]
  cf := some (fileOf pool0 8 #[] #[{ accessFlags := 1, nameIndex := 5, descriptorIndex := 6, attributes := #[] }] 33 0 #[] #[])
  fields := #[]
  methods := #[k0m0]
  instanceTypes := #[]
  staticTypes := #[]
  resolved := Array.replicate 124 none
  statics := none }

def pool1 : Array CpInfo := pool [(2, .class_ 4), (1, u "java/lang/Object"), (0, u "<init>"), (0, u "()V"), (0, .methodref 8 9), (0, .class_ 10), (0, .nameAndType 11 12), (0, u "com/example/avocet/avocet/index/PostingsOccurrencesPinLaw"), (0, u "pick"), (0, u "(IIIII)[I"), (0, .class_ 14), (0, u "com/example/avocet/avocet/index/Postings"), (0, .methodref 13 16), (0, .nameAndType 5 17), (0, u "([I[I)V"), (0, .methodref 13 19), (0, .nameAndType 20 21), (0, u "occurrences"), (0, u "()J"), (3, u "law"), (0, u "(IIIII)Z")] 4

def k1m0 : Method := { name := "<init>", desc := "()V", sig := { parameters := [], returnType := none }, accessFlags := 1, code := none }
def k1c1 : Code := { maxStack := 4, maxLocals := 5, code := method_2_code, exceptionTable := #[], attributes := #[] }
def k1m1 : Method := { name := "pick", desc := "(IIIII)[I", sig := { parameters := [.int, .int, .int, .int, .int], returnType := some (.array .int) }, accessFlags := 10, code := some k1c1 }
def k1c2 : Code := { maxStack := 5, maxLocals := 11, code := code, exceptionTable := #[], attributes := #[] }
def k1m2 : Method := { name := "law", desc := "(IIIII)Z", sig := { parameters := [.int, .int, .int, .int, .int], returnType := some .boolean }, accessFlags := 9, code := some k1c2 }
/-- com/example/avocet/avocet/index/PostingsOccurrencesPinLaw -/
def k1 : Class := { plain "com/example/avocet/avocet/index/PostingsOccurrencesPinLaw" (some 0) with
  accessFlags := 49
  interfaces := #[]
  cf := some (fileOf pool1 8 #[] #[{ accessFlags := 1, nameIndex := 5, descriptorIndex := 6, attributes := #[] }, { accessFlags := 10, nameIndex := 11, descriptorIndex := 12, attributes := #[] }, { accessFlags := 9, nameIndex := 25, descriptorIndex := 26, attributes := #[] }] 49 2 #[] #[])
  fields := #[]
  methods := #[k1m0, k1m1, k1m2]
  instanceTypes := #[]
  staticTypes := #[]
  resolved := Array.replicate 31 none
  statics := none }

def pool2 : Array CpInfo := pool [(1, .methodref 2 3), (0, .class_ 4), (0, .nameAndType 5 6), (0, u "java/lang/Object"), (0, u "<init>"), (0, u "()V"), (0, .fieldref 8 9), (0, .class_ 10), (0, .nameAndType 11 12), (0, u "com/example/avocet/avocet/index/Postings"), (0, u "documents"), (0, u "[I"), (0, .fieldref 8 14), (0, .nameAndType 15 12), (0, u "frequencies"), (0, u "([I[I)V"), (4, u "occurrences"), (0, u "()J")] 7

def k2c0 : Code := { maxStack := 2, maxLocals := 3, code := prog_34_method_1_code, exceptionTable := #[], attributes := #[] }
def k2m0 : Method := { name := "<init>", desc := "([I[I)V", sig := { parameters := [(.array .int), (.array .int)], returnType := none }, accessFlags := 0, code := some k2c0 }
def k2c1 : Code := { maxStack := 4, maxLocals := 7, code := prog_34_method_3_code, exceptionTable := #[], attributes := #[] }
def k2m1 : Method := { name := "occurrences", desc := "()J", sig := { parameters := [], returnType := some .long }, accessFlags := 1, code := some k2c1 }
/-- com/example/avocet/avocet/index/Postings -/
def k2 : Class := { plain "com/example/avocet/avocet/index/Postings" (some 0) with
  accessFlags := 49
  interfaces := #[]
  cf := some (fileOf pool2 8 #[] #[{ accessFlags := 0, nameIndex := 5, descriptorIndex := 16, attributes := #[] }, { accessFlags := 1, nameIndex := 21, descriptorIndex := 22, attributes := #[] }] 49 2 #[] #[{ accessFlags := 18, nameIndex := 11, descriptorIndex := 12, attributes := #[] }, { accessFlags := 18, nameIndex := 15, descriptorIndex := 12, attributes := #[] }])
  fields := #[{ name := "documents", type := (.array .int), accessFlags := 18, slot := 0, constantValue := 0 }, { name := "frequencies", type := (.array .int), accessFlags := 18, slot := 1, constantValue := 0 }]
  methods := #[k2m0, k2m1]
  instanceTypes := #[(.array .int), (.array .int)]
  staticTypes := #[]
  resolved := Array.replicate 30 none
  statics := none }

def pool3 : Array CpInfo := pool [(1, u "java/lang/Cloneable"), (0, .class_ 1), (0, u "java/lang/Object"), (0, .class_ 3)] 3

/-- java/lang/Cloneable -/
def k3 : Class := { plain "java/lang/Cloneable" (some 0) with
  accessFlags := 1537
  interfaces := #[]
  cf := some (fileOf pool3 2 #[] #[] 1537 4 #[] #[])
  fields := #[]
  methods := #[]
  instanceTypes := #[]
  staticTypes := #[]
  resolved := Array.replicate 8 none
  statics := none }

def pool4 : Array CpInfo := pool [(1, u "java/io/Serializable"), (0, .class_ 1), (0, u "java/lang/Object"), (0, .class_ 3)] 3

/-- java/io/Serializable -/
def k4 : Class := { plain "java/io/Serializable" (some 0) with
  accessFlags := 1537
  interfaces := #[]
  cf := some (fileOf pool4 2 #[] #[] 1537 4 #[] #[])
  fields := #[]
  methods := #[]
  instanceTypes := #[]
  staticTypes := #[]
  resolved := Array.replicate 8 none
  statics := none }

/-- the primitive byte -/
def k5 : Class := { plain "byte" none with kind := .primitive 'B', accessFlags := 0x411 }
/-- [B -/
def k6 : Class := { plain "[B" (some 0) with kind := .array 5 .byte, interfaces := #[3, 4], accessFlags := 1041 }

/-- the primitive int -/
def k7 : Class := { plain "int" none with kind := .primitive 'I', accessFlags := 0x411 }
/-- [I -/
def k8 : Class := { plain "[I" (some 0) with kind := .array 7 .int, interfaces := #[3, 4], accessFlags := 1041 }

def heap : Heap := #[]
def classes : Array Class := #[k0, k1, k2, k3, k4, k5, k6, k7, k8]
def interned : List (Array UInt16 × Addr) := []
def slotsUsed : Nat := 0
def theMethod : MethodId := ⟨1, 2⟩
def args0 : Array Value := #[.int 3, .int 1, .int 2, .int 3, .int 4]
def aboutOver (below : List Frame) : State where
  vm := { classes := classes, interned := interned.toArray }
  heap := heap
  slotsUsed := slotsUsed
  threads := #[{ frames := .invoking theMethod args0 :: below }]
def below0 : List Frame := [.native { method := ⟨0, 0⟩, args := #[] }]
def about1 : State := aboutOver below0
def p0 : Program := .bare "" "" ""
def e0 : Env := launch0.env 0 0 0
theorem w_frames : about1.frames = Frame.invoking theMethod args0 :: below0 := rfl
set_option maxRecDepth 65536 in
theorem w_args : argsFit about1.vm theMethod args0 = true := by decide +kernel
set_option maxRecDepth 65536 in
theorem w_heap : heapFits about1 = true := by decide +kernel
set_option maxRecDepth 65536 in
theorem w_runnable : about1.curStatus? = some .runnable := by decide +kernel
set_option maxRecDepth 65536 in
theorem w_alone : about1.alone = true := by decide +kernel
set_option maxRecDepth 65536 in
theorem w_named : about1.methodNamed? x = some theMethod := by decide +kernel
set_option maxRecDepth 65536 in
theorem w_hears : about1.hears theMethod below0 = true := by decide +kernel
set_option maxRecDepth 65536 in
theorem w_ripe : about1.ripe theMethod args0 below0 = true := by decide +kernel
theorem w_running : about1.status = .running := rfl
set_option maxRecDepth 65536 in
theorem w_room : about1.hasRoom e0.platform room_1 = true :=
  launch0.hasRoom_least _ room_1 (by decide +kernel) (by decide +kernel) (by decide +kernel) (by decide +kernel) (by decide +kernel) (by decide +kernel)
theorem allAtoms_all (ts : List Jvm.Cond) (a : Array Jvm.Value) (st : Jvm.State) : (allAtoms ts).before a st = ts.all (fun c => c.before a st) := by
  induction ts with
  | nil => rfl
  | cons c t ih =>
    show (Jvm.Cond.and c (allAtoms t)).before a st = _
    rw [Jvm.Cond.before_and, ih, List.all_cons]
def words1 : List Jvm.Cond := Jvm.Cond.code x code maxLocals ret :: tables_1
/-- a 'code' word, met by the world's own term for the bytes: nothing is compared byte by byte -/
theorem code_word {y : MethodName} {bytes : ByteArray} {mx : Nat} {rt : Option FieldType} {a : Array Value} {s : State} {m : MethodId} {meth : Method} {c : Code} (h1 : s.methodNamed? y = some m) (h2 : s.vm.method? m = some meth) (h3 : meth.code = some c) (h4 : c.code = bytes)
    (h5 : (c.maxLocals == mx && c.exceptionTable.isEmpty && decide (c.maxStack ≤ mostOperands) && decide (meth.sig.returnType = rt) && !meth.locks && decide (parseMethodDescriptor y.desc = some meth.sig)) = true) : (Jvm.Cond.code y bytes mx rt).before a s = true := by
  simp only [Bool.and_eq_true, beq_iff_eq, Bool.not_eq_true', decide_eq_true_eq] at h5
  obtain ⟨⟨⟨⟨⟨g1, g2⟩, g3⟩, g4⟩, g5⟩, g6⟩ := h5
  simp [Cond.before, Cond.holds, Cond.value, h1, h2, h3, h4, g1, g2, g3, g4, g5, g6]
def isCode : Jvm.Cond → Bool
  | .code _ _ _ _ => true
  | _ => false
theorem all_split {L : List Jvm.Cond} {P : Jvm.Cond → Bool} (h1 : L.all (fun c => isCode c || P c) = true) (h2 : ∀ c ∈ L.filter isCode, P c = true) : L.all P = true := by
  refine List.all_eq_true.mpr fun c hc => ?_
  have h := List.all_eq_true.mp h1 c hc
  rcases Bool.eq_false_or_eq_true (isCode c) with hi | hi
  · exact h2 c (List.mem_filter.mpr ⟨hc, hi⟩)
  · simpa [hi] using h
set_option maxRecDepth 65536 in
theorem w_c0 : (Jvm.Cond.code x code maxLocals ret).before args0 about1 = true := code_word (m := ⟨1, 2⟩) (meth := k1m2) (c := k1c2) (by decide +kernel) rfl rfl rfl (by decide +kernel)
set_option maxRecDepth 65536 in
theorem w_c1 : (Jvm.Cond.code ({ cls := "com/example/avocet/avocet/index/PostingsOccurrencesPinLaw", name := "pick", desc := "(IIIII)[I" } : Jvm.MethodName) method_2_code (5 : Nat) (Option.some (Jvm.ClassFile.FieldType.array Jvm.ClassFile.FieldType.int))).before args0 about1 = true := code_word (m := ⟨1, 1⟩) (meth := k1m1) (c := k1c1) (by decide +kernel) rfl rfl rfl (by decide +kernel)
set_option maxRecDepth 65536 in
theorem w_c2 : (Jvm.Cond.code ({ cls := "com/example/avocet/avocet/index/Postings", name := "<init>", desc := "([I[I)V" } : Jvm.MethodName) prog_34_method_1_code (3 : Nat) (Option.none : Option Jvm.ClassFile.FieldType)).before args0 about1 = true := code_word (m := ⟨2, 0⟩) (meth := k2m0) (c := k2c0) (by decide +kernel) rfl rfl rfl (by decide +kernel)
set_option maxRecDepth 65536 in
theorem w_c3 : (Jvm.Cond.code ({ cls := "java/lang/Object", name := "<init>", desc := "()V" } : Jvm.MethodName) object_method_1_code (1 : Nat) (Option.none : Option Jvm.ClassFile.FieldType)).before args0 about1 = true := code_word (m := ⟨0, 0⟩) (meth := k0m0) (c := k0c0) (by decide +kernel) rfl rfl rfl (by decide +kernel)
set_option maxRecDepth 65536 in
theorem w_c4 : (Jvm.Cond.code ({ cls := "com/example/avocet/avocet/index/Postings", name := "occurrences", desc := "()J" } : Jvm.MethodName) prog_34_method_3_code (7 : Nat) (Option.some Jvm.ClassFile.FieldType.long)).before args0 about1 = true := code_word (m := ⟨2, 1⟩) (meth := k2m1) (c := k2c1) (by decide +kernel) rfl rfl rfl (by decide +kernel)
def codes1 : List Jvm.Cond := [Jvm.Cond.code x code maxLocals ret, Jvm.Cond.code ({ cls := "com/example/avocet/avocet/index/PostingsOccurrencesPinLaw", name := "pick", desc := "(IIIII)[I" } : Jvm.MethodName) method_2_code (5 : Nat) (Option.some (Jvm.ClassFile.FieldType.array Jvm.ClassFile.FieldType.int)), Jvm.Cond.code ({ cls := "com/example/avocet/avocet/index/Postings", name := "<init>", desc := "([I[I)V" } : Jvm.MethodName) prog_34_method_1_code (3 : Nat) (Option.none : Option Jvm.ClassFile.FieldType), Jvm.Cond.code ({ cls := "java/lang/Object", name := "<init>", desc := "()V" } : Jvm.MethodName) object_method_1_code (1 : Nat) (Option.none : Option Jvm.ClassFile.FieldType), Jvm.Cond.code ({ cls := "com/example/avocet/avocet/index/Postings", name := "occurrences", desc := "()J" } : Jvm.MethodName) prog_34_method_3_code (7 : Nat) (Option.some Jvm.ClassFile.FieldType.long)]
set_option maxRecDepth 65536 in
theorem codes_eq : words1.filter isCode = codes1 := rfl
theorem w_codes : ∀ c ∈ words1.filter isCode, c.before args0 about1 = true := by
  rw [codes_eq]
  intro c hc
  simp only [codes1, List.mem_cons, List.not_mem_nil, or_false] at hc
  rcases hc with rfl | rfl | rfl | rfl | rfl
  · exact w_c0
  · exact w_c1
  · exact w_c2
  · exact w_c3
  · exact w_c4
set_option maxRecDepth 65536 in
theorem w_t1 : words1.all (fun c => isCode c || c.before args0 about1) = true := by decide +kernel
theorem w_tables : (allAtoms (Jvm.Cond.code x code maxLocals ret :: tables_1)).before args0 about1 = true := by
  rw [allAtoms_all]
  show words1.all (fun c => c.before args0 about1) = true
  refine all_split ?_ w_codes
  rw [w_t1]
set_option maxRecDepth 65536 in
theorem w_case : (Jvm.Cond.and given_1 narrow_1).before args0 about1 = true := by decide +kernel
theorem w_applies : (headSpec (Jvm.Cond.code x code maxLocals ret :: tables_1) room_1).applies x e0.platform about1 = true :=
  (Spec.applies_iff w_frames).mpr ⟨w_running, w_runnable, w_alone, w_named, w_hears, w_ripe, w_room, w_tables⟩
theorem atStart : AtStart classFile x code maxLocals ret World_1 tables_1 room_1 Calls_1 rest_1 Pre_1 launch0 p0 e0 about1 theMethod args0 below0 :=
  ⟨lists_1, trivial, launch0.admits_env _ _ _, launch0.least_env, fairChoices_fair.cas, fairChoices_fair.clock, w_frames, w_args, w_heap, w_applies, trivial, trivial, w_case⟩
end start1
theorem witness_1 : WitnessClaimed_1 := ⟨start1.p0, start1.e0, start1.about1, start1.theMethod, start1.args0, start1.below0, start1.atStart⟩
end Jvm.Pilot.@@N@@
