import JvmDerived
import JvmDerived.Pilot.@@N@@Statement
import JvmDerived.Pilot.@@N@@Code
set_option linter.unusedVariables false
set_option linter.unusedSimpArgs false
@@BLOCK:NumsL.lean.txt@@
namespace Jvm.Pilot.@@N@@
open Jvm Jvm.ClassFile Sem Op Lib Jvm.Free Jvm.Stand Jvm.LawKit Jvm.RoadKit Bundle Jvm.Pilot.@@N@@.Jvm.D
section Own
variable {p : Program} {l : Launch} {e : Env} {R : Room} {s : State} {m : MethodId} {args : Array Value} {below : List Frame} {meth : Method} {c : Code} {T : State} {locs : List Loc} {cells slots : Nat}
theorem own_ireturn (X : Stand p l e R s m args below meth c T locs cells slots) (hx : p.tables.exec = Jvm.exec) {pc : Nat} {Ls : Array Slot} {z : Int32} {rest : List Value} (hret : meth.sig.returnType = some .int) (hd : decode c.code pc = .ok (.ireturn, 1)) {fs : List Frame}
    (hl : ∀ (f : JFrame) (acts : List Action), f.method = m → f.locked = none → f.entered = [] → (doReturn e (T.setTop f) acts (some (.int z))).1 = T.setFrames fs) : Steps p.tables e below (T.setTop (mkF m pc Ls (.int z :: rest))) (T.setFrames fs) := by
  have hm' : T.vm.method? m = some meth := X.method'
  have hn : narrow .int (.int z) = .int z := rfl
  show Steps p.tables e below (T.setTop { method := m, pc := pc, locals := Ls, stack := _ :: rest, locked := none }) _
  jvm_step X.here [X.here.top, hx, hd, hm', hret, hn]
  first | (intro acts; rw [hl _ acts rfl rfl rfl]) | rw [hl _ _ rfl rfl rfl]
  exact Steps.refl _
theorem own_more (X : Stand p l e R s m args below meth c T locs cells slots) {k n : Nat} (h1 : cells ≤ k) (h2 : slots ≤ n) : Stand p l e R s m args below meth c T locs k n := { X with same := X.same.mono h1 h2 }
theorem own_retV (X : Stand p l e R s m args below meth c T locs cells slots) (hx : p.tables.exec = Jvm.exec) (hlk : meth.locks = false) (hret : meth.sig.returnType = none) {pc : Nat} {Ls : Array Slot} (hd : decode c.code pc = .ok (.return_, 1)) {base : State}
    (pre : ∀ t, Steps p.tables e below (T.setTop (mkF m pc Ls [])) t → Steps p.tables e below base t) {Q : Option Value → Heap → List Loc → Prop} (hQ : Q none T.heap locs) {k n : Nat} (h1 : cells ≤ k) (h2 : slots ≤ n) :
    ∃ s₂ o, Steps p.tables e below base s₂ ∧ s₂.status = .running ∧ Ended s₂ below o ∧ ∃ v L, o = .returned v ∧ Q v s₂.heap L ∧ FrameEnd s o s₂ L k n := by
  obtain ⟨fs, hr, hrun, hended, hW, hsame⟩ := X.leave (v := none) (fun _ => rfl)
  exact ⟨_, _, pre _ (X.returnOut hx hret hd hr), hrun, hended, _, _, rfl, hQ, ⟨_, rfl⟩, hW, hsame.mono h1 h2⟩
theorem own_retI (X : Stand p l e R s m args below meth c T locs cells slots) (hx : p.tables.exec = Jvm.exec) (hlk : meth.locks = false) (hret : meth.sig.returnType = some .int) {pc : Nat} {Ls : Array Slot} {z : Int32} {rest : List Value} (hd : decode c.code pc = .ok (.ireturn, 1)) {base : State}
    (pre : ∀ t, Steps p.tables e below (T.setTop (mkF m pc Ls (.int z :: rest))) t → Steps p.tables e below base t) {Q : Option Value → Heap → List Loc → Prop} (hQ : Q (some (.int z)) T.heap locs) {k n : Nat} (h1 : cells ≤ k) (h2 : slots ≤ n) :
    ∃ s₂ o, Steps p.tables e below base s₂ ∧ s₂.status = .running ∧ Ended s₂ below o ∧ ∃ v L, o = .returned v ∧ Q v s₂.heap L ∧ FrameEnd s o s₂ L k n := by
  obtain ⟨fs, hr, hrun, hended, hW, hsame⟩ := X.leave (v := some (.int z)) (fun h => by rw [hret] at h; cases h)
  exact ⟨_, _, pre _ (own_ireturn X hx hret hd hr), hrun, hended, _, _, rfl, hQ, ⟨_, rfl⟩, hW, hsame.mono h1 h2⟩
theorem own_retN (X : Stand p l e R s m args below meth c T locs cells slots) (hx : p.tables.exec = Jvm.exec) (hlk : meth.locks = false) {t : FieldType} (hret : meth.sig.returnType = some t) (ht : t = .boolean ∨ t = .byte ∨ t = .char ∨ t = .short) {pc : Nat} {Ls : Array Slot} {z : Int32} {rest : List Value} (hd : decode c.code pc = .ok (.ireturn, 1)) {base : State}
    (pre : ∀ t, Steps p.tables e below (T.setTop (mkF m pc Ls (.int z :: rest))) t → Steps p.tables e below base t) {Q : Option Value → Heap → List Loc → Prop} (hQ : Q (some (.int (nar t z))) T.heap locs) {k n : Nat} (h1 : cells ≤ k) (h2 : slots ≤ n) :
    ∃ s₂ o, Steps p.tables e below base s₂ ∧ s₂.status = .running ∧ Ended s₂ below o ∧ ∃ v L, o = .returned v ∧ Q v s₂.heap L ∧ FrameEnd s o s₂ L k n := by
  obtain ⟨fs, hr, hrun, hended, hW, hsame⟩ := X.leave (v := some (.int (nar t z))) (fun h => by rw [hret] at h; cases h)
  exact ⟨_, _, pre _ (retN X hx hret ht hd hr), hrun, hended, _, _, rfl, hQ, ⟨_, rfl⟩, hW, hsame.mono h1 h2⟩
theorem own_retJ (X : Stand p l e R s m args below meth c T locs cells slots) (hx : p.tables.exec = Jvm.exec) (hlk : meth.locks = false) (hret : meth.sig.returnType = some .long) {pc : Nat} {Ls : Array Slot} {z : Int64} (hd : decode c.code pc = .ok (.lreturn, 1)) {base : State}
    (pre : ∀ t, Steps p.tables e below (T.setTop (mkF m pc Ls [.long z])) t → Steps p.tables e below base t) {Q : Option Value → Heap → List Loc → Prop} (hQ : Q (some (.long z)) T.heap locs) {k n : Nat} (h1 : cells ≤ k) (h2 : slots ≤ n) :
    ∃ s₂ o, Steps p.tables e below base s₂ ∧ s₂.status = .running ∧ Ended s₂ below o ∧ ∃ v L, o = .returned v ∧ Q v s₂.heap L ∧ FrameEnd s o s₂ L k n := by
  obtain ⟨fs, hr, hrun, hended, hW, hsame⟩ := X.leave (v := some (.long z)) (fun h => by rw [hret] at h; cases h)
  exact ⟨_, _, pre _ (X.lreturnOut hx hret hd hr), hrun, hended, _, _, rfl, hQ, ⟨_, rfl⟩, hW, hsame.mono h1 h2⟩
theorem own_retA (X : Stand p l e R s m args below meth c T locs cells slots) (hx : p.tables.exec = Jvm.exec) (hlk : meth.locks = false) {w : Value} {t : FieldType} (hw : w.isRef = true) (hret : meth.sig.returnType = some t) (ht : t.isReference = true) {pc : Nat} {Ls : Array Slot} (hd : decode c.code pc = .ok (.areturn, 1)) {base : State}
    (pre : ∀ t, Steps p.tables e below (T.setTop (mkF m pc Ls [w])) t → Steps p.tables e below base t) {Q : Option Value → Heap → List Loc → Prop} (hQ : Q (some w) T.heap locs) {k n : Nat} (h1 : cells ≤ k) (h2 : slots ≤ n) :
    ∃ s₂ o, Steps p.tables e below base s₂ ∧ s₂.status = .running ∧ Ended s₂ below o ∧ ∃ v L, o = .returned v ∧ Q v s₂.heap L ∧ FrameEnd s o s₂ L k n := by
  obtain ⟨fs, hr, hrun, hended, hW, hsame⟩ := X.leave (v := some w) (fun h => by rw [hret] at h; cases h)
  exact ⟨_, _, pre _ (X.areturnOut hx hw hret ht hd hr), hrun, hended, _, _, rfl, hQ, ⟨_, rfl⟩, hW, hsame.mono h1 h2⟩
end Own
theorem own_bool {z : Int32} (h : z = 0 ∨ z = 1) : nar .boolean z = z := by rcases h with rfl | rfl <;> rfl

theorem own_ns_root {Z : State} {a0 : Array Value} {O K : String} {n : Nat} (w : (Jvm.Cond.noSuperclass O).before a0 Z = true) (wk : (Jvm.Cond.instantiable K n).before a0 Z = true) (hn : O ≠ K) : NS Z O K := by
  obtain ⟨t, k, g1, -⟩ := Cond.instantiable_spec wk
  have w' := w
  simp only [Cond.before, Cond.holds, Cond.value] at w'
  cases hc : Z.vm.findClass O with
  | none => simp [hc] at w'
  | some c =>
    cases hk : Z.vm.classes[c]? with
    | none => simp [hc, hk] at w'
    | some kc =>
      simp [hc, hk] at w'
      have ne := ids_ne hc g1 hn
      refine ⟨c, t, hc, g1, fun fuel => ?_⟩
      cases fuel with
      | zero => rfl
      | succ f => simp [Vm.isSubclassAux, ne, hk, w'.1]
theorem own_ns_no {Z : State} {a0 : Array Value} {C S K : String} {n : Nat} (w : (Jvm.Cond.superclass C S).before a0 Z = true) (wk : (Jvm.Cond.instantiable K n).before a0 Z = true) (N : NS Z C K) (hn : C ≠ K) : ∃ c t, Z.vm.findClass C = some c ∧ Z.vm.findClass K = some t ∧ Z.vm.assignable c t = false := by
  obtain ⟨c, t, h0, g0, n3⟩ := N
  obtain ⟨p, k, kp, h1, h2, h3, h4, h5, -, h7⟩ := Cond.superclass_spec h0 w
  obtain ⟨t', k', g1, g2, g3, g4, -⟩ := Cond.instantiable_spec wk
  cases g0.symm.trans g1
  have ne := ids_ne h0 g0 hn
  have gi : k'.isInterface = false := by cases q : k'.isInterface <;> simp [q] at g4 ⊢
  refine ⟨c, t, h0, g0, ?_⟩
  show Z.vm.assignableAux (255 + 1) c t = false
  simp [Vm.assignableAux, ne, h2, g2, h5, g3, gi, Vm.isSubclass, n3]

theorem ef_0 (m : MethodId) (x0 : Addr) (x1 : Int32) (x2 : Int32) (x3 : Int64) (x4 : Int32) : entryFrame m #[(.ref x0), (.int x1), (.int x2), (.long x3), (.int x4)] 6 = mkF m 0 #[.val (.ref x0), .val (.int x1), .val (.int x2), .val (.long x3), .second, .val (.int x4)] [] := by first | (simp [entryFrame, mkF, argsToLocals, Value.category]; done) | rfl
theorem pn_1 : plainName "com/example/avocet/avocet/index/IndexStats" = true := by first | (simp [plainName, overriddenIn]; done) | decide +kernel
theorem d1_0 : decode prog_29_method_2_code 0 = .ok (.aload_n 0, 1) := by decide +kernel
theorem d1_1 : decode prog_29_method_2_code 1 = .ok (.invokespecial 7, 3) := by decide +kernel
theorem d1_4 : decode prog_29_method_2_code 4 = .ok (.aload_n 0, 1) := by decide +kernel
theorem d1_5 : decode prog_29_method_2_code 5 = .ok (.iload_n 1, 1) := by decide +kernel
theorem d1_6 : decode prog_29_method_2_code 6 = .ok (.putfield 12, 3) := by decide +kernel
theorem d1_9 : decode prog_29_method_2_code 9 = .ok (.aload_n 0, 1) := by decide +kernel
theorem d1_10 : decode prog_29_method_2_code 10 = .ok (.iload_n 2, 1) := by decide +kernel
theorem d1_11 : decode prog_29_method_2_code 11 = .ok (.putfield 16, 3) := by decide +kernel
theorem d1_14 : decode prog_29_method_2_code 14 = .ok (.aload_n 0, 1) := by decide +kernel
theorem d1_15 : decode prog_29_method_2_code 15 = .ok (.lload_n 3, 1) := by decide +kernel
theorem d1_16 : decode prog_29_method_2_code 16 = .ok (.putfield 19, 3) := by decide +kernel
theorem d1_19 : decode prog_29_method_2_code 19 = .ok (.aload_n 0, 1) := by decide +kernel
theorem d1_20 : decode prog_29_method_2_code 20 = .ok (.iload 5, 2) := by decide +kernel
theorem d1_22 : decode prog_29_method_2_code 22 = .ok (.putfield 23, 3) := by decide +kernel
theorem d1_25 : decode prog_29_method_2_code 25 = .ok (.return_, 1) := by decide +kernel
def Q1 (Z : State) (a1 : Addr) (p2 p3 : Int32) (q4 : Int64) (p5 : Int32) (h0 : Heap) (n0 : Nat) (v : Option Value) (h : Heap) (L : List Loc) : Prop := v = none ∧ Fr n0 L ∧ Keep h0 h [a1] ∧ Fld Z h a1 "com/example/avocet/avocet/index/IndexStats" "documents" "I" (.int p2) ∧ Fld Z h a1 "com/example/avocet/avocet/index/IndexStats" "terms" "I" (.int p3) ∧ Fld Z h a1 "com/example/avocet/avocet/index/IndexStats" "tokens" "J" (.long q4) ∧ Fld Z h a1 "com/example/avocet/avocet/index/IndexStats" "pairs" "I" (.int p5)
set_option maxRecDepth 65536 in
set_option maxHeartbeats 40000000 in
theorem rm1 (l : Launch) (Z : State) (a0 : Array Value) (hw : ∀ d ∈ tables_1, d.before a0 Z = true) (ws : List Jvm.Cond) (a1 : Addr) (p2 p3 : Int32) (q4 : Int64) (p5 : Int32) (h0 : Heap) (n0 : Nat) (Z0 : n0 ≤ h0.size) (E1 : Exa Z h0 a1 "com/example/avocet/avocet/index/IndexStats") (F0 : Fld Z h0 a1 "com/example/avocet/avocet/index/IndexStats" "documents" "I" (.int (0 : Int32))) (F1 : Fld Z h0 a1 "com/example/avocet/avocet/index/IndexStats" "terms" "I" (.int (0 : Int32))) (F2 : Fld Z h0 a1 "com/example/avocet/avocet/index/IndexStats" "tokens" "J" (.long (0 : Int64))) (F3 : Fld Z h0 a1 "com/example/avocet/avocet/index/IndexStats" "pairs" "I" (.int (0 : Int32))) (G1 : n0 ≤ a1) :
    MetFree l (⟨"com/example/avocet/avocet/index/IndexStats", "<init>", "(IIJI)V"⟩ : MethodName) (head1 (Jvm.Cond.code (⟨"com/example/avocet/avocet/index/IndexStats", "<init>", "(IIJI)V"⟩ : MethodName) prog_29_method_2_code 6 none :: ws) ({ frames := 1, cells := 0, slots := 0, locals := 12 } : Room)) (fun a U => a = #[(.ref a1), (.int p2), (.int p3), (.long q4), (.int p5)] ∧ Z.Warmed39 U.vm ∧ U.heap = h0) (fun _ _ _ _ _ => True) (fun _ U o U' => ∃ v L, o = .returned v ∧ Q1 Z a1 p2 p3 q4 p5 h0 n0 v U'.heap L ∧ FrameEnd U o U' L ({ frames := 1, cells := 0, slots := 0, locals := 12 } : Room).cells ({ frames := 1, cells := 0, slots := 0, locals := 12 } : Room).slots) := by
  refine MetFree.of_bodySF (plainFor_of_name pn_1) hisR ?_
  intro p e s m args below meth c s₁ Bd hml0 hP hK
  obtain ⟨rfl, hZ, hh⟩ := hP
  have hx := Bd.exec
  have hby := Bd.bytes
  have hml : c.maxLocals = 6 := hml0
  have hown : s.vm.findClass "com/example/avocet/avocet/index/IndexStats" = some m.cls := findClass_of_methodNamed Bd.named
  have hnm := (name_of_methodNamed Bd.named Bd.method).1
  have X0 : Stand p l e ({ frames := 1, cells := 0, slots := 0, locals := 12 } : Room) s m #[(.ref a1), (.int p2), (.int p3), (.long q4), (.int p5)] below meth c s₁ [] 0 0 := Stand.of_body Bd
  have e0 : s₁.heap = h0 := by rw [← hh, Bd.state]; rfl
  have N0 := Fr.nil n0
  have pre0 : ∀ t, Steps p.tables e below (s₁.setTop (mkF m 0 #[.val (.ref a1), .val (.int p2), .val (.int p3), .val (.long q4), .second, .val (.int p5)] [])) t → Steps p.tables e below (s₁.setTop (entryFrame m #[(.ref a1), (.int p2), (.int p3), (.long q4), (.int p5)] 6)) t := fun t k => castTop (ef_0 m a1 p2 p3 q4 p5) k
  obtain ⟨T1, X1, e1, st1⟩ := initO X0 hx hZ hown (hw _ (List.mem_of_getElem? (i := 6) rfl)) (hw _ (List.mem_of_getElem? (i := 7) rfl)) (hw _ (List.mem_of_getElem? (i := 8) rfl)) e0 (g := (mkF m 1 #[.val (.ref a1), .val (.int p2), .val (.int p3), .val (.long q4), .second, .val (.int p5)] [(.ref a1)])) rfl (by rw [hml]; rfl) rfl (hb hby d1_1) (by decide) (W := 0) (by show 2 * 0 + _ ≤ _; exact Nat.le_of_eq rfl) (by decide)
  obtain ⟨T2, h2, X2, e2, W2, st2⟩ := putF X1 hx hZ hown (host := "") (Or.inl (hw _ (List.mem_of_getElem? (i := 9) rfl))) Via.refl e1 F0 E1 (Or.inr ⟨(hw _ (List.mem_of_getElem? (i := 10) rfl)), rfl, hnm⟩) (hw _ (List.mem_of_getElem? (i := 1) rfl)) (ty := .int) (by decide) rfl rfl (g := (mkF m 6 #[.val (.ref a1), .val (.int p2), .val (.int p3), .val (.long q4), .second, .val (.int p5)] [(.int p2), (.ref a1)])) rfl rfl (hb hby d1_6)
  have Fw2 := F0.same W2
  have N2 := Fr.snoc X2 N0 G1
  have z3 : n0 ≤ h2.size := Nat.le_trans Z0 (Keep.of_wr W2).1
  have c4 := E1.wr W2
  have c5 := (Keep.refl h0 [a1]).wr W2 (Or.inl (List.mem_of_getElem? (i := 0) rfl))
  have c7 := F1.other W2 (Or.inr (slot_ne (Or.inr (hw _ (List.mem_of_getElem? (i := 12) rfl))) (Or.inr (hw _ (List.mem_of_getElem? (i := 10) rfl))) (by decide) (t := .int) (t' := .int) (by decide) (by decide)))
  have c8 := F2.other W2 (Or.inr (slot_ne (Or.inr (hw _ (List.mem_of_getElem? (i := 14) rfl))) (Or.inr (hw _ (List.mem_of_getElem? (i := 10) rfl))) (by decide) (t := .long) (t' := .int) (by decide) (by decide)))
  have c9 := F3.other W2 (Or.inr (slot_ne (Or.inr (hw _ (List.mem_of_getElem? (i := 16) rfl))) (Or.inr (hw _ (List.mem_of_getElem? (i := 10) rfl))) (by decide) (t := .int) (t' := .int) (by decide) (by decide)))
  obtain ⟨T10, h10, X10, e10, W10, st10⟩ := putF X2 hx hZ hown (host := "") (Or.inl (hw _ (List.mem_of_getElem? (i := 11) rfl))) Via.refl e2 c7 c4 (Or.inr ⟨(hw _ (List.mem_of_getElem? (i := 12) rfl)), rfl, hnm⟩) (hw _ (List.mem_of_getElem? (i := 1) rfl)) (ty := .int) (by decide) rfl rfl (g := (mkF m 11 #[.val (.ref a1), .val (.int p2), .val (.int p3), .val (.long q4), .second, .val (.int p5)] [(.int p3), (.ref a1)])) rfl rfl (hb hby d1_11)
  have Fw10 := c7.same W10
  have N10 := Fr.snoc X10 N2 G1
  have z11 : n0 ≤ h10.size := Nat.le_trans z3 (Keep.of_wr W10).1
  have c12 := c4.wr W10
  have c13 := c5.wr W10 (Or.inl (List.mem_of_getElem? (i := 0) rfl))
  have c15 := c8.other W10 (Or.inr (slot_ne (Or.inr (hw _ (List.mem_of_getElem? (i := 14) rfl))) (Or.inr (hw _ (List.mem_of_getElem? (i := 12) rfl))) (by decide) (t := .long) (t' := .int) (by decide) (by decide)))
  have c16 := c9.other W10 (Or.inr (slot_ne (Or.inr (hw _ (List.mem_of_getElem? (i := 16) rfl))) (Or.inr (hw _ (List.mem_of_getElem? (i := 12) rfl))) (by decide) (t := .int) (t' := .int) (by decide) (by decide)))
  have c17 := Fw2.other W10 (Or.inr (slot_ne (Or.inr (hw _ (List.mem_of_getElem? (i := 10) rfl))) (Or.inr (hw _ (List.mem_of_getElem? (i := 12) rfl))) (by decide) (t := .int) (t' := .int) (by decide) (by decide)))
  obtain ⟨T18, h18, X18, e18, W18, st18⟩ := putF X10 hx hZ hown (host := "") (Or.inl (hw _ (List.mem_of_getElem? (i := 13) rfl))) Via.refl e10 c15 c12 (Or.inr ⟨(hw _ (List.mem_of_getElem? (i := 14) rfl)), rfl, hnm⟩) (hw _ (List.mem_of_getElem? (i := 1) rfl)) (ty := .long) (by decide) rfl rfl (g := (mkF m 16 #[.val (.ref a1), .val (.int p2), .val (.int p3), .val (.long q4), .second, .val (.int p5)] [(.long q4), (.ref a1)])) rfl rfl (hb hby d1_16)
  have Fw18 := c15.same W18
  have N18 := Fr.snoc X18 N10 G1
  have z19 : n0 ≤ h18.size := Nat.le_trans z11 (Keep.of_wr W18).1
  have c20 := c12.wr W18
  have c21 := c13.wr W18 (Or.inl (List.mem_of_getElem? (i := 0) rfl))
  have c23 := c16.other W18 (Or.inr (slot_ne (Or.inr (hw _ (List.mem_of_getElem? (i := 16) rfl))) (Or.inr (hw _ (List.mem_of_getElem? (i := 14) rfl))) (by decide) (t := .int) (t' := .long) (by decide) (by decide)))
  have c24 := c17.other W18 (Or.inr (slot_ne (Or.inr (hw _ (List.mem_of_getElem? (i := 10) rfl))) (Or.inr (hw _ (List.mem_of_getElem? (i := 14) rfl))) (by decide) (t := .int) (t' := .long) (by decide) (by decide)))
  have c25 := Fw10.other W18 (Or.inr (slot_ne (Or.inr (hw _ (List.mem_of_getElem? (i := 12) rfl))) (Or.inr (hw _ (List.mem_of_getElem? (i := 14) rfl))) (by decide) (t := .int) (t' := .long) (by decide) (by decide)))
  obtain ⟨T26, h26, X26, e26, W26, st26⟩ := putF X18 hx hZ hown (host := "") (Or.inl (hw _ (List.mem_of_getElem? (i := 15) rfl))) Via.refl e18 c23 c20 (Or.inr ⟨(hw _ (List.mem_of_getElem? (i := 16) rfl)), rfl, hnm⟩) (hw _ (List.mem_of_getElem? (i := 1) rfl)) (ty := .int) (by decide) rfl rfl (g := (mkF m 22 #[.val (.ref a1), .val (.int p2), .val (.int p3), .val (.long q4), .second, .val (.int p5)] [(.int p5), (.ref a1)])) rfl rfl (hb hby d1_22)
  have Fw26 := c23.same W26
  have N26 := Fr.snoc X26 N18 G1
  have z27 : n0 ≤ h26.size := Nat.le_trans z19 (Keep.of_wr W26).1
  have c28 := c20.wr W26
  have c29 := c21.wr W26 (Or.inl (List.mem_of_getElem? (i := 0) rfl))
  have c31 := c24.other W26 (Or.inr (slot_ne (Or.inr (hw _ (List.mem_of_getElem? (i := 10) rfl))) (Or.inr (hw _ (List.mem_of_getElem? (i := 16) rfl))) (by decide) (t := .int) (t' := .int) (by decide) (by decide)))
  have c32 := c25.other W26 (Or.inr (slot_ne (Or.inr (hw _ (List.mem_of_getElem? (i := 12) rfl))) (Or.inr (hw _ (List.mem_of_getElem? (i := 16) rfl))) (by decide) (t := .int) (t' := .int) (by decide) (by decide)))
  have c33 := Fw18.other W26 (Or.inr (slot_ne (Or.inr (hw _ (List.mem_of_getElem? (i := 14) rfl))) (Or.inr (hw _ (List.mem_of_getElem? (i := 16) rfl))) (by decide) (t := .long) (t' := .int) (by decide) (by decide)))
  have pre34 : ∀ t, Steps p.tables e below (T26.setTop (mkF m 25 #[.val (.ref a1), .val (.int p2), .val (.int p3), .val (.long q4), .second, .val (.int p5)] [])) t → Steps p.tables e below (s₁.setTop (entryFrame m #[(.ref a1), (.int p2), (.int p3), (.long q4), (.int p5)] 6)) t := fun t kt => pre0 t (by
    show Steps p.tables e below (s₁.setTop (mkF m 0 #[.val (.ref a1), .val (.int p2), .val (.int p3), .val (.long q4), .second, .val (.int p5)] [])) _
    refine XS.aloadN X0.here hx rfl (hb hby d1_0) rfl rfl ?_
    show Steps p.tables e below (s₁.setTop (mkF m 1 #[.val (.ref a1), .val (.int p2), .val (.int p3), .val (.long q4), .second, .val (.int p5)] [(.ref a1)])) _
    refine st1 _ ?_
    show Steps p.tables e below (T1.setTop (mkF m 4 #[.val (.ref a1), .val (.int p2), .val (.int p3), .val (.long q4), .second, .val (.int p5)] [])) _
    refine XS.aloadN X1.here hx rfl (hb hby d1_4) rfl rfl ?_
    show Steps p.tables e below (T1.setTop (mkF m 5 #[.val (.ref a1), .val (.int p2), .val (.int p3), .val (.long q4), .second, .val (.int p5)] [(.ref a1)])) _
    refine XS.iloadN X1.here hx rfl (hb hby d1_5) rfl ?_
    show Steps p.tables e below (T1.setTop (mkF m 6 #[.val (.ref a1), .val (.int p2), .val (.int p3), .val (.long q4), .second, .val (.int p5)] [(.int p2), (.ref a1)])) _
    refine st2 _ ?_
    show Steps p.tables e below (T2.setTop (mkF m 9 #[.val (.ref a1), .val (.int p2), .val (.int p3), .val (.long q4), .second, .val (.int p5)] [])) _
    refine XS.aloadN X2.here hx rfl (hb hby d1_9) rfl rfl ?_
    show Steps p.tables e below (T2.setTop (mkF m 10 #[.val (.ref a1), .val (.int p2), .val (.int p3), .val (.long q4), .second, .val (.int p5)] [(.ref a1)])) _
    refine XS.iloadN X2.here hx rfl (hb hby d1_10) rfl ?_
    show Steps p.tables e below (T2.setTop (mkF m 11 #[.val (.ref a1), .val (.int p2), .val (.int p3), .val (.long q4), .second, .val (.int p5)] [(.int p3), (.ref a1)])) _
    refine st10 _ ?_
    show Steps p.tables e below (T10.setTop (mkF m 14 #[.val (.ref a1), .val (.int p2), .val (.int p3), .val (.long q4), .second, .val (.int p5)] [])) _
    refine XS.aloadN X10.here hx rfl (hb hby d1_14) rfl rfl ?_
    show Steps p.tables e below (T10.setTop (mkF m 15 #[.val (.ref a1), .val (.int p2), .val (.int p3), .val (.long q4), .second, .val (.int p5)] [(.ref a1)])) _
    refine XS.lloadN X10.here hx rfl (hb hby d1_15) rfl ?_
    show Steps p.tables e below (T10.setTop (mkF m 16 #[.val (.ref a1), .val (.int p2), .val (.int p3), .val (.long q4), .second, .val (.int p5)] [(.long q4), (.ref a1)])) _
    refine st18 _ ?_
    show Steps p.tables e below (T18.setTop (mkF m 19 #[.val (.ref a1), .val (.int p2), .val (.int p3), .val (.long q4), .second, .val (.int p5)] [])) _
    refine XS.aloadN X18.here hx rfl (hb hby d1_19) rfl rfl ?_
    show Steps p.tables e below (T18.setTop (mkF m 20 #[.val (.ref a1), .val (.int p2), .val (.int p3), .val (.long q4), .second, .val (.int p5)] [(.ref a1)])) _
    refine XS.iload X18.here hx rfl (hb hby d1_20) rfl ?_
    show Steps p.tables e below (T18.setTop (mkF m 22 #[.val (.ref a1), .val (.int p2), .val (.int p3), .val (.long q4), .second, .val (.int p5)] [(.int p5), (.ref a1)])) _
    refine st26 _ ?_
    exact kt)
  have hQ : Q1 Z a1 p2 p3 q4 p5 h0 n0 none h26 _ := ⟨rfl, N26, c29, c31, c32, c33, Fw26⟩
  exact own_retV X26 hx Bd.notSynchronized Bd.returns (hb hby d1_25) pre34 (show Q1 Z a1 p2 p3 q4 p5 h0 n0 _ _ _ from (by rw [e26]; exact hQ)) (by decide) (by decide)
theorem ef_17 (m : MethodId) (x0 : Addr) : entryFrame m #[(.ref x0)] 1 = mkF m 0 #[.val (.ref x0)] [] := by first | (simp [entryFrame, mkF, argsToLocals, Value.category]; done) | rfl
theorem pn_18 : plainName "java/lang/Number" = true := by first | (simp [plainName, overriddenIn]; done) | decide +kernel
theorem d6_0 : decode jdk_18_method_1_code 0 = .ok (.aload_n 0, 1) := by decide +kernel
theorem d6_1 : decode jdk_18_method_1_code 1 = .ok (.invokespecial 1, 3) := by decide +kernel
theorem d6_4 : decode jdk_18_method_1_code 4 = .ok (.return_, 1) := by decide +kernel
def Q6 (h0 : Heap) (n0 : Nat) (v : Option Value) (h : Heap) (L : List Loc) : Prop := v = none ∧ Fr n0 L ∧ h = h0
set_option maxRecDepth 65536 in
set_option maxHeartbeats 40000000 in
theorem rm6 (l : Launch) (Z : State) (a0 : Array Value) (hw : ∀ d ∈ tables_1, d.before a0 Z = true) (ws : List Jvm.Cond) (a1 : Addr) (h0 : Heap) (n0 : Nat) (Z0 : n0 ≤ h0.size) :
    MetFree l (⟨"java/lang/Number", "<init>", "()V"⟩ : MethodName) (head1 (Jvm.Cond.code (⟨"java/lang/Number", "<init>", "()V"⟩ : MethodName) jdk_18_method_1_code 1 none :: ws) ({ frames := 1, cells := 0, slots := 0, locals := 12 } : Room)) (fun a U => a = #[(.ref a1)] ∧ Z.Warmed39 U.vm ∧ U.heap = h0) (fun _ _ _ _ _ => True) (fun _ U o U' => ∃ v L, o = .returned v ∧ Q6 h0 n0 v U'.heap L ∧ FrameEnd U o U' L ({ frames := 1, cells := 0, slots := 0, locals := 12 } : Room).cells ({ frames := 1, cells := 0, slots := 0, locals := 12 } : Room).slots) := by
  refine MetFree.of_bodySF (plainFor_of_name pn_18) hisR ?_
  intro p e s m args below meth c s₁ Bd hml0 hP hK
  obtain ⟨rfl, hZ, hh⟩ := hP
  have hx := Bd.exec
  have hby := Bd.bytes
  have hml : c.maxLocals = 1 := hml0
  have hown : s.vm.findClass "java/lang/Number" = some m.cls := findClass_of_methodNamed Bd.named
  have hnm := (name_of_methodNamed Bd.named Bd.method).1
  have X0 : Stand p l e ({ frames := 1, cells := 0, slots := 0, locals := 12 } : Room) s m #[(.ref a1)] below meth c s₁ [] 0 0 := Stand.of_body Bd
  have e0 : s₁.heap = h0 := by rw [← hh, Bd.state]; rfl
  have N0 := Fr.nil n0
  have pre0 : ∀ t, Steps p.tables e below (s₁.setTop (mkF m 0 #[.val (.ref a1)] [])) t → Steps p.tables e below (s₁.setTop (entryFrame m #[(.ref a1)] 1)) t := fun t k => castTop (ef_17 m a1) k
  obtain ⟨T35, X35, e35, st35⟩ := initO X0 hx hZ hown (hw _ (List.mem_of_getElem? (i := 46) rfl)) (hw _ (List.mem_of_getElem? (i := 7) rfl)) (hw _ (List.mem_of_getElem? (i := 8) rfl)) e0 (g := (mkF m 1 #[.val (.ref a1)] [(.ref a1)])) rfl (by rw [hml]; rfl) rfl (hb hby d6_1) (by decide) (W := 0) (by show 2 * 0 + _ ≤ _; exact Nat.le_of_eq rfl) (by decide)
  have pre36 : ∀ t, Steps p.tables e below (T35.setTop (mkF m 4 #[.val (.ref a1)] [])) t → Steps p.tables e below (s₁.setTop (entryFrame m #[(.ref a1)] 1)) t := fun t kt => pre0 t (by
    show Steps p.tables e below (s₁.setTop (mkF m 0 #[.val (.ref a1)] [])) _
    refine XS.aloadN X0.here hx rfl (hb hby d6_0) rfl rfl ?_
    show Steps p.tables e below (s₁.setTop (mkF m 1 #[.val (.ref a1)] [(.ref a1)])) _
    refine st35 _ ?_
    exact kt)
  exact own_retV X35 hx Bd.notSynchronized Bd.returns (hb hby d6_4) pre36 (show Q6 h0 n0 _ _ _ from ⟨rfl, N0, e35⟩) (by decide) (by decide)
theorem ef_22 (m : MethodId) (x0 : Addr) (x1 : Int32) : entryFrame m #[(.ref x0), (.int x1)] 2 = mkF m 0 #[.val (.ref x0), .val (.int x1)] [] := by first | (simp [entryFrame, mkF, argsToLocals, Value.category]; done) | rfl
theorem pn_23 : plainName "java/lang/Integer" = true := by first | (simp [plainName, overriddenIn]; done) | decide +kernel
theorem d5_0 : decode jdk_33_method_23_code 0 = .ok (.aload_n 0, 1) := by decide +kernel
theorem d5_1 : decode jdk_33_method_23_code 1 = .ok (.invokespecial 202, 3) := by decide +kernel
theorem pd_26 : parseMethodDescriptor "()V" = some ⟨[], none⟩ := by decide +kernel
theorem d5_4 : decode jdk_33_method_23_code 4 = .ok (.aload_n 0, 1) := by decide +kernel
theorem d5_5 : decode jdk_33_method_23_code 5 = .ok (.iload_n 1, 1) := by decide +kernel
theorem d5_6 : decode jdk_33_method_23_code 6 = .ok (.putfield 205, 3) := by decide +kernel
theorem d5_9 : decode jdk_33_method_23_code 9 = .ok (.return_, 1) := by decide +kernel
def Q5 (a1 : Addr) (h0 : Heap) (n0 : Nat) (v : Option Value) (h : Heap) (L : List Loc) : Prop := v = none ∧ Fr n0 L ∧ Keep h0 h [a1]
set_option maxRecDepth 65536 in
set_option maxHeartbeats 40000000 in
theorem rm5 (l : Launch) (Z : State) (a0 : Array Value) (hw : ∀ d ∈ tables_1, d.before a0 Z = true) (ws : List Jvm.Cond) (a1 : Addr) (p2 : Int32) (h0 : Heap) (n0 : Nat) (Z0 : n0 ≤ h0.size) (E1 : Exa Z h0 a1 "java/lang/Integer") (F1 : Fld Z h0 a1 "java/lang/Integer" "value" "I" (.int (0 : Int32))) (G1 : n0 ≤ a1) :
    MetFree l (⟨"java/lang/Integer", "<init>", "(I)V"⟩ : MethodName) (head1 (Jvm.Cond.code (⟨"java/lang/Integer", "<init>", "(I)V"⟩ : MethodName) jdk_33_method_23_code 2 none :: ws) ({ frames := 2, cells := 0, slots := 0, locals := 24 } : Room)) (fun a U => a = #[(.ref a1), (.int p2)] ∧ Z.Warmed39 U.vm ∧ U.heap = h0) (fun _ _ _ _ _ => True) (fun _ U o U' => ∃ v L, o = .returned v ∧ Q5 a1 h0 n0 v U'.heap L ∧ FrameEnd U o U' L ({ frames := 2, cells := 0, slots := 0, locals := 24 } : Room).cells ({ frames := 2, cells := 0, slots := 0, locals := 24 } : Room).slots) := by
  refine MetFree.of_bodySF (plainFor_of_name pn_23) hisR ?_
  intro p e s m args below meth c s₁ Bd hml0 hP hK
  obtain ⟨rfl, hZ, hh⟩ := hP
  have hx := Bd.exec
  have hby := Bd.bytes
  have hml : c.maxLocals = 2 := hml0
  have hown : s.vm.findClass "java/lang/Integer" = some m.cls := findClass_of_methodNamed Bd.named
  have hnm := (name_of_methodNamed Bd.named Bd.method).1
  have X0 : Stand p l e ({ frames := 2, cells := 0, slots := 0, locals := 24 } : Room) s m #[(.ref a1), (.int p2)] below meth c s₁ [] 0 0 := Stand.of_body Bd
  have e0 : s₁.heap = h0 := by rw [← hh, Bd.state]; rfl
  have N0 := Fr.nil n0
  have pre0 : ∀ t, Steps p.tables e below (s₁.setTop (mkF m 0 #[.val (.ref a1), .val (.int p2)] [])) t → Steps p.tables e below (s₁.setTop (entryFrame m #[(.ref a1), (.int p2)] 2)) t := fun t k => castTop (ef_22 m a1 p2) k
  obtain ⟨_, _, ⟨T37, L37, k37, n37⟩, -, X37, ⟨Lc37, hQ37, l37, y37, z37⟩, st37⟩ := X0.specialBack hx (y := (⟨"java/lang/Number", "<init>", "()V"⟩ : MethodName)) rfl hown (mvT hZ (hw _ (List.mem_of_getElem? (i := 40) rfl))) (mvT hZ (hw _ (List.mem_of_getElem? (i := 41) rfl))) (mvT hZ (hw _ (List.mem_of_getElem? (i := 45) rfl))) (by decide) (backOf (W := 0) (rm6 l Z a0 hw [] a1 h0 n0 Z0) hZ (hw _ (List.mem_of_getElem? (i := 45) rfl)) (hw _ (List.mem_of_getElem? (i := 44) rfl)) (by decide) (by decide)) (g := (mkF m 1 #[.val (.ref a1), .val (.int p2)] [(.ref a1)])) rfl (by rw [hml]; rfl) (Steps.refl _) (a := a1) (argsL := []) (rest := []) (lenOf pd_26 rfl) rfl (by show 2 * 0 + _ ≤ _; exact Nat.le_of_eq rfl) (hb hby d5_1) (fun _ _ => ⟨rfl, e0, (by decide : 0 + 0 ≤ _), (by decide : 0 + 0 ≤ _)⟩)
  dsimp only [Pt.U, Pt.locs, Pt.cells, Pt.slots] at X37 l37 y37 z37 st37 hQ37
  subst l37 y37 z37
  obtain ⟨rfl, Nq37, e37⟩ := hQ37
  have N37 := Fr.app N0 Nq37
  obtain ⟨T38, h38, X38, e38, W38, st38⟩ := putF X37 hx hZ hown (host := "") (Or.inl (hw _ (List.mem_of_getElem? (i := 47) rfl))) Via.refl e37 F1 E1 (Or.inr ⟨(hw _ (List.mem_of_getElem? (i := 48) rfl)), rfl, hnm⟩) (hw _ (List.mem_of_getElem? (i := 35) rfl)) (ty := .int) (by decide) rfl rfl (g := (mkF m 6 #[.val (.ref a1), .val (.int p2)] [(.int p2), (.ref a1)])) rfl rfl (hb hby d5_6)
  have Fw38 := F1.same W38
  have N38 := Fr.snoc X38 N37 G1
  have z39 : n0 ≤ h38.size := Nat.le_trans Z0 (Keep.of_wr W38).1
  have c40 := E1.wr W38
  have c42 := (Keep.refl h0 [a1]).wr W38 (Or.inl (List.mem_of_getElem? (i := 0) rfl))
  have pre43 : ∀ t, Steps p.tables e below (T38.setTop (mkF m 9 #[.val (.ref a1), .val (.int p2)] [])) t → Steps p.tables e below (s₁.setTop (entryFrame m #[(.ref a1), (.int p2)] 2)) t := fun t kt => pre0 t (by
    show Steps p.tables e below (s₁.setTop (mkF m 0 #[.val (.ref a1), .val (.int p2)] [])) _
    refine XS.aloadN X0.here hx rfl (hb hby d5_0) rfl rfl ?_
    show Steps p.tables e below (s₁.setTop (mkF m 1 #[.val (.ref a1), .val (.int p2)] [(.ref a1)])) _
    refine st37.trans ?_
    show Steps p.tables e below (T37.setTop (mkF m 4 #[.val (.ref a1), .val (.int p2)] [])) _
    refine XS.aloadN X37.here hx rfl (hb hby d5_4) rfl rfl ?_
    show Steps p.tables e below (T37.setTop (mkF m 5 #[.val (.ref a1), .val (.int p2)] [(.ref a1)])) _
    refine XS.iloadN X37.here hx rfl (hb hby d5_5) rfl ?_
    show Steps p.tables e below (T37.setTop (mkF m 6 #[.val (.ref a1), .val (.int p2)] [(.int p2), (.ref a1)])) _
    refine st38 _ ?_
    exact kt)
  have hQ : Q5 a1 h0 n0 none h38 _ := ⟨rfl, N38, c42⟩
  exact own_retV X38 hx Bd.notSynchronized Bd.returns (hb hby d5_9) pre43 (show Q5 a1 h0 n0 _ _ _ from (by rw [e38]; exact hQ)) (by decide) (by decide)
def Cache (Z : State) : Prop := Sta Z Z.heap "java/lang/Integer$IntegerCache" "high" "I" (.int (127 : Int32)) ∧ ∃ (ca : Addr) (cl : Cell) (val : Int32 → Value), Sta Z Z.heap "java/lang/Integer$IntegerCache" "cache" "[Ljava/lang/Integer;" (.ref ca) ∧ Bxs Z ca cl "java/lang/Integer" "I" (256 : Int32) val
theorem own_idx {x : Int32} (h1 : ¬ x < (-128 : Int32)) (h2 : ¬ (127 : Int32) < x) : ¬ (x + (128 : Int32) < 0) ∧ (x + (128 : Int32)).toNatClampNeg < 256 := by
  rw [Int32.lt_iff_toInt_lt] at h1 h2
  have e1 : (-128 : Int32).toInt = -128 := by decide
  have e2 : (127 : Int32).toInt = 127 := by decide
  have e3 : (128 : Int32).toInt = 128 := by decide
  have e0 : (0 : Int32).toInt = 0 := by decide
  have e : (x + (128 : Int32)).toInt = x.toInt + 128 := by rw [Jvm.Kit.i32_add (by omega) (by omega), e3]
  refine ⟨by rw [Int32.lt_iff_toInt_lt]; omega, ?_⟩
  have := Int32.toNat_toInt (x + 128)
  omega
theorem ef_31 (m : MethodId) (x0 : Int32) : entryFrame m #[(.int x0)] 1 = mkF m 0 #[.val (.int x0)] [] := by first | (simp [entryFrame, mkF, argsToLocals, Value.category]; done) | rfl
theorem d3_0 : decode jdk_33_method_22_code 0 = .ok (.iload_n 0, 1) := by decide +kernel
theorem d3_1 : decode jdk_33_method_22_code 1 = .ok (.bipush (-128), 2) := by decide +kernel
theorem d3_3 : decode jdk_33_method_22_code 3 = .ok (.if_icmp .lt 20, 3) := by decide +kernel
theorem d3_23 : decode jdk_33_method_22_code 23 = .ok (.new 1, 3) := by decide +kernel
theorem d3_26 : decode jdk_33_method_22_code 26 = .ok (.dup, 1) := by decide +kernel
theorem d3_27 : decode jdk_33_method_22_code 27 = .ok (.iload_n 0, 1) := by decide +kernel
theorem d3_28 : decode jdk_33_method_22_code 28 = .ok (.invokespecial 199, 3) := by decide +kernel
theorem pd_39 : parseMethodDescriptor "(I)V" = some ⟨[.int], none⟩ := by decide +kernel
theorem d3_31 : decode jdk_33_method_22_code 31 = .ok (.areturn, 1) := by decide +kernel
theorem d3_6 : decode jdk_33_method_22_code 6 = .ok (.iload_n 0, 1) := by decide +kernel
theorem d3_7 : decode jdk_33_method_22_code 7 = .ok (.getstatic 191, 3) := by decide +kernel
theorem d3_10 : decode jdk_33_method_22_code 10 = .ok (.if_icmp .gt 13, 3) := by decide +kernel
theorem d3_13 : decode jdk_33_method_22_code 13 = .ok (.getstatic 195, 3) := by decide +kernel
theorem d3_16 : decode jdk_33_method_22_code 16 = .ok (.iload_n 0, 1) := by decide +kernel
theorem d3_17 : decode jdk_33_method_22_code 17 = .ok (.sipush 128, 3) := by decide +kernel
theorem d3_20 : decode jdk_33_method_22_code 20 = .ok (.iadd, 1) := by decide +kernel
theorem d3_21 : decode jdk_33_method_22_code 21 = .ok (.aaload, 1) := by decide +kernel
theorem d3_22 : decode jdk_33_method_22_code 22 = .ok (.areturn, 1) := by decide +kernel
def Q3 (Z : State) (h0 : Heap) (n0 : Nat) (v : Option Value) (h : Heap) (L : List Loc) : Prop := ∃ r, v = some (.ref r) ∧ Fr n0 L ∧ Keep h0 h [] ∧ Exa Z h r "java/lang/Integer"
set_option maxRecDepth 65536 in
set_option maxHeartbeats 40000000 in
theorem rm3 (l : Launch) (Z : State) (a0 : Array Value) (hw : ∀ d ∈ tables_1, d.before a0 Z = true) (ws : List Jvm.Cond) (p1 : Int32) (h0 : Heap) (n0 : Nat) (Z0 : n0 ≤ h0.size) (O0 : Old Z n0 h0) (C0 : Cache Z) :
    MetFree l (⟨"java/lang/Integer", "valueOf", "(I)Ljava/lang/Integer;"⟩ : MethodName) (head1 (Jvm.Cond.code (⟨"java/lang/Integer", "valueOf", "(I)Ljava/lang/Integer;"⟩ : MethodName) jdk_33_method_22_code 1 (some (.object "java/lang/Integer")) :: ws) ({ frames := 3, cells := 1, slots := 1, locals := 52 } : Room)) (fun a U => a = #[(.int p1)] ∧ Z.Warmed39 U.vm ∧ U.heap = h0) (fun _ _ _ _ _ => True) (fun _ U o U' => ∃ v L, o = .returned v ∧ Q3 Z h0 n0 v U'.heap L ∧ FrameEnd U o U' L ({ frames := 3, cells := 1, slots := 1, locals := 52 } : Room).cells ({ frames := 3, cells := 1, slots := 1, locals := 52 } : Room).slots) := by
  refine MetFree.of_bodySF (plainFor_of_name pn_23) hisR ?_
  intro p e s m args below meth c s₁ Bd hml0 hP hK
  obtain ⟨rfl, hZ, hh⟩ := hP
  have hx := Bd.exec
  have hby := Bd.bytes
  have hml : c.maxLocals = 1 := hml0
  have hown : s.vm.findClass "java/lang/Integer" = some m.cls := findClass_of_methodNamed Bd.named
  have hnm := (name_of_methodNamed Bd.named Bd.method).1
  have X0 : Stand p l e ({ frames := 3, cells := 1, slots := 1, locals := 52 } : Room) s m #[(.int p1)] below meth c s₁ [] 0 0 := Stand.of_body Bd
  have e0 : s₁.heap = h0 := by rw [← hh, Bd.state]; rfl
  have N0 := Fr.nil n0
  have pre0 : ∀ t, Steps p.tables e below (s₁.setTop (mkF m 0 #[.val (.int p1)] [])) t → Steps p.tables e below (s₁.setTop (entryFrame m #[(.int p1)] 1)) t := fun t k => castTop (ef_31 m p1) k
  obtain ⟨S1, ca, cl, val, S2, Bx⟩ := C0
  replace S1 := S1.ext O0.2
  replace S2 := S2.ext O0.2
  obtain ⟨Ar, hsz, hnn⟩ := Bx.ext O0.2
  have h256 : (256 : Int32).toNatClampNeg = 256 := by decide
  have pre44 : ∀ t, Steps p.tables e below (s₁.setTop (mkF m 3 #[.val (.int p1)] [(.int (-128 : Int32)), (.int p1)])) t → Steps p.tables e below (s₁.setTop (entryFrame m #[(.int p1)] 1)) t := fun t kt => pre0 t (by
    show Steps p.tables e below (s₁.setTop (mkF m 0 #[.val (.int p1)] [])) _
    refine XS.iloadN X0.here hx rfl (hb hby d3_0) rfl ?_
    show Steps p.tables e below (s₁.setTop (mkF m 1 #[.val (.int p1)] [(.int p1)])) _
    refine XS.bipush X0.here hx rfl (hb hby d3_1) ?_
    exact kt)
  by_cases hc45 : p1 < (-128 : Int32)
  case pos =>
    obtain ⟨T46, h46, X46, e46, E46, A46, D46, -, st46⟩ := newO X0 hx hZ hown (hw _ (List.mem_of_getElem? (i := 34) rfl)) (hw _ (List.mem_of_getElem? (i := 35) rfl)) (hw _ (List.mem_of_getElem? (i := 19) rfl)) e0 (g := (mkF m 23 #[.val (.int p1)] [])) rfl (hb hby d3_23) (by decide) (by decide)
    obtain ⟨b46, g46⟩ : ∃ z, z = h0.size := ⟨_, rfl⟩
    rw [← g46] at A46 D46 st46
    have G46 : n0 ≤ b46 := Nat.le_trans Z0 (Nat.le_of_eq g46.symm)
    have sz46 : h0.size ≤ b46 := Nat.le_trans (Keep.refl h0 []).1 (Nat.le_of_eq g46.symm)
    have c47 := (Keep.refl h0 []).ext E46
    have F48 : Fld Z h46 b46 "java/lang/Integer" "value" "I" (.int (0 : Int32)) := D46 (Or.inr (hw _ (List.mem_of_getElem? (i := 48) rfl))) (ty := .int) (by decide)
    have z49 : n0 ≤ h46.size := Nat.le_trans Z0 E46.1
    obtain ⟨_, _, ⟨T50, L50, k50, n50⟩, -, X50, ⟨Lc50, hQ50, l50, y50, z50⟩, st50⟩ := X46.specialBack hx (y := (⟨"java/lang/Integer", "<init>", "(I)V"⟩ : MethodName)) rfl hown (mvT hZ (hw _ (List.mem_of_getElem? (i := 36) rfl))) (mvT hZ (hw _ (List.mem_of_getElem? (i := 37) rfl))) (mvT hZ (hw _ (List.mem_of_getElem? (i := 39) rfl))) (by decide) (backOf (W := 1) (rm5 l Z a0 hw [] b46 p1 h46 n0 z49 A46 F48 G46) hZ (hw _ (List.mem_of_getElem? (i := 39) rfl)) (hw _ (List.mem_of_getElem? (i := 19) rfl)) (by decide) (by decide)) (g := (mkF m 28 #[.val (.int p1)] [(.int p1), (.ref b46), (.ref b46)])) rfl (by rw [hml]; rfl) (Steps.refl _) (a := b46) (argsL := [(.int p1)]) (rest := [(.ref b46)]) (lenOf pd_39 rfl) rfl (by show 2 * 0 + _ ≤ _; exact Nat.le_of_eq rfl) (hb hby d3_28) (fun _ _ => ⟨rfl, e46, (by decide : 1 + 0 ≤ _), (by decide : 1 + 0 ≤ _)⟩)
    dsimp only [Pt.U, Pt.locs, Pt.cells, Pt.slots] at X50 l50 y50 z50 st50 hQ50
    subst l50 y50 z50
    obtain ⟨rfl, Nq50, K50⟩ := hQ50
    have N50 := Fr.app N0 Nq50
    have z51 : n0 ≤ T50.heap.size := Nat.le_trans z49 K50.1
    have c52 := c47.trans K50 (allS (Or.inr sz46) all0)
    have c53 := A46.keep K50
    have pre55 : ∀ t, Steps p.tables e below (T50.setTop (mkF m 31 #[.val (.int p1)] [(.ref b46)])) t → Steps p.tables e below (s₁.setTop (entryFrame m #[(.int p1)] 1)) t := fun t kt => pre44 t (by
      show Steps p.tables e below (s₁.setTop (mkF m 3 #[.val (.int p1)] [(.int (-128 : Int32)), (.int p1)])) _
      refine XS.icmpYes X0.here hx rfl (pc0 := 3) (pc' := 23) rfl (hb hby d3_3) rfl (tlt hc45).1 (by decide) (by decide) ?_
      show Steps p.tables e below (s₁.setTop (mkF m 23 #[.val (.int p1)] [])) _
      refine st46 _ ?_
      show Steps p.tables e below (T46.setTop (mkF m 26 #[.val (.int p1)] [(.ref b46)])) _
      refine XS.dup X46.here hx rfl (hb hby d3_26) rfl rfl ?_
      show Steps p.tables e below (T46.setTop (mkF m 27 #[.val (.int p1)] [(.ref b46), (.ref b46)])) _
      refine XS.iloadN X46.here hx rfl (hb hby d3_27) rfl ?_
      show Steps p.tables e below (T46.setTop (mkF m 28 #[.val (.int p1)] [(.int p1), (.ref b46), (.ref b46)])) _
      refine st50.trans ?_
      exact kt)
    exact own_retA X50 hx Bd.notSynchronized rfl Bd.returns rfl (hb hby d3_31) pre55 (show Q3 Z h0 n0 _ _ _ from ⟨b46, rfl, N50, c52, c53⟩) (by decide) (by decide)
  case neg =>
    obtain ⟨T56, X56, e56, st56⟩ := getS2 X0 hx hZ hown (host := "") (Or.inl (hw _ (List.mem_of_getElem? (i := 21) rfl))) Via.refl e0 S1 (g := (mkF m 7 #[.val (.int p1)] [(.int p1)])) rfl (hb hby d3_7)
    have pre57 : ∀ t, Steps p.tables e below (T56.setTop (mkF m 10 #[.val (.int p1)] [(.int (127 : Int32)), (.int p1)])) t → Steps p.tables e below (s₁.setTop (entryFrame m #[(.int p1)] 1)) t := fun t kt => pre44 t (by
      show Steps p.tables e below (s₁.setTop (mkF m 3 #[.val (.int p1)] [(.int (-128 : Int32)), (.int p1)])) _
      refine XS.icmpNo X0.here hx rfl (hb hby d3_3) rfl (flt hc45).1 ?_
      show Steps p.tables e below (s₁.setTop (mkF m 6 #[.val (.int p1)] [])) _
      refine XS.iloadN X0.here hx rfl (hb hby d3_6) rfl ?_
      show Steps p.tables e below (s₁.setTop (mkF m 7 #[.val (.int p1)] [(.int p1)])) _
      refine st56 _ ?_
      exact kt)
    by_cases hc58 : (127 : Int32) < p1
    case pos =>
      obtain ⟨T59, h59, X59, e59, E59, A59, D59, -, st59⟩ := newO X56 hx hZ hown (hw _ (List.mem_of_getElem? (i := 34) rfl)) (hw _ (List.mem_of_getElem? (i := 35) rfl)) (hw _ (List.mem_of_getElem? (i := 19) rfl)) e56 (g := (mkF m 23 #[.val (.int p1)] [])) rfl (hb hby d3_23) (by decide) (by decide)
      obtain ⟨b59, g59⟩ : ∃ z, z = h0.size := ⟨_, rfl⟩
      rw [← g59] at A59 D59 st59
      have G59 : n0 ≤ b59 := Nat.le_trans Z0 (Nat.le_of_eq g59.symm)
      have sz59 : h0.size ≤ b59 := Nat.le_trans (Keep.refl h0 []).1 (Nat.le_of_eq g59.symm)
      have c60 := (Keep.refl h0 []).ext E59
      have F61 : Fld Z h59 b59 "java/lang/Integer" "value" "I" (.int (0 : Int32)) := D59 (Or.inr (hw _ (List.mem_of_getElem? (i := 48) rfl))) (ty := .int) (by decide)
      have z62 : n0 ≤ h59.size := Nat.le_trans Z0 E59.1
      obtain ⟨_, _, ⟨T63, L63, k63, n63⟩, -, X63, ⟨Lc63, hQ63, l63, y63, z63⟩, st63⟩ := X59.specialBack hx (y := (⟨"java/lang/Integer", "<init>", "(I)V"⟩ : MethodName)) rfl hown (mvT hZ (hw _ (List.mem_of_getElem? (i := 36) rfl))) (mvT hZ (hw _ (List.mem_of_getElem? (i := 37) rfl))) (mvT hZ (hw _ (List.mem_of_getElem? (i := 39) rfl))) (by decide) (backOf (W := 1) (rm5 l Z a0 hw [] b59 p1 h59 n0 z62 A59 F61 G59) hZ (hw _ (List.mem_of_getElem? (i := 39) rfl)) (hw _ (List.mem_of_getElem? (i := 19) rfl)) (by decide) (by decide)) (g := (mkF m 28 #[.val (.int p1)] [(.int p1), (.ref b59), (.ref b59)])) rfl (by rw [hml]; rfl) (Steps.refl _) (a := b59) (argsL := [(.int p1)]) (rest := [(.ref b59)]) (lenOf pd_39 rfl) rfl (by show 2 * 0 + _ ≤ _; exact Nat.le_of_eq rfl) (hb hby d3_28) (fun _ _ => ⟨rfl, e59, (by decide : 1 + 0 ≤ _), (by decide : 1 + 0 ≤ _)⟩)
      dsimp only [Pt.U, Pt.locs, Pt.cells, Pt.slots] at X63 l63 y63 z63 st63 hQ63
      subst l63 y63 z63
      obtain ⟨rfl, Nq63, K63⟩ := hQ63
      have N63 := Fr.app N0 Nq63
      have z64 : n0 ≤ T63.heap.size := Nat.le_trans z62 K63.1
      have c65 := c60.trans K63 (allS (Or.inr sz59) all0)
      have c66 := A59.keep K63
      have pre68 : ∀ t, Steps p.tables e below (T63.setTop (mkF m 31 #[.val (.int p1)] [(.ref b59)])) t → Steps p.tables e below (s₁.setTop (entryFrame m #[(.int p1)] 1)) t := fun t kt => pre57 t (by
        show Steps p.tables e below (T56.setTop (mkF m 10 #[.val (.int p1)] [(.int (127 : Int32)), (.int p1)])) _
        refine XS.icmpYes X56.here hx rfl (pc0 := 10) (pc' := 23) rfl (hb hby d3_10) rfl (tlt hc58).2.2.1 (by decide) (by decide) ?_
        show Steps p.tables e below (T56.setTop (mkF m 23 #[.val (.int p1)] [])) _
        refine st59 _ ?_
        show Steps p.tables e below (T59.setTop (mkF m 26 #[.val (.int p1)] [(.ref b59)])) _
        refine XS.dup X59.here hx rfl (hb hby d3_26) rfl rfl ?_
        show Steps p.tables e below (T59.setTop (mkF m 27 #[.val (.int p1)] [(.ref b59), (.ref b59)])) _
        refine XS.iloadN X59.here hx rfl (hb hby d3_27) rfl ?_
        show Steps p.tables e below (T59.setTop (mkF m 28 #[.val (.int p1)] [(.int p1), (.ref b59), (.ref b59)])) _
        refine st63.trans ?_
        exact kt)
      exact own_retA X63 hx Bd.notSynchronized rfl Bd.returns rfl (hb hby d3_31) pre68 (show Q3 Z h0 n0 _ _ _ from ⟨b59, rfl, N63, c65, c66⟩) (by decide) (by decide)
    case neg =>
      obtain ⟨T69, X69, e69, st69⟩ := getS2 X56 hx hZ hown (host := "") (Or.inl (hw _ (List.mem_of_getElem? (i := 23) rfl))) Via.refl e56 S2 (g := (mkF m 13 #[.val (.int p1)] [])) rfl (hb hby d3_13)
      have pre70 : ∀ t, Steps p.tables e below (T69.setTop (mkF m 21 #[.val (.int p1)] [(.int (p1 + (128 : Int32))), (.ref ca)])) t → Steps p.tables e below (s₁.setTop (entryFrame m #[(.int p1)] 1)) t := fun t kt => pre57 t (by
        show Steps p.tables e below (T56.setTop (mkF m 10 #[.val (.int p1)] [(.int (127 : Int32)), (.int p1)])) _
        refine XS.icmpNo X56.here hx rfl (hb hby d3_10) rfl (flt hc58).2.2.1 ?_
        show Steps p.tables e below (T56.setTop (mkF m 13 #[.val (.int p1)] [])) _
        refine st69 _ ?_
        show Steps p.tables e below (T69.setTop (mkF m 16 #[.val (.int p1)] [(.ref ca)])) _
        refine XS.iloadN X69.here hx rfl (hb hby d3_16) rfl ?_
        show Steps p.tables e below (T69.setTop (mkF m 17 #[.val (.int p1)] [(.int p1), (.ref ca)])) _
        refine XS.sipush X69.here hx rfl (hb hby d3_17) ?_
        show Steps p.tables e below (T69.setTop (mkF m 20 #[.val (.int p1)] [(.int (128 : Int32)), (.int p1), (.ref ca)])) _
        refine XS.iadd X69.here hx rfl (hb hby d3_20) rfl ?_
        exact kt)
      obtain ⟨hj1, hj2⟩ := own_idx hc45 hc58
      have hin : ¬ ((p1 + (128 : Int32)) < 0 ∨ cl.slots.size ≤ ((p1 + (128 : Int32))).toNatClampNeg) := fun q => q.elim hj1 (fun q => by rw [hsz, h256] at q; exact absurd hj2 (Nat.not_lt.mpr q))
      obtain ⟨r, hr1, hr2, -⟩ := Bx.2.2.2 _ hin
      have pre71 : ∀ t, Steps p.tables e below (T69.setTop (mkF m 22 #[.val (.int p1)] [(.ref r)])) t → Steps p.tables e below (s₁.setTop (entryFrame m #[(.int p1)] 1)) t := fun t kt => pre70 t (by
        show Steps p.tables e below (T69.setTop (mkF m 21 #[.val (.int p1)] [(.int (p1 + (128 : Int32))), (.ref ca)])) _
        refine X69.aaload hx (j := (p1 + (128 : Int32))) (v := (.ref r)) (by rw [e69]; exact Ar.1) (State.isArrayOf_alike hZ.alike Ar.2.1) rfl Ar.2.2 hin hr1 (g := (mkF m 21 #[.val (.int p1)] [(.int (p1 + (128 : Int32))), (.ref ca)])) rfl rfl (hb hby d3_21) _ ?_
        exact kt)
      exact own_retA X69 hx Bd.notSynchronized rfl Bd.returns rfl (hb hby d3_22) pre71 (show Q3 Z h0 n0 _ _ _ from (by rw [e69]; exact ⟨r, rfl, N0, Keep.refl h0 [], hr2.ext O0.2⟩)) (by decide) (by decide)
theorem ef_50 (m : MethodId) (x0 : Addr) : entryFrame m #[(.ref x0), .null] 3 = mkF m 0 #[.val (.ref x0), .val .null, .unset] [] := by first | (simp [entryFrame, mkF, argsToLocals, Value.category]; done) | rfl
theorem d4_0 : decode prog_29_method_7_code 0 = .ok (.aload_n 1, 1) := by decide +kernel
theorem d4_1 : decode prog_29_method_7_code 1 = .ok (.instanceof 2, 3) := by decide +kernel
theorem d4_4 : decode prog_29_method_7_code 4 = .ok (.ifCond .ne 5, 3) := by decide +kernel
theorem d4_7 : decode prog_29_method_7_code 7 = .ok (.iconst 0, 1) := by decide +kernel
theorem d4_8 : decode prog_29_method_7_code 8 = .ok (.ireturn, 1) := by decide +kernel
def Q4n (h0 : Heap) (n0 : Nat) (v : Option Value) (h : Heap) (L : List Loc) : Prop := v = some (.int (0 : Int32)) ∧ Fr n0 L ∧ h = h0
set_option maxRecDepth 65536 in
set_option maxHeartbeats 40000000 in
theorem rm4n (l : Launch) (Z : State) (a0 : Array Value) (hw : ∀ d ∈ tables_1, d.before a0 Z = true) (ws : List Jvm.Cond) (a1 : Addr) (h0 : Heap) (n0 : Nat) (Z0 : n0 ≤ h0.size) :
    MetFree l (⟨"com/example/avocet/avocet/index/IndexStats", "equals", "(Ljava/lang/Object;)Z"⟩ : MethodName) (head1 (Jvm.Cond.code (⟨"com/example/avocet/avocet/index/IndexStats", "equals", "(Ljava/lang/Object;)Z"⟩ : MethodName) prog_29_method_7_code 3 (some .boolean) :: ws) ({ frames := 0, cells := 0, slots := 0, locals := 0 } : Room)) (fun a U => a = #[(.ref a1), .null] ∧ Z.Warmed39 U.vm ∧ U.heap = h0) (fun _ _ _ _ _ => True) (fun _ U o U' => ∃ v L, o = .returned v ∧ Q4n h0 n0 v U'.heap L ∧ FrameEnd U o U' L ({ frames := 0, cells := 0, slots := 0, locals := 0 } : Room).cells ({ frames := 0, cells := 0, slots := 0, locals := 0 } : Room).slots) := by
  refine MetFree.of_bodySF (plainFor_of_name pn_1) hisR ?_
  intro p e s m args below meth c s₁ Bd hml0 hP hK
  obtain ⟨rfl, hZ, hh⟩ := hP
  have hx := Bd.exec
  have hby := Bd.bytes
  have hml : c.maxLocals = 3 := hml0
  have hown : s.vm.findClass "com/example/avocet/avocet/index/IndexStats" = some m.cls := findClass_of_methodNamed Bd.named
  have hnm := (name_of_methodNamed Bd.named Bd.method).1
  have X0 : Stand p l e ({ frames := 0, cells := 0, slots := 0, locals := 0 } : Room) s m #[(.ref a1), .null] below meth c s₁ [] 0 0 := Stand.of_body Bd
  have e0 : s₁.heap = h0 := by rw [← hh, Bd.state]; rfl
  have N0 := Fr.nil n0
  have pre0 : ∀ t, Steps p.tables e below (s₁.setTop (mkF m 0 #[.val (.ref a1), .val .null, .unset] [])) t → Steps p.tables e below (s₁.setTop (entryFrame m #[(.ref a1), .null] 3)) t := fun t k => castTop (ef_50 m a1) k
  have pre72 : ∀ t, Steps p.tables e below (s₁.setTop (mkF m 8 #[.val (.ref a1), .val .null, .unset] [(.int (0 : Int32))])) t → Steps p.tables e below (s₁.setTop (entryFrame m #[(.ref a1), .null] 3)) t := fun t kt => pre0 t (by
    show Steps p.tables e below (s₁.setTop (mkF m 0 #[.val (.ref a1), .val .null, .unset] [])) _
    refine XS.aloadN X0.here hx rfl (hb hby d4_0) rfl rfl ?_
    show Steps p.tables e below (s₁.setTop (mkF m 1 #[.val (.ref a1), .val .null, .unset] [.null])) _
    refine X0.instanceofNull hx (g := (mkF m 1 #[.val (.ref a1), .val .null, .unset] [.null])) rfl rfl (hb hby d4_1) _ ?_
    show Steps p.tables e below (s₁.setTop (mkF m 4 #[.val (.ref a1), .val .null, .unset] [(.int (0 : Int32))])) _
    refine XS.ifNo X0.here hx rfl (hb hby d4_4) rfl ((if0 _ _).trans (teq (by decide : (0 : Int32) = (0 : Int32))).2) ?_
    show Steps p.tables e below (s₁.setTop (mkF m 7 #[.val (.ref a1), .val .null, .unset] [])) _
    refine XS.iconst X0.here hx rfl (hb hby d4_7) ?_
    exact kt)
  exact own_retN X0 hx Bd.notSynchronized (t := .boolean) Bd.returns (by simp) (hb hby d4_8) pre72 (show Q4n h0 n0 _ _ _ from ⟨rfl, N0, e0⟩) (by decide) (by decide)
theorem ef_56 (m : MethodId) (x0 : Addr) (x1 : Addr) : entryFrame m #[(.ref x0), (.ref x1)] 3 = mkF m 0 #[.val (.ref x0), .val (.ref x1), .unset] [] := by first | (simp [entryFrame, mkF, argsToLocals, Value.category]; done) | rfl
set_option maxRecDepth 65536 in
set_option maxHeartbeats 40000000 in
theorem rm4i (l : Launch) (Z : State) (a0 : Array Value) (hw : ∀ d ∈ tables_1, d.before a0 Z = true) (ws : List Jvm.Cond) (a1 a2 : Addr) (h0 : Heap) (n0 : Nat) (Z0 : n0 ≤ h0.size) (E2 : Exa Z h0 a2 "java/lang/Integer") :
    MetFree l (⟨"com/example/avocet/avocet/index/IndexStats", "equals", "(Ljava/lang/Object;)Z"⟩ : MethodName) (head1 (Jvm.Cond.code (⟨"com/example/avocet/avocet/index/IndexStats", "equals", "(Ljava/lang/Object;)Z"⟩ : MethodName) prog_29_method_7_code 3 (some .boolean) :: ws) ({ frames := 0, cells := 0, slots := 0, locals := 0 } : Room)) (fun a U => a = #[(.ref a1), (.ref a2)] ∧ Z.Warmed39 U.vm ∧ U.heap = h0) (fun _ _ _ _ _ => True) (fun _ U o U' => ∃ v L, o = .returned v ∧ Q4n h0 n0 v U'.heap L ∧ FrameEnd U o U' L ({ frames := 0, cells := 0, slots := 0, locals := 0 } : Room).cells ({ frames := 0, cells := 0, slots := 0, locals := 0 } : Room).slots) := by
  refine MetFree.of_bodySF (plainFor_of_name pn_1) hisR ?_
  intro p e s m args below meth c s₁ Bd hml0 hP hK
  obtain ⟨rfl, hZ, hh⟩ := hP
  have hx := Bd.exec
  have hby := Bd.bytes
  have hml : c.maxLocals = 3 := hml0
  have hown : s.vm.findClass "com/example/avocet/avocet/index/IndexStats" = some m.cls := findClass_of_methodNamed Bd.named
  have hnm := (name_of_methodNamed Bd.named Bd.method).1
  have X0 : Stand p l e ({ frames := 0, cells := 0, slots := 0, locals := 0 } : Room) s m #[(.ref a1), (.ref a2)] below meth c s₁ [] 0 0 := Stand.of_body Bd
  have e0 : s₁.heap = h0 := by rw [← hh, Bd.state]; rfl
  have N0 := Fr.nil n0
  have pre0 : ∀ t, Steps p.tables e below (s₁.setTop (mkF m 0 #[.val (.ref a1), .val (.ref a2), .unset] [])) t → Steps p.tables e below (s₁.setTop (entryFrame m #[(.ref a1), (.ref a2)] 3)) t := fun t k => castTop (ef_56 m a1 a2) k
  have hno := own_ns_no (hw _ (List.mem_of_getElem? (i := 31) rfl)) (hw _ (List.mem_of_getElem? (i := 1) rfl)) (NS.step (hw _ (List.mem_of_getElem? (i := 31) rfl)) (NS.step (hw _ (List.mem_of_getElem? (i := 32) rfl)) (own_ns_root (hw _ (List.mem_of_getElem? (i := 33) rfl)) (hw _ (List.mem_of_getElem? (i := 1) rfl)) (by decide)) (by decide)) (by decide)) (by decide)
  obtain ⟨T73, X73, e73, st73⟩ := instNo X0 hx hZ hown (hw _ (List.mem_of_getElem? (i := 29) rfl)) e0 E2 hno (g := (mkF m 1 #[.val (.ref a1), .val (.ref a2), .unset] [(.ref a2)])) rfl rfl (hb hby d4_1)
  have pre74 : ∀ t, Steps p.tables e below (T73.setTop (mkF m 8 #[.val (.ref a1), .val (.ref a2), .unset] [(.int (0 : Int32))])) t → Steps p.tables e below (s₁.setTop (entryFrame m #[(.ref a1), (.ref a2)] 3)) t := fun t kt => pre0 t (by
    show Steps p.tables e below (s₁.setTop (mkF m 0 #[.val (.ref a1), .val (.ref a2), .unset] [])) _
    refine XS.aloadN X0.here hx rfl (hb hby d4_0) rfl rfl ?_
    show Steps p.tables e below (s₁.setTop (mkF m 1 #[.val (.ref a1), .val (.ref a2), .unset] [(.ref a2)])) _
    refine st73 _ ?_
    show Steps p.tables e below (T73.setTop (mkF m 4 #[.val (.ref a1), .val (.ref a2), .unset] [(.int (0 : Int32))])) _
    refine XS.ifNo X73.here hx rfl (hb hby d4_4) rfl ((if0 _ _).trans (teq (by decide : (0 : Int32) = (0 : Int32))).2) ?_
    show Steps p.tables e below (T73.setTop (mkF m 7 #[.val (.ref a1), .val (.ref a2), .unset] [])) _
    refine XS.iconst X73.here hx rfl (hb hby d4_7) ?_
    exact kt)
  exact own_retN X73 hx Bd.notSynchronized (t := .boolean) Bd.returns (by simp) (hb hby d4_8) pre74 (show Q4n h0 n0 _ _ _ from ⟨rfl, N0, e73⟩) (by decide) (by decide)
theorem d4_9 : decode prog_29_method_7_code 9 = .ok (.aload_n 1, 1) := by decide +kernel
theorem d4_10 : decode prog_29_method_7_code 10 = .ok (.checkcast 2, 3) := by decide +kernel
theorem d4_13 : decode prog_29_method_7_code 13 = .ok (.astore_n 2, 1) := by decide +kernel
theorem d4_14 : decode prog_29_method_7_code 14 = .ok (.aload_n 0, 1) := by decide +kernel
theorem d4_15 : decode prog_29_method_7_code 15 = .ok (.getfield 12, 3) := by decide +kernel
theorem d4_18 : decode prog_29_method_7_code 18 = .ok (.aload_n 2, 1) := by decide +kernel
theorem d4_19 : decode prog_29_method_7_code 19 = .ok (.getfield 12, 3) := by decide +kernel
theorem d4_22 : decode prog_29_method_7_code 22 = .ok (.if_icmp .ne 41, 3) := by decide +kernel
theorem d4_25 : decode prog_29_method_7_code 25 = .ok (.aload_n 0, 1) := by decide +kernel
theorem d4_26 : decode prog_29_method_7_code 26 = .ok (.getfield 16, 3) := by decide +kernel
theorem d4_29 : decode prog_29_method_7_code 29 = .ok (.aload_n 2, 1) := by decide +kernel
theorem d4_30 : decode prog_29_method_7_code 30 = .ok (.getfield 16, 3) := by decide +kernel
theorem d4_33 : decode prog_29_method_7_code 33 = .ok (.if_icmp .ne 30, 3) := by decide +kernel
theorem d4_36 : decode prog_29_method_7_code 36 = .ok (.aload_n 0, 1) := by decide +kernel
theorem d4_37 : decode prog_29_method_7_code 37 = .ok (.getfield 19, 3) := by decide +kernel
theorem d4_40 : decode prog_29_method_7_code 40 = .ok (.aload_n 2, 1) := by decide +kernel
theorem d4_41 : decode prog_29_method_7_code 41 = .ok (.getfield 19, 3) := by decide +kernel
theorem d4_44 : decode prog_29_method_7_code 44 = .ok (.lcmp, 1) := by decide +kernel
theorem d4_45 : decode prog_29_method_7_code 45 = .ok (.ifCond .ne 18, 3) := by decide +kernel
theorem d4_48 : decode prog_29_method_7_code 48 = .ok (.aload_n 0, 1) := by decide +kernel
theorem d4_49 : decode prog_29_method_7_code 49 = .ok (.getfield 23, 3) := by decide +kernel
theorem d4_52 : decode prog_29_method_7_code 52 = .ok (.aload_n 2, 1) := by decide +kernel
theorem d4_53 : decode prog_29_method_7_code 53 = .ok (.getfield 23, 3) := by decide +kernel
theorem d4_56 : decode prog_29_method_7_code 56 = .ok (.if_icmp .ne 7, 3) := by decide +kernel
theorem d4_59 : decode prog_29_method_7_code 59 = .ok (.iconst 1, 1) := by decide +kernel
theorem d4_60 : decode prog_29_method_7_code 60 = .ok (.goto 4, 3) := by decide +kernel
theorem d4_63 : decode prog_29_method_7_code 63 = .ok (.iconst 0, 1) := by decide +kernel
theorem d4_64 : decode prog_29_method_7_code 64 = .ok (.ireturn, 1) := by decide +kernel
def Q4s (x1 x2 : Int32) (x3 : Int64) (x4 : Int32) (y1 y2 : Int32) (y3 : Int64) (y4 : Int32) (h0 : Heap) (n0 : Nat) (v : Option Value) (h : Heap) (L : List Loc) : Prop := v = some (.int (if x1 = y1 then (if x2 = y2 then (if x3 = y3 then (if x4 = y4 then (1 : Int32) else (0 : Int32)) else (0 : Int32)) else (0 : Int32)) else (0 : Int32))) ∧ Fr n0 L ∧ h = h0
set_option maxRecDepth 65536 in
set_option maxHeartbeats 40000000 in
theorem rm4s (l : Launch) (Z : State) (a0 : Array Value) (hw : ∀ d ∈ tables_1, d.before a0 Z = true) (ws : List Jvm.Cond) (a1 a2 : Addr) (x1 x2 : Int32) (x3 : Int64) (x4 : Int32) (y1 y2 : Int32) (y3 : Int64) (y4 : Int32) (h0 : Heap) (n0 : Nat) (Z0 : n0 ≤ h0.size) (E2 : Exa Z h0 a2 "com/example/avocet/avocet/index/IndexStats") (F0 : Fld Z h0 a1 "com/example/avocet/avocet/index/IndexStats" "documents" "I" (.int x1)) (F1 : Fld Z h0 a1 "com/example/avocet/avocet/index/IndexStats" "terms" "I" (.int x2)) (F2 : Fld Z h0 a1 "com/example/avocet/avocet/index/IndexStats" "tokens" "J" (.long x3)) (F3 : Fld Z h0 a1 "com/example/avocet/avocet/index/IndexStats" "pairs" "I" (.int x4)) (H0 : Fld Z h0 a2 "com/example/avocet/avocet/index/IndexStats" "documents" "I" (.int y1)) (H1 : Fld Z h0 a2 "com/example/avocet/avocet/index/IndexStats" "terms" "I" (.int y2)) (H2 : Fld Z h0 a2 "com/example/avocet/avocet/index/IndexStats" "tokens" "J" (.long y3)) (H3 : Fld Z h0 a2 "com/example/avocet/avocet/index/IndexStats" "pairs" "I" (.int y4)) :
    MetFree l (⟨"com/example/avocet/avocet/index/IndexStats", "equals", "(Ljava/lang/Object;)Z"⟩ : MethodName) (head1 (Jvm.Cond.code (⟨"com/example/avocet/avocet/index/IndexStats", "equals", "(Ljava/lang/Object;)Z"⟩ : MethodName) prog_29_method_7_code 3 (some .boolean) :: ws) ({ frames := 0, cells := 0, slots := 0, locals := 0 } : Room)) (fun a U => a = #[(.ref a1), (.ref a2)] ∧ Z.Warmed39 U.vm ∧ U.heap = h0) (fun _ _ _ _ _ => True) (fun _ U o U' => ∃ v L, o = .returned v ∧ Q4s x1 x2 x3 x4 y1 y2 y3 y4 h0 n0 v U'.heap L ∧ FrameEnd U o U' L ({ frames := 0, cells := 0, slots := 0, locals := 0 } : Room).cells ({ frames := 0, cells := 0, slots := 0, locals := 0 } : Room).slots) := by
  refine MetFree.of_bodySF (plainFor_of_name pn_1) hisR ?_
  intro p e s m args below meth c s₁ Bd hml0 hP hK
  obtain ⟨rfl, hZ, hh⟩ := hP
  have hx := Bd.exec
  have hby := Bd.bytes
  have hml : c.maxLocals = 3 := hml0
  have hown : s.vm.findClass "com/example/avocet/avocet/index/IndexStats" = some m.cls := findClass_of_methodNamed Bd.named
  have hnm := (name_of_methodNamed Bd.named Bd.method).1
  have X0 : Stand p l e ({ frames := 0, cells := 0, slots := 0, locals := 0 } : Room) s m #[(.ref a1), (.ref a2)] below meth c s₁ [] 0 0 := Stand.of_body Bd
  have e0 : s₁.heap = h0 := by rw [← hh, Bd.state]; rfl
  have N0 := Fr.nil n0
  have pre0 : ∀ t, Steps p.tables e below (s₁.setTop (mkF m 0 #[.val (.ref a1), .val (.ref a2), .unset] [])) t → Steps p.tables e below (s₁.setTop (entryFrame m #[(.ref a1), (.ref a2)] 3)) t := fun t k => castTop (ef_56 m a1 a2) k
  obtain ⟨T75, X75, e75, st75⟩ := instY X0 hx hZ hown (hw _ (List.mem_of_getElem? (i := 29) rfl)) e0 (Ins.self E2) (g := (mkF m 1 #[.val (.ref a1), .val (.ref a2), .unset] [(.ref a2)])) rfl rfl (hb hby d4_1)
  obtain ⟨T76, X76, e76, st76⟩ := castY X75 hx hZ hown (hw _ (List.mem_of_getElem? (i := 29) rfl)) e75 (Ins.self E2) (g := (mkF m 10 #[.val (.ref a1), .val (.ref a2), .unset] [(.ref a2)])) rfl rfl (hb hby d4_10)
  obtain ⟨T77, X77, e77, st77⟩ := getF X76 hx hZ hown (host := "") (Or.inl (hw _ (List.mem_of_getElem? (i := 9) rfl))) Via.refl e76 F0 (g := (mkF m 15 #[.val (.ref a1), .val (.ref a2), .val (.ref a2)] [(.ref a1)])) rfl rfl (hb hby d4_15)
  obtain ⟨T78, X78, e78, st78⟩ := getF X77 hx hZ hown (host := "") (Or.inl (hw _ (List.mem_of_getElem? (i := 9) rfl))) Via.refl e77 H0 (g := (mkF m 19 #[.val (.ref a1), .val (.ref a2), .val (.ref a2)] [(.ref a2), (.int x1)])) rfl rfl (hb hby d4_19)
  have pre79 : ∀ t, Steps p.tables e below (T78.setTop (mkF m 22 #[.val (.ref a1), .val (.ref a2), .val (.ref a2)] [(.int y1), (.int x1)])) t → Steps p.tables e below (s₁.setTop (entryFrame m #[(.ref a1), (.ref a2)] 3)) t := fun t kt => pre0 t (by
    show Steps p.tables e below (s₁.setTop (mkF m 0 #[.val (.ref a1), .val (.ref a2), .unset] [])) _
    refine XS.aloadN X0.here hx rfl (hb hby d4_0) rfl rfl ?_
    show Steps p.tables e below (s₁.setTop (mkF m 1 #[.val (.ref a1), .val (.ref a2), .unset] [(.ref a2)])) _
    refine st75 _ ?_
    show Steps p.tables e below (T75.setTop (mkF m 4 #[.val (.ref a1), .val (.ref a2), .unset] [(.int (1 : Int32))])) _
    refine XS.ifYes X75.here hx rfl (pc0 := 4) (pc' := 9) rfl (hb hby d4_4) rfl ((if0 _ _).trans (feq (by decide : ¬ ((1 : Int32) = (0 : Int32)))).2) (by decide) (by decide) ?_
    show Steps p.tables e below (T75.setTop (mkF m 9 #[.val (.ref a1), .val (.ref a2), .unset] [])) _
    refine XS.aloadN X75.here hx rfl (hb hby d4_9) rfl rfl ?_
    show Steps p.tables e below (T75.setTop (mkF m 10 #[.val (.ref a1), .val (.ref a2), .unset] [(.ref a2)])) _
    refine st76 _ ?_
    show Steps p.tables e below (T76.setTop (mkF m 13 #[.val (.ref a1), .val (.ref a2), .unset] [(.ref a2)])) _
    refine XS.astoreN X76.here hx rfl (hb hby d4_13) rfl rfl (l' := #[.val (.ref a1), .val (.ref a2), .val (.ref a2)]) rfl ?_
    show Steps p.tables e below (T76.setTop (mkF m 14 #[.val (.ref a1), .val (.ref a2), .val (.ref a2)] [])) _
    refine XS.aloadN X76.here hx rfl (hb hby d4_14) rfl rfl ?_
    show Steps p.tables e below (T76.setTop (mkF m 15 #[.val (.ref a1), .val (.ref a2), .val (.ref a2)] [(.ref a1)])) _
    refine st77 _ ?_
    show Steps p.tables e below (T77.setTop (mkF m 18 #[.val (.ref a1), .val (.ref a2), .val (.ref a2)] [(.int x1)])) _
    refine XS.aloadN X77.here hx rfl (hb hby d4_18) rfl rfl ?_
    show Steps p.tables e below (T77.setTop (mkF m 19 #[.val (.ref a1), .val (.ref a2), .val (.ref a2)] [(.ref a2), (.int x1)])) _
    refine st78 _ ?_
    exact kt)
  obtain ⟨res, hres⟩ : ∃ z : Int32, z = (if x1 = y1 then (if x2 = y2 then (if x3 = y3 then (if x4 = y4 then (1 : Int32) else (0 : Int32)) else (0 : Int32)) else (0 : Int32)) else (0 : Int32)) := ⟨_, rfl⟩
  obtain ⟨T98, L98, X98, N98, e98, pre98⟩ : ∃ (T' : State) (locs' : List Loc), Stand p l e ({ frames := 0, cells := 0, slots := 0, locals := 0 } : Room) s m #[(.ref a1), (.ref a2)] below meth c T' locs' 0 0 ∧ Fr n0 locs' ∧ T'.heap = h0 ∧ ∀ t, Steps p.tables e below (T'.setTop (mkF m 64 #[.val (.ref a1), .val (.ref a2), .val (.ref a2)] [(.int res)])) t → Steps p.tables e below (s₁.setTop (entryFrame m #[(.ref a1), (.ref a2)] 3)) t := by
    by_cases hc80 : x1 = y1
    case pos =>
      obtain ⟨T81, X81, e81, st81⟩ := getF X78 hx hZ hown (host := "") (Or.inl (hw _ (List.mem_of_getElem? (i := 11) rfl))) Via.refl e78 F1 (g := (mkF m 26 #[.val (.ref a1), .val (.ref a2), .val (.ref a2)] [(.ref a1)])) rfl rfl (hb hby d4_26)
      obtain ⟨T82, X82, e82, st82⟩ := getF X81 hx hZ hown (host := "") (Or.inl (hw _ (List.mem_of_getElem? (i := 11) rfl))) Via.refl e81 H1 (g := (mkF m 30 #[.val (.ref a1), .val (.ref a2), .val (.ref a2)] [(.ref a2), (.int x2)])) rfl rfl (hb hby d4_30)
      have pre83 : ∀ t, Steps p.tables e below (T82.setTop (mkF m 33 #[.val (.ref a1), .val (.ref a2), .val (.ref a2)] [(.int y2), (.int x2)])) t → Steps p.tables e below (s₁.setTop (entryFrame m #[(.ref a1), (.ref a2)] 3)) t := fun t kt => pre79 t (by
        show Steps p.tables e below (T78.setTop (mkF m 22 #[.val (.ref a1), .val (.ref a2), .val (.ref a2)] [(.int y1), (.int x1)])) _
        refine XS.icmpNo X78.here hx rfl (hb hby d4_22) rfl (teq hc80).2 ?_
        show Steps p.tables e below (T78.setTop (mkF m 25 #[.val (.ref a1), .val (.ref a2), .val (.ref a2)] [])) _
        refine XS.aloadN X78.here hx rfl (hb hby d4_25) rfl rfl ?_
        show Steps p.tables e below (T78.setTop (mkF m 26 #[.val (.ref a1), .val (.ref a2), .val (.ref a2)] [(.ref a1)])) _
        refine st81 _ ?_
        show Steps p.tables e below (T81.setTop (mkF m 29 #[.val (.ref a1), .val (.ref a2), .val (.ref a2)] [(.int x2)])) _
        refine XS.aloadN X81.here hx rfl (hb hby d4_29) rfl rfl ?_
        show Steps p.tables e below (T81.setTop (mkF m 30 #[.val (.ref a1), .val (.ref a2), .val (.ref a2)] [(.ref a2), (.int x2)])) _
        refine st82 _ ?_
        exact kt)
      by_cases hc84 : x2 = y2
      case pos =>
        obtain ⟨T85, X85, e85, st85⟩ := getF X82 hx hZ hown (host := "") (Or.inl (hw _ (List.mem_of_getElem? (i := 13) rfl))) Via.refl e82 F2 (g := (mkF m 37 #[.val (.ref a1), .val (.ref a2), .val (.ref a2)] [(.ref a1)])) rfl rfl (hb hby d4_37)
        obtain ⟨T86, X86, e86, st86⟩ := getF X85 hx hZ hown (host := "") (Or.inl (hw _ (List.mem_of_getElem? (i := 13) rfl))) Via.refl e85 H2 (g := (mkF m 41 #[.val (.ref a1), .val (.ref a2), .val (.ref a2)] [(.ref a2), (.long x3)])) rfl rfl (hb hby d4_41)
        have pre87 : ∀ t, Steps p.tables e below (T86.setTop (mkF m 45 #[.val (.ref a1), .val (.ref a2), .val (.ref a2)] [(.int (lcmpW x3 y3))])) t → Steps p.tables e below (s₁.setTop (entryFrame m #[(.ref a1), (.ref a2)] 3)) t := fun t kt => pre83 t (by
          show Steps p.tables e below (T82.setTop (mkF m 33 #[.val (.ref a1), .val (.ref a2), .val (.ref a2)] [(.int y2), (.int x2)])) _
          refine XS.icmpNo X82.here hx rfl (hb hby d4_33) rfl (teq hc84).2 ?_
          show Steps p.tables e below (T82.setTop (mkF m 36 #[.val (.ref a1), .val (.ref a2), .val (.ref a2)] [])) _
          refine XS.aloadN X82.here hx rfl (hb hby d4_36) rfl rfl ?_
          show Steps p.tables e below (T82.setTop (mkF m 37 #[.val (.ref a1), .val (.ref a2), .val (.ref a2)] [(.ref a1)])) _
          refine st85 _ ?_
          show Steps p.tables e below (T85.setTop (mkF m 40 #[.val (.ref a1), .val (.ref a2), .val (.ref a2)] [(.long x3)])) _
          refine XS.aloadN X85.here hx rfl (hb hby d4_40) rfl rfl ?_
          show Steps p.tables e below (T85.setTop (mkF m 41 #[.val (.ref a1), .val (.ref a2), .val (.ref a2)] [(.ref a2), (.long x3)])) _
          refine st86 _ ?_
          show Steps p.tables e below (T86.setTop (mkF m 44 #[.val (.ref a1), .val (.ref a2), .val (.ref a2)] [(.long y3), (.long x3)])) _
          refine XS.lcmp X86.here hx rfl (hb hby d4_44) rfl ?_
          exact kt)
        by_cases hc88 : x3 = y3
        case pos =>
          obtain ⟨T89, X89, e89, st89⟩ := getF X86 hx hZ hown (host := "") (Or.inl (hw _ (List.mem_of_getElem? (i := 15) rfl))) Via.refl e86 F3 (g := (mkF m 49 #[.val (.ref a1), .val (.ref a2), .val (.ref a2)] [(.ref a1)])) rfl rfl (hb hby d4_49)
          obtain ⟨T90, X90, e90, st90⟩ := getF X89 hx hZ hown (host := "") (Or.inl (hw _ (List.mem_of_getElem? (i := 15) rfl))) Via.refl e89 H3 (g := (mkF m 53 #[.val (.ref a1), .val (.ref a2), .val (.ref a2)] [(.ref a2), (.int x4)])) rfl rfl (hb hby d4_53)
          have pre91 : ∀ t, Steps p.tables e below (T90.setTop (mkF m 56 #[.val (.ref a1), .val (.ref a2), .val (.ref a2)] [(.int y4), (.int x4)])) t → Steps p.tables e below (s₁.setTop (entryFrame m #[(.ref a1), (.ref a2)] 3)) t := fun t kt => pre87 t (by
            show Steps p.tables e below (T86.setTop (mkF m 45 #[.val (.ref a1), .val (.ref a2), .val (.ref a2)] [(.int (lcmpW x3 y3))])) _
            refine XS.ifNo X86.here hx rfl (hb hby d4_45) rfl ((if0 _ _).trans (teq ((lw_eq _ _).mpr hc88)).2) ?_
            show Steps p.tables e below (T86.setTop (mkF m 48 #[.val (.ref a1), .val (.ref a2), .val (.ref a2)] [])) _
            refine XS.aloadN X86.here hx rfl (hb hby d4_48) rfl rfl ?_
            show Steps p.tables e below (T86.setTop (mkF m 49 #[.val (.ref a1), .val (.ref a2), .val (.ref a2)] [(.ref a1)])) _
            refine st89 _ ?_
            show Steps p.tables e below (T89.setTop (mkF m 52 #[.val (.ref a1), .val (.ref a2), .val (.ref a2)] [(.int x4)])) _
            refine XS.aloadN X89.here hx rfl (hb hby d4_52) rfl rfl ?_
            show Steps p.tables e below (T89.setTop (mkF m 53 #[.val (.ref a1), .val (.ref a2), .val (.ref a2)] [(.ref a2), (.int x4)])) _
            refine st90 _ ?_
            exact kt)
          by_cases hc92 : x4 = y4
          case pos =>
            have pre93 : ∀ t, Steps p.tables e below (T90.setTop (mkF m 64 #[.val (.ref a1), .val (.ref a2), .val (.ref a2)] [(.int (1 : Int32))])) t → Steps p.tables e below (s₁.setTop (entryFrame m #[(.ref a1), (.ref a2)] 3)) t := fun t kt => pre91 t (by
              show Steps p.tables e below (T90.setTop (mkF m 56 #[.val (.ref a1), .val (.ref a2), .val (.ref a2)] [(.int y4), (.int x4)])) _
              refine XS.icmpNo X90.here hx rfl (hb hby d4_56) rfl (teq hc92).2 ?_
              show Steps p.tables e below (T90.setTop (mkF m 59 #[.val (.ref a1), .val (.ref a2), .val (.ref a2)] [])) _
              refine XS.iconst X90.here hx rfl (hb hby d4_59) ?_
              show Steps p.tables e below (T90.setTop (mkF m 60 #[.val (.ref a1), .val (.ref a2), .val (.ref a2)] [(.int (1 : Int32))])) _
              refine XS.goto X90.here hx rfl (pc0 := 60) (pc' := 64) rfl (hb hby d4_60) (by decide) (by decide) ?_
              exact kt)
            rw [show res = (1 : Int32) from ((((hres.trans (if_pos hc80)).trans (if_pos hc84)).trans (if_pos hc88)).trans (if_pos hc92))]
            exact ⟨T90, _, own_more X90 (by decide) (by decide), N0, e90, pre93⟩
          case neg =>
            have pre94 : ∀ t, Steps p.tables e below (T90.setTop (mkF m 64 #[.val (.ref a1), .val (.ref a2), .val (.ref a2)] [(.int (0 : Int32))])) t → Steps p.tables e below (s₁.setTop (entryFrame m #[(.ref a1), (.ref a2)] 3)) t := fun t kt => pre91 t (by
              show Steps p.tables e below (T90.setTop (mkF m 56 #[.val (.ref a1), .val (.ref a2), .val (.ref a2)] [(.int y4), (.int x4)])) _
              refine XS.icmpYes X90.here hx rfl (pc0 := 56) (pc' := 63) rfl (hb hby d4_56) rfl (feq hc92).2 (by decide) (by decide) ?_
              show Steps p.tables e below (T90.setTop (mkF m 63 #[.val (.ref a1), .val (.ref a2), .val (.ref a2)] [])) _
              refine XS.iconst X90.here hx rfl (hb hby d4_63) ?_
              exact kt)
            rw [show res = (0 : Int32) from ((((hres.trans (if_pos hc80)).trans (if_pos hc84)).trans (if_pos hc88)).trans (if_neg hc92))]
            exact ⟨T90, _, own_more X90 (by decide) (by decide), N0, e90, pre94⟩
        case neg =>
          have pre95 : ∀ t, Steps p.tables e below (T86.setTop (mkF m 64 #[.val (.ref a1), .val (.ref a2), .val (.ref a2)] [(.int (0 : Int32))])) t → Steps p.tables e below (s₁.setTop (entryFrame m #[(.ref a1), (.ref a2)] 3)) t := fun t kt => pre87 t (by
            show Steps p.tables e below (T86.setTop (mkF m 45 #[.val (.ref a1), .val (.ref a2), .val (.ref a2)] [(.int (lcmpW x3 y3))])) _
            refine XS.ifYes X86.here hx rfl (pc0 := 45) (pc' := 63) rfl (hb hby d4_45) rfl ((if0 _ _).trans (feq (fun q => hc88 ((lw_eq _ _).mp q))).2) (by decide) (by decide) ?_
            show Steps p.tables e below (T86.setTop (mkF m 63 #[.val (.ref a1), .val (.ref a2), .val (.ref a2)] [])) _
            refine XS.iconst X86.here hx rfl (hb hby d4_63) ?_
            exact kt)
          rw [show res = (0 : Int32) from (((hres.trans (if_pos hc80)).trans (if_pos hc84)).trans (if_neg hc88))]
          exact ⟨T86, _, own_more X86 (by decide) (by decide), N0, e86, pre95⟩
      case neg =>
        have pre96 : ∀ t, Steps p.tables e below (T82.setTop (mkF m 64 #[.val (.ref a1), .val (.ref a2), .val (.ref a2)] [(.int (0 : Int32))])) t → Steps p.tables e below (s₁.setTop (entryFrame m #[(.ref a1), (.ref a2)] 3)) t := fun t kt => pre83 t (by
          show Steps p.tables e below (T82.setTop (mkF m 33 #[.val (.ref a1), .val (.ref a2), .val (.ref a2)] [(.int y2), (.int x2)])) _
          refine XS.icmpYes X82.here hx rfl (pc0 := 33) (pc' := 63) rfl (hb hby d4_33) rfl (feq hc84).2 (by decide) (by decide) ?_
          show Steps p.tables e below (T82.setTop (mkF m 63 #[.val (.ref a1), .val (.ref a2), .val (.ref a2)] [])) _
          refine XS.iconst X82.here hx rfl (hb hby d4_63) ?_
          exact kt)
        rw [show res = (0 : Int32) from ((hres.trans (if_pos hc80)).trans (if_neg hc84))]
        exact ⟨T82, _, own_more X82 (by decide) (by decide), N0, e82, pre96⟩
    case neg =>
      have pre97 : ∀ t, Steps p.tables e below (T78.setTop (mkF m 64 #[.val (.ref a1), .val (.ref a2), .val (.ref a2)] [(.int (0 : Int32))])) t → Steps p.tables e below (s₁.setTop (entryFrame m #[(.ref a1), (.ref a2)] 3)) t := fun t kt => pre79 t (by
        show Steps p.tables e below (T78.setTop (mkF m 22 #[.val (.ref a1), .val (.ref a2), .val (.ref a2)] [(.int y1), (.int x1)])) _
        refine XS.icmpYes X78.here hx rfl (pc0 := 22) (pc' := 63) rfl (hb hby d4_22) rfl (feq hc80).2 (by decide) (by decide) ?_
        show Steps p.tables e below (T78.setTop (mkF m 63 #[.val (.ref a1), .val (.ref a2), .val (.ref a2)] [])) _
        refine XS.iconst X78.here hx rfl (hb hby d4_63) ?_
        exact kt)
      rw [show res = (0 : Int32) from (hres.trans (if_neg hc80))]
      exact ⟨T78, _, own_more X78 (by decide) (by decide), N0, e78, pre97⟩
  have hrb : nar .boolean res = (if x1 = y1 then (if x2 = y2 then (if x3 = y3 then (if x4 = y4 then (1 : Int32) else (0 : Int32)) else (0 : Int32)) else (0 : Int32)) else (0 : Int32)) := (own_bool (by rw [hres]; (repeat' split) <;> simp)).trans hres
  exact own_retN X98 hx Bd.notSynchronized (t := .boolean) Bd.returns (by simp) (hb hby d4_64) pre98 (show Q4s x1 x2 x3 x4 y1 y2 y3 y4 h0 n0 _ _ _ from ⟨congrArg (fun z => some (Value.int z)) hrb, N98, e98⟩) (by decide) (by decide)
theorem ef_85 (m : MethodId) (x0 : Int32) (x1 : Int32) (x2 : Int64) (x3 : Int32) (x4 : Int64) (x5 : Int32) : entryFrame m #[(.int x0), (.int x1), (.long x2), (.int x3), (.long x4), (.int x5)] maxLocals = mkF m 0 #[.val (.int x0), .val (.int x1), .val (.long x2), .second, .val (.int x3), .val (.long x4), .second, .val (.int x5), .unset, .unset, .unset, .unset, .unset, .unset, .unset, .unset, .unset, .unset, .unset] [] := by first | (simp [entryFrame, mkF, argsToLocals, Value.category, maxLocals]; done) | rfl
theorem pn_86 : plainName "com/example/avocet/avocet/index/IndexStatsEqualsPinLaw" = true := by first | (simp [plainName, overriddenIn]; done) | decide +kernel
theorem pd_87 : parseMethodDescriptor "(IIJI)V" = some ⟨[.int, .int, .long, .int], none⟩ := by decide +kernel
theorem pd_88 : parseMethodDescriptor "(I)Ljava/lang/Integer;" = some ⟨[.int], some (.object "java/lang/Integer")⟩ := by decide +kernel
theorem pd_89 : parseMethodDescriptor "(Ljava/lang/Object;)Z" = some ⟨[(.object "java/lang/Object")], some .boolean⟩ := by decide +kernel
def Q0 (h0 : Heap) (n0 : Nat) (v : Option Value) (h : Heap) (L : List Loc) : Prop := v = some (.int (1 : Int32)) ∧ Fr n0 L
set_option maxRecDepth 65536 in
set_option maxHeartbeats 40000000 in
theorem rm0 (l : Launch) (Z : State) (a0 : Array Value) (hw : ∀ d ∈ tables_1, d.before a0 Z = true) (ws : List Jvm.Cond) (p1 p2 : Int32) (q3 : Int64) (p4 : Int32) (q5 : Int64) (p6 : Int32) (h0 : Heap) (n0 : Nat) (Z0 : n0 ≤ h0.size) (O0 : Old Z n0 h0) (C0 : Cache Z) :
    MetFree l x (head1 (Jvm.Cond.code x code maxLocals ret :: ws) room_1) (fun a U => a = #[(.int p1), (.int p2), (.long q3), (.int p4), (.long q5), (.int p6)] ∧ Z.Warmed39 U.vm ∧ U.heap = h0) (fun _ _ _ _ _ => True) (fun _ U o U' => ∃ v L, o = .returned v ∧ Q0 h0 n0 v U'.heap L ∧ FrameEnd U o U' L room_1.cells room_1.slots) := by
  refine MetFree.of_bodySF (plainFor_of_name pn_86) hisR ?_
  intro p e s m args below meth c s₁ Bd hml0 hP hK
  obtain ⟨rfl, hZ, hh⟩ := hP
  have hx := Bd.exec
  have hby := Bd.bytes
  have hml : c.maxLocals = 19 := hml0
  have hown : s.vm.findClass "com/example/avocet/avocet/index/IndexStatsEqualsPinLaw" = some m.cls := findClass_of_methodNamed Bd.named
  have hnm := (name_of_methodNamed Bd.named Bd.method).1
  have X0 : Stand p l e room_1 s m #[(.int p1), (.int p2), (.long q3), (.int p4), (.long q5), (.int p6)] below meth c s₁ [] 0 0 := Stand.of_body Bd
  have e0 : s₁.heap = h0 := by rw [← hh, Bd.state]; rfl
  have N0 := Fr.nil n0
  have pre0 : ∀ t, Steps p.tables e below (s₁.setTop (mkF m 0 #[.val (.int p1), .val (.int p2), .val (.long q3), .second, .val (.int p4), .val (.long q5), .second, .val (.int p6), .unset, .unset, .unset, .unset, .unset, .unset, .unset, .unset, .unset, .unset, .unset] [])) t → Steps p.tables e below (s₁.setTop (entryFrame m #[(.int p1), (.int p2), (.long q3), (.int p4), (.long q5), (.int p6)] maxLocals)) t := fun t k => castTop (ef_85 m p1 p2 q3 p4 q5 p6) k
  have pre99 : ∀ t, Steps p.tables e below (s₁.setTop (mkF m 4 #[.val (.int p1), .val (.int p2), .val (.long q3), .second, .val (.int p4), .val (.long q5), .second, .val (.int p6), .unset, .unset, .unset, .unset, .unset, .unset, .unset, .unset, .unset, .unset, .unset] [(.int (p6 &&& (1 : Int32)))])) t → Steps p.tables e below (s₁.setTop (entryFrame m #[(.int p1), (.int p2), (.long q3), (.int p4), (.long q5), (.int p6)] maxLocals)) t := fun t kt => pre0 t (by
    show Steps p.tables e below (s₁.setTop (mkF m 0 #[.val (.int p1), .val (.int p2), .val (.long q3), .second, .val (.int p4), .val (.long q5), .second, .val (.int p6), .unset, .unset, .unset, .unset, .unset, .unset, .unset, .unset, .unset, .unset, .unset] [])) _
    refine XS.iload X0.here hx rfl (hb hby at_0) rfl ?_
    show Steps p.tables e below (s₁.setTop (mkF m 2 #[.val (.int p1), .val (.int p2), .val (.long q3), .second, .val (.int p4), .val (.long q5), .second, .val (.int p6), .unset, .unset, .unset, .unset, .unset, .unset, .unset, .unset, .unset, .unset, .unset] [(.int p6)])) _
    refine XS.iconst X0.here hx rfl (hb hby at_2) ?_
    show Steps p.tables e below (s₁.setTop (mkF m 3 #[.val (.int p1), .val (.int p2), .val (.long q3), .second, .val (.int p4), .val (.long q5), .second, .val (.int p6), .unset, .unset, .unset, .unset, .unset, .unset, .unset, .unset, .unset, .unset, .unset] [(.int (1 : Int32)), (.int p6)])) _
    refine XS.iand X0.here hx rfl (hb hby at_3) rfl ?_
    exact kt)
  obtain ⟨dd, hdd⟩ : ∃ z : Int32, z = (if (p6 &&& (1 : Int32)) = (0 : Int32) then (q5.toInt32) else p1) := ⟨_, rfl⟩
  have pre101 : ∀ t, Steps p.tables e below (s₁.setTop (mkF m 14 #[.val (.int p1), .val (.int p2), .val (.long q3), .second, .val (.int p4), .val (.long q5), .second, .val (.int p6), .unset, .unset, .unset, .unset, .unset, .unset, .unset, .unset, .unset, .unset, .unset] [(.int dd)])) t → Steps p.tables e below (s₁.setTop (entryFrame m #[(.int p1), (.int p2), (.long q3), (.int p4), (.long q5), (.int p6)] maxLocals)) t := fun t kt => pre99 t (by
    by_cases hc100 : (p6 &&& (1 : Int32)) = (0 : Int32)
    case pos =>
      show Steps p.tables e below (s₁.setTop (mkF m 4 #[.val (.int p1), .val (.int p2), .val (.long q3), .second, .val (.int p4), .val (.long q5), .second, .val (.int p6), .unset, .unset, .unset, .unset, .unset, .unset, .unset, .unset, .unset, .unset, .unset] [(.int (p6 &&& (1 : Int32)))])) _
      refine XS.ifYes X0.here hx rfl (pc0 := 4) (pc' := 11) rfl (hb hby at_4) rfl ((if0 _ _).trans (teq hc100).1) (by decide) (by decide) ?_
      show Steps p.tables e below (s₁.setTop (mkF m 11 #[.val (.int p1), .val (.int p2), .val (.long q3), .second, .val (.int p4), .val (.long q5), .second, .val (.int p6), .unset, .unset, .unset, .unset, .unset, .unset, .unset, .unset, .unset, .unset, .unset] [])) _
      refine XS.lload X0.here hx rfl (hb hby at_11) rfl ?_
      show Steps p.tables e below (s₁.setTop (mkF m 13 #[.val (.int p1), .val (.int p2), .val (.long q3), .second, .val (.int p4), .val (.long q5), .second, .val (.int p6), .unset, .unset, .unset, .unset, .unset, .unset, .unset, .unset, .unset, .unset, .unset] [(.long q5)])) _
      refine XS.l2i X0.here hx rfl (hb hby at_13) rfl ?_
      rw [show dd = (q5.toInt32) from (hdd.trans (if_pos hc100))] at kt
      exact kt
    case neg =>
      show Steps p.tables e below (s₁.setTop (mkF m 4 #[.val (.int p1), .val (.int p2), .val (.long q3), .second, .val (.int p4), .val (.long q5), .second, .val (.int p6), .unset, .unset, .unset, .unset, .unset, .unset, .unset, .unset, .unset, .unset, .unset] [(.int (p6 &&& (1 : Int32)))])) _
      refine XS.ifNo X0.here hx rfl (hb hby at_4) rfl ((if0 _ _).trans (feq hc100).1) ?_
      show Steps p.tables e below (s₁.setTop (mkF m 7 #[.val (.int p1), .val (.int p2), .val (.long q3), .second, .val (.int p4), .val (.long q5), .second, .val (.int p6), .unset, .unset, .unset, .unset, .unset, .unset, .unset, .unset, .unset, .unset, .unset] [])) _
      refine XS.iloadN X0.here hx rfl (hb hby at_7) rfl ?_
      show Steps p.tables e below (s₁.setTop (mkF m 8 #[.val (.int p1), .val (.int p2), .val (.long q3), .second, .val (.int p4), .val (.long q5), .second, .val (.int p6), .unset, .unset, .unset, .unset, .unset, .unset, .unset, .unset, .unset, .unset, .unset] [(.int p1)])) _
      refine XS.goto X0.here hx rfl (pc0 := 8) (pc' := 14) rfl (hb hby at_8) (by decide) (by decide) ?_
      rw [show dd = p1 from (hdd.trans (if_neg hc100))] at kt
      exact kt)
  have pre102 : ∀ t, Steps p.tables e below (s₁.setTop (mkF m 20 #[.val (.int p1), .val (.int p2), .val (.long q3), .second, .val (.int p4), .val (.long q5), .second, .val (.int p6), .val (.int dd), .unset, .unset, .unset, .unset, .unset, .unset, .unset, .unset, .unset, .unset] [(.int (p6 &&& (2 : Int32)))])) t → Steps p.tables e below (s₁.setTop (entryFrame m #[(.int p1), (.int p2), (.long q3), (.int p4), (.long q5), (.int p6)] maxLocals)) t := fun t kt => pre101 t (by
    show Steps p.tables e below (s₁.setTop (mkF m 14 #[.val (.int p1), .val (.int p2), .val (.long q3), .second, .val (.int p4), .val (.long q5), .second, .val (.int p6), .unset, .unset, .unset, .unset, .unset, .unset, .unset, .unset, .unset, .unset, .unset] [(.int dd)])) _
    refine XS.istore X0.here hx rfl (hb hby at_14) rfl (l' := #[.val (.int p1), .val (.int p2), .val (.long q3), .second, .val (.int p4), .val (.long q5), .second, .val (.int p6), .val (.int dd), .unset, .unset, .unset, .unset, .unset, .unset, .unset, .unset, .unset, .unset]) rfl ?_
    show Steps p.tables e below (s₁.setTop (mkF m 16 #[.val (.int p1), .val (.int p2), .val (.long q3), .second, .val (.int p4), .val (.long q5), .second, .val (.int p6), .val (.int dd), .unset, .unset, .unset, .unset, .unset, .unset, .unset, .unset, .unset, .unset] [])) _
    refine XS.iload X0.here hx rfl (hb hby at_16) rfl ?_
    show Steps p.tables e below (s₁.setTop (mkF m 18 #[.val (.int p1), .val (.int p2), .val (.long q3), .second, .val (.int p4), .val (.long q5), .second, .val (.int p6), .val (.int dd), .unset, .unset, .unset, .unset, .unset, .unset, .unset, .unset, .unset, .unset] [(.int p6)])) _
    refine XS.iconst X0.here hx rfl (hb hby at_18) ?_
    show Steps p.tables e below (s₁.setTop (mkF m 19 #[.val (.int p1), .val (.int p2), .val (.long q3), .second, .val (.int p4), .val (.long q5), .second, .val (.int p6), .val (.int dd), .unset, .unset, .unset, .unset, .unset, .unset, .unset, .unset, .unset, .unset] [(.int (2 : Int32)), (.int p6)])) _
    refine XS.iand X0.here hx rfl (hb hby at_19) rfl ?_
    exact kt)
  obtain ⟨ee, hee⟩ : ∃ z : Int32, z = (if (p6 &&& (2 : Int32)) = (0 : Int32) then (((q5.toUInt64 >>> ((32 : Int32) &&& 0x3f).toInt64.toUInt64).toInt64).toInt32) else p2) := ⟨_, rfl⟩
  have pre104 : ∀ t, Steps p.tables e below (s₁.setTop (mkF m 33 #[.val (.int p1), .val (.int p2), .val (.long q3), .second, .val (.int p4), .val (.long q5), .second, .val (.int p6), .val (.int dd), .unset, .unset, .unset, .unset, .unset, .unset, .unset, .unset, .unset, .unset] [(.int ee)])) t → Steps p.tables e below (s₁.setTop (entryFrame m #[(.int p1), (.int p2), (.long q3), (.int p4), (.long q5), (.int p6)] maxLocals)) t := fun t kt => pre102 t (by
    by_cases hc103 : (p6 &&& (2 : Int32)) = (0 : Int32)
    case pos =>
      show Steps p.tables e below (s₁.setTop (mkF m 20 #[.val (.int p1), .val (.int p2), .val (.long q3), .second, .val (.int p4), .val (.long q5), .second, .val (.int p6), .val (.int dd), .unset, .unset, .unset, .unset, .unset, .unset, .unset, .unset, .unset, .unset] [(.int (p6 &&& (2 : Int32)))])) _
      refine XS.ifYes X0.here hx rfl (pc0 := 20) (pc' := 27) rfl (hb hby at_20) rfl ((if0 _ _).trans (teq hc103).1) (by decide) (by decide) ?_
      show Steps p.tables e below (s₁.setTop (mkF m 27 #[.val (.int p1), .val (.int p2), .val (.long q3), .second, .val (.int p4), .val (.long q5), .second, .val (.int p6), .val (.int dd), .unset, .unset, .unset, .unset, .unset, .unset, .unset, .unset, .unset, .unset] [])) _
      refine XS.lload X0.here hx rfl (hb hby at_27) rfl ?_
      show Steps p.tables e below (s₁.setTop (mkF m 29 #[.val (.int p1), .val (.int p2), .val (.long q3), .second, .val (.int p4), .val (.long q5), .second, .val (.int p6), .val (.int dd), .unset, .unset, .unset, .unset, .unset, .unset, .unset, .unset, .unset, .unset] [(.long q5)])) _
      refine XS.bipush X0.here hx rfl (hb hby at_29) ?_
      show Steps p.tables e below (s₁.setTop (mkF m 31 #[.val (.int p1), .val (.int p2), .val (.long q3), .second, .val (.int p4), .val (.long q5), .second, .val (.int p6), .val (.int dd), .unset, .unset, .unset, .unset, .unset, .unset, .unset, .unset, .unset, .unset] [(.int (32 : Int32)), (.long q5)])) _
      refine XS.lushr X0.here hx rfl (hb hby at_31) rfl ?_
      show Steps p.tables e below (s₁.setTop (mkF m 32 #[.val (.int p1), .val (.int p2), .val (.long q3), .second, .val (.int p4), .val (.long q5), .second, .val (.int p6), .val (.int dd), .unset, .unset, .unset, .unset, .unset, .unset, .unset, .unset, .unset, .unset] [(.long ((q5.toUInt64 >>> ((32 : Int32) &&& 0x3f).toInt64.toUInt64).toInt64))])) _
      refine XS.l2i X0.here hx rfl (hb hby at_32) rfl ?_
      rw [show ee = (((q5.toUInt64 >>> ((32 : Int32) &&& 0x3f).toInt64.toUInt64).toInt64).toInt32) from (hee.trans (if_pos hc103))] at kt
      exact kt
    case neg =>
      show Steps p.tables e below (s₁.setTop (mkF m 20 #[.val (.int p1), .val (.int p2), .val (.long q3), .second, .val (.int p4), .val (.long q5), .second, .val (.int p6), .val (.int dd), .unset, .unset, .unset, .unset, .unset, .unset, .unset, .unset, .unset, .unset] [(.int (p6 &&& (2 : Int32)))])) _
      refine XS.ifNo X0.here hx rfl (hb hby at_20) rfl ((if0 _ _).trans (feq hc103).1) ?_
      show Steps p.tables e below (s₁.setTop (mkF m 23 #[.val (.int p1), .val (.int p2), .val (.long q3), .second, .val (.int p4), .val (.long q5), .second, .val (.int p6), .val (.int dd), .unset, .unset, .unset, .unset, .unset, .unset, .unset, .unset, .unset, .unset] [])) _
      refine XS.iloadN X0.here hx rfl (hb hby at_23) rfl ?_
      show Steps p.tables e below (s₁.setTop (mkF m 24 #[.val (.int p1), .val (.int p2), .val (.long q3), .second, .val (.int p4), .val (.long q5), .second, .val (.int p6), .val (.int dd), .unset, .unset, .unset, .unset, .unset, .unset, .unset, .unset, .unset, .unset] [(.int p2)])) _
      refine XS.goto X0.here hx rfl (pc0 := 24) (pc' := 33) rfl (hb hby at_24) (by decide) (by decide) ?_
      rw [show ee = p2 from (hee.trans (if_neg hc103))] at kt
      exact kt)
  have pre105 : ∀ t, Steps p.tables e below (s₁.setTop (mkF m 39 #[.val (.int p1), .val (.int p2), .val (.long q3), .second, .val (.int p4), .val (.long q5), .second, .val (.int p6), .val (.int dd), .val (.int ee), .unset, .unset, .unset, .unset, .unset, .unset, .unset, .unset, .unset] [(.int (p6 &&& (4 : Int32)))])) t → Steps p.tables e below (s₁.setTop (entryFrame m #[(.int p1), (.int p2), (.long q3), (.int p4), (.long q5), (.int p6)] maxLocals)) t := fun t kt => pre104 t (by
    show Steps p.tables e below (s₁.setTop (mkF m 33 #[.val (.int p1), .val (.int p2), .val (.long q3), .second, .val (.int p4), .val (.long q5), .second, .val (.int p6), .val (.int dd), .unset, .unset, .unset, .unset, .unset, .unset, .unset, .unset, .unset, .unset] [(.int ee)])) _
    refine XS.istore X0.here hx rfl (hb hby at_33) rfl (l' := #[.val (.int p1), .val (.int p2), .val (.long q3), .second, .val (.int p4), .val (.long q5), .second, .val (.int p6), .val (.int dd), .val (.int ee), .unset, .unset, .unset, .unset, .unset, .unset, .unset, .unset, .unset]) rfl ?_
    show Steps p.tables e below (s₁.setTop (mkF m 35 #[.val (.int p1), .val (.int p2), .val (.long q3), .second, .val (.int p4), .val (.long q5), .second, .val (.int p6), .val (.int dd), .val (.int ee), .unset, .unset, .unset, .unset, .unset, .unset, .unset, .unset, .unset] [])) _
    refine XS.iload X0.here hx rfl (hb hby at_35) rfl ?_
    show Steps p.tables e below (s₁.setTop (mkF m 37 #[.val (.int p1), .val (.int p2), .val (.long q3), .second, .val (.int p4), .val (.long q5), .second, .val (.int p6), .val (.int dd), .val (.int ee), .unset, .unset, .unset, .unset, .unset, .unset, .unset, .unset, .unset] [(.int p6)])) _
    refine XS.iconst X0.here hx rfl (hb hby at_37) ?_
    show Steps p.tables e below (s₁.setTop (mkF m 38 #[.val (.int p1), .val (.int p2), .val (.long q3), .second, .val (.int p4), .val (.long q5), .second, .val (.int p6), .val (.int dd), .val (.int ee), .unset, .unset, .unset, .unset, .unset, .unset, .unset, .unset, .unset] [(.int (4 : Int32)), (.int p6)])) _
    refine XS.iand X0.here hx rfl (hb hby at_38) rfl ?_
    exact kt)
  obtain ⟨tt, htt⟩ : ∃ z : Int64, z = (if (p6 &&& (4 : Int32)) = (0 : Int32) then q5 else q3) := ⟨_, rfl⟩
  have pre107 : ∀ t, Steps p.tables e below (s₁.setTop (mkF m 48 #[.val (.int p1), .val (.int p2), .val (.long q3), .second, .val (.int p4), .val (.long q5), .second, .val (.int p6), .val (.int dd), .val (.int ee), .unset, .unset, .unset, .unset, .unset, .unset, .unset, .unset, .unset] [(.long tt)])) t → Steps p.tables e below (s₁.setTop (entryFrame m #[(.int p1), (.int p2), (.long q3), (.int p4), (.long q5), (.int p6)] maxLocals)) t := fun t kt => pre105 t (by
    by_cases hc106 : (p6 &&& (4 : Int32)) = (0 : Int32)
    case pos =>
      show Steps p.tables e below (s₁.setTop (mkF m 39 #[.val (.int p1), .val (.int p2), .val (.long q3), .second, .val (.int p4), .val (.long q5), .second, .val (.int p6), .val (.int dd), .val (.int ee), .unset, .unset, .unset, .unset, .unset, .unset, .unset, .unset, .unset] [(.int (p6 &&& (4 : Int32)))])) _
      refine XS.ifYes X0.here hx rfl (pc0 := 39) (pc' := 46) rfl (hb hby at_39) rfl ((if0 _ _).trans (teq hc106).1) (by decide) (by decide) ?_
      show Steps p.tables e below (s₁.setTop (mkF m 46 #[.val (.int p1), .val (.int p2), .val (.long q3), .second, .val (.int p4), .val (.long q5), .second, .val (.int p6), .val (.int dd), .val (.int ee), .unset, .unset, .unset, .unset, .unset, .unset, .unset, .unset, .unset] [])) _
      refine XS.lload X0.here hx rfl (hb hby at_46) rfl ?_
      rw [show tt = q5 from (htt.trans (if_pos hc106))] at kt
      exact kt
    case neg =>
      show Steps p.tables e below (s₁.setTop (mkF m 39 #[.val (.int p1), .val (.int p2), .val (.long q3), .second, .val (.int p4), .val (.long q5), .second, .val (.int p6), .val (.int dd), .val (.int ee), .unset, .unset, .unset, .unset, .unset, .unset, .unset, .unset, .unset] [(.int (p6 &&& (4 : Int32)))])) _
      refine XS.ifNo X0.here hx rfl (hb hby at_39) rfl ((if0 _ _).trans (feq hc106).1) ?_
      show Steps p.tables e below (s₁.setTop (mkF m 42 #[.val (.int p1), .val (.int p2), .val (.long q3), .second, .val (.int p4), .val (.long q5), .second, .val (.int p6), .val (.int dd), .val (.int ee), .unset, .unset, .unset, .unset, .unset, .unset, .unset, .unset, .unset] [])) _
      refine XS.lloadN X0.here hx rfl (hb hby at_42) rfl ?_
      show Steps p.tables e below (s₁.setTop (mkF m 43 #[.val (.int p1), .val (.int p2), .val (.long q3), .second, .val (.int p4), .val (.long q5), .second, .val (.int p6), .val (.int dd), .val (.int ee), .unset, .unset, .unset, .unset, .unset, .unset, .unset, .unset, .unset] [(.long q3)])) _
      refine XS.goto X0.here hx rfl (pc0 := 43) (pc' := 48) rfl (hb hby at_43) (by decide) (by decide) ?_
      rw [show tt = q3 from (htt.trans (if_neg hc106))] at kt
      exact kt)
  have pre108 : ∀ t, Steps p.tables e below (s₁.setTop (mkF m 55 #[.val (.int p1), .val (.int p2), .val (.long q3), .second, .val (.int p4), .val (.long q5), .second, .val (.int p6), .val (.int dd), .val (.int ee), .val (.long tt), .second, .unset, .unset, .unset, .unset, .unset, .unset, .unset] [(.int (p6 &&& (8 : Int32)))])) t → Steps p.tables e below (s₁.setTop (entryFrame m #[(.int p1), (.int p2), (.long q3), (.int p4), (.long q5), (.int p6)] maxLocals)) t := fun t kt => pre107 t (by
    show Steps p.tables e below (s₁.setTop (mkF m 48 #[.val (.int p1), .val (.int p2), .val (.long q3), .second, .val (.int p4), .val (.long q5), .second, .val (.int p6), .val (.int dd), .val (.int ee), .unset, .unset, .unset, .unset, .unset, .unset, .unset, .unset, .unset] [(.long tt)])) _
    refine XS.lstore X0.here hx rfl (hb hby at_48) rfl (l' := #[.val (.int p1), .val (.int p2), .val (.long q3), .second, .val (.int p4), .val (.long q5), .second, .val (.int p6), .val (.int dd), .val (.int ee), .val (.long tt), .second, .unset, .unset, .unset, .unset, .unset, .unset, .unset]) rfl ?_
    show Steps p.tables e below (s₁.setTop (mkF m 50 #[.val (.int p1), .val (.int p2), .val (.long q3), .second, .val (.int p4), .val (.long q5), .second, .val (.int p6), .val (.int dd), .val (.int ee), .val (.long tt), .second, .unset, .unset, .unset, .unset, .unset, .unset, .unset] [])) _
    refine XS.iload X0.here hx rfl (hb hby at_50) rfl ?_
    show Steps p.tables e below (s₁.setTop (mkF m 52 #[.val (.int p1), .val (.int p2), .val (.long q3), .second, .val (.int p4), .val (.long q5), .second, .val (.int p6), .val (.int dd), .val (.int ee), .val (.long tt), .second, .unset, .unset, .unset, .unset, .unset, .unset, .unset] [(.int p6)])) _
    refine XS.bipush X0.here hx rfl (hb hby at_52) ?_
    show Steps p.tables e below (s₁.setTop (mkF m 54 #[.val (.int p1), .val (.int p2), .val (.long q3), .second, .val (.int p4), .val (.long q5), .second, .val (.int p6), .val (.int dd), .val (.int ee), .val (.long tt), .second, .unset, .unset, .unset, .unset, .unset, .unset, .unset] [(.int (8 : Int32)), (.int p6)])) _
    refine XS.iand X0.here hx rfl (hb hby at_54) rfl ?_
    exact kt)
  obtain ⟨pp, hpp⟩ : ∃ z : Int32, z = (if (p6 &&& (8 : Int32)) = (0 : Int32) then (((q5.toUInt64 >>> ((16 : Int32) &&& 0x3f).toInt64.toUInt64).toInt64).toInt32) else p4) := ⟨_, rfl⟩
  have pre110 : ∀ t, Steps p.tables e below (s₁.setTop (mkF m 69 #[.val (.int p1), .val (.int p2), .val (.long q3), .second, .val (.int p4), .val (.long q5), .second, .val (.int p6), .val (.int dd), .val (.int ee), .val (.long tt), .second, .unset, .unset, .unset, .unset, .unset, .unset, .unset] [(.int pp)])) t → Steps p.tables e below (s₁.setTop (entryFrame m #[(.int p1), (.int p2), (.long q3), (.int p4), (.long q5), (.int p6)] maxLocals)) t := fun t kt => pre108 t (by
    by_cases hc109 : (p6 &&& (8 : Int32)) = (0 : Int32)
    case pos =>
      show Steps p.tables e below (s₁.setTop (mkF m 55 #[.val (.int p1), .val (.int p2), .val (.long q3), .second, .val (.int p4), .val (.long q5), .second, .val (.int p6), .val (.int dd), .val (.int ee), .val (.long tt), .second, .unset, .unset, .unset, .unset, .unset, .unset, .unset] [(.int (p6 &&& (8 : Int32)))])) _
      refine XS.ifYes X0.here hx rfl (pc0 := 55) (pc' := 63) rfl (hb hby at_55) rfl ((if0 _ _).trans (teq hc109).1) (by decide) (by decide) ?_
      show Steps p.tables e below (s₁.setTop (mkF m 63 #[.val (.int p1), .val (.int p2), .val (.long q3), .second, .val (.int p4), .val (.long q5), .second, .val (.int p6), .val (.int dd), .val (.int ee), .val (.long tt), .second, .unset, .unset, .unset, .unset, .unset, .unset, .unset] [])) _
      refine XS.lload X0.here hx rfl (hb hby at_63) rfl ?_
      show Steps p.tables e below (s₁.setTop (mkF m 65 #[.val (.int p1), .val (.int p2), .val (.long q3), .second, .val (.int p4), .val (.long q5), .second, .val (.int p6), .val (.int dd), .val (.int ee), .val (.long tt), .second, .unset, .unset, .unset, .unset, .unset, .unset, .unset] [(.long q5)])) _
      refine XS.bipush X0.here hx rfl (hb hby at_65) ?_
      show Steps p.tables e below (s₁.setTop (mkF m 67 #[.val (.int p1), .val (.int p2), .val (.long q3), .second, .val (.int p4), .val (.long q5), .second, .val (.int p6), .val (.int dd), .val (.int ee), .val (.long tt), .second, .unset, .unset, .unset, .unset, .unset, .unset, .unset] [(.int (16 : Int32)), (.long q5)])) _
      refine XS.lushr X0.here hx rfl (hb hby at_67) rfl ?_
      show Steps p.tables e below (s₁.setTop (mkF m 68 #[.val (.int p1), .val (.int p2), .val (.long q3), .second, .val (.int p4), .val (.long q5), .second, .val (.int p6), .val (.int dd), .val (.int ee), .val (.long tt), .second, .unset, .unset, .unset, .unset, .unset, .unset, .unset] [(.long ((q5.toUInt64 >>> ((16 : Int32) &&& 0x3f).toInt64.toUInt64).toInt64))])) _
      refine XS.l2i X0.here hx rfl (hb hby at_68) rfl ?_
      rw [show pp = (((q5.toUInt64 >>> ((16 : Int32) &&& 0x3f).toInt64.toUInt64).toInt64).toInt32) from (hpp.trans (if_pos hc109))] at kt
      exact kt
    case neg =>
      show Steps p.tables e below (s₁.setTop (mkF m 55 #[.val (.int p1), .val (.int p2), .val (.long q3), .second, .val (.int p4), .val (.long q5), .second, .val (.int p6), .val (.int dd), .val (.int ee), .val (.long tt), .second, .unset, .unset, .unset, .unset, .unset, .unset, .unset] [(.int (p6 &&& (8 : Int32)))])) _
      refine XS.ifNo X0.here hx rfl (hb hby at_55) rfl ((if0 _ _).trans (feq hc109).1) ?_
      show Steps p.tables e below (s₁.setTop (mkF m 58 #[.val (.int p1), .val (.int p2), .val (.long q3), .second, .val (.int p4), .val (.long q5), .second, .val (.int p6), .val (.int dd), .val (.int ee), .val (.long tt), .second, .unset, .unset, .unset, .unset, .unset, .unset, .unset] [])) _
      refine XS.iload X0.here hx rfl (hb hby at_58) rfl ?_
      show Steps p.tables e below (s₁.setTop (mkF m 60 #[.val (.int p1), .val (.int p2), .val (.long q3), .second, .val (.int p4), .val (.long q5), .second, .val (.int p6), .val (.int dd), .val (.int ee), .val (.long tt), .second, .unset, .unset, .unset, .unset, .unset, .unset, .unset] [(.int p4)])) _
      refine XS.goto X0.here hx rfl (pc0 := 60) (pc' := 69) rfl (hb hby at_60) (by decide) (by decide) ?_
      rw [show pp = p4 from (hpp.trans (if_neg hc109))] at kt
      exact kt)
  obtain ⟨T111, h111, X111, e111, E111, A111, D111, -, st111⟩ := newO X0 hx hZ hown (hw _ (List.mem_of_getElem? (i := 0) rfl)) (hw _ (List.mem_of_getElem? (i := 1) rfl)) (hw _ (List.mem_of_getElem? (i := 2) rfl)) e0 (g := (mkF m 71 #[.val (.int p1), .val (.int p2), .val (.long q3), .second, .val (.int p4), .val (.long q5), .second, .val (.int p6), .val (.int dd), .val (.int ee), .val (.long tt), .second, .val (.int pp), .unset, .unset, .unset, .unset, .unset, .unset] [])) rfl (hb hby at_71) (by decide) (by decide)
  obtain ⟨b111, g111⟩ : ∃ z, z = h0.size := ⟨_, rfl⟩
  rw [← g111] at A111 D111 st111
  have G111 : n0 ≤ b111 := Nat.le_trans Z0 (Nat.le_of_eq g111.symm)
  have c112 := O0.ext E111
  have F113 : Fld Z h111 b111 "com/example/avocet/avocet/index/IndexStats" "documents" "I" (.int (0 : Int32)) := D111 (Or.inr (hw _ (List.mem_of_getElem? (i := 10) rfl))) (ty := .int) (by decide)
  have F114 : Fld Z h111 b111 "com/example/avocet/avocet/index/IndexStats" "terms" "I" (.int (0 : Int32)) := D111 (Or.inr (hw _ (List.mem_of_getElem? (i := 12) rfl))) (ty := .int) (by decide)
  have F115 : Fld Z h111 b111 "com/example/avocet/avocet/index/IndexStats" "tokens" "J" (.long (0 : Int64)) := D111 (Or.inr (hw _ (List.mem_of_getElem? (i := 14) rfl))) (ty := .long) (by decide)
  have F116 : Fld Z h111 b111 "com/example/avocet/avocet/index/IndexStats" "pairs" "I" (.int (0 : Int32)) := D111 (Or.inr (hw _ (List.mem_of_getElem? (i := 16) rfl))) (ty := .int) (by decide)
  have z117 : n0 ≤ h111.size := Nat.le_trans Z0 E111.1
  obtain ⟨_, _, ⟨T118, L118, k118, n118⟩, -, X118, ⟨Lc118, hQ118, l118, y118, z118⟩, st118⟩ := X111.specialBack hx (y := (⟨"com/example/avocet/avocet/index/IndexStats", "<init>", "(IIJI)V"⟩ : MethodName)) rfl hown (mvT hZ (hw _ (List.mem_of_getElem? (i := 3) rfl))) (mvT hZ (hw _ (List.mem_of_getElem? (i := 4) rfl))) (mvT hZ (hw _ (List.mem_of_getElem? (i := 5) rfl))) (by decide) (backOf (W := 1) (rm1 l Z a0 hw [] b111 p1 p2 q3 p4 h111 n0 z117 A111 F113 F114 F115 F116 G111) hZ (hw _ (List.mem_of_getElem? (i := 5) rfl)) (hw _ (List.mem_of_getElem? (i := 2) rfl)) (by decide) (by decide)) (g := (mkF m 80 #[.val (.int p1), .val (.int p2), .val (.long q3), .second, .val (.int p4), .val (.long q5), .second, .val (.int p6), .val (.int dd), .val (.int ee), .val (.long tt), .second, .val (.int pp), .unset, .unset, .unset, .unset, .unset, .unset] [(.int p4), (.long q3), (.int p2), (.int p1), (.ref b111), (.ref b111)])) rfl (by rw [hml]; rfl) (Steps.refl _) (a := b111) (argsL := [(.int p1), (.int p2), (.long q3), (.int p4)]) (rest := [(.ref b111)]) (lenOf pd_87 rfl) rfl (by show 2 * 0 + _ ≤ _; exact Nat.le_of_eq rfl) (hb hby at_80) (fun _ _ => ⟨rfl, e111, (by decide : 1 + 0 ≤ _), (by decide : 4 + 0 ≤ _)⟩)
  dsimp only [Pt.U, Pt.locs, Pt.cells, Pt.slots] at X118 l118 y118 z118 st118 hQ118
  subst l118 y118 z118
  obtain ⟨rfl, Nq118, K118, F0118, F1118, F2118, F3118⟩ := hQ118
  have N118 := Fr.app N0 Nq118
  have z119 : n0 ≤ T118.heap.size := Nat.le_trans z117 K118.1
  have c120 := c112.keep K118 (allS G111 all0)
  have c121 := A111.keep K118
  obtain ⟨T126, h126, X126, e126, E126, A126, D126, -, st126⟩ := newO X118 hx hZ hown (hw _ (List.mem_of_getElem? (i := 0) rfl)) (hw _ (List.mem_of_getElem? (i := 1) rfl)) (hw _ (List.mem_of_getElem? (i := 2) rfl)) rfl (g := (mkF m 85 #[.val (.int p1), .val (.int p2), .val (.long q3), .second, .val (.int p4), .val (.long q5), .second, .val (.int p6), .val (.int dd), .val (.int ee), .val (.long tt), .second, .val (.int pp), .val (.ref b111), .unset, .unset, .unset, .unset, .unset] [])) rfl (hb hby at_85) (by decide) (by decide)
  obtain ⟨b126, g126⟩ : ∃ z, z = T118.heap.size := ⟨_, rfl⟩
  rw [← g126] at A126 D126 st126
  have G126 : n0 ≤ b126 := Nat.le_trans z119 (Nat.le_of_eq g126.symm)
  have ne127 : b111 ≠ b126 := Nat.ne_of_lt (Nat.lt_of_lt_of_le c121.lt (Nat.le_of_eq g126.symm))
  have c128 := c120.ext E126
  have c129 := c121.ext E126
  have c130 := F0118.ext E126
  have c131 := F1118.ext E126
  have c132 := F2118.ext E126
  have c133 := F3118.ext E126
  have F134 : Fld Z h126 b126 "com/example/avocet/avocet/index/IndexStats" "documents" "I" (.int (0 : Int32)) := D126 (Or.inr (hw _ (List.mem_of_getElem? (i := 10) rfl))) (ty := .int) (by decide)
  have F135 : Fld Z h126 b126 "com/example/avocet/avocet/index/IndexStats" "terms" "I" (.int (0 : Int32)) := D126 (Or.inr (hw _ (List.mem_of_getElem? (i := 12) rfl))) (ty := .int) (by decide)
  have F136 : Fld Z h126 b126 "com/example/avocet/avocet/index/IndexStats" "tokens" "J" (.long (0 : Int64)) := D126 (Or.inr (hw _ (List.mem_of_getElem? (i := 14) rfl))) (ty := .long) (by decide)
  have F137 : Fld Z h126 b126 "com/example/avocet/avocet/index/IndexStats" "pairs" "I" (.int (0 : Int32)) := D126 (Or.inr (hw _ (List.mem_of_getElem? (i := 16) rfl))) (ty := .int) (by decide)
  have z138 : n0 ≤ h126.size := Nat.le_trans z119 E126.1
  obtain ⟨_, _, ⟨T139, L139, k139, n139⟩, -, X139, ⟨Lc139, hQ139, l139, y139, z139⟩, st139⟩ := X126.specialBack hx (y := (⟨"com/example/avocet/avocet/index/IndexStats", "<init>", "(IIJI)V"⟩ : MethodName)) rfl hown (mvT hZ (hw _ (List.mem_of_getElem? (i := 3) rfl))) (mvT hZ (hw _ (List.mem_of_getElem? (i := 4) rfl))) (mvT hZ (hw _ (List.mem_of_getElem? (i := 5) rfl))) (by decide) (backOf (W := 1) (rm1 l Z a0 hw [] b126 dd ee tt pp h126 n0 z138 A126 F134 F135 F136 F137 G126) hZ (hw _ (List.mem_of_getElem? (i := 5) rfl)) (hw _ (List.mem_of_getElem? (i := 2) rfl)) (by decide) (by decide)) (g := (mkF m 97 #[.val (.int p1), .val (.int p2), .val (.long q3), .second, .val (.int p4), .val (.long q5), .second, .val (.int p6), .val (.int dd), .val (.int ee), .val (.long tt), .second, .val (.int pp), .val (.ref b111), .unset, .unset, .unset, .unset, .unset] [(.int pp), (.long tt), (.int ee), (.int dd), (.ref b126), (.ref b126)])) rfl (by rw [hml]; rfl) (Steps.refl _) (a := b126) (argsL := [(.int dd), (.int ee), (.long tt), (.int pp)]) (rest := [(.ref b126)]) (lenOf pd_87 rfl) rfl (by show 2 * 0 + _ ≤ _; exact Nat.le_of_eq rfl) (hb hby at_97) (fun _ _ => ⟨rfl, e126, (by decide : 2 + 0 ≤ _), (by decide : 8 + 0 ≤ _)⟩)
  dsimp only [Pt.U, Pt.locs, Pt.cells, Pt.slots] at X139 l139 y139 z139 st139 hQ139
  subst l139 y139 z139
  obtain ⟨rfl, Nq139, K139, F0139, F1139, F2139, F3139⟩ := hQ139
  have N139 := Fr.app N118 Nq139
  have z140 : n0 ≤ T139.heap.size := Nat.le_trans z138 K139.1
  have c141 := c128.keep K139 (allS G126 all0)
  have c142 := c129.keep K139
  have c143 := c130.keep K139 (ninS ne127 nin0)
  have c144 := c131.keep K139 (ninS ne127 nin0)
  have c145 := c132.keep K139 (ninS ne127 nin0)
  have c146 := c133.keep K139 (ninS ne127 nin0)
  have c147 := A126.keep K139
  obtain ⟨T152, h152, X152, e152, E152, A152, D152, -, st152⟩ := newO X139 hx hZ hown (hw _ (List.mem_of_getElem? (i := 0) rfl)) (hw _ (List.mem_of_getElem? (i := 1) rfl)) (hw _ (List.mem_of_getElem? (i := 2) rfl)) rfl (g := (mkF m 102 #[.val (.int p1), .val (.int p2), .val (.long q3), .second, .val (.int p4), .val (.long q5), .second, .val (.int p6), .val (.int dd), .val (.int ee), .val (.long tt), .second, .val (.int pp), .val (.ref b111), .val (.ref b126), .unset, .unset, .unset, .unset] [])) rfl (hb hby at_102) (by decide) (by decide)
  obtain ⟨b152, g152⟩ : ∃ z, z = T139.heap.size := ⟨_, rfl⟩
  rw [← g152] at A152 D152 st152
  have G152 : n0 ≤ b152 := Nat.le_trans z140 (Nat.le_of_eq g152.symm)
  have ne153 : b111 ≠ b152 := Nat.ne_of_lt (Nat.lt_of_lt_of_le c142.lt (Nat.le_of_eq g152.symm))
  have ne154 : b126 ≠ b152 := Nat.ne_of_lt (Nat.lt_of_lt_of_le c147.lt (Nat.le_of_eq g152.symm))
  have c155 := c141.ext E152
  have c156 := c142.ext E152
  have c157 := c143.ext E152
  have c158 := c144.ext E152
  have c159 := c145.ext E152
  have c160 := c146.ext E152
  have c161 := c147.ext E152
  have c162 := F0139.ext E152
  have c163 := F1139.ext E152
  have c164 := F2139.ext E152
  have c165 := F3139.ext E152
  have F166 : Fld Z h152 b152 "com/example/avocet/avocet/index/IndexStats" "documents" "I" (.int (0 : Int32)) := D152 (Or.inr (hw _ (List.mem_of_getElem? (i := 10) rfl))) (ty := .int) (by decide)
  have F167 : Fld Z h152 b152 "com/example/avocet/avocet/index/IndexStats" "terms" "I" (.int (0 : Int32)) := D152 (Or.inr (hw _ (List.mem_of_getElem? (i := 12) rfl))) (ty := .int) (by decide)
  have F168 : Fld Z h152 b152 "com/example/avocet/avocet/index/IndexStats" "tokens" "J" (.long (0 : Int64)) := D152 (Or.inr (hw _ (List.mem_of_getElem? (i := 14) rfl))) (ty := .long) (by decide)
  have F169 : Fld Z h152 b152 "com/example/avocet/avocet/index/IndexStats" "pairs" "I" (.int (0 : Int32)) := D152 (Or.inr (hw _ (List.mem_of_getElem? (i := 16) rfl))) (ty := .int) (by decide)
  have z170 : n0 ≤ h152.size := Nat.le_trans z140 E152.1
  obtain ⟨_, _, ⟨T171, L171, k171, n171⟩, -, X171, ⟨Lc171, hQ171, l171, y171, z171⟩, st171⟩ := X152.specialBack hx (y := (⟨"com/example/avocet/avocet/index/IndexStats", "<init>", "(IIJI)V"⟩ : MethodName)) rfl hown (mvT hZ (hw _ (List.mem_of_getElem? (i := 3) rfl))) (mvT hZ (hw _ (List.mem_of_getElem? (i := 4) rfl))) (mvT hZ (hw _ (List.mem_of_getElem? (i := 5) rfl))) (by decide) (backOf (W := 1) (rm1 l Z a0 hw [] b152 p1 p2 q3 p4 h152 n0 z170 A152 F166 F167 F168 F169 G152) hZ (hw _ (List.mem_of_getElem? (i := 5) rfl)) (hw _ (List.mem_of_getElem? (i := 2) rfl)) (by decide) (by decide)) (g := (mkF m 111 #[.val (.int p1), .val (.int p2), .val (.long q3), .second, .val (.int p4), .val (.long q5), .second, .val (.int p6), .val (.int dd), .val (.int ee), .val (.long tt), .second, .val (.int pp), .val (.ref b111), .val (.ref b126), .unset, .unset, .unset, .unset] [(.int p4), (.long q3), (.int p2), (.int p1), (.ref b152), (.ref b152)])) rfl (by rw [hml]; rfl) (Steps.refl _) (a := b152) (argsL := [(.int p1), (.int p2), (.long q3), (.int p4)]) (rest := [(.ref b152)]) (lenOf pd_87 rfl) rfl (by show 2 * 0 + _ ≤ _; exact Nat.le_of_eq rfl) (hb hby at_111) (fun _ _ => ⟨rfl, e152, (by decide : 3 + 0 ≤ _), (by decide : 12 + 0 ≤ _)⟩)
  dsimp only [Pt.U, Pt.locs, Pt.cells, Pt.slots] at X171 l171 y171 z171 st171 hQ171
  subst l171 y171 z171
  obtain ⟨rfl, Nq171, K171, F0171, F1171, F2171, F3171⟩ := hQ171
  have N171 := Fr.app N139 Nq171
  have z172 : n0 ≤ T171.heap.size := Nat.le_trans z170 K171.1
  have c173 := c155.keep K171 (allS G152 all0)
  have c174 := c156.keep K171
  have c175 := c157.keep K171 (ninS ne153 nin0)
  have c176 := c158.keep K171 (ninS ne153 nin0)
  have c177 := c159.keep K171 (ninS ne153 nin0)
  have c178 := c160.keep K171 (ninS ne153 nin0)
  have c179 := c161.keep K171
  have c180 := c162.keep K171 (ninS ne154 nin0)
  have c181 := c163.keep K171 (ninS ne154 nin0)
  have c182 := c164.keep K171 (ninS ne154 nin0)
  have c183 := c165.keep K171 (ninS ne154 nin0)
  have c184 := A152.keep K171
  obtain ⟨_, _, ⟨T189, L189, k189, n189⟩, -, X189, ⟨Lc189, hQ189, l189, y189, z189⟩, st189⟩ := Jvm.LawKit.callS X171 hx (y := (⟨"java/lang/Integer", "valueOf", "(I)Ljava/lang/Integer;"⟩ : MethodName)) hown (mvT hZ (hw _ (List.mem_of_getElem? (i := 17) rfl))) (mvT hZ (hw _ (List.mem_of_getElem? (i := 18) rfl))) (mvT hZ (hw _ (List.mem_of_getElem? (i := 19) rfl))) (mvT hZ (hw _ (List.mem_of_getElem? (i := 20) rfl))) (by decide) (backOf (W := 0) (rm3 l Z a0 hw [] p1 T171.heap n0 z172 c173 C0) hZ (hw _ (List.mem_of_getElem? (i := 20) rfl)) (hw _ (List.mem_of_getElem? (i := 19) rfl)) (by decide) (by decide)) (g := (mkF m 117 #[.val (.int p1), .val (.int p2), .val (.long q3), .second, .val (.int p4), .val (.long q5), .second, .val (.int p6), .val (.int dd), .val (.int ee), .val (.long tt), .second, .val (.int pp), .val (.ref b111), .val (.ref b126), .val (.ref b152), .unset, .unset, .unset] [(.int p1)])) rfl (by rw [hml]; rfl) (argsL := [(.int p1)]) (rest := []) (lenOf pd_88 rfl) rfl (by show 2 * 0 + _ ≤ _; exact Nat.le_of_eq rfl) (hb hby at_117) (fun _ _ => ⟨rfl, rfl, (by decide : 3 + 1 ≤ _), (by decide : 12 + 1 ≤ _)⟩)
  dsimp only [Pt.U, Pt.locs, Pt.cells, Pt.slots] at X189 l189 y189 z189 st189 hQ189
  subst l189 y189 z189
  obtain ⟨r189, rfl, Nq189, K189, Er189⟩ := hQ189
  have N189 := Fr.app N171 Nq189
  have z190 : n0 ≤ T189.heap.size := Nat.le_trans z172 K189.1
  have c191 := c173.keep K189 all0
  have c192 := c174.keep K189
  have c193 := c175.keep K189 nin0
  have c194 := c176.keep K189 nin0
  have c195 := c177.keep K189 nin0
  have c196 := c178.keep K189 nin0
  have c197 := c179.keep K189
  have c198 := c180.keep K189 nin0
  have c199 := c181.keep K189 nin0
  have c200 := c182.keep K189 nin0
  have c201 := c183.keep K189 nin0
  have c202 := c184.keep K189
  have c203 := F0171.keep K189 nin0
  have c204 := F1171.keep K189 nin0
  have c205 := F2171.keep K189 nin0
  have c206 := F3171.keep K189 nin0
  have pre207 : ∀ t, Steps p.tables e below (T189.setTop (mkF m 128 #[.val (.int p1), .val (.int p2), .val (.long q3), .second, .val (.int p4), .val (.long q5), .second, .val (.int p6), .val (.int dd), .val (.int ee), .val (.long tt), .second, .val (.int pp), .val (.ref b111), .val (.ref b126), .val (.ref b152), .val (.ref r189), .unset, .unset] [(.int (((p6.toUInt32 >>> ((4 : Int32) &&& 31).toUInt32).toInt32) &&& (3 : Int32)))])) t → Steps p.tables e below (s₁.setTop (entryFrame m #[(.int p1), (.int p2), (.long q3), (.int p4), (.long q5), (.int p6)] maxLocals)) t := fun t kt => pre110 t (by
    show Steps p.tables e below (s₁.setTop (mkF m 69 #[.val (.int p1), .val (.int p2), .val (.long q3), .second, .val (.int p4), .val (.long q5), .second, .val (.int p6), .val (.int dd), .val (.int ee), .val (.long tt), .second, .unset, .unset, .unset, .unset, .unset, .unset, .unset] [(.int pp)])) _
    refine XS.istore X0.here hx rfl (hb hby at_69) rfl (l' := #[.val (.int p1), .val (.int p2), .val (.long q3), .second, .val (.int p4), .val (.long q5), .second, .val (.int p6), .val (.int dd), .val (.int ee), .val (.long tt), .second, .val (.int pp), .unset, .unset, .unset, .unset, .unset, .unset]) rfl ?_
    show Steps p.tables e below (s₁.setTop (mkF m 71 #[.val (.int p1), .val (.int p2), .val (.long q3), .second, .val (.int p4), .val (.long q5), .second, .val (.int p6), .val (.int dd), .val (.int ee), .val (.long tt), .second, .val (.int pp), .unset, .unset, .unset, .unset, .unset, .unset] [])) _
    refine st111 _ ?_
    show Steps p.tables e below (T111.setTop (mkF m 74 #[.val (.int p1), .val (.int p2), .val (.long q3), .second, .val (.int p4), .val (.long q5), .second, .val (.int p6), .val (.int dd), .val (.int ee), .val (.long tt), .second, .val (.int pp), .unset, .unset, .unset, .unset, .unset, .unset] [(.ref b111)])) _
    refine XS.dup X111.here hx rfl (hb hby at_74) rfl rfl ?_
    show Steps p.tables e below (T111.setTop (mkF m 75 #[.val (.int p1), .val (.int p2), .val (.long q3), .second, .val (.int p4), .val (.long q5), .second, .val (.int p6), .val (.int dd), .val (.int ee), .val (.long tt), .second, .val (.int pp), .unset, .unset, .unset, .unset, .unset, .unset] [(.ref b111), (.ref b111)])) _
    refine XS.iloadN X111.here hx rfl (hb hby at_75) rfl ?_
    show Steps p.tables e below (T111.setTop (mkF m 76 #[.val (.int p1), .val (.int p2), .val (.long q3), .second, .val (.int p4), .val (.long q5), .second, .val (.int p6), .val (.int dd), .val (.int ee), .val (.long tt), .second, .val (.int pp), .unset, .unset, .unset, .unset, .unset, .unset] [(.int p1), (.ref b111), (.ref b111)])) _
    refine XS.iloadN X111.here hx rfl (hb hby at_76) rfl ?_
    show Steps p.tables e below (T111.setTop (mkF m 77 #[.val (.int p1), .val (.int p2), .val (.long q3), .second, .val (.int p4), .val (.long q5), .second, .val (.int p6), .val (.int dd), .val (.int ee), .val (.long tt), .second, .val (.int pp), .unset, .unset, .unset, .unset, .unset, .unset] [(.int p2), (.int p1), (.ref b111), (.ref b111)])) _
    refine XS.lloadN X111.here hx rfl (hb hby at_77) rfl ?_
    show Steps p.tables e below (T111.setTop (mkF m 78 #[.val (.int p1), .val (.int p2), .val (.long q3), .second, .val (.int p4), .val (.long q5), .second, .val (.int p6), .val (.int dd), .val (.int ee), .val (.long tt), .second, .val (.int pp), .unset, .unset, .unset, .unset, .unset, .unset] [(.long q3), (.int p2), (.int p1), (.ref b111), (.ref b111)])) _
    refine XS.iload X111.here hx rfl (hb hby at_78) rfl ?_
    show Steps p.tables e below (T111.setTop (mkF m 80 #[.val (.int p1), .val (.int p2), .val (.long q3), .second, .val (.int p4), .val (.long q5), .second, .val (.int p6), .val (.int dd), .val (.int ee), .val (.long tt), .second, .val (.int pp), .unset, .unset, .unset, .unset, .unset, .unset] [(.int p4), (.long q3), (.int p2), (.int p1), (.ref b111), (.ref b111)])) _
    refine st118.trans ?_
    show Steps p.tables e below (T118.setTop (mkF m 83 #[.val (.int p1), .val (.int p2), .val (.long q3), .second, .val (.int p4), .val (.long q5), .second, .val (.int p6), .val (.int dd), .val (.int ee), .val (.long tt), .second, .val (.int pp), .unset, .unset, .unset, .unset, .unset, .unset] [(.ref b111)])) _
    refine XS.astore X118.here hx rfl (hb hby at_83) rfl rfl (l' := #[.val (.int p1), .val (.int p2), .val (.long q3), .second, .val (.int p4), .val (.long q5), .second, .val (.int p6), .val (.int dd), .val (.int ee), .val (.long tt), .second, .val (.int pp), .val (.ref b111), .unset, .unset, .unset, .unset, .unset]) rfl ?_
    show Steps p.tables e below (T118.setTop (mkF m 85 #[.val (.int p1), .val (.int p2), .val (.long q3), .second, .val (.int p4), .val (.long q5), .second, .val (.int p6), .val (.int dd), .val (.int ee), .val (.long tt), .second, .val (.int pp), .val (.ref b111), .unset, .unset, .unset, .unset, .unset] [])) _
    refine st126 _ ?_
    show Steps p.tables e below (T126.setTop (mkF m 88 #[.val (.int p1), .val (.int p2), .val (.long q3), .second, .val (.int p4), .val (.long q5), .second, .val (.int p6), .val (.int dd), .val (.int ee), .val (.long tt), .second, .val (.int pp), .val (.ref b111), .unset, .unset, .unset, .unset, .unset] [(.ref b126)])) _
    refine XS.dup X126.here hx rfl (hb hby at_88) rfl rfl ?_
    show Steps p.tables e below (T126.setTop (mkF m 89 #[.val (.int p1), .val (.int p2), .val (.long q3), .second, .val (.int p4), .val (.long q5), .second, .val (.int p6), .val (.int dd), .val (.int ee), .val (.long tt), .second, .val (.int pp), .val (.ref b111), .unset, .unset, .unset, .unset, .unset] [(.ref b126), (.ref b126)])) _
    refine XS.iload X126.here hx rfl (hb hby at_89) rfl ?_
    show Steps p.tables e below (T126.setTop (mkF m 91 #[.val (.int p1), .val (.int p2), .val (.long q3), .second, .val (.int p4), .val (.long q5), .second, .val (.int p6), .val (.int dd), .val (.int ee), .val (.long tt), .second, .val (.int pp), .val (.ref b111), .unset, .unset, .unset, .unset, .unset] [(.int dd), (.ref b126), (.ref b126)])) _
    refine XS.iload X126.here hx rfl (hb hby at_91) rfl ?_
    show Steps p.tables e below (T126.setTop (mkF m 93 #[.val (.int p1), .val (.int p2), .val (.long q3), .second, .val (.int p4), .val (.long q5), .second, .val (.int p6), .val (.int dd), .val (.int ee), .val (.long tt), .second, .val (.int pp), .val (.ref b111), .unset, .unset, .unset, .unset, .unset] [(.int ee), (.int dd), (.ref b126), (.ref b126)])) _
    refine XS.lload X126.here hx rfl (hb hby at_93) rfl ?_
    show Steps p.tables e below (T126.setTop (mkF m 95 #[.val (.int p1), .val (.int p2), .val (.long q3), .second, .val (.int p4), .val (.long q5), .second, .val (.int p6), .val (.int dd), .val (.int ee), .val (.long tt), .second, .val (.int pp), .val (.ref b111), .unset, .unset, .unset, .unset, .unset] [(.long tt), (.int ee), (.int dd), (.ref b126), (.ref b126)])) _
    refine XS.iload X126.here hx rfl (hb hby at_95) rfl ?_
    show Steps p.tables e below (T126.setTop (mkF m 97 #[.val (.int p1), .val (.int p2), .val (.long q3), .second, .val (.int p4), .val (.long q5), .second, .val (.int p6), .val (.int dd), .val (.int ee), .val (.long tt), .second, .val (.int pp), .val (.ref b111), .unset, .unset, .unset, .unset, .unset] [(.int pp), (.long tt), (.int ee), (.int dd), (.ref b126), (.ref b126)])) _
    refine st139.trans ?_
    show Steps p.tables e below (T139.setTop (mkF m 100 #[.val (.int p1), .val (.int p2), .val (.long q3), .second, .val (.int p4), .val (.long q5), .second, .val (.int p6), .val (.int dd), .val (.int ee), .val (.long tt), .second, .val (.int pp), .val (.ref b111), .unset, .unset, .unset, .unset, .unset] [(.ref b126)])) _
    refine XS.astore X139.here hx rfl (hb hby at_100) rfl rfl (l' := #[.val (.int p1), .val (.int p2), .val (.long q3), .second, .val (.int p4), .val (.long q5), .second, .val (.int p6), .val (.int dd), .val (.int ee), .val (.long tt), .second, .val (.int pp), .val (.ref b111), .val (.ref b126), .unset, .unset, .unset, .unset]) rfl ?_
    show Steps p.tables e below (T139.setTop (mkF m 102 #[.val (.int p1), .val (.int p2), .val (.long q3), .second, .val (.int p4), .val (.long q5), .second, .val (.int p6), .val (.int dd), .val (.int ee), .val (.long tt), .second, .val (.int pp), .val (.ref b111), .val (.ref b126), .unset, .unset, .unset, .unset] [])) _
    refine st152 _ ?_
    show Steps p.tables e below (T152.setTop (mkF m 105 #[.val (.int p1), .val (.int p2), .val (.long q3), .second, .val (.int p4), .val (.long q5), .second, .val (.int p6), .val (.int dd), .val (.int ee), .val (.long tt), .second, .val (.int pp), .val (.ref b111), .val (.ref b126), .unset, .unset, .unset, .unset] [(.ref b152)])) _
    refine XS.dup X152.here hx rfl (hb hby at_105) rfl rfl ?_
    show Steps p.tables e below (T152.setTop (mkF m 106 #[.val (.int p1), .val (.int p2), .val (.long q3), .second, .val (.int p4), .val (.long q5), .second, .val (.int p6), .val (.int dd), .val (.int ee), .val (.long tt), .second, .val (.int pp), .val (.ref b111), .val (.ref b126), .unset, .unset, .unset, .unset] [(.ref b152), (.ref b152)])) _
    refine XS.iloadN X152.here hx rfl (hb hby at_106) rfl ?_
    show Steps p.tables e below (T152.setTop (mkF m 107 #[.val (.int p1), .val (.int p2), .val (.long q3), .second, .val (.int p4), .val (.long q5), .second, .val (.int p6), .val (.int dd), .val (.int ee), .val (.long tt), .second, .val (.int pp), .val (.ref b111), .val (.ref b126), .unset, .unset, .unset, .unset] [(.int p1), (.ref b152), (.ref b152)])) _
    refine XS.iloadN X152.here hx rfl (hb hby at_107) rfl ?_
    show Steps p.tables e below (T152.setTop (mkF m 108 #[.val (.int p1), .val (.int p2), .val (.long q3), .second, .val (.int p4), .val (.long q5), .second, .val (.int p6), .val (.int dd), .val (.int ee), .val (.long tt), .second, .val (.int pp), .val (.ref b111), .val (.ref b126), .unset, .unset, .unset, .unset] [(.int p2), (.int p1), (.ref b152), (.ref b152)])) _
    refine XS.lloadN X152.here hx rfl (hb hby at_108) rfl ?_
    show Steps p.tables e below (T152.setTop (mkF m 109 #[.val (.int p1), .val (.int p2), .val (.long q3), .second, .val (.int p4), .val (.long q5), .second, .val (.int p6), .val (.int dd), .val (.int ee), .val (.long tt), .second, .val (.int pp), .val (.ref b111), .val (.ref b126), .unset, .unset, .unset, .unset] [(.long q3), (.int p2), (.int p1), (.ref b152), (.ref b152)])) _
    refine XS.iload X152.here hx rfl (hb hby at_109) rfl ?_
    show Steps p.tables e below (T152.setTop (mkF m 111 #[.val (.int p1), .val (.int p2), .val (.long q3), .second, .val (.int p4), .val (.long q5), .second, .val (.int p6), .val (.int dd), .val (.int ee), .val (.long tt), .second, .val (.int pp), .val (.ref b111), .val (.ref b126), .unset, .unset, .unset, .unset] [(.int p4), (.long q3), (.int p2), (.int p1), (.ref b152), (.ref b152)])) _
    refine st171.trans ?_
    show Steps p.tables e below (T171.setTop (mkF m 114 #[.val (.int p1), .val (.int p2), .val (.long q3), .second, .val (.int p4), .val (.long q5), .second, .val (.int p6), .val (.int dd), .val (.int ee), .val (.long tt), .second, .val (.int pp), .val (.ref b111), .val (.ref b126), .unset, .unset, .unset, .unset] [(.ref b152)])) _
    refine XS.astore X171.here hx rfl (hb hby at_114) rfl rfl (l' := #[.val (.int p1), .val (.int p2), .val (.long q3), .second, .val (.int p4), .val (.long q5), .second, .val (.int p6), .val (.int dd), .val (.int ee), .val (.long tt), .second, .val (.int pp), .val (.ref b111), .val (.ref b126), .val (.ref b152), .unset, .unset, .unset]) rfl ?_
    show Steps p.tables e below (T171.setTop (mkF m 116 #[.val (.int p1), .val (.int p2), .val (.long q3), .second, .val (.int p4), .val (.long q5), .second, .val (.int p6), .val (.int dd), .val (.int ee), .val (.long tt), .second, .val (.int pp), .val (.ref b111), .val (.ref b126), .val (.ref b152), .unset, .unset, .unset] [])) _
    refine XS.iloadN X171.here hx rfl (hb hby at_116) rfl ?_
    show Steps p.tables e below (T171.setTop (mkF m 117 #[.val (.int p1), .val (.int p2), .val (.long q3), .second, .val (.int p4), .val (.long q5), .second, .val (.int p6), .val (.int dd), .val (.int ee), .val (.long tt), .second, .val (.int pp), .val (.ref b111), .val (.ref b126), .val (.ref b152), .unset, .unset, .unset] [(.int p1)])) _
    refine st189 _ ?_
    show Steps p.tables e below (T189.setTop (mkF m 120 #[.val (.int p1), .val (.int p2), .val (.long q3), .second, .val (.int p4), .val (.long q5), .second, .val (.int p6), .val (.int dd), .val (.int ee), .val (.long tt), .second, .val (.int pp), .val (.ref b111), .val (.ref b126), .val (.ref b152), .unset, .unset, .unset] [(.ref r189)])) _
    refine XS.astore X189.here hx rfl (hb hby at_120) rfl rfl (l' := #[.val (.int p1), .val (.int p2), .val (.long q3), .second, .val (.int p4), .val (.long q5), .second, .val (.int p6), .val (.int dd), .val (.int ee), .val (.long tt), .second, .val (.int pp), .val (.ref b111), .val (.ref b126), .val (.ref b152), .val (.ref r189), .unset, .unset]) rfl ?_
    show Steps p.tables e below (T189.setTop (mkF m 122 #[.val (.int p1), .val (.int p2), .val (.long q3), .second, .val (.int p4), .val (.long q5), .second, .val (.int p6), .val (.int dd), .val (.int ee), .val (.long tt), .second, .val (.int pp), .val (.ref b111), .val (.ref b126), .val (.ref b152), .val (.ref r189), .unset, .unset] [])) _
    refine XS.iload X189.here hx rfl (hb hby at_122) rfl ?_
    show Steps p.tables e below (T189.setTop (mkF m 124 #[.val (.int p1), .val (.int p2), .val (.long q3), .second, .val (.int p4), .val (.long q5), .second, .val (.int p6), .val (.int dd), .val (.int ee), .val (.long tt), .second, .val (.int pp), .val (.ref b111), .val (.ref b126), .val (.ref b152), .val (.ref r189), .unset, .unset] [(.int p6)])) _
    refine XS.iconst X189.here hx rfl (hb hby at_124) ?_
    show Steps p.tables e below (T189.setTop (mkF m 125 #[.val (.int p1), .val (.int p2), .val (.long q3), .second, .val (.int p4), .val (.long q5), .second, .val (.int p6), .val (.int dd), .val (.int ee), .val (.long tt), .second, .val (.int pp), .val (.ref b111), .val (.ref b126), .val (.ref b152), .val (.ref r189), .unset, .unset] [(.int (4 : Int32)), (.int p6)])) _
    refine XS.iushr X189.here hx rfl (hb hby at_125) rfl ?_
    show Steps p.tables e below (T189.setTop (mkF m 126 #[.val (.int p1), .val (.int p2), .val (.long q3), .second, .val (.int p4), .val (.long q5), .second, .val (.int p6), .val (.int dd), .val (.int ee), .val (.long tt), .second, .val (.int pp), .val (.ref b111), .val (.ref b126), .val (.ref b152), .val (.ref r189), .unset, .unset] [(.int ((p6.toUInt32 >>> ((4 : Int32) &&& 31).toUInt32).toInt32))])) _
    refine XS.iconst X189.here hx rfl (hb hby at_126) ?_
    show Steps p.tables e below (T189.setTop (mkF m 127 #[.val (.int p1), .val (.int p2), .val (.long q3), .second, .val (.int p4), .val (.long q5), .second, .val (.int p6), .val (.int dd), .val (.int ee), .val (.long tt), .second, .val (.int pp), .val (.ref b111), .val (.ref b126), .val (.ref b152), .val (.ref r189), .unset, .unset] [(.int (3 : Int32)), (.int ((p6.toUInt32 >>> ((4 : Int32) &&& 31).toUInt32).toInt32))])) _
    refine XS.iand X189.here hx rfl (hb hby at_127) rfl ?_
    exact kt)
  obtain ⟨md, hmd⟩ : ∃ z : Int32, z = (((p6.toUInt32 >>> ((4 : Int32) &&& 31).toUInt32).toInt32) &&& (3 : Int32)) := ⟨_, rfl⟩
  have pre208 : ∀ t, Steps p.tables e below (T189.setTop (mkF m 128 #[.val (.int p1), .val (.int p2), .val (.long q3), .second, .val (.int p4), .val (.long q5), .second, .val (.int p6), .val (.int dd), .val (.int ee), .val (.long tt), .second, .val (.int pp), .val (.ref b111), .val (.ref b126), .val (.ref b152), .val (.ref r189), .unset, .unset] [(.int md)])) t → Steps p.tables e below (s₁.setTop (entryFrame m #[(.int p1), (.int p2), (.long q3), (.int p4), (.long q5), (.int p6)] maxLocals)) t := by rw [hmd]; exact pre207
  have pre209 : ∀ t, Steps p.tables e below (T189.setTop (mkF m 133 #[.val (.int p1), .val (.int p2), .val (.long q3), .second, .val (.int p4), .val (.long q5), .second, .val (.int p6), .val (.int dd), .val (.int ee), .val (.long tt), .second, .val (.int pp), .val (.ref b111), .val (.ref b126), .val (.ref b152), .val (.ref r189), .val (.int md), .unset] [(.int (1 : Int32)), (.int md)])) t → Steps p.tables e below (s₁.setTop (entryFrame m #[(.int p1), (.int p2), (.long q3), (.int p4), (.long q5), (.int p6)] maxLocals)) t := fun t kt => pre208 t (by
    show Steps p.tables e below (T189.setTop (mkF m 128 #[.val (.int p1), .val (.int p2), .val (.long q3), .second, .val (.int p4), .val (.long q5), .second, .val (.int p6), .val (.int dd), .val (.int ee), .val (.long tt), .second, .val (.int pp), .val (.ref b111), .val (.ref b126), .val (.ref b152), .val (.ref r189), .unset, .unset] [(.int md)])) _
    refine XS.istore X189.here hx rfl (hb hby at_128) rfl (l' := #[.val (.int p1), .val (.int p2), .val (.long q3), .second, .val (.int p4), .val (.long q5), .second, .val (.int p6), .val (.int dd), .val (.int ee), .val (.long tt), .second, .val (.int pp), .val (.ref b111), .val (.ref b126), .val (.ref b152), .val (.ref r189), .val (.int md), .unset]) rfl ?_
    show Steps p.tables e below (T189.setTop (mkF m 130 #[.val (.int p1), .val (.int p2), .val (.long q3), .second, .val (.int p4), .val (.long q5), .second, .val (.int p6), .val (.int dd), .val (.int ee), .val (.long tt), .second, .val (.int pp), .val (.ref b111), .val (.ref b126), .val (.ref b152), .val (.ref r189), .val (.int md), .unset] [])) _
    refine XS.iload X189.here hx rfl (hb hby at_130) rfl ?_
    show Steps p.tables e below (T189.setTop (mkF m 132 #[.val (.int p1), .val (.int p2), .val (.long q3), .second, .val (.int p4), .val (.long q5), .second, .val (.int p6), .val (.int dd), .val (.int ee), .val (.long tt), .second, .val (.int pp), .val (.ref b111), .val (.ref b126), .val (.ref b152), .val (.ref r189), .val (.int md), .unset] [(.int md)])) _
    refine XS.iconst X189.here hx rfl (hb hby at_132) ?_
    exact kt)
  by_cases hc210 : md = (1 : Int32)
  case pos =>
    obtain ⟨cq211, kq211, q211a, q211b, q211c⟩ := isOf hZ rfl c192
    obtain ⟨_, _, ⟨T211, L211, k211, n211⟩, -, X211, ⟨Lc211, hQ211, l211, y211, z211⟩, st211⟩ := X189.virtualBack hx (y := (⟨"com/example/avocet/avocet/index/IndexStats", "equals", "(Ljava/lang/Object;)Z"⟩ : MethodName)) (z := (⟨"com/example/avocet/avocet/index/IndexStats", "equals", "(Ljava/lang/Object;)Z"⟩ : MethodName)) hown (mvT hZ (hw _ (List.mem_of_getElem? (i := 24) rfl))) (mvT hZ (hw _ (List.mem_of_getElem? (i := 25) rfl))) (notFace_of_selects (args := #[]) (mvT hZ (hw _ (List.mem_of_getElem? (i := 27) rfl)))) (mvT hZ (hw _ (List.mem_of_getElem? (i := 27) rfl))) (mvT hZ (hw _ (List.mem_of_getElem? (i := 26) rfl))) (by decide) (backOf (W := 0) (rm4n l Z a0 hw [] b111 T189.heap n0 z190) hZ (hw _ (List.mem_of_getElem? (i := 28) rfl)) (hw _ (List.mem_of_getElem? (i := 2) rfl)) (by decide) (by decide)) q211a q211c (g := (mkF m 139 #[.val (.int p1), .val (.int p2), .val (.long q3), .second, .val (.int p4), .val (.long q5), .second, .val (.int p6), .val (.int dd), .val (.int ee), .val (.long tt), .second, .val (.int pp), .val (.ref b111), .val (.ref b126), .val (.ref b152), .val (.ref r189), .val (.int md), .unset] [.null, (.ref b111)])) rfl (by rw [hml]; rfl) (Steps.refl _) (argsL := [.null]) (rest := []) (lenOf pd_89 rfl) rfl (by show 2 * 0 + _ ≤ _; exact Nat.le_of_eq rfl) (hb hby at_139) (fun _ _ => ⟨rfl, rfl, (by decide : 4 + 0 ≤ _), (by decide : 13 + 0 ≤ _)⟩)
    dsimp only [Pt.U, Pt.locs, Pt.cells, Pt.slots] at X211 l211 y211 z211 st211 hQ211
    subst l211 y211 z211
    obtain ⟨rfl, Nq211, e211⟩ := hQ211
    have N211 := Fr.app N189 Nq211
    have pre212 : ∀ t, Steps p.tables e below (T211.setTop (mkF m 150 #[.val (.int p1), .val (.int p2), .val (.long q3), .second, .val (.int p4), .val (.long q5), .second, .val (.int p6), .val (.int dd), .val (.int ee), .val (.long tt), .second, .val (.int pp), .val (.ref b111), .val (.ref b126), .val (.ref b152), .val (.ref r189), .val (.int md), .unset] [(.int (1 : Int32))])) t → Steps p.tables e below (s₁.setTop (entryFrame m #[(.int p1), (.int p2), (.long q3), (.int p4), (.long q5), (.int p6)] maxLocals)) t := fun t kt => pre209 t (by
      show Steps p.tables e below (T189.setTop (mkF m 133 #[.val (.int p1), .val (.int p2), .val (.long q3), .second, .val (.int p4), .val (.long q5), .second, .val (.int p6), .val (.int dd), .val (.int ee), .val (.long tt), .second, .val (.int pp), .val (.ref b111), .val (.ref b126), .val (.ref b152), .val (.ref r189), .val (.int md), .unset] [(.int (1 : Int32)), (.int md)])) _
      refine XS.icmpNo X189.here hx rfl (hb hby at_133) rfl (teq hc210).2 ?_
      show Steps p.tables e below (T189.setTop (mkF m 136 #[.val (.int p1), .val (.int p2), .val (.long q3), .second, .val (.int p4), .val (.long q5), .second, .val (.int p6), .val (.int dd), .val (.int ee), .val (.long tt), .second, .val (.int pp), .val (.ref b111), .val (.ref b126), .val (.ref b152), .val (.ref r189), .val (.int md), .unset] [])) _
      refine XS.aload X189.here hx rfl (hb hby at_136) rfl rfl ?_
      show Steps p.tables e below (T189.setTop (mkF m 138 #[.val (.int p1), .val (.int p2), .val (.long q3), .second, .val (.int p4), .val (.long q5), .second, .val (.int p6), .val (.int dd), .val (.int ee), .val (.long tt), .second, .val (.int pp), .val (.ref b111), .val (.ref b126), .val (.ref b152), .val (.ref r189), .val (.int md), .unset] [(.ref b111)])) _
      refine XS.aconstNull X189.here hx rfl (hb hby at_138) ?_
      show Steps p.tables e below (T189.setTop (mkF m 139 #[.val (.int p1), .val (.int p2), .val (.long q3), .second, .val (.int p4), .val (.long q5), .second, .val (.int p6), .val (.int dd), .val (.int ee), .val (.long tt), .second, .val (.int pp), .val (.ref b111), .val (.ref b126), .val (.ref b152), .val (.ref r189), .val (.int md), .unset] [.null, (.ref b111)])) _
      refine st211.trans ?_
      show Steps p.tables e below (T211.setTop (mkF m 142 #[.val (.int p1), .val (.int p2), .val (.long q3), .second, .val (.int p4), .val (.long q5), .second, .val (.int p6), .val (.int dd), .val (.int ee), .val (.long tt), .second, .val (.int pp), .val (.ref b111), .val (.ref b126), .val (.ref b152), .val (.ref r189), .val (.int md), .unset] [(.int (0 : Int32))])) _
      refine XS.ifNo X211.here hx rfl (hb hby at_142) rfl ((if0 _ _).trans (teq (by decide : (0 : Int32) = (0 : Int32))).2) ?_
      show Steps p.tables e below (T211.setTop (mkF m 145 #[.val (.int p1), .val (.int p2), .val (.long q3), .second, .val (.int p4), .val (.long q5), .second, .val (.int p6), .val (.int dd), .val (.int ee), .val (.long tt), .second, .val (.int pp), .val (.ref b111), .val (.ref b126), .val (.ref b152), .val (.ref r189), .val (.int md), .unset] [])) _
      refine XS.iconst X211.here hx rfl (hb hby at_145) ?_
      show Steps p.tables e below (T211.setTop (mkF m 146 #[.val (.int p1), .val (.int p2), .val (.long q3), .second, .val (.int p4), .val (.long q5), .second, .val (.int p6), .val (.int dd), .val (.int ee), .val (.long tt), .second, .val (.int pp), .val (.ref b111), .val (.ref b126), .val (.ref b152), .val (.ref r189), .val (.int md), .unset] [(.int (1 : Int32))])) _
      refine XS.goto X211.here hx rfl (pc0 := 146) (pc' := 150) rfl (hb hby at_146) (by decide) (by decide) ?_
      exact kt)
    exact own_retN X211 hx Bd.notSynchronized (t := .boolean) Bd.returns (by simp) (hb hby at_150) pre212 (show Q0 h0 n0 _ _ _ from ⟨rfl, N211⟩) (by decide) (by decide)
  case neg =>
    have pre213 : ∀ t, Steps p.tables e below (T189.setTop (mkF m 154 #[.val (.int p1), .val (.int p2), .val (.long q3), .second, .val (.int p4), .val (.long q5), .second, .val (.int p6), .val (.int dd), .val (.int ee), .val (.long tt), .second, .val (.int pp), .val (.ref b111), .val (.ref b126), .val (.ref b152), .val (.ref r189), .val (.int md), .unset] [(.int (2 : Int32)), (.int md)])) t → Steps p.tables e below (s₁.setTop (entryFrame m #[(.int p1), (.int p2), (.long q3), (.int p4), (.long q5), (.int p6)] maxLocals)) t := fun t kt => pre209 t (by
      show Steps p.tables e below (T189.setTop (mkF m 133 #[.val (.int p1), .val (.int p2), .val (.long q3), .second, .val (.int p4), .val (.long q5), .second, .val (.int p6), .val (.int dd), .val (.int ee), .val (.long tt), .second, .val (.int pp), .val (.ref b111), .val (.ref b126), .val (.ref b152), .val (.ref r189), .val (.int md), .unset] [(.int (1 : Int32)), (.int md)])) _
      refine XS.icmpYes X189.here hx rfl (pc0 := 133) (pc' := 151) rfl (hb hby at_133) rfl (feq hc210).2 (by decide) (by decide) ?_
      show Steps p.tables e below (T189.setTop (mkF m 151 #[.val (.int p1), .val (.int p2), .val (.long q3), .second, .val (.int p4), .val (.long q5), .second, .val (.int p6), .val (.int dd), .val (.int ee), .val (.long tt), .second, .val (.int pp), .val (.ref b111), .val (.ref b126), .val (.ref b152), .val (.ref r189), .val (.int md), .unset] [])) _
      refine XS.iload X189.here hx rfl (hb hby at_151) rfl ?_
      show Steps p.tables e below (T189.setTop (mkF m 153 #[.val (.int p1), .val (.int p2), .val (.long q3), .second, .val (.int p4), .val (.long q5), .second, .val (.int p6), .val (.int dd), .val (.int ee), .val (.long tt), .second, .val (.int pp), .val (.ref b111), .val (.ref b126), .val (.ref b152), .val (.ref r189), .val (.int md), .unset] [(.int md)])) _
      refine XS.iconst X189.here hx rfl (hb hby at_153) ?_
      exact kt)
    by_cases hc214 : md = (2 : Int32)
    case pos =>
      obtain ⟨cq215, kq215, q215a, q215b, q215c⟩ := isOf hZ rfl c192
      obtain ⟨_, _, ⟨T215, L215, k215, n215⟩, -, X215, ⟨Lc215, hQ215, l215, y215, z215⟩, st215⟩ := X189.virtualBack hx (y := (⟨"com/example/avocet/avocet/index/IndexStats", "equals", "(Ljava/lang/Object;)Z"⟩ : MethodName)) (z := (⟨"com/example/avocet/avocet/index/IndexStats", "equals", "(Ljava/lang/Object;)Z"⟩ : MethodName)) hown (mvT hZ (hw _ (List.mem_of_getElem? (i := 24) rfl))) (mvT hZ (hw _ (List.mem_of_getElem? (i := 25) rfl))) (notFace_of_selects (args := #[]) (mvT hZ (hw _ (List.mem_of_getElem? (i := 27) rfl)))) (mvT hZ (hw _ (List.mem_of_getElem? (i := 27) rfl))) (mvT hZ (hw _ (List.mem_of_getElem? (i := 26) rfl))) (by decide) (backOf (W := 0) (rm4i l Z a0 hw [] b111 r189 T189.heap n0 z190 Er189) hZ (hw _ (List.mem_of_getElem? (i := 28) rfl)) (hw _ (List.mem_of_getElem? (i := 2) rfl)) (by decide) (by decide)) q215a q215c (g := (mkF m 161 #[.val (.int p1), .val (.int p2), .val (.long q3), .second, .val (.int p4), .val (.long q5), .second, .val (.int p6), .val (.int dd), .val (.int ee), .val (.long tt), .second, .val (.int pp), .val (.ref b111), .val (.ref b126), .val (.ref b152), .val (.ref r189), .val (.int md), .unset] [(.ref r189), (.ref b111)])) rfl (by rw [hml]; rfl) (Steps.refl _) (argsL := [(.ref r189)]) (rest := []) (lenOf pd_89 rfl) rfl (by show 2 * 0 + _ ≤ _; exact Nat.le_of_eq rfl) (hb hby at_161) (fun _ _ => ⟨rfl, rfl, (by decide : 4 + 0 ≤ _), (by decide : 13 + 0 ≤ _)⟩)
      dsimp only [Pt.U, Pt.locs, Pt.cells, Pt.slots] at X215 l215 y215 z215 st215 hQ215
      subst l215 y215 z215
      obtain ⟨rfl, Nq215, e215⟩ := hQ215
      have N215 := Fr.app N189 Nq215
      have pre216 : ∀ t, Steps p.tables e below (T215.setTop (mkF m 172 #[.val (.int p1), .val (.int p2), .val (.long q3), .second, .val (.int p4), .val (.long q5), .second, .val (.int p6), .val (.int dd), .val (.int ee), .val (.long tt), .second, .val (.int pp), .val (.ref b111), .val (.ref b126), .val (.ref b152), .val (.ref r189), .val (.int md), .unset] [(.int (1 : Int32))])) t → Steps p.tables e below (s₁.setTop (entryFrame m #[(.int p1), (.int p2), (.long q3), (.int p4), (.long q5), (.int p6)] maxLocals)) t := fun t kt => pre213 t (by
        show Steps p.tables e below (T189.setTop (mkF m 154 #[.val (.int p1), .val (.int p2), .val (.long q3), .second, .val (.int p4), .val (.long q5), .second, .val (.int p6), .val (.int dd), .val (.int ee), .val (.long tt), .second, .val (.int pp), .val (.ref b111), .val (.ref b126), .val (.ref b152), .val (.ref r189), .val (.int md), .unset] [(.int (2 : Int32)), (.int md)])) _
        refine XS.icmpNo X189.here hx rfl (hb hby at_154) rfl (teq hc214).2 ?_
        show Steps p.tables e below (T189.setTop (mkF m 157 #[.val (.int p1), .val (.int p2), .val (.long q3), .second, .val (.int p4), .val (.long q5), .second, .val (.int p6), .val (.int dd), .val (.int ee), .val (.long tt), .second, .val (.int pp), .val (.ref b111), .val (.ref b126), .val (.ref b152), .val (.ref r189), .val (.int md), .unset] [])) _
        refine XS.aload X189.here hx rfl (hb hby at_157) rfl rfl ?_
        show Steps p.tables e below (T189.setTop (mkF m 159 #[.val (.int p1), .val (.int p2), .val (.long q3), .second, .val (.int p4), .val (.long q5), .second, .val (.int p6), .val (.int dd), .val (.int ee), .val (.long tt), .second, .val (.int pp), .val (.ref b111), .val (.ref b126), .val (.ref b152), .val (.ref r189), .val (.int md), .unset] [(.ref b111)])) _
        refine XS.aload X189.here hx rfl (hb hby at_159) rfl rfl ?_
        show Steps p.tables e below (T189.setTop (mkF m 161 #[.val (.int p1), .val (.int p2), .val (.long q3), .second, .val (.int p4), .val (.long q5), .second, .val (.int p6), .val (.int dd), .val (.int ee), .val (.long tt), .second, .val (.int pp), .val (.ref b111), .val (.ref b126), .val (.ref b152), .val (.ref r189), .val (.int md), .unset] [(.ref r189), (.ref b111)])) _
        refine st215.trans ?_
        show Steps p.tables e below (T215.setTop (mkF m 164 #[.val (.int p1), .val (.int p2), .val (.long q3), .second, .val (.int p4), .val (.long q5), .second, .val (.int p6), .val (.int dd), .val (.int ee), .val (.long tt), .second, .val (.int pp), .val (.ref b111), .val (.ref b126), .val (.ref b152), .val (.ref r189), .val (.int md), .unset] [(.int (0 : Int32))])) _
        refine XS.ifNo X215.here hx rfl (hb hby at_164) rfl ((if0 _ _).trans (teq (by decide : (0 : Int32) = (0 : Int32))).2) ?_
        show Steps p.tables e below (T215.setTop (mkF m 167 #[.val (.int p1), .val (.int p2), .val (.long q3), .second, .val (.int p4), .val (.long q5), .second, .val (.int p6), .val (.int dd), .val (.int ee), .val (.long tt), .second, .val (.int pp), .val (.ref b111), .val (.ref b126), .val (.ref b152), .val (.ref r189), .val (.int md), .unset] [])) _
        refine XS.iconst X215.here hx rfl (hb hby at_167) ?_
        show Steps p.tables e below (T215.setTop (mkF m 168 #[.val (.int p1), .val (.int p2), .val (.long q3), .second, .val (.int p4), .val (.long q5), .second, .val (.int p6), .val (.int dd), .val (.int ee), .val (.long tt), .second, .val (.int pp), .val (.ref b111), .val (.ref b126), .val (.ref b152), .val (.ref r189), .val (.int md), .unset] [(.int (1 : Int32))])) _
        refine XS.goto X215.here hx rfl (pc0 := 168) (pc' := 172) rfl (hb hby at_168) (by decide) (by decide) ?_
        exact kt)
      exact own_retN X215 hx Bd.notSynchronized (t := .boolean) Bd.returns (by simp) (hb hby at_172) pre216 (show Q0 h0 n0 _ _ _ from ⟨rfl, N215⟩) (by decide) (by decide)
    case neg =>
      have pre217 : ∀ t, Steps p.tables e below (T189.setTop (mkF m 176 #[.val (.int p1), .val (.int p2), .val (.long q3), .second, .val (.int p4), .val (.long q5), .second, .val (.int p6), .val (.int dd), .val (.int ee), .val (.long tt), .second, .val (.int pp), .val (.ref b111), .val (.ref b126), .val (.ref b152), .val (.ref r189), .val (.int md), .unset] [(.int (3 : Int32)), (.int md)])) t → Steps p.tables e below (s₁.setTop (entryFrame m #[(.int p1), (.int p2), (.long q3), (.int p4), (.long q5), (.int p6)] maxLocals)) t := fun t kt => pre213 t (by
        show Steps p.tables e below (T189.setTop (mkF m 154 #[.val (.int p1), .val (.int p2), .val (.long q3), .second, .val (.int p4), .val (.long q5), .second, .val (.int p6), .val (.int dd), .val (.int ee), .val (.long tt), .second, .val (.int pp), .val (.ref b111), .val (.ref b126), .val (.ref b152), .val (.ref r189), .val (.int md), .unset] [(.int (2 : Int32)), (.int md)])) _
        refine XS.icmpYes X189.here hx rfl (pc0 := 154) (pc' := 173) rfl (hb hby at_154) rfl (feq hc214).2 (by decide) (by decide) ?_
        show Steps p.tables e below (T189.setTop (mkF m 173 #[.val (.int p1), .val (.int p2), .val (.long q3), .second, .val (.int p4), .val (.long q5), .second, .val (.int p6), .val (.int dd), .val (.int ee), .val (.long tt), .second, .val (.int pp), .val (.ref b111), .val (.ref b126), .val (.ref b152), .val (.ref r189), .val (.int md), .unset] [])) _
        refine XS.iload X189.here hx rfl (hb hby at_173) rfl ?_
        show Steps p.tables e below (T189.setTop (mkF m 175 #[.val (.int p1), .val (.int p2), .val (.long q3), .second, .val (.int p4), .val (.long q5), .second, .val (.int p6), .val (.int dd), .val (.int ee), .val (.long tt), .second, .val (.int pp), .val (.ref b111), .val (.ref b126), .val (.ref b152), .val (.ref r189), .val (.int md), .unset] [(.int md)])) _
        refine XS.iconst X189.here hx rfl (hb hby at_175) ?_
        exact kt)
      by_cases hc218 : md = (3 : Int32)
      case pos =>
        obtain ⟨cq219, kq219, q219a, q219b, q219c⟩ := isOf hZ rfl c192
        obtain ⟨_, _, ⟨T219, L219, k219, n219⟩, -, X219, ⟨Lc219, hQ219, l219, y219, z219⟩, st219⟩ := X189.virtualBack hx (y := (⟨"com/example/avocet/avocet/index/IndexStats", "equals", "(Ljava/lang/Object;)Z"⟩ : MethodName)) (z := (⟨"com/example/avocet/avocet/index/IndexStats", "equals", "(Ljava/lang/Object;)Z"⟩ : MethodName)) hown (mvT hZ (hw _ (List.mem_of_getElem? (i := 24) rfl))) (mvT hZ (hw _ (List.mem_of_getElem? (i := 25) rfl))) (notFace_of_selects (args := #[]) (mvT hZ (hw _ (List.mem_of_getElem? (i := 27) rfl)))) (mvT hZ (hw _ (List.mem_of_getElem? (i := 27) rfl))) (mvT hZ (hw _ (List.mem_of_getElem? (i := 26) rfl))) (by decide) (backOf (W := 0) (rm4s l Z a0 hw [] b111 b111 p1 p2 q3 p4 p1 p2 q3 p4 T189.heap n0 z190 c192 c193 c194 c195 c196 c193 c194 c195 c196) hZ (hw _ (List.mem_of_getElem? (i := 28) rfl)) (hw _ (List.mem_of_getElem? (i := 2) rfl)) (by decide) (by decide)) q219a q219c (g := (mkF m 183 #[.val (.int p1), .val (.int p2), .val (.long q3), .second, .val (.int p4), .val (.long q5), .second, .val (.int p6), .val (.int dd), .val (.int ee), .val (.long tt), .second, .val (.int pp), .val (.ref b111), .val (.ref b126), .val (.ref b152), .val (.ref r189), .val (.int md), .unset] [(.ref b111), (.ref b111)])) rfl (by rw [hml]; rfl) (Steps.refl _) (argsL := [(.ref b111)]) (rest := []) (lenOf pd_89 rfl) rfl (by show 2 * 0 + _ ≤ _; exact Nat.le_of_eq rfl) (hb hby at_183) (fun _ _ => ⟨rfl, rfl, (by decide : 4 + 0 ≤ _), (by decide : 13 + 0 ≤ _)⟩)
        dsimp only [Pt.U, Pt.locs, Pt.cells, Pt.slots] at X219 l219 y219 z219 st219 hQ219
        subst l219 y219 z219
        obtain ⟨rfl, Nq219, e219⟩ := hQ219
        have N219 := Fr.app N189 Nq219
        have h1 : ¬ ((if p1 = p1 then (if p2 = p2 then (if q3 = q3 then (if p4 = p4 then (1 : Int32) else (0 : Int32)) else (0 : Int32)) else (0 : Int32)) else (0 : Int32)) = (0 : Int32)) := by simp
        obtain ⟨cq220, kq220, q220a, q220b, q220c⟩ := isOf hZ e219 c192
        obtain ⟨_, _, ⟨T220, L220, k220, n220⟩, -, X220, ⟨Lc220, hQ220, l220, y220, z220⟩, st220⟩ := X219.virtualBack hx (y := (⟨"com/example/avocet/avocet/index/IndexStats", "equals", "(Ljava/lang/Object;)Z"⟩ : MethodName)) (z := (⟨"com/example/avocet/avocet/index/IndexStats", "equals", "(Ljava/lang/Object;)Z"⟩ : MethodName)) hown (mvT hZ (hw _ (List.mem_of_getElem? (i := 24) rfl))) (mvT hZ (hw _ (List.mem_of_getElem? (i := 25) rfl))) (notFace_of_selects (args := #[]) (mvT hZ (hw _ (List.mem_of_getElem? (i := 27) rfl)))) (mvT hZ (hw _ (List.mem_of_getElem? (i := 27) rfl))) (mvT hZ (hw _ (List.mem_of_getElem? (i := 26) rfl))) (by decide) (backOf (W := 0) (rm4s l Z a0 hw [] b111 b152 p1 p2 q3 p4 p1 p2 q3 p4 T189.heap n0 z190 c202 c193 c194 c195 c196 c203 c204 c205 c206) hZ (hw _ (List.mem_of_getElem? (i := 28) rfl)) (hw _ (List.mem_of_getElem? (i := 2) rfl)) (by decide) (by decide)) q220a q220c (g := (mkF m 193 #[.val (.int p1), .val (.int p2), .val (.long q3), .second, .val (.int p4), .val (.long q5), .second, .val (.int p6), .val (.int dd), .val (.int ee), .val (.long tt), .second, .val (.int pp), .val (.ref b111), .val (.ref b126), .val (.ref b152), .val (.ref r189), .val (.int md), .unset] [(.ref b152), (.ref b111)])) rfl (by rw [hml]; rfl) (Steps.refl _) (argsL := [(.ref b152)]) (rest := []) (lenOf pd_89 rfl) rfl (by show 2 * 0 + _ ≤ _; exact Nat.le_of_eq rfl) (hb hby at_193) (fun _ _ => ⟨rfl, e219, (by decide : 4 + 0 ≤ _), (by decide : 13 + 0 ≤ _)⟩)
        dsimp only [Pt.U, Pt.locs, Pt.cells, Pt.slots] at X220 l220 y220 z220 st220 hQ220
        subst l220 y220 z220
        obtain ⟨rfl, Nq220, e220⟩ := hQ220
        have N220 := Fr.app N219 Nq220
        obtain ⟨cq221, kq221, q221a, q221b, q221c⟩ := isOf hZ e220 c202
        obtain ⟨_, _, ⟨T221, L221, k221, n221⟩, -, X221, ⟨Lc221, hQ221, l221, y221, z221⟩, st221⟩ := X220.virtualBack hx (y := (⟨"com/example/avocet/avocet/index/IndexStats", "equals", "(Ljava/lang/Object;)Z"⟩ : MethodName)) (z := (⟨"com/example/avocet/avocet/index/IndexStats", "equals", "(Ljava/lang/Object;)Z"⟩ : MethodName)) hown (mvT hZ (hw _ (List.mem_of_getElem? (i := 24) rfl))) (mvT hZ (hw _ (List.mem_of_getElem? (i := 25) rfl))) (notFace_of_selects (args := #[]) (mvT hZ (hw _ (List.mem_of_getElem? (i := 27) rfl)))) (mvT hZ (hw _ (List.mem_of_getElem? (i := 27) rfl))) (mvT hZ (hw _ (List.mem_of_getElem? (i := 26) rfl))) (by decide) (backOf (W := 0) (rm4s l Z a0 hw [] b152 b111 p1 p2 q3 p4 p1 p2 q3 p4 T189.heap n0 z190 c192 c203 c204 c205 c206 c193 c194 c195 c196) hZ (hw _ (List.mem_of_getElem? (i := 28) rfl)) (hw _ (List.mem_of_getElem? (i := 2) rfl)) (by decide) (by decide)) q221a q221c (g := (mkF m 203 #[.val (.int p1), .val (.int p2), .val (.long q3), .second, .val (.int p4), .val (.long q5), .second, .val (.int p6), .val (.int dd), .val (.int ee), .val (.long tt), .second, .val (.int pp), .val (.ref b111), .val (.ref b126), .val (.ref b152), .val (.ref r189), .val (.int md), .unset] [(.ref b111), (.ref b152)])) rfl (by rw [hml]; rfl) (Steps.refl _) (argsL := [(.ref b111)]) (rest := []) (lenOf pd_89 rfl) rfl (by show 2 * 0 + _ ≤ _; exact Nat.le_of_eq rfl) (hb hby at_203) (fun _ _ => ⟨rfl, e220, (by decide : 4 + 0 ≤ _), (by decide : 13 + 0 ≤ _)⟩)
        dsimp only [Pt.U, Pt.locs, Pt.cells, Pt.slots] at X221 l221 y221 z221 st221 hQ221
        subst l221 y221 z221
        obtain ⟨rfl, Nq221, e221⟩ := hQ221
        have N221 := Fr.app N220 Nq221
        have pre222 : ∀ t, Steps p.tables e below (T221.setTop (mkF m 214 #[.val (.int p1), .val (.int p2), .val (.long q3), .second, .val (.int p4), .val (.long q5), .second, .val (.int p6), .val (.int dd), .val (.int ee), .val (.long tt), .second, .val (.int pp), .val (.ref b111), .val (.ref b126), .val (.ref b152), .val (.ref r189), .val (.int md), .unset] [(.int (1 : Int32))])) t → Steps p.tables e below (s₁.setTop (entryFrame m #[(.int p1), (.int p2), (.long q3), (.int p4), (.long q5), (.int p6)] maxLocals)) t := fun t kt => pre217 t (by
          show Steps p.tables e below (T189.setTop (mkF m 176 #[.val (.int p1), .val (.int p2), .val (.long q3), .second, .val (.int p4), .val (.long q5), .second, .val (.int p6), .val (.int dd), .val (.int ee), .val (.long tt), .second, .val (.int pp), .val (.ref b111), .val (.ref b126), .val (.ref b152), .val (.ref r189), .val (.int md), .unset] [(.int (3 : Int32)), (.int md)])) _
          refine XS.icmpNo X189.here hx rfl (hb hby at_176) rfl (teq hc218).2 ?_
          show Steps p.tables e below (T189.setTop (mkF m 179 #[.val (.int p1), .val (.int p2), .val (.long q3), .second, .val (.int p4), .val (.long q5), .second, .val (.int p6), .val (.int dd), .val (.int ee), .val (.long tt), .second, .val (.int pp), .val (.ref b111), .val (.ref b126), .val (.ref b152), .val (.ref r189), .val (.int md), .unset] [])) _
          refine XS.aload X189.here hx rfl (hb hby at_179) rfl rfl ?_
          show Steps p.tables e below (T189.setTop (mkF m 181 #[.val (.int p1), .val (.int p2), .val (.long q3), .second, .val (.int p4), .val (.long q5), .second, .val (.int p6), .val (.int dd), .val (.int ee), .val (.long tt), .second, .val (.int pp), .val (.ref b111), .val (.ref b126), .val (.ref b152), .val (.ref r189), .val (.int md), .unset] [(.ref b111)])) _
          refine XS.aload X189.here hx rfl (hb hby at_181) rfl rfl ?_
          show Steps p.tables e below (T189.setTop (mkF m 183 #[.val (.int p1), .val (.int p2), .val (.long q3), .second, .val (.int p4), .val (.long q5), .second, .val (.int p6), .val (.int dd), .val (.int ee), .val (.long tt), .second, .val (.int pp), .val (.ref b111), .val (.ref b126), .val (.ref b152), .val (.ref r189), .val (.int md), .unset] [(.ref b111), (.ref b111)])) _
          refine st219.trans ?_
          show Steps p.tables e below (T219.setTop (mkF m 186 #[.val (.int p1), .val (.int p2), .val (.long q3), .second, .val (.int p4), .val (.long q5), .second, .val (.int p6), .val (.int dd), .val (.int ee), .val (.long tt), .second, .val (.int pp), .val (.ref b111), .val (.ref b126), .val (.ref b152), .val (.ref r189), .val (.int md), .unset] [(.int (if p1 = p1 then (if p2 = p2 then (if q3 = q3 then (if p4 = p4 then (1 : Int32) else (0 : Int32)) else (0 : Int32)) else (0 : Int32)) else (0 : Int32)))])) _
          refine XS.ifNo X219.here hx rfl (hb hby at_186) rfl ((if0 _ _).trans (feq h1).1) ?_
          show Steps p.tables e below (T219.setTop (mkF m 189 #[.val (.int p1), .val (.int p2), .val (.long q3), .second, .val (.int p4), .val (.long q5), .second, .val (.int p6), .val (.int dd), .val (.int ee), .val (.long tt), .second, .val (.int pp), .val (.ref b111), .val (.ref b126), .val (.ref b152), .val (.ref r189), .val (.int md), .unset] [])) _
          refine XS.aload X219.here hx rfl (hb hby at_189) rfl rfl ?_
          show Steps p.tables e below (T219.setTop (mkF m 191 #[.val (.int p1), .val (.int p2), .val (.long q3), .second, .val (.int p4), .val (.long q5), .second, .val (.int p6), .val (.int dd), .val (.int ee), .val (.long tt), .second, .val (.int pp), .val (.ref b111), .val (.ref b126), .val (.ref b152), .val (.ref r189), .val (.int md), .unset] [(.ref b111)])) _
          refine XS.aload X219.here hx rfl (hb hby at_191) rfl rfl ?_
          show Steps p.tables e below (T219.setTop (mkF m 193 #[.val (.int p1), .val (.int p2), .val (.long q3), .second, .val (.int p4), .val (.long q5), .second, .val (.int p6), .val (.int dd), .val (.int ee), .val (.long tt), .second, .val (.int pp), .val (.ref b111), .val (.ref b126), .val (.ref b152), .val (.ref r189), .val (.int md), .unset] [(.ref b152), (.ref b111)])) _
          refine st220.trans ?_
          show Steps p.tables e below (T220.setTop (mkF m 196 #[.val (.int p1), .val (.int p2), .val (.long q3), .second, .val (.int p4), .val (.long q5), .second, .val (.int p6), .val (.int dd), .val (.int ee), .val (.long tt), .second, .val (.int pp), .val (.ref b111), .val (.ref b126), .val (.ref b152), .val (.ref r189), .val (.int md), .unset] [(.int (if p1 = p1 then (if p2 = p2 then (if q3 = q3 then (if p4 = p4 then (1 : Int32) else (0 : Int32)) else (0 : Int32)) else (0 : Int32)) else (0 : Int32)))])) _
          refine XS.ifNo X220.here hx rfl (hb hby at_196) rfl ((if0 _ _).trans (feq h1).1) ?_
          show Steps p.tables e below (T220.setTop (mkF m 199 #[.val (.int p1), .val (.int p2), .val (.long q3), .second, .val (.int p4), .val (.long q5), .second, .val (.int p6), .val (.int dd), .val (.int ee), .val (.long tt), .second, .val (.int pp), .val (.ref b111), .val (.ref b126), .val (.ref b152), .val (.ref r189), .val (.int md), .unset] [])) _
          refine XS.aload X220.here hx rfl (hb hby at_199) rfl rfl ?_
          show Steps p.tables e below (T220.setTop (mkF m 201 #[.val (.int p1), .val (.int p2), .val (.long q3), .second, .val (.int p4), .val (.long q5), .second, .val (.int p6), .val (.int dd), .val (.int ee), .val (.long tt), .second, .val (.int pp), .val (.ref b111), .val (.ref b126), .val (.ref b152), .val (.ref r189), .val (.int md), .unset] [(.ref b152)])) _
          refine XS.aload X220.here hx rfl (hb hby at_201) rfl rfl ?_
          show Steps p.tables e below (T220.setTop (mkF m 203 #[.val (.int p1), .val (.int p2), .val (.long q3), .second, .val (.int p4), .val (.long q5), .second, .val (.int p6), .val (.int dd), .val (.int ee), .val (.long tt), .second, .val (.int pp), .val (.ref b111), .val (.ref b126), .val (.ref b152), .val (.ref r189), .val (.int md), .unset] [(.ref b111), (.ref b152)])) _
          refine st221.trans ?_
          show Steps p.tables e below (T221.setTop (mkF m 206 #[.val (.int p1), .val (.int p2), .val (.long q3), .second, .val (.int p4), .val (.long q5), .second, .val (.int p6), .val (.int dd), .val (.int ee), .val (.long tt), .second, .val (.int pp), .val (.ref b111), .val (.ref b126), .val (.ref b152), .val (.ref r189), .val (.int md), .unset] [(.int (if p1 = p1 then (if p2 = p2 then (if q3 = q3 then (if p4 = p4 then (1 : Int32) else (0 : Int32)) else (0 : Int32)) else (0 : Int32)) else (0 : Int32)))])) _
          refine XS.ifNo X221.here hx rfl (hb hby at_206) rfl ((if0 _ _).trans (feq h1).1) ?_
          show Steps p.tables e below (T221.setTop (mkF m 209 #[.val (.int p1), .val (.int p2), .val (.long q3), .second, .val (.int p4), .val (.long q5), .second, .val (.int p6), .val (.int dd), .val (.int ee), .val (.long tt), .second, .val (.int pp), .val (.ref b111), .val (.ref b126), .val (.ref b152), .val (.ref r189), .val (.int md), .unset] [])) _
          refine XS.iconst X221.here hx rfl (hb hby at_209) ?_
          show Steps p.tables e below (T221.setTop (mkF m 210 #[.val (.int p1), .val (.int p2), .val (.long q3), .second, .val (.int p4), .val (.long q5), .second, .val (.int p6), .val (.int dd), .val (.int ee), .val (.long tt), .second, .val (.int pp), .val (.ref b111), .val (.ref b126), .val (.ref b152), .val (.ref r189), .val (.int md), .unset] [(.int (1 : Int32))])) _
          refine XS.goto X221.here hx rfl (pc0 := 210) (pc' := 214) rfl (hb hby at_210) (by decide) (by decide) ?_
          exact kt)
        exact own_retN X221 hx Bd.notSynchronized (t := .boolean) Bd.returns (by simp) (hb hby at_214) pre222 (show Q0 h0 n0 _ _ _ from ⟨rfl, N221⟩) (by decide) (by decide)
      case neg =>
        have pre223 : ∀ t, Steps p.tables e below (T189.setTop (mkF m 218 #[.val (.int p1), .val (.int p2), .val (.long q3), .second, .val (.int p4), .val (.long q5), .second, .val (.int p6), .val (.int dd), .val (.int ee), .val (.long tt), .second, .val (.int pp), .val (.ref b111), .val (.ref b126), .val (.ref b152), .val (.ref r189), .val (.int md), .unset] [(.int dd), (.int p1)])) t → Steps p.tables e below (s₁.setTop (entryFrame m #[(.int p1), (.int p2), (.long q3), (.int p4), (.long q5), (.int p6)] maxLocals)) t := fun t kt => pre217 t (by
          show Steps p.tables e below (T189.setTop (mkF m 176 #[.val (.int p1), .val (.int p2), .val (.long q3), .second, .val (.int p4), .val (.long q5), .second, .val (.int p6), .val (.int dd), .val (.int ee), .val (.long tt), .second, .val (.int pp), .val (.ref b111), .val (.ref b126), .val (.ref b152), .val (.ref r189), .val (.int md), .unset] [(.int (3 : Int32)), (.int md)])) _
          refine XS.icmpYes X189.here hx rfl (pc0 := 176) (pc' := 215) rfl (hb hby at_176) rfl (feq hc218).2 (by decide) (by decide) ?_
          show Steps p.tables e below (T189.setTop (mkF m 215 #[.val (.int p1), .val (.int p2), .val (.long q3), .second, .val (.int p4), .val (.long q5), .second, .val (.int p6), .val (.int dd), .val (.int ee), .val (.long tt), .second, .val (.int pp), .val (.ref b111), .val (.ref b126), .val (.ref b152), .val (.ref r189), .val (.int md), .unset] [])) _
          refine XS.iloadN X189.here hx rfl (hb hby at_215) rfl ?_
          show Steps p.tables e below (T189.setTop (mkF m 216 #[.val (.int p1), .val (.int p2), .val (.long q3), .second, .val (.int p4), .val (.long q5), .second, .val (.int p6), .val (.int dd), .val (.int ee), .val (.long tt), .second, .val (.int pp), .val (.ref b111), .val (.ref b126), .val (.ref b152), .val (.ref r189), .val (.int md), .unset] [(.int p1)])) _
          refine XS.iload X189.here hx rfl (hb hby at_216) rfl ?_
          exact kt)
        obtain ⟨ex1, hex1⟩ : ∃ z : Int32, z = (if p1 = dd then (if p2 = ee then (if q3 = tt then (if p4 = pp then (1 : Int32) else (0 : Int32)) else (0 : Int32)) else (0 : Int32)) else (0 : Int32)) := ⟨_, rfl⟩
        have pre228 : ∀ t, Steps p.tables e below (T189.setTop (mkF m 246 #[.val (.int p1), .val (.int p2), .val (.long q3), .second, .val (.int p4), .val (.long q5), .second, .val (.int p6), .val (.int dd), .val (.int ee), .val (.long tt), .second, .val (.int pp), .val (.ref b111), .val (.ref b126), .val (.ref b152), .val (.ref r189), .val (.int md), .unset] [(.int ex1)])) t → Steps p.tables e below (s₁.setTop (entryFrame m #[(.int p1), (.int p2), (.long q3), (.int p4), (.long q5), (.int p6)] maxLocals)) t := fun t kt => pre223 t (by
          by_cases hc224 : p1 = dd
          case pos =>
            show Steps p.tables e below (T189.setTop (mkF m 218 #[.val (.int p1), .val (.int p2), .val (.long q3), .second, .val (.int p4), .val (.long q5), .second, .val (.int p6), .val (.int dd), .val (.int ee), .val (.long tt), .second, .val (.int pp), .val (.ref b111), .val (.ref b126), .val (.ref b152), .val (.ref r189), .val (.int md), .unset] [(.int dd), (.int p1)])) _
            refine XS.icmpNo X189.here hx rfl (hb hby at_218) rfl (teq hc224).2 ?_
            show Steps p.tables e below (T189.setTop (mkF m 221 #[.val (.int p1), .val (.int p2), .val (.long q3), .second, .val (.int p4), .val (.long q5), .second, .val (.int p6), .val (.int dd), .val (.int ee), .val (.long tt), .second, .val (.int pp), .val (.ref b111), .val (.ref b126), .val (.ref b152), .val (.ref r189), .val (.int md), .unset] [])) _
            refine XS.iloadN X189.here hx rfl (hb hby at_221) rfl ?_
            show Steps p.tables e below (T189.setTop (mkF m 222 #[.val (.int p1), .val (.int p2), .val (.long q3), .second, .val (.int p4), .val (.long q5), .second, .val (.int p6), .val (.int dd), .val (.int ee), .val (.long tt), .second, .val (.int pp), .val (.ref b111), .val (.ref b126), .val (.ref b152), .val (.ref r189), .val (.int md), .unset] [(.int p2)])) _
            refine XS.iload X189.here hx rfl (hb hby at_222) rfl ?_
            by_cases hc225 : p2 = ee
            case pos =>
              show Steps p.tables e below (T189.setTop (mkF m 224 #[.val (.int p1), .val (.int p2), .val (.long q3), .second, .val (.int p4), .val (.long q5), .second, .val (.int p6), .val (.int dd), .val (.int ee), .val (.long tt), .second, .val (.int pp), .val (.ref b111), .val (.ref b126), .val (.ref b152), .val (.ref r189), .val (.int md), .unset] [(.int ee), (.int p2)])) _
              refine XS.icmpNo X189.here hx rfl (hb hby at_224) rfl (teq hc225).2 ?_
              show Steps p.tables e below (T189.setTop (mkF m 227 #[.val (.int p1), .val (.int p2), .val (.long q3), .second, .val (.int p4), .val (.long q5), .second, .val (.int p6), .val (.int dd), .val (.int ee), .val (.long tt), .second, .val (.int pp), .val (.ref b111), .val (.ref b126), .val (.ref b152), .val (.ref r189), .val (.int md), .unset] [])) _
              refine XS.lloadN X189.here hx rfl (hb hby at_227) rfl ?_
              show Steps p.tables e below (T189.setTop (mkF m 228 #[.val (.int p1), .val (.int p2), .val (.long q3), .second, .val (.int p4), .val (.long q5), .second, .val (.int p6), .val (.int dd), .val (.int ee), .val (.long tt), .second, .val (.int pp), .val (.ref b111), .val (.ref b126), .val (.ref b152), .val (.ref r189), .val (.int md), .unset] [(.long q3)])) _
              refine XS.lload X189.here hx rfl (hb hby at_228) rfl ?_
              show Steps p.tables e below (T189.setTop (mkF m 230 #[.val (.int p1), .val (.int p2), .val (.long q3), .second, .val (.int p4), .val (.long q5), .second, .val (.int p6), .val (.int dd), .val (.int ee), .val (.long tt), .second, .val (.int pp), .val (.ref b111), .val (.ref b126), .val (.ref b152), .val (.ref r189), .val (.int md), .unset] [(.long tt), (.long q3)])) _
              refine XS.lcmp X189.here hx rfl (hb hby at_230) rfl ?_
              by_cases hc226 : q3 = tt
              case pos =>
                show Steps p.tables e below (T189.setTop (mkF m 231 #[.val (.int p1), .val (.int p2), .val (.long q3), .second, .val (.int p4), .val (.long q5), .second, .val (.int p6), .val (.int dd), .val (.int ee), .val (.long tt), .second, .val (.int pp), .val (.ref b111), .val (.ref b126), .val (.ref b152), .val (.ref r189), .val (.int md), .unset] [(.int (lcmpW q3 tt))])) _
                refine XS.ifNo X189.here hx rfl (hb hby at_231) rfl ((if0 _ _).trans (teq ((lw_eq _ _).mpr hc226)).2) ?_
                show Steps p.tables e below (T189.setTop (mkF m 234 #[.val (.int p1), .val (.int p2), .val (.long q3), .second, .val (.int p4), .val (.long q5), .second, .val (.int p6), .val (.int dd), .val (.int ee), .val (.long tt), .second, .val (.int pp), .val (.ref b111), .val (.ref b126), .val (.ref b152), .val (.ref r189), .val (.int md), .unset] [])) _
                refine XS.iload X189.here hx rfl (hb hby at_234) rfl ?_
                show Steps p.tables e below (T189.setTop (mkF m 236 #[.val (.int p1), .val (.int p2), .val (.long q3), .second, .val (.int p4), .val (.long q5), .second, .val (.int p6), .val (.int dd), .val (.int ee), .val (.long tt), .second, .val (.int pp), .val (.ref b111), .val (.ref b126), .val (.ref b152), .val (.ref r189), .val (.int md), .unset] [(.int p4)])) _
                refine XS.iload X189.here hx rfl (hb hby at_236) rfl ?_
                by_cases hc227 : p4 = pp
                case pos =>
                  show Steps p.tables e below (T189.setTop (mkF m 238 #[.val (.int p1), .val (.int p2), .val (.long q3), .second, .val (.int p4), .val (.long q5), .second, .val (.int p6), .val (.int dd), .val (.int ee), .val (.long tt), .second, .val (.int pp), .val (.ref b111), .val (.ref b126), .val (.ref b152), .val (.ref r189), .val (.int md), .unset] [(.int pp), (.int p4)])) _
                  refine XS.icmpNo X189.here hx rfl (hb hby at_238) rfl (teq hc227).2 ?_
                  show Steps p.tables e below (T189.setTop (mkF m 241 #[.val (.int p1), .val (.int p2), .val (.long q3), .second, .val (.int p4), .val (.long q5), .second, .val (.int p6), .val (.int dd), .val (.int ee), .val (.long tt), .second, .val (.int pp), .val (.ref b111), .val (.ref b126), .val (.ref b152), .val (.ref r189), .val (.int md), .unset] [])) _
                  refine XS.iconst X189.here hx rfl (hb hby at_241) ?_
                  show Steps p.tables e below (T189.setTop (mkF m 242 #[.val (.int p1), .val (.int p2), .val (.long q3), .second, .val (.int p4), .val (.long q5), .second, .val (.int p6), .val (.int dd), .val (.int ee), .val (.long tt), .second, .val (.int pp), .val (.ref b111), .val (.ref b126), .val (.ref b152), .val (.ref r189), .val (.int md), .unset] [(.int (1 : Int32))])) _
                  refine XS.goto X189.here hx rfl (pc0 := 242) (pc' := 246) rfl (hb hby at_242) (by decide) (by decide) ?_
                  rw [show ex1 = (1 : Int32) from ((((hex1.trans (if_pos hc224)).trans (if_pos hc225)).trans (if_pos hc226)).trans (if_pos hc227))] at kt
                  exact kt
                case neg =>
                  show Steps p.tables e below (T189.setTop (mkF m 238 #[.val (.int p1), .val (.int p2), .val (.long q3), .second, .val (.int p4), .val (.long q5), .second, .val (.int p6), .val (.int dd), .val (.int ee), .val (.long tt), .second, .val (.int pp), .val (.ref b111), .val (.ref b126), .val (.ref b152), .val (.ref r189), .val (.int md), .unset] [(.int pp), (.int p4)])) _
                  refine XS.icmpYes X189.here hx rfl (pc0 := 238) (pc' := 245) rfl (hb hby at_238) rfl (feq hc227).2 (by decide) (by decide) ?_
                  show Steps p.tables e below (T189.setTop (mkF m 245 #[.val (.int p1), .val (.int p2), .val (.long q3), .second, .val (.int p4), .val (.long q5), .second, .val (.int p6), .val (.int dd), .val (.int ee), .val (.long tt), .second, .val (.int pp), .val (.ref b111), .val (.ref b126), .val (.ref b152), .val (.ref r189), .val (.int md), .unset] [])) _
                  refine XS.iconst X189.here hx rfl (hb hby at_245) ?_
                  rw [show ex1 = (0 : Int32) from ((((hex1.trans (if_pos hc224)).trans (if_pos hc225)).trans (if_pos hc226)).trans (if_neg hc227))] at kt
                  exact kt
              case neg =>
                show Steps p.tables e below (T189.setTop (mkF m 231 #[.val (.int p1), .val (.int p2), .val (.long q3), .second, .val (.int p4), .val (.long q5), .second, .val (.int p6), .val (.int dd), .val (.int ee), .val (.long tt), .second, .val (.int pp), .val (.ref b111), .val (.ref b126), .val (.ref b152), .val (.ref r189), .val (.int md), .unset] [(.int (lcmpW q3 tt))])) _
                refine XS.ifYes X189.here hx rfl (pc0 := 231) (pc' := 245) rfl (hb hby at_231) rfl ((if0 _ _).trans (feq (fun q => hc226 ((lw_eq _ _).mp q))).2) (by decide) (by decide) ?_
                show Steps p.tables e below (T189.setTop (mkF m 245 #[.val (.int p1), .val (.int p2), .val (.long q3), .second, .val (.int p4), .val (.long q5), .second, .val (.int p6), .val (.int dd), .val (.int ee), .val (.long tt), .second, .val (.int pp), .val (.ref b111), .val (.ref b126), .val (.ref b152), .val (.ref r189), .val (.int md), .unset] [])) _
                refine XS.iconst X189.here hx rfl (hb hby at_245) ?_
                rw [show ex1 = (0 : Int32) from (((hex1.trans (if_pos hc224)).trans (if_pos hc225)).trans (if_neg hc226))] at kt
                exact kt
            case neg =>
              show Steps p.tables e below (T189.setTop (mkF m 224 #[.val (.int p1), .val (.int p2), .val (.long q3), .second, .val (.int p4), .val (.long q5), .second, .val (.int p6), .val (.int dd), .val (.int ee), .val (.long tt), .second, .val (.int pp), .val (.ref b111), .val (.ref b126), .val (.ref b152), .val (.ref r189), .val (.int md), .unset] [(.int ee), (.int p2)])) _
              refine XS.icmpYes X189.here hx rfl (pc0 := 224) (pc' := 245) rfl (hb hby at_224) rfl (feq hc225).2 (by decide) (by decide) ?_
              show Steps p.tables e below (T189.setTop (mkF m 245 #[.val (.int p1), .val (.int p2), .val (.long q3), .second, .val (.int p4), .val (.long q5), .second, .val (.int p6), .val (.int dd), .val (.int ee), .val (.long tt), .second, .val (.int pp), .val (.ref b111), .val (.ref b126), .val (.ref b152), .val (.ref r189), .val (.int md), .unset] [])) _
              refine XS.iconst X189.here hx rfl (hb hby at_245) ?_
              rw [show ex1 = (0 : Int32) from ((hex1.trans (if_pos hc224)).trans (if_neg hc225))] at kt
              exact kt
          case neg =>
            show Steps p.tables e below (T189.setTop (mkF m 218 #[.val (.int p1), .val (.int p2), .val (.long q3), .second, .val (.int p4), .val (.long q5), .second, .val (.int p6), .val (.int dd), .val (.int ee), .val (.long tt), .second, .val (.int pp), .val (.ref b111), .val (.ref b126), .val (.ref b152), .val (.ref r189), .val (.int md), .unset] [(.int dd), (.int p1)])) _
            refine XS.icmpYes X189.here hx rfl (pc0 := 218) (pc' := 245) rfl (hb hby at_218) rfl (feq hc224).2 (by decide) (by decide) ?_
            show Steps p.tables e below (T189.setTop (mkF m 245 #[.val (.int p1), .val (.int p2), .val (.long q3), .second, .val (.int p4), .val (.long q5), .second, .val (.int p6), .val (.int dd), .val (.int ee), .val (.long tt), .second, .val (.int pp), .val (.ref b111), .val (.ref b126), .val (.ref b152), .val (.ref r189), .val (.int md), .unset] [])) _
            refine XS.iconst X189.here hx rfl (hb hby at_245) ?_
            rw [show ex1 = (0 : Int32) from (hex1.trans (if_neg hc224))] at kt
            exact kt)
        obtain ⟨cq229, kq229, q229a, q229b, q229c⟩ := isOf hZ rfl c192
        obtain ⟨_, _, ⟨T229, L229, k229, n229⟩, -, X229, ⟨Lc229, hQ229, l229, y229, z229⟩, st229⟩ := X189.virtualBack hx (y := (⟨"com/example/avocet/avocet/index/IndexStats", "equals", "(Ljava/lang/Object;)Z"⟩ : MethodName)) (z := (⟨"com/example/avocet/avocet/index/IndexStats", "equals", "(Ljava/lang/Object;)Z"⟩ : MethodName)) hown (mvT hZ (hw _ (List.mem_of_getElem? (i := 24) rfl))) (mvT hZ (hw _ (List.mem_of_getElem? (i := 25) rfl))) (notFace_of_selects (args := #[]) (mvT hZ (hw _ (List.mem_of_getElem? (i := 27) rfl)))) (mvT hZ (hw _ (List.mem_of_getElem? (i := 27) rfl))) (mvT hZ (hw _ (List.mem_of_getElem? (i := 26) rfl))) (by decide) (backOf (W := 0) (rm4s l Z a0 hw [] b111 b126 p1 p2 q3 p4 dd ee tt pp T189.heap n0 z190 c197 c193 c194 c195 c196 c198 c199 c200 c201) hZ (hw _ (List.mem_of_getElem? (i := 28) rfl)) (hw _ (List.mem_of_getElem? (i := 2) rfl)) (by decide) (by decide)) q229a q229c (g := (mkF m 252 #[.val (.int p1), .val (.int p2), .val (.long q3), .second, .val (.int p4), .val (.long q5), .second, .val (.int p6), .val (.int dd), .val (.int ee), .val (.long tt), .second, .val (.int pp), .val (.ref b111), .val (.ref b126), .val (.ref b152), .val (.ref r189), .val (.int md), .val (.int ex1)] [(.ref b126), (.ref b111)])) rfl (by rw [hml]; rfl) (Steps.refl _) (argsL := [(.ref b126)]) (rest := []) (lenOf pd_89 rfl) rfl (by show 2 * 0 + _ ≤ _; exact Nat.le_of_eq rfl) (hb hby at_252) (fun _ _ => ⟨rfl, rfl, (by decide : 4 + 0 ≤ _), (by decide : 13 + 0 ≤ _)⟩)
        dsimp only [Pt.U, Pt.locs, Pt.cells, Pt.slots] at X229 l229 y229 z229 st229 hQ229
        subst l229 y229 z229
        obtain ⟨rfl, Nq229, e229⟩ := hQ229
        have N229 := Fr.app N189 Nq229
        have g1 : (if p1 = dd then (if p2 = ee then (if q3 = tt then (if p4 = pp then (1 : Int32) else (0 : Int32)) else (0 : Int32)) else (0 : Int32)) else (0 : Int32)) = ex1 := hex1.symm
        obtain ⟨cq230, kq230, q230a, q230b, q230c⟩ := isOf hZ e229 c197
        obtain ⟨_, _, ⟨T230, L230, k230, n230⟩, -, X230, ⟨Lc230, hQ230, l230, y230, z230⟩, st230⟩ := X229.virtualBack hx (y := (⟨"com/example/avocet/avocet/index/IndexStats", "equals", "(Ljava/lang/Object;)Z"⟩ : MethodName)) (z := (⟨"com/example/avocet/avocet/index/IndexStats", "equals", "(Ljava/lang/Object;)Z"⟩ : MethodName)) hown (mvT hZ (hw _ (List.mem_of_getElem? (i := 24) rfl))) (mvT hZ (hw _ (List.mem_of_getElem? (i := 25) rfl))) (notFace_of_selects (args := #[]) (mvT hZ (hw _ (List.mem_of_getElem? (i := 27) rfl)))) (mvT hZ (hw _ (List.mem_of_getElem? (i := 27) rfl))) (mvT hZ (hw _ (List.mem_of_getElem? (i := 26) rfl))) (by decide) (backOf (W := 0) (rm4s l Z a0 hw [] b126 b111 dd ee tt pp p1 p2 q3 p4 T189.heap n0 z190 c192 c198 c199 c200 c201 c193 c194 c195 c196) hZ (hw _ (List.mem_of_getElem? (i := 28) rfl)) (hw _ (List.mem_of_getElem? (i := 2) rfl)) (by decide) (by decide)) q230a q230c (g := (mkF m 264 #[.val (.int p1), .val (.int p2), .val (.long q3), .second, .val (.int p4), .val (.long q5), .second, .val (.int p6), .val (.int dd), .val (.int ee), .val (.long tt), .second, .val (.int pp), .val (.ref b111), .val (.ref b126), .val (.ref b152), .val (.ref r189), .val (.int md), .val (.int ex1)] [(.ref b111), (.ref b126)])) rfl (by rw [hml]; rfl) (Steps.refl _) (argsL := [(.ref b111)]) (rest := []) (lenOf pd_89 rfl) rfl (by show 2 * 0 + _ ≤ _; exact Nat.le_of_eq rfl) (hb hby at_264) (fun _ _ => ⟨rfl, e229, (by decide : 4 + 0 ≤ _), (by decide : 13 + 0 ≤ _)⟩)
        dsimp only [Pt.U, Pt.locs, Pt.cells, Pt.slots] at X230 l230 y230 z230 st230 hQ230
        subst l230 y230 z230
        obtain ⟨rfl, Nq230, e230⟩ := hQ230
        have N230 := Fr.app N229 Nq230
        have g2 : (if dd = p1 then (if ee = p2 then (if tt = q3 then (if pp = p4 then (1 : Int32) else (0 : Int32)) else (0 : Int32)) else (0 : Int32)) else (0 : Int32)) = ex1 := by rw [hex1]; simp only [eq_comm (a := dd) (b := p1), eq_comm (a := ee) (b := p2), eq_comm (a := tt) (b := q3), eq_comm (a := pp) (b := p4)]
        have pre231 : ∀ t, Steps p.tables e below (T230.setTop (mkF m 277 #[.val (.int p1), .val (.int p2), .val (.long q3), .second, .val (.int p4), .val (.long q5), .second, .val (.int p6), .val (.int dd), .val (.int ee), .val (.long tt), .second, .val (.int pp), .val (.ref b111), .val (.ref b126), .val (.ref b152), .val (.ref r189), .val (.int md), .val (.int ex1)] [(.int (1 : Int32))])) t → Steps p.tables e below (s₁.setTop (entryFrame m #[(.int p1), (.int p2), (.long q3), (.int p4), (.long q5), (.int p6)] maxLocals)) t := fun t kt => pre228 t (by
          show Steps p.tables e below (T189.setTop (mkF m 246 #[.val (.int p1), .val (.int p2), .val (.long q3), .second, .val (.int p4), .val (.long q5), .second, .val (.int p6), .val (.int dd), .val (.int ee), .val (.long tt), .second, .val (.int pp), .val (.ref b111), .val (.ref b126), .val (.ref b152), .val (.ref r189), .val (.int md), .unset] [(.int ex1)])) _
          refine XS.istore X189.here hx rfl (hb hby at_246) rfl (l' := #[.val (.int p1), .val (.int p2), .val (.long q3), .second, .val (.int p4), .val (.long q5), .second, .val (.int p6), .val (.int dd), .val (.int ee), .val (.long tt), .second, .val (.int pp), .val (.ref b111), .val (.ref b126), .val (.ref b152), .val (.ref r189), .val (.int md), .val (.int ex1)]) rfl ?_
          show Steps p.tables e below (T189.setTop (mkF m 248 #[.val (.int p1), .val (.int p2), .val (.long q3), .second, .val (.int p4), .val (.long q5), .second, .val (.int p6), .val (.int dd), .val (.int ee), .val (.long tt), .second, .val (.int pp), .val (.ref b111), .val (.ref b126), .val (.ref b152), .val (.ref r189), .val (.int md), .val (.int ex1)] [])) _
          refine XS.aload X189.here hx rfl (hb hby at_248) rfl rfl ?_
          show Steps p.tables e below (T189.setTop (mkF m 250 #[.val (.int p1), .val (.int p2), .val (.long q3), .second, .val (.int p4), .val (.long q5), .second, .val (.int p6), .val (.int dd), .val (.int ee), .val (.long tt), .second, .val (.int pp), .val (.ref b111), .val (.ref b126), .val (.ref b152), .val (.ref r189), .val (.int md), .val (.int ex1)] [(.ref b111)])) _
          refine XS.aload X189.here hx rfl (hb hby at_250) rfl rfl ?_
          show Steps p.tables e below (T189.setTop (mkF m 252 #[.val (.int p1), .val (.int p2), .val (.long q3), .second, .val (.int p4), .val (.long q5), .second, .val (.int p6), .val (.int dd), .val (.int ee), .val (.long tt), .second, .val (.int pp), .val (.ref b111), .val (.ref b126), .val (.ref b152), .val (.ref r189), .val (.int md), .val (.int ex1)] [(.ref b126), (.ref b111)])) _
          refine st229.trans ?_
          show Steps p.tables e below (T229.setTop (mkF m 255 #[.val (.int p1), .val (.int p2), .val (.long q3), .second, .val (.int p4), .val (.long q5), .second, .val (.int p6), .val (.int dd), .val (.int ee), .val (.long tt), .second, .val (.int pp), .val (.ref b111), .val (.ref b126), .val (.ref b152), .val (.ref r189), .val (.int md), .val (.int ex1)] [(.int (if p1 = dd then (if p2 = ee then (if q3 = tt then (if p4 = pp then (1 : Int32) else (0 : Int32)) else (0 : Int32)) else (0 : Int32)) else (0 : Int32)))])) _
          refine XS.iload X229.here hx rfl (hb hby at_255) rfl ?_
          show Steps p.tables e below (T229.setTop (mkF m 257 #[.val (.int p1), .val (.int p2), .val (.long q3), .second, .val (.int p4), .val (.long q5), .second, .val (.int p6), .val (.int dd), .val (.int ee), .val (.long tt), .second, .val (.int pp), .val (.ref b111), .val (.ref b126), .val (.ref b152), .val (.ref r189), .val (.int md), .val (.int ex1)] [(.int ex1), (.int (if p1 = dd then (if p2 = ee then (if q3 = tt then (if p4 = pp then (1 : Int32) else (0 : Int32)) else (0 : Int32)) else (0 : Int32)) else (0 : Int32)))])) _
          refine XS.icmpNo X229.here hx rfl (hb hby at_257) rfl (teq g1).2 ?_
          show Steps p.tables e below (T229.setTop (mkF m 260 #[.val (.int p1), .val (.int p2), .val (.long q3), .second, .val (.int p4), .val (.long q5), .second, .val (.int p6), .val (.int dd), .val (.int ee), .val (.long tt), .second, .val (.int pp), .val (.ref b111), .val (.ref b126), .val (.ref b152), .val (.ref r189), .val (.int md), .val (.int ex1)] [])) _
          refine XS.aload X229.here hx rfl (hb hby at_260) rfl rfl ?_
          show Steps p.tables e below (T229.setTop (mkF m 262 #[.val (.int p1), .val (.int p2), .val (.long q3), .second, .val (.int p4), .val (.long q5), .second, .val (.int p6), .val (.int dd), .val (.int ee), .val (.long tt), .second, .val (.int pp), .val (.ref b111), .val (.ref b126), .val (.ref b152), .val (.ref r189), .val (.int md), .val (.int ex1)] [(.ref b126)])) _
          refine XS.aload X229.here hx rfl (hb hby at_262) rfl rfl ?_
          show Steps p.tables e below (T229.setTop (mkF m 264 #[.val (.int p1), .val (.int p2), .val (.long q3), .second, .val (.int p4), .val (.long q5), .second, .val (.int p6), .val (.int dd), .val (.int ee), .val (.long tt), .second, .val (.int pp), .val (.ref b111), .val (.ref b126), .val (.ref b152), .val (.ref r189), .val (.int md), .val (.int ex1)] [(.ref b111), (.ref b126)])) _
          refine st230.trans ?_
          show Steps p.tables e below (T230.setTop (mkF m 267 #[.val (.int p1), .val (.int p2), .val (.long q3), .second, .val (.int p4), .val (.long q5), .second, .val (.int p6), .val (.int dd), .val (.int ee), .val (.long tt), .second, .val (.int pp), .val (.ref b111), .val (.ref b126), .val (.ref b152), .val (.ref r189), .val (.int md), .val (.int ex1)] [(.int (if dd = p1 then (if ee = p2 then (if tt = q3 then (if pp = p4 then (1 : Int32) else (0 : Int32)) else (0 : Int32)) else (0 : Int32)) else (0 : Int32)))])) _
          refine XS.iload X230.here hx rfl (hb hby at_267) rfl ?_
          show Steps p.tables e below (T230.setTop (mkF m 269 #[.val (.int p1), .val (.int p2), .val (.long q3), .second, .val (.int p4), .val (.long q5), .second, .val (.int p6), .val (.int dd), .val (.int ee), .val (.long tt), .second, .val (.int pp), .val (.ref b111), .val (.ref b126), .val (.ref b152), .val (.ref r189), .val (.int md), .val (.int ex1)] [(.int ex1), (.int (if dd = p1 then (if ee = p2 then (if tt = q3 then (if pp = p4 then (1 : Int32) else (0 : Int32)) else (0 : Int32)) else (0 : Int32)) else (0 : Int32)))])) _
          refine XS.icmpNo X230.here hx rfl (hb hby at_269) rfl (teq g2).2 ?_
          show Steps p.tables e below (T230.setTop (mkF m 272 #[.val (.int p1), .val (.int p2), .val (.long q3), .second, .val (.int p4), .val (.long q5), .second, .val (.int p6), .val (.int dd), .val (.int ee), .val (.long tt), .second, .val (.int pp), .val (.ref b111), .val (.ref b126), .val (.ref b152), .val (.ref r189), .val (.int md), .val (.int ex1)] [])) _
          refine XS.iconst X230.here hx rfl (hb hby at_272) ?_
          show Steps p.tables e below (T230.setTop (mkF m 273 #[.val (.int p1), .val (.int p2), .val (.long q3), .second, .val (.int p4), .val (.long q5), .second, .val (.int p6), .val (.int dd), .val (.int ee), .val (.long tt), .second, .val (.int pp), .val (.ref b111), .val (.ref b126), .val (.ref b152), .val (.ref r189), .val (.int md), .val (.int ex1)] [(.int (1 : Int32))])) _
          refine XS.goto X230.here hx rfl (pc0 := 273) (pc' := 277) rfl (hb hby at_273) (by decide) (by decide) ?_
          exact kt)
        exact own_retN X230 hx Bd.notSynchronized (t := .boolean) Bd.returns (by simp) (hb hby at_277) pre231 (show Q0 h0 n0 _ _ _ from ⟨rfl, N230⟩) (by decide) (by decide)
theorem own_eq_int {args : Array Value} {s : State} {t : Term} {k : Int32} (h : (Jvm.Cond.eq t (.int k)).value args s none s [] = some true) : t.eval args s none [] s = some (.int k) := eqv_i (Term.int_eval k) h
theorem own_len {args : Array Value} {s : State} {t : Term} {k : Int32} {a : Addr} {cl : Cell} (ht : t.eval args s none [] s = some (.ref a)) (hA : s.arrayAt? a = some cl) (h : (Term.length t).eval args s none [] s = some (.int k)) : cl.slots.size < 2 ^ 31 ∧ cl.slots.size.toInt32 = k := by
  by_cases q : cl.slots.size < 2147483648
  · rw [len_f ht hA (by omega)] at h
    exact ⟨by omega, Value.int.inj (Option.some.inj h)⟩
  · simp [Term.eval, ht, hA, q] at h
theorem own_cache {args : Array Value} {s : State} (s3 : (Jvm.Cond.eq (Jvm.Term.static "java/lang/Integer$IntegerCache" "high" "I") (Jvm.Term.int (127 : Int32))).value args s none s [] = some true)
    (i1 : (Jvm.Cond.initializedFor "java/lang/Integer$IntegerCache" "high" "I").before args s = true ∨ ((Jvm.Cond.initialized "java/lang/Integer$IntegerCache").before args s = true ∧ (Jvm.Cond.laysStatic "java/lang/Integer$IntegerCache" "high" "I").before args s = true))
    (s4 : (Jvm.Cond.arrayOf (Jvm.Term.static "java/lang/Integer$IntegerCache" "cache" "[Ljava/lang/Integer;") (.object "java/lang/Integer")).value args s none s [] = some true)
    (i2 : (Jvm.Cond.initializedFor "java/lang/Integer$IntegerCache" "cache" "[Ljava/lang/Integer;").before args s = true ∨ ((Jvm.Cond.initialized "java/lang/Integer$IntegerCache").before args s = true ∧ (Jvm.Cond.laysStatic "java/lang/Integer$IntegerCache" "cache" "[Ljava/lang/Integer;").before args s = true))
    (s6 : (Jvm.Cond.eq (Jvm.Term.length (Jvm.Term.static "java/lang/Integer$IntegerCache" "cache" "[Ljava/lang/Integer;")) (Jvm.Term.int (256 : Int32))).value args s none s [] = some true)
    (s7 : (Jvm.Cond.all (Jvm.Term.static "java/lang/Integer$IntegerCache" "cache" "[Ljava/lang/Integer;") (Jvm.Cond.and (Jvm.Cond.exactly (Jvm.Term.elem (Jvm.Term.static "java/lang/Integer$IntegerCache" "cache" "[Ljava/lang/Integer;") (Jvm.Term.index (0 : Nat))) "java/lang/Integer") (Jvm.Cond.eq (Jvm.Term.field (Jvm.Term.elem (Jvm.Term.static "java/lang/Integer$IntegerCache" "cache" "[Ljava/lang/Integer;") (Jvm.Term.index (0 : Nat))) "java/lang/Integer" "value" "I") (Jvm.Term.sub (Jvm.Term.index (0 : Nat)) (Jvm.Term.int (128 : Int32)))))).value args s none s [] = some true) : Cache s := by
  obtain ⟨ca, ev⟩ := arr_v s4
  obtain ⟨cl, Ar⟩ := Arr.start ev s4
  obtain ⟨q1, q2⟩ := own_len ev (Ar.fin (Vm.Alike.refl _)) (own_eq_int s6)
  exact ⟨Sta.start (own_eq_int s3) i1, ca, cl, fun j => .int (j - (128 : Int32)), Sta.start ev i2, Bxs.start (fun idx => by simpa [Term.eval] using ev) Ar q1 q2 (by decide) s7 fun X j hj h => eqv_i (by simp [Term.eval, (back32 hj).1]) h⟩
set_option maxRecDepth 65536 in
set_option maxHeartbeats 40000000 in
theorem comes_1 {Post : Tables → Env → Array Value → State → Outcome → State → Prop} (hpost : ∀ tb e args s v u, (limb_1_1.after args s (.returned v) u = true ∧ limb_1_2.after args s (.returned v) u = true ∧ True) → FrameEnd s (.returned v) u (Jvm.fieldLocs frame_1_writes args s ++ Jvm.arrayLocs frame_1_arrays args s ++ Jvm.staticLocs frame_1_statics s) 16 128 → Post tb e args s (.returned v) u) :
    ArmFor flags0 classFile x code maxLocals ret World_1 tables_1 room_1 Calls_1 rest_1 Pre_1 Post := by
  intro l hfl _ _ p e ha hc hk s m args below hf hA hF happ hP
  obtain ⟨hcalls, hrest, hpre⟩ := hP
  obtain ⟨-, -, -, hnamed, -, -, -, hat⟩ := (Spec.applies_iff hf).mp happ
  obtain ⟨hg, hn⟩ := and_e (Cond.before_iff.mp (show (Jvm.Cond.and given_1 narrow_1).before args s = true from hpre))
  obtain ⟨g1a, g1b⟩ := and_e hg
  obtain ⟨g2a, g2b⟩ := and_e g1b
  obtain ⟨g3a, g3b⟩ := and_e g2b
  obtain ⟨g4a, g4b⟩ := and_e g3b
  obtain ⟨g5a, g5b⟩ := and_e g4b
  obtain ⟨g6a, g6b⟩ := and_e g5b
  obtain ⟨w0, w1, w2, w3, w4, w5, rfl⟩ : ∃ w0 w1 w2 w3 w4 w5 : Value, args = #[w0, w1, w2, w3, w4, w5] := by
    have hs : args.size = 6 := by simpa [Cond.value, given_1] using g1a
    obtain ⟨L⟩ := args
    match L, hs with
    | [w0, w1, w2, w3, w4, w5], _ => exact ⟨w0, w1, w2, w3, w4, w5, rfl⟩
  have hw := fun d (hd : d ∈ tables_1) => atoms_spec (ws := Jvm.Cond.code x code maxLocals ret :: tables_1) hat d (List.mem_cons_of_mem _ hd)
  have hfit : Fit s := fun {y c} hc i hi => by
    obtain ⟨ha, rfl⟩ := Array.getElem?_eq_some_iff.mp hc
    have q := List.all_eq_true.mp ((Array.all_eq_true_iff_forall_mem.mp hF) _ (Array.getElem_mem ha)) i (List.mem_range.mpr hi)
    simpa [Array.getElem?_eq_getElem hi] using q
  obtain ⟨hsets, hown0⟩ := atoms_of _ (rest_1_c_eq ▸ (show rest_1_c.before _ s = true from hrest))
  have hr0 := Cond.before_iff.mp hown0
  obtain ⟨i0, ei0⟩ := is_v g2a
  obtain rfl : w0 = (.int i0) := Option.some.inj ei0
  obtain ⟨i1, ei1⟩ := is_v g3a
  obtain rfl : w1 = (.int i1) := Option.some.inj ei1
  obtain ⟨i2, ei2⟩ := isL_v g4a
  obtain rfl : w2 = (.long i2) := Option.some.inj ei2
  obtain ⟨i3, ei3⟩ := is_v g5a
  obtain rfl : w3 = (.int i3) := Option.some.inj ei3
  obtain ⟨i4, ei4⟩ := isL_v g6a
  obtain rfl : w4 = (.long i4) := Option.some.inj ei4
  obtain ⟨i5, ei5⟩ := is_v g6b
  obtain rfl : w5 = (.int i5) := Option.some.inj ei5
  have C0 : Cache s := own_cache (Cond.before_iff.mp (hsets _ (List.mem_of_getElem? (i := 3) rfl))) (Or.inl (hsets _ (List.mem_of_getElem? (i := 1) rfl))) (Cond.before_iff.mp (hsets _ (List.mem_of_getElem? (i := 4) rfl))) (Or.inr ⟨(hw _ (List.mem_of_getElem? (i := 22) rfl)), (hsets _ (List.mem_of_getElem? (i := 2) rfl))⟩) (Cond.before_iff.mp (hsets _ (List.mem_of_getElem? (i := 6) rfl))) (Cond.before_iff.mp (hsets _ (List.mem_of_getElem? (i := 7) rfl)))
  obtain ⟨n, o, h1, h2, h3, _, L, rfl, ⟨rfl, N⟩, hq⟩ := rm0 l s _ hw tables_1 i0 i1 i2 i3 i4 i5 s.heap s.heap.size (Nat.le_refl _) (Old.start s) C0 p e ha hc hk s m _ below hf ((Spec.applies_iff_loose hf).mp happ).1 ⟨rfl, State.Warmed39.refl s, rfl⟩ trivial
  refine ⟨n, _, h1, h2, h3, hpost _ _ _ _ _ _ ⟨Cond.after_iff.mpr rfl, Cond.after_iff.mpr (eq_i res_at (Term.int_eval (1)) rfl), trivial⟩ ⟨hq.1, hq.2.1, (hq.2.2.sift fun y hy => Or.inr (N y hy)).mono (by decide) (by decide)⟩⟩
theorem main_1_1 : Claimed_1_1 := comes_1 fun _ _ _ _ _ _ h hF => ⟨h.1, hF⟩
theorem main_1_2 : Claimed_1_2 := comes_1 fun _ _ _ _ _ _ h hF => ⟨h.2.1, hF⟩
end Jvm.Pilot.@@N@@
namespace Jvm.Pilot.@@N@@
open Jvm Jvm.ClassFile Sem Op Lib Jvm.Free Jvm.Stand Jvm.Pilot.@@N@@.Jvm.D
/-! MADE BY PROGRAM (witnessworld.py) out of the Statement's table words and the real class files: 16 classes; the members and pool entries that the words name. The judged class is class 1, her method 1. -/
namespace start1
open Jvm.ClassFile
def u (s : String) : CpInfo := .utf8 (stringToUtf16 s)
/-- a pool by its gaps: so many unusable entries, then the entry; so many at the end -/
def gap : Nat → List CpInfo → List CpInfo
  | 0, r => r
  | n + 1, r => .unusable :: gap n r
def poolList (es : List (Nat × CpInfo)) (last : Nat) : List CpInfo := es.foldr (fun e r => gap e.1 (e.2 :: r)) (gap last [])
def pool (es : List (Nat × CpInfo)) (last : Nat) : Array CpInfo := ⟨poolList es last⟩
def fileOf (pool : Array CpInfo) (this : Nat) (attrs : Array Attribute := #[]) (ms : Array MethodInfo := #[]) (fl : Nat := 33) (sup : Nat := 0) (ifs : Array Nat := #[]) (fds : Array FieldInfo := #[]) : ClassFile where
  minorVersion := 0
  majorVersion := 65
  constantPool := pool
  accessFlags := fl
  thisClass := this
  superClass := sup
  interfaces := ifs
  fields := fds
  methods := ms
  attributes := attrs
def plain (name : String) (sup : Option ClassId) : Class where
  name := name
  kind := .ordinary
  loader := none
  accessFlags := 33
  super := sup
  interfaces := #[]
  cf := none
  fields := #[]
  methods := #[]
  instanceTypes := #[]
  staticTypes := #[]
  resolved := #[]
  callSites := []
  init := .initialized
  statics := none
  mirror := none

def pool0 : Array CpInfo := pool [(5, u "<init>"), (0, u "()V"), (1, .class_ 10), (1, u "java/lang/Object")] 113

def k0c0 : Code := { maxStack := 0, maxLocals := 1, code := object_method_1_code, exceptionTable := #[], attributes := #[] }
def k0m0 : Method := { name := "<init>", desc := "()V", sig := { parameters := [], returnType := none }, accessFlags := 1, code := some k0c0 }
/-- java/lang/Object -/
def k0 : Class := { plain "java/lang/Object" none with
  accessFlags := 33
  interfaces := #[]
  cf := some (fileOf pool0 8 #[] #[{ accessFlags := 1, nameIndex := 5, descriptorIndex := 6, attributes := #[] }] 33 0 #[] #[])
  fields := #[]
  methods := #[k0m0]
  instanceTypes := #[]
  staticTypes := #[]
  resolved := Array.replicate 124 none
  statics := none }

def pool1 : Array CpInfo := pool [(2, .class_ 4), (1, u "java/lang/Object"), (0, u "<init>"), (0, u "()V"), (0, .class_ 8), (0, u "com/example/avocet/avocet/index/IndexStats"), (0, .methodref 7 10), (0, .nameAndType 5 11), (0, u "(IIJI)V"), (0, .methodref 13 14), (0, .class_ 15), (0, .nameAndType 16 17), (0, u "java/lang/Integer"), (0, u "valueOf"), (0, u "(I)Ljava/lang/Integer;"), (0, .methodref 7 19), (0, .nameAndType 20 21), (0, u "equals"), (0, u "(Ljava/lang/Object;)Z"), (0, .class_ 23), (0, u "com/example/avocet/avocet/index/IndexStatsEqualsPinLaw"), (2, u "law"), (0, u "(IIJIJI)Z")] 3

def k1m0 : Method := { name := "<init>", desc := "()V", sig := { parameters := [], returnType := none }, accessFlags := 1, code := none }
def k1c1 : Code := { maxStack := 7, maxLocals := 19, code := code, exceptionTable := #[], attributes := #[] }
def k1m1 : Method := { name := "law", desc := "(IIJIJI)Z", sig := { parameters := [.int, .int, .long, .int, .long, .int], returnType := some .boolean }, accessFlags := 9, code := some k1c1 }
/-- com/example/avocet/avocet/index/IndexStatsEqualsPinLaw -/
def k1 : Class := { plain "com/example/avocet/avocet/index/IndexStatsEqualsPinLaw" (some 0) with
  accessFlags := 49
  interfaces := #[]
  cf := some (fileOf pool1 22 #[] #[{ accessFlags := 1, nameIndex := 5, descriptorIndex := 6, attributes := #[] }, { accessFlags := 9, nameIndex := 26, descriptorIndex := 27, attributes := #[] }] 49 2 #[] #[])
  fields := #[]
  methods := #[k1m0, k1m1]
  instanceTypes := #[]
  staticTypes := #[]
  resolved := Array.replicate 31 none
  statics := none }

def pool2 : Array CpInfo := pool [(2, .class_ 4), (1, u "com/example/avocet/avocet/index/IndexStats"), (0, u "<init>"), (0, u "(IIJI)V"), (0, .methodref 8 9), (0, .class_ 10), (0, .nameAndType 5 11), (0, u "java/lang/Object"), (0, u "()V"), (0, .fieldref 2 13), (0, .nameAndType 14 15), (0, u "documents"), (0, u "I"), (0, .fieldref 2 17), (0, .nameAndType 18 15), (0, u "terms"), (0, .fieldref 2 20), (0, .nameAndType 21 22), (0, u "tokens"), (0, u "J"), (0, .fieldref 2 24), (0, .nameAndType 25 15), (0, u "pairs"), (30, u "equals"), (0, u "(Ljava/lang/Object;)Z")] 21

def k2c0 : Code := { maxStack := 3, maxLocals := 6, code := prog_29_method_2_code, exceptionTable := #[], attributes := #[] }
def k2m0 : Method := { name := "<init>", desc := "(IIJI)V", sig := { parameters := [.int, .int, .long, .int], returnType := none }, accessFlags := 1, code := some k2c0 }
def k2c1 : Code := { maxStack := 4, maxLocals := 3, code := prog_29_method_7_code, exceptionTable := #[], attributes := #[] }
def k2m1 : Method := { name := "equals", desc := "(Ljava/lang/Object;)Z", sig := { parameters := [(.object "java/lang/Object")], returnType := some .boolean }, accessFlags := 1, code := some k2c1 }
/-- com/example/avocet/avocet/index/IndexStats -/
def k2 : Class := { plain "com/example/avocet/avocet/index/IndexStats" (some 0) with
  accessFlags := 49
  interfaces := #[]
  cf := some (fileOf pool2 2 #[] #[{ accessFlags := 1, nameIndex := 5, descriptorIndex := 6, attributes := #[] }, { accessFlags := 1, nameIndex := 56, descriptorIndex := 57, attributes := #[] }] 49 8 #[] #[{ accessFlags := 18, nameIndex := 14, descriptorIndex := 15, attributes := #[] }, { accessFlags := 18, nameIndex := 18, descriptorIndex := 15, attributes := #[] }, { accessFlags := 18, nameIndex := 21, descriptorIndex := 22, attributes := #[] }, { accessFlags := 18, nameIndex := 25, descriptorIndex := 15, attributes := #[] }])
  fields := #[{ name := "documents", type := .int, accessFlags := 18, slot := 0, constantValue := 0 }, { name := "terms", type := .int, accessFlags := 18, slot := 1, constantValue := 0 }, { name := "tokens", type := .long, accessFlags := 18, slot := 2, constantValue := 0 }, { name := "pairs", type := .int, accessFlags := 18, slot := 3, constantValue := 0 }]
  methods := #[k2m0, k2m1]
  instanceTypes := #[.int, .int, .long, .int]
  staticTypes := #[]
  resolved := Array.replicate 79 none
  statics := none }

def pool3 : Array CpInfo := pool [(1, .class_ 2), (0, u "java/io/Serializable"), (0, .class_ 4), (0, u "java/lang/Object")] 2

/-- java/io/Serializable -/
def k3 : Class := { plain "java/io/Serializable" (some 0) with
  accessFlags := 1537
  interfaces := #[]
  cf := some (fileOf pool3 1 #[] #[] 1537 3 #[] #[])
  fields := #[]
  methods := #[]
  instanceTypes := #[]
  staticTypes := #[]
  resolved := Array.replicate 7 none
  statics := none }

def pool4 : Array CpInfo := pool [(1, .methodref 2 3), (0, .class_ 4), (0, .nameAndType 5 6), (0, u "java/lang/Object"), (0, u "<init>"), (0, u "()V"), (1, .class_ 10), (1, u "java/lang/Number"), (2, .class_ 14), (0, u "java/io/Serializable"), (0, u "serialVersionUID"), (0, u "J")] 20

def k4c0 : Code := { maxStack := 1, maxLocals := 1, code := jdk_18_method_1_code, exceptionTable := #[], attributes := #[] }
def k4m0 : Method := { name := "<init>", desc := "()V", sig := { parameters := [], returnType := none }, accessFlags := 1, code := some k4c0 }
/-- java/lang/Number -/
def k4 : Class := { plain "java/lang/Number" (some 0) with
  accessFlags := 1057
  interfaces := #[3]
  cf := some (fileOf pool4 8 #[] #[{ accessFlags := 1, nameIndex := 5, descriptorIndex := 6, attributes := #[] }] 1057 2 #[13] #[{ accessFlags := 26, nameIndex := 15, descriptorIndex := 16, attributes := #[] }])
  fields := #[{ name := "serialVersionUID", type := .long, accessFlags := 26, slot := 0, constantValue := 0 }]
  methods := #[k4m0]
  instanceTypes := #[]
  staticTypes := #[.long]
  resolved := Array.replicate 37 none
  statics := none }

def pool5 : Array CpInfo := pool [(1, .class_ 2), (0, u "java/lang/Comparable"), (0, .class_ 4), (0, u "java/lang/Object")] 7

/-- java/lang/Comparable -/
def k5 : Class := { plain "java/lang/Comparable" (some 0) with
  accessFlags := 1537
  interfaces := #[]
  cf := some (fileOf pool5 1 #[] #[] 1537 3 #[] #[])
  fields := #[]
  methods := #[]
  instanceTypes := #[]
  staticTypes := #[]
  resolved := Array.replicate 12 none
  statics := none }

def pool6 : Array CpInfo := pool [(1, .class_ 2), (0, u "java/lang/constant/Constable"), (0, .class_ 4), (0, u "java/lang/Object")] 6

/-- java/lang/constant/Constable -/
def k6 : Class := { plain "java/lang/constant/Constable" (some 0) with
  accessFlags := 1537
  interfaces := #[]
  cf := some (fileOf pool6 1 #[] #[] 1537 3 #[] #[])
  fields := #[]
  methods := #[]
  instanceTypes := #[]
  staticTypes := #[]
  resolved := Array.replicate 11 none
  statics := none }

def pool7 : Array CpInfo := pool [(1, .class_ 2), (0, u "java/lang/constant/ConstantDesc"), (0, .class_ 4), (0, u "java/lang/Object")] 32

/-- java/lang/constant/ConstantDesc -/
def k7 : Class := { plain "java/lang/constant/ConstantDesc" (some 0) with
  accessFlags := 1537
  interfaces := #[]
  cf := some (fileOf pool7 1 #[] #[] 1537 3 #[] #[])
  fields := #[]
  methods := #[]
  instanceTypes := #[]
  staticTypes := #[]
  resolved := Array.replicate 37 none
  statics := none }

def pool8 : Array CpInfo := pool [(1, .class_ 2), (0, u "java/lang/Integer"), (16, u "digits"), (0, u "[C"), (46, u "<init>"), (17, u "DigitOnes"), (0, u "[B"), (2, u "DigitTens"), (10, .nameAndType 67 101), (0, u "()V"), (85, u "valueOf"), (0, u "(I)Ljava/lang/Integer;"), (0, .class_ 190), (0, u "java/lang/Integer$IntegerCache"), (0, .fieldref 189 192), (0, .nameAndType 193 194), (0, u "high"), (0, u "I"), (0, .fieldref 189 196), (0, .nameAndType 197 198), (0, u "cache"), (0, u "[Ljava/lang/Integer;"), (0, .methodref 1 200), (0, .nameAndType 67 201), (0, u "(I)V"), (0, .methodref 203 100), (0, .class_ 204), (0, u "java/lang/Number"), (0, .fieldref 1 206), (0, .nameAndType 207 194), (0, u "value"), (94, u "TYPE"), (0, u "Ljava/lang/Class;"), (0, .class_ 305), (0, u "java/lang/Comparable"), (0, .class_ 307), (0, u "java/lang/constant/Constable"), (0, .class_ 309), (0, u "java/lang/constant/ConstantDesc"), (0, u "MIN_VALUE"), (1, u "MAX_VALUE"), (3, u "SIZE"), (1, u "BYTES"), (1, u "serialVersionUID"), (0, u "J")] 131

def k8c0 : Code := { maxStack := 3, maxLocals := 1, code := jdk_33_method_22_code, exceptionTable := #[], attributes := #[] }
def k8m0 : Method := { name := "valueOf", desc := "(I)Ljava/lang/Integer;", sig := { parameters := [.int], returnType := some (.object "java/lang/Integer") }, accessFlags := 9, code := some k8c0 }
def k8c1 : Code := { maxStack := 2, maxLocals := 2, code := jdk_33_method_23_code, exceptionTable := #[], attributes := #[] }
def k8m1 : Method := { name := "<init>", desc := "(I)V", sig := { parameters := [.int], returnType := none }, accessFlags := 1, code := some k8c1 }
/-- java/lang/Integer -/
def k8 : Class := { plain "java/lang/Integer" (some 4) with
  accessFlags := 49
  interfaces := #[5, 6, 7]
  cf := some (fileOf pool8 1 #[.nestMembers #[189]] #[{ accessFlags := 9, nameIndex := 187, descriptorIndex := 188, attributes := #[] }, { accessFlags := 1, nameIndex := 67, descriptorIndex := 201, attributes := #[] }] 49 203 #[304, 306, 308] #[{ accessFlags := 25, nameIndex := 310, descriptorIndex := 194, attributes := #[] }, { accessFlags := 25, nameIndex := 312, descriptorIndex := 194, attributes := #[] }, { accessFlags := 25, nameIndex := 302, descriptorIndex := 303, attributes := #[] }, { accessFlags := 24, nameIndex := 19, descriptorIndex := 20, attributes := #[] }, { accessFlags := 24, nameIndex := 89, descriptorIndex := 86, attributes := #[] }, { accessFlags := 24, nameIndex := 85, descriptorIndex := 86, attributes := #[] }, { accessFlags := 18, nameIndex := 207, descriptorIndex := 194, attributes := #[] }, { accessFlags := 25, nameIndex := 316, descriptorIndex := 194, attributes := #[] }, { accessFlags := 25, nameIndex := 318, descriptorIndex := 194, attributes := #[] }, { accessFlags := 26, nameIndex := 320, descriptorIndex := 321, attributes := #[] }])
  fields := #[{ name := "MIN_VALUE", type := .int, accessFlags := 25, slot := 0, constantValue := 0 }, { name := "MAX_VALUE", type := .int, accessFlags := 25, slot := 1, constantValue := 0 }, { name := "TYPE", type := (.object "java/lang/Class"), accessFlags := 25, slot := 2, constantValue := 0 }, { name := "digits", type := (.array .char), accessFlags := 24, slot := 3, constantValue := 0 }, { name := "DigitTens", type := (.array .byte), accessFlags := 24, slot := 4, constantValue := 0 }, { name := "DigitOnes", type := (.array .byte), accessFlags := 24, slot := 5, constantValue := 0 }, { name := "value", type := .int, accessFlags := 18, slot := 0, constantValue := 0 }, { name := "SIZE", type := .int, accessFlags := 25, slot := 6, constantValue := 0 }, { name := "BYTES", type := .int, accessFlags := 25, slot := 7, constantValue := 0 }, { name := "serialVersionUID", type := .long, accessFlags := 26, slot := 8, constantValue := 0 }]
  methods := #[k8m0, k8m1]
  instanceTypes := #[.int]
  staticTypes := #[.int, .int, (.object "java/lang/Class"), (.array .char), (.array .byte), (.array .byte), .int, .int, .long]
  resolved := Array.replicate 453 none
  statics := none }

def pool9 : Array CpInfo := pool [(2, .class_ 4), (1, u "java/lang/Object"), (0, u "<init>"), (0, u "()V"), (0, .class_ 8), (0, u "java/lang/Integer"), (7, .class_ 18), (1, u "java/lang/Integer$IntegerCache"), (0, u "$assertionsDisabled"), (0, u "Z"), (26, u "high"), (0, u "I"), (8, u "archivedCache"), (0, u "[Ljava/lang/Integer;"), (12, u "cache"), (0, u "low")] 27

def k9m0 : Method := { name := "<init>", desc := "()V", sig := { parameters := [], returnType := none }, accessFlags := 2, code := none }
/-- java/lang/Integer$IntegerCache -/
def k9 : Class := { plain "java/lang/Integer$IntegerCache" (some 0) with
  accessFlags := 48
  interfaces := #[]
  cf := some (fileOf pool9 16 #[.nestHost 7] #[{ accessFlags := 2, nameIndex := 5, descriptorIndex := 6, attributes := #[] }] 48 2 #[] #[{ accessFlags := 24, nameIndex := 72, descriptorIndex := 48, attributes := #[] }, { accessFlags := 24, nameIndex := 47, descriptorIndex := 48, attributes := #[] }, { accessFlags := 24, nameIndex := 71, descriptorIndex := 58, attributes := #[] }, { accessFlags := 8, nameIndex := 57, descriptorIndex := 58, attributes := #[] }, { accessFlags := 4120, nameIndex := 19, descriptorIndex := 20, attributes := #[] }])
  fields := #[{ name := "low", type := .int, accessFlags := 24, slot := 0, constantValue := 0 }, { name := "high", type := .int, accessFlags := 24, slot := 1, constantValue := 0 }, { name := "cache", type := (.array (.object "java/lang/Integer")), accessFlags := 24, slot := 2, constantValue := 0 }, { name := "archivedCache", type := (.array (.object "java/lang/Integer")), accessFlags := 8, slot := 3, constantValue := 0 }, { name := "$assertionsDisabled", type := .boolean, accessFlags := 4120, slot := 4, constantValue := 0 }]
  methods := #[k9m0]
  instanceTypes := #[]
  staticTypes := #[.int, .int, (.array (.object "java/lang/Integer")), (.array (.object "java/lang/Integer")), .boolean]
  resolved := Array.replicate 100 none
  statics := some 0 }

def pool10 : Array CpInfo := pool [(1, u "java/lang/Cloneable"), (0, .class_ 1), (0, u "java/lang/Object"), (0, .class_ 3)] 3

/-- java/lang/Cloneable -/
def k10 : Class := { plain "java/lang/Cloneable" (some 0) with
  accessFlags := 1537
  interfaces := #[]
  cf := some (fileOf pool10 2 #[] #[] 1537 4 #[] #[])
  fields := #[]
  methods := #[]
  instanceTypes := #[]
  staticTypes := #[]
  resolved := Array.replicate 8 none
  statics := none }

/-- the primitive byte -/
def k11 : Class := { plain "byte" none with kind := .primitive 'B', accessFlags := 0x411 }
/-- [B -/
def k12 : Class := { plain "[B" (some 0) with kind := .array 11 .byte, interfaces := #[10, 3], accessFlags := 1041 }

/-- the primitive int -/
def k13 : Class := { plain "int" none with kind := .primitive 'I', accessFlags := 0x411 }
/-- [I -/
def k14 : Class := { plain "[I" (some 0) with kind := .array 13 .int, interfaces := #[10, 3], accessFlags := 1041 }

/-- [Ljava/lang/Integer; -/
def k15 : Class := { plain "[Ljava/lang/Integer;" (some 0) with kind := .array 8 (.object "java/lang/Integer"), interfaces := #[10, 3], accessFlags := 1041 }

def heap : Heap := #[{ cls := 9, slots := #[.int 0, .int 127, .ref 1, .null, .int 0], vm := .statics 9 },
  { cls := 15, slots := #[.ref 2, .ref 3, .ref 4, .ref 5, .ref 6, .ref 7, .ref 8, .ref 9, .ref 10, .ref 11, .ref 12, .ref 13, .ref 14, .ref 15, .ref 16, .ref 17, .ref 18, .ref 19, .ref 20, .ref 21, .ref 22, .ref 23, .ref 24, .ref 25, .ref 26, .ref 27, .ref 28, .ref 29, .ref 30, .ref 31, .ref 32, .ref 33, .ref 34, .ref 35, .ref 36, .ref 37, .ref 38, .ref 39, .ref 40, .ref 41, .ref 42, .ref 43, .ref 44, .ref 45, .ref 46, .ref 47, .ref 48, .ref 49, .ref 50, .ref 51, .ref 52, .ref 53, .ref 54, .ref 55, .ref 56, .ref 57, .ref 58, .ref 59, .ref 60, .ref 61, .ref 62, .ref 63, .ref 64, .ref 65, .ref 66, .ref 67, .ref 68, .ref 69, .ref 70, .ref 71, .ref 72, .ref 73, .ref 74, .ref 75, .ref 76, .ref 77, .ref 78, .ref 79, .ref 80, .ref 81, .ref 82, .ref 83, .ref 84, .ref 85, .ref 86, .ref 87, .ref 88, .ref 89, .ref 90, .ref 91, .ref 92, .ref 93, .ref 94, .ref 95, .ref 96, .ref 97, .ref 98, .ref 99, .ref 100, .ref 101, .ref 102, .ref 103, .ref 104, .ref 105, .ref 106, .ref 107, .ref 108, .ref 109, .ref 110, .ref 111, .ref 112, .ref 113, .ref 114, .ref 115, .ref 116, .ref 117, .ref 118, .ref 119, .ref 120, .ref 121, .ref 122, .ref 123, .ref 124, .ref 125, .ref 126, .ref 127, .ref 128, .ref 129, .ref 130, .ref 131, .ref 132, .ref 133, .ref 134, .ref 135, .ref 136, .ref 137, .ref 138, .ref 139, .ref 140, .ref 141, .ref 142, .ref 143, .ref 144, .ref 145, .ref 146, .ref 147, .ref 148, .ref 149, .ref 150, .ref 151, .ref 152, .ref 153, .ref 154, .ref 155, .ref 156, .ref 157, .ref 158, .ref 159, .ref 160, .ref 161, .ref 162, .ref 163, .ref 164, .ref 165, .ref 166, .ref 167, .ref 168, .ref 169, .ref 170, .ref 171, .ref 172, .ref 173, .ref 174, .ref 175, .ref 176, .ref 177, .ref 178, .ref 179, .ref 180, .ref 181, .ref 182, .ref 183, .ref 184, .ref 185, .ref 186, .ref 187, .ref 188, .ref 189, .ref 190, .ref 191, .ref 192, .ref 193, .ref 194, .ref 195, .ref 196, .ref 197, .ref 198, .ref 199, .ref 200, .ref 201, .ref 202, .ref 203, .ref 204, .ref 205, .ref 206, .ref 207, .ref 208, .ref 209, .ref 210, .ref 211, .ref 212, .ref 213, .ref 214, .ref 215, .ref 216, .ref 217, .ref 218, .ref 219, .ref 220, .ref 221, .ref 222, .ref 223, .ref 224, .ref 225, .ref 226, .ref 227, .ref 228, .ref 229, .ref 230, .ref 231, .ref 232, .ref 233, .ref 234, .ref 235, .ref 236, .ref 237, .ref 238, .ref 239, .ref 240, .ref 241, .ref 242, .ref 243, .ref 244, .ref 245, .ref 246, .ref 247, .ref 248, .ref 249, .ref 250, .ref 251, .ref 252, .ref 253, .ref 254, .ref 255, .ref 256, .ref 257], vm := .none },
  { cls := 8, slots := #[.int (-128)], vm := .none },
  { cls := 8, slots := #[.int (-127)], vm := .none },
  { cls := 8, slots := #[.int (-126)], vm := .none },
  { cls := 8, slots := #[.int (-125)], vm := .none },
  { cls := 8, slots := #[.int (-124)], vm := .none },
  { cls := 8, slots := #[.int (-123)], vm := .none },
  { cls := 8, slots := #[.int (-122)], vm := .none },
  { cls := 8, slots := #[.int (-121)], vm := .none },
  { cls := 8, slots := #[.int (-120)], vm := .none },
  { cls := 8, slots := #[.int (-119)], vm := .none },
  { cls := 8, slots := #[.int (-118)], vm := .none },
  { cls := 8, slots := #[.int (-117)], vm := .none },
  { cls := 8, slots := #[.int (-116)], vm := .none },
  { cls := 8, slots := #[.int (-115)], vm := .none },
  { cls := 8, slots := #[.int (-114)], vm := .none },
  { cls := 8, slots := #[.int (-113)], vm := .none },
  { cls := 8, slots := #[.int (-112)], vm := .none },
  { cls := 8, slots := #[.int (-111)], vm := .none },
  { cls := 8, slots := #[.int (-110)], vm := .none },
  { cls := 8, slots := #[.int (-109)], vm := .none },
  { cls := 8, slots := #[.int (-108)], vm := .none },
  { cls := 8, slots := #[.int (-107)], vm := .none },
  { cls := 8, slots := #[.int (-106)], vm := .none },
  { cls := 8, slots := #[.int (-105)], vm := .none },
  { cls := 8, slots := #[.int (-104)], vm := .none },
  { cls := 8, slots := #[.int (-103)], vm := .none },
  { cls := 8, slots := #[.int (-102)], vm := .none },
  { cls := 8, slots := #[.int (-101)], vm := .none },
  { cls := 8, slots := #[.int (-100)], vm := .none },
  { cls := 8, slots := #[.int (-99)], vm := .none },
  { cls := 8, slots := #[.int (-98)], vm := .none },
  { cls := 8, slots := #[.int (-97)], vm := .none },
  { cls := 8, slots := #[.int (-96)], vm := .none },
  { cls := 8, slots := #[.int (-95)], vm := .none },
  { cls := 8, slots := #[.int (-94)], vm := .none },
  { cls := 8, slots := #[.int (-93)], vm := .none },
  { cls := 8, slots := #[.int (-92)], vm := .none },
  { cls := 8, slots := #[.int (-91)], vm := .none },
  { cls := 8, slots := #[.int (-90)], vm := .none },
  { cls := 8, slots := #[.int (-89)], vm := .none },
  { cls := 8, slots := #[.int (-88)], vm := .none },
  { cls := 8, slots := #[.int (-87)], vm := .none },
  { cls := 8, slots := #[.int (-86)], vm := .none },
  { cls := 8, slots := #[.int (-85)], vm := .none },
  { cls := 8, slots := #[.int (-84)], vm := .none },
  { cls := 8, slots := #[.int (-83)], vm := .none },
  { cls := 8, slots := #[.int (-82)], vm := .none },
  { cls := 8, slots := #[.int (-81)], vm := .none },
  { cls := 8, slots := #[.int (-80)], vm := .none },
  { cls := 8, slots := #[.int (-79)], vm := .none },
  { cls := 8, slots := #[.int (-78)], vm := .none },
  { cls := 8, slots := #[.int (-77)], vm := .none },
  { cls := 8, slots := #[.int (-76)], vm := .none },
  { cls := 8, slots := #[.int (-75)], vm := .none },
  { cls := 8, slots := #[.int (-74)], vm := .none },
  { cls := 8, slots := #[.int (-73)], vm := .none },
  { cls := 8, slots := #[.int (-72)], vm := .none },
  { cls := 8, slots := #[.int (-71)], vm := .none },
  { cls := 8, slots := #[.int (-70)], vm := .none },
  { cls := 8, slots := #[.int (-69)], vm := .none },
  { cls := 8, slots := #[.int (-68)], vm := .none },
  { cls := 8, slots := #[.int (-67)], vm := .none },
  { cls := 8, slots := #[.int (-66)], vm := .none },
  { cls := 8, slots := #[.int (-65)], vm := .none },
  { cls := 8, slots := #[.int (-64)], vm := .none },
  { cls := 8, slots := #[.int (-63)], vm := .none },
  { cls := 8, slots := #[.int (-62)], vm := .none },
  { cls := 8, slots := #[.int (-61)], vm := .none },
  { cls := 8, slots := #[.int (-60)], vm := .none },
  { cls := 8, slots := #[.int (-59)], vm := .none },
  { cls := 8, slots := #[.int (-58)], vm := .none },
  { cls := 8, slots := #[.int (-57)], vm := .none },
  { cls := 8, slots := #[.int (-56)], vm := .none },
  { cls := 8, slots := #[.int (-55)], vm := .none },
  { cls := 8, slots := #[.int (-54)], vm := .none },
  { cls := 8, slots := #[.int (-53)], vm := .none },
  { cls := 8, slots := #[.int (-52)], vm := .none },
  { cls := 8, slots := #[.int (-51)], vm := .none },
  { cls := 8, slots := #[.int (-50)], vm := .none },
  { cls := 8, slots := #[.int (-49)], vm := .none },
  { cls := 8, slots := #[.int (-48)], vm := .none },
  { cls := 8, slots := #[.int (-47)], vm := .none },
  { cls := 8, slots := #[.int (-46)], vm := .none },
  { cls := 8, slots := #[.int (-45)], vm := .none },
  { cls := 8, slots := #[.int (-44)], vm := .none },
  { cls := 8, slots := #[.int (-43)], vm := .none },
  { cls := 8, slots := #[.int (-42)], vm := .none },
  { cls := 8, slots := #[.int (-41)], vm := .none },
  { cls := 8, slots := #[.int (-40)], vm := .none },
  { cls := 8, slots := #[.int (-39)], vm := .none },
  { cls := 8, slots := #[.int (-38)], vm := .none },
  { cls := 8, slots := #[.int (-37)], vm := .none },
  { cls := 8, slots := #[.int (-36)], vm := .none },
  { cls := 8, slots := #[.int (-35)], vm := .none },
  { cls := 8, slots := #[.int (-34)], vm := .none },
  { cls := 8, slots := #[.int (-33)], vm := .none },
  { cls := 8, slots := #[.int (-32)], vm := .none },
  { cls := 8, slots := #[.int (-31)], vm := .none },
  { cls := 8, slots := #[.int (-30)], vm := .none },
  { cls := 8, slots := #[.int (-29)], vm := .none },
  { cls := 8, slots := #[.int (-28)], vm := .none },
  { cls := 8, slots := #[.int (-27)], vm := .none },
  { cls := 8, slots := #[.int (-26)], vm := .none },
  { cls := 8, slots := #[.int (-25)], vm := .none },
  { cls := 8, slots := #[.int (-24)], vm := .none },
  { cls := 8, slots := #[.int (-23)], vm := .none },
  { cls := 8, slots := #[.int (-22)], vm := .none },
  { cls := 8, slots := #[.int (-21)], vm := .none },
  { cls := 8, slots := #[.int (-20)], vm := .none },
  { cls := 8, slots := #[.int (-19)], vm := .none },
  { cls := 8, slots := #[.int (-18)], vm := .none },
  { cls := 8, slots := #[.int (-17)], vm := .none },
  { cls := 8, slots := #[.int (-16)], vm := .none },
  { cls := 8, slots := #[.int (-15)], vm := .none },
  { cls := 8, slots := #[.int (-14)], vm := .none },
  { cls := 8, slots := #[.int (-13)], vm := .none },
  { cls := 8, slots := #[.int (-12)], vm := .none },
  { cls := 8, slots := #[.int (-11)], vm := .none },
  { cls := 8, slots := #[.int (-10)], vm := .none },
  { cls := 8, slots := #[.int (-9)], vm := .none },
  { cls := 8, slots := #[.int (-8)], vm := .none },
  { cls := 8, slots := #[.int (-7)], vm := .none },
  { cls := 8, slots := #[.int (-6)], vm := .none },
  { cls := 8, slots := #[.int (-5)], vm := .none },
  { cls := 8, slots := #[.int (-4)], vm := .none },
  { cls := 8, slots := #[.int (-3)], vm := .none },
  { cls := 8, slots := #[.int (-2)], vm := .none },
  { cls := 8, slots := #[.int (-1)], vm := .none },
  { cls := 8, slots := #[.int (0)], vm := .none },
  { cls := 8, slots := #[.int (1)], vm := .none },
  { cls := 8, slots := #[.int (2)], vm := .none },
  { cls := 8, slots := #[.int (3)], vm := .none },
  { cls := 8, slots := #[.int (4)], vm := .none },
  { cls := 8, slots := #[.int (5)], vm := .none },
  { cls := 8, slots := #[.int (6)], vm := .none },
  { cls := 8, slots := #[.int (7)], vm := .none },
  { cls := 8, slots := #[.int (8)], vm := .none },
  { cls := 8, slots := #[.int (9)], vm := .none },
  { cls := 8, slots := #[.int (10)], vm := .none },
  { cls := 8, slots := #[.int (11)], vm := .none },
  { cls := 8, slots := #[.int (12)], vm := .none },
  { cls := 8, slots := #[.int (13)], vm := .none },
  { cls := 8, slots := #[.int (14)], vm := .none },
  { cls := 8, slots := #[.int (15)], vm := .none },
  { cls := 8, slots := #[.int (16)], vm := .none },
  { cls := 8, slots := #[.int (17)], vm := .none },
  { cls := 8, slots := #[.int (18)], vm := .none },
  { cls := 8, slots := #[.int (19)], vm := .none },
  { cls := 8, slots := #[.int (20)], vm := .none },
  { cls := 8, slots := #[.int (21)], vm := .none },
  { cls := 8, slots := #[.int (22)], vm := .none },
  { cls := 8, slots := #[.int (23)], vm := .none },
  { cls := 8, slots := #[.int (24)], vm := .none },
  { cls := 8, slots := #[.int (25)], vm := .none },
  { cls := 8, slots := #[.int (26)], vm := .none },
  { cls := 8, slots := #[.int (27)], vm := .none },
  { cls := 8, slots := #[.int (28)], vm := .none },
  { cls := 8, slots := #[.int (29)], vm := .none },
  { cls := 8, slots := #[.int (30)], vm := .none },
  { cls := 8, slots := #[.int (31)], vm := .none },
  { cls := 8, slots := #[.int (32)], vm := .none },
  { cls := 8, slots := #[.int (33)], vm := .none },
  { cls := 8, slots := #[.int (34)], vm := .none },
  { cls := 8, slots := #[.int (35)], vm := .none },
  { cls := 8, slots := #[.int (36)], vm := .none },
  { cls := 8, slots := #[.int (37)], vm := .none },
  { cls := 8, slots := #[.int (38)], vm := .none },
  { cls := 8, slots := #[.int (39)], vm := .none },
  { cls := 8, slots := #[.int (40)], vm := .none },
  { cls := 8, slots := #[.int (41)], vm := .none },
  { cls := 8, slots := #[.int (42)], vm := .none },
  { cls := 8, slots := #[.int (43)], vm := .none },
  { cls := 8, slots := #[.int (44)], vm := .none },
  { cls := 8, slots := #[.int (45)], vm := .none },
  { cls := 8, slots := #[.int (46)], vm := .none },
  { cls := 8, slots := #[.int (47)], vm := .none },
  { cls := 8, slots := #[.int (48)], vm := .none },
  { cls := 8, slots := #[.int (49)], vm := .none },
  { cls := 8, slots := #[.int (50)], vm := .none },
  { cls := 8, slots := #[.int (51)], vm := .none },
  { cls := 8, slots := #[.int (52)], vm := .none },
  { cls := 8, slots := #[.int (53)], vm := .none },
  { cls := 8, slots := #[.int (54)], vm := .none },
  { cls := 8, slots := #[.int (55)], vm := .none },
  { cls := 8, slots := #[.int (56)], vm := .none },
  { cls := 8, slots := #[.int (57)], vm := .none },
  { cls := 8, slots := #[.int (58)], vm := .none },
  { cls := 8, slots := #[.int (59)], vm := .none },
  { cls := 8, slots := #[.int (60)], vm := .none },
  { cls := 8, slots := #[.int (61)], vm := .none },
  { cls := 8, slots := #[.int (62)], vm := .none },
  { cls := 8, slots := #[.int (63)], vm := .none },
  { cls := 8, slots := #[.int (64)], vm := .none },
  { cls := 8, slots := #[.int (65)], vm := .none },
  { cls := 8, slots := #[.int (66)], vm := .none },
  { cls := 8, slots := #[.int (67)], vm := .none },
  { cls := 8, slots := #[.int (68)], vm := .none },
  { cls := 8, slots := #[.int (69)], vm := .none },
  { cls := 8, slots := #[.int (70)], vm := .none },
  { cls := 8, slots := #[.int (71)], vm := .none },
  { cls := 8, slots := #[.int (72)], vm := .none },
  { cls := 8, slots := #[.int (73)], vm := .none },
  { cls := 8, slots := #[.int (74)], vm := .none },
  { cls := 8, slots := #[.int (75)], vm := .none },
  { cls := 8, slots := #[.int (76)], vm := .none },
  { cls := 8, slots := #[.int (77)], vm := .none },
  { cls := 8, slots := #[.int (78)], vm := .none },
  { cls := 8, slots := #[.int (79)], vm := .none },
  { cls := 8, slots := #[.int (80)], vm := .none },
  { cls := 8, slots := #[.int (81)], vm := .none },
  { cls := 8, slots := #[.int (82)], vm := .none },
  { cls := 8, slots := #[.int (83)], vm := .none },
  { cls := 8, slots := #[.int (84)], vm := .none },
  { cls := 8, slots := #[.int (85)], vm := .none },
  { cls := 8, slots := #[.int (86)], vm := .none },
  { cls := 8, slots := #[.int (87)], vm := .none },
  { cls := 8, slots := #[.int (88)], vm := .none },
  { cls := 8, slots := #[.int (89)], vm := .none },
  { cls := 8, slots := #[.int (90)], vm := .none },
  { cls := 8, slots := #[.int (91)], vm := .none },
  { cls := 8, slots := #[.int (92)], vm := .none },
  { cls := 8, slots := #[.int (93)], vm := .none },
  { cls := 8, slots := #[.int (94)], vm := .none },
  { cls := 8, slots := #[.int (95)], vm := .none },
  { cls := 8, slots := #[.int (96)], vm := .none },
  { cls := 8, slots := #[.int (97)], vm := .none },
  { cls := 8, slots := #[.int (98)], vm := .none },
  { cls := 8, slots := #[.int (99)], vm := .none },
  { cls := 8, slots := #[.int (100)], vm := .none },
  { cls := 8, slots := #[.int (101)], vm := .none },
  { cls := 8, slots := #[.int (102)], vm := .none },
  { cls := 8, slots := #[.int (103)], vm := .none },
  { cls := 8, slots := #[.int (104)], vm := .none },
  { cls := 8, slots := #[.int (105)], vm := .none },
  { cls := 8, slots := #[.int (106)], vm := .none },
  { cls := 8, slots := #[.int (107)], vm := .none },
  { cls := 8, slots := #[.int (108)], vm := .none },
  { cls := 8, slots := #[.int (109)], vm := .none },
  { cls := 8, slots := #[.int (110)], vm := .none },
  { cls := 8, slots := #[.int (111)], vm := .none },
  { cls := 8, slots := #[.int (112)], vm := .none },
  { cls := 8, slots := #[.int (113)], vm := .none },
  { cls := 8, slots := #[.int (114)], vm := .none },
  { cls := 8, slots := #[.int (115)], vm := .none },
  { cls := 8, slots := #[.int (116)], vm := .none },
  { cls := 8, slots := #[.int (117)], vm := .none },
  { cls := 8, slots := #[.int (118)], vm := .none },
  { cls := 8, slots := #[.int (119)], vm := .none },
  { cls := 8, slots := #[.int (120)], vm := .none },
  { cls := 8, slots := #[.int (121)], vm := .none },
  { cls := 8, slots := #[.int (122)], vm := .none },
  { cls := 8, slots := #[.int (123)], vm := .none },
  { cls := 8, slots := #[.int (124)], vm := .none },
  { cls := 8, slots := #[.int (125)], vm := .none },
  { cls := 8, slots := #[.int (126)], vm := .none },
  { cls := 8, slots := #[.int (127)], vm := .none }]
def classes : Array Class := #[k0, k1, k2, k3, k4, k5, k6, k7, k8, k9, k10, k11, k12, k13, k14, k15]
def interned : List (Array UInt16 × Addr) := []
def slotsUsed : Nat := 517
def theMethod : MethodId := ⟨1, 1⟩
def args0 : Array Value := #[.int 3, .int 1, .long 2, .int 3, .long 4, .int 5]
def aboutOver (below : List Frame) : State where
  vm := { classes := classes, interned := interned.toArray }
  heap := heap
  slotsUsed := slotsUsed
  threads := #[{ frames := .invoking theMethod args0 :: below }]
def below0 : List Frame := [.native { method := ⟨0, 0⟩, args := #[] }]
def about1 : State := aboutOver below0
def p0 : Program := .bare "" "" ""
def e0 : Env := launch0.env 0 0 0
theorem w_frames : about1.frames = Frame.invoking theMethod args0 :: below0 := rfl
set_option maxRecDepth 65536 in
theorem w_args : argsFit about1.vm theMethod args0 = true := by decide +kernel
set_option maxRecDepth 65536 in
theorem w_heap : heapFits about1 = true := by decide +kernel
set_option maxRecDepth 65536 in
theorem w_runnable : about1.curStatus? = some .runnable := by decide +kernel
set_option maxRecDepth 65536 in
theorem w_alone : about1.alone = true := by decide +kernel
set_option maxRecDepth 65536 in
theorem w_named : about1.methodNamed? x = some theMethod := by decide +kernel
set_option maxRecDepth 65536 in
theorem w_hears : about1.hears theMethod below0 = true := by decide +kernel
set_option maxRecDepth 65536 in
theorem w_ripe : about1.ripe theMethod args0 below0 = true := by decide +kernel
theorem w_running : about1.status = .running := rfl
set_option maxRecDepth 65536 in
theorem w_room : about1.hasRoom e0.platform room_1 = true :=
  launch0.hasRoom_least _ room_1 (by decide +kernel) (by decide +kernel) (by decide +kernel) (by decide +kernel) (by decide +kernel) (by decide +kernel)
theorem allAtoms_all (ts : List Jvm.Cond) (a : Array Jvm.Value) (st : Jvm.State) : (allAtoms ts).before a st = ts.all (fun c => c.before a st) := by
  induction ts with
  | nil => rfl
  | cons c t ih =>
    show (Jvm.Cond.and c (allAtoms t)).before a st = _
    rw [Jvm.Cond.before_and, ih, List.all_cons]
def words1 : List Jvm.Cond := Jvm.Cond.code x code maxLocals ret :: tables_1
/-- a 'code' word, met by the world's own term for the bytes: nothing is compared byte by byte -/
theorem code_word {y : MethodName} {bytes : ByteArray} {mx : Nat} {rt : Option FieldType} {a : Array Value} {s : State} {m : MethodId} {meth : Method} {c : Code} (h1 : s.methodNamed? y = some m) (h2 : s.vm.method? m = some meth) (h3 : meth.code = some c) (h4 : c.code = bytes)
    (h5 : (c.maxLocals == mx && c.exceptionTable.isEmpty && decide (c.maxStack ≤ mostOperands) && decide (meth.sig.returnType = rt) && !meth.locks && decide (parseMethodDescriptor y.desc = some meth.sig)) = true) : (Jvm.Cond.code y bytes mx rt).before a s = true := by
  simp only [Bool.and_eq_true, beq_iff_eq, Bool.not_eq_true', decide_eq_true_eq] at h5
  obtain ⟨⟨⟨⟨⟨g1, g2⟩, g3⟩, g4⟩, g5⟩, g6⟩ := h5
  simp [Cond.before, Cond.holds, Cond.value, h1, h2, h3, h4, g1, g2, g3, g4, g5, g6]
def isCode : Jvm.Cond → Bool
  | .code _ _ _ _ => true
  | _ => false
theorem all_split {L : List Jvm.Cond} {P : Jvm.Cond → Bool} (h1 : L.all (fun c => isCode c || P c) = true) (h2 : ∀ c ∈ L.filter isCode, P c = true) : L.all P = true := by
  refine List.all_eq_true.mpr fun c hc => ?_
  have h := List.all_eq_true.mp h1 c hc
  rcases Bool.eq_false_or_eq_true (isCode c) with hi | hi
  · exact h2 c (List.mem_filter.mpr ⟨hc, hi⟩)
  · simpa [hi] using h
set_option maxRecDepth 65536 in
theorem w_c0 : (Jvm.Cond.code x code maxLocals ret).before args0 about1 = true := code_word (m := ⟨1, 1⟩) (meth := k1m1) (c := k1c1) (by decide +kernel) rfl rfl rfl (by decide +kernel)
set_option maxRecDepth 65536 in
theorem w_c1 : (Jvm.Cond.code ({ cls := "com/example/avocet/avocet/index/IndexStats", name := "<init>", desc := "(IIJI)V" } : Jvm.MethodName) prog_29_method_2_code (6 : Nat) (Option.none : Option Jvm.ClassFile.FieldType)).before args0 about1 = true := code_word (m := ⟨2, 0⟩) (meth := k2m0) (c := k2c0) (by decide +kernel) rfl rfl rfl (by decide +kernel)
set_option maxRecDepth 65536 in
theorem w_c2 : (Jvm.Cond.code ({ cls := "java/lang/Object", name := "<init>", desc := "()V" } : Jvm.MethodName) object_method_1_code (1 : Nat) (Option.none : Option Jvm.ClassFile.FieldType)).before args0 about1 = true := code_word (m := ⟨0, 0⟩) (meth := k0m0) (c := k0c0) (by decide +kernel) rfl rfl rfl (by decide +kernel)
set_option maxRecDepth 65536 in
theorem w_c3 : (Jvm.Cond.code ({ cls := "java/lang/Integer", name := "valueOf", desc := "(I)Ljava/lang/Integer;" } : Jvm.MethodName) jdk_33_method_22_code (1 : Nat) (Option.some (Jvm.ClassFile.FieldType.object "java/lang/Integer"))).before args0 about1 = true := code_word (m := ⟨8, 0⟩) (meth := k8m0) (c := k8c0) (by decide +kernel) rfl rfl rfl (by decide +kernel)
set_option maxRecDepth 65536 in
theorem w_c4 : (Jvm.Cond.code ({ cls := "com/example/avocet/avocet/index/IndexStats", name := "equals", desc := "(Ljava/lang/Object;)Z" } : Jvm.MethodName) prog_29_method_7_code (3 : Nat) (Option.some Jvm.ClassFile.FieldType.boolean)).before args0 about1 = true := code_word (m := ⟨2, 1⟩) (meth := k2m1) (c := k2c1) (by decide +kernel) rfl rfl rfl (by decide +kernel)
set_option maxRecDepth 65536 in
theorem w_c5 : (Jvm.Cond.code ({ cls := "java/lang/Integer", name := "<init>", desc := "(I)V" } : Jvm.MethodName) jdk_33_method_23_code (2 : Nat) (Option.none : Option Jvm.ClassFile.FieldType)).before args0 about1 = true := code_word (m := ⟨8, 1⟩) (meth := k8m1) (c := k8c1) (by decide +kernel) rfl rfl rfl (by decide +kernel)
set_option maxRecDepth 65536 in
theorem w_c6 : (Jvm.Cond.code ({ cls := "java/lang/Number", name := "<init>", desc := "()V" } : Jvm.MethodName) jdk_18_method_1_code (1 : Nat) (Option.none : Option Jvm.ClassFile.FieldType)).before args0 about1 = true := code_word (m := ⟨4, 0⟩) (meth := k4m0) (c := k4c0) (by decide +kernel) rfl rfl rfl (by decide +kernel)
def codes1 : List Jvm.Cond := [Jvm.Cond.code x code maxLocals ret, Jvm.Cond.code ({ cls := "com/example/avocet/avocet/index/IndexStats", name := "<init>", desc := "(IIJI)V" } : Jvm.MethodName) prog_29_method_2_code (6 : Nat) (Option.none : Option Jvm.ClassFile.FieldType), Jvm.Cond.code ({ cls := "java/lang/Object", name := "<init>", desc := "()V" } : Jvm.MethodName) object_method_1_code (1 : Nat) (Option.none : Option Jvm.ClassFile.FieldType), Jvm.Cond.code ({ cls := "java/lang/Integer", name := "valueOf", desc := "(I)Ljava/lang/Integer;" } : Jvm.MethodName) jdk_33_method_22_code (1 : Nat) (Option.some (Jvm.ClassFile.FieldType.object "java/lang/Integer")), Jvm.Cond.code ({ cls := "com/example/avocet/avocet/index/IndexStats", name := "equals", desc := "(Ljava/lang/Object;)Z" } : Jvm.MethodName) prog_29_method_7_code (3 : Nat) (Option.some Jvm.ClassFile.FieldType.boolean), Jvm.Cond.code ({ cls := "java/lang/Integer", name := "<init>", desc := "(I)V" } : Jvm.MethodName) jdk_33_method_23_code (2 : Nat) (Option.none : Option Jvm.ClassFile.FieldType), Jvm.Cond.code ({ cls := "java/lang/Number", name := "<init>", desc := "()V" } : Jvm.MethodName) jdk_18_method_1_code (1 : Nat) (Option.none : Option Jvm.ClassFile.FieldType)]
set_option maxRecDepth 65536 in
theorem codes_eq : words1.filter isCode = codes1 := rfl
theorem w_codes : ∀ c ∈ words1.filter isCode, c.before args0 about1 = true := by
  rw [codes_eq]
  intro c hc
  simp only [codes1, List.mem_cons, List.not_mem_nil, or_false] at hc
  rcases hc with rfl | rfl | rfl | rfl | rfl | rfl | rfl
  · exact w_c0
  · exact w_c1
  · exact w_c2
  · exact w_c3
  · exact w_c4
  · exact w_c5
  · exact w_c6
set_option maxRecDepth 65536 in
theorem w_t1 : (words1.take 24).all (fun c => isCode c || c.before args0 about1) = true := by decide +kernel
set_option maxRecDepth 65536 in
theorem w_t2 : ((words1.drop 24).take 24).all (fun c => isCode c || c.before args0 about1) = true := by decide +kernel
set_option maxRecDepth 65536 in
theorem w_t3 : ((words1.drop 24).drop 24).all (fun c => isCode c || c.before args0 about1) = true := by decide +kernel
theorem w_tables : (allAtoms (Jvm.Cond.code x code maxLocals ret :: tables_1)).before args0 about1 = true := by
  rw [allAtoms_all]
  show words1.all (fun c => c.before args0 about1) = true
  refine all_split ?_ w_codes
  rw [← List.take_append_drop 24 words1, List.all_append, w_t1, ← List.take_append_drop 24 (words1.drop 24), List.all_append, w_t2, w_t3]
  rfl
set_option maxRecDepth 65536 in
theorem w_rest : rest_1_c.before args0 about1 = true := by decide +kernel
set_option maxRecDepth 65536 in
theorem w_case : (Jvm.Cond.and given_1 narrow_1).before args0 about1 = true := by decide +kernel
theorem w_applies : (headSpec (Jvm.Cond.code x code maxLocals ret :: tables_1) room_1).applies x e0.platform about1 = true :=
  (Spec.applies_iff w_frames).mpr ⟨w_running, w_runnable, w_alone, w_named, w_hears, w_ripe, w_room, w_tables⟩
theorem atStart : AtStart classFile x code maxLocals ret World_1 tables_1 room_1 Calls_1 rest_1 Pre_1 launch0 p0 e0 about1 theMethod args0 below0 :=
  ⟨lists_1, trivial, launch0.admits_env _ _ _, launch0.least_env, fairChoices_fair.cas, fairChoices_fair.clock, w_frames, w_args, w_heap, w_applies, trivial, w_rest, w_case⟩
end start1
theorem witness_1 : WitnessClaimed_1 := ⟨start1.p0, start1.e0, start1.about1, start1.theMethod, start1.args0, start1.below0, start1.atStart⟩
end Jvm.Pilot.@@N@@
