import JvmDerived
import JvmDerived.Pilot.@@N@@Statement
import JvmDerived.Pilot.@@N@@Code
set_option linter.unusedVariables false
set_option linter.unusedSimpArgs false
@@BLOCK:NumsL.lean.txt@@
namespace Jvm.Pilot.@@N@@
open Jvm Jvm.ClassFile Sem Op Lib Jvm.Free Jvm.Stand Jvm.LawKit Jvm.RoadKit Bundle Jvm.Pilot.@@N@@.Jvm.D
section Own
variable {p : Program} {l : Launch} {e : Env} {R : Room} {s : State} {m : MethodId} {args : Array Value} {below : List Frame} {meth : Method} {c : Code} {T : State} {locs : List Loc} {cells slots : Nat}
theorem own_ireturn (X : Stand p l e R s m args below meth c T locs cells slots) (hx : p.tables.exec = Jvm.exec) {pc : Nat} {Ls : Array Slot} {z : Int32} {rest : List Value} (hret : meth.sig.returnType = some .int) (hd : decode c.code pc = .ok (.ireturn, 1)) {fs : List Frame}
    (hl : ∀ (f : JFrame) (acts : List Action), f.method = m → f.locked = none → f.entered = [] → (doReturn e (T.setTop f) acts (some (.int z))).1 = T.setFrames fs) : Steps p.tables e below (T.setTop (mkF m pc Ls (.int z :: rest))) (T.setFrames fs) := by
  have hm' : T.vm.method? m = some meth := X.method'
  have hn : narrow .int (.int z) = .int z := rfl
  show Steps p.tables e below (T.setTop { method := m, pc := pc, locals := Ls, stack := _ :: rest, locked := none }) _
  jvm_step X.here [X.here.top, hx, hd, hm', hret, hn]
  first | (intro acts; rw [hl _ acts rfl rfl rfl]) | rw [hl _ _ rfl rfl rfl]
  exact Steps.refl _
theorem own_more (X : Stand p l e R s m args below meth c T locs cells slots) {k n : Nat} (h1 : cells ≤ k) (h2 : slots ≤ n) : Stand p l e R s m args below meth c T locs k n := { X with same := X.same.mono h1 h2 }
theorem own_retV (X : Stand p l e R s m args below meth c T locs cells slots) (hx : p.tables.exec = Jvm.exec) (hlk : meth.locks = false) (hret : meth.sig.returnType = none) {pc : Nat} {Ls : Array Slot} (hd : decode c.code pc = .ok (.return_, 1)) {base : State}
    (pre : ∀ t, Steps p.tables e below (T.setTop (mkF m pc Ls [])) t → Steps p.tables e below base t) {Q : Option Value → Heap → List Loc → Prop} (hQ : Q none T.heap locs) {k n : Nat} (h1 : cells ≤ k) (h2 : slots ≤ n) :
    ∃ s₂ o, Steps p.tables e below base s₂ ∧ s₂.status = .running ∧ Ended s₂ below o ∧ ∃ v L, o = .returned v ∧ Q v s₂.heap L ∧ FrameEnd s o s₂ L k n := by
  obtain ⟨fs, hr, hrun, hended, hW, hsame⟩ := X.leave (v := none) (fun _ => rfl)
  exact ⟨_, _, pre _ (X.returnOut hx hret hd hr), hrun, hended, _, _, rfl, hQ, ⟨_, rfl⟩, hW, hsame.mono h1 h2⟩
theorem own_retI (X : Stand p l e R s m args below meth c T locs cells slots) (hx : p.tables.exec = Jvm.exec) (hlk : meth.locks = false) (hret : meth.sig.returnType = some .int) {pc : Nat} {Ls : Array Slot} {z : Int32} {rest : List Value} (hd : decode c.code pc = .ok (.ireturn, 1)) {base : State}
    (pre : ∀ t, Steps p.tables e below (T.setTop (mkF m pc Ls (.int z :: rest))) t → Steps p.tables e below base t) {Q : Option Value → Heap → List Loc → Prop} (hQ : Q (some (.int z)) T.heap locs) {k n : Nat} (h1 : cells ≤ k) (h2 : slots ≤ n) :
    ∃ s₂ o, Steps p.tables e below base s₂ ∧ s₂.status = .running ∧ Ended s₂ below o ∧ ∃ v L, o = .returned v ∧ Q v s₂.heap L ∧ FrameEnd s o s₂ L k n := by
  obtain ⟨fs, hr, hrun, hended, hW, hsame⟩ := X.leave (v := some (.int z)) (fun h => by rw [hret] at h; cases h)
  exact ⟨_, _, pre _ (own_ireturn X hx hret hd hr), hrun, hended, _, _, rfl, hQ, ⟨_, rfl⟩, hW, hsame.mono h1 h2⟩
theorem own_retN (X : Stand p l e R s m args below meth c T locs cells slots) (hx : p.tables.exec = Jvm.exec) (hlk : meth.locks = false) {t : FieldType} (hret : meth.sig.returnType = some t) (ht : t = .boolean ∨ t = .byte ∨ t = .char ∨ t = .short) {pc : Nat} {Ls : Array Slot} {z : Int32} {rest : List Value} (hd : decode c.code pc = .ok (.ireturn, 1)) {base : State}
    (pre : ∀ t, Steps p.tables e below (T.setTop (mkF m pc Ls (.int z :: rest))) t → Steps p.tables e below base t) {Q : Option Value → Heap → List Loc → Prop} (hQ : Q (some (.int (nar t z))) T.heap locs) {k n : Nat} (h1 : cells ≤ k) (h2 : slots ≤ n) :
    ∃ s₂ o, Steps p.tables e below base s₂ ∧ s₂.status = .running ∧ Ended s₂ below o ∧ ∃ v L, o = .returned v ∧ Q v s₂.heap L ∧ FrameEnd s o s₂ L k n := by
  obtain ⟨fs, hr, hrun, hended, hW, hsame⟩ := X.leave (v := some (.int (nar t z))) (fun h => by rw [hret] at h; cases h)
  exact ⟨_, _, pre _ (retN X hx hret ht hd hr), hrun, hended, _, _, rfl, hQ, ⟨_, rfl⟩, hW, hsame.mono h1 h2⟩
theorem own_retJ (X : Stand p l e R s m args below meth c T locs cells slots) (hx : p.tables.exec = Jvm.exec) (hlk : meth.locks = false) (hret : meth.sig.returnType = some .long) {pc : Nat} {Ls : Array Slot} {z : Int64} (hd : decode c.code pc = .ok (.lreturn, 1)) {base : State}
    (pre : ∀ t, Steps p.tables e below (T.setTop (mkF m pc Ls [.long z])) t → Steps p.tables e below base t) {Q : Option Value → Heap → List Loc → Prop} (hQ : Q (some (.long z)) T.heap locs) {k n : Nat} (h1 : cells ≤ k) (h2 : slots ≤ n) :
    ∃ s₂ o, Steps p.tables e below base s₂ ∧ s₂.status = .running ∧ Ended s₂ below o ∧ ∃ v L, o = .returned v ∧ Q v s₂.heap L ∧ FrameEnd s o s₂ L k n := by
  obtain ⟨fs, hr, hrun, hended, hW, hsame⟩ := X.leave (v := some (.long z)) (fun h => by rw [hret] at h; cases h)
  exact ⟨_, _, pre _ (X.lreturnOut hx hret hd hr), hrun, hended, _, _, rfl, hQ, ⟨_, rfl⟩, hW, hsame.mono h1 h2⟩
theorem own_retA (X : Stand p l e R s m args below meth c T locs cells slots) (hx : p.tables.exec = Jvm.exec) (hlk : meth.locks = false) {w : Value} {t : FieldType} (hw : w.isRef = true) (hret : meth.sig.returnType = some t) (ht : t.isReference = true) {pc : Nat} {Ls : Array Slot} (hd : decode c.code pc = .ok (.areturn, 1)) {base : State}
    (pre : ∀ t, Steps p.tables e below (T.setTop (mkF m pc Ls [w])) t → Steps p.tables e below base t) {Q : Option Value → Heap → List Loc → Prop} (hQ : Q (some w) T.heap locs) {k n : Nat} (h1 : cells ≤ k) (h2 : slots ≤ n) :
    ∃ s₂ o, Steps p.tables e below base s₂ ∧ s₂.status = .running ∧ Ended s₂ below o ∧ ∃ v L, o = .returned v ∧ Q v s₂.heap L ∧ FrameEnd s o s₂ L k n := by
  obtain ⟨fs, hr, hrun, hended, hW, hsame⟩ := X.leave (v := some w) (fun h => by rw [hret] at h; cases h)
  exact ⟨_, _, pre _ (X.areturnOut hx hw hret ht hd hr), hrun, hended, _, _, rfl, hQ, ⟨_, rfl⟩, hW, hsame.mono h1 h2⟩
end Own
theorem own_bool {z : Int32} (h : z = 0 ∨ z = 1) : nar .boolean z = z := by rcases h with rfl | rfl <;> rfl

theorem own_retNW {p : Program} {l : Launch} {e : Env} {R : Room} {s : State} {vm₁ : Vm} {m : MethodId} {args : Array Value} {below : List Frame} {meth : Method} {c : Code} {T : State} {locs : List Loc} {cells slots : Nat} (X : Stand p l e R (s.setVm vm₁) m args below meth c T locs cells slots) {k1 : Nat} (hS : s.Since vm₁ k1) (hk : k1 ≤ T.heap.size) (hx : p.tables.exec = Jvm.exec) (hlk : meth.locks = false) {t : FieldType} (hret : meth.sig.returnType = some t) (ht : t = .boolean ∨ t = .byte ∨ t = .char ∨ t = .short) {pc : Nat} {Ls : Array Slot} {z : Int32} {rest : List Value} (hd : decode c.code pc = .ok (.ireturn, 1)) {base : State}
    (pre : ∀ t, Steps p.tables e below (T.setTop (mkF m pc Ls (.int z :: rest))) t → Steps p.tables e below base t) {Q : Option Value → Heap → List Loc → Prop} (hQ : Q (some (.int (nar t z))) T.heap locs) {k n : Nat} (h1 : cells ≤ k) (h2 : slots ≤ n) :
    ∃ s₂ o, Steps p.tables e below base s₂ ∧ s₂.status = .running ∧ Ended s₂ below o ∧ ∃ v L, o = .returned v ∧ Q v s₂.heap L ∧ ReturnedEndW s o s₂ L k n := by
  obtain ⟨fs, hr, hrun, hended, hW⟩ := X.leaveW hS hk (v := some (.int (nar t z))) (fun h => by rw [hret] at h; cases h)
  exact ⟨_, _, pre _ (retN X hx hret ht hd hr), hrun, hended, _, _, rfl, hQ, hW.1, hW.2.1, hW.2.2.1, hW.2.2.2.mono h1 h2⟩

theorem ef_0 (m : MethodId) (x0 : Addr) (x1 : Addr) : entryFrame m #[(.ref x0), (.ref x1)] 2 = mkF m 0 #[.val (.ref x0), .val (.ref x1)] [] := by first | (simp [entryFrame, mkF, argsToLocals, Value.category]; done) | rfl
theorem pn_1 : plainName "com/example/digitwarden/digitwarden/model/Scheme" = true := by first | (simp [plainName, overriddenIn]; done) | decide +kernel
theorem d2_0 : decode prog_34_method_1_code 0 = .ok (.aload_n 0, 1) := by decide +kernel
theorem d2_1 : decode prog_34_method_1_code 1 = .ok (.invokespecial 1, 3) := by decide +kernel
theorem d2_4 : decode prog_34_method_1_code 4 = .ok (.aload_n 0, 1) := by decide +kernel
theorem d2_5 : decode prog_34_method_1_code 5 = .ok (.aload_n 1, 1) := by decide +kernel
theorem d2_6 : decode prog_34_method_1_code 6 = .ok (.putfield 7, 3) := by decide +kernel
theorem d2_9 : decode prog_34_method_1_code 9 = .ok (.return_, 1) := by decide +kernel
def Q2 (a1 : Addr) (h0 : Heap) (n0 : Nat) (v : Option Value) (h : Heap) (L : List Loc) : Prop := v = none ∧ Fr n0 L ∧ Keep h0 h [a1]
set_option maxRecDepth 65536 in
set_option maxHeartbeats 40000000 in
theorem rm2 (l : Launch) (Z : State) (a0 : Array Value) (hw : ∀ d ∈ tables_1, d.before a0 Z = true) (ws : List Jvm.Cond) (a1 a2 : Addr) (h0 : Heap) (n0 : Nat) (Z0 : n0 ≤ h0.size) (E1 : Exa Z h0 a1 "com/example/digitwarden/digitwarden/model/IbanScheme") (F1 : Fld Z h0 a1 "com/example/digitwarden/digitwarden/model/Scheme" "_name" "Ljava/lang/String;" .null) (G1 : n0 ≤ a1) :
    MetFree l (⟨"com/example/digitwarden/digitwarden/model/Scheme", "<init>", "(Ljava/lang/String;)V"⟩ : MethodName) (head1 (Jvm.Cond.code (⟨"com/example/digitwarden/digitwarden/model/Scheme", "<init>", "(Ljava/lang/String;)V"⟩ : MethodName) prog_34_method_1_code 2 none :: ws) ({ frames := 1, cells := 0, slots := 0, locals := 12 } : Room)) (fun a U => a = #[(.ref a1), (.ref a2)] ∧ Z.Warmed39 U.vm ∧ U.heap = h0) (fun _ _ _ _ _ => True) (fun _ U o U' => ∃ v L, o = .returned v ∧ Q2 a1 h0 n0 v U'.heap L ∧ FrameEnd U o U' L ({ frames := 1, cells := 0, slots := 0, locals := 12 } : Room).cells ({ frames := 1, cells := 0, slots := 0, locals := 12 } : Room).slots) := by
  refine MetFree.of_bodySF (plainFor_of_name pn_1) hisR ?_
  intro p e s m args below meth c s₁ Bd hml0 hP hK
  obtain ⟨rfl, hZ, hh⟩ := hP
  have hx := Bd.exec
  have hby := Bd.bytes
  have hml : c.maxLocals = 2 := hml0
  have hown : s.vm.findClass "com/example/digitwarden/digitwarden/model/Scheme" = some m.cls := findClass_of_methodNamed Bd.named
  have hnm := (name_of_methodNamed Bd.named Bd.method).1
  have X0 : Stand p l e ({ frames := 1, cells := 0, slots := 0, locals := 12 } : Room) s m #[(.ref a1), (.ref a2)] below meth c s₁ [] 0 0 := Stand.of_body Bd
  have e0 : s₁.heap = h0 := by rw [← hh, Bd.state]; rfl
  have N0 := Fr.nil n0
  have pre0 : ∀ t, Steps p.tables e below (s₁.setTop (mkF m 0 #[.val (.ref a1), .val (.ref a2)] [])) t → Steps p.tables e below (s₁.setTop (entryFrame m #[(.ref a1), (.ref a2)] 2)) t := fun t k => castTop (ef_0 m a1 a2) k
  obtain ⟨T1, X1, e1, st1⟩ := initO X0 hx hZ hown (hw _ (List.mem_of_getElem? (i := 19) rfl)) (hw _ (List.mem_of_getElem? (i := 20) rfl)) (hw _ (List.mem_of_getElem? (i := 21) rfl)) e0 (g := (mkF m 1 #[.val (.ref a1), .val (.ref a2)] [(.ref a1)])) rfl (by rw [hml]; rfl) rfl (hb hby d2_1) (by decide) (W := 0) (by show 2 * 0 + _ ≤ _; exact Nat.le_of_eq rfl) (by decide)
  obtain ⟨T2, h2, X2, e2, W2, st2⟩ := putF X1 hx hZ hown (host := "") (Or.inl (hw _ (List.mem_of_getElem? (i := 22) rfl))) Via.refl e1 F1 E1 (Or.inr ⟨(hw _ (List.mem_of_getElem? (i := 23) rfl)), rfl, hnm⟩) (hw _ (List.mem_of_getElem? (i := 1) rfl)) (ty := (.object "java/lang/String")) (by decide) rfl rfl (g := (mkF m 6 #[.val (.ref a1), .val (.ref a2)] [(.ref a2), (.ref a1)])) rfl rfl (hb hby d2_6)
  have Fw2 := F1.same W2
  have N2 := Fr.snoc X2 N0 G1
  have z3 : n0 ≤ h2.size := Nat.le_trans Z0 (Keep.of_wr W2).1
  have c4 := E1.wr W2
  have c6 := (Keep.refl h0 [a1]).wr W2 (Or.inl (List.mem_of_getElem? (i := 0) rfl))
  have pre7 : ∀ t, Steps p.tables e below (T2.setTop (mkF m 9 #[.val (.ref a1), .val (.ref a2)] [])) t → Steps p.tables e below (s₁.setTop (entryFrame m #[(.ref a1), (.ref a2)] 2)) t := fun t kt => pre0 t (by
    show Steps p.tables e below (s₁.setTop (mkF m 0 #[.val (.ref a1), .val (.ref a2)] [])) _
    refine XS.aloadN X0.here hx rfl (hb hby d2_0) rfl rfl ?_
    show Steps p.tables e below (s₁.setTop (mkF m 1 #[.val (.ref a1), .val (.ref a2)] [(.ref a1)])) _
    refine st1 _ ?_
    show Steps p.tables e below (T1.setTop (mkF m 4 #[.val (.ref a1), .val (.ref a2)] [])) _
    refine XS.aloadN X1.here hx rfl (hb hby d2_4) rfl rfl ?_
    show Steps p.tables e below (T1.setTop (mkF m 5 #[.val (.ref a1), .val (.ref a2)] [(.ref a1)])) _
    refine XS.aloadN X1.here hx rfl (hb hby d2_5) rfl rfl ?_
    show Steps p.tables e below (T1.setTop (mkF m 6 #[.val (.ref a1), .val (.ref a2)] [(.ref a2), (.ref a1)])) _
    refine st2 _ ?_
    exact kt)
  have hQ : Q2 a1 h0 n0 none h2 _ := ⟨rfl, N2, c6⟩
  exact own_retV X2 hx Bd.notSynchronized Bd.returns (hb hby d2_9) pre7 (show Q2 a1 h0 n0 _ _ _ from (by rw [e2]; exact hQ)) (by decide) (by decide)
theorem ef_8 (m : MethodId) (x0 : Addr) (x1 : Addr) : entryFrame m #[(.ref x0), (.ref x1)] 2 = mkF m 0 #[.val (.ref x0), .val (.ref x1)] [] := by first | (simp [entryFrame, mkF, argsToLocals, Value.category]; done) | rfl
theorem pn_9 : plainName "com/example/digitwarden/digitwarden/model/IbanScheme" = true := by first | (simp [plainName, overriddenIn]; done) | decide +kernel
theorem d1_0 : decode prog_28_method_1_code 0 = .ok (.aload_n 0, 1) := by decide +kernel
theorem d1_1 : decode prog_28_method_1_code 1 = .ok (.aload_n 1, 1) := by decide +kernel
theorem d1_2 : decode prog_28_method_1_code 2 = .ok (.invokespecial 3, 3) := by decide +kernel
theorem pd_13 : parseMethodDescriptor "(Ljava/lang/String;)V" = some ⟨[(.object "java/lang/String")], none⟩ := by decide +kernel
theorem d1_5 : decode prog_28_method_1_code 5 = .ok (.return_, 1) := by decide +kernel
set_option maxRecDepth 65536 in
set_option maxHeartbeats 40000000 in
theorem rm1 (l : Launch) (Z : State) (a0 : Array Value) (hw : ∀ d ∈ tables_1, d.before a0 Z = true) (ws : List Jvm.Cond) (a1 a2 : Addr) (h0 : Heap) (n0 : Nat) (Z0 : n0 ≤ h0.size) (E1 : Exa Z h0 a1 "com/example/digitwarden/digitwarden/model/IbanScheme") (F1 : Fld Z h0 a1 "com/example/digitwarden/digitwarden/model/Scheme" "_name" "Ljava/lang/String;" .null) (G1 : n0 ≤ a1) :
    MetFree l (⟨"com/example/digitwarden/digitwarden/model/IbanScheme", "<init>", "(Ljava/lang/String;)V"⟩ : MethodName) (head1 (Jvm.Cond.code (⟨"com/example/digitwarden/digitwarden/model/IbanScheme", "<init>", "(Ljava/lang/String;)V"⟩ : MethodName) prog_28_method_1_code 2 none :: ws) ({ frames := 2, cells := 0, slots := 0, locals := 25 } : Room)) (fun a U => a = #[(.ref a1), (.ref a2)] ∧ Z.Warmed39 U.vm ∧ U.heap = h0) (fun _ _ _ _ _ => True) (fun _ U o U' => ∃ v L, o = .returned v ∧ Q2 a1 h0 n0 v U'.heap L ∧ FrameEnd U o U' L ({ frames := 2, cells := 0, slots := 0, locals := 25 } : Room).cells ({ frames := 2, cells := 0, slots := 0, locals := 25 } : Room).slots) := by
  refine MetFree.of_bodySF (plainFor_of_name pn_9) hisR ?_
  intro p e s m args below meth c s₁ Bd hml0 hP hK
  obtain ⟨rfl, hZ, hh⟩ := hP
  have hx := Bd.exec
  have hby := Bd.bytes
  have hml : c.maxLocals = 2 := hml0
  have hown : s.vm.findClass "com/example/digitwarden/digitwarden/model/IbanScheme" = some m.cls := findClass_of_methodNamed Bd.named
  have hnm := (name_of_methodNamed Bd.named Bd.method).1
  have X0 : Stand p l e ({ frames := 2, cells := 0, slots := 0, locals := 25 } : Room) s m #[(.ref a1), (.ref a2)] below meth c s₁ [] 0 0 := Stand.of_body Bd
  have e0 : s₁.heap = h0 := by rw [← hh, Bd.state]; rfl
  have N0 := Fr.nil n0
  have pre0 : ∀ t, Steps p.tables e below (s₁.setTop (mkF m 0 #[.val (.ref a1), .val (.ref a2)] [])) t → Steps p.tables e below (s₁.setTop (entryFrame m #[(.ref a1), (.ref a2)] 2)) t := fun t k => castTop (ef_8 m a1 a2) k
  obtain ⟨_, _, ⟨T8, L8, k8, n8⟩, -, X8, ⟨Lc8, hQ8, l8, y8, z8⟩, st8⟩ := X0.specialBack hx (y := (⟨"com/example/digitwarden/digitwarden/model/Scheme", "<init>", "(Ljava/lang/String;)V"⟩ : MethodName)) rfl hown (mvT hZ (hw _ (List.mem_of_getElem? (i := 14) rfl))) (mvT hZ (hw _ (List.mem_of_getElem? (i := 15) rfl))) (mvT hZ (hw _ (List.mem_of_getElem? (i := 18) rfl))) (by decide) (backOf (W := 0) (rm2 l Z a0 hw [] a1 a2 h0 n0 Z0 E1 F1 G1) hZ (hw _ (List.mem_of_getElem? (i := 18) rfl)) (hw _ (List.mem_of_getElem? (i := 17) rfl)) (by decide) (by decide)) (g := (mkF m 2 #[.val (.ref a1), .val (.ref a2)] [(.ref a2), (.ref a1)])) rfl (by rw [hml]; rfl) (Steps.refl _) (a := a1) (argsL := [(.ref a2)]) (rest := []) (lenOf pd_13 rfl) rfl (by show 2 * 0 + _ ≤ _; exact Nat.le_of_eq rfl) (hb hby d1_2) (fun _ _ => ⟨rfl, e0, (by decide : 0 + 0 ≤ _), (by decide : 0 + 0 ≤ _)⟩)
  dsimp only [Pt.U, Pt.locs, Pt.cells, Pt.slots] at X8 l8 y8 z8 st8 hQ8
  subst l8 y8 z8
  obtain ⟨rfl, Nq8, K8⟩ := hQ8
  have N8 := Fr.app N0 Nq8
  have z9 : n0 ≤ T8.heap.size := Nat.le_trans Z0 K8.1
  have c10 := (Keep.refl h0 [a1]).trans K8 (allS (Or.inl (List.mem_of_getElem? (i := 0) rfl)) all0)
  have pre11 : ∀ t, Steps p.tables e below (T8.setTop (mkF m 5 #[.val (.ref a1), .val (.ref a2)] [])) t → Steps p.tables e below (s₁.setTop (entryFrame m #[(.ref a1), (.ref a2)] 2)) t := fun t kt => pre0 t (by
    show Steps p.tables e below (s₁.setTop (mkF m 0 #[.val (.ref a1), .val (.ref a2)] [])) _
    refine XS.aloadN X0.here hx rfl (hb hby d1_0) rfl rfl ?_
    show Steps p.tables e below (s₁.setTop (mkF m 1 #[.val (.ref a1), .val (.ref a2)] [(.ref a1)])) _
    refine XS.aloadN X0.here hx rfl (hb hby d1_1) rfl rfl ?_
    show Steps p.tables e below (s₁.setTop (mkF m 2 #[.val (.ref a1), .val (.ref a2)] [(.ref a2), (.ref a1)])) _
    refine st8.trans ?_
    exact kt)
  exact own_retV X8 hx Bd.notSynchronized Bd.returns (hb hby d1_5) pre11 (show Q2 a1 h0 n0 _ _ _ from ⟨rfl, N8, c10⟩) (by decide) (by decide)
theorem ef_15 (m : MethodId) (x0 : Int32) : entryFrame m #[(.int x0)] 1 = mkF m 0 #[.val (.int x0)] [] := by first | (simp [entryFrame, mkF, argsToLocals, Value.category]; done) | rfl
theorem pn_16 : plainName "com/example/digitwarden/digitwarden/model/IbanSchemeAcceptsLengthPinLaw" = true := by first | (simp [plainName, overriddenIn]; done) | decide +kernel
theorem d4_0 : decode method_2_code 0 = .ok (.iload_n 0, 1) := by decide +kernel
theorem d4_1 : decode method_2_code 1 = .ok (.ldc 7, 2) := by decide +kernel
theorem d4_3 : decode method_2_code 3 = .ok (.iand, 1) := by decide +kernel
theorem d4_4 : decode method_2_code 4 = .ok (.bipush 48, 2) := by decide +kernel
theorem d4_6 : decode method_2_code 6 = .ok (.irem, 1) := by decide +kernel
theorem d4_7 : decode method_2_code 7 = .ok (.iconst 4, 1) := by decide +kernel
theorem d4_8 : decode method_2_code 8 = .ok (.isub, 1) := by decide +kernel
theorem d4_9 : decode method_2_code 9 = .ok (.ireturn, 1) := by decide +kernel
def Q4 (p1 : Int32) (h0 : Heap) (n0 : Nat) (v : Option Value) (h : Heap) (L : List Loc) : Prop := v = some (.int (((p1 &&& (2147483647 : Int32)) - (p1 &&& (2147483647 : Int32)) / (48 : Int32) * (48 : Int32)) - (4 : Int32))) ∧ Fr n0 L ∧ h = h0
set_option maxRecDepth 65536 in
set_option maxHeartbeats 40000000 in
theorem rm4 (l : Launch) (Z : State) (a0 : Array Value) (hw : ∀ d ∈ tables_1, d.before a0 Z = true) (ws : List Jvm.Cond) (p1 : Int32) (h0 : Heap) (n0 : Nat) (Z0 : n0 ≤ h0.size) :
    MetFree l (⟨"com/example/digitwarden/digitwarden/model/IbanSchemeAcceptsLengthPinLaw", "near", "(I)I"⟩ : MethodName) (head1 (Jvm.Cond.code (⟨"com/example/digitwarden/digitwarden/model/IbanSchemeAcceptsLengthPinLaw", "near", "(I)I"⟩ : MethodName) method_2_code 1 (some .int) :: ws) ({ frames := 0, cells := 0, slots := 0, locals := 0 } : Room)) (fun a U => a = #[(.int p1)] ∧ Z.Warmed39 U.vm ∧ U.heap = h0) (fun _ _ _ _ _ => True) (fun _ U o U' => ∃ v L, o = .returned v ∧ Q4 p1 h0 n0 v U'.heap L ∧ FrameEnd U o U' L ({ frames := 0, cells := 0, slots := 0, locals := 0 } : Room).cells ({ frames := 0, cells := 0, slots := 0, locals := 0 } : Room).slots) := by
  refine MetFree.of_bodySF (plainFor_of_name pn_16) hisR ?_
  intro p e s m args below meth c s₁ Bd hml0 hP hK
  obtain ⟨rfl, hZ, hh⟩ := hP
  have hx := Bd.exec
  have hby := Bd.bytes
  have hml : c.maxLocals = 1 := hml0
  have hown : s.vm.findClass "com/example/digitwarden/digitwarden/model/IbanSchemeAcceptsLengthPinLaw" = some m.cls := findClass_of_methodNamed Bd.named
  have hnm := (name_of_methodNamed Bd.named Bd.method).1
  have X0 : Stand p l e ({ frames := 0, cells := 0, slots := 0, locals := 0 } : Room) s m #[(.int p1)] below meth c s₁ [] 0 0 := Stand.of_body Bd
  have e0 : s₁.heap = h0 := by rw [← hh, Bd.state]; rfl
  have N0 := Fr.nil n0
  have pre0 : ∀ t, Steps p.tables e below (s₁.setTop (mkF m 0 #[.val (.int p1)] [])) t → Steps p.tables e below (s₁.setTop (entryFrame m #[(.int p1)] 1)) t := fun t k => castTop (ef_15 m p1) k
  have pre12 : ∀ t, Steps p.tables e below (s₁.setTop (mkF m 9 #[.val (.int p1)] [(.int (((p1 &&& (2147483647 : Int32)) - (p1 &&& (2147483647 : Int32)) / (48 : Int32) * (48 : Int32)) - (4 : Int32)))])) t → Steps p.tables e below (s₁.setTop (entryFrame m #[(.int p1)] 1)) t := fun t kt => pre0 t (by
    show Steps p.tables e below (s₁.setTop (mkF m 0 #[.val (.int p1)] [])) _
    refine XS.iloadN X0.here hx rfl (hb hby d4_0) rfl ?_
    show Steps p.tables e below (s₁.setTop (mkF m 1 #[.val (.int p1)] [(.int p1)])) _
    refine X0.ldcInt hx hown (mvT hZ (hw _ (List.mem_of_getElem? (i := 28) rfl))) (g := (mkF m 1 #[.val (.int p1)] [(.int p1)])) rfl (hb hby d4_1) _ ?_
    show Steps p.tables e below (s₁.setTop (mkF m 3 #[.val (.int p1)] [(.int (2147483647 : Int32)), (.int p1)])) _
    refine XS.iand X0.here hx rfl (hb hby d4_3) rfl ?_
    show Steps p.tables e below (s₁.setTop (mkF m 4 #[.val (.int p1)] [(.int (p1 &&& (2147483647 : Int32)))])) _
    refine XS.bipush X0.here hx rfl (hb hby d4_4) ?_
    show Steps p.tables e below (s₁.setTop (mkF m 6 #[.val (.int p1)] [(.int (48 : Int32)), (.int (p1 &&& (2147483647 : Int32)))])) _
    refine XS.irem X0.here hx rfl (hb hby d4_6) rfl (by decide) ?_
    show Steps p.tables e below (s₁.setTop (mkF m 7 #[.val (.int p1)] [(.int ((p1 &&& (2147483647 : Int32)) - (p1 &&& (2147483647 : Int32)) / (48 : Int32) * (48 : Int32)))])) _
    refine XS.iconst X0.here hx rfl (hb hby d4_7) ?_
    show Steps p.tables e below (s₁.setTop (mkF m 8 #[.val (.int p1)] [(.int (4 : Int32)), (.int ((p1 &&& (2147483647 : Int32)) - (p1 &&& (2147483647 : Int32)) / (48 : Int32) * (48 : Int32)))])) _
    refine XS.isub X0.here hx rfl (hb hby d4_8) rfl ?_
    exact kt)
  exact own_retI X0 hx Bd.notSynchronized Bd.returns (hb hby d4_9) pre12 (show Q4 p1 h0 n0 _ _ _ from ⟨rfl, N0, e0⟩) (by decide) (by decide)
theorem ef_25 (m : MethodId) (x0 : Addr) (x1 : Int32) : entryFrame m #[(.ref x0), (.int x1)] 2 = mkF m 0 #[.val (.ref x0), .val (.int x1)] [] := by first | (simp [entryFrame, mkF, argsToLocals, Value.category]; done) | rfl
theorem d5_0 : decode prog_28_method_2_code 0 = .ok (.iload_n 1, 1) := by decide +kernel
theorem d5_1 : decode prog_28_method_2_code 1 = .ok (.iconst 5, 1) := by decide +kernel
theorem d5_2 : decode prog_28_method_2_code 2 = .ok (.if_icmp .lt 13, 3) := by decide +kernel
theorem d5_15 : decode prog_28_method_2_code 15 = .ok (.iconst 0, 1) := by decide +kernel
theorem d5_5 : decode prog_28_method_2_code 5 = .ok (.iload_n 1, 1) := by decide +kernel
theorem d5_6 : decode prog_28_method_2_code 6 = .ok (.bipush 34, 2) := by decide +kernel
theorem d5_8 : decode prog_28_method_2_code 8 = .ok (.if_icmp .gt 7, 3) := by decide +kernel
theorem d5_11 : decode prog_28_method_2_code 11 = .ok (.iconst 1, 1) := by decide +kernel
theorem d5_12 : decode prog_28_method_2_code 12 = .ok (.goto 4, 3) := by decide +kernel
theorem d5_16 : decode prog_28_method_2_code 16 = .ok (.ireturn, 1) := by decide +kernel
def Q5 (a0s : Addr) (p1 : Int32) (h0 : Heap) (n0 : Nat) (v : Option Value) (h : Heap) (L : List Loc) : Prop := v = some (.int (if p1 < (5 : Int32) then (0 : Int32) else (if (34 : Int32) < p1 then (0 : Int32) else (1 : Int32)))) ∧ Fr n0 L ∧ h = h0
set_option maxRecDepth 65536 in
set_option maxHeartbeats 40000000 in
theorem rm5 (l : Launch) (Z : State) (a0 : Array Value) (hw : ∀ d ∈ tables_1, d.before a0 Z = true) (ws : List Jvm.Cond) (a0s : Addr) (p1 : Int32) (h0 : Heap) (n0 : Nat) (Z0 : n0 ≤ h0.size) :
    MetFree l (⟨"com/example/digitwarden/digitwarden/model/IbanScheme", "acceptsLength", "(I)Z"⟩ : MethodName) (head1 (Jvm.Cond.code (⟨"com/example/digitwarden/digitwarden/model/IbanScheme", "acceptsLength", "(I)Z"⟩ : MethodName) prog_28_method_2_code 2 (some .boolean) :: ws) ({ frames := 0, cells := 0, slots := 0, locals := 0 } : Room)) (fun a U => a = #[(.ref a0s), (.int p1)] ∧ Z.Warmed39 U.vm ∧ U.heap = h0) (fun _ _ _ _ _ => True) (fun _ U o U' => ∃ v L, o = .returned v ∧ Q5 a0s p1 h0 n0 v U'.heap L ∧ FrameEnd U o U' L ({ frames := 0, cells := 0, slots := 0, locals := 0 } : Room).cells ({ frames := 0, cells := 0, slots := 0, locals := 0 } : Room).slots) := by
  refine MetFree.of_bodySF (plainFor_of_name pn_9) hisR ?_
  intro p e s m args below meth c s₁ Bd hml0 hP hK
  obtain ⟨rfl, hZ, hh⟩ := hP
  have hx := Bd.exec
  have hby := Bd.bytes
  have hml : c.maxLocals = 2 := hml0
  have hown : s.vm.findClass "com/example/digitwarden/digitwarden/model/IbanScheme" = some m.cls := findClass_of_methodNamed Bd.named
  have hnm := (name_of_methodNamed Bd.named Bd.method).1
  have X0 : Stand p l e ({ frames := 0, cells := 0, slots := 0, locals := 0 } : Room) s m #[(.ref a0s), (.int p1)] below meth c s₁ [] 0 0 := Stand.of_body Bd
  have e0 : s₁.heap = h0 := by rw [← hh, Bd.state]; rfl
  have N0 := Fr.nil n0
  have pre0 : ∀ t, Steps p.tables e below (s₁.setTop (mkF m 0 #[.val (.ref a0s), .val (.int p1)] [])) t → Steps p.tables e below (s₁.setTop (entryFrame m #[(.ref a0s), (.int p1)] 2)) t := fun t k => castTop (ef_25 m a0s p1) k
  have pre13 : ∀ t, Steps p.tables e below (s₁.setTop (mkF m 2 #[.val (.ref a0s), .val (.int p1)] [(.int (5 : Int32)), (.int p1)])) t → Steps p.tables e below (s₁.setTop (entryFrame m #[(.ref a0s), (.int p1)] 2)) t := fun t kt => pre0 t (by
    show Steps p.tables e below (s₁.setTop (mkF m 0 #[.val (.ref a0s), .val (.int p1)] [])) _
    refine XS.iloadN X0.here hx rfl (hb hby d5_0) rfl ?_
    show Steps p.tables e below (s₁.setTop (mkF m 1 #[.val (.ref a0s), .val (.int p1)] [(.int p1)])) _
    refine XS.iconst X0.here hx rfl (hb hby d5_1) ?_
    exact kt)
  obtain ⟨v16, hv16⟩ : ∃ z : Int32, z = (if p1 < (5 : Int32) then (0 : Int32) else (if (34 : Int32) < p1 then (0 : Int32) else (1 : Int32))) := ⟨_, rfl⟩
  have pre17 : ∀ t, Steps p.tables e below (s₁.setTop (mkF m 16 #[.val (.ref a0s), .val (.int p1)] [(.int v16)])) t → Steps p.tables e below (s₁.setTop (entryFrame m #[(.ref a0s), (.int p1)] 2)) t := fun t kt => pre13 t (by
    by_cases hc14 : p1 < (5 : Int32)
    case pos =>
      show Steps p.tables e below (s₁.setTop (mkF m 2 #[.val (.ref a0s), .val (.int p1)] [(.int (5 : Int32)), (.int p1)])) _
      refine XS.icmpYes X0.here hx rfl (pc0 := 2) (pc' := 15) rfl (hb hby d5_2) rfl (tlt hc14).1 (by decide) (by decide) ?_
      show Steps p.tables e below (s₁.setTop (mkF m 15 #[.val (.ref a0s), .val (.int p1)] [])) _
      refine XS.iconst X0.here hx rfl (hb hby d5_15) ?_
      rw [show v16 = (0 : Int32) from (hv16.trans (if_pos hc14))] at kt
      exact kt
    case neg =>
      show Steps p.tables e below (s₁.setTop (mkF m 2 #[.val (.ref a0s), .val (.int p1)] [(.int (5 : Int32)), (.int p1)])) _
      refine XS.icmpNo X0.here hx rfl (hb hby d5_2) rfl (flt hc14).1 ?_
      show Steps p.tables e below (s₁.setTop (mkF m 5 #[.val (.ref a0s), .val (.int p1)] [])) _
      refine XS.iloadN X0.here hx rfl (hb hby d5_5) rfl ?_
      show Steps p.tables e below (s₁.setTop (mkF m 6 #[.val (.ref a0s), .val (.int p1)] [(.int p1)])) _
      refine XS.bipush X0.here hx rfl (hb hby d5_6) ?_
      by_cases hc15 : (34 : Int32) < p1
      case pos =>
        show Steps p.tables e below (s₁.setTop (mkF m 8 #[.val (.ref a0s), .val (.int p1)] [(.int (34 : Int32)), (.int p1)])) _
        refine XS.icmpYes X0.here hx rfl (pc0 := 8) (pc' := 15) rfl (hb hby d5_8) rfl (tlt hc15).2.2.1 (by decide) (by decide) ?_
        show Steps p.tables e below (s₁.setTop (mkF m 15 #[.val (.ref a0s), .val (.int p1)] [])) _
        refine XS.iconst X0.here hx rfl (hb hby d5_15) ?_
        rw [show v16 = (0 : Int32) from ((hv16.trans (if_neg hc14)).trans (if_pos hc15))] at kt
        exact kt
      case neg =>
        show Steps p.tables e below (s₁.setTop (mkF m 8 #[.val (.ref a0s), .val (.int p1)] [(.int (34 : Int32)), (.int p1)])) _
        refine XS.icmpNo X0.here hx rfl (hb hby d5_8) rfl (flt hc15).2.2.1 ?_
        show Steps p.tables e below (s₁.setTop (mkF m 11 #[.val (.ref a0s), .val (.int p1)] [])) _
        refine XS.iconst X0.here hx rfl (hb hby d5_11) ?_
        show Steps p.tables e below (s₁.setTop (mkF m 12 #[.val (.ref a0s), .val (.int p1)] [(.int (1 : Int32))])) _
        refine XS.goto X0.here hx rfl (pc0 := 12) (pc' := 16) rfl (hb hby d5_12) (by decide) (by decide) ?_
        rw [show v16 = (1 : Int32) from ((hv16.trans (if_neg hc14)).trans (if_neg hc15))] at kt
        exact kt)
  have hbv16 : nar .boolean v16 = (if p1 < (5 : Int32) then (0 : Int32) else (if (34 : Int32) < p1 then (0 : Int32) else (1 : Int32))) := (own_bool (by rw [hv16]; (repeat' split) <;> simp)).trans hv16
  exact own_retN X0 hx Bd.notSynchronized (t := .boolean) Bd.returns (by simp) (hb hby d5_16) pre17 (show Q5 a0s p1 h0 n0 _ _ _ from ⟨congrArg (fun z => some (Value.int z)) hbv16, N0, e0⟩) (by decide) (by decide)
theorem ef_36 (m : MethodId) (x0 : Int32) (x1 : Int32) : entryFrame m #[(.int x0), (.int x1)] 2 = mkF m 0 #[.val (.int x0), .val (.int x1)] [] := by first | (simp [entryFrame, mkF, argsToLocals, Value.category]; done) | rfl
theorem d6_0 : decode jdk_29_method_69_code 0 = .ok (.iload_n 0, 1) := by decide +kernel
theorem d6_1 : decode jdk_29_method_69_code 1 = .ok (.iload_n 1, 1) := by decide +kernel
theorem d6_2 : decode jdk_29_method_69_code 2 = .ok (.if_icmp .gt 7, 3) := by decide +kernel
theorem d6_9 : decode jdk_29_method_69_code 9 = .ok (.iload_n 1, 1) := by decide +kernel
theorem d6_5 : decode jdk_29_method_69_code 5 = .ok (.iload_n 0, 1) := by decide +kernel
theorem d6_6 : decode jdk_29_method_69_code 6 = .ok (.goto 4, 3) := by decide +kernel
theorem d6_10 : decode jdk_29_method_69_code 10 = .ok (.ireturn, 1) := by decide +kernel
def Q6 (p1 : Int32) (p2 : Int32) (h0 : Heap) (n0 : Nat) (v : Option Value) (h : Heap) (L : List Loc) : Prop := v = some (.int (if p2 < p1 then p2 else p1)) ∧ Fr n0 L ∧ h = h0
set_option maxRecDepth 65536 in
set_option maxHeartbeats 40000000 in
theorem rm6 (l : Launch) (Z : State) (a0 : Array Value) (hw : ∀ d ∈ tables_1, d.before a0 Z = true) (ws : List Jvm.Cond) (p1 : Int32) (p2 : Int32) (h0 : Heap) (n0 : Nat) (Z0 : n0 ≤ h0.size) :
    MetFree l (⟨"java/lang/Math", "min", "(II)I"⟩ : MethodName) (head1 (Jvm.Cond.code (⟨"java/lang/Math", "min", "(II)I"⟩ : MethodName) jdk_29_method_69_code 2 (some .int) :: ws) ({ frames := 0, cells := 0, slots := 0, locals := 0 } : Room)) (fun a U => a = #[(.int p1), (.int p2)] ∧ Z.Warmed39 U.vm ∧ U.heap = h0) (fun _ _ _ _ _ => True) (fun _ U o U' => ∃ v L, o = .returned v ∧ Q6 p1 p2 h0 n0 v U'.heap L ∧ FrameEnd U o U' L ({ frames := 0, cells := 0, slots := 0, locals := 0 } : Room).cells ({ frames := 0, cells := 0, slots := 0, locals := 0 } : Room).slots) := by
  refine MetFree.of_bodySF (Jvm.Free.JP.mathPlain rfl (by decide +kernel)) hisR ?_
  intro p e s m args below meth c s₁ Bd hml0 hP hK
  obtain ⟨rfl, hZ, hh⟩ := hP
  have hx := Bd.exec
  have hby := Bd.bytes
  have hml : c.maxLocals = 2 := hml0
  have hown : s.vm.findClass "java/lang/Math" = some m.cls := findClass_of_methodNamed Bd.named
  have hnm := (name_of_methodNamed Bd.named Bd.method).1
  have X0 : Stand p l e ({ frames := 0, cells := 0, slots := 0, locals := 0 } : Room) s m #[(.int p1), (.int p2)] below meth c s₁ [] 0 0 := Stand.of_body Bd
  have e0 : s₁.heap = h0 := by rw [← hh, Bd.state]; rfl
  have N0 := Fr.nil n0
  have pre0 : ∀ t, Steps p.tables e below (s₁.setTop (mkF m 0 #[.val (.int p1), .val (.int p2)] [])) t → Steps p.tables e below (s₁.setTop (entryFrame m #[(.int p1), (.int p2)] 2)) t := fun t k => castTop (ef_36 m p1 p2) k
  have pre18 : ∀ t, Steps p.tables e below (s₁.setTop (mkF m 2 #[.val (.int p1), .val (.int p2)] [(.int p2), (.int p1)])) t → Steps p.tables e below (s₁.setTop (entryFrame m #[(.int p1), (.int p2)] 2)) t := fun t kt => pre0 t (by
    show Steps p.tables e below (s₁.setTop (mkF m 0 #[.val (.int p1), .val (.int p2)] [])) _
    refine XS.iloadN X0.here hx rfl (hb hby d6_0) rfl ?_
    show Steps p.tables e below (s₁.setTop (mkF m 1 #[.val (.int p1), .val (.int p2)] [(.int p1)])) _
    refine XS.iloadN X0.here hx rfl (hb hby d6_1) rfl ?_
    exact kt)
  obtain ⟨v20, hv20⟩ : ∃ z : Int32, z = (if p2 < p1 then p2 else p1) := ⟨_, rfl⟩
  have pre21 : ∀ t, Steps p.tables e below (s₁.setTop (mkF m 10 #[.val (.int p1), .val (.int p2)] [(.int v20)])) t → Steps p.tables e below (s₁.setTop (entryFrame m #[(.int p1), (.int p2)] 2)) t := fun t kt => pre18 t (by
    by_cases hc19 : p2 < p1
    case pos =>
      show Steps p.tables e below (s₁.setTop (mkF m 2 #[.val (.int p1), .val (.int p2)] [(.int p2), (.int p1)])) _
      refine XS.icmpYes X0.here hx rfl (pc0 := 2) (pc' := 9) rfl (hb hby d6_2) rfl (tlt hc19).2.2.1 (by decide) (by decide) ?_
      show Steps p.tables e below (s₁.setTop (mkF m 9 #[.val (.int p1), .val (.int p2)] [])) _
      refine XS.iloadN X0.here hx rfl (hb hby d6_9) rfl ?_
      rw [show v20 = p2 from (hv20.trans (if_pos hc19))] at kt
      exact kt
    case neg =>
      show Steps p.tables e below (s₁.setTop (mkF m 2 #[.val (.int p1), .val (.int p2)] [(.int p2), (.int p1)])) _
      refine XS.icmpNo X0.here hx rfl (hb hby d6_2) rfl (flt hc19).2.2.1 ?_
      show Steps p.tables e below (s₁.setTop (mkF m 5 #[.val (.int p1), .val (.int p2)] [])) _
      refine XS.iloadN X0.here hx rfl (hb hby d6_5) rfl ?_
      show Steps p.tables e below (s₁.setTop (mkF m 6 #[.val (.int p1), .val (.int p2)] [(.int p1)])) _
      refine XS.goto X0.here hx rfl (pc0 := 6) (pc' := 10) rfl (hb hby d6_6) (by decide) (by decide) ?_
      rw [show v20 = p1 from (hv20.trans (if_neg hc19))] at kt
      exact kt)
  exact own_retI X0 hx Bd.notSynchronized Bd.returns (hb hby d6_10) pre21 (show Q6 p1 p2 h0 n0 _ _ _ from ⟨congrArg (fun z => some (Value.int z)) hv20, N0, e0⟩) (by decide) (by decide)
theorem ef_44 (m : MethodId) (x0 : Int32) (x1 : Int32) : entryFrame m #[(.int x0), (.int x1)] 2 = mkF m 0 #[.val (.int x0), .val (.int x1)] [] := by first | (simp [entryFrame, mkF, argsToLocals, Value.category]; done) | rfl
theorem d7_0 : decode jdk_29_method_65_code 0 = .ok (.iload_n 0, 1) := by decide +kernel
theorem d7_1 : decode jdk_29_method_65_code 1 = .ok (.iload_n 1, 1) := by decide +kernel
theorem d7_2 : decode jdk_29_method_65_code 2 = .ok (.if_icmp .lt 7, 3) := by decide +kernel
theorem d7_9 : decode jdk_29_method_65_code 9 = .ok (.iload_n 1, 1) := by decide +kernel
theorem d7_5 : decode jdk_29_method_65_code 5 = .ok (.iload_n 0, 1) := by decide +kernel
theorem d7_6 : decode jdk_29_method_65_code 6 = .ok (.goto 4, 3) := by decide +kernel
theorem d7_10 : decode jdk_29_method_65_code 10 = .ok (.ireturn, 1) := by decide +kernel
def Q7 (p1 : Int32) (p2 : Int32) (h0 : Heap) (n0 : Nat) (v : Option Value) (h : Heap) (L : List Loc) : Prop := v = some (.int (if p1 < p2 then p2 else p1)) ∧ Fr n0 L ∧ h = h0
set_option maxRecDepth 65536 in
set_option maxHeartbeats 40000000 in
theorem rm7 (l : Launch) (Z : State) (a0 : Array Value) (hw : ∀ d ∈ tables_1, d.before a0 Z = true) (ws : List Jvm.Cond) (p1 : Int32) (p2 : Int32) (h0 : Heap) (n0 : Nat) (Z0 : n0 ≤ h0.size) :
    MetFree l (⟨"java/lang/Math", "max", "(II)I"⟩ : MethodName) (head1 (Jvm.Cond.code (⟨"java/lang/Math", "max", "(II)I"⟩ : MethodName) jdk_29_method_65_code 2 (some .int) :: ws) ({ frames := 0, cells := 0, slots := 0, locals := 0 } : Room)) (fun a U => a = #[(.int p1), (.int p2)] ∧ Z.Warmed39 U.vm ∧ U.heap = h0) (fun _ _ _ _ _ => True) (fun _ U o U' => ∃ v L, o = .returned v ∧ Q7 p1 p2 h0 n0 v U'.heap L ∧ FrameEnd U o U' L ({ frames := 0, cells := 0, slots := 0, locals := 0 } : Room).cells ({ frames := 0, cells := 0, slots := 0, locals := 0 } : Room).slots) := by
  refine MetFree.of_bodySF (Jvm.Free.JP.mathPlain rfl (by decide +kernel)) hisR ?_
  intro p e s m args below meth c s₁ Bd hml0 hP hK
  obtain ⟨rfl, hZ, hh⟩ := hP
  have hx := Bd.exec
  have hby := Bd.bytes
  have hml : c.maxLocals = 2 := hml0
  have hown : s.vm.findClass "java/lang/Math" = some m.cls := findClass_of_methodNamed Bd.named
  have hnm := (name_of_methodNamed Bd.named Bd.method).1
  have X0 : Stand p l e ({ frames := 0, cells := 0, slots := 0, locals := 0 } : Room) s m #[(.int p1), (.int p2)] below meth c s₁ [] 0 0 := Stand.of_body Bd
  have e0 : s₁.heap = h0 := by rw [← hh, Bd.state]; rfl
  have N0 := Fr.nil n0
  have pre0 : ∀ t, Steps p.tables e below (s₁.setTop (mkF m 0 #[.val (.int p1), .val (.int p2)] [])) t → Steps p.tables e below (s₁.setTop (entryFrame m #[(.int p1), (.int p2)] 2)) t := fun t k => castTop (ef_44 m p1 p2) k
  have pre22 : ∀ t, Steps p.tables e below (s₁.setTop (mkF m 2 #[.val (.int p1), .val (.int p2)] [(.int p2), (.int p1)])) t → Steps p.tables e below (s₁.setTop (entryFrame m #[(.int p1), (.int p2)] 2)) t := fun t kt => pre0 t (by
    show Steps p.tables e below (s₁.setTop (mkF m 0 #[.val (.int p1), .val (.int p2)] [])) _
    refine XS.iloadN X0.here hx rfl (hb hby d7_0) rfl ?_
    show Steps p.tables e below (s₁.setTop (mkF m 1 #[.val (.int p1), .val (.int p2)] [(.int p1)])) _
    refine XS.iloadN X0.here hx rfl (hb hby d7_1) rfl ?_
    exact kt)
  obtain ⟨v24, hv24⟩ : ∃ z : Int32, z = (if p1 < p2 then p2 else p1) := ⟨_, rfl⟩
  have pre25 : ∀ t, Steps p.tables e below (s₁.setTop (mkF m 10 #[.val (.int p1), .val (.int p2)] [(.int v24)])) t → Steps p.tables e below (s₁.setTop (entryFrame m #[(.int p1), (.int p2)] 2)) t := fun t kt => pre22 t (by
    by_cases hc23 : p1 < p2
    case pos =>
      show Steps p.tables e below (s₁.setTop (mkF m 2 #[.val (.int p1), .val (.int p2)] [(.int p2), (.int p1)])) _
      refine XS.icmpYes X0.here hx rfl (pc0 := 2) (pc' := 9) rfl (hb hby d7_2) rfl (tlt hc23).1 (by decide) (by decide) ?_
      show Steps p.tables e below (s₁.setTop (mkF m 9 #[.val (.int p1), .val (.int p2)] [])) _
      refine XS.iloadN X0.here hx rfl (hb hby d7_9) rfl ?_
      rw [show v24 = p2 from (hv24.trans (if_pos hc23))] at kt
      exact kt
    case neg =>
      show Steps p.tables e below (s₁.setTop (mkF m 2 #[.val (.int p1), .val (.int p2)] [(.int p2), (.int p1)])) _
      refine XS.icmpNo X0.here hx rfl (hb hby d7_2) rfl (flt hc23).1 ?_
      show Steps p.tables e below (s₁.setTop (mkF m 5 #[.val (.int p1), .val (.int p2)] [])) _
      refine XS.iloadN X0.here hx rfl (hb hby d7_5) rfl ?_
      show Steps p.tables e below (s₁.setTop (mkF m 6 #[.val (.int p1), .val (.int p2)] [(.int p1)])) _
      refine XS.goto X0.here hx rfl (pc0 := 6) (pc' := 10) rfl (hb hby d7_6) (by decide) (by decide) ?_
      rw [show v24 = p1 from (hv24.trans (if_neg hc23))] at kt
      exact kt)
  exact own_retI X0 hx Bd.notSynchronized Bd.returns (hb hby d7_10) pre25 (show Q7 p1 p2 h0 n0 _ _ _ from ⟨congrArg (fun z => some (Value.int z)) hv24, N0, e0⟩) (by decide) (by decide)
theorem own_law (xx yy zz lo hi btw cvx : Int32) (hlo : lo = (if zz < xx then zz else xx)) (hhi : hi = (if xx < zz then zz else xx)) (hbtw : btw = (if yy < lo then (0 : Int32) else (if hi < yy then (0 : Int32) else (1 : Int32)))) (hcvx : cvx = (if btw = (0 : Int32) then (1 : Int32) else (if (if lo < (5 : Int32) then (0 : Int32) else (if (34 : Int32) < lo then (0 : Int32) else (1 : Int32))) = (0 : Int32) then (1 : Int32) else (if (if hi < (5 : Int32) then (0 : Int32) else (if (34 : Int32) < hi then (0 : Int32) else (1 : Int32))) = (0 : Int32) then (1 : Int32) else (if (if yy < (5 : Int32) then (0 : Int32) else (if (34 : Int32) < yy then (0 : Int32) else (1 : Int32))) = (0 : Int32) then (0 : Int32) else (1 : Int32)))))) : ¬ cvx = (0 : Int32) := by
  rw [hcvx]
  by_cases c0 : btw = (0 : Int32)
  · simp [c0]
  · have hb : ¬ yy < lo ∧ ¬ hi < yy := by
      rw [hbtw] at c0
      by_cases c1 : yy < lo
      · simp [c1] at c0
      · by_cases c2 : hi < yy
        · simp [c1, c2] at c0
        · exact ⟨c1, c2⟩
    rw [Int32.lt_iff_toInt_lt, Int32.lt_iff_toInt_lt] at hb
    have e5 : (5 : Int32).toInt = 5 := by decide
    have e34 : (34 : Int32).toInt = 34 := by decide
    simp only [Int32.lt_iff_toInt_lt, e5, e34]
    by_cases d1 : lo.toInt < 5 <;> by_cases d2 : 34 < lo.toInt <;> by_cases d3 : hi.toInt < 5 <;> by_cases d4 : 34 < hi.toInt <;> by_cases d5 : yy.toInt < 5 <;> by_cases d6 : 34 < yy.toInt <;> simp [c0, d1, d2, d3, d4, d5, d6] <;> omega
theorem ef_52 (m : MethodId) (x0 : Int32) (x1 : Int32) (x2 : Int32) (x3 : Int32) : entryFrame m #[(.int x0), (.int x1), (.int x2), (.int x3)] maxLocals = mkF m 0 #[.val (.int x0), .val (.int x1), .val (.int x2), .val (.int x3), .unset, .unset, .unset, .unset, .unset, .unset, .unset, .unset, .unset, .unset] [] := by first | (simp [entryFrame, mkF, argsToLocals, Value.category, maxLocals]; done) | rfl
theorem pd_53 : parseMethodDescriptor "(I)I" = some ⟨[.int], some .int⟩ := by decide +kernel
theorem pd_54 : parseMethodDescriptor "(I)Z" = some ⟨[.int], some .boolean⟩ := by decide +kernel
theorem pd_55 : parseMethodDescriptor "(II)I" = some ⟨[.int, .int], some .int⟩ := by decide +kernel
def Q0 (h0 : Heap) (n0 : Nat) (v : Option Value) (h : Heap) (L : List Loc) : Prop := v = some (.int (1 : Int32)) ∧ Fr n0 L
set_option maxRecDepth 65536 in
set_option maxHeartbeats 40000000 in
theorem rm0 (l : Launch) (Z : State) (a0 : Array Value) (hw : ∀ d ∈ tables_1, d.before a0 Z = true) (ws : List Jvm.Cond) (p1 p2 p3 p4 : Int32) (h0 : Heap) (n0 : Nat) (Z0 : n0 ≤ h0.size) :
    MetFree l x (head1 (Jvm.Cond.code x code maxLocals ret :: ws) room_1) (fun a U => a = #[(.int p1), (.int p2), (.int p3), (.int p4)] ∧ Z.Warmed39 U.vm ∧ U.heap = h0) (fun _ _ _ _ _ => True) (fun _ U o U' => ∃ v L, o = .returned v ∧ Q0 h0 n0 v U'.heap L ∧ ReturnedEndW U o U' L room_1.cells room_1.slots) := by
  refine MetFree.of_bodySF (plainFor_of_name pn_16) hisR ?_
  intro p e s m args below meth c s₁ Bd hml0 hP hK
  obtain ⟨rfl, hZ, hh⟩ := hP
  have hx := Bd.exec
  have hby := Bd.bytes
  have hml : c.maxLocals = 14 := hml0
  have hown : s.vm.findClass "com/example/digitwarden/digitwarden/model/IbanSchemeAcceptsLengthPinLaw" = some m.cls := findClass_of_methodNamed Bd.named
  have hnm := (name_of_methodNamed Bd.named Bd.method).1
  have X0 : Stand p l e room_1 s m #[(.int p1), (.int p2), (.int p3), (.int p4)] below meth c s₁ [] 0 0 := Stand.of_body Bd
  have e0 : s₁.heap = h0 := by rw [← hh, Bd.state]; rfl
  have N0 := Fr.nil n0
  have pre0 : ∀ t, Steps p.tables e below (s₁.setTop (mkF m 0 #[.val (.int p1), .val (.int p2), .val (.int p3), .val (.int p4), .unset, .unset, .unset, .unset, .unset, .unset, .unset, .unset, .unset, .unset] [])) t → Steps p.tables e below (s₁.setTop (entryFrame m #[(.int p1), (.int p2), (.int p3), (.int p4)] maxLocals)) t := fun t k => castTop (ef_52 m p1 p2 p3 p4) k
  obtain ⟨T26, h26, X26, e26, E26, A26, D26, -, st26⟩ := newO X0 hx hZ hown (hw _ (List.mem_of_getElem? (i := 0) rfl)) (hw _ (List.mem_of_getElem? (i := 1) rfl)) (hw _ (List.mem_of_getElem? (i := 2) rfl)) e0 (g := (mkF m 0 #[.val (.int p1), .val (.int p2), .val (.int p3), .val (.int p4), .unset, .unset, .unset, .unset, .unset, .unset, .unset, .unset, .unset, .unset] [])) rfl (hb hby at_0) (by decide) (by decide)
  obtain ⟨b26, g26⟩ : ∃ z, z = h0.size := ⟨_, rfl⟩
  rw [← g26] at A26 D26 st26
  have G26 : n0 ≤ b26 := Nat.le_trans Z0 (Nat.le_of_eq g26.symm)
  have F27 : Fld Z h26 b26 "com/example/digitwarden/digitwarden/model/Scheme" "_name" "Ljava/lang/String;" .null := D26 (Or.inr (hw _ (List.mem_of_getElem? (i := 23) rfl))) (ty := (.object "java/lang/String")) (by decide)
  have z28 : n0 ≤ h26.size := Nat.le_trans Z0 E26.1
  have wS : ∀ a ∈ Bundle.stringAtoms, a.before a0 Z = true := by
    intro d hd
    simp only [Bundle.stringAtoms, List.mem_cons, List.not_mem_nil, or_false] at hd
    rcases hd with rfl | rfl | rfl | rfl | rfl | rfl | rfl
    · exact (hw _ (List.mem_of_getElem? (i := 4) rfl))
    · exact (hw _ (List.mem_of_getElem? (i := 5) rfl))
    · exact (hw _ (List.mem_of_getElem? (i := 6) rfl))
    · exact (hw _ (List.mem_of_getElem? (i := 7) rfl))
    · exact (hw _ (List.mem_of_getElem? (i := 8) rfl))
    · exact (hw _ (List.mem_of_getElem? (i := 9) rfl))
    · exact (hw _ (List.mem_of_getElem? (i := 10) rfl))
  obtain ⟨sa, Tl, hl, k1, Xl, el, El, hS, hk1, hZ, hown, stl⟩ := ldcS (s := s) (vm0 := s.vm) X26 hx hZ hown (hw _ (List.mem_of_getElem? (i := 3) rfl)) wS e26 ((State.WarmedH.refl s).since 0) (Nat.zero_le _) (g := (mkF m 4 #[.val (.int p1), .val (.int p2), .val (.int p3), .val (.int p4), .unset, .unset, .unset, .unset, .unset, .unset, .unset, .unset, .unset, .unset] [(.ref b26), (.ref b26)])) rfl (hb hby at_4) (n := 16) (by decide) (by decide) (by decide) (by decide)
  have c29 := A26.ext El
  have c30 := F27.ext El
  have z31 : n0 ≤ hl.size := Nat.le_trans z28 El.1
  obtain ⟨_, _, ⟨T32, L32, k32, n32⟩, -, X32, ⟨Lc32, hQ32, l32, y32, z32⟩, st32⟩ := Xl.specialBack hx (y := (⟨"com/example/digitwarden/digitwarden/model/IbanScheme", "<init>", "(Ljava/lang/String;)V"⟩ : MethodName)) rfl hown (mvT hZ (hw _ (List.mem_of_getElem? (i := 11) rfl))) (mvT hZ (hw _ (List.mem_of_getElem? (i := 12) rfl))) (mvT hZ (hw _ (List.mem_of_getElem? (i := 13) rfl))) (by decide) (backOf (W := 1) (rm1 l Z a0 hw [] b26 sa hl n0 z31 c29 c30 G26) hZ (hw _ (List.mem_of_getElem? (i := 13) rfl)) (hw _ (List.mem_of_getElem? (i := 2) rfl)) (by decide) (by decide)) (g := (mkF m 6 #[.val (.int p1), .val (.int p2), .val (.int p3), .val (.int p4), .unset, .unset, .unset, .unset, .unset, .unset, .unset, .unset, .unset, .unset] [(.ref sa), (.ref b26), (.ref b26)])) rfl (by rw [hml]; rfl) (Steps.refl _) (a := b26) (argsL := [(.ref sa)]) (rest := [(.ref b26)]) (lenOf pd_13 rfl) rfl (by show 2 * 0 + _ ≤ _; exact Nat.le_of_eq rfl) (hb hby at_6) (fun _ _ => ⟨rfl, el, (by decide : 3 + 0 ≤ _), (by decide : 21 + 0 ≤ _)⟩)
  dsimp only [Pt.U, Pt.locs, Pt.cells, Pt.slots] at X32 l32 y32 z32 st32 hQ32
  subst l32 y32 z32
  obtain ⟨rfl, Nq32, K32⟩ := hQ32
  have N32 := Fr.app N0 Nq32
  have z33 : n0 ≤ T32.heap.size := Nat.le_trans z31 K32.1
  have kz34 := Nat.le_trans hk1 K32.1
  have c35 := c29.keep K32
  have pre37 : ∀ t, Steps p.tables e below (T32.setTop (mkF m 14 #[.val (.int p1), .val (.int p2), .val (.int p3), .val (.int p4), .val (.ref b26), .unset, .unset, .unset, .unset, .unset, .unset, .unset, .unset, .unset] [(.int (p4 &&& (1 : Int32)))])) t → Steps p.tables e below (s₁.setTop (entryFrame m #[(.int p1), (.int p2), (.int p3), (.int p4)] maxLocals)) t := fun t kt => pre0 t (by
    show Steps p.tables e below (s₁.setTop (mkF m 0 #[.val (.int p1), .val (.int p2), .val (.int p3), .val (.int p4), .unset, .unset, .unset, .unset, .unset, .unset, .unset, .unset, .unset, .unset] [])) _
    refine st26 _ ?_
    show Steps p.tables e below (T26.setTop (mkF m 3 #[.val (.int p1), .val (.int p2), .val (.int p3), .val (.int p4), .unset, .unset, .unset, .unset, .unset, .unset, .unset, .unset, .unset, .unset] [(.ref b26)])) _
    refine XS.dup X26.here hx rfl (hb hby at_3) rfl rfl ?_
    show Steps p.tables e below (T26.setTop (mkF m 4 #[.val (.int p1), .val (.int p2), .val (.int p3), .val (.int p4), .unset, .unset, .unset, .unset, .unset, .unset, .unset, .unset, .unset, .unset] [(.ref b26), (.ref b26)])) _
    refine stl _ ?_
    show Steps p.tables e below (Tl.setTop (mkF m 6 #[.val (.int p1), .val (.int p2), .val (.int p3), .val (.int p4), .unset, .unset, .unset, .unset, .unset, .unset, .unset, .unset, .unset, .unset] [(.ref sa), (.ref b26), (.ref b26)])) _
    refine st32.trans ?_
    show Steps p.tables e below (T32.setTop (mkF m 9 #[.val (.int p1), .val (.int p2), .val (.int p3), .val (.int p4), .unset, .unset, .unset, .unset, .unset, .unset, .unset, .unset, .unset, .unset] [(.ref b26)])) _
    refine XS.astore X32.here hx rfl (hb hby at_9) rfl rfl (l' := #[.val (.int p1), .val (.int p2), .val (.int p3), .val (.int p4), .val (.ref b26), .unset, .unset, .unset, .unset, .unset, .unset, .unset, .unset, .unset]) rfl ?_
    show Steps p.tables e below (T32.setTop (mkF m 11 #[.val (.int p1), .val (.int p2), .val (.int p3), .val (.int p4), .val (.ref b26), .unset, .unset, .unset, .unset, .unset, .unset, .unset, .unset, .unset] [])) _
    refine XS.iloadN X32.here hx rfl (hb hby at_11) rfl ?_
    show Steps p.tables e below (T32.setTop (mkF m 12 #[.val (.int p1), .val (.int p2), .val (.int p3), .val (.int p4), .val (.ref b26), .unset, .unset, .unset, .unset, .unset, .unset, .unset, .unset, .unset] [(.int p4)])) _
    refine XS.iconst X32.here hx rfl (hb hby at_12) ?_
    show Steps p.tables e below (T32.setTop (mkF m 13 #[.val (.int p1), .val (.int p2), .val (.int p3), .val (.int p4), .val (.ref b26), .unset, .unset, .unset, .unset, .unset, .unset, .unset, .unset, .unset] [(.int (1 : Int32)), (.int p4)])) _
    refine XS.iand X32.here hx rfl (hb hby at_13) rfl ?_
    exact kt)
  obtain ⟨sm, hsm⟩ : ∃ z : Int32, z = (if (p4 &&& (1 : Int32)) = (0 : Int32) then (0 : Int32) else (1 : Int32)) := ⟨_, rfl⟩
  have pre39 : ∀ t, Steps p.tables e below (T32.setTop (mkF m 22 #[.val (.int p1), .val (.int p2), .val (.int p3), .val (.int p4), .val (.ref b26), .unset, .unset, .unset, .unset, .unset, .unset, .unset, .unset, .unset] [(.int sm)])) t → Steps p.tables e below (s₁.setTop (entryFrame m #[(.int p1), (.int p2), (.int p3), (.int p4)] maxLocals)) t := fun t kt => pre37 t (by
    by_cases hc38 : (p4 &&& (1 : Int32)) = (0 : Int32)
    case pos =>
      show Steps p.tables e below (T32.setTop (mkF m 14 #[.val (.int p1), .val (.int p2), .val (.int p3), .val (.int p4), .val (.ref b26), .unset, .unset, .unset, .unset, .unset, .unset, .unset, .unset, .unset] [(.int (p4 &&& (1 : Int32)))])) _
      refine XS.ifYes X32.here hx rfl (pc0 := 14) (pc' := 21) rfl (hb hby at_14) rfl ((if0 _ _).trans (teq hc38).1) (by decide) (by decide) ?_
      show Steps p.tables e below (T32.setTop (mkF m 21 #[.val (.int p1), .val (.int p2), .val (.int p3), .val (.int p4), .val (.ref b26), .unset, .unset, .unset, .unset, .unset, .unset, .unset, .unset, .unset] [])) _
      refine XS.iconst X32.here hx rfl (hb hby at_21) ?_
      rw [show sm = (0 : Int32) from (hsm.trans (if_pos hc38))] at kt
      exact kt
    case neg =>
      show Steps p.tables e below (T32.setTop (mkF m 14 #[.val (.int p1), .val (.int p2), .val (.int p3), .val (.int p4), .val (.ref b26), .unset, .unset, .unset, .unset, .unset, .unset, .unset, .unset, .unset] [(.int (p4 &&& (1 : Int32)))])) _
      refine XS.ifNo X32.here hx rfl (hb hby at_14) rfl ((if0 _ _).trans (feq hc38).1) ?_
      show Steps p.tables e below (T32.setTop (mkF m 17 #[.val (.int p1), .val (.int p2), .val (.int p3), .val (.int p4), .val (.ref b26), .unset, .unset, .unset, .unset, .unset, .unset, .unset, .unset, .unset] [])) _
      refine XS.iconst X32.here hx rfl (hb hby at_17) ?_
      show Steps p.tables e below (T32.setTop (mkF m 18 #[.val (.int p1), .val (.int p2), .val (.int p3), .val (.int p4), .val (.ref b26), .unset, .unset, .unset, .unset, .unset, .unset, .unset, .unset, .unset] [(.int (1 : Int32))])) _
      refine XS.goto X32.here hx rfl (pc0 := 18) (pc' := 22) rfl (hb hby at_18) (by decide) (by decide) ?_
      rw [show sm = (1 : Int32) from (hsm.trans (if_neg hc38))] at kt
      exact kt)
  have pre40 : ∀ t, Steps p.tables e below (T32.setTop (mkF m 26 #[.val (.int p1), .val (.int p2), .val (.int p3), .val (.int p4), .val (.ref b26), .val (.int sm), .unset, .unset, .unset, .unset, .unset, .unset, .unset, .unset] [(.int sm)])) t → Steps p.tables e below (s₁.setTop (entryFrame m #[(.int p1), (.int p2), (.int p3), (.int p4)] maxLocals)) t := fun t kt => pre39 t (by
    show Steps p.tables e below (T32.setTop (mkF m 22 #[.val (.int p1), .val (.int p2), .val (.int p3), .val (.int p4), .val (.ref b26), .unset, .unset, .unset, .unset, .unset, .unset, .unset, .unset, .unset] [(.int sm)])) _
    refine XS.istore X32.here hx rfl (hb hby at_22) rfl (l' := #[.val (.int p1), .val (.int p2), .val (.int p3), .val (.int p4), .val (.ref b26), .val (.int sm), .unset, .unset, .unset, .unset, .unset, .unset, .unset, .unset]) rfl ?_
    show Steps p.tables e below (T32.setTop (mkF m 24 #[.val (.int p1), .val (.int p2), .val (.int p3), .val (.int p4), .val (.ref b26), .val (.int sm), .unset, .unset, .unset, .unset, .unset, .unset, .unset, .unset] [])) _
    refine XS.iload X32.here hx rfl (hb hby at_24) rfl ?_
    exact kt)
  obtain ⟨xx, hxx⟩ : ∃ z : Int32, z = (if sm = (0 : Int32) then p1 else (((p1 &&& (2147483647 : Int32)) - (p1 &&& (2147483647 : Int32)) / (48 : Int32) * (48 : Int32)) - (4 : Int32))) := ⟨_, rfl⟩
  obtain ⟨T45, L45, X45, N45, e45, pre45⟩ : ∃ (T' : State) (locs' : List Loc), Stand p l e room_1 (s.setVm Tl.vm) m #[(.int p1), (.int p2), (.int p3), (.int p4)] below meth c T' locs' 3 21 ∧ Fr n0 locs' ∧ T'.heap = T32.heap ∧ ∀ t, Steps p.tables e below (T'.setTop (mkF m 37 #[.val (.int p1), .val (.int p2), .val (.int p3), .val (.int p4), .val (.ref b26), .val (.int sm), .unset, .unset, .unset, .unset, .unset, .unset, .unset, .unset] [(.int xx)])) t → Steps p.tables e below (s₁.setTop (entryFrame m #[(.int p1), (.int p2), (.int p3), (.int p4)] maxLocals)) t := by
    by_cases hc41 : sm = (0 : Int32)
    case pos =>
      have pre42 : ∀ t, Steps p.tables e below (T32.setTop (mkF m 37 #[.val (.int p1), .val (.int p2), .val (.int p3), .val (.int p4), .val (.ref b26), .val (.int sm), .unset, .unset, .unset, .unset, .unset, .unset, .unset, .unset] [(.int p1)])) t → Steps p.tables e below (s₁.setTop (entryFrame m #[(.int p1), (.int p2), (.int p3), (.int p4)] maxLocals)) t := fun t kt => pre40 t (by
        show Steps p.tables e below (T32.setTop (mkF m 26 #[.val (.int p1), .val (.int p2), .val (.int p3), .val (.int p4), .val (.ref b26), .val (.int sm), .unset, .unset, .unset, .unset, .unset, .unset, .unset, .unset] [(.int sm)])) _
        refine XS.ifYes X32.here hx rfl (pc0 := 26) (pc' := 36) rfl (hb hby at_26) rfl ((if0 _ _).trans (teq hc41).1) (by decide) (by decide) ?_
        show Steps p.tables e below (T32.setTop (mkF m 36 #[.val (.int p1), .val (.int p2), .val (.int p3), .val (.int p4), .val (.ref b26), .val (.int sm), .unset, .unset, .unset, .unset, .unset, .unset, .unset, .unset] [])) _
        refine XS.iloadN X32.here hx rfl (hb hby at_36) rfl ?_
        exact kt)
      rw [show xx = p1 from (hxx.trans (if_pos hc41))]
      exact ⟨T32, _, own_more X32 (by decide) (by decide), N32, rfl, pre42⟩
    case neg =>
      obtain ⟨_, _, ⟨T43, L43, k43, n43⟩, -, X43, ⟨Lc43, hQ43, l43, y43, z43⟩, st43⟩ := Jvm.LawKit.callS X32 hx (y := (⟨"com/example/digitwarden/digitwarden/model/IbanSchemeAcceptsLengthPinLaw", "near", "(I)I"⟩ : MethodName)) hown (mvT hZ (hw _ (List.mem_of_getElem? (i := 24) rfl))) (mvT hZ (hw _ (List.mem_of_getElem? (i := 25) rfl))) (mvT hZ (hw _ (List.mem_of_getElem? (i := 26) rfl))) (mvT hZ (hw _ (List.mem_of_getElem? (i := 27) rfl))) (by decide) (backOf (W := 0) (rm4 l Z a0 hw [] p1 T32.heap n0 z33) hZ (hw _ (List.mem_of_getElem? (i := 27) rfl)) (hw _ (List.mem_of_getElem? (i := 26) rfl)) (by decide) (by decide)) (g := (mkF m 30 #[.val (.int p1), .val (.int p2), .val (.int p3), .val (.int p4), .val (.ref b26), .val (.int sm), .unset, .unset, .unset, .unset, .unset, .unset, .unset, .unset] [(.int p1)])) rfl (by rw [hml]; rfl) (argsL := [(.int p1)]) (rest := []) (lenOf pd_53 rfl) rfl (by show 2 * 0 + _ ≤ _; exact Nat.le_of_eq rfl) (hb hby at_30) (fun _ _ => ⟨rfl, rfl, (by decide : 3 + 0 ≤ _), (by decide : 21 + 0 ≤ _)⟩)
      dsimp only [Pt.U, Pt.locs, Pt.cells, Pt.slots] at X43 l43 y43 z43 st43 hQ43
      subst l43 y43 z43
      obtain ⟨rfl, Nq43, e43⟩ := hQ43
      have N43 := Fr.app N32 Nq43
      have pre44 : ∀ t, Steps p.tables e below (T43.setTop (mkF m 37 #[.val (.int p1), .val (.int p2), .val (.int p3), .val (.int p4), .val (.ref b26), .val (.int sm), .unset, .unset, .unset, .unset, .unset, .unset, .unset, .unset] [(.int (((p1 &&& (2147483647 : Int32)) - (p1 &&& (2147483647 : Int32)) / (48 : Int32) * (48 : Int32)) - (4 : Int32)))])) t → Steps p.tables e below (s₁.setTop (entryFrame m #[(.int p1), (.int p2), (.int p3), (.int p4)] maxLocals)) t := fun t kt => pre40 t (by
        show Steps p.tables e below (T32.setTop (mkF m 26 #[.val (.int p1), .val (.int p2), .val (.int p3), .val (.int p4), .val (.ref b26), .val (.int sm), .unset, .unset, .unset, .unset, .unset, .unset, .unset, .unset] [(.int sm)])) _
        refine XS.ifNo X32.here hx rfl (hb hby at_26) rfl ((if0 _ _).trans (feq hc41).1) ?_
        show Steps p.tables e below (T32.setTop (mkF m 29 #[.val (.int p1), .val (.int p2), .val (.int p3), .val (.int p4), .val (.ref b26), .val (.int sm), .unset, .unset, .unset, .unset, .unset, .unset, .unset, .unset] [])) _
        refine XS.iloadN X32.here hx rfl (hb hby at_29) rfl ?_
        show Steps p.tables e below (T32.setTop (mkF m 30 #[.val (.int p1), .val (.int p2), .val (.int p3), .val (.int p4), .val (.ref b26), .val (.int sm), .unset, .unset, .unset, .unset, .unset, .unset, .unset, .unset] [(.int p1)])) _
        refine st43 _ ?_
        show Steps p.tables e below (T43.setTop (mkF m 33 #[.val (.int p1), .val (.int p2), .val (.int p3), .val (.int p4), .val (.ref b26), .val (.int sm), .unset, .unset, .unset, .unset, .unset, .unset, .unset, .unset] [(.int (((p1 &&& (2147483647 : Int32)) - (p1 &&& (2147483647 : Int32)) / (48 : Int32) * (48 : Int32)) - (4 : Int32)))])) _
        refine XS.goto X43.here hx rfl (pc0 := 33) (pc' := 37) rfl (hb hby at_33) (by decide) (by decide) ?_
        exact kt)
      rw [show xx = (((p1 &&& (2147483647 : Int32)) - (p1 &&& (2147483647 : Int32)) / (48 : Int32) * (48 : Int32)) - (4 : Int32)) from (hxx.trans (if_neg hc41))]
      exact ⟨T43, _, own_more X43 (by decide) (by decide), N43, e43, pre44⟩
  have pre46 : ∀ t, Steps p.tables e below (T45.setTop (mkF m 41 #[.val (.int p1), .val (.int p2), .val (.int p3), .val (.int p4), .val (.ref b26), .val (.int sm), .val (.int xx), .unset, .unset, .unset, .unset, .unset, .unset, .unset] [(.int sm)])) t → Steps p.tables e below (s₁.setTop (entryFrame m #[(.int p1), (.int p2), (.int p3), (.int p4)] maxLocals)) t := fun t kt => pre45 t (by
    show Steps p.tables e below (T45.setTop (mkF m 37 #[.val (.int p1), .val (.int p2), .val (.int p3), .val (.int p4), .val (.ref b26), .val (.int sm), .unset, .unset, .unset, .unset, .unset, .unset, .unset, .unset] [(.int xx)])) _
    refine XS.istore X45.here hx rfl (hb hby at_37) rfl (l' := #[.val (.int p1), .val (.int p2), .val (.int p3), .val (.int p4), .val (.ref b26), .val (.int sm), .val (.int xx), .unset, .unset, .unset, .unset, .unset, .unset, .unset]) rfl ?_
    show Steps p.tables e below (T45.setTop (mkF m 39 #[.val (.int p1), .val (.int p2), .val (.int p3), .val (.int p4), .val (.ref b26), .val (.int sm), .val (.int xx), .unset, .unset, .unset, .unset, .unset, .unset, .unset] [])) _
    refine XS.iload X45.here hx rfl (hb hby at_39) rfl ?_
    exact kt)
  obtain ⟨yy, hyy⟩ : ∃ z : Int32, z = (if sm = (0 : Int32) then p2 else (((p2 &&& (2147483647 : Int32)) - (p2 &&& (2147483647 : Int32)) / (48 : Int32) * (48 : Int32)) - (4 : Int32))) := ⟨_, rfl⟩
  obtain ⟨T51, L51, X51, N51, e51, pre51⟩ : ∃ (T' : State) (locs' : List Loc), Stand p l e room_1 (s.setVm Tl.vm) m #[(.int p1), (.int p2), (.int p3), (.int p4)] below meth c T' locs' 3 21 ∧ Fr n0 locs' ∧ T'.heap = T32.heap ∧ ∀ t, Steps p.tables e below (T'.setTop (mkF m 52 #[.val (.int p1), .val (.int p2), .val (.int p3), .val (.int p4), .val (.ref b26), .val (.int sm), .val (.int xx), .unset, .unset, .unset, .unset, .unset, .unset, .unset] [(.int yy)])) t → Steps p.tables e below (s₁.setTop (entryFrame m #[(.int p1), (.int p2), (.int p3), (.int p4)] maxLocals)) t := by
    by_cases hc47 : sm = (0 : Int32)
    case pos =>
      have pre48 : ∀ t, Steps p.tables e below (T45.setTop (mkF m 52 #[.val (.int p1), .val (.int p2), .val (.int p3), .val (.int p4), .val (.ref b26), .val (.int sm), .val (.int xx), .unset, .unset, .unset, .unset, .unset, .unset, .unset] [(.int p2)])) t → Steps p.tables e below (s₁.setTop (entryFrame m #[(.int p1), (.int p2), (.int p3), (.int p4)] maxLocals)) t := fun t kt => pre46 t (by
        show Steps p.tables e below (T45.setTop (mkF m 41 #[.val (.int p1), .val (.int p2), .val (.int p3), .val (.int p4), .val (.ref b26), .val (.int sm), .val (.int xx), .unset, .unset, .unset, .unset, .unset, .unset, .unset] [(.int sm)])) _
        refine XS.ifYes X45.here hx rfl (pc0 := 41) (pc' := 51) rfl (hb hby at_41) rfl ((if0 _ _).trans (teq hc47).1) (by decide) (by decide) ?_
        show Steps p.tables e below (T45.setTop (mkF m 51 #[.val (.int p1), .val (.int p2), .val (.int p3), .val (.int p4), .val (.ref b26), .val (.int sm), .val (.int xx), .unset, .unset, .unset, .unset, .unset, .unset, .unset] [])) _
        refine XS.iloadN X45.here hx rfl (hb hby at_51) rfl ?_
        exact kt)
      rw [show yy = p2 from (hyy.trans (if_pos hc47))]
      exact ⟨T45, _, own_more X45 (by decide) (by decide), N45, e45, pre48⟩
    case neg =>
      obtain ⟨_, _, ⟨T49, L49, k49, n49⟩, -, X49, ⟨Lc49, hQ49, l49, y49, z49⟩, st49⟩ := Jvm.LawKit.callS X45 hx (y := (⟨"com/example/digitwarden/digitwarden/model/IbanSchemeAcceptsLengthPinLaw", "near", "(I)I"⟩ : MethodName)) hown (mvT hZ (hw _ (List.mem_of_getElem? (i := 24) rfl))) (mvT hZ (hw _ (List.mem_of_getElem? (i := 25) rfl))) (mvT hZ (hw _ (List.mem_of_getElem? (i := 26) rfl))) (mvT hZ (hw _ (List.mem_of_getElem? (i := 27) rfl))) (by decide) (backOf (W := 0) (rm4 l Z a0 hw [] p2 T32.heap n0 z33) hZ (hw _ (List.mem_of_getElem? (i := 27) rfl)) (hw _ (List.mem_of_getElem? (i := 26) rfl)) (by decide) (by decide)) (g := (mkF m 45 #[.val (.int p1), .val (.int p2), .val (.int p3), .val (.int p4), .val (.ref b26), .val (.int sm), .val (.int xx), .unset, .unset, .unset, .unset, .unset, .unset, .unset] [(.int p2)])) rfl (by rw [hml]; rfl) (argsL := [(.int p2)]) (rest := []) (lenOf pd_53 rfl) rfl (by show 2 * 0 + _ ≤ _; exact Nat.le_of_eq rfl) (hb hby at_45) (fun _ _ => ⟨rfl, e45, (by decide : 3 + 0 ≤ _), (by decide : 21 + 0 ≤ _)⟩)
      dsimp only [Pt.U, Pt.locs, Pt.cells, Pt.slots] at X49 l49 y49 z49 st49 hQ49
      subst l49 y49 z49
      obtain ⟨rfl, Nq49, e49⟩ := hQ49
      have N49 := Fr.app N45 Nq49
      have pre50 : ∀ t, Steps p.tables e below (T49.setTop (mkF m 52 #[.val (.int p1), .val (.int p2), .val (.int p3), .val (.int p4), .val (.ref b26), .val (.int sm), .val (.int xx), .unset, .unset, .unset, .unset, .unset, .unset, .unset] [(.int (((p2 &&& (2147483647 : Int32)) - (p2 &&& (2147483647 : Int32)) / (48 : Int32) * (48 : Int32)) - (4 : Int32)))])) t → Steps p.tables e below (s₁.setTop (entryFrame m #[(.int p1), (.int p2), (.int p3), (.int p4)] maxLocals)) t := fun t kt => pre46 t (by
        show Steps p.tables e below (T45.setTop (mkF m 41 #[.val (.int p1), .val (.int p2), .val (.int p3), .val (.int p4), .val (.ref b26), .val (.int sm), .val (.int xx), .unset, .unset, .unset, .unset, .unset, .unset, .unset] [(.int sm)])) _
        refine XS.ifNo X45.here hx rfl (hb hby at_41) rfl ((if0 _ _).trans (feq hc47).1) ?_
        show Steps p.tables e below (T45.setTop (mkF m 44 #[.val (.int p1), .val (.int p2), .val (.int p3), .val (.int p4), .val (.ref b26), .val (.int sm), .val (.int xx), .unset, .unset, .unset, .unset, .unset, .unset, .unset] [])) _
        refine XS.iloadN X45.here hx rfl (hb hby at_44) rfl ?_
        show Steps p.tables e below (T45.setTop (mkF m 45 #[.val (.int p1), .val (.int p2), .val (.int p3), .val (.int p4), .val (.ref b26), .val (.int sm), .val (.int xx), .unset, .unset, .unset, .unset, .unset, .unset, .unset] [(.int p2)])) _
        refine st49 _ ?_
        show Steps p.tables e below (T49.setTop (mkF m 48 #[.val (.int p1), .val (.int p2), .val (.int p3), .val (.int p4), .val (.ref b26), .val (.int sm), .val (.int xx), .unset, .unset, .unset, .unset, .unset, .unset, .unset] [(.int (((p2 &&& (2147483647 : Int32)) - (p2 &&& (2147483647 : Int32)) / (48 : Int32) * (48 : Int32)) - (4 : Int32)))])) _
        refine XS.goto X49.here hx rfl (pc0 := 48) (pc' := 52) rfl (hb hby at_48) (by decide) (by decide) ?_
        exact kt)
      rw [show yy = (((p2 &&& (2147483647 : Int32)) - (p2 &&& (2147483647 : Int32)) / (48 : Int32) * (48 : Int32)) - (4 : Int32)) from (hyy.trans (if_neg hc47))]
      exact ⟨T49, _, own_more X49 (by decide) (by decide), N49, e49, pre50⟩
  have pre52 : ∀ t, Steps p.tables e below (T51.setTop (mkF m 56 #[.val (.int p1), .val (.int p2), .val (.int p3), .val (.int p4), .val (.ref b26), .val (.int sm), .val (.int xx), .val (.int yy), .unset, .unset, .unset, .unset, .unset, .unset] [(.int sm)])) t → Steps p.tables e below (s₁.setTop (entryFrame m #[(.int p1), (.int p2), (.int p3), (.int p4)] maxLocals)) t := fun t kt => pre51 t (by
    show Steps p.tables e below (T51.setTop (mkF m 52 #[.val (.int p1), .val (.int p2), .val (.int p3), .val (.int p4), .val (.ref b26), .val (.int sm), .val (.int xx), .unset, .unset, .unset, .unset, .unset, .unset, .unset] [(.int yy)])) _
    refine XS.istore X51.here hx rfl (hb hby at_52) rfl (l' := #[.val (.int p1), .val (.int p2), .val (.int p3), .val (.int p4), .val (.ref b26), .val (.int sm), .val (.int xx), .val (.int yy), .unset, .unset, .unset, .unset, .unset, .unset]) rfl ?_
    show Steps p.tables e below (T51.setTop (mkF m 54 #[.val (.int p1), .val (.int p2), .val (.int p3), .val (.int p4), .val (.ref b26), .val (.int sm), .val (.int xx), .val (.int yy), .unset, .unset, .unset, .unset, .unset, .unset] [])) _
    refine XS.iload X51.here hx rfl (hb hby at_54) rfl ?_
    exact kt)
  obtain ⟨zz, hzz⟩ : ∃ z : Int32, z = (if sm = (0 : Int32) then p3 else (((p3 &&& (2147483647 : Int32)) - (p3 &&& (2147483647 : Int32)) / (48 : Int32) * (48 : Int32)) - (4 : Int32))) := ⟨_, rfl⟩
  obtain ⟨T57, L57, X57, N57, e57, pre57⟩ : ∃ (T' : State) (locs' : List Loc), Stand p l e room_1 (s.setVm Tl.vm) m #[(.int p1), (.int p2), (.int p3), (.int p4)] below meth c T' locs' 3 21 ∧ Fr n0 locs' ∧ T'.heap = T32.heap ∧ ∀ t, Steps p.tables e below (T'.setTop (mkF m 67 #[.val (.int p1), .val (.int p2), .val (.int p3), .val (.int p4), .val (.ref b26), .val (.int sm), .val (.int xx), .val (.int yy), .unset, .unset, .unset, .unset, .unset, .unset] [(.int zz)])) t → Steps p.tables e below (s₁.setTop (entryFrame m #[(.int p1), (.int p2), (.int p3), (.int p4)] maxLocals)) t := by
    by_cases hc53 : sm = (0 : Int32)
    case pos =>
      have pre54 : ∀ t, Steps p.tables e below (T51.setTop (mkF m 67 #[.val (.int p1), .val (.int p2), .val (.int p3), .val (.int p4), .val (.ref b26), .val (.int sm), .val (.int xx), .val (.int yy), .unset, .unset, .unset, .unset, .unset, .unset] [(.int p3)])) t → Steps p.tables e below (s₁.setTop (entryFrame m #[(.int p1), (.int p2), (.int p3), (.int p4)] maxLocals)) t := fun t kt => pre52 t (by
        show Steps p.tables e below (T51.setTop (mkF m 56 #[.val (.int p1), .val (.int p2), .val (.int p3), .val (.int p4), .val (.ref b26), .val (.int sm), .val (.int xx), .val (.int yy), .unset, .unset, .unset, .unset, .unset, .unset] [(.int sm)])) _
        refine XS.ifYes X51.here hx rfl (pc0 := 56) (pc' := 66) rfl (hb hby at_56) rfl ((if0 _ _).trans (teq hc53).1) (by decide) (by decide) ?_
        show Steps p.tables e below (T51.setTop (mkF m 66 #[.val (.int p1), .val (.int p2), .val (.int p3), .val (.int p4), .val (.ref b26), .val (.int sm), .val (.int xx), .val (.int yy), .unset, .unset, .unset, .unset, .unset, .unset] [])) _
        refine XS.iloadN X51.here hx rfl (hb hby at_66) rfl ?_
        exact kt)
      rw [show zz = p3 from (hzz.trans (if_pos hc53))]
      exact ⟨T51, _, own_more X51 (by decide) (by decide), N51, e51, pre54⟩
    case neg =>
      obtain ⟨_, _, ⟨T55, L55, k55, n55⟩, -, X55, ⟨Lc55, hQ55, l55, y55, z55⟩, st55⟩ := Jvm.LawKit.callS X51 hx (y := (⟨"com/example/digitwarden/digitwarden/model/IbanSchemeAcceptsLengthPinLaw", "near", "(I)I"⟩ : MethodName)) hown (mvT hZ (hw _ (List.mem_of_getElem? (i := 24) rfl))) (mvT hZ (hw _ (List.mem_of_getElem? (i := 25) rfl))) (mvT hZ (hw _ (List.mem_of_getElem? (i := 26) rfl))) (mvT hZ (hw _ (List.mem_of_getElem? (i := 27) rfl))) (by decide) (backOf (W := 0) (rm4 l Z a0 hw [] p3 T32.heap n0 z33) hZ (hw _ (List.mem_of_getElem? (i := 27) rfl)) (hw _ (List.mem_of_getElem? (i := 26) rfl)) (by decide) (by decide)) (g := (mkF m 60 #[.val (.int p1), .val (.int p2), .val (.int p3), .val (.int p4), .val (.ref b26), .val (.int sm), .val (.int xx), .val (.int yy), .unset, .unset, .unset, .unset, .unset, .unset] [(.int p3)])) rfl (by rw [hml]; rfl) (argsL := [(.int p3)]) (rest := []) (lenOf pd_53 rfl) rfl (by show 2 * 0 + _ ≤ _; exact Nat.le_of_eq rfl) (hb hby at_60) (fun _ _ => ⟨rfl, e51, (by decide : 3 + 0 ≤ _), (by decide : 21 + 0 ≤ _)⟩)
      dsimp only [Pt.U, Pt.locs, Pt.cells, Pt.slots] at X55 l55 y55 z55 st55 hQ55
      subst l55 y55 z55
      obtain ⟨rfl, Nq55, e55⟩ := hQ55
      have N55 := Fr.app N51 Nq55
      have pre56 : ∀ t, Steps p.tables e below (T55.setTop (mkF m 67 #[.val (.int p1), .val (.int p2), .val (.int p3), .val (.int p4), .val (.ref b26), .val (.int sm), .val (.int xx), .val (.int yy), .unset, .unset, .unset, .unset, .unset, .unset] [(.int (((p3 &&& (2147483647 : Int32)) - (p3 &&& (2147483647 : Int32)) / (48 : Int32) * (48 : Int32)) - (4 : Int32)))])) t → Steps p.tables e below (s₁.setTop (entryFrame m #[(.int p1), (.int p2), (.int p3), (.int p4)] maxLocals)) t := fun t kt => pre52 t (by
        show Steps p.tables e below (T51.setTop (mkF m 56 #[.val (.int p1), .val (.int p2), .val (.int p3), .val (.int p4), .val (.ref b26), .val (.int sm), .val (.int xx), .val (.int yy), .unset, .unset, .unset, .unset, .unset, .unset] [(.int sm)])) _
        refine XS.ifNo X51.here hx rfl (hb hby at_56) rfl ((if0 _ _).trans (feq hc53).1) ?_
        show Steps p.tables e below (T51.setTop (mkF m 59 #[.val (.int p1), .val (.int p2), .val (.int p3), .val (.int p4), .val (.ref b26), .val (.int sm), .val (.int xx), .val (.int yy), .unset, .unset, .unset, .unset, .unset, .unset] [])) _
        refine XS.iloadN X51.here hx rfl (hb hby at_59) rfl ?_
        show Steps p.tables e below (T51.setTop (mkF m 60 #[.val (.int p1), .val (.int p2), .val (.int p3), .val (.int p4), .val (.ref b26), .val (.int sm), .val (.int xx), .val (.int yy), .unset, .unset, .unset, .unset, .unset, .unset] [(.int p3)])) _
        refine st55 _ ?_
        show Steps p.tables e below (T55.setTop (mkF m 63 #[.val (.int p1), .val (.int p2), .val (.int p3), .val (.int p4), .val (.ref b26), .val (.int sm), .val (.int xx), .val (.int yy), .unset, .unset, .unset, .unset, .unset, .unset] [(.int (((p3 &&& (2147483647 : Int32)) - (p3 &&& (2147483647 : Int32)) / (48 : Int32) * (48 : Int32)) - (4 : Int32)))])) _
        refine XS.goto X55.here hx rfl (pc0 := 63) (pc' := 67) rfl (hb hby at_63) (by decide) (by decide) ?_
        exact kt)
      rw [show zz = (((p3 &&& (2147483647 : Int32)) - (p3 &&& (2147483647 : Int32)) / (48 : Int32) * (48 : Int32)) - (4 : Int32)) from (hzz.trans (if_neg hc53))]
      exact ⟨T55, _, own_more X55 (by decide) (by decide), N55, e55, pre56⟩
  have acc5 : ¬ ((if (5 : Int32) < (5 : Int32) then (0 : Int32) else (if (34 : Int32) < (5 : Int32) then (0 : Int32) else (1 : Int32))) = (0 : Int32)) := by decide
  have acc34 : ¬ ((if (34 : Int32) < (5 : Int32) then (0 : Int32) else (if (34 : Int32) < (34 : Int32) then (0 : Int32) else (1 : Int32))) = (0 : Int32)) := by decide
  have acc4 : (if (4 : Int32) < (5 : Int32) then (0 : Int32) else (if (34 : Int32) < (4 : Int32) then (0 : Int32) else (1 : Int32))) = (0 : Int32) := by decide
  have acc35 : (if (35 : Int32) < (5 : Int32) then (0 : Int32) else (if (34 : Int32) < (35 : Int32) then (0 : Int32) else (1 : Int32))) = (0 : Int32) := by decide
  obtain ⟨cq58, kq58, q58a, q58b, q58c⟩ := isOf hZ e57 c35
  obtain ⟨_, _, ⟨T58, L58, k58, n58⟩, -, X58, ⟨Lc58, hQ58, l58, y58, z58⟩, st58⟩ := X57.virtualBack hx (y := (⟨"com/example/digitwarden/digitwarden/model/IbanScheme", "acceptsLength", "(I)Z"⟩ : MethodName)) (z := (⟨"com/example/digitwarden/digitwarden/model/IbanScheme", "acceptsLength", "(I)Z"⟩ : MethodName)) hown (mvT hZ (hw _ (List.mem_of_getElem? (i := 29) rfl))) (mvT hZ (hw _ (List.mem_of_getElem? (i := 30) rfl))) (notFace_of_selects (args := #[]) (mvT hZ (hw _ (List.mem_of_getElem? (i := 32) rfl)))) (mvT hZ (hw _ (List.mem_of_getElem? (i := 32) rfl))) (mvT hZ (hw _ (List.mem_of_getElem? (i := 31) rfl))) (by decide) (backOf (W := 0) (rm5 l Z a0 hw [] b26 (5 : Int32) T32.heap n0 z33) hZ (hw _ (List.mem_of_getElem? (i := 33) rfl)) (hw _ (List.mem_of_getElem? (i := 2) rfl)) (by decide) (by decide)) q58a q58c (g := (mkF m 72 #[.val (.int p1), .val (.int p2), .val (.int p3), .val (.int p4), .val (.ref b26), .val (.int sm), .val (.int xx), .val (.int yy), .val (.int zz), .unset, .unset, .unset, .unset, .unset] [(.int (5 : Int32)), (.ref b26)])) rfl (by rw [hml]; rfl) (Steps.refl _) (argsL := [(.int (5 : Int32))]) (rest := []) (lenOf pd_54 rfl) rfl (by show 2 * 0 + _ ≤ _; exact Nat.le_of_eq rfl) (hb hby at_72) (fun _ _ => ⟨rfl, e57, (by decide : 3 + 0 ≤ _), (by decide : 21 + 0 ≤ _)⟩)
  dsimp only [Pt.U, Pt.locs, Pt.cells, Pt.slots] at X58 l58 y58 z58 st58 hQ58
  subst l58 y58 z58
  obtain ⟨rfl, Nq58, e58⟩ := hQ58
  have N58 := Fr.app N57 Nq58
  obtain ⟨cq59, kq59, q59a, q59b, q59c⟩ := isOf hZ e58 c35
  obtain ⟨_, _, ⟨T59, L59, k59, n59⟩, -, X59, ⟨Lc59, hQ59, l59, y59, z59⟩, st59⟩ := X58.virtualBack hx (y := (⟨"com/example/digitwarden/digitwarden/model/IbanScheme", "acceptsLength", "(I)Z"⟩ : MethodName)) (z := (⟨"com/example/digitwarden/digitwarden/model/IbanScheme", "acceptsLength", "(I)Z"⟩ : MethodName)) hown (mvT hZ (hw _ (List.mem_of_getElem? (i := 29) rfl))) (mvT hZ (hw _ (List.mem_of_getElem? (i := 30) rfl))) (notFace_of_selects (args := #[]) (mvT hZ (hw _ (List.mem_of_getElem? (i := 32) rfl)))) (mvT hZ (hw _ (List.mem_of_getElem? (i := 32) rfl))) (mvT hZ (hw _ (List.mem_of_getElem? (i := 31) rfl))) (by decide) (backOf (W := 0) (rm5 l Z a0 hw [] b26 (34 : Int32) T32.heap n0 z33) hZ (hw _ (List.mem_of_getElem? (i := 33) rfl)) (hw _ (List.mem_of_getElem? (i := 2) rfl)) (by decide) (by decide)) q59a q59c (g := (mkF m 82 #[.val (.int p1), .val (.int p2), .val (.int p3), .val (.int p4), .val (.ref b26), .val (.int sm), .val (.int xx), .val (.int yy), .val (.int zz), .unset, .unset, .unset, .unset, .unset] [(.int (34 : Int32)), (.ref b26)])) rfl (by rw [hml]; rfl) (Steps.refl _) (argsL := [(.int (34 : Int32))]) (rest := []) (lenOf pd_54 rfl) rfl (by show 2 * 0 + _ ≤ _; exact Nat.le_of_eq rfl) (hb hby at_82) (fun _ _ => ⟨rfl, e58, (by decide : 3 + 0 ≤ _), (by decide : 21 + 0 ≤ _)⟩)
  dsimp only [Pt.U, Pt.locs, Pt.cells, Pt.slots] at X59 l59 y59 z59 st59 hQ59
  subst l59 y59 z59
  obtain ⟨rfl, Nq59, e59⟩ := hQ59
  have N59 := Fr.app N58 Nq59
  obtain ⟨cq60, kq60, q60a, q60b, q60c⟩ := isOf hZ e59 c35
  obtain ⟨_, _, ⟨T60, L60, k60, n60⟩, -, X60, ⟨Lc60, hQ60, l60, y60, z60⟩, st60⟩ := X59.virtualBack hx (y := (⟨"com/example/digitwarden/digitwarden/model/IbanScheme", "acceptsLength", "(I)Z"⟩ : MethodName)) (z := (⟨"com/example/digitwarden/digitwarden/model/IbanScheme", "acceptsLength", "(I)Z"⟩ : MethodName)) hown (mvT hZ (hw _ (List.mem_of_getElem? (i := 29) rfl))) (mvT hZ (hw _ (List.mem_of_getElem? (i := 30) rfl))) (notFace_of_selects (args := #[]) (mvT hZ (hw _ (List.mem_of_getElem? (i := 32) rfl)))) (mvT hZ (hw _ (List.mem_of_getElem? (i := 32) rfl))) (mvT hZ (hw _ (List.mem_of_getElem? (i := 31) rfl))) (by decide) (backOf (W := 0) (rm5 l Z a0 hw [] b26 (4 : Int32) T32.heap n0 z33) hZ (hw _ (List.mem_of_getElem? (i := 33) rfl)) (hw _ (List.mem_of_getElem? (i := 2) rfl)) (by decide) (by decide)) q60a q60c (g := (mkF m 91 #[.val (.int p1), .val (.int p2), .val (.int p3), .val (.int p4), .val (.ref b26), .val (.int sm), .val (.int xx), .val (.int yy), .val (.int zz), .unset, .unset, .unset, .unset, .unset] [(.int (4 : Int32)), (.ref b26)])) rfl (by rw [hml]; rfl) (Steps.refl _) (argsL := [(.int (4 : Int32))]) (rest := []) (lenOf pd_54 rfl) rfl (by show 2 * 0 + _ ≤ _; exact Nat.le_of_eq rfl) (hb hby at_91) (fun _ _ => ⟨rfl, e59, (by decide : 3 + 0 ≤ _), (by decide : 21 + 0 ≤ _)⟩)
  dsimp only [Pt.U, Pt.locs, Pt.cells, Pt.slots] at X60 l60 y60 z60 st60 hQ60
  subst l60 y60 z60
  obtain ⟨rfl, Nq60, e60⟩ := hQ60
  have N60 := Fr.app N59 Nq60
  obtain ⟨cq61, kq61, q61a, q61b, q61c⟩ := isOf hZ e60 c35
  obtain ⟨_, _, ⟨T61, L61, k61, n61⟩, -, X61, ⟨Lc61, hQ61, l61, y61, z61⟩, st61⟩ := X60.virtualBack hx (y := (⟨"com/example/digitwarden/digitwarden/model/IbanScheme", "acceptsLength", "(I)Z"⟩ : MethodName)) (z := (⟨"com/example/digitwarden/digitwarden/model/IbanScheme", "acceptsLength", "(I)Z"⟩ : MethodName)) hown (mvT hZ (hw _ (List.mem_of_getElem? (i := 29) rfl))) (mvT hZ (hw _ (List.mem_of_getElem? (i := 30) rfl))) (notFace_of_selects (args := #[]) (mvT hZ (hw _ (List.mem_of_getElem? (i := 32) rfl)))) (mvT hZ (hw _ (List.mem_of_getElem? (i := 32) rfl))) (mvT hZ (hw _ (List.mem_of_getElem? (i := 31) rfl))) (by decide) (backOf (W := 0) (rm5 l Z a0 hw [] b26 (35 : Int32) T32.heap n0 z33) hZ (hw _ (List.mem_of_getElem? (i := 33) rfl)) (hw _ (List.mem_of_getElem? (i := 2) rfl)) (by decide) (by decide)) q61a q61c (g := (mkF m 101 #[.val (.int p1), .val (.int p2), .val (.int p3), .val (.int p4), .val (.ref b26), .val (.int sm), .val (.int xx), .val (.int yy), .val (.int zz), .unset, .unset, .unset, .unset, .unset] [(.int (35 : Int32)), (.ref b26)])) rfl (by rw [hml]; rfl) (Steps.refl _) (argsL := [(.int (35 : Int32))]) (rest := []) (lenOf pd_54 rfl) rfl (by show 2 * 0 + _ ≤ _; exact Nat.le_of_eq rfl) (hb hby at_101) (fun _ _ => ⟨rfl, e60, (by decide : 3 + 0 ≤ _), (by decide : 21 + 0 ≤ _)⟩)
  dsimp only [Pt.U, Pt.locs, Pt.cells, Pt.slots] at X61 l61 y61 z61 st61 hQ61
  subst l61 y61 z61
  obtain ⟨rfl, Nq61, e61⟩ := hQ61
  have N61 := Fr.app N60 Nq61
  obtain ⟨_, _, ⟨T62, L62, k62, n62⟩, -, X62, ⟨Lc62, hQ62, l62, y62, z62⟩, st62⟩ := Jvm.LawKit.callS X61 hx (y := (⟨"java/lang/Math", "min", "(II)I"⟩ : MethodName)) hown (mvT hZ (hw _ (List.mem_of_getElem? (i := 34) rfl))) (mvT hZ (hw _ (List.mem_of_getElem? (i := 35) rfl))) (mvT hZ (hw _ (List.mem_of_getElem? (i := 36) rfl))) (mvT hZ (hw _ (List.mem_of_getElem? (i := 37) rfl))) (by decide) (backOf (W := 0) (rm6 l Z a0 hw [] xx zz T32.heap n0 z33) hZ (hw _ (List.mem_of_getElem? (i := 37) rfl)) (hw _ (List.mem_of_getElem? (i := 36) rfl)) (by decide) (by decide)) (g := (mkF m 118 #[.val (.int p1), .val (.int p2), .val (.int p3), .val (.int p4), .val (.ref b26), .val (.int sm), .val (.int xx), .val (.int yy), .val (.int zz), .val (.int (1 : Int32)), .unset, .unset, .unset, .unset] [(.int zz), (.int xx)])) rfl (by rw [hml]; rfl) (argsL := [(.int xx), (.int zz)]) (rest := []) (lenOf pd_55 rfl) rfl (by show 2 * 0 + _ ≤ _; exact Nat.le_of_eq rfl) (hb hby at_118) (fun _ _ => ⟨rfl, e61, (by decide : 3 + 0 ≤ _), (by decide : 21 + 0 ≤ _)⟩)
  dsimp only [Pt.U, Pt.locs, Pt.cells, Pt.slots] at X62 l62 y62 z62 st62 hQ62
  subst l62 y62 z62
  obtain ⟨rfl, Nq62, e62⟩ := hQ62
  have N62 := Fr.app N61 Nq62
  obtain ⟨_, _, ⟨T63, L63, k63, n63⟩, -, X63, ⟨Lc63, hQ63, l63, y63, z63⟩, st63⟩ := Jvm.LawKit.callS X62 hx (y := (⟨"java/lang/Math", "max", "(II)I"⟩ : MethodName)) hown (mvT hZ (hw _ (List.mem_of_getElem? (i := 38) rfl))) (mvT hZ (hw _ (List.mem_of_getElem? (i := 39) rfl))) (mvT hZ (hw _ (List.mem_of_getElem? (i := 36) rfl))) (mvT hZ (hw _ (List.mem_of_getElem? (i := 40) rfl))) (by decide) (backOf (W := 0) (rm7 l Z a0 hw [] xx zz T32.heap n0 z33) hZ (hw _ (List.mem_of_getElem? (i := 40) rfl)) (hw _ (List.mem_of_getElem? (i := 36) rfl)) (by decide) (by decide)) (g := (mkF m 127 #[.val (.int p1), .val (.int p2), .val (.int p3), .val (.int p4), .val (.ref b26), .val (.int sm), .val (.int xx), .val (.int yy), .val (.int zz), .val (.int (1 : Int32)), .val (.int (if zz < xx then zz else xx)), .unset, .unset, .unset] [(.int zz), (.int xx)])) rfl (by rw [hml]; rfl) (argsL := [(.int xx), (.int zz)]) (rest := []) (lenOf pd_55 rfl) rfl (by show 2 * 0 + _ ≤ _; exact Nat.le_of_eq rfl) (hb hby at_127) (fun _ _ => ⟨rfl, e62, (by decide : 3 + 0 ≤ _), (by decide : 21 + 0 ≤ _)⟩)
  dsimp only [Pt.U, Pt.locs, Pt.cells, Pt.slots] at X63 l63 y63 z63 st63 hQ63
  subst l63 y63 z63
  obtain ⟨rfl, Nq63, e63⟩ := hQ63
  have N63 := Fr.app N62 Nq63
  have pre64 : ∀ t, Steps p.tables e below (T63.setTop (mkF m 130 #[.val (.int p1), .val (.int p2), .val (.int p3), .val (.int p4), .val (.ref b26), .val (.int sm), .val (.int xx), .val (.int yy), .val (.int zz), .val (.int (1 : Int32)), .val (.int (if zz < xx then zz else xx)), .unset, .unset, .unset] [(.int (if xx < zz then zz else xx))])) t → Steps p.tables e below (s₁.setTop (entryFrame m #[(.int p1), (.int p2), (.int p3), (.int p4)] maxLocals)) t := fun t kt => pre57 t (by
    show Steps p.tables e below (T57.setTop (mkF m 67 #[.val (.int p1), .val (.int p2), .val (.int p3), .val (.int p4), .val (.ref b26), .val (.int sm), .val (.int xx), .val (.int yy), .unset, .unset, .unset, .unset, .unset, .unset] [(.int zz)])) _
    refine XS.istore X57.here hx rfl (hb hby at_67) rfl (l' := #[.val (.int p1), .val (.int p2), .val (.int p3), .val (.int p4), .val (.ref b26), .val (.int sm), .val (.int xx), .val (.int yy), .val (.int zz), .unset, .unset, .unset, .unset, .unset]) rfl ?_
    show Steps p.tables e below (T57.setTop (mkF m 69 #[.val (.int p1), .val (.int p2), .val (.int p3), .val (.int p4), .val (.ref b26), .val (.int sm), .val (.int xx), .val (.int yy), .val (.int zz), .unset, .unset, .unset, .unset, .unset] [])) _
    refine XS.aload X57.here hx rfl (hb hby at_69) rfl rfl ?_
    show Steps p.tables e below (T57.setTop (mkF m 71 #[.val (.int p1), .val (.int p2), .val (.int p3), .val (.int p4), .val (.ref b26), .val (.int sm), .val (.int xx), .val (.int yy), .val (.int zz), .unset, .unset, .unset, .unset, .unset] [(.ref b26)])) _
    refine XS.iconst X57.here hx rfl (hb hby at_71) ?_
    show Steps p.tables e below (T57.setTop (mkF m 72 #[.val (.int p1), .val (.int p2), .val (.int p3), .val (.int p4), .val (.ref b26), .val (.int sm), .val (.int xx), .val (.int yy), .val (.int zz), .unset, .unset, .unset, .unset, .unset] [(.int (5 : Int32)), (.ref b26)])) _
    refine st58.trans ?_
    show Steps p.tables e below (T58.setTop (mkF m 75 #[.val (.int p1), .val (.int p2), .val (.int p3), .val (.int p4), .val (.ref b26), .val (.int sm), .val (.int xx), .val (.int yy), .val (.int zz), .unset, .unset, .unset, .unset, .unset] [(.int (if (5 : Int32) < (5 : Int32) then (0 : Int32) else (if (34 : Int32) < (5 : Int32) then (0 : Int32) else (1 : Int32))))])) _
    refine XS.ifNo X58.here hx rfl (hb hby at_75) rfl ((if0 _ _).trans (feq acc5).1) ?_
    show Steps p.tables e below (T58.setTop (mkF m 78 #[.val (.int p1), .val (.int p2), .val (.int p3), .val (.int p4), .val (.ref b26), .val (.int sm), .val (.int xx), .val (.int yy), .val (.int zz), .unset, .unset, .unset, .unset, .unset] [])) _
    refine XS.aload X58.here hx rfl (hb hby at_78) rfl rfl ?_
    show Steps p.tables e below (T58.setTop (mkF m 80 #[.val (.int p1), .val (.int p2), .val (.int p3), .val (.int p4), .val (.ref b26), .val (.int sm), .val (.int xx), .val (.int yy), .val (.int zz), .unset, .unset, .unset, .unset, .unset] [(.ref b26)])) _
    refine XS.bipush X58.here hx rfl (hb hby at_80) ?_
    show Steps p.tables e below (T58.setTop (mkF m 82 #[.val (.int p1), .val (.int p2), .val (.int p3), .val (.int p4), .val (.ref b26), .val (.int sm), .val (.int xx), .val (.int yy), .val (.int zz), .unset, .unset, .unset, .unset, .unset] [(.int (34 : Int32)), (.ref b26)])) _
    refine st59.trans ?_
    show Steps p.tables e below (T59.setTop (mkF m 85 #[.val (.int p1), .val (.int p2), .val (.int p3), .val (.int p4), .val (.ref b26), .val (.int sm), .val (.int xx), .val (.int yy), .val (.int zz), .unset, .unset, .unset, .unset, .unset] [(.int (if (34 : Int32) < (5 : Int32) then (0 : Int32) else (if (34 : Int32) < (34 : Int32) then (0 : Int32) else (1 : Int32))))])) _
    refine XS.ifNo X59.here hx rfl (hb hby at_85) rfl ((if0 _ _).trans (feq acc34).1) ?_
    show Steps p.tables e below (T59.setTop (mkF m 88 #[.val (.int p1), .val (.int p2), .val (.int p3), .val (.int p4), .val (.ref b26), .val (.int sm), .val (.int xx), .val (.int yy), .val (.int zz), .unset, .unset, .unset, .unset, .unset] [])) _
    refine XS.aload X59.here hx rfl (hb hby at_88) rfl rfl ?_
    show Steps p.tables e below (T59.setTop (mkF m 90 #[.val (.int p1), .val (.int p2), .val (.int p3), .val (.int p4), .val (.ref b26), .val (.int sm), .val (.int xx), .val (.int yy), .val (.int zz), .unset, .unset, .unset, .unset, .unset] [(.ref b26)])) _
    refine XS.iconst X59.here hx rfl (hb hby at_90) ?_
    show Steps p.tables e below (T59.setTop (mkF m 91 #[.val (.int p1), .val (.int p2), .val (.int p3), .val (.int p4), .val (.ref b26), .val (.int sm), .val (.int xx), .val (.int yy), .val (.int zz), .unset, .unset, .unset, .unset, .unset] [(.int (4 : Int32)), (.ref b26)])) _
    refine st60.trans ?_
    show Steps p.tables e below (T60.setTop (mkF m 94 #[.val (.int p1), .val (.int p2), .val (.int p3), .val (.int p4), .val (.ref b26), .val (.int sm), .val (.int xx), .val (.int yy), .val (.int zz), .unset, .unset, .unset, .unset, .unset] [(.int (if (4 : Int32) < (5 : Int32) then (0 : Int32) else (if (34 : Int32) < (4 : Int32) then (0 : Int32) else (1 : Int32))))])) _
    refine XS.ifNo X60.here hx rfl (hb hby at_94) rfl ((if0 _ _).trans (teq acc4).2) ?_
    show Steps p.tables e below (T60.setTop (mkF m 97 #[.val (.int p1), .val (.int p2), .val (.int p3), .val (.int p4), .val (.ref b26), .val (.int sm), .val (.int xx), .val (.int yy), .val (.int zz), .unset, .unset, .unset, .unset, .unset] [])) _
    refine XS.aload X60.here hx rfl (hb hby at_97) rfl rfl ?_
    show Steps p.tables e below (T60.setTop (mkF m 99 #[.val (.int p1), .val (.int p2), .val (.int p3), .val (.int p4), .val (.ref b26), .val (.int sm), .val (.int xx), .val (.int yy), .val (.int zz), .unset, .unset, .unset, .unset, .unset] [(.ref b26)])) _
    refine XS.bipush X60.here hx rfl (hb hby at_99) ?_
    show Steps p.tables e below (T60.setTop (mkF m 101 #[.val (.int p1), .val (.int p2), .val (.int p3), .val (.int p4), .val (.ref b26), .val (.int sm), .val (.int xx), .val (.int yy), .val (.int zz), .unset, .unset, .unset, .unset, .unset] [(.int (35 : Int32)), (.ref b26)])) _
    refine st61.trans ?_
    show Steps p.tables e below (T61.setTop (mkF m 104 #[.val (.int p1), .val (.int p2), .val (.int p3), .val (.int p4), .val (.ref b26), .val (.int sm), .val (.int xx), .val (.int yy), .val (.int zz), .unset, .unset, .unset, .unset, .unset] [(.int (if (35 : Int32) < (5 : Int32) then (0 : Int32) else (if (34 : Int32) < (35 : Int32) then (0 : Int32) else (1 : Int32))))])) _
    refine XS.ifNo X61.here hx rfl (hb hby at_104) rfl ((if0 _ _).trans (teq acc35).2) ?_
    show Steps p.tables e below (T61.setTop (mkF m 107 #[.val (.int p1), .val (.int p2), .val (.int p3), .val (.int p4), .val (.ref b26), .val (.int sm), .val (.int xx), .val (.int yy), .val (.int zz), .unset, .unset, .unset, .unset, .unset] [])) _
    refine XS.iconst X61.here hx rfl (hb hby at_107) ?_
    show Steps p.tables e below (T61.setTop (mkF m 108 #[.val (.int p1), .val (.int p2), .val (.int p3), .val (.int p4), .val (.ref b26), .val (.int sm), .val (.int xx), .val (.int yy), .val (.int zz), .unset, .unset, .unset, .unset, .unset] [(.int (1 : Int32))])) _
    refine XS.goto X61.here hx rfl (pc0 := 108) (pc' := 112) rfl (hb hby at_108) (by decide) (by decide) ?_
    show Steps p.tables e below (T61.setTop (mkF m 112 #[.val (.int p1), .val (.int p2), .val (.int p3), .val (.int p4), .val (.ref b26), .val (.int sm), .val (.int xx), .val (.int yy), .val (.int zz), .unset, .unset, .unset, .unset, .unset] [(.int (1 : Int32))])) _
    refine XS.istore X61.here hx rfl (hb hby at_112) rfl (l' := #[.val (.int p1), .val (.int p2), .val (.int p3), .val (.int p4), .val (.ref b26), .val (.int sm), .val (.int xx), .val (.int yy), .val (.int zz), .val (.int (1 : Int32)), .unset, .unset, .unset, .unset]) rfl ?_
    show Steps p.tables e below (T61.setTop (mkF m 114 #[.val (.int p1), .val (.int p2), .val (.int p3), .val (.int p4), .val (.ref b26), .val (.int sm), .val (.int xx), .val (.int yy), .val (.int zz), .val (.int (1 : Int32)), .unset, .unset, .unset, .unset] [])) _
    refine XS.iload X61.here hx rfl (hb hby at_114) rfl ?_
    show Steps p.tables e below (T61.setTop (mkF m 116 #[.val (.int p1), .val (.int p2), .val (.int p3), .val (.int p4), .val (.ref b26), .val (.int sm), .val (.int xx), .val (.int yy), .val (.int zz), .val (.int (1 : Int32)), .unset, .unset, .unset, .unset] [(.int xx)])) _
    refine XS.iload X61.here hx rfl (hb hby at_116) rfl ?_
    show Steps p.tables e below (T61.setTop (mkF m 118 #[.val (.int p1), .val (.int p2), .val (.int p3), .val (.int p4), .val (.ref b26), .val (.int sm), .val (.int xx), .val (.int yy), .val (.int zz), .val (.int (1 : Int32)), .unset, .unset, .unset, .unset] [(.int zz), (.int xx)])) _
    refine st62 _ ?_
    show Steps p.tables e below (T62.setTop (mkF m 121 #[.val (.int p1), .val (.int p2), .val (.int p3), .val (.int p4), .val (.ref b26), .val (.int sm), .val (.int xx), .val (.int yy), .val (.int zz), .val (.int (1 : Int32)), .unset, .unset, .unset, .unset] [(.int (if zz < xx then zz else xx))])) _
    refine XS.istore X62.here hx rfl (hb hby at_121) rfl (l' := #[.val (.int p1), .val (.int p2), .val (.int p3), .val (.int p4), .val (.ref b26), .val (.int sm), .val (.int xx), .val (.int yy), .val (.int zz), .val (.int (1 : Int32)), .val (.int (if zz < xx then zz else xx)), .unset, .unset, .unset]) rfl ?_
    show Steps p.tables e below (T62.setTop (mkF m 123 #[.val (.int p1), .val (.int p2), .val (.int p3), .val (.int p4), .val (.ref b26), .val (.int sm), .val (.int xx), .val (.int yy), .val (.int zz), .val (.int (1 : Int32)), .val (.int (if zz < xx then zz else xx)), .unset, .unset, .unset] [])) _
    refine XS.iload X62.here hx rfl (hb hby at_123) rfl ?_
    show Steps p.tables e below (T62.setTop (mkF m 125 #[.val (.int p1), .val (.int p2), .val (.int p3), .val (.int p4), .val (.ref b26), .val (.int sm), .val (.int xx), .val (.int yy), .val (.int zz), .val (.int (1 : Int32)), .val (.int (if zz < xx then zz else xx)), .unset, .unset, .unset] [(.int xx)])) _
    refine XS.iload X62.here hx rfl (hb hby at_125) rfl ?_
    show Steps p.tables e below (T62.setTop (mkF m 127 #[.val (.int p1), .val (.int p2), .val (.int p3), .val (.int p4), .val (.ref b26), .val (.int sm), .val (.int xx), .val (.int yy), .val (.int zz), .val (.int (1 : Int32)), .val (.int (if zz < xx then zz else xx)), .unset, .unset, .unset] [(.int zz), (.int xx)])) _
    refine st63 _ ?_
    exact kt)
  obtain ⟨lo, hlo⟩ : ∃ z : Int32, z = (if zz < xx then zz else xx) := ⟨_, rfl⟩
  have pre65 : ∀ t, Steps p.tables e below (T63.setTop (mkF m 130 #[.val (.int p1), .val (.int p2), .val (.int p3), .val (.int p4), .val (.ref b26), .val (.int sm), .val (.int xx), .val (.int yy), .val (.int zz), .val (.int (1 : Int32)), .val (.int lo), .unset, .unset, .unset] [(.int (if xx < zz then zz else xx))])) t → Steps p.tables e below (s₁.setTop (entryFrame m #[(.int p1), (.int p2), (.int p3), (.int p4)] maxLocals)) t := by rw [hlo]; exact pre64
  obtain ⟨hi, hhi⟩ : ∃ z : Int32, z = (if xx < zz then zz else xx) := ⟨_, rfl⟩
  have pre66 : ∀ t, Steps p.tables e below (T63.setTop (mkF m 130 #[.val (.int p1), .val (.int p2), .val (.int p3), .val (.int p4), .val (.ref b26), .val (.int sm), .val (.int xx), .val (.int yy), .val (.int zz), .val (.int (1 : Int32)), .val (.int lo), .unset, .unset, .unset] [(.int hi)])) t → Steps p.tables e below (s₁.setTop (entryFrame m #[(.int p1), (.int p2), (.int p3), (.int p4)] maxLocals)) t := by rw [hhi]; exact pre65
  have pre67 : ∀ t, Steps p.tables e below (T63.setTop (mkF m 136 #[.val (.int p1), .val (.int p2), .val (.int p3), .val (.int p4), .val (.ref b26), .val (.int sm), .val (.int xx), .val (.int yy), .val (.int zz), .val (.int (1 : Int32)), .val (.int lo), .val (.int hi), .unset, .unset] [(.int yy), (.int lo)])) t → Steps p.tables e below (s₁.setTop (entryFrame m #[(.int p1), (.int p2), (.int p3), (.int p4)] maxLocals)) t := fun t kt => pre66 t (by
    show Steps p.tables e below (T63.setTop (mkF m 130 #[.val (.int p1), .val (.int p2), .val (.int p3), .val (.int p4), .val (.ref b26), .val (.int sm), .val (.int xx), .val (.int yy), .val (.int zz), .val (.int (1 : Int32)), .val (.int lo), .unset, .unset, .unset] [(.int hi)])) _
    refine XS.istore X63.here hx rfl (hb hby at_130) rfl (l' := #[.val (.int p1), .val (.int p2), .val (.int p3), .val (.int p4), .val (.ref b26), .val (.int sm), .val (.int xx), .val (.int yy), .val (.int zz), .val (.int (1 : Int32)), .val (.int lo), .val (.int hi), .unset, .unset]) rfl ?_
    show Steps p.tables e below (T63.setTop (mkF m 132 #[.val (.int p1), .val (.int p2), .val (.int p3), .val (.int p4), .val (.ref b26), .val (.int sm), .val (.int xx), .val (.int yy), .val (.int zz), .val (.int (1 : Int32)), .val (.int lo), .val (.int hi), .unset, .unset] [])) _
    refine XS.iload X63.here hx rfl (hb hby at_132) rfl ?_
    show Steps p.tables e below (T63.setTop (mkF m 134 #[.val (.int p1), .val (.int p2), .val (.int p3), .val (.int p4), .val (.ref b26), .val (.int sm), .val (.int xx), .val (.int yy), .val (.int zz), .val (.int (1 : Int32)), .val (.int lo), .val (.int hi), .unset, .unset] [(.int lo)])) _
    refine XS.iload X63.here hx rfl (hb hby at_134) rfl ?_
    exact kt)
  obtain ⟨btw, hbtw⟩ : ∃ z : Int32, z = (if yy < lo then (0 : Int32) else (if hi < yy then (0 : Int32) else (1 : Int32))) := ⟨_, rfl⟩
  have pre70 : ∀ t, Steps p.tables e below (T63.setTop (mkF m 151 #[.val (.int p1), .val (.int p2), .val (.int p3), .val (.int p4), .val (.ref b26), .val (.int sm), .val (.int xx), .val (.int yy), .val (.int zz), .val (.int (1 : Int32)), .val (.int lo), .val (.int hi), .unset, .unset] [(.int btw)])) t → Steps p.tables e below (s₁.setTop (entryFrame m #[(.int p1), (.int p2), (.int p3), (.int p4)] maxLocals)) t := fun t kt => pre67 t (by
    by_cases hc68 : yy < lo
    case pos =>
      show Steps p.tables e below (T63.setTop (mkF m 136 #[.val (.int p1), .val (.int p2), .val (.int p3), .val (.int p4), .val (.ref b26), .val (.int sm), .val (.int xx), .val (.int yy), .val (.int zz), .val (.int (1 : Int32)), .val (.int lo), .val (.int hi), .unset, .unset] [(.int yy), (.int lo)])) _
      refine XS.icmpYes X63.here hx rfl (pc0 := 136) (pc' := 150) rfl (hb hby at_136) rfl (tlt hc68).2.2.1 (by decide) (by decide) ?_
      show Steps p.tables e below (T63.setTop (mkF m 150 #[.val (.int p1), .val (.int p2), .val (.int p3), .val (.int p4), .val (.ref b26), .val (.int sm), .val (.int xx), .val (.int yy), .val (.int zz), .val (.int (1 : Int32)), .val (.int lo), .val (.int hi), .unset, .unset] [])) _
      refine XS.iconst X63.here hx rfl (hb hby at_150) ?_
      rw [show btw = (0 : Int32) from (hbtw.trans (if_pos hc68))] at kt
      exact kt
    case neg =>
      show Steps p.tables e below (T63.setTop (mkF m 136 #[.val (.int p1), .val (.int p2), .val (.int p3), .val (.int p4), .val (.ref b26), .val (.int sm), .val (.int xx), .val (.int yy), .val (.int zz), .val (.int (1 : Int32)), .val (.int lo), .val (.int hi), .unset, .unset] [(.int yy), (.int lo)])) _
      refine XS.icmpNo X63.here hx rfl (hb hby at_136) rfl (flt hc68).2.2.1 ?_
      show Steps p.tables e below (T63.setTop (mkF m 139 #[.val (.int p1), .val (.int p2), .val (.int p3), .val (.int p4), .val (.ref b26), .val (.int sm), .val (.int xx), .val (.int yy), .val (.int zz), .val (.int (1 : Int32)), .val (.int lo), .val (.int hi), .unset, .unset] [])) _
      refine XS.iload X63.here hx rfl (hb hby at_139) rfl ?_
      show Steps p.tables e below (T63.setTop (mkF m 141 #[.val (.int p1), .val (.int p2), .val (.int p3), .val (.int p4), .val (.ref b26), .val (.int sm), .val (.int xx), .val (.int yy), .val (.int zz), .val (.int (1 : Int32)), .val (.int lo), .val (.int hi), .unset, .unset] [(.int yy)])) _
      refine XS.iload X63.here hx rfl (hb hby at_141) rfl ?_
      by_cases hc69 : hi < yy
      case pos =>
        show Steps p.tables e below (T63.setTop (mkF m 143 #[.val (.int p1), .val (.int p2), .val (.int p3), .val (.int p4), .val (.ref b26), .val (.int sm), .val (.int xx), .val (.int yy), .val (.int zz), .val (.int (1 : Int32)), .val (.int lo), .val (.int hi), .unset, .unset] [(.int hi), (.int yy)])) _
        refine XS.icmpYes X63.here hx rfl (pc0 := 143) (pc' := 150) rfl (hb hby at_143) rfl (tlt hc69).2.2.1 (by decide) (by decide) ?_
        show Steps p.tables e below (T63.setTop (mkF m 150 #[.val (.int p1), .val (.int p2), .val (.int p3), .val (.int p4), .val (.ref b26), .val (.int sm), .val (.int xx), .val (.int yy), .val (.int zz), .val (.int (1 : Int32)), .val (.int lo), .val (.int hi), .unset, .unset] [])) _
        refine XS.iconst X63.here hx rfl (hb hby at_150) ?_
        rw [show btw = (0 : Int32) from ((hbtw.trans (if_neg hc68)).trans (if_pos hc69))] at kt
        exact kt
      case neg =>
        show Steps p.tables e below (T63.setTop (mkF m 143 #[.val (.int p1), .val (.int p2), .val (.int p3), .val (.int p4), .val (.ref b26), .val (.int sm), .val (.int xx), .val (.int yy), .val (.int zz), .val (.int (1 : Int32)), .val (.int lo), .val (.int hi), .unset, .unset] [(.int hi), (.int yy)])) _
        refine XS.icmpNo X63.here hx rfl (hb hby at_143) rfl (flt hc69).2.2.1 ?_
        show Steps p.tables e below (T63.setTop (mkF m 146 #[.val (.int p1), .val (.int p2), .val (.int p3), .val (.int p4), .val (.ref b26), .val (.int sm), .val (.int xx), .val (.int yy), .val (.int zz), .val (.int (1 : Int32)), .val (.int lo), .val (.int hi), .unset, .unset] [])) _
        refine XS.iconst X63.here hx rfl (hb hby at_146) ?_
        show Steps p.tables e below (T63.setTop (mkF m 147 #[.val (.int p1), .val (.int p2), .val (.int p3), .val (.int p4), .val (.ref b26), .val (.int sm), .val (.int xx), .val (.int yy), .val (.int zz), .val (.int (1 : Int32)), .val (.int lo), .val (.int hi), .unset, .unset] [(.int (1 : Int32))])) _
        refine XS.goto X63.here hx rfl (pc0 := 147) (pc' := 151) rfl (hb hby at_147) (by decide) (by decide) ?_
        rw [show btw = (1 : Int32) from ((hbtw.trans (if_neg hc68)).trans (if_neg hc69))] at kt
        exact kt)
  have pre71 : ∀ t, Steps p.tables e below (T63.setTop (mkF m 155 #[.val (.int p1), .val (.int p2), .val (.int p3), .val (.int p4), .val (.ref b26), .val (.int sm), .val (.int xx), .val (.int yy), .val (.int zz), .val (.int (1 : Int32)), .val (.int lo), .val (.int hi), .val (.int btw), .unset] [(.int btw)])) t → Steps p.tables e below (s₁.setTop (entryFrame m #[(.int p1), (.int p2), (.int p3), (.int p4)] maxLocals)) t := fun t kt => pre70 t (by
    show Steps p.tables e below (T63.setTop (mkF m 151 #[.val (.int p1), .val (.int p2), .val (.int p3), .val (.int p4), .val (.ref b26), .val (.int sm), .val (.int xx), .val (.int yy), .val (.int zz), .val (.int (1 : Int32)), .val (.int lo), .val (.int hi), .unset, .unset] [(.int btw)])) _
    refine XS.istore X63.here hx rfl (hb hby at_151) rfl (l' := #[.val (.int p1), .val (.int p2), .val (.int p3), .val (.int p4), .val (.ref b26), .val (.int sm), .val (.int xx), .val (.int yy), .val (.int zz), .val (.int (1 : Int32)), .val (.int lo), .val (.int hi), .val (.int btw), .unset]) rfl ?_
    show Steps p.tables e below (T63.setTop (mkF m 153 #[.val (.int p1), .val (.int p2), .val (.int p3), .val (.int p4), .val (.ref b26), .val (.int sm), .val (.int xx), .val (.int yy), .val (.int zz), .val (.int (1 : Int32)), .val (.int lo), .val (.int hi), .val (.int btw), .unset] [])) _
    refine XS.iload X63.here hx rfl (hb hby at_153) rfl ?_
    exact kt)
  obtain ⟨cvx, hcvx⟩ : ∃ z : Int32, z = (if btw = (0 : Int32) then (1 : Int32) else (if (if lo < (5 : Int32) then (0 : Int32) else (if (34 : Int32) < lo then (0 : Int32) else (1 : Int32))) = (0 : Int32) then (1 : Int32) else (if (if hi < (5 : Int32) then (0 : Int32) else (if (34 : Int32) < hi then (0 : Int32) else (1 : Int32))) = (0 : Int32) then (1 : Int32) else (if (if yy < (5 : Int32) then (0 : Int32) else (if (34 : Int32) < yy then (0 : Int32) else (1 : Int32))) = (0 : Int32) then (0 : Int32) else (1 : Int32))))) := ⟨_, rfl⟩
  obtain ⟨T87, L87, X87, N87, e87, pre87⟩ : ∃ (T' : State) (locs' : List Loc), Stand p l e room_1 (s.setVm Tl.vm) m #[(.int p1), (.int p2), (.int p3), (.int p4)] below meth c T' locs' 3 21 ∧ Fr n0 locs' ∧ T'.heap = T32.heap ∧ ∀ t, Steps p.tables e below (T'.setTop (mkF m 193 #[.val (.int p1), .val (.int p2), .val (.int p3), .val (.int p4), .val (.ref b26), .val (.int sm), .val (.int xx), .val (.int yy), .val (.int zz), .val (.int (1 : Int32)), .val (.int lo), .val (.int hi), .val (.int btw), .unset] [(.int cvx)])) t → Steps p.tables e below (s₁.setTop (entryFrame m #[(.int p1), (.int p2), (.int p3), (.int p4)] maxLocals)) t := by
    by_cases hc72 : btw = (0 : Int32)
    case pos =>
      have pre73 : ∀ t, Steps p.tables e below (T63.setTop (mkF m 193 #[.val (.int p1), .val (.int p2), .val (.int p3), .val (.int p4), .val (.ref b26), .val (.int sm), .val (.int xx), .val (.int yy), .val (.int zz), .val (.int (1 : Int32)), .val (.int lo), .val (.int hi), .val (.int btw), .unset] [(.int (1 : Int32))])) t → Steps p.tables e below (s₁.setTop (entryFrame m #[(.int p1), (.int p2), (.int p3), (.int p4)] maxLocals)) t := fun t kt => pre71 t (by
        show Steps p.tables e below (T63.setTop (mkF m 155 #[.val (.int p1), .val (.int p2), .val (.int p3), .val (.int p4), .val (.ref b26), .val (.int sm), .val (.int xx), .val (.int yy), .val (.int zz), .val (.int (1 : Int32)), .val (.int lo), .val (.int hi), .val (.int btw), .unset] [(.int btw)])) _
        refine XS.ifYes X63.here hx rfl (pc0 := 155) (pc' := 188) rfl (hb hby at_155) rfl ((if0 _ _).trans (teq hc72).1) (by decide) (by decide) ?_
        show Steps p.tables e below (T63.setTop (mkF m 188 #[.val (.int p1), .val (.int p2), .val (.int p3), .val (.int p4), .val (.ref b26), .val (.int sm), .val (.int xx), .val (.int yy), .val (.int zz), .val (.int (1 : Int32)), .val (.int lo), .val (.int hi), .val (.int btw), .unset] [])) _
        refine XS.iconst X63.here hx rfl (hb hby at_188) ?_
        show Steps p.tables e below (T63.setTop (mkF m 189 #[.val (.int p1), .val (.int p2), .val (.int p3), .val (.int p4), .val (.ref b26), .val (.int sm), .val (.int xx), .val (.int yy), .val (.int zz), .val (.int (1 : Int32)), .val (.int lo), .val (.int hi), .val (.int btw), .unset] [(.int (1 : Int32))])) _
        refine XS.goto X63.here hx rfl (pc0 := 189) (pc' := 193) rfl (hb hby at_189) (by decide) (by decide) ?_
        exact kt)
      rw [show cvx = (1 : Int32) from (hcvx.trans (if_pos hc72))]
      exact ⟨T63, _, own_more X63 (by decide) (by decide), N63, e63, pre73⟩
    case neg =>
      obtain ⟨cq74, kq74, q74a, q74b, q74c⟩ := isOf hZ e63 c35
      obtain ⟨_, _, ⟨T74, L74, k74, n74⟩, -, X74, ⟨Lc74, hQ74, l74, y74, z74⟩, st74⟩ := X63.virtualBack hx (y := (⟨"com/example/digitwarden/digitwarden/model/IbanScheme", "acceptsLength", "(I)Z"⟩ : MethodName)) (z := (⟨"com/example/digitwarden/digitwarden/model/IbanScheme", "acceptsLength", "(I)Z"⟩ : MethodName)) hown (mvT hZ (hw _ (List.mem_of_getElem? (i := 29) rfl))) (mvT hZ (hw _ (List.mem_of_getElem? (i := 30) rfl))) (notFace_of_selects (args := #[]) (mvT hZ (hw _ (List.mem_of_getElem? (i := 32) rfl)))) (mvT hZ (hw _ (List.mem_of_getElem? (i := 32) rfl))) (mvT hZ (hw _ (List.mem_of_getElem? (i := 31) rfl))) (by decide) (backOf (W := 0) (rm5 l Z a0 hw [] b26 lo T32.heap n0 z33) hZ (hw _ (List.mem_of_getElem? (i := 33) rfl)) (hw _ (List.mem_of_getElem? (i := 2) rfl)) (by decide) (by decide)) q74a q74c (g := (mkF m 162 #[.val (.int p1), .val (.int p2), .val (.int p3), .val (.int p4), .val (.ref b26), .val (.int sm), .val (.int xx), .val (.int yy), .val (.int zz), .val (.int (1 : Int32)), .val (.int lo), .val (.int hi), .val (.int btw), .unset] [(.int lo), (.ref b26)])) rfl (by rw [hml]; rfl) (Steps.refl _) (argsL := [(.int lo)]) (rest := []) (lenOf pd_54 rfl) rfl (by show 2 * 0 + _ ≤ _; exact Nat.le_of_eq rfl) (hb hby at_162) (fun _ _ => ⟨rfl, e63, (by decide : 3 + 0 ≤ _), (by decide : 21 + 0 ≤ _)⟩)
      dsimp only [Pt.U, Pt.locs, Pt.cells, Pt.slots] at X74 l74 y74 z74 st74 hQ74
      subst l74 y74 z74
      obtain ⟨rfl, Nq74, e74⟩ := hQ74
      have N74 := Fr.app N63 Nq74
      have pre75 : ∀ t, Steps p.tables e below (T74.setTop (mkF m 165 #[.val (.int p1), .val (.int p2), .val (.int p3), .val (.int p4), .val (.ref b26), .val (.int sm), .val (.int xx), .val (.int yy), .val (.int zz), .val (.int (1 : Int32)), .val (.int lo), .val (.int hi), .val (.int btw), .unset] [(.int (if lo < (5 : Int32) then (0 : Int32) else (if (34 : Int32) < lo then (0 : Int32) else (1 : Int32))))])) t → Steps p.tables e below (s₁.setTop (entryFrame m #[(.int p1), (.int p2), (.int p3), (.int p4)] maxLocals)) t := fun t kt => pre71 t (by
        show Steps p.tables e below (T63.setTop (mkF m 155 #[.val (.int p1), .val (.int p2), .val (.int p3), .val (.int p4), .val (.ref b26), .val (.int sm), .val (.int xx), .val (.int yy), .val (.int zz), .val (.int (1 : Int32)), .val (.int lo), .val (.int hi), .val (.int btw), .unset] [(.int btw)])) _
        refine XS.ifNo X63.here hx rfl (hb hby at_155) rfl ((if0 _ _).trans (feq hc72).1) ?_
        show Steps p.tables e below (T63.setTop (mkF m 158 #[.val (.int p1), .val (.int p2), .val (.int p3), .val (.int p4), .val (.ref b26), .val (.int sm), .val (.int xx), .val (.int yy), .val (.int zz), .val (.int (1 : Int32)), .val (.int lo), .val (.int hi), .val (.int btw), .unset] [])) _
        refine XS.aload X63.here hx rfl (hb hby at_158) rfl rfl ?_
        show Steps p.tables e below (T63.setTop (mkF m 160 #[.val (.int p1), .val (.int p2), .val (.int p3), .val (.int p4), .val (.ref b26), .val (.int sm), .val (.int xx), .val (.int yy), .val (.int zz), .val (.int (1 : Int32)), .val (.int lo), .val (.int hi), .val (.int btw), .unset] [(.ref b26)])) _
        refine XS.iload X63.here hx rfl (hb hby at_160) rfl ?_
        show Steps p.tables e below (T63.setTop (mkF m 162 #[.val (.int p1), .val (.int p2), .val (.int p3), .val (.int p4), .val (.ref b26), .val (.int sm), .val (.int xx), .val (.int yy), .val (.int zz), .val (.int (1 : Int32)), .val (.int lo), .val (.int hi), .val (.int btw), .unset] [(.int lo), (.ref b26)])) _
        refine st74.trans ?_
        exact kt)
      by_cases hc76 : (if lo < (5 : Int32) then (0 : Int32) else (if (34 : Int32) < lo then (0 : Int32) else (1 : Int32))) = (0 : Int32)
      case pos =>
        have pre77 : ∀ t, Steps p.tables e below (T74.setTop (mkF m 193 #[.val (.int p1), .val (.int p2), .val (.int p3), .val (.int p4), .val (.ref b26), .val (.int sm), .val (.int xx), .val (.int yy), .val (.int zz), .val (.int (1 : Int32)), .val (.int lo), .val (.int hi), .val (.int btw), .unset] [(.int (1 : Int32))])) t → Steps p.tables e below (s₁.setTop (entryFrame m #[(.int p1), (.int p2), (.int p3), (.int p4)] maxLocals)) t := fun t kt => pre75 t (by
          show Steps p.tables e below (T74.setTop (mkF m 165 #[.val (.int p1), .val (.int p2), .val (.int p3), .val (.int p4), .val (.ref b26), .val (.int sm), .val (.int xx), .val (.int yy), .val (.int zz), .val (.int (1 : Int32)), .val (.int lo), .val (.int hi), .val (.int btw), .unset] [(.int (if lo < (5 : Int32) then (0 : Int32) else (if (34 : Int32) < lo then (0 : Int32) else (1 : Int32))))])) _
          refine XS.ifYes X74.here hx rfl (pc0 := 165) (pc' := 188) rfl (hb hby at_165) rfl ((if0 _ _).trans (teq hc76).1) (by decide) (by decide) ?_
          show Steps p.tables e below (T74.setTop (mkF m 188 #[.val (.int p1), .val (.int p2), .val (.int p3), .val (.int p4), .val (.ref b26), .val (.int sm), .val (.int xx), .val (.int yy), .val (.int zz), .val (.int (1 : Int32)), .val (.int lo), .val (.int hi), .val (.int btw), .unset] [])) _
          refine XS.iconst X74.here hx rfl (hb hby at_188) ?_
          show Steps p.tables e below (T74.setTop (mkF m 189 #[.val (.int p1), .val (.int p2), .val (.int p3), .val (.int p4), .val (.ref b26), .val (.int sm), .val (.int xx), .val (.int yy), .val (.int zz), .val (.int (1 : Int32)), .val (.int lo), .val (.int hi), .val (.int btw), .unset] [(.int (1 : Int32))])) _
          refine XS.goto X74.here hx rfl (pc0 := 189) (pc' := 193) rfl (hb hby at_189) (by decide) (by decide) ?_
          exact kt)
        rw [show cvx = (1 : Int32) from ((hcvx.trans (if_neg hc72)).trans (if_pos hc76))]
        exact ⟨T74, _, own_more X74 (by decide) (by decide), N74, e74, pre77⟩
      case neg =>
        obtain ⟨cq78, kq78, q78a, q78b, q78c⟩ := isOf hZ e74 c35
        obtain ⟨_, _, ⟨T78, L78, k78, n78⟩, -, X78, ⟨Lc78, hQ78, l78, y78, z78⟩, st78⟩ := X74.virtualBack hx (y := (⟨"com/example/digitwarden/digitwarden/model/IbanScheme", "acceptsLength", "(I)Z"⟩ : MethodName)) (z := (⟨"com/example/digitwarden/digitwarden/model/IbanScheme", "acceptsLength", "(I)Z"⟩ : MethodName)) hown (mvT hZ (hw _ (List.mem_of_getElem? (i := 29) rfl))) (mvT hZ (hw _ (List.mem_of_getElem? (i := 30) rfl))) (notFace_of_selects (args := #[]) (mvT hZ (hw _ (List.mem_of_getElem? (i := 32) rfl)))) (mvT hZ (hw _ (List.mem_of_getElem? (i := 32) rfl))) (mvT hZ (hw _ (List.mem_of_getElem? (i := 31) rfl))) (by decide) (backOf (W := 0) (rm5 l Z a0 hw [] b26 hi T32.heap n0 z33) hZ (hw _ (List.mem_of_getElem? (i := 33) rfl)) (hw _ (List.mem_of_getElem? (i := 2) rfl)) (by decide) (by decide)) q78a q78c (g := (mkF m 172 #[.val (.int p1), .val (.int p2), .val (.int p3), .val (.int p4), .val (.ref b26), .val (.int sm), .val (.int xx), .val (.int yy), .val (.int zz), .val (.int (1 : Int32)), .val (.int lo), .val (.int hi), .val (.int btw), .unset] [(.int hi), (.ref b26)])) rfl (by rw [hml]; rfl) (Steps.refl _) (argsL := [(.int hi)]) (rest := []) (lenOf pd_54 rfl) rfl (by show 2 * 0 + _ ≤ _; exact Nat.le_of_eq rfl) (hb hby at_172) (fun _ _ => ⟨rfl, e74, (by decide : 3 + 0 ≤ _), (by decide : 21 + 0 ≤ _)⟩)
        dsimp only [Pt.U, Pt.locs, Pt.cells, Pt.slots] at X78 l78 y78 z78 st78 hQ78
        subst l78 y78 z78
        obtain ⟨rfl, Nq78, e78⟩ := hQ78
        have N78 := Fr.app N74 Nq78
        have pre79 : ∀ t, Steps p.tables e below (T78.setTop (mkF m 175 #[.val (.int p1), .val (.int p2), .val (.int p3), .val (.int p4), .val (.ref b26), .val (.int sm), .val (.int xx), .val (.int yy), .val (.int zz), .val (.int (1 : Int32)), .val (.int lo), .val (.int hi), .val (.int btw), .unset] [(.int (if hi < (5 : Int32) then (0 : Int32) else (if (34 : Int32) < hi then (0 : Int32) else (1 : Int32))))])) t → Steps p.tables e below (s₁.setTop (entryFrame m #[(.int p1), (.int p2), (.int p3), (.int p4)] maxLocals)) t := fun t kt => pre75 t (by
          show Steps p.tables e below (T74.setTop (mkF m 165 #[.val (.int p1), .val (.int p2), .val (.int p3), .val (.int p4), .val (.ref b26), .val (.int sm), .val (.int xx), .val (.int yy), .val (.int zz), .val (.int (1 : Int32)), .val (.int lo), .val (.int hi), .val (.int btw), .unset] [(.int (if lo < (5 : Int32) then (0 : Int32) else (if (34 : Int32) < lo then (0 : Int32) else (1 : Int32))))])) _
          refine XS.ifNo X74.here hx rfl (hb hby at_165) rfl ((if0 _ _).trans (feq hc76).1) ?_
          show Steps p.tables e below (T74.setTop (mkF m 168 #[.val (.int p1), .val (.int p2), .val (.int p3), .val (.int p4), .val (.ref b26), .val (.int sm), .val (.int xx), .val (.int yy), .val (.int zz), .val (.int (1 : Int32)), .val (.int lo), .val (.int hi), .val (.int btw), .unset] [])) _
          refine XS.aload X74.here hx rfl (hb hby at_168) rfl rfl ?_
          show Steps p.tables e below (T74.setTop (mkF m 170 #[.val (.int p1), .val (.int p2), .val (.int p3), .val (.int p4), .val (.ref b26), .val (.int sm), .val (.int xx), .val (.int yy), .val (.int zz), .val (.int (1 : Int32)), .val (.int lo), .val (.int hi), .val (.int btw), .unset] [(.ref b26)])) _
          refine XS.iload X74.here hx rfl (hb hby at_170) rfl ?_
          show Steps p.tables e below (T74.setTop (mkF m 172 #[.val (.int p1), .val (.int p2), .val (.int p3), .val (.int p4), .val (.ref b26), .val (.int sm), .val (.int xx), .val (.int yy), .val (.int zz), .val (.int (1 : Int32)), .val (.int lo), .val (.int hi), .val (.int btw), .unset] [(.int hi), (.ref b26)])) _
          refine st78.trans ?_
          exact kt)
        by_cases hc80 : (if hi < (5 : Int32) then (0 : Int32) else (if (34 : Int32) < hi then (0 : Int32) else (1 : Int32))) = (0 : Int32)
        case pos =>
          have pre81 : ∀ t, Steps p.tables e below (T78.setTop (mkF m 193 #[.val (.int p1), .val (.int p2), .val (.int p3), .val (.int p4), .val (.ref b26), .val (.int sm), .val (.int xx), .val (.int yy), .val (.int zz), .val (.int (1 : Int32)), .val (.int lo), .val (.int hi), .val (.int btw), .unset] [(.int (1 : Int32))])) t → Steps p.tables e below (s₁.setTop (entryFrame m #[(.int p1), (.int p2), (.int p3), (.int p4)] maxLocals)) t := fun t kt => pre79 t (by
            show Steps p.tables e below (T78.setTop (mkF m 175 #[.val (.int p1), .val (.int p2), .val (.int p3), .val (.int p4), .val (.ref b26), .val (.int sm), .val (.int xx), .val (.int yy), .val (.int zz), .val (.int (1 : Int32)), .val (.int lo), .val (.int hi), .val (.int btw), .unset] [(.int (if hi < (5 : Int32) then (0 : Int32) else (if (34 : Int32) < hi then (0 : Int32) else (1 : Int32))))])) _
            refine XS.ifYes X78.here hx rfl (pc0 := 175) (pc' := 188) rfl (hb hby at_175) rfl ((if0 _ _).trans (teq hc80).1) (by decide) (by decide) ?_
            show Steps p.tables e below (T78.setTop (mkF m 188 #[.val (.int p1), .val (.int p2), .val (.int p3), .val (.int p4), .val (.ref b26), .val (.int sm), .val (.int xx), .val (.int yy), .val (.int zz), .val (.int (1 : Int32)), .val (.int lo), .val (.int hi), .val (.int btw), .unset] [])) _
            refine XS.iconst X78.here hx rfl (hb hby at_188) ?_
            show Steps p.tables e below (T78.setTop (mkF m 189 #[.val (.int p1), .val (.int p2), .val (.int p3), .val (.int p4), .val (.ref b26), .val (.int sm), .val (.int xx), .val (.int yy), .val (.int zz), .val (.int (1 : Int32)), .val (.int lo), .val (.int hi), .val (.int btw), .unset] [(.int (1 : Int32))])) _
            refine XS.goto X78.here hx rfl (pc0 := 189) (pc' := 193) rfl (hb hby at_189) (by decide) (by decide) ?_
            exact kt)
          rw [show cvx = (1 : Int32) from (((hcvx.trans (if_neg hc72)).trans (if_neg hc76)).trans (if_pos hc80))]
          exact ⟨T78, _, own_more X78 (by decide) (by decide), N78, e78, pre81⟩
        case neg =>
          obtain ⟨cq82, kq82, q82a, q82b, q82c⟩ := isOf hZ e78 c35
          obtain ⟨_, _, ⟨T82, L82, k82, n82⟩, -, X82, ⟨Lc82, hQ82, l82, y82, z82⟩, st82⟩ := X78.virtualBack hx (y := (⟨"com/example/digitwarden/digitwarden/model/IbanScheme", "acceptsLength", "(I)Z"⟩ : MethodName)) (z := (⟨"com/example/digitwarden/digitwarden/model/IbanScheme", "acceptsLength", "(I)Z"⟩ : MethodName)) hown (mvT hZ (hw _ (List.mem_of_getElem? (i := 29) rfl))) (mvT hZ (hw _ (List.mem_of_getElem? (i := 30) rfl))) (notFace_of_selects (args := #[]) (mvT hZ (hw _ (List.mem_of_getElem? (i := 32) rfl)))) (mvT hZ (hw _ (List.mem_of_getElem? (i := 32) rfl))) (mvT hZ (hw _ (List.mem_of_getElem? (i := 31) rfl))) (by decide) (backOf (W := 0) (rm5 l Z a0 hw [] b26 yy T32.heap n0 z33) hZ (hw _ (List.mem_of_getElem? (i := 33) rfl)) (hw _ (List.mem_of_getElem? (i := 2) rfl)) (by decide) (by decide)) q82a q82c (g := (mkF m 182 #[.val (.int p1), .val (.int p2), .val (.int p3), .val (.int p4), .val (.ref b26), .val (.int sm), .val (.int xx), .val (.int yy), .val (.int zz), .val (.int (1 : Int32)), .val (.int lo), .val (.int hi), .val (.int btw), .unset] [(.int yy), (.ref b26)])) rfl (by rw [hml]; rfl) (Steps.refl _) (argsL := [(.int yy)]) (rest := []) (lenOf pd_54 rfl) rfl (by show 2 * 0 + _ ≤ _; exact Nat.le_of_eq rfl) (hb hby at_182) (fun _ _ => ⟨rfl, e78, (by decide : 3 + 0 ≤ _), (by decide : 21 + 0 ≤ _)⟩)
          dsimp only [Pt.U, Pt.locs, Pt.cells, Pt.slots] at X82 l82 y82 z82 st82 hQ82
          subst l82 y82 z82
          obtain ⟨rfl, Nq82, e82⟩ := hQ82
          have N82 := Fr.app N78 Nq82
          have pre83 : ∀ t, Steps p.tables e below (T82.setTop (mkF m 185 #[.val (.int p1), .val (.int p2), .val (.int p3), .val (.int p4), .val (.ref b26), .val (.int sm), .val (.int xx), .val (.int yy), .val (.int zz), .val (.int (1 : Int32)), .val (.int lo), .val (.int hi), .val (.int btw), .unset] [(.int (if yy < (5 : Int32) then (0 : Int32) else (if (34 : Int32) < yy then (0 : Int32) else (1 : Int32))))])) t → Steps p.tables e below (s₁.setTop (entryFrame m #[(.int p1), (.int p2), (.int p3), (.int p4)] maxLocals)) t := fun t kt => pre79 t (by
            show Steps p.tables e below (T78.setTop (mkF m 175 #[.val (.int p1), .val (.int p2), .val (.int p3), .val (.int p4), .val (.ref b26), .val (.int sm), .val (.int xx), .val (.int yy), .val (.int zz), .val (.int (1 : Int32)), .val (.int lo), .val (.int hi), .val (.int btw), .unset] [(.int (if hi < (5 : Int32) then (0 : Int32) else (if (34 : Int32) < hi then (0 : Int32) else (1 : Int32))))])) _
            refine XS.ifNo X78.here hx rfl (hb hby at_175) rfl ((if0 _ _).trans (feq hc80).1) ?_
            show Steps p.tables e below (T78.setTop (mkF m 178 #[.val (.int p1), .val (.int p2), .val (.int p3), .val (.int p4), .val (.ref b26), .val (.int sm), .val (.int xx), .val (.int yy), .val (.int zz), .val (.int (1 : Int32)), .val (.int lo), .val (.int hi), .val (.int btw), .unset] [])) _
            refine XS.aload X78.here hx rfl (hb hby at_178) rfl rfl ?_
            show Steps p.tables e below (T78.setTop (mkF m 180 #[.val (.int p1), .val (.int p2), .val (.int p3), .val (.int p4), .val (.ref b26), .val (.int sm), .val (.int xx), .val (.int yy), .val (.int zz), .val (.int (1 : Int32)), .val (.int lo), .val (.int hi), .val (.int btw), .unset] [(.ref b26)])) _
            refine XS.iload X78.here hx rfl (hb hby at_180) rfl ?_
            show Steps p.tables e below (T78.setTop (mkF m 182 #[.val (.int p1), .val (.int p2), .val (.int p3), .val (.int p4), .val (.ref b26), .val (.int sm), .val (.int xx), .val (.int yy), .val (.int zz), .val (.int (1 : Int32)), .val (.int lo), .val (.int hi), .val (.int btw), .unset] [(.int yy), (.ref b26)])) _
            refine st82.trans ?_
            exact kt)
          by_cases hc84 : (if yy < (5 : Int32) then (0 : Int32) else (if (34 : Int32) < yy then (0 : Int32) else (1 : Int32))) = (0 : Int32)
          case pos =>
            have pre85 : ∀ t, Steps p.tables e below (T82.setTop (mkF m 193 #[.val (.int p1), .val (.int p2), .val (.int p3), .val (.int p4), .val (.ref b26), .val (.int sm), .val (.int xx), .val (.int yy), .val (.int zz), .val (.int (1 : Int32)), .val (.int lo), .val (.int hi), .val (.int btw), .unset] [(.int (0 : Int32))])) t → Steps p.tables e below (s₁.setTop (entryFrame m #[(.int p1), (.int p2), (.int p3), (.int p4)] maxLocals)) t := fun t kt => pre83 t (by
              show Steps p.tables e below (T82.setTop (mkF m 185 #[.val (.int p1), .val (.int p2), .val (.int p3), .val (.int p4), .val (.ref b26), .val (.int sm), .val (.int xx), .val (.int yy), .val (.int zz), .val (.int (1 : Int32)), .val (.int lo), .val (.int hi), .val (.int btw), .unset] [(.int (if yy < (5 : Int32) then (0 : Int32) else (if (34 : Int32) < yy then (0 : Int32) else (1 : Int32))))])) _
              refine XS.ifYes X82.here hx rfl (pc0 := 185) (pc' := 192) rfl (hb hby at_185) rfl ((if0 _ _).trans (teq hc84).1) (by decide) (by decide) ?_
              show Steps p.tables e below (T82.setTop (mkF m 192 #[.val (.int p1), .val (.int p2), .val (.int p3), .val (.int p4), .val (.ref b26), .val (.int sm), .val (.int xx), .val (.int yy), .val (.int zz), .val (.int (1 : Int32)), .val (.int lo), .val (.int hi), .val (.int btw), .unset] [])) _
              refine XS.iconst X82.here hx rfl (hb hby at_192) ?_
              exact kt)
            rw [show cvx = (0 : Int32) from ((((hcvx.trans (if_neg hc72)).trans (if_neg hc76)).trans (if_neg hc80)).trans (if_pos hc84))]
            exact ⟨T82, _, own_more X82 (by decide) (by decide), N82, e82, pre85⟩
          case neg =>
            have pre86 : ∀ t, Steps p.tables e below (T82.setTop (mkF m 193 #[.val (.int p1), .val (.int p2), .val (.int p3), .val (.int p4), .val (.ref b26), .val (.int sm), .val (.int xx), .val (.int yy), .val (.int zz), .val (.int (1 : Int32)), .val (.int lo), .val (.int hi), .val (.int btw), .unset] [(.int (1 : Int32))])) t → Steps p.tables e below (s₁.setTop (entryFrame m #[(.int p1), (.int p2), (.int p3), (.int p4)] maxLocals)) t := fun t kt => pre83 t (by
              show Steps p.tables e below (T82.setTop (mkF m 185 #[.val (.int p1), .val (.int p2), .val (.int p3), .val (.int p4), .val (.ref b26), .val (.int sm), .val (.int xx), .val (.int yy), .val (.int zz), .val (.int (1 : Int32)), .val (.int lo), .val (.int hi), .val (.int btw), .unset] [(.int (if yy < (5 : Int32) then (0 : Int32) else (if (34 : Int32) < yy then (0 : Int32) else (1 : Int32))))])) _
              refine XS.ifNo X82.here hx rfl (hb hby at_185) rfl ((if0 _ _).trans (feq hc84).1) ?_
              show Steps p.tables e below (T82.setTop (mkF m 188 #[.val (.int p1), .val (.int p2), .val (.int p3), .val (.int p4), .val (.ref b26), .val (.int sm), .val (.int xx), .val (.int yy), .val (.int zz), .val (.int (1 : Int32)), .val (.int lo), .val (.int hi), .val (.int btw), .unset] [])) _
              refine XS.iconst X82.here hx rfl (hb hby at_188) ?_
              show Steps p.tables e below (T82.setTop (mkF m 189 #[.val (.int p1), .val (.int p2), .val (.int p3), .val (.int p4), .val (.ref b26), .val (.int sm), .val (.int xx), .val (.int yy), .val (.int zz), .val (.int (1 : Int32)), .val (.int lo), .val (.int hi), .val (.int btw), .unset] [(.int (1 : Int32))])) _
              refine XS.goto X82.here hx rfl (pc0 := 189) (pc' := 193) rfl (hb hby at_189) (by decide) (by decide) ?_
              exact kt)
            rw [show cvx = (1 : Int32) from ((((hcvx.trans (if_neg hc72)).trans (if_neg hc76)).trans (if_neg hc80)).trans (if_neg hc84))]
            exact ⟨T82, _, own_more X82 (by decide) (by decide), N82, e82, pre86⟩
  have hfin : ¬ (cvx = (0 : Int32)) := own_law xx yy zz lo hi btw cvx hlo hhi hbtw hcvx
  have pre88 : ∀ t, Steps p.tables e below (T87.setTop (mkF m 210 #[.val (.int p1), .val (.int p2), .val (.int p3), .val (.int p4), .val (.ref b26), .val (.int sm), .val (.int xx), .val (.int yy), .val (.int zz), .val (.int (1 : Int32)), .val (.int lo), .val (.int hi), .val (.int btw), .val (.int cvx)] [(.int (1 : Int32))])) t → Steps p.tables e below (s₁.setTop (entryFrame m #[(.int p1), (.int p2), (.int p3), (.int p4)] maxLocals)) t := fun t kt => pre87 t (by
    show Steps p.tables e below (T87.setTop (mkF m 193 #[.val (.int p1), .val (.int p2), .val (.int p3), .val (.int p4), .val (.ref b26), .val (.int sm), .val (.int xx), .val (.int yy), .val (.int zz), .val (.int (1 : Int32)), .val (.int lo), .val (.int hi), .val (.int btw), .unset] [(.int cvx)])) _
    refine XS.istore X87.here hx rfl (hb hby at_193) rfl (l' := #[.val (.int p1), .val (.int p2), .val (.int p3), .val (.int p4), .val (.ref b26), .val (.int sm), .val (.int xx), .val (.int yy), .val (.int zz), .val (.int (1 : Int32)), .val (.int lo), .val (.int hi), .val (.int btw), .val (.int cvx)]) rfl ?_
    show Steps p.tables e below (T87.setTop (mkF m 195 #[.val (.int p1), .val (.int p2), .val (.int p3), .val (.int p4), .val (.ref b26), .val (.int sm), .val (.int xx), .val (.int yy), .val (.int zz), .val (.int (1 : Int32)), .val (.int lo), .val (.int hi), .val (.int btw), .val (.int cvx)] [])) _
    refine XS.iload X87.here hx rfl (hb hby at_195) rfl ?_
    show Steps p.tables e below (T87.setTop (mkF m 197 #[.val (.int p1), .val (.int p2), .val (.int p3), .val (.int p4), .val (.ref b26), .val (.int sm), .val (.int xx), .val (.int yy), .val (.int zz), .val (.int (1 : Int32)), .val (.int lo), .val (.int hi), .val (.int btw), .val (.int cvx)] [(.int (1 : Int32))])) _
    refine XS.ifNo X87.here hx rfl (hb hby at_197) rfl ((if0 _ _).trans (feq (by decide : ¬ ((1 : Int32) = (0 : Int32)))).1) ?_
    show Steps p.tables e below (T87.setTop (mkF m 200 #[.val (.int p1), .val (.int p2), .val (.int p3), .val (.int p4), .val (.ref b26), .val (.int sm), .val (.int xx), .val (.int yy), .val (.int zz), .val (.int (1 : Int32)), .val (.int lo), .val (.int hi), .val (.int btw), .val (.int cvx)] [])) _
    refine XS.iload X87.here hx rfl (hb hby at_200) rfl ?_
    show Steps p.tables e below (T87.setTop (mkF m 202 #[.val (.int p1), .val (.int p2), .val (.int p3), .val (.int p4), .val (.ref b26), .val (.int sm), .val (.int xx), .val (.int yy), .val (.int zz), .val (.int (1 : Int32)), .val (.int lo), .val (.int hi), .val (.int btw), .val (.int cvx)] [(.int cvx)])) _
    refine XS.ifNo X87.here hx rfl (hb hby at_202) rfl ((if0 _ _).trans (feq hfin).1) ?_
    show Steps p.tables e below (T87.setTop (mkF m 205 #[.val (.int p1), .val (.int p2), .val (.int p3), .val (.int p4), .val (.ref b26), .val (.int sm), .val (.int xx), .val (.int yy), .val (.int zz), .val (.int (1 : Int32)), .val (.int lo), .val (.int hi), .val (.int btw), .val (.int cvx)] [])) _
    refine XS.iconst X87.here hx rfl (hb hby at_205) ?_
    show Steps p.tables e below (T87.setTop (mkF m 206 #[.val (.int p1), .val (.int p2), .val (.int p3), .val (.int p4), .val (.ref b26), .val (.int sm), .val (.int xx), .val (.int yy), .val (.int zz), .val (.int (1 : Int32)), .val (.int lo), .val (.int hi), .val (.int btw), .val (.int cvx)] [(.int (1 : Int32))])) _
    refine XS.goto X87.here hx rfl (pc0 := 206) (pc' := 210) rfl (hb hby at_206) (by decide) (by decide) ?_
    exact kt)
  exact own_retNW X87 hS (by rw [e87]; exact kz34) hx Bd.notSynchronized (t := .boolean) Bd.returns (by simp) (hb hby at_210) pre88 (show Q0 h0 n0 _ _ _ from ⟨rfl, N87⟩) (by decide) (by decide)
set_option maxRecDepth 65536 in
set_option maxHeartbeats 40000000 in
theorem comes_1 {Post : Tables → Env → Array Value → State → Outcome → State → Prop} (hpost : ∀ tb e args s v u, (limb_1_1.after args s (.returned v) u = true ∧ limb_1_2.after args s (.returned v) u = true ∧ True) → ReturnedEndW s (.returned v) u (Jvm.fieldLocs frame_1_writes args s ++ Jvm.arrayLocs frame_1_arrays args s ++ Jvm.staticLocs frame_1_statics s) 16 1152 → Post tb e args s (.returned v) u) :
    ArmFor flags0 classFile x code maxLocals ret World_1 tables_1 room_1 Calls_1 rest_1 Pre_1 Post := by
  intro l hfl _ _ p e ha hc hk s m args below hf hA hF happ hP
  obtain ⟨hcalls, hrest, hpre⟩ := hP
  obtain ⟨-, -, -, hnamed, -, -, -, hat⟩ := (Spec.applies_iff hf).mp happ
  obtain ⟨hg, hn⟩ := and_e (Cond.before_iff.mp (show (Jvm.Cond.and given_1 narrow_1).before args s = true from hpre))
  obtain ⟨g1a, g1b⟩ := and_e hg
  obtain ⟨g2a, g2b⟩ := and_e g1b
  obtain ⟨g3a, g3b⟩ := and_e g2b
  obtain ⟨g4a, g4b⟩ := and_e g3b
  obtain ⟨w0, w1, w2, w3, rfl⟩ : ∃ w0 w1 w2 w3 : Value, args = #[w0, w1, w2, w3] := by
    have hs : args.size = 4 := by simpa [Cond.value, given_1] using g1a
    obtain ⟨L⟩ := args
    match L, hs with
    | [w0, w1, w2, w3], _ => exact ⟨w0, w1, w2, w3, rfl⟩
  have hw := fun d (hd : d ∈ tables_1) => atoms_spec (ws := Jvm.Cond.code x code maxLocals ret :: tables_1) hat d (List.mem_cons_of_mem _ hd)
  have hfit : Fit s := fun {y c} hc i hi => by
    obtain ⟨ha, rfl⟩ := Array.getElem?_eq_some_iff.mp hc
    have q := List.all_eq_true.mp ((Array.all_eq_true_iff_forall_mem.mp hF) _ (Array.getElem_mem ha)) i (List.mem_range.mpr hi)
    simpa [Array.getElem?_eq_getElem hi] using q
  obtain ⟨i0, ei0⟩ := is_v g2a
  obtain rfl : w0 = (.int i0) := Option.some.inj ei0
  obtain ⟨i1, ei1⟩ := is_v g3a
  obtain rfl : w1 = (.int i1) := Option.some.inj ei1
  obtain ⟨i2, ei2⟩ := is_v g4a
  obtain rfl : w2 = (.int i2) := Option.some.inj ei2
  obtain ⟨i3, ei3⟩ := is_v g4b
  obtain rfl : w3 = (.int i3) := Option.some.inj ei3
  obtain ⟨n, o, h1, h2, h3, _, L, rfl, ⟨rfl, N⟩, hq⟩ := rm0 l s _ hw tables_1 i0 i1 i2 i3 s.heap s.heap.size (Nat.le_refl _) p e ha hc hk s m _ below hf ((Spec.applies_iff_loose hf).mp happ).1 ⟨rfl, State.Warmed39.refl s, rfl⟩ trivial
  refine ⟨n, _, h1, h2, h3, hpost _ _ _ _ _ _ ⟨Cond.after_iff.mpr rfl, Cond.after_iff.mpr (eq_i res_at (Term.int_eval (1)) rfl), trivial⟩ ⟨hq.1, hq.2.1, hq.2.2.1, (hq.2.2.2.sift fun y hy => Or.inr (N y hy)).mono (by decide) (by decide)⟩⟩
theorem main_1_1 : Claimed_1_1 := comes_1 fun _ _ _ _ _ _ h hF => ⟨h.1, hF⟩
theorem main_1_2 : Claimed_1_2 := comes_1 fun _ _ _ _ _ _ h hF => ⟨h.2.1, hF⟩
end Jvm.Pilot.@@N@@
namespace Jvm.Pilot.@@N@@
open Jvm Jvm.ClassFile Sem Op Lib Jvm.Free Jvm.Stand Jvm.Pilot.@@N@@.Jvm.D
/-! MADE BY PROGRAM (witnessworld.py) out of the Statement's table words and the real class files: 16 classes; the members and pool entries that the words name. The judged class is class 1, her method 2. -/
namespace start1
open Jvm.ClassFile
def u (s : String) : CpInfo := .utf8 (stringToUtf16 s)
/-- a pool by its gaps: so many unusable entries, then the entry; so many at the end -/
def gap : Nat → List CpInfo → List CpInfo
  | 0, r => r
  | n + 1, r => .unusable :: gap n r
def poolList (es : List (Nat × CpInfo)) (last : Nat) : List CpInfo := es.foldr (fun e r => gap e.1 (e.2 :: r)) (gap last [])
def pool (es : List (Nat × CpInfo)) (last : Nat) : Array CpInfo := ⟨poolList es last⟩
def fileOf (pool : Array CpInfo) (this : Nat) (attrs : Array Attribute := #[]) (ms : Array MethodInfo := #[]) (fl : Nat := 33) (sup : Nat := 0) (ifs : Array Nat := #[]) (fds : Array FieldInfo := #[]) : ClassFile where
  minorVersion := 0
  majorVersion := 65
  constantPool := pool
  accessFlags := fl
  thisClass := this
  superClass := sup
  interfaces := ifs
  fields := fds
  methods := ms
  attributes := attrs
def plain (name : String) (sup : Option ClassId) : Class where
  name := name
  kind := .ordinary
  loader := none
  accessFlags := 33
  super := sup
  interfaces := #[]
  cf := none
  fields := #[]
  methods := #[]
  instanceTypes := #[]
  staticTypes := #[]
  resolved := #[]
  callSites := []
  init := .initialized
  statics := none
  mirror := none

def pool0 : Array CpInfo := pool [(5, u "<init>"), (0, u "()V"), (1, .class_ 10), (1, u "java/lang/Object")] 113

def k0c0 : Code := { maxStack := 0, maxLocals := 1, code := object_method_1_code, exceptionTable := #[], attributes := #[] }
def k0m0 : Method := { name := "<init>", desc := "()V", sig := { parameters := [], returnType := none }, accessFlags := 1, code := some k0c0 }
/-- java/lang/Object -/
def k0 : Class := { plain "java/lang/Object" none with
  accessFlags := 33
  interfaces := #[]
  cf := some (fileOf pool0 8 #[] #[{ accessFlags := 1, nameIndex := 5, descriptorIndex := 6, attributes := #[] }] 33 0 #[] #[])
  fields := #[]
  methods := #[k0m0]
  instanceTypes := #[]
  staticTypes := #[]
  resolved := Array.replicate 124 none
  statics := none }

def pool1 : Array CpInfo := pool [(2, .class_ 4), (1, u "java/lang/Object"), (0, u "<init>"), (0, u "()V"), (0, .integer 2147483647), (0, .class_ 9), (0, u "com/example/digitwarden/digitwarden/model/IbanScheme"), (0, .string 11), (0, u "iban"), (0, .methodref 8 13), (0, .nameAndType 5 14), (0, u "(Ljava/lang/String;)V"), (0, .methodref 16 17), (0, .class_ 18), (0, .nameAndType 19 20), (0, u "com/example/digitwarden/digitwarden/model/IbanSchemeAcceptsLengthPinLaw"), (0, u "near"), (0, u "(I)I"), (0, .methodref 8 22), (0, .nameAndType 23 24), (0, u "acceptsLength"), (0, u "(I)Z"), (0, .methodref 26 27), (0, .class_ 28), (0, .nameAndType 29 30), (0, u "java/lang/Math"), (0, u "min"), (0, u "(II)I"), (0, .methodref 26 32), (0, .nameAndType 33 30), (0, u "max"), (2, u "law"), (0, u "(IIII)Z")] 3

def k1m0 : Method := { name := "<init>", desc := "()V", sig := { parameters := [], returnType := none }, accessFlags := 2, code := none }
def k1c1 : Code := { maxStack := 2, maxLocals := 1, code := method_2_code, exceptionTable := #[], attributes := #[] }
def k1m1 : Method := { name := "near", desc := "(I)I", sig := { parameters := [.int], returnType := some .int }, accessFlags := 10, code := some k1c1 }
def k1c2 : Code := { maxStack := 3, maxLocals := 14, code := code, exceptionTable := #[], attributes := #[] }
def k1m2 : Method := { name := "law", desc := "(IIII)Z", sig := { parameters := [.int, .int, .int, .int], returnType := some .boolean }, accessFlags := 9, code := some k1c2 }
/-- com/example/digitwarden/digitwarden/model/IbanSchemeAcceptsLengthPinLaw -/
def k1 : Class := { plain "com/example/digitwarden/digitwarden/model/IbanSchemeAcceptsLengthPinLaw" (some 0) with
  accessFlags := 49
  interfaces := #[]
  cf := some (fileOf pool1 16 #[] #[{ accessFlags := 2, nameIndex := 5, descriptorIndex := 6, attributes := #[] }, { accessFlags := 10, nameIndex := 19, descriptorIndex := 20, attributes := #[] }, { accessFlags := 9, nameIndex := 36, descriptorIndex := 37, attributes := #[] }] 49 2 #[] #[])
  fields := #[]
  methods := #[k1m0, k1m1, k1m2]
  instanceTypes := #[]
  staticTypes := #[]
  resolved := Array.replicate 41 none
  statics := none }

def pool2 : Array CpInfo := pool [(1, .methodref 2 3), (0, .class_ 4), (0, .nameAndType 5 6), (0, u "java/lang/Object"), (0, u "<init>"), (0, u "()V"), (0, .fieldref 8 9), (0, .class_ 10), (0, .nameAndType 11 12), (0, u "com/example/digitwarden/digitwarden/model/Scheme"), (0, u "_name"), (0, u "Ljava/lang/String;"), (12, u "(Ljava/lang/String;)V"), (53, u "ALL_READ"), (0, u "I")] 39

def k2c0 : Code := { maxStack := 2, maxLocals := 2, code := prog_34_method_1_code, exceptionTable := #[], attributes := #[] }
def k2m0 : Method := { name := "<init>", desc := "(Ljava/lang/String;)V", sig := { parameters := [(.object "java/lang/String")], returnType := none }, accessFlags := 4, code := some k2c0 }
/-- com/example/digitwarden/digitwarden/model/Scheme -/
def k2 : Class := { plain "com/example/digitwarden/digitwarden/model/Scheme" (some 0) with
  accessFlags := 1057
  interfaces := #[]
  cf := some (fileOf pool2 8 #[] #[{ accessFlags := 4, nameIndex := 5, descriptorIndex := 25, attributes := #[] }] 1057 2 #[] #[{ accessFlags := 25, nameIndex := 79, descriptorIndex := 80, attributes := #[] }, { accessFlags := 18, nameIndex := 11, descriptorIndex := 12, attributes := #[] }])
  fields := #[{ name := "ALL_READ", type := .int, accessFlags := 25, slot := 0, constantValue := 0 }, { name := "_name", type := (.object "java/lang/String"), accessFlags := 18, slot := 0, constantValue := 0 }]
  methods := #[k2m0]
  instanceTypes := #[(.object "java/lang/String")]
  staticTypes := #[.int]
  resolved := Array.replicate 120 none
  statics := none }

def pool3 : Array CpInfo := pool [(1, .class_ 2), (0, u "com/example/digitwarden/digitwarden/model/IbanScheme"), (0, .methodref 4 5), (0, .class_ 6), (0, .nameAndType 7 8), (0, u "com/example/digitwarden/digitwarden/model/Scheme"), (0, u "<init>"), (0, u "(Ljava/lang/String;)V"), (19, u "(I)Z"), (28, u "acceptsLength"), (4, u "MIN_LENGTH"), (0, u "I"), (2, u "MAX_LENGTH"), (1, u "CHECK_POSITION"), (1, u "CHECK_LENGTH"), (0, u "MODULUS"), (1, u "LOWEST_CHECK"), (0, u "HIGHEST_CHECK"), (1, u "LETTER_VALUE"), (1, u "HEAD_LENGTH"), (1, u "REDUCED_BELOW"), (0, u "J")] 13

def k3c0 : Code := { maxStack := 2, maxLocals := 2, code := prog_28_method_1_code, exceptionTable := #[], attributes := #[] }
def k3m0 : Method := { name := "<init>", desc := "(Ljava/lang/String;)V", sig := { parameters := [(.object "java/lang/String")], returnType := none }, accessFlags := 1, code := some k3c0 }
def k3c1 : Code := { maxStack := 2, maxLocals := 2, code := prog_28_method_2_code, exceptionTable := #[], attributes := #[] }
def k3m1 : Method := { name := "acceptsLength", desc := "(I)Z", sig := { parameters := [.int], returnType := some .boolean }, accessFlags := 1, code := some k3c1 }
/-- com/example/digitwarden/digitwarden/model/IbanScheme -/
def k3 : Class := { plain "com/example/digitwarden/digitwarden/model/IbanScheme" (some 2) with
  accessFlags := 49
  interfaces := #[]
  cf := some (fileOf pool3 1 #[] #[{ accessFlags := 1, nameIndex := 7, descriptorIndex := 8, attributes := #[] }, { accessFlags := 1, nameIndex := 57, descriptorIndex := 28, attributes := #[] }] 49 4 #[] #[{ accessFlags := 26, nameIndex := 62, descriptorIndex := 63, attributes := #[] }, { accessFlags := 26, nameIndex := 66, descriptorIndex := 63, attributes := #[] }, { accessFlags := 26, nameIndex := 68, descriptorIndex := 63, attributes := #[] }, { accessFlags := 26, nameIndex := 70, descriptorIndex := 63, attributes := #[] }, { accessFlags := 26, nameIndex := 71, descriptorIndex := 63, attributes := #[] }, { accessFlags := 26, nameIndex := 73, descriptorIndex := 63, attributes := #[] }, { accessFlags := 26, nameIndex := 74, descriptorIndex := 63, attributes := #[] }, { accessFlags := 26, nameIndex := 76, descriptorIndex := 63, attributes := #[] }, { accessFlags := 26, nameIndex := 78, descriptorIndex := 63, attributes := #[] }, { accessFlags := 26, nameIndex := 80, descriptorIndex := 81, attributes := #[] }])
  fields := #[{ name := "MIN_LENGTH", type := .int, accessFlags := 26, slot := 0, constantValue := 0 }, { name := "MAX_LENGTH", type := .int, accessFlags := 26, slot := 1, constantValue := 0 }, { name := "CHECK_POSITION", type := .int, accessFlags := 26, slot := 2, constantValue := 0 }, { name := "CHECK_LENGTH", type := .int, accessFlags := 26, slot := 3, constantValue := 0 }, { name := "MODULUS", type := .int, accessFlags := 26, slot := 4, constantValue := 0 }, { name := "LOWEST_CHECK", type := .int, accessFlags := 26, slot := 5, constantValue := 0 }, { name := "HIGHEST_CHECK", type := .int, accessFlags := 26, slot := 6, constantValue := 0 }, { name := "LETTER_VALUE", type := .int, accessFlags := 26, slot := 7, constantValue := 0 }, { name := "HEAD_LENGTH", type := .int, accessFlags := 26, slot := 8, constantValue := 0 }, { name := "REDUCED_BELOW", type := .long, accessFlags := 26, slot := 9, constantValue := 0 }]
  methods := #[k3m0, k3m1]
  instanceTypes := #[(.object "java/lang/String")]
  staticTypes := #[.int, .int, .int, .int, .int, .int, .int, .int, .int, .long]
  resolved := Array.replicate 95 none
  statics := none }

def pool4 : Array CpInfo := pool [(1, .class_ 2), (0, u "java/io/Serializable"), (0, .class_ 4), (0, u "java/lang/Object")] 2

/-- java/io/Serializable -/
def k4 : Class := { plain "java/io/Serializable" (some 0) with
  accessFlags := 1537
  interfaces := #[]
  cf := some (fileOf pool4 1 #[] #[] 1537 3 #[] #[])
  fields := #[]
  methods := #[]
  instanceTypes := #[]
  staticTypes := #[]
  resolved := Array.replicate 7 none
  statics := none }

def pool5 : Array CpInfo := pool [(1, .class_ 2), (0, u "java/lang/Comparable"), (0, .class_ 4), (0, u "java/lang/Object")] 7

/-- java/lang/Comparable -/
def k5 : Class := { plain "java/lang/Comparable" (some 0) with
  accessFlags := 1537
  interfaces := #[]
  cf := some (fileOf pool5 1 #[] #[] 1537 3 #[] #[])
  fields := #[]
  methods := #[]
  instanceTypes := #[]
  staticTypes := #[]
  resolved := Array.replicate 12 none
  statics := none }

def pool6 : Array CpInfo := pool [(2, .class_ 4), (1, u "java/lang/CharSequence"), (42, .class_ 48), (0, u "java/lang/CharSequence$1CodePointIterator"), (10, .class_ 60), (0, u "java/lang/CharSequence$1CharIterator"), (5, .class_ 67), (0, u "java/lang/Object")] 63

/-- java/lang/CharSequence -/
def k6 : Class := { plain "java/lang/CharSequence" (some 0) with
  accessFlags := 1537
  interfaces := #[]
  cf := some (fileOf pool6 2 #[.nestMembers #[47, 59]] #[] 1537 66 #[] #[])
  fields := #[]
  methods := #[]
  instanceTypes := #[]
  staticTypes := #[]
  resolved := Array.replicate 131 none
  statics := none }

def pool7 : Array CpInfo := pool [(1, .class_ 2), (0, u "java/lang/constant/Constable"), (0, .class_ 4), (0, u "java/lang/Object")] 6

/-- java/lang/constant/Constable -/
def k7 : Class := { plain "java/lang/constant/Constable" (some 0) with
  accessFlags := 1537
  interfaces := #[]
  cf := some (fileOf pool7 1 #[] #[] 1537 3 #[] #[])
  fields := #[]
  methods := #[]
  instanceTypes := #[]
  staticTypes := #[]
  resolved := Array.replicate 11 none
  statics := none }

def pool8 : Array CpInfo := pool [(1, .class_ 2), (0, u "java/lang/constant/ConstantDesc"), (0, .class_ 4), (0, u "java/lang/Object")] 32

/-- java/lang/constant/ConstantDesc -/
def k8 : Class := { plain "java/lang/constant/ConstantDesc" (some 0) with
  accessFlags := 1537
  interfaces := #[]
  cf := some (fileOf pool8 1 #[] #[] 1537 3 #[] #[])
  fields := #[]
  methods := #[]
  instanceTypes := #[]
  staticTypes := #[]
  resolved := Array.replicate 37 none
  statics := none }

def pool9 : Array CpInfo := pool [(2, .class_ 4), (1, u "java/lang/Object"), (0, u "<init>"), (0, u "()V"), (3, .class_ 12), (1, u "java/lang/String"), (0, u "value"), (0, u "[B"), (2, u "coder"), (0, u "B"), (2, u "hash"), (0, u "I"), (2, u "hashIsZero"), (0, u "Z"), (13, u "COMPACT_STRINGS"), (534, .class_ 576), (0, u "java/lang/CharSequence"), (22, u "CASE_INSENSITIVE_ORDER"), (0, u "Ljava/util/Comparator;"), (500, u "serialPersistentFields"), (0, u "[Ljava/io/ObjectStreamField;"), (0, .class_ 1104), (0, u "java/lang/String$CaseInsensitiveComparator"), (1, .class_ 1107), (0, u "java/io/Serializable"), (0, .class_ 1109), (0, u "java/lang/Comparable"), (0, .class_ 1111), (0, u "java/lang/constant/Constable"), (0, .class_ 1113), (0, u "java/lang/constant/ConstantDesc"), (2, u "serialVersionUID"), (0, u "J"), (3, u "REPL"), (0, u "C"), (2, u "LATIN1"), (1, u "UTF16")] 323

def k9m0 : Method := { name := "<init>", desc := "()V", sig := { parameters := [], returnType := none }, accessFlags := 1, code := none }
/-- java/lang/String -/
def k9 : Class := { plain "java/lang/String" (some 0) with
  accessFlags := 49
  interfaces := #[4, 5, 6, 7, 8]
  cf := some (fileOf pool9 10 #[.nestMembers #[1103]] #[{ accessFlags := 1, nameIndex := 5, descriptorIndex := 6, attributes := #[] }] 49 2 #[1106, 1108, 575, 1110, 1112] #[{ accessFlags := 18, nameIndex := 13, descriptorIndex := 14, attributes := #[] }, { accessFlags := 18, nameIndex := 17, descriptorIndex := 18, attributes := #[] }, { accessFlags := 2, nameIndex := 21, descriptorIndex := 22, attributes := #[] }, { accessFlags := 2, nameIndex := 25, descriptorIndex := 26, attributes := #[] }, { accessFlags := 26, nameIndex := 1116, descriptorIndex := 1117, attributes := #[] }, { accessFlags := 24, nameIndex := 40, descriptorIndex := 26, attributes := #[] }, { accessFlags := 26, nameIndex := 1101, descriptorIndex := 1102, attributes := #[] }, { accessFlags := 26, nameIndex := 1121, descriptorIndex := 1122, attributes := #[] }, { accessFlags := 25, nameIndex := 599, descriptorIndex := 600, attributes := #[] }, { accessFlags := 24, nameIndex := 1125, descriptorIndex := 18, attributes := #[] }, { accessFlags := 24, nameIndex := 1127, descriptorIndex := 18, attributes := #[] }])
  fields := #[{ name := "value", type := (.array .byte), accessFlags := 18, slot := 0, constantValue := 0 }, { name := "coder", type := .byte, accessFlags := 18, slot := 1, constantValue := 0 }, { name := "hash", type := .int, accessFlags := 2, slot := 2, constantValue := 0 }, { name := "hashIsZero", type := .boolean, accessFlags := 2, slot := 3, constantValue := 0 }, { name := "serialVersionUID", type := .long, accessFlags := 26, slot := 0, constantValue := 0 }, { name := "COMPACT_STRINGS", type := .boolean, accessFlags := 24, slot := 1, constantValue := 0 }, { name := "serialPersistentFields", type := (.array (.object "java/io/ObjectStreamField")), accessFlags := 26, slot := 2, constantValue := 0 }, { name := "REPL", type := .char, accessFlags := 26, slot := 3, constantValue := 0 }, { name := "CASE_INSENSITIVE_ORDER", type := (.object "java/util/Comparator"), accessFlags := 25, slot := 4, constantValue := 0 }, { name := "LATIN1", type := .byte, accessFlags := 24, slot := 5, constantValue := 0 }, { name := "UTF16", type := .byte, accessFlags := 24, slot := 6, constantValue := 0 }]
  methods := #[k9m0]
  instanceTypes := #[(.array .byte), .byte, .int, .boolean]
  staticTypes := #[.long, .boolean, (.array (.object "java/io/ObjectStreamField")), .char, (.object "java/util/Comparator"), .byte, .byte]
  resolved := Array.replicate 1451 none
  statics := none }

def pool10 : Array CpInfo := pool [(1, .class_ 2), (0, u "java/lang/Math"), (1, .class_ 6), (1, u "java/lang/Object"), (0, u "<init>"), (0, u "()V"), (89, .class_ 100), (1, u "java/lang/Math$RandomNumberGeneratorHolder"), (71, u "negativeZeroFloatBits"), (0, u "J"), (2, u "negativeZeroDoubleBits"), (21, u "max"), (2, u "min"), (43, u "$assertionsDisabled"), (0, u "Z"), (88, u "(II)I"), (2, u "twoToTheDoubleScaleDown"), (0, u "D"), (4, u "twoToTheDoubleScaleUp"), (9, u "E"), (3, u "PI"), (2, u "TAU"), (2, u "DEGREES_TO_RADIANS"), (0, u "RADIANS_TO_DEGREES")] 94

def k10m0 : Method := { name := "<init>", desc := "()V", sig := { parameters := [], returnType := none }, accessFlags := 2, code := none }
def k10c1 : Code := { maxStack := 2, maxLocals := 2, code := jdk_29_method_65_code, exceptionTable := #[], attributes := #[] }
def k10m1 : Method := { name := "max", desc := "(II)I", sig := { parameters := [.int, .int], returnType := some .int }, accessFlags := 9, code := some k10c1 }
def k10c2 : Code := { maxStack := 2, maxLocals := 2, code := jdk_29_method_69_code, exceptionTable := #[], attributes := #[] }
def k10m2 : Method := { name := "min", desc := "(II)I", sig := { parameters := [.int, .int], returnType := some .int }, accessFlags := 9, code := some k10c2 }
/-- java/lang/Math -/
def k10 : Class := { plain "java/lang/Math" (some 0) with
  accessFlags := 49
  interfaces := #[]
  cf := some (fileOf pool10 1 #[.nestMembers #[98]] #[{ accessFlags := 2, nameIndex := 7, descriptorIndex := 8, attributes := #[] }, { accessFlags := 9, nameIndex := 198, descriptorIndex := 335, attributes := #[] }, { accessFlags := 9, nameIndex := 201, descriptorIndex := 335, attributes := #[] }] 49 4 #[] #[{ accessFlags := 25, nameIndex := 354, descriptorIndex := 339, attributes := #[] }, { accessFlags := 25, nameIndex := 358, descriptorIndex := 339, attributes := #[] }, { accessFlags := 25, nameIndex := 361, descriptorIndex := 339, attributes := #[] }, { accessFlags := 26, nameIndex := 364, descriptorIndex := 339, attributes := #[] }, { accessFlags := 26, nameIndex := 365, descriptorIndex := 339, attributes := #[] }, { accessFlags := 26, nameIndex := 172, descriptorIndex := 173, attributes := #[] }, { accessFlags := 26, nameIndex := 176, descriptorIndex := 173, attributes := #[] }, { accessFlags := 8, nameIndex := 344, descriptorIndex := 339, attributes := #[] }, { accessFlags := 8, nameIndex := 338, descriptorIndex := 339, attributes := #[] }, { accessFlags := 4120, nameIndex := 245, descriptorIndex := 246, attributes := #[] }])
  fields := #[{ name := "E", type := .double, accessFlags := 25, slot := 0, constantValue := 0 }, { name := "PI", type := .double, accessFlags := 25, slot := 1, constantValue := 0 }, { name := "TAU", type := .double, accessFlags := 25, slot := 2, constantValue := 0 }, { name := "DEGREES_TO_RADIANS", type := .double, accessFlags := 26, slot := 3, constantValue := 0 }, { name := "RADIANS_TO_DEGREES", type := .double, accessFlags := 26, slot := 4, constantValue := 0 }, { name := "negativeZeroFloatBits", type := .long, accessFlags := 26, slot := 5, constantValue := 0 }, { name := "negativeZeroDoubleBits", type := .long, accessFlags := 26, slot := 6, constantValue := 0 }, { name := "twoToTheDoubleScaleUp", type := .double, accessFlags := 8, slot := 7, constantValue := 0 }, { name := "twoToTheDoubleScaleDown", type := .double, accessFlags := 8, slot := 8, constantValue := 0 }, { name := "$assertionsDisabled", type := .boolean, accessFlags := 4120, slot := 9, constantValue := 0 }]
  methods := #[k10m0, k10m1, k10m2]
  instanceTypes := #[]
  staticTypes := #[.double, .double, .double, .double, .double, .long, .long, .double, .double, .boolean]
  resolved := Array.replicate 460 none
  statics := none }

def pool11 : Array CpInfo := pool [(1, u "java/lang/Cloneable"), (0, .class_ 1), (0, u "java/lang/Object"), (0, .class_ 3)] 3

/-- java/lang/Cloneable -/
def k11 : Class := { plain "java/lang/Cloneable" (some 0) with
  accessFlags := 1537
  interfaces := #[]
  cf := some (fileOf pool11 2 #[] #[] 1537 4 #[] #[])
  fields := #[]
  methods := #[]
  instanceTypes := #[]
  staticTypes := #[]
  resolved := Array.replicate 8 none
  statics := none }

/-- the primitive byte -/
def k12 : Class := { plain "byte" none with kind := .primitive 'B', accessFlags := 0x411 }
/-- [B -/
def k13 : Class := { plain "[B" (some 0) with kind := .array 12 .byte, interfaces := #[11, 4], accessFlags := 1041 }

/-- the primitive int -/
def k14 : Class := { plain "int" none with kind := .primitive 'I', accessFlags := 0x411 }
/-- [I -/
def k15 : Class := { plain "[I" (some 0) with kind := .array 14 .int, interfaces := #[11, 4], accessFlags := 1041 }

def heap : Heap := #[]
def classes : Array Class := #[k0, k1, k2, k3, k4, k5, k6, k7, k8, k9, k10, k11, k12, k13, k14, k15]
def interned : List (Array UInt16 × Addr) := []
def slotsUsed : Nat := 0
def theMethod : MethodId := ⟨1, 2⟩
def args0 : Array Value := #[.int 3, .int 1, .int 2, .int 3]
def aboutOver (below : List Frame) : State where
  vm := { classes := classes, interned := interned.toArray }
  heap := heap
  slotsUsed := slotsUsed
  threads := #[{ frames := .invoking theMethod args0 :: below }]
def below0 : List Frame := [.native { method := ⟨0, 0⟩, args := #[] }]
def about1 : State := aboutOver below0
def p0 : Program := .bare "" "" ""
def e0 : Env := launch0.env 0 0 0
theorem w_frames : about1.frames = Frame.invoking theMethod args0 :: below0 := rfl
set_option maxRecDepth 65536 in
theorem w_args : argsFit about1.vm theMethod args0 = true := by decide +kernel
set_option maxRecDepth 65536 in
theorem w_heap : heapFits about1 = true := by decide +kernel
set_option maxRecDepth 65536 in
theorem w_runnable : about1.curStatus? = some .runnable := by decide +kernel
set_option maxRecDepth 65536 in
theorem w_alone : about1.alone = true := by decide +kernel
set_option maxRecDepth 65536 in
theorem w_named : about1.methodNamed? x = some theMethod := by decide +kernel
set_option maxRecDepth 65536 in
theorem w_hears : about1.hears theMethod below0 = true := by decide +kernel
set_option maxRecDepth 65536 in
theorem w_ripe : about1.ripe theMethod args0 below0 = true := by decide +kernel
theorem w_running : about1.status = .running := rfl
set_option maxRecDepth 65536 in
theorem w_room : about1.hasRoom e0.platform room_1 = true :=
  launch0.hasRoom_least _ room_1 (by decide +kernel) (by decide +kernel) (by decide +kernel) (by decide +kernel) (by decide +kernel) (by decide +kernel)
theorem allAtoms_all (ts : List Jvm.Cond) (a : Array Jvm.Value) (st : Jvm.State) : (allAtoms ts).before a st = ts.all (fun c => c.before a st) := by
  induction ts with
  | nil => rfl
  | cons c t ih =>
    show (Jvm.Cond.and c (allAtoms t)).before a st = _
    rw [Jvm.Cond.before_and, ih, List.all_cons]
def words1 : List Jvm.Cond := Jvm.Cond.code x code maxLocals ret :: tables_1
/-- a 'code' word, met by the world's own term for the bytes: nothing is compared byte by byte -/
theorem code_word {y : MethodName} {bytes : ByteArray} {mx : Nat} {rt : Option FieldType} {a : Array Value} {s : State} {m : MethodId} {meth : Method} {c : Code} (h1 : s.methodNamed? y = some m) (h2 : s.vm.method? m = some meth) (h3 : meth.code = some c) (h4 : c.code = bytes)
    (h5 : (c.maxLocals == mx && c.exceptionTable.isEmpty && decide (c.maxStack ≤ mostOperands) && decide (meth.sig.returnType = rt) && !meth.locks && decide (parseMethodDescriptor y.desc = some meth.sig)) = true) : (Jvm.Cond.code y bytes mx rt).before a s = true := by
  simp only [Bool.and_eq_true, beq_iff_eq, Bool.not_eq_true', decide_eq_true_eq] at h5
  obtain ⟨⟨⟨⟨⟨g1, g2⟩, g3⟩, g4⟩, g5⟩, g6⟩ := h5
  simp [Cond.before, Cond.holds, Cond.value, h1, h2, h3, h4, g1, g2, g3, g4, g5, g6]
def isCode : Jvm.Cond → Bool
  | .code _ _ _ _ => true
  | _ => false
theorem all_split {L : List Jvm.Cond} {P : Jvm.Cond → Bool} (h1 : L.all (fun c => isCode c || P c) = true) (h2 : ∀ c ∈ L.filter isCode, P c = true) : L.all P = true := by
  refine List.all_eq_true.mpr fun c hc => ?_
  have h := List.all_eq_true.mp h1 c hc
  rcases Bool.eq_false_or_eq_true (isCode c) with hi | hi
  · exact h2 c (List.mem_filter.mpr ⟨hc, hi⟩)
  · simpa [hi] using h
set_option maxRecDepth 65536 in
theorem w_c0 : (Jvm.Cond.code x code maxLocals ret).before args0 about1 = true := code_word (m := ⟨1, 2⟩) (meth := k1m2) (c := k1c2) (by decide +kernel) rfl rfl rfl (by decide +kernel)
set_option maxRecDepth 65536 in
theorem w_c1 : (Jvm.Cond.code ({ cls := "com/example/digitwarden/digitwarden/model/IbanScheme", name := "<init>", desc := "(Ljava/lang/String;)V" } : Jvm.MethodName) prog_28_method_1_code (2 : Nat) (Option.none : Option Jvm.ClassFile.FieldType)).before args0 about1 = true := code_word (m := ⟨3, 0⟩) (meth := k3m0) (c := k3c0) (by decide +kernel) rfl rfl rfl (by decide +kernel)
set_option maxRecDepth 65536 in
theorem w_c2 : (Jvm.Cond.code ({ cls := "com/example/digitwarden/digitwarden/model/Scheme", name := "<init>", desc := "(Ljava/lang/String;)V" } : Jvm.MethodName) prog_34_method_1_code (2 : Nat) (Option.none : Option Jvm.ClassFile.FieldType)).before args0 about1 = true := code_word (m := ⟨2, 0⟩) (meth := k2m0) (c := k2c0) (by decide +kernel) rfl rfl rfl (by decide +kernel)
set_option maxRecDepth 65536 in
theorem w_c3 : (Jvm.Cond.code ({ cls := "java/lang/Object", name := "<init>", desc := "()V" } : Jvm.MethodName) object_method_1_code (1 : Nat) (Option.none : Option Jvm.ClassFile.FieldType)).before args0 about1 = true := code_word (m := ⟨0, 0⟩) (meth := k0m0) (c := k0c0) (by decide +kernel) rfl rfl rfl (by decide +kernel)
set_option maxRecDepth 65536 in
theorem w_c4 : (Jvm.Cond.code ({ cls := "com/example/digitwarden/digitwarden/model/IbanSchemeAcceptsLengthPinLaw", name := "near", desc := "(I)I" } : Jvm.MethodName) method_2_code (1 : Nat) (Option.some Jvm.ClassFile.FieldType.int)).before args0 about1 = true := code_word (m := ⟨1, 1⟩) (meth := k1m1) (c := k1c1) (by decide +kernel) rfl rfl rfl (by decide +kernel)
set_option maxRecDepth 65536 in
theorem w_c5 : (Jvm.Cond.code ({ cls := "com/example/digitwarden/digitwarden/model/IbanScheme", name := "acceptsLength", desc := "(I)Z" } : Jvm.MethodName) prog_28_method_2_code (2 : Nat) (Option.some Jvm.ClassFile.FieldType.boolean)).before args0 about1 = true := code_word (m := ⟨3, 1⟩) (meth := k3m1) (c := k3c1) (by decide +kernel) rfl rfl rfl (by decide +kernel)
set_option maxRecDepth 65536 in
theorem w_c6 : (Jvm.Cond.code ({ cls := "java/lang/Math", name := "min", desc := "(II)I" } : Jvm.MethodName) jdk_29_method_69_code (2 : Nat) (Option.some Jvm.ClassFile.FieldType.int)).before args0 about1 = true := code_word (m := ⟨10, 2⟩) (meth := k10m2) (c := k10c2) (by decide +kernel) rfl rfl rfl (by decide +kernel)
set_option maxRecDepth 65536 in
theorem w_c7 : (Jvm.Cond.code ({ cls := "java/lang/Math", name := "max", desc := "(II)I" } : Jvm.MethodName) jdk_29_method_65_code (2 : Nat) (Option.some Jvm.ClassFile.FieldType.int)).before args0 about1 = true := code_word (m := ⟨10, 1⟩) (meth := k10m1) (c := k10c1) (by decide +kernel) rfl rfl rfl (by decide +kernel)
def codes1 : List Jvm.Cond := [Jvm.Cond.code x code maxLocals ret, Jvm.Cond.code ({ cls := "com/example/digitwarden/digitwarden/model/IbanScheme", name := "<init>", desc := "(Ljava/lang/String;)V" } : Jvm.MethodName) prog_28_method_1_code (2 : Nat) (Option.none : Option Jvm.ClassFile.FieldType), Jvm.Cond.code ({ cls := "com/example/digitwarden/digitwarden/model/Scheme", name := "<init>", desc := "(Ljava/lang/String;)V" } : Jvm.MethodName) prog_34_method_1_code (2 : Nat) (Option.none : Option Jvm.ClassFile.FieldType), Jvm.Cond.code ({ cls := "java/lang/Object", name := "<init>", desc := "()V" } : Jvm.MethodName) object_method_1_code (1 : Nat) (Option.none : Option Jvm.ClassFile.FieldType), Jvm.Cond.code ({ cls := "com/example/digitwarden/digitwarden/model/IbanSchemeAcceptsLengthPinLaw", name := "near", desc := "(I)I" } : Jvm.MethodName) method_2_code (1 : Nat) (Option.some Jvm.ClassFile.FieldType.int), Jvm.Cond.code ({ cls := "com/example/digitwarden/digitwarden/model/IbanScheme", name := "acceptsLength", desc := "(I)Z" } : Jvm.MethodName) prog_28_method_2_code (2 : Nat) (Option.some Jvm.ClassFile.FieldType.boolean), Jvm.Cond.code ({ cls := "java/lang/Math", name := "min", desc := "(II)I" } : Jvm.MethodName) jdk_29_method_69_code (2 : Nat) (Option.some Jvm.ClassFile.FieldType.int), Jvm.Cond.code ({ cls := "java/lang/Math", name := "max", desc := "(II)I" } : Jvm.MethodName) jdk_29_method_65_code (2 : Nat) (Option.some Jvm.ClassFile.FieldType.int)]
set_option maxRecDepth 65536 in
theorem codes_eq : words1.filter isCode = codes1 := rfl
theorem w_codes : ∀ c ∈ words1.filter isCode, c.before args0 about1 = true := by
  rw [codes_eq]
  intro c hc
  simp only [codes1, List.mem_cons, List.not_mem_nil, or_false] at hc
  rcases hc with rfl | rfl | rfl | rfl | rfl | rfl | rfl | rfl
  · exact w_c0
  · exact w_c1
  · exact w_c2
  · exact w_c3
  · exact w_c4
  · exact w_c5
  · exact w_c6
  · exact w_c7
set_option maxRecDepth 65536 in
theorem w_t1 : (words1.take 24).all (fun c => isCode c || c.before args0 about1) = true := by decide +kernel
set_option maxRecDepth 65536 in
theorem w_t2 : (words1.drop 24).all (fun c => isCode c || c.before args0 about1) = true := by decide +kernel
theorem w_tables : (allAtoms (Jvm.Cond.code x code maxLocals ret :: tables_1)).before args0 about1 = true := by
  rw [allAtoms_all]
  show words1.all (fun c => c.before args0 about1) = true
  refine all_split ?_ w_codes
  rw [← List.take_append_drop 24 words1, List.all_append, w_t1, w_t2]
  rfl
set_option maxRecDepth 65536 in
theorem w_case : (Jvm.Cond.and given_1 narrow_1).before args0 about1 = true := by decide +kernel
theorem w_applies : (headSpec (Jvm.Cond.code x code maxLocals ret :: tables_1) room_1).applies x e0.platform about1 = true :=
  (Spec.applies_iff w_frames).mpr ⟨w_running, w_runnable, w_alone, w_named, w_hears, w_ripe, w_room, w_tables⟩
theorem atStart : AtStart classFile x code maxLocals ret World_1 tables_1 room_1 Calls_1 rest_1 Pre_1 launch0 p0 e0 about1 theMethod args0 below0 :=
  ⟨lists_1, trivial, launch0.admits_env _ _ _, launch0.least_env, fairChoices_fair.cas, fairChoices_fair.clock, w_frames, w_args, w_heap, w_applies, trivial, trivial, w_case⟩
end start1
theorem witness_1 : WitnessClaimed_1 := ⟨start1.p0, start1.e0, start1.about1, start1.theMethod, start1.args0, start1.below0, start1.atStart⟩
end Jvm.Pilot.@@N@@
