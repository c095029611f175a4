import JvmDerived
import JvmDerived.Pilot.@@N@@Statement
import JvmDerived.Pilot.@@N@@Code
set_option linter.unusedVariables false
set_option linter.unusedSimpArgs false
@@BLOCK:NumsL.lean.txt@@
namespace Jvm.Pilot.@@N@@
open Jvm Jvm.ClassFile Sem Op Lib Jvm.Free Jvm.Stand Jvm.LawKit Jvm.RoadKit Bundle Jvm.Pilot.@@N@@.Jvm.D
section Own
variable {p : Program} {l : Launch} {e : Env} {R : Room} {s : State} {m : MethodId} {args : Array Value} {below : List Frame} {meth : Method} {c : Code} {T : State} {locs : List Loc} {cells slots : Nat}
theorem own_ireturn (X : Stand p l e R s m args below meth c T locs cells slots) (hx : p.tables.exec = Jvm.exec) {pc : Nat} {Ls : Array Slot} {z : Int32} {rest : List Value} (hret : meth.sig.returnType = some .int) (hd : decode c.code pc = .ok (.ireturn, 1)) {fs : List Frame}
    (hl : ∀ (f : JFrame) (acts : List Action), f.method = m → f.locked = none → f.entered = [] → (doReturn e (T.setTop f) acts (some (.int z))).1 = T.setFrames fs) : Steps p.tables e below (T.setTop (mkF m pc Ls (.int z :: rest))) (T.setFrames fs) := by
  have hm' : T.vm.method? m = some meth := X.method'
  have hn : narrow .int (.int z) = .int z := rfl
  show Steps p.tables e below (T.setTop { method := m, pc := pc, locals := Ls, stack := _ :: rest, locked := none }) _
  jvm_step X.here [X.here.top, hx, hd, hm', hret, hn]
  first | (intro acts; rw [hl _ acts rfl rfl rfl]) | rw [hl _ _ rfl rfl rfl]
  exact Steps.refl _
theorem own_more (X : Stand p l e R s m args below meth c T locs cells slots) {k n : Nat} (h1 : cells ≤ k) (h2 : slots ≤ n) : Stand p l e R s m args below meth c T locs k n := { X with same := X.same.mono h1 h2 }
theorem own_retV (X : Stand p l e R s m args below meth c T locs cells slots) (hx : p.tables.exec = Jvm.exec) (hlk : meth.locks = false) (hret : meth.sig.returnType = none) {pc : Nat} {Ls : Array Slot} (hd : decode c.code pc = .ok (.return_, 1)) {base : State}
    (pre : ∀ t, Steps p.tables e below (T.setTop (mkF m pc Ls [])) t → Steps p.tables e below base t) {Q : Option Value → Heap → List Loc → Prop} (hQ : Q none T.heap locs) {k n : Nat} (h1 : cells ≤ k) (h2 : slots ≤ n) :
    ∃ s₂ o, Steps p.tables e below base s₂ ∧ s₂.status = .running ∧ Ended s₂ below o ∧ ∃ v L, o = .returned v ∧ Q v s₂.heap L ∧ FrameEnd s o s₂ L k n := by
  obtain ⟨fs, hr, hrun, hended, hW, hsame⟩ := X.leave (v := none) (fun _ => rfl)
  exact ⟨_, _, pre _ (X.returnOut hx hret hd hr), hrun, hended, _, _, rfl, hQ, ⟨_, rfl⟩, hW, hsame.mono h1 h2⟩
theorem own_retI (X : Stand p l e R s m args below meth c T locs cells slots) (hx : p.tables.exec = Jvm.exec) (hlk : meth.locks = false) (hret : meth.sig.returnType = some .int) {pc : Nat} {Ls : Array Slot} {z : Int32} {rest : List Value} (hd : decode c.code pc = .ok (.ireturn, 1)) {base : State}
    (pre : ∀ t, Steps p.tables e below (T.setTop (mkF m pc Ls (.int z :: rest))) t → Steps p.tables e below base t) {Q : Option Value → Heap → List Loc → Prop} (hQ : Q (some (.int z)) T.heap locs) {k n : Nat} (h1 : cells ≤ k) (h2 : slots ≤ n) :
    ∃ s₂ o, Steps p.tables e below base s₂ ∧ s₂.status = .running ∧ Ended s₂ below o ∧ ∃ v L, o = .returned v ∧ Q v s₂.heap L ∧ FrameEnd s o s₂ L k n := by
  obtain ⟨fs, hr, hrun, hended, hW, hsame⟩ := X.leave (v := some (.int z)) (fun h => by rw [hret] at h; cases h)
  exact ⟨_, _, pre _ (own_ireturn X hx hret hd hr), hrun, hended, _, _, rfl, hQ, ⟨_, rfl⟩, hW, hsame.mono h1 h2⟩
theorem own_retN (X : Stand p l e R s m args below meth c T locs cells slots) (hx : p.tables.exec = Jvm.exec) (hlk : meth.locks = false) {t : FieldType} (hret : meth.sig.returnType = some t) (ht : t = .boolean ∨ t = .byte ∨ t = .char ∨ t = .short) {pc : Nat} {Ls : Array Slot} {z : Int32} {rest : List Value} (hd : decode c.code pc = .ok (.ireturn, 1)) {base : State}
    (pre : ∀ t, Steps p.tables e below (T.setTop (mkF m pc Ls (.int z :: rest))) t → Steps p.tables e below base t) {Q : Option Value → Heap → List Loc → Prop} (hQ : Q (some (.int (nar t z))) T.heap locs) {k n : Nat} (h1 : cells ≤ k) (h2 : slots ≤ n) :
    ∃ s₂ o, Steps p.tables e below base s₂ ∧ s₂.status = .running ∧ Ended s₂ below o ∧ ∃ v L, o = .returned v ∧ Q v s₂.heap L ∧ FrameEnd s o s₂ L k n := by
  obtain ⟨fs, hr, hrun, hended, hW, hsame⟩ := X.leave (v := some (.int (nar t z))) (fun h => by rw [hret] at h; cases h)
  exact ⟨_, _, pre _ (retN X hx hret ht hd hr), hrun, hended, _, _, rfl, hQ, ⟨_, rfl⟩, hW, hsame.mono h1 h2⟩
theorem own_retJ (X : Stand p l e R s m args below meth c T locs cells slots) (hx : p.tables.exec = Jvm.exec) (hlk : meth.locks = false) (hret : meth.sig.returnType = some .long) {pc : Nat} {Ls : Array Slot} {z : Int64} (hd : decode c.code pc = .ok (.lreturn, 1)) {base : State}
    (pre : ∀ t, Steps p.tables e below (T.setTop (mkF m pc Ls [.long z])) t → Steps p.tables e below base t) {Q : Option Value → Heap → List Loc → Prop} (hQ : Q (some (.long z)) T.heap locs) {k n : Nat} (h1 : cells ≤ k) (h2 : slots ≤ n) :
    ∃ s₂ o, Steps p.tables e below base s₂ ∧ s₂.status = .running ∧ Ended s₂ below o ∧ ∃ v L, o = .returned v ∧ Q v s₂.heap L ∧ FrameEnd s o s₂ L k n := by
  obtain ⟨fs, hr, hrun, hended, hW, hsame⟩ := X.leave (v := some (.long z)) (fun h => by rw [hret] at h; cases h)
  exact ⟨_, _, pre _ (X.lreturnOut hx hret hd hr), hrun, hended, _, _, rfl, hQ, ⟨_, rfl⟩, hW, hsame.mono h1 h2⟩
theorem own_retA (X : Stand p l e R s m args below meth c T locs cells slots) (hx : p.tables.exec = Jvm.exec) (hlk : meth.locks = false) {w : Value} {t : FieldType} (hw : w.isRef = true) (hret : meth.sig.returnType = some t) (ht : t.isReference = true) {pc : Nat} {Ls : Array Slot} (hd : decode c.code pc = .ok (.areturn, 1)) {base : State}
    (pre : ∀ t, Steps p.tables e below (T.setTop (mkF m pc Ls [w])) t → Steps p.tables e below base t) {Q : Option Value → Heap → List Loc → Prop} (hQ : Q (some w) T.heap locs) {k n : Nat} (h1 : cells ≤ k) (h2 : slots ≤ n) :
    ∃ s₂ o, Steps p.tables e below base s₂ ∧ s₂.status = .running ∧ Ended s₂ below o ∧ ∃ v L, o = .returned v ∧ Q v s₂.heap L ∧ FrameEnd s o s₂ L k n := by
  obtain ⟨fs, hr, hrun, hended, hW, hsame⟩ := X.leave (v := some w) (fun h => by rw [hret] at h; cases h)
  exact ⟨_, _, pre _ (X.areturnOut hx hw hret ht hd hr), hrun, hended, _, _, rfl, hQ, ⟨_, rfl⟩, hW, hsame.mono h1 h2⟩
end Own
theorem own_bool {z : Int32} (h : z = 0 ∨ z = 1) : nar .boolean z = z := by rcases h with rfl | rfl <;> rfl

theorem ef_0 (m : MethodId) (x0 : Int32) (x1 : Int64) (x2 : Int64) : entryFrame m #[(.int x0), (.long x1), (.long x2)] 5 = mkF m 0 #[.val (.int x0), .val (.long x1), .second, .val (.long x2), .second] [] := by first | (simp [entryFrame, mkF, argsToLocals, Value.category]; done) | rfl
theorem pn_1 : plainName "bearings/core/RecordReader" = true := by first | (simp [plainName, overriddenIn]; done) | decide +kernel
theorem d1_0 : decode prog_52_method_5_code 0 = .ok (.iload_n 0, 1) := by decide +kernel
theorem d1_1 : decode prog_52_method_5_code 1 = .ok (.iconst 1, 1) := by decide +kernel
theorem d1_2 : decode prog_52_method_5_code 2 = .ok (.if_icmp .lt 20, 3) := by decide +kernel
theorem d1_22 : decode prog_52_method_5_code 22 = .ok (.iconst 0, 1) := by decide +kernel
theorem d1_5 : decode prog_52_method_5_code 5 = .ok (.iload_n 0, 1) := by decide +kernel
theorem d1_6 : decode prog_52_method_5_code 6 = .ok (.i2l, 1) := by decide +kernel
theorem d1_7 : decode prog_52_method_5_code 7 = .ok (.lload_n 3, 1) := by decide +kernel
theorem d1_8 : decode prog_52_method_5_code 8 = .ok (.lload_n 1, 1) := by decide +kernel
theorem d1_9 : decode prog_52_method_5_code 9 = .ok (.lsub, 1) := by decide +kernel
theorem d1_10 : decode prog_52_method_5_code 10 = .ok (.ldc2_w 252, 3) := by decide +kernel
theorem d1_13 : decode prog_52_method_5_code 13 = .ok (.lsub, 1) := by decide +kernel
theorem d1_14 : decode prog_52_method_5_code 14 = .ok (.lcmp, 1) := by decide +kernel
theorem d1_15 : decode prog_52_method_5_code 15 = .ok (.ifCond .gt 7, 3) := by decide +kernel
theorem d1_18 : decode prog_52_method_5_code 18 = .ok (.iconst 1, 1) := by decide +kernel
theorem d1_19 : decode prog_52_method_5_code 19 = .ok (.goto 4, 3) := by decide +kernel
theorem d1_23 : decode prog_52_method_5_code 23 = .ok (.ireturn, 1) := by decide +kernel
def Q1 (p1 : Int32) (q2 : Int64) (q3 : Int64) (h0 : Heap) (n0 : Nat) (v : Option Value) (h : Heap) (L : List Loc) : Prop := v = some (.int (if p1 < (1 : Int32) then (0 : Int32) else (if ((q3 - q2) - (8 : Int64)) < (p1.toInt64) then (0 : Int32) else (1 : Int32)))) ∧ Fr n0 L ∧ h = h0
set_option maxRecDepth 65536 in
set_option maxHeartbeats 40000000 in
theorem rm1 (l : Launch) (Z : State) (a0 : Array Value) (hw : ∀ d ∈ tables_1, d.before a0 Z = true) (ws : List Jvm.Cond) (p1 : Int32) (q2 : Int64) (q3 : Int64) (h0 : Heap) (n0 : Nat) (Z0 : n0 ≤ h0.size) :
    MetFree l (⟨"bearings/core/RecordReader", "fits", "(IJJ)Z"⟩ : MethodName) (head1 (Jvm.Cond.code (⟨"bearings/core/RecordReader", "fits", "(IJJ)Z"⟩ : MethodName) prog_52_method_5_code 5 (some .boolean) :: ws) ({ frames := 0, cells := 0, slots := 0, locals := 0 } : Room)) (fun a U => a = #[(.int p1), (.long q2), (.long q3)] ∧ Z.Warmed39 U.vm ∧ U.heap = h0) (fun _ _ _ _ _ => True) (fun _ U o U' => ∃ v L, o = .returned v ∧ Q1 p1 q2 q3 h0 n0 v U'.heap L ∧ FrameEnd U o U' L ({ frames := 0, cells := 0, slots := 0, locals := 0 } : Room).cells ({ frames := 0, cells := 0, slots := 0, locals := 0 } : Room).slots) := by
  refine MetFree.of_bodySF (plainFor_of_name pn_1) hisR ?_
  intro p e s m args below meth c s₁ Bd hml0 hP hK
  obtain ⟨rfl, hZ, hh⟩ := hP
  have hx := Bd.exec
  have hby := Bd.bytes
  have hml : c.maxLocals = 5 := hml0
  have hown : s.vm.findClass "bearings/core/RecordReader" = some m.cls := findClass_of_methodNamed Bd.named
  have hnm := (name_of_methodNamed Bd.named Bd.method).1
  have X0 : Stand p l e ({ frames := 0, cells := 0, slots := 0, locals := 0 } : Room) s m #[(.int p1), (.long q2), (.long q3)] below meth c s₁ [] 0 0 := Stand.of_body Bd
  have e0 : s₁.heap = h0 := by rw [← hh, Bd.state]; rfl
  have N0 := Fr.nil n0
  have pre0 : ∀ t, Steps p.tables e below (s₁.setTop (mkF m 0 #[.val (.int p1), .val (.long q2), .second, .val (.long q3), .second] [])) t → Steps p.tables e below (s₁.setTop (entryFrame m #[(.int p1), (.long q2), (.long q3)] 5)) t := fun t k => castTop (ef_0 m p1 q2 q3) k
  have pre1 : ∀ t, Steps p.tables e below (s₁.setTop (mkF m 2 #[.val (.int p1), .val (.long q2), .second, .val (.long q3), .second] [(.int (1 : Int32)), (.int p1)])) t → Steps p.tables e below (s₁.setTop (entryFrame m #[(.int p1), (.long q2), (.long q3)] 5)) t := fun t kt => pre0 t (by
    show Steps p.tables e below (s₁.setTop (mkF m 0 #[.val (.int p1), .val (.long q2), .second, .val (.long q3), .second] [])) _
    refine XS.iloadN X0.here hx rfl (hb hby d1_0) rfl ?_
    show Steps p.tables e below (s₁.setTop (mkF m 1 #[.val (.int p1), .val (.long q2), .second, .val (.long q3), .second] [(.int p1)])) _
    refine XS.iconst X0.here hx rfl (hb hby d1_1) ?_
    exact kt)
  obtain ⟨v4, hv4⟩ : ∃ z : Int32, z = (if p1 < (1 : Int32) then (0 : Int32) else (if ((q3 - q2) - (8 : Int64)) < (p1.toInt64) then (0 : Int32) else (1 : Int32))) := ⟨_, rfl⟩
  have pre5 : ∀ t, Steps p.tables e below (s₁.setTop (mkF m 23 #[.val (.int p1), .val (.long q2), .second, .val (.long q3), .second] [(.int v4)])) t → Steps p.tables e below (s₁.setTop (entryFrame m #[(.int p1), (.long q2), (.long q3)] 5)) t := fun t kt => pre1 t (by
    by_cases hc2 : p1 < (1 : Int32)
    case pos =>
      show Steps p.tables e below (s₁.setTop (mkF m 2 #[.val (.int p1), .val (.long q2), .second, .val (.long q3), .second] [(.int (1 : Int32)), (.int p1)])) _
      refine XS.icmpYes X0.here hx rfl (pc0 := 2) (pc' := 22) rfl (hb hby d1_2) rfl (tlt hc2).1 (by decide) (by decide) ?_
      show Steps p.tables e below (s₁.setTop (mkF m 22 #[.val (.int p1), .val (.long q2), .second, .val (.long q3), .second] [])) _
      refine XS.iconst X0.here hx rfl (hb hby d1_22) ?_
      rw [show v4 = (0 : Int32) from (hv4.trans (if_pos hc2))] at kt
      exact kt
    case neg =>
      show Steps p.tables e below (s₁.setTop (mkF m 2 #[.val (.int p1), .val (.long q2), .second, .val (.long q3), .second] [(.int (1 : Int32)), (.int p1)])) _
      refine XS.icmpNo X0.here hx rfl (hb hby d1_2) rfl (flt hc2).1 ?_
      show Steps p.tables e below (s₁.setTop (mkF m 5 #[.val (.int p1), .val (.long q2), .second, .val (.long q3), .second] [])) _
      refine XS.iloadN X0.here hx rfl (hb hby d1_5) rfl ?_
      show Steps p.tables e below (s₁.setTop (mkF m 6 #[.val (.int p1), .val (.long q2), .second, .val (.long q3), .second] [(.int p1)])) _
      refine XS.i2l X0.here hx rfl (hb hby d1_6) rfl ?_
      show Steps p.tables e below (s₁.setTop (mkF m 7 #[.val (.int p1), .val (.long q2), .second, .val (.long q3), .second] [(.long (p1.toInt64))])) _
      refine XS.lloadN X0.here hx rfl (hb hby d1_7) rfl ?_
      show Steps p.tables e below (s₁.setTop (mkF m 8 #[.val (.int p1), .val (.long q2), .second, .val (.long q3), .second] [(.long q3), (.long (p1.toInt64))])) _
      refine XS.lloadN X0.here hx rfl (hb hby d1_8) rfl ?_
      show Steps p.tables e below (s₁.setTop (mkF m 9 #[.val (.int p1), .val (.long q2), .second, .val (.long q3), .second] [(.long q2), (.long q3), (.long (p1.toInt64))])) _
      refine XS.lsub X0.here hx rfl (hb hby d1_9) rfl ?_
      show Steps p.tables e below (s₁.setTop (mkF m 10 #[.val (.int p1), .val (.long q2), .second, .val (.long q3), .second] [(.long (q3 - q2)), (.long (p1.toInt64))])) _
      refine X0.ldc2Long hx hown (mvT hZ (hw _ (List.mem_of_getElem? (i := 15) rfl))) (g := (mkF m 10 #[.val (.int p1), .val (.long q2), .second, .val (.long q3), .second] [(.long (q3 - q2)), (.long (p1.toInt64))])) rfl (hb hby d1_10) _ ?_
      show Steps p.tables e below (s₁.setTop (mkF m 13 #[.val (.int p1), .val (.long q2), .second, .val (.long q3), .second] [(.long (8 : Int64)), (.long (q3 - q2)), (.long (p1.toInt64))])) _
      refine XS.lsub X0.here hx rfl (hb hby d1_13) rfl ?_
      show Steps p.tables e below (s₁.setTop (mkF m 14 #[.val (.int p1), .val (.long q2), .second, .val (.long q3), .second] [(.long ((q3 - q2) - (8 : Int64))), (.long (p1.toInt64))])) _
      refine XS.lcmp X0.here hx rfl (hb hby d1_14) rfl ?_
      by_cases hc3 : ((q3 - q2) - (8 : Int64)) < (p1.toInt64)
      case pos =>
        show Steps p.tables e below (s₁.setTop (mkF m 15 #[.val (.int p1), .val (.long q2), .second, .val (.long q3), .second] [(.int (lcmpW (p1.toInt64) ((q3 - q2) - (8 : Int64))))])) _
        refine XS.ifYes X0.here hx rfl (pc0 := 15) (pc' := 22) rfl (hb hby d1_15) rfl ((if0 _ _).trans (tlt ((lw_gt _ _).mpr hc3)).2.2.1) (by decide) (by decide) ?_
        show Steps p.tables e below (s₁.setTop (mkF m 22 #[.val (.int p1), .val (.long q2), .second, .val (.long q3), .second] [])) _
        refine XS.iconst X0.here hx rfl (hb hby d1_22) ?_
        rw [show v4 = (0 : Int32) from ((hv4.trans (if_neg hc2)).trans (if_pos hc3))] at kt
        exact kt
      case neg =>
        show Steps p.tables e below (s₁.setTop (mkF m 15 #[.val (.int p1), .val (.long q2), .second, .val (.long q3), .second] [(.int (lcmpW (p1.toInt64) ((q3 - q2) - (8 : Int64))))])) _
        refine XS.ifNo X0.here hx rfl (hb hby d1_15) rfl ((if0 _ _).trans (flt (fun q => hc3 ((lw_gt _ _).mp q))).2.2.1) ?_
        show Steps p.tables e below (s₁.setTop (mkF m 18 #[.val (.int p1), .val (.long q2), .second, .val (.long q3), .second] [])) _
        refine XS.iconst X0.here hx rfl (hb hby d1_18) ?_
        show Steps p.tables e below (s₁.setTop (mkF m 19 #[.val (.int p1), .val (.long q2), .second, .val (.long q3), .second] [(.int (1 : Int32))])) _
        refine XS.goto X0.here hx rfl (pc0 := 19) (pc' := 23) rfl (hb hby d1_19) (by decide) (by decide) ?_
        rw [show v4 = (1 : Int32) from ((hv4.trans (if_neg hc2)).trans (if_neg hc3))] at kt
        exact kt)
  have hbv4 : nar .boolean v4 = (if p1 < (1 : Int32) then (0 : Int32) else (if ((q3 - q2) - (8 : Int64)) < (p1.toInt64) then (0 : Int32) else (1 : Int32))) := (own_bool (by rw [hv4]; (repeat' split) <;> simp)).trans hv4
  exact own_retN X0 hx Bd.notSynchronized (t := .boolean) Bd.returns (by simp) (hb hby d1_23) pre5 (show Q1 p1 q2 q3 h0 n0 _ _ _ from ⟨congrArg (fun z => some (Value.int z)) hbv4, N0, e0⟩) (by decide) (by decide)
theorem ef_18 (m : MethodId) (x0 : Int64) (x1 : Int64) : entryFrame m #[(.long x0), (.long x1)] 4 = mkF m 0 #[.val (.long x0), .second, .val (.long x1), .second] [] := by first | (simp [entryFrame, mkF, argsToLocals, Value.category]; done) | rfl
theorem d2_0 : decode jdk_29_method_70_code 0 = .ok (.lload_n 0, 1) := by decide +kernel
theorem d2_1 : decode jdk_29_method_70_code 1 = .ok (.lload_n 2, 1) := by decide +kernel
theorem d2_2 : decode jdk_29_method_70_code 2 = .ok (.lcmp, 1) := by decide +kernel
theorem d2_3 : decode jdk_29_method_70_code 3 = .ok (.ifCond .gt 7, 3) := by decide +kernel
theorem d2_10 : decode jdk_29_method_70_code 10 = .ok (.lload_n 2, 1) := by decide +kernel
theorem d2_6 : decode jdk_29_method_70_code 6 = .ok (.lload_n 0, 1) := by decide +kernel
theorem d2_7 : decode jdk_29_method_70_code 7 = .ok (.goto 4, 3) := by decide +kernel
theorem d2_11 : decode jdk_29_method_70_code 11 = .ok (.lreturn, 1) := by decide +kernel
def Q2 (q1 : Int64) (q2 : Int64) (h0 : Heap) (n0 : Nat) (v : Option Value) (h : Heap) (L : List Loc) : Prop := v = some (.long (if q2 < q1 then q2 else q1)) ∧ Fr n0 L ∧ h = h0
set_option maxRecDepth 65536 in
set_option maxHeartbeats 40000000 in
theorem rm2 (l : Launch) (Z : State) (a0 : Array Value) (hw : ∀ d ∈ tables_1, d.before a0 Z = true) (ws : List Jvm.Cond) (q1 : Int64) (q2 : Int64) (h0 : Heap) (n0 : Nat) (Z0 : n0 ≤ h0.size) :
    MetFree l (⟨"java/lang/Math", "min", "(JJ)J"⟩ : MethodName) (head1 (Jvm.Cond.code (⟨"java/lang/Math", "min", "(JJ)J"⟩ : MethodName) jdk_29_method_70_code 4 (some .long) :: ws) ({ frames := 0, cells := 0, slots := 0, locals := 0 } : Room)) (fun a U => a = #[(.long q1), (.long q2)] ∧ Z.Warmed39 U.vm ∧ U.heap = h0) (fun _ _ _ _ _ => True) (fun _ U o U' => ∃ v L, o = .returned v ∧ Q2 q1 q2 h0 n0 v U'.heap L ∧ FrameEnd U o U' L ({ frames := 0, cells := 0, slots := 0, locals := 0 } : Room).cells ({ frames := 0, cells := 0, slots := 0, locals := 0 } : Room).slots) := by
  refine MetFree.of_bodySF (Jvm.Free.JP.mathPlain rfl (by decide +kernel)) hisR ?_
  intro p e s m args below meth c s₁ Bd hml0 hP hK
  obtain ⟨rfl, hZ, hh⟩ := hP
  have hx := Bd.exec
  have hby := Bd.bytes
  have hml : c.maxLocals = 4 := hml0
  have hown : s.vm.findClass "java/lang/Math" = some m.cls := findClass_of_methodNamed Bd.named
  have hnm := (name_of_methodNamed Bd.named Bd.method).1
  have X0 : Stand p l e ({ frames := 0, cells := 0, slots := 0, locals := 0 } : Room) s m #[(.long q1), (.long q2)] below meth c s₁ [] 0 0 := Stand.of_body Bd
  have e0 : s₁.heap = h0 := by rw [← hh, Bd.state]; rfl
  have N0 := Fr.nil n0
  have pre0 : ∀ t, Steps p.tables e below (s₁.setTop (mkF m 0 #[.val (.long q1), .second, .val (.long q2), .second] [])) t → Steps p.tables e below (s₁.setTop (entryFrame m #[(.long q1), (.long q2)] 4)) t := fun t k => castTop (ef_18 m q1 q2) k
  have pre6 : ∀ t, Steps p.tables e below (s₁.setTop (mkF m 3 #[.val (.long q1), .second, .val (.long q2), .second] [(.int (lcmpW q1 q2))])) t → Steps p.tables e below (s₁.setTop (entryFrame m #[(.long q1), (.long q2)] 4)) t := fun t kt => pre0 t (by
    show Steps p.tables e below (s₁.setTop (mkF m 0 #[.val (.long q1), .second, .val (.long q2), .second] [])) _
    refine XS.lloadN X0.here hx rfl (hb hby d2_0) rfl ?_
    show Steps p.tables e below (s₁.setTop (mkF m 1 #[.val (.long q1), .second, .val (.long q2), .second] [(.long q1)])) _
    refine XS.lloadN X0.here hx rfl (hb hby d2_1) rfl ?_
    show Steps p.tables e below (s₁.setTop (mkF m 2 #[.val (.long q1), .second, .val (.long q2), .second] [(.long q2), (.long q1)])) _
    refine XS.lcmp X0.here hx rfl (hb hby d2_2) rfl ?_
    exact kt)
  obtain ⟨v8, hv8⟩ : ∃ z : Int64, z = (if q2 < q1 then q2 else q1) := ⟨_, rfl⟩
  have pre9 : ∀ t, Steps p.tables e below (s₁.setTop (mkF m 11 #[.val (.long q1), .second, .val (.long q2), .second] [(.long v8)])) t → Steps p.tables e below (s₁.setTop (entryFrame m #[(.long q1), (.long q2)] 4)) t := fun t kt => pre6 t (by
    by_cases hc7 : q2 < q1
    case pos =>
      show Steps p.tables e below (s₁.setTop (mkF m 3 #[.val (.long q1), .second, .val (.long q2), .second] [(.int (lcmpW q1 q2))])) _
      refine XS.ifYes X0.here hx rfl (pc0 := 3) (pc' := 10) rfl (hb hby d2_3) rfl ((if0 _ _).trans (tlt ((lw_gt _ _).mpr hc7)).2.2.1) (by decide) (by decide) ?_
      show Steps p.tables e below (s₁.setTop (mkF m 10 #[.val (.long q1), .second, .val (.long q2), .second] [])) _
      refine XS.lloadN X0.here hx rfl (hb hby d2_10) rfl ?_
      rw [show v8 = q2 from (hv8.trans (if_pos hc7))] at kt
      exact kt
    case neg =>
      show Steps p.tables e below (s₁.setTop (mkF m 3 #[.val (.long q1), .second, .val (.long q2), .second] [(.int (lcmpW q1 q2))])) _
      refine XS.ifNo X0.here hx rfl (hb hby d2_3) rfl ((if0 _ _).trans (flt (fun q => hc7 ((lw_gt _ _).mp q))).2.2.1) ?_
      show Steps p.tables e below (s₁.setTop (mkF m 6 #[.val (.long q1), .second, .val (.long q2), .second] [])) _
      refine XS.lloadN X0.here hx rfl (hb hby d2_6) rfl ?_
      show Steps p.tables e below (s₁.setTop (mkF m 7 #[.val (.long q1), .second, .val (.long q2), .second] [(.long q1)])) _
      refine XS.goto X0.here hx rfl (pc0 := 7) (pc' := 11) rfl (hb hby d2_7) (by decide) (by decide) ?_
      rw [show v8 = q1 from (hv8.trans (if_neg hc7))] at kt
      exact kt)
  exact own_retJ X0 hx Bd.notSynchronized Bd.returns (hb hby d2_11) pre9 (show Q2 q1 q2 h0 n0 _ _ _ from ⟨congrArg (fun z => some (Value.long z)) hv8, N0, e0⟩) (by decide) (by decide)
theorem ef_27 (m : MethodId) (x0 : Int64) (x1 : Int64) : entryFrame m #[(.long x0), (.long x1)] 4 = mkF m 0 #[.val (.long x0), .second, .val (.long x1), .second] [] := by first | (simp [entryFrame, mkF, argsToLocals, Value.category]; done) | rfl
theorem d3_0 : decode jdk_29_method_66_code 0 = .ok (.lload_n 0, 1) := by decide +kernel
theorem d3_1 : decode jdk_29_method_66_code 1 = .ok (.lload_n 2, 1) := by decide +kernel
theorem d3_2 : decode jdk_29_method_66_code 2 = .ok (.lcmp, 1) := by decide +kernel
theorem d3_3 : decode jdk_29_method_66_code 3 = .ok (.ifCond .lt 7, 3) := by decide +kernel
theorem d3_10 : decode jdk_29_method_66_code 10 = .ok (.lload_n 2, 1) := by decide +kernel
theorem d3_6 : decode jdk_29_method_66_code 6 = .ok (.lload_n 0, 1) := by decide +kernel
theorem d3_7 : decode jdk_29_method_66_code 7 = .ok (.goto 4, 3) := by decide +kernel
theorem d3_11 : decode jdk_29_method_66_code 11 = .ok (.lreturn, 1) := by decide +kernel
def Q3 (q1 : Int64) (q2 : Int64) (h0 : Heap) (n0 : Nat) (v : Option Value) (h : Heap) (L : List Loc) : Prop := v = some (.long (if q1 < q2 then q2 else q1)) ∧ Fr n0 L ∧ h = h0
set_option maxRecDepth 65536 in
set_option maxHeartbeats 40000000 in
theorem rm3 (l : Launch) (Z : State) (a0 : Array Value) (hw : ∀ d ∈ tables_1, d.before a0 Z = true) (ws : List Jvm.Cond) (q1 : Int64) (q2 : Int64) (h0 : Heap) (n0 : Nat) (Z0 : n0 ≤ h0.size) :
    MetFree l (⟨"java/lang/Math", "max", "(JJ)J"⟩ : MethodName) (head1 (Jvm.Cond.code (⟨"java/lang/Math", "max", "(JJ)J"⟩ : MethodName) jdk_29_method_66_code 4 (some .long) :: ws) ({ frames := 0, cells := 0, slots := 0, locals := 0 } : Room)) (fun a U => a = #[(.long q1), (.long q2)] ∧ Z.Warmed39 U.vm ∧ U.heap = h0) (fun _ _ _ _ _ => True) (fun _ U o U' => ∃ v L, o = .returned v ∧ Q3 q1 q2 h0 n0 v U'.heap L ∧ FrameEnd U o U' L ({ frames := 0, cells := 0, slots := 0, locals := 0 } : Room).cells ({ frames := 0, cells := 0, slots := 0, locals := 0 } : Room).slots) := by
  refine MetFree.of_bodySF (Jvm.Free.JP.mathPlain rfl (by decide +kernel)) hisR ?_
  intro p e s m args below meth c s₁ Bd hml0 hP hK
  obtain ⟨rfl, hZ, hh⟩ := hP
  have hx := Bd.exec
  have hby := Bd.bytes
  have hml : c.maxLocals = 4 := hml0
  have hown : s.vm.findClass "java/lang/Math" = some m.cls := findClass_of_methodNamed Bd.named
  have hnm := (name_of_methodNamed Bd.named Bd.method).1
  have X0 : Stand p l e ({ frames := 0, cells := 0, slots := 0, locals := 0 } : Room) s m #[(.long q1), (.long q2)] below meth c s₁ [] 0 0 := Stand.of_body Bd
  have e0 : s₁.heap = h0 := by rw [← hh, Bd.state]; rfl
  have N0 := Fr.nil n0
  have pre0 : ∀ t, Steps p.tables e below (s₁.setTop (mkF m 0 #[.val (.long q1), .second, .val (.long q2), .second] [])) t → Steps p.tables e below (s₁.setTop (entryFrame m #[(.long q1), (.long q2)] 4)) t := fun t k => castTop (ef_27 m q1 q2) k
  have pre10 : ∀ t, Steps p.tables e below (s₁.setTop (mkF m 3 #[.val (.long q1), .second, .val (.long q2), .second] [(.int (lcmpW q1 q2))])) t → Steps p.tables e below (s₁.setTop (entryFrame m #[(.long q1), (.long q2)] 4)) t := fun t kt => pre0 t (by
    show Steps p.tables e below (s₁.setTop (mkF m 0 #[.val (.long q1), .second, .val (.long q2), .second] [])) _
    refine XS.lloadN X0.here hx rfl (hb hby d3_0) rfl ?_
    show Steps p.tables e below (s₁.setTop (mkF m 1 #[.val (.long q1), .second, .val (.long q2), .second] [(.long q1)])) _
    refine XS.lloadN X0.here hx rfl (hb hby d3_1) rfl ?_
    show Steps p.tables e below (s₁.setTop (mkF m 2 #[.val (.long q1), .second, .val (.long q2), .second] [(.long q2), (.long q1)])) _
    refine XS.lcmp X0.here hx rfl (hb hby d3_2) rfl ?_
    exact kt)
  obtain ⟨v12, hv12⟩ : ∃ z : Int64, z = (if q1 < q2 then q2 else q1) := ⟨_, rfl⟩
  have pre13 : ∀ t, Steps p.tables e below (s₁.setTop (mkF m 11 #[.val (.long q1), .second, .val (.long q2), .second] [(.long v12)])) t → Steps p.tables e below (s₁.setTop (entryFrame m #[(.long q1), (.long q2)] 4)) t := fun t kt => pre10 t (by
    by_cases hc11 : q1 < q2
    case pos =>
      show Steps p.tables e below (s₁.setTop (mkF m 3 #[.val (.long q1), .second, .val (.long q2), .second] [(.int (lcmpW q1 q2))])) _
      refine XS.ifYes X0.here hx rfl (pc0 := 3) (pc' := 10) rfl (hb hby d3_3) rfl ((if0 _ _).trans (tlt ((lw_lt _ _).mpr hc11)).1) (by decide) (by decide) ?_
      show Steps p.tables e below (s₁.setTop (mkF m 10 #[.val (.long q1), .second, .val (.long q2), .second] [])) _
      refine XS.lloadN X0.here hx rfl (hb hby d3_10) rfl ?_
      rw [show v12 = q2 from (hv12.trans (if_pos hc11))] at kt
      exact kt
    case neg =>
      show Steps p.tables e below (s₁.setTop (mkF m 3 #[.val (.long q1), .second, .val (.long q2), .second] [(.int (lcmpW q1 q2))])) _
      refine XS.ifNo X0.here hx rfl (hb hby d3_3) rfl ((if0 _ _).trans (flt (fun q => hc11 ((lw_lt _ _).mp q))).1) ?_
      show Steps p.tables e below (s₁.setTop (mkF m 6 #[.val (.long q1), .second, .val (.long q2), .second] [])) _
      refine XS.lloadN X0.here hx rfl (hb hby d3_6) rfl ?_
      show Steps p.tables e below (s₁.setTop (mkF m 7 #[.val (.long q1), .second, .val (.long q2), .second] [(.long q1)])) _
      refine XS.goto X0.here hx rfl (pc0 := 7) (pc' := 11) rfl (hb hby d3_7) (by decide) (by decide) ?_
      rw [show v12 = q1 from (hv12.trans (if_neg hc11))] at kt
      exact kt)
  exact own_retJ X0 hx Bd.notSynchronized Bd.returns (hb hby d3_11) pre13 (show Q3 q1 q2 h0 n0 _ _ _ from ⟨congrArg (fun z => some (Value.long z)) hv12, N0, e0⟩) (by decide) (by decide)
theorem own_law (q1 q2 : Int64) (p3 p4 : Int32) (xa ya sta len room : Int64) (bod ne1 exp1 : Int32) (hxa : xa = (q1 &&& (9223372036854775807 : Int64))) (hya : ya = (q2 &&& (9223372036854775807 : Int64))) (hsta : sta = (if (p4 &&& (1 : Int32)) = (0 : Int32) then (if ya < xa then ya else xa) else ((xa.toUInt64 >>> ((1 : Int32) &&& 0x3f).toInt64.toUInt64).toInt64))) (hlen : len = (if (p4 &&& (1 : Int32)) = (0 : Int32) then (if xa < ya then ya else xa) else (((xa.toUInt64 >>> ((1 : Int32) &&& 0x3f).toInt64.toUInt64).toInt64) + (ya &&& (63 : Int64))))) (hroom : room = (len - sta)) (hbod : bod = (if (p4 &&& (2 : Int32)) = (0 : Int32) then p3 else (((room - (8 : Int64)).toInt32) + (p3 - p3 / (3 : Int32) * (3 : Int32))))) (hne1 : ne1 = (if bod < (1 : Int32) then (0 : Int32) else (1 : Int32))) (hexp1 : exp1 = (if ne1 = (0 : Int32) then (0 : Int32) else (if room < (((4 : Int64) + (bod.toInt64)) + (4 : Int64)) then (0 : Int32) else (1 : Int32)))) : (if bod < (1 : Int32) then (0 : Int32) else (if ((len - sta) - (8 : Int64)) < (bod.toInt64) then (0 : Int32) else (1 : Int32))) = exp1 := by
  have ex : xa.toInt = q1.toInt % 2 ^ 63 := by rw [hxa]; exact Jvm.Kit.i64_mask q1 _ (k := 63) (by decide) (by decide)
  have ey : ya.toInt = q2.toInt % 2 ^ 63 := by rw [hya]; exact Jvm.Kit.i64_mask q2 _ (k := 63) (by decide) (by decide)
  have hsl : 0 ≤ sta.toInt ∧ sta.toInt ≤ len.toInt := by
    rw [hsta, hlen]
    by_cases h : p4 &&& (1 : Int32) = (0 : Int32)
    · rw [if_pos h, if_pos h]
      by_cases h1 : ya < xa <;> by_cases h2 : xa < ya <;> simp only [h1, h2, if_true, if_false] <;> rw [Int64.lt_iff_toInt_lt] at h1 h2 <;> omega
    · rw [if_neg h, if_neg h]
      have e1 : ((xa.toUInt64 >>> ((1 : Int32) &&& 0x3f).toInt64.toUInt64).toInt64).toInt = xa.toInt / 2 ^ 1 := Jvm.Kit.i64_lushr (Jvm.Kit.i64_nonneg.mpr (by omega)) (by decide) (by decide)
      have e2 : (ya &&& (63 : Int64)).toInt = ya.toInt % 2 ^ 6 := Jvm.Kit.i64_mask ya _ (k := 6) (by decide) (by decide)
      have e3 : (((xa.toUInt64 >>> ((1 : Int32) &&& 0x3f).toInt64.toUInt64).toInt64) + (ya &&& (63 : Int64))).toInt = ((xa.toUInt64 >>> ((1 : Int32) &&& 0x3f).toInt64.toUInt64).toInt64).toInt + (ya &&& (63 : Int64)).toInt := Jvm.Kit.i64_add (by omega) (by omega)
      omega
  have hl63 : len.toInt < 2 ^ 63 := Int64.toInt_lt len
  have er : room.toInt = len.toInt - sta.toInt := by rw [hroom]; exact Jvm.Kit.i64_sub (by omega) (by omega)
  have e8 : (8 : Int64).toInt = 8 := by decide
  have e4 : (4 : Int64).toInt = 4 := by decide
  have eb : bod.toInt64.toInt = bod.toInt := Jvm.Kit.i64_of_i32 bod
  have hb1 := Int32.le_toInt bod
  have hb2 := Int32.toInt_lt bod
  have e5 : ((4 : Int64) + bod.toInt64).toInt = 4 + bod.toInt := by rw [Jvm.Kit.i64_add (by omega) (by omega), e4, eb]
  have e6 : (((4 : Int64) + bod.toInt64) + (4 : Int64)).toInt = 8 + bod.toInt := by rw [Jvm.Kit.i64_add (by omega) (by omega), e4, e5]; omega
  have e7 : (room - (8 : Int64)).toInt = room.toInt - 8 := by rw [Jvm.Kit.i64_sub (by omega) (by omega), e8]
  rw [← hroom, hexp1, hne1]
  by_cases h1 : bod < (1 : Int32)
  · simp [h1]
  · simp only [h1, if_false]
    have q : ((room - (8 : Int64)) < bod.toInt64) ↔ (room < (((4 : Int64) + bod.toInt64) + (4 : Int64))) := by
      rw [Int64.lt_iff_toInt_lt, Int64.lt_iff_toInt_lt]; omega
    by_cases h2 : room < (((4 : Int64) + bod.toInt64) + (4 : Int64))
    · simp [h2, q.mpr h2]
    · simp [h2, mt q.mp h2]

theorem ef_36 (m : MethodId) (x0 : Int64) (x1 : Int64) (x2 : Int32) (x3 : Int32) : entryFrame m #[(.long x0), (.long x1), (.int x2), (.int x3)] maxLocals = mkF m 0 #[.val (.long x0), .second, .val (.long x1), .second, .val (.int x2), .val (.int x3), .unset, .unset, .unset, .unset, .unset, .unset, .unset, .unset, .unset, .unset, .unset, .unset, .unset, .unset, .unset] [] := by first | (simp [entryFrame, mkF, argsToLocals, Value.category, maxLocals]; done) | rfl
theorem pn_37 : plainName "bearings/core/RecordReaderFitsPinLaw" = true := by first | (simp [plainName, overriddenIn]; done) | decide +kernel
theorem pd_38 : parseMethodDescriptor "(JJ)J" = some ⟨[.long, .long], some .long⟩ := by decide +kernel
theorem pd_39 : parseMethodDescriptor "(IJJ)Z" = some ⟨[.int, .long, .long], some .boolean⟩ := by decide +kernel
def Q0 (h0 : Heap) (n0 : Nat) (v : Option Value) (h : Heap) (L : List Loc) : Prop := v = some (.int (1 : Int32)) ∧ Fr n0 L
set_option maxRecDepth 65536 in
set_option maxHeartbeats 40000000 in
theorem rm0 (l : Launch) (Z : State) (a0 : Array Value) (hw : ∀ d ∈ tables_1, d.before a0 Z = true) (ws : List Jvm.Cond) (q1 q2 : Int64) (p3 p4 : Int32) (h0 : Heap) (n0 : Nat) (Z0 : n0 ≤ h0.size) :
    MetFree l x (head1 (Jvm.Cond.code x code maxLocals ret :: ws) room_1) (fun a U => a = #[(.long q1), (.long q2), (.int p3), (.int p4)] ∧ Z.Warmed39 U.vm ∧ U.heap = h0) (fun _ _ _ _ _ => True) (fun _ U o U' => ∃ v L, o = .returned v ∧ Q0 h0 n0 v U'.heap L ∧ FrameEnd U o U' L room_1.cells room_1.slots) := by
  refine MetFree.of_bodySF (plainFor_of_name pn_37) hisR ?_
  intro p e s m args below meth c s₁ Bd hml0 hP hK
  obtain ⟨rfl, hZ, hh⟩ := hP
  have hx := Bd.exec
  have hby := Bd.bytes
  have hml : c.maxLocals = 21 := hml0
  have hown : s.vm.findClass "bearings/core/RecordReaderFitsPinLaw" = some m.cls := findClass_of_methodNamed Bd.named
  have hnm := (name_of_methodNamed Bd.named Bd.method).1
  have X0 : Stand p l e room_1 s m #[(.long q1), (.long q2), (.int p3), (.int p4)] below meth c s₁ [] 0 0 := Stand.of_body Bd
  have e0 : s₁.heap = h0 := by rw [← hh, Bd.state]; rfl
  have N0 := Fr.nil n0
  have pre0 : ∀ t, Steps p.tables e below (s₁.setTop (mkF m 0 #[.val (.long q1), .second, .val (.long q2), .second, .val (.int p3), .val (.int p4), .unset, .unset, .unset, .unset, .unset, .unset, .unset, .unset, .unset, .unset, .unset, .unset, .unset, .unset, .unset] [])) t → Steps p.tables e below (s₁.setTop (entryFrame m #[(.long q1), (.long q2), (.int p3), (.int p4)] maxLocals)) t := fun t k => castTop (ef_36 m q1 q2 p3 p4) k
  have pre14 : ∀ t, Steps p.tables e below (s₁.setTop (mkF m 14 #[.val (.long q1), .second, .val (.long q2), .second, .val (.int p3), .val (.int p4), .val (.long (q1 &&& (9223372036854775807 : Int64))), .second, .val (.long (q2 &&& (9223372036854775807 : Int64))), .second, .unset, .unset, .unset, .unset, .unset, .unset, .unset, .unset, .unset, .unset, .unset] [])) t → Steps p.tables e below (s₁.setTop (entryFrame m #[(.long q1), (.long q2), (.int p3), (.int p4)] maxLocals)) t := fun t kt => pre0 t (by
    show Steps p.tables e below (s₁.setTop (mkF m 0 #[.val (.long q1), .second, .val (.long q2), .second, .val (.int p3), .val (.int p4), .unset, .unset, .unset, .unset, .unset, .unset, .unset, .unset, .unset, .unset, .unset, .unset, .unset, .unset, .unset] [])) _
    refine XS.lloadN X0.here hx rfl (hb hby at_0) rfl ?_
    show Steps p.tables e below (s₁.setTop (mkF m 1 #[.val (.long q1), .second, .val (.long q2), .second, .val (.int p3), .val (.int p4), .unset, .unset, .unset, .unset, .unset, .unset, .unset, .unset, .unset, .unset, .unset, .unset, .unset, .unset, .unset] [(.long q1)])) _
    refine X0.ldc2Long hx hown (mvT hZ (hw _ (List.mem_of_getElem? (i := 0) rfl))) (g := (mkF m 1 #[.val (.long q1), .second, .val (.long q2), .second, .val (.int p3), .val (.int p4), .unset, .unset, .unset, .unset, .unset, .unset, .unset, .unset, .unset, .unset, .unset, .unset, .unset, .unset, .unset] [(.long q1)])) rfl (hb hby at_1) _ ?_
    show Steps p.tables e below (s₁.setTop (mkF m 4 #[.val (.long q1), .second, .val (.long q2), .second, .val (.int p3), .val (.int p4), .unset, .unset, .unset, .unset, .unset, .unset, .unset, .unset, .unset, .unset, .unset, .unset, .unset, .unset, .unset] [(.long (9223372036854775807 : Int64)), (.long q1)])) _
    refine XS.land X0.here hx rfl (hb hby at_4) rfl ?_
    show Steps p.tables e below (s₁.setTop (mkF m 5 #[.val (.long q1), .second, .val (.long q2), .second, .val (.int p3), .val (.int p4), .unset, .unset, .unset, .unset, .unset, .unset, .unset, .unset, .unset, .unset, .unset, .unset, .unset, .unset, .unset] [(.long (q1 &&& (9223372036854775807 : Int64)))])) _
    refine XS.lstore X0.here hx rfl (hb hby at_5) rfl (l' := #[.val (.long q1), .second, .val (.long q2), .second, .val (.int p3), .val (.int p4), .val (.long (q1 &&& (9223372036854775807 : Int64))), .second, .unset, .unset, .unset, .unset, .unset, .unset, .unset, .unset, .unset, .unset, .unset, .unset, .unset]) rfl ?_
    show Steps p.tables e below (s₁.setTop (mkF m 7 #[.val (.long q1), .second, .val (.long q2), .second, .val (.int p3), .val (.int p4), .val (.long (q1 &&& (9223372036854775807 : Int64))), .second, .unset, .unset, .unset, .unset, .unset, .unset, .unset, .unset, .unset, .unset, .unset, .unset, .unset] [])) _
    refine XS.lloadN X0.here hx rfl (hb hby at_7) rfl ?_
    show Steps p.tables e below (s₁.setTop (mkF m 8 #[.val (.long q1), .second, .val (.long q2), .second, .val (.int p3), .val (.int p4), .val (.long (q1 &&& (9223372036854775807 : Int64))), .second, .unset, .unset, .unset, .unset, .unset, .unset, .unset, .unset, .unset, .unset, .unset, .unset, .unset] [(.long q2)])) _
    refine X0.ldc2Long hx hown (mvT hZ (hw _ (List.mem_of_getElem? (i := 0) rfl))) (g := (mkF m 8 #[.val (.long q1), .second, .val (.long q2), .second, .val (.int p3), .val (.int p4), .val (.long (q1 &&& (9223372036854775807 : Int64))), .second, .unset, .unset, .unset, .unset, .unset, .unset, .unset, .unset, .unset, .unset, .unset, .unset, .unset] [(.long q2)])) rfl (hb hby at_8) _ ?_
    show Steps p.tables e below (s₁.setTop (mkF m 11 #[.val (.long q1), .second, .val (.long q2), .second, .val (.int p3), .val (.int p4), .val (.long (q1 &&& (9223372036854775807 : Int64))), .second, .unset, .unset, .unset, .unset, .unset, .unset, .unset, .unset, .unset, .unset, .unset, .unset, .unset] [(.long (9223372036854775807 : Int64)), (.long q2)])) _
    refine XS.land X0.here hx rfl (hb hby at_11) rfl ?_
    show Steps p.tables e below (s₁.setTop (mkF m 12 #[.val (.long q1), .second, .val (.long q2), .second, .val (.int p3), .val (.int p4), .val (.long (q1 &&& (9223372036854775807 : Int64))), .second, .unset, .unset, .unset, .unset, .unset, .unset, .unset, .unset, .unset, .unset, .unset, .unset, .unset] [(.long (q2 &&& (9223372036854775807 : Int64)))])) _
    refine XS.lstore X0.here hx rfl (hb hby at_12) rfl (l' := #[.val (.long q1), .second, .val (.long q2), .second, .val (.int p3), .val (.int p4), .val (.long (q1 &&& (9223372036854775807 : Int64))), .second, .val (.long (q2 &&& (9223372036854775807 : Int64))), .second, .unset, .unset, .unset, .unset, .unset, .unset, .unset, .unset, .unset, .unset, .unset]) rfl ?_
    exact kt)
  obtain ⟨xa, hxa⟩ : ∃ z : Int64, z = (q1 &&& (9223372036854775807 : Int64)) := ⟨_, rfl⟩
  have pre15 : ∀ t, Steps p.tables e below (s₁.setTop (mkF m 14 #[.val (.long q1), .second, .val (.long q2), .second, .val (.int p3), .val (.int p4), .val (.long xa), .second, .val (.long (q2 &&& (9223372036854775807 : Int64))), .second, .unset, .unset, .unset, .unset, .unset, .unset, .unset, .unset, .unset, .unset, .unset] [])) t → Steps p.tables e below (s₁.setTop (entryFrame m #[(.long q1), (.long q2), (.int p3), (.int p4)] maxLocals)) t := by rw [hxa]; exact pre14
  obtain ⟨ya, hya⟩ : ∃ z : Int64, z = (q2 &&& (9223372036854775807 : Int64)) := ⟨_, rfl⟩
  have pre16 : ∀ t, Steps p.tables e below (s₁.setTop (mkF m 14 #[.val (.long q1), .second, .val (.long q2), .second, .val (.int p3), .val (.int p4), .val (.long xa), .second, .val (.long ya), .second, .unset, .unset, .unset, .unset, .unset, .unset, .unset, .unset, .unset, .unset, .unset] [])) t → Steps p.tables e below (s₁.setTop (entryFrame m #[(.long q1), (.long q2), (.int p3), (.int p4)] maxLocals)) t := by rw [hya]; exact pre15
  have pre17 : ∀ t, Steps p.tables e below (s₁.setTop (mkF m 18 #[.val (.long q1), .second, .val (.long q2), .second, .val (.int p3), .val (.int p4), .val (.long xa), .second, .val (.long ya), .second, .unset, .unset, .unset, .unset, .unset, .unset, .unset, .unset, .unset, .unset, .unset] [(.int (p4 &&& (1 : Int32)))])) t → Steps p.tables e below (s₁.setTop (entryFrame m #[(.long q1), (.long q2), (.int p3), (.int p4)] maxLocals)) t := fun t kt => pre16 t (by
    show Steps p.tables e below (s₁.setTop (mkF m 14 #[.val (.long q1), .second, .val (.long q2), .second, .val (.int p3), .val (.int p4), .val (.long xa), .second, .val (.long ya), .second, .unset, .unset, .unset, .unset, .unset, .unset, .unset, .unset, .unset, .unset, .unset] [])) _
    refine XS.iload X0.here hx rfl (hb hby at_14) rfl ?_
    show Steps p.tables e below (s₁.setTop (mkF m 16 #[.val (.long q1), .second, .val (.long q2), .second, .val (.int p3), .val (.int p4), .val (.long xa), .second, .val (.long ya), .second, .unset, .unset, .unset, .unset, .unset, .unset, .unset, .unset, .unset, .unset, .unset] [(.int p4)])) _
    refine XS.iconst X0.here hx rfl (hb hby at_16) ?_
    show Steps p.tables e below (s₁.setTop (mkF m 17 #[.val (.long q1), .second, .val (.long q2), .second, .val (.int p3), .val (.int p4), .val (.long xa), .second, .val (.long ya), .second, .unset, .unset, .unset, .unset, .unset, .unset, .unset, .unset, .unset, .unset, .unset] [(.int (1 : Int32)), (.int p4)])) _
    refine XS.iand X0.here hx rfl (hb hby at_17) rfl ?_
    exact kt)
  obtain ⟨sta, hsta⟩ : ∃ z : Int64, z = (if (p4 &&& (1 : Int32)) = (0 : Int32) then (if ya < xa then ya else xa) else ((xa.toUInt64 >>> ((1 : Int32) &&& 0x3f).toInt64.toUInt64).toInt64)) := ⟨_, rfl⟩
  obtain ⟨len, hlen⟩ : ∃ z : Int64, z = (if (p4 &&& (1 : Int32)) = (0 : Int32) then (if xa < ya then ya else xa) else (((xa.toUInt64 >>> ((1 : Int32) &&& 0x3f).toInt64.toUInt64).toInt64) + (ya &&& (63 : Int64)))) := ⟨_, rfl⟩
  obtain ⟨T23, L23, X23, N23, e23, pre23⟩ : ∃ (T' : State) (locs' : List Loc), Stand p l e room_1 s m #[(.long q1), (.long q2), (.int p3), (.int p4)] below meth c T' locs' 0 0 ∧ Fr n0 locs' ∧ T'.heap = h0 ∧ ∀ t, Steps p.tables e below (T'.setTop (mkF m 59 #[.val (.long q1), .second, .val (.long q2), .second, .val (.int p3), .val (.int p4), .val (.long xa), .second, .val (.long ya), .second, .val (.long sta), .second, .val (.long len), .second, .unset, .unset, .unset, .unset, .unset, .unset, .unset] [])) t → Steps p.tables e below (s₁.setTop (entryFrame m #[(.long q1), (.long q2), (.int p3), (.int p4)] maxLocals)) t := by
    by_cases hc18 : (p4 &&& (1 : Int32)) = (0 : Int32)
    case pos =>
      obtain ⟨_, _, ⟨T19, L19, k19, n19⟩, -, X19, ⟨Lc19, hQ19, l19, y19, z19⟩, st19⟩ := Jvm.LawKit.callS X0 hx (y := (⟨"java/lang/Math", "min", "(JJ)J"⟩ : MethodName)) hown (mvT hZ (hw _ (List.mem_of_getElem? (i := 8) rfl))) (mvT hZ (hw _ (List.mem_of_getElem? (i := 9) rfl))) (mvT hZ (hw _ (List.mem_of_getElem? (i := 10) rfl))) (mvT hZ (hw _ (List.mem_of_getElem? (i := 11) rfl))) (by decide) (backOf (W := 0) (rm2 l Z a0 hw [] xa ya h0 n0 Z0) hZ (hw _ (List.mem_of_getElem? (i := 11) rfl)) (hw _ (List.mem_of_getElem? (i := 10) rfl)) (by decide) (by decide)) (g := (mkF m 25 #[.val (.long q1), .second, .val (.long q2), .second, .val (.int p3), .val (.int p4), .val (.long xa), .second, .val (.long ya), .second, .unset, .unset, .unset, .unset, .unset, .unset, .unset, .unset, .unset, .unset, .unset] [(.long ya), (.long xa)])) rfl (by rw [hml]; rfl) (argsL := [(.long xa), (.long ya)]) (rest := []) (lenOf pd_38 rfl) rfl (by show 2 * 0 + _ ≤ _; exact Nat.le_of_eq rfl) (hb hby at_25) (fun _ _ => ⟨rfl, e0, (by decide : 0 + 0 ≤ _), (by decide : 0 + 0 ≤ _)⟩)
      dsimp only [Pt.U, Pt.locs, Pt.cells, Pt.slots] at X19 l19 y19 z19 st19 hQ19
      subst l19 y19 z19
      obtain ⟨rfl, Nq19, e19⟩ := hQ19
      have N19 := Fr.app N0 Nq19
      obtain ⟨_, _, ⟨T20, L20, k20, n20⟩, -, X20, ⟨Lc20, hQ20, l20, y20, z20⟩, st20⟩ := Jvm.LawKit.callS X19 hx (y := (⟨"java/lang/Math", "max", "(JJ)J"⟩ : MethodName)) hown (mvT hZ (hw _ (List.mem_of_getElem? (i := 12) rfl))) (mvT hZ (hw _ (List.mem_of_getElem? (i := 13) rfl))) (mvT hZ (hw _ (List.mem_of_getElem? (i := 10) rfl))) (mvT hZ (hw _ (List.mem_of_getElem? (i := 14) rfl))) (by decide) (backOf (W := 0) (rm3 l Z a0 hw [] xa ya h0 n0 Z0) hZ (hw _ (List.mem_of_getElem? (i := 14) rfl)) (hw _ (List.mem_of_getElem? (i := 10) rfl)) (by decide) (by decide)) (g := (mkF m 34 #[.val (.long q1), .second, .val (.long q2), .second, .val (.int p3), .val (.int p4), .val (.long xa), .second, .val (.long ya), .second, .val (.long (if ya < xa then ya else xa)), .second, .unset, .unset, .unset, .unset, .unset, .unset, .unset, .unset, .unset] [(.long ya), (.long xa)])) rfl (by rw [hml]; rfl) (argsL := [(.long xa), (.long ya)]) (rest := []) (lenOf pd_38 rfl) rfl (by show 2 * 0 + _ ≤ _; exact Nat.le_of_eq rfl) (hb hby at_34) (fun _ _ => ⟨rfl, e19, (by decide : 0 + 0 ≤ _), (by decide : 0 + 0 ≤ _)⟩)
      dsimp only [Pt.U, Pt.locs, Pt.cells, Pt.slots] at X20 l20 y20 z20 st20 hQ20
      subst l20 y20 z20
      obtain ⟨rfl, Nq20, e20⟩ := hQ20
      have N20 := Fr.app N19 Nq20
      have pre21 : ∀ t, Steps p.tables e below (T20.setTop (mkF m 59 #[.val (.long q1), .second, .val (.long q2), .second, .val (.int p3), .val (.int p4), .val (.long xa), .second, .val (.long ya), .second, .val (.long (if ya < xa then ya else xa)), .second, .val (.long (if xa < ya then ya else xa)), .second, .unset, .unset, .unset, .unset, .unset, .unset, .unset] [])) t → Steps p.tables e below (s₁.setTop (entryFrame m #[(.long q1), (.long q2), (.int p3), (.int p4)] maxLocals)) t := fun t kt => pre17 t (by
        show Steps p.tables e below (s₁.setTop (mkF m 18 #[.val (.long q1), .second, .val (.long q2), .second, .val (.int p3), .val (.int p4), .val (.long xa), .second, .val (.long ya), .second, .unset, .unset, .unset, .unset, .unset, .unset, .unset, .unset, .unset, .unset, .unset] [(.int (p4 &&& (1 : Int32)))])) _
        refine XS.ifNo X0.here hx rfl (hb hby at_18) rfl ((if0 _ _).trans (teq hc18).2) ?_
        show Steps p.tables e below (s₁.setTop (mkF m 21 #[.val (.long q1), .second, .val (.long q2), .second, .val (.int p3), .val (.int p4), .val (.long xa), .second, .val (.long ya), .second, .unset, .unset, .unset, .unset, .unset, .unset, .unset, .unset, .unset, .unset, .unset] [])) _
        refine XS.lload X0.here hx rfl (hb hby at_21) rfl ?_
        show Steps p.tables e below (s₁.setTop (mkF m 23 #[.val (.long q1), .second, .val (.long q2), .second, .val (.int p3), .val (.int p4), .val (.long xa), .second, .val (.long ya), .second, .unset, .unset, .unset, .unset, .unset, .unset, .unset, .unset, .unset, .unset, .unset] [(.long xa)])) _
        refine XS.lload X0.here hx rfl (hb hby at_23) rfl ?_
        show Steps p.tables e below (s₁.setTop (mkF m 25 #[.val (.long q1), .second, .val (.long q2), .second, .val (.int p3), .val (.int p4), .val (.long xa), .second, .val (.long ya), .second, .unset, .unset, .unset, .unset, .unset, .unset, .unset, .unset, .unset, .unset, .unset] [(.long ya), (.long xa)])) _
        refine st19 _ ?_
        show Steps p.tables e below (T19.setTop (mkF m 28 #[.val (.long q1), .second, .val (.long q2), .second, .val (.int p3), .val (.int p4), .val (.long xa), .second, .val (.long ya), .second, .unset, .unset, .unset, .unset, .unset, .unset, .unset, .unset, .unset, .unset, .unset] [(.long (if ya < xa then ya else xa))])) _
        refine XS.lstore X19.here hx rfl (hb hby at_28) rfl (l' := #[.val (.long q1), .second, .val (.long q2), .second, .val (.int p3), .val (.int p4), .val (.long xa), .second, .val (.long ya), .second, .val (.long (if ya < xa then ya else xa)), .second, .unset, .unset, .unset, .unset, .unset, .unset, .unset, .unset, .unset]) rfl ?_
        show Steps p.tables e below (T19.setTop (mkF m 30 #[.val (.long q1), .second, .val (.long q2), .second, .val (.int p3), .val (.int p4), .val (.long xa), .second, .val (.long ya), .second, .val (.long (if ya < xa then ya else xa)), .second, .unset, .unset, .unset, .unset, .unset, .unset, .unset, .unset, .unset] [])) _
        refine XS.lload X19.here hx rfl (hb hby at_30) rfl ?_
        show Steps p.tables e below (T19.setTop (mkF m 32 #[.val (.long q1), .second, .val (.long q2), .second, .val (.int p3), .val (.int p4), .val (.long xa), .second, .val (.long ya), .second, .val (.long (if ya < xa then ya else xa)), .second, .unset, .unset, .unset, .unset, .unset, .unset, .unset, .unset, .unset] [(.long xa)])) _
        refine XS.lload X19.here hx rfl (hb hby at_32) rfl ?_
        show Steps p.tables e below (T19.setTop (mkF m 34 #[.val (.long q1), .second, .val (.long q2), .second, .val (.int p3), .val (.int p4), .val (.long xa), .second, .val (.long ya), .second, .val (.long (if ya < xa then ya else xa)), .second, .unset, .unset, .unset, .unset, .unset, .unset, .unset, .unset, .unset] [(.long ya), (.long xa)])) _
        refine st20 _ ?_
        show Steps p.tables e below (T20.setTop (mkF m 37 #[.val (.long q1), .second, .val (.long q2), .second, .val (.int p3), .val (.int p4), .val (.long xa), .second, .val (.long ya), .second, .val (.long (if ya < xa then ya else xa)), .second, .unset, .unset, .unset, .unset, .unset, .unset, .unset, .unset, .unset] [(.long (if xa < ya then ya else xa))])) _
        refine XS.lstore X20.here hx rfl (hb hby at_37) rfl (l' := #[.val (.long q1), .second, .val (.long q2), .second, .val (.int p3), .val (.int p4), .val (.long xa), .second, .val (.long ya), .second, .val (.long (if ya < xa then ya else xa)), .second, .val (.long (if xa < ya then ya else xa)), .second, .unset, .unset, .unset, .unset, .unset, .unset, .unset]) rfl ?_
        show Steps p.tables e below (T20.setTop (mkF m 39 #[.val (.long q1), .second, .val (.long q2), .second, .val (.int p3), .val (.int p4), .val (.long xa), .second, .val (.long ya), .second, .val (.long (if ya < xa then ya else xa)), .second, .val (.long (if xa < ya then ya else xa)), .second, .unset, .unset, .unset, .unset, .unset, .unset, .unset] [])) _
        refine XS.goto X20.here hx rfl (pc0 := 39) (pc' := 59) rfl (hb hby at_39) (by decide) (by decide) ?_
        exact kt)
      rw [show sta = (if ya < xa then ya else xa) from (hsta.trans (if_pos hc18))]
      rw [show len = (if xa < ya then ya else xa) from (hlen.trans (if_pos hc18))]
      exact ⟨T20, _, own_more X20 (by decide) (by decide), N20, e20, pre21⟩
    case neg =>
      have pre22 : ∀ t, Steps p.tables e below (s₁.setTop (mkF m 59 #[.val (.long q1), .second, .val (.long q2), .second, .val (.int p3), .val (.int p4), .val (.long xa), .second, .val (.long ya), .second, .val (.long ((xa.toUInt64 >>> ((1 : Int32) &&& 0x3f).toInt64.toUInt64).toInt64)), .second, .val (.long (((xa.toUInt64 >>> ((1 : Int32) &&& 0x3f).toInt64.toUInt64).toInt64) + (ya &&& (63 : Int64)))), .second, .unset, .unset, .unset, .unset, .unset, .unset, .unset] [])) t → Steps p.tables e below (s₁.setTop (entryFrame m #[(.long q1), (.long q2), (.int p3), (.int p4)] maxLocals)) t := fun t kt => pre17 t (by
        show Steps p.tables e below (s₁.setTop (mkF m 18 #[.val (.long q1), .second, .val (.long q2), .second, .val (.int p3), .val (.int p4), .val (.long xa), .second, .val (.long ya), .second, .unset, .unset, .unset, .unset, .unset, .unset, .unset, .unset, .unset, .unset, .unset] [(.int (p4 &&& (1 : Int32)))])) _
        refine XS.ifYes X0.here hx rfl (pc0 := 18) (pc' := 42) rfl (hb hby at_18) rfl ((if0 _ _).trans (feq hc18).2) (by decide) (by decide) ?_
        show Steps p.tables e below (s₁.setTop (mkF m 42 #[.val (.long q1), .second, .val (.long q2), .second, .val (.int p3), .val (.int p4), .val (.long xa), .second, .val (.long ya), .second, .unset, .unset, .unset, .unset, .unset, .unset, .unset, .unset, .unset, .unset, .unset] [])) _
        refine XS.lload X0.here hx rfl (hb hby at_42) rfl ?_
        show Steps p.tables e below (s₁.setTop (mkF m 44 #[.val (.long q1), .second, .val (.long q2), .second, .val (.int p3), .val (.int p4), .val (.long xa), .second, .val (.long ya), .second, .unset, .unset, .unset, .unset, .unset, .unset, .unset, .unset, .unset, .unset, .unset] [(.long xa)])) _
        refine XS.iconst X0.here hx rfl (hb hby at_44) ?_
        show Steps p.tables e below (s₁.setTop (mkF m 45 #[.val (.long q1), .second, .val (.long q2), .second, .val (.int p3), .val (.int p4), .val (.long xa), .second, .val (.long ya), .second, .unset, .unset, .unset, .unset, .unset, .unset, .unset, .unset, .unset, .unset, .unset] [(.int (1 : Int32)), (.long xa)])) _
        refine XS.lushr X0.here hx rfl (hb hby at_45) rfl ?_
        show Steps p.tables e below (s₁.setTop (mkF m 46 #[.val (.long q1), .second, .val (.long q2), .second, .val (.int p3), .val (.int p4), .val (.long xa), .second, .val (.long ya), .second, .unset, .unset, .unset, .unset, .unset, .unset, .unset, .unset, .unset, .unset, .unset] [(.long ((xa.toUInt64 >>> ((1 : Int32) &&& 0x3f).toInt64.toUInt64).toInt64))])) _
        refine XS.lstore X0.here hx rfl (hb hby at_46) rfl (l' := #[.val (.long q1), .second, .val (.long q2), .second, .val (.int p3), .val (.int p4), .val (.long xa), .second, .val (.long ya), .second, .val (.long ((xa.toUInt64 >>> ((1 : Int32) &&& 0x3f).toInt64.toUInt64).toInt64)), .second, .unset, .unset, .unset, .unset, .unset, .unset, .unset, .unset, .unset]) rfl ?_
        show Steps p.tables e below (s₁.setTop (mkF m 48 #[.val (.long q1), .second, .val (.long q2), .second, .val (.int p3), .val (.int p4), .val (.long xa), .second, .val (.long ya), .second, .val (.long ((xa.toUInt64 >>> ((1 : Int32) &&& 0x3f).toInt64.toUInt64).toInt64)), .second, .unset, .unset, .unset, .unset, .unset, .unset, .unset, .unset, .unset] [])) _
        refine XS.lload X0.here hx rfl (hb hby at_48) rfl ?_
        show Steps p.tables e below (s₁.setTop (mkF m 50 #[.val (.long q1), .second, .val (.long q2), .second, .val (.int p3), .val (.int p4), .val (.long xa), .second, .val (.long ya), .second, .val (.long ((xa.toUInt64 >>> ((1 : Int32) &&& 0x3f).toInt64.toUInt64).toInt64)), .second, .unset, .unset, .unset, .unset, .unset, .unset, .unset, .unset, .unset] [(.long ((xa.toUInt64 >>> ((1 : Int32) &&& 0x3f).toInt64.toUInt64).toInt64))])) _
        refine XS.lload X0.here hx rfl (hb hby at_50) rfl ?_
        show Steps p.tables e below (s₁.setTop (mkF m 52 #[.val (.long q1), .second, .val (.long q2), .second, .val (.int p3), .val (.int p4), .val (.long xa), .second, .val (.long ya), .second, .val (.long ((xa.toUInt64 >>> ((1 : Int32) &&& 0x3f).toInt64.toUInt64).toInt64)), .second, .unset, .unset, .unset, .unset, .unset, .unset, .unset, .unset, .unset] [(.long ya), (.long ((xa.toUInt64 >>> ((1 : Int32) &&& 0x3f).toInt64.toUInt64).toInt64))])) _
        refine X0.ldc2Long hx hown (mvT hZ (hw _ (List.mem_of_getElem? (i := 1) rfl))) (g := (mkF m 52 #[.val (.long q1), .second, .val (.long q2), .second, .val (.int p3), .val (.int p4), .val (.long xa), .second, .val (.long ya), .second, .val (.long ((xa.toUInt64 >>> ((1 : Int32) &&& 0x3f).toInt64.toUInt64).toInt64)), .second, .unset, .unset, .unset, .unset, .unset, .unset, .unset, .unset, .unset] [(.long ya), (.long ((xa.toUInt64 >>> ((1 : Int32) &&& 0x3f).toInt64.toUInt64).toInt64))])) rfl (hb hby at_52) _ ?_
        show Steps p.tables e below (s₁.setTop (mkF m 55 #[.val (.long q1), .second, .val (.long q2), .second, .val (.int p3), .val (.int p4), .val (.long xa), .second, .val (.long ya), .second, .val (.long ((xa.toUInt64 >>> ((1 : Int32) &&& 0x3f).toInt64.toUInt64).toInt64)), .second, .unset, .unset, .unset, .unset, .unset, .unset, .unset, .unset, .unset] [(.long (63 : Int64)), (.long ya), (.long ((xa.toUInt64 >>> ((1 : Int32) &&& 0x3f).toInt64.toUInt64).toInt64))])) _
        refine XS.land X0.here hx rfl (hb hby at_55) rfl ?_
        show Steps p.tables e below (s₁.setTop (mkF m 56 #[.val (.long q1), .second, .val (.long q2), .second, .val (.int p3), .val (.int p4), .val (.long xa), .second, .val (.long ya), .second, .val (.long ((xa.toUInt64 >>> ((1 : Int32) &&& 0x3f).toInt64.toUInt64).toInt64)), .second, .unset, .unset, .unset, .unset, .unset, .unset, .unset, .unset, .unset] [(.long (ya &&& (63 : Int64))), (.long ((xa.toUInt64 >>> ((1 : Int32) &&& 0x3f).toInt64.toUInt64).toInt64))])) _
        refine XS.ladd X0.here hx rfl (hb hby at_56) rfl ?_
        show Steps p.tables e below (s₁.setTop (mkF m 57 #[.val (.long q1), .second, .val (.long q2), .second, .val (.int p3), .val (.int p4), .val (.long xa), .second, .val (.long ya), .second, .val (.long ((xa.toUInt64 >>> ((1 : Int32) &&& 0x3f).toInt64.toUInt64).toInt64)), .second, .unset, .unset, .unset, .unset, .unset, .unset, .unset, .unset, .unset] [(.long (((xa.toUInt64 >>> ((1 : Int32) &&& 0x3f).toInt64.toUInt64).toInt64) + (ya &&& (63 : Int64))))])) _
        refine XS.lstore X0.here hx rfl (hb hby at_57) rfl (l' := #[.val (.long q1), .second, .val (.long q2), .second, .val (.int p3), .val (.int p4), .val (.long xa), .second, .val (.long ya), .second, .val (.long ((xa.toUInt64 >>> ((1 : Int32) &&& 0x3f).toInt64.toUInt64).toInt64)), .second, .val (.long (((xa.toUInt64 >>> ((1 : Int32) &&& 0x3f).toInt64.toUInt64).toInt64) + (ya &&& (63 : Int64)))), .second, .unset, .unset, .unset, .unset, .unset, .unset, .unset]) rfl ?_
        exact kt)
      rw [show sta = ((xa.toUInt64 >>> ((1 : Int32) &&& 0x3f).toInt64.toUInt64).toInt64) from (hsta.trans (if_neg hc18))]
      rw [show len = (((xa.toUInt64 >>> ((1 : Int32) &&& 0x3f).toInt64.toUInt64).toInt64) + (ya &&& (63 : Int64))) from (hlen.trans (if_neg hc18))]
      exact ⟨s₁, _, own_more X0 (by decide) (by decide), N0, e0, pre22⟩
  have pre24 : ∀ t, Steps p.tables e below (T23.setTop (mkF m 70 #[.val (.long q1), .second, .val (.long q2), .second, .val (.int p3), .val (.int p4), .val (.long xa), .second, .val (.long ya), .second, .val (.long sta), .second, .val (.long len), .second, .val (.long (len - sta)), .second, .unset, .unset, .unset, .unset, .unset] [(.int (p4 &&& (2 : Int32)))])) t → Steps p.tables e below (s₁.setTop (entryFrame m #[(.long q1), (.long q2), (.int p3), (.int p4)] maxLocals)) t := fun t kt => pre23 t (by
    show Steps p.tables e below (T23.setTop (mkF m 59 #[.val (.long q1), .second, .val (.long q2), .second, .val (.int p3), .val (.int p4), .val (.long xa), .second, .val (.long ya), .second, .val (.long sta), .second, .val (.long len), .second, .unset, .unset, .unset, .unset, .unset, .unset, .unset] [])) _
    refine XS.lload X23.here hx rfl (hb hby at_59) rfl ?_
    show Steps p.tables e below (T23.setTop (mkF m 61 #[.val (.long q1), .second, .val (.long q2), .second, .val (.int p3), .val (.int p4), .val (.long xa), .second, .val (.long ya), .second, .val (.long sta), .second, .val (.long len), .second, .unset, .unset, .unset, .unset, .unset, .unset, .unset] [(.long len)])) _
    refine XS.lload X23.here hx rfl (hb hby at_61) rfl ?_
    show Steps p.tables e below (T23.setTop (mkF m 63 #[.val (.long q1), .second, .val (.long q2), .second, .val (.int p3), .val (.int p4), .val (.long xa), .second, .val (.long ya), .second, .val (.long sta), .second, .val (.long len), .second, .unset, .unset, .unset, .unset, .unset, .unset, .unset] [(.long sta), (.long len)])) _
    refine XS.lsub X23.here hx rfl (hb hby at_63) rfl ?_
    show Steps p.tables e below (T23.setTop (mkF m 64 #[.val (.long q1), .second, .val (.long q2), .second, .val (.int p3), .val (.int p4), .val (.long xa), .second, .val (.long ya), .second, .val (.long sta), .second, .val (.long len), .second, .unset, .unset, .unset, .unset, .unset, .unset, .unset] [(.long (len - sta))])) _
    refine XS.lstore X23.here hx rfl (hb hby at_64) rfl (l' := #[.val (.long q1), .second, .val (.long q2), .second, .val (.int p3), .val (.int p4), .val (.long xa), .second, .val (.long ya), .second, .val (.long sta), .second, .val (.long len), .second, .val (.long (len - sta)), .second, .unset, .unset, .unset, .unset, .unset]) rfl ?_
    show Steps p.tables e below (T23.setTop (mkF m 66 #[.val (.long q1), .second, .val (.long q2), .second, .val (.int p3), .val (.int p4), .val (.long xa), .second, .val (.long ya), .second, .val (.long sta), .second, .val (.long len), .second, .val (.long (len - sta)), .second, .unset, .unset, .unset, .unset, .unset] [])) _
    refine XS.iload X23.here hx rfl (hb hby at_66) rfl ?_
    show Steps p.tables e below (T23.setTop (mkF m 68 #[.val (.long q1), .second, .val (.long q2), .second, .val (.int p3), .val (.int p4), .val (.long xa), .second, .val (.long ya), .second, .val (.long sta), .second, .val (.long len), .second, .val (.long (len - sta)), .second, .unset, .unset, .unset, .unset, .unset] [(.int p4)])) _
    refine XS.iconst X23.here hx rfl (hb hby at_68) ?_
    show Steps p.tables e below (T23.setTop (mkF m 69 #[.val (.long q1), .second, .val (.long q2), .second, .val (.int p3), .val (.int p4), .val (.long xa), .second, .val (.long ya), .second, .val (.long sta), .second, .val (.long len), .second, .val (.long (len - sta)), .second, .unset, .unset, .unset, .unset, .unset] [(.int (2 : Int32)), (.int p4)])) _
    refine XS.iand X23.here hx rfl (hb hby at_69) rfl ?_
    exact kt)
  obtain ⟨room, hroom⟩ : ∃ z : Int64, z = (len - sta) := ⟨_, rfl⟩
  have pre25 : ∀ t, Steps p.tables e below (T23.setTop (mkF m 70 #[.val (.long q1), .second, .val (.long q2), .second, .val (.int p3), .val (.int p4), .val (.long xa), .second, .val (.long ya), .second, .val (.long sta), .second, .val (.long len), .second, .val (.long room), .second, .unset, .unset, .unset, .unset, .unset] [(.int (p4 &&& (2 : Int32)))])) t → Steps p.tables e below (s₁.setTop (entryFrame m #[(.long q1), (.long q2), (.int p3), (.int p4)] maxLocals)) t := by rw [hroom]; exact pre24
  obtain ⟨bod, hbod⟩ : ∃ z : Int32, z = (if (p4 &&& (2 : Int32)) = (0 : Int32) then p3 else (((room - (8 : Int64)).toInt32) + (p3 - p3 / (3 : Int32) * (3 : Int32)))) := ⟨_, rfl⟩
  have pre27 : ∀ t, Steps p.tables e below (T23.setTop (mkF m 94 #[.val (.long q1), .second, .val (.long q2), .second, .val (.int p3), .val (.int p4), .val (.long xa), .second, .val (.long ya), .second, .val (.long sta), .second, .val (.long len), .second, .val (.long room), .second, .val (.int bod), .unset, .unset, .unset, .unset] [])) t → Steps p.tables e below (s₁.setTop (entryFrame m #[(.long q1), (.long q2), (.int p3), (.int p4)] maxLocals)) t := fun t kt => pre25 t (by
    by_cases hc26 : (p4 &&& (2 : Int32)) = (0 : Int32)
    case pos =>
      show Steps p.tables e below (T23.setTop (mkF m 70 #[.val (.long q1), .second, .val (.long q2), .second, .val (.int p3), .val (.int p4), .val (.long xa), .second, .val (.long ya), .second, .val (.long sta), .second, .val (.long len), .second, .val (.long room), .second, .unset, .unset, .unset, .unset, .unset] [(.int (p4 &&& (2 : Int32)))])) _
      refine XS.ifNo X23.here hx rfl (hb hby at_70) rfl ((if0 _ _).trans (teq hc26).2) ?_
      show Steps p.tables e below (T23.setTop (mkF m 73 #[.val (.long q1), .second, .val (.long q2), .second, .val (.int p3), .val (.int p4), .val (.long xa), .second, .val (.long ya), .second, .val (.long sta), .second, .val (.long len), .second, .val (.long room), .second, .unset, .unset, .unset, .unset, .unset] [])) _
      refine XS.iload X23.here hx rfl (hb hby at_73) rfl ?_
      show Steps p.tables e below (T23.setTop (mkF m 75 #[.val (.long q1), .second, .val (.long q2), .second, .val (.int p3), .val (.int p4), .val (.long xa), .second, .val (.long ya), .second, .val (.long sta), .second, .val (.long len), .second, .val (.long room), .second, .unset, .unset, .unset, .unset, .unset] [(.int p3)])) _
      refine XS.istore X23.here hx rfl (hb hby at_75) rfl (l' := #[.val (.long q1), .second, .val (.long q2), .second, .val (.int p3), .val (.int p4), .val (.long xa), .second, .val (.long ya), .second, .val (.long sta), .second, .val (.long len), .second, .val (.long room), .second, .val (.int p3), .unset, .unset, .unset, .unset]) rfl ?_
      show Steps p.tables e below (T23.setTop (mkF m 77 #[.val (.long q1), .second, .val (.long q2), .second, .val (.int p3), .val (.int p4), .val (.long xa), .second, .val (.long ya), .second, .val (.long sta), .second, .val (.long len), .second, .val (.long room), .second, .val (.int p3), .unset, .unset, .unset, .unset] [])) _
      refine XS.goto X23.here hx rfl (pc0 := 77) (pc' := 94) rfl (hb hby at_77) (by decide) (by decide) ?_
      rw [show bod = p3 from (hbod.trans (if_pos hc26))] at kt
      exact kt
    case neg =>
      show Steps p.tables e below (T23.setTop (mkF m 70 #[.val (.long q1), .second, .val (.long q2), .second, .val (.int p3), .val (.int p4), .val (.long xa), .second, .val (.long ya), .second, .val (.long sta), .second, .val (.long len), .second, .val (.long room), .second, .unset, .unset, .unset, .unset, .unset] [(.int (p4 &&& (2 : Int32)))])) _
      refine XS.ifYes X23.here hx rfl (pc0 := 70) (pc' := 80) rfl (hb hby at_70) rfl ((if0 _ _).trans (feq hc26).2) (by decide) (by decide) ?_
      show Steps p.tables e below (T23.setTop (mkF m 80 #[.val (.long q1), .second, .val (.long q2), .second, .val (.int p3), .val (.int p4), .val (.long xa), .second, .val (.long ya), .second, .val (.long sta), .second, .val (.long len), .second, .val (.long room), .second, .unset, .unset, .unset, .unset, .unset] [])) _
      refine XS.lload X23.here hx rfl (hb hby at_80) rfl ?_
      show Steps p.tables e below (T23.setTop (mkF m 82 #[.val (.long q1), .second, .val (.long q2), .second, .val (.int p3), .val (.int p4), .val (.long xa), .second, .val (.long ya), .second, .val (.long sta), .second, .val (.long len), .second, .val (.long room), .second, .unset, .unset, .unset, .unset, .unset] [(.long room)])) _
      refine X23.ldc2Long hx hown (mvT hZ (hw _ (List.mem_of_getElem? (i := 2) rfl))) (g := (mkF m 82 #[.val (.long q1), .second, .val (.long q2), .second, .val (.int p3), .val (.int p4), .val (.long xa), .second, .val (.long ya), .second, .val (.long sta), .second, .val (.long len), .second, .val (.long room), .second, .unset, .unset, .unset, .unset, .unset] [(.long room)])) rfl (hb hby at_82) _ ?_
      show Steps p.tables e below (T23.setTop (mkF m 85 #[.val (.long q1), .second, .val (.long q2), .second, .val (.int p3), .val (.int p4), .val (.long xa), .second, .val (.long ya), .second, .val (.long sta), .second, .val (.long len), .second, .val (.long room), .second, .unset, .unset, .unset, .unset, .unset] [(.long (8 : Int64)), (.long room)])) _
      refine XS.lsub X23.here hx rfl (hb hby at_85) rfl ?_
      show Steps p.tables e below (T23.setTop (mkF m 86 #[.val (.long q1), .second, .val (.long q2), .second, .val (.int p3), .val (.int p4), .val (.long xa), .second, .val (.long ya), .second, .val (.long sta), .second, .val (.long len), .second, .val (.long room), .second, .unset, .unset, .unset, .unset, .unset] [(.long (room - (8 : Int64)))])) _
      refine XS.l2i X23.here hx rfl (hb hby at_86) rfl ?_
      show Steps p.tables e below (T23.setTop (mkF m 87 #[.val (.long q1), .second, .val (.long q2), .second, .val (.int p3), .val (.int p4), .val (.long xa), .second, .val (.long ya), .second, .val (.long sta), .second, .val (.long len), .second, .val (.long room), .second, .unset, .unset, .unset, .unset, .unset] [(.int ((room - (8 : Int64)).toInt32))])) _
      refine XS.iload X23.here hx rfl (hb hby at_87) rfl ?_
      show Steps p.tables e below (T23.setTop (mkF m 89 #[.val (.long q1), .second, .val (.long q2), .second, .val (.int p3), .val (.int p4), .val (.long xa), .second, .val (.long ya), .second, .val (.long sta), .second, .val (.long len), .second, .val (.long room), .second, .unset, .unset, .unset, .unset, .unset] [(.int p3), (.int ((room - (8 : Int64)).toInt32))])) _
      refine XS.iconst X23.here hx rfl (hb hby at_89) ?_
      show Steps p.tables e below (T23.setTop (mkF m 90 #[.val (.long q1), .second, .val (.long q2), .second, .val (.int p3), .val (.int p4), .val (.long xa), .second, .val (.long ya), .second, .val (.long sta), .second, .val (.long len), .second, .val (.long room), .second, .unset, .unset, .unset, .unset, .unset] [(.int (3 : Int32)), (.int p3), (.int ((room - (8 : Int64)).toInt32))])) _
      refine XS.irem X23.here hx rfl (hb hby at_90) rfl (by decide) ?_
      show Steps p.tables e below (T23.setTop (mkF m 91 #[.val (.long q1), .second, .val (.long q2), .second, .val (.int p3), .val (.int p4), .val (.long xa), .second, .val (.long ya), .second, .val (.long sta), .second, .val (.long len), .second, .val (.long room), .second, .unset, .unset, .unset, .unset, .unset] [(.int (p3 - p3 / (3 : Int32) * (3 : Int32))), (.int ((room - (8 : Int64)).toInt32))])) _
      refine XS.iadd X23.here hx rfl (hb hby at_91) rfl ?_
      show Steps p.tables e below (T23.setTop (mkF m 92 #[.val (.long q1), .second, .val (.long q2), .second, .val (.int p3), .val (.int p4), .val (.long xa), .second, .val (.long ya), .second, .val (.long sta), .second, .val (.long len), .second, .val (.long room), .second, .unset, .unset, .unset, .unset, .unset] [(.int (((room - (8 : Int64)).toInt32) + (p3 - p3 / (3 : Int32) * (3 : Int32))))])) _
      refine XS.istore X23.here hx rfl (hb hby at_92) rfl (l' := #[.val (.long q1), .second, .val (.long q2), .second, .val (.int p3), .val (.int p4), .val (.long xa), .second, .val (.long ya), .second, .val (.long sta), .second, .val (.long len), .second, .val (.long room), .second, .val (.int (((room - (8 : Int64)).toInt32) + (p3 - p3 / (3 : Int32) * (3 : Int32)))), .unset, .unset, .unset, .unset]) rfl ?_
      rw [show bod = (((room - (8 : Int64)).toInt32) + (p3 - p3 / (3 : Int32) * (3 : Int32))) from (hbod.trans (if_neg hc26))] at kt
      exact kt)
  have pre28 : ∀ t, Steps p.tables e below (T23.setTop (mkF m 97 #[.val (.long q1), .second, .val (.long q2), .second, .val (.int p3), .val (.int p4), .val (.long xa), .second, .val (.long ya), .second, .val (.long sta), .second, .val (.long len), .second, .val (.long room), .second, .val (.int bod), .unset, .unset, .unset, .unset] [(.int (1 : Int32)), (.int bod)])) t → Steps p.tables e below (s₁.setTop (entryFrame m #[(.long q1), (.long q2), (.int p3), (.int p4)] maxLocals)) t := fun t kt => pre27 t (by
    show Steps p.tables e below (T23.setTop (mkF m 94 #[.val (.long q1), .second, .val (.long q2), .second, .val (.int p3), .val (.int p4), .val (.long xa), .second, .val (.long ya), .second, .val (.long sta), .second, .val (.long len), .second, .val (.long room), .second, .val (.int bod), .unset, .unset, .unset, .unset] [])) _
    refine XS.iload X23.here hx rfl (hb hby at_94) rfl ?_
    show Steps p.tables e below (T23.setTop (mkF m 96 #[.val (.long q1), .second, .val (.long q2), .second, .val (.int p3), .val (.int p4), .val (.long xa), .second, .val (.long ya), .second, .val (.long sta), .second, .val (.long len), .second, .val (.long room), .second, .val (.int bod), .unset, .unset, .unset, .unset] [(.int bod)])) _
    refine XS.iconst X23.here hx rfl (hb hby at_96) ?_
    exact kt)
  obtain ⟨ne1, hne1⟩ : ∃ z : Int32, z = (if bod < (1 : Int32) then (0 : Int32) else (1 : Int32)) := ⟨_, rfl⟩
  have pre30 : ∀ t, Steps p.tables e below (T23.setTop (mkF m 105 #[.val (.long q1), .second, .val (.long q2), .second, .val (.int p3), .val (.int p4), .val (.long xa), .second, .val (.long ya), .second, .val (.long sta), .second, .val (.long len), .second, .val (.long room), .second, .val (.int bod), .unset, .unset, .unset, .unset] [(.int ne1)])) t → Steps p.tables e below (s₁.setTop (entryFrame m #[(.long q1), (.long q2), (.int p3), (.int p4)] maxLocals)) t := fun t kt => pre28 t (by
    by_cases hc29 : bod < (1 : Int32)
    case pos =>
      show Steps p.tables e below (T23.setTop (mkF m 97 #[.val (.long q1), .second, .val (.long q2), .second, .val (.int p3), .val (.int p4), .val (.long xa), .second, .val (.long ya), .second, .val (.long sta), .second, .val (.long len), .second, .val (.long room), .second, .val (.int bod), .unset, .unset, .unset, .unset] [(.int (1 : Int32)), (.int bod)])) _
      refine XS.icmpYes X23.here hx rfl (pc0 := 97) (pc' := 104) rfl (hb hby at_97) rfl (tlt hc29).1 (by decide) (by decide) ?_
      show Steps p.tables e below (T23.setTop (mkF m 104 #[.val (.long q1), .second, .val (.long q2), .second, .val (.int p3), .val (.int p4), .val (.long xa), .second, .val (.long ya), .second, .val (.long sta), .second, .val (.long len), .second, .val (.long room), .second, .val (.int bod), .unset, .unset, .unset, .unset] [])) _
      refine XS.iconst X23.here hx rfl (hb hby at_104) ?_
      rw [show ne1 = (0 : Int32) from (hne1.trans (if_pos hc29))] at kt
      exact kt
    case neg =>
      show Steps p.tables e below (T23.setTop (mkF m 97 #[.val (.long q1), .second, .val (.long q2), .second, .val (.int p3), .val (.int p4), .val (.long xa), .second, .val (.long ya), .second, .val (.long sta), .second, .val (.long len), .second, .val (.long room), .second, .val (.int bod), .unset, .unset, .unset, .unset] [(.int (1 : Int32)), (.int bod)])) _
      refine XS.icmpNo X23.here hx rfl (hb hby at_97) rfl (flt hc29).1 ?_
      show Steps p.tables e below (T23.setTop (mkF m 100 #[.val (.long q1), .second, .val (.long q2), .second, .val (.int p3), .val (.int p4), .val (.long xa), .second, .val (.long ya), .second, .val (.long sta), .second, .val (.long len), .second, .val (.long room), .second, .val (.int bod), .unset, .unset, .unset, .unset] [])) _
      refine XS.iconst X23.here hx rfl (hb hby at_100) ?_
      show Steps p.tables e below (T23.setTop (mkF m 101 #[.val (.long q1), .second, .val (.long q2), .second, .val (.int p3), .val (.int p4), .val (.long xa), .second, .val (.long ya), .second, .val (.long sta), .second, .val (.long len), .second, .val (.long room), .second, .val (.int bod), .unset, .unset, .unset, .unset] [(.int (1 : Int32))])) _
      refine XS.goto X23.here hx rfl (pc0 := 101) (pc' := 105) rfl (hb hby at_101) (by decide) (by decide) ?_
      rw [show ne1 = (1 : Int32) from (hne1.trans (if_neg hc29))] at kt
      exact kt)
  have pre31 : ∀ t, Steps p.tables e below (T23.setTop (mkF m 122 #[.val (.long q1), .second, .val (.long q2), .second, .val (.int p3), .val (.int p4), .val (.long xa), .second, .val (.long ya), .second, .val (.long sta), .second, .val (.long len), .second, .val (.long room), .second, .val (.int bod), .val (.int ne1), .val (.long (((4 : Int64) + (bod.toInt64)) + (4 : Int64))), .second, .unset] [(.int ne1)])) t → Steps p.tables e below (s₁.setTop (entryFrame m #[(.long q1), (.long q2), (.int p3), (.int p4)] maxLocals)) t := fun t kt => pre30 t (by
    show Steps p.tables e below (T23.setTop (mkF m 105 #[.val (.long q1), .second, .val (.long q2), .second, .val (.int p3), .val (.int p4), .val (.long xa), .second, .val (.long ya), .second, .val (.long sta), .second, .val (.long len), .second, .val (.long room), .second, .val (.int bod), .unset, .unset, .unset, .unset] [(.int ne1)])) _
    refine XS.istore X23.here hx rfl (hb hby at_105) rfl (l' := #[.val (.long q1), .second, .val (.long q2), .second, .val (.int p3), .val (.int p4), .val (.long xa), .second, .val (.long ya), .second, .val (.long sta), .second, .val (.long len), .second, .val (.long room), .second, .val (.int bod), .val (.int ne1), .unset, .unset, .unset]) rfl ?_
    show Steps p.tables e below (T23.setTop (mkF m 107 #[.val (.long q1), .second, .val (.long q2), .second, .val (.int p3), .val (.int p4), .val (.long xa), .second, .val (.long ya), .second, .val (.long sta), .second, .val (.long len), .second, .val (.long room), .second, .val (.int bod), .val (.int ne1), .unset, .unset, .unset] [])) _
    refine X23.ldc2Long hx hown (mvT hZ (hw _ (List.mem_of_getElem? (i := 3) rfl))) (g := (mkF m 107 #[.val (.long q1), .second, .val (.long q2), .second, .val (.int p3), .val (.int p4), .val (.long xa), .second, .val (.long ya), .second, .val (.long sta), .second, .val (.long len), .second, .val (.long room), .second, .val (.int bod), .val (.int ne1), .unset, .unset, .unset] [])) rfl (hb hby at_107) _ ?_
    show Steps p.tables e below (T23.setTop (mkF m 110 #[.val (.long q1), .second, .val (.long q2), .second, .val (.int p3), .val (.int p4), .val (.long xa), .second, .val (.long ya), .second, .val (.long sta), .second, .val (.long len), .second, .val (.long room), .second, .val (.int bod), .val (.int ne1), .unset, .unset, .unset] [(.long (4 : Int64))])) _
    refine XS.iload X23.here hx rfl (hb hby at_110) rfl ?_
    show Steps p.tables e below (T23.setTop (mkF m 112 #[.val (.long q1), .second, .val (.long q2), .second, .val (.int p3), .val (.int p4), .val (.long xa), .second, .val (.long ya), .second, .val (.long sta), .second, .val (.long len), .second, .val (.long room), .second, .val (.int bod), .val (.int ne1), .unset, .unset, .unset] [(.int bod), (.long (4 : Int64))])) _
    refine XS.i2l X23.here hx rfl (hb hby at_112) rfl ?_
    show Steps p.tables e below (T23.setTop (mkF m 113 #[.val (.long q1), .second, .val (.long q2), .second, .val (.int p3), .val (.int p4), .val (.long xa), .second, .val (.long ya), .second, .val (.long sta), .second, .val (.long len), .second, .val (.long room), .second, .val (.int bod), .val (.int ne1), .unset, .unset, .unset] [(.long (bod.toInt64)), (.long (4 : Int64))])) _
    refine XS.ladd X23.here hx rfl (hb hby at_113) rfl ?_
    show Steps p.tables e below (T23.setTop (mkF m 114 #[.val (.long q1), .second, .val (.long q2), .second, .val (.int p3), .val (.int p4), .val (.long xa), .second, .val (.long ya), .second, .val (.long sta), .second, .val (.long len), .second, .val (.long room), .second, .val (.int bod), .val (.int ne1), .unset, .unset, .unset] [(.long ((4 : Int64) + (bod.toInt64)))])) _
    refine X23.ldc2Long hx hown (mvT hZ (hw _ (List.mem_of_getElem? (i := 3) rfl))) (g := (mkF m 114 #[.val (.long q1), .second, .val (.long q2), .second, .val (.int p3), .val (.int p4), .val (.long xa), .second, .val (.long ya), .second, .val (.long sta), .second, .val (.long len), .second, .val (.long room), .second, .val (.int bod), .val (.int ne1), .unset, .unset, .unset] [(.long ((4 : Int64) + (bod.toInt64)))])) rfl (hb hby at_114) _ ?_
    show Steps p.tables e below (T23.setTop (mkF m 117 #[.val (.long q1), .second, .val (.long q2), .second, .val (.int p3), .val (.int p4), .val (.long xa), .second, .val (.long ya), .second, .val (.long sta), .second, .val (.long len), .second, .val (.long room), .second, .val (.int bod), .val (.int ne1), .unset, .unset, .unset] [(.long (4 : Int64)), (.long ((4 : Int64) + (bod.toInt64)))])) _
    refine XS.ladd X23.here hx rfl (hb hby at_117) rfl ?_
    show Steps p.tables e below (T23.setTop (mkF m 118 #[.val (.long q1), .second, .val (.long q2), .second, .val (.int p3), .val (.int p4), .val (.long xa), .second, .val (.long ya), .second, .val (.long sta), .second, .val (.long len), .second, .val (.long room), .second, .val (.int bod), .val (.int ne1), .unset, .unset, .unset] [(.long (((4 : Int64) + (bod.toInt64)) + (4 : Int64)))])) _
    refine XS.lstore X23.here hx rfl (hb hby at_118) rfl (l' := #[.val (.long q1), .second, .val (.long q2), .second, .val (.int p3), .val (.int p4), .val (.long xa), .second, .val (.long ya), .second, .val (.long sta), .second, .val (.long len), .second, .val (.long room), .second, .val (.int bod), .val (.int ne1), .val (.long (((4 : Int64) + (bod.toInt64)) + (4 : Int64))), .second, .unset]) rfl ?_
    show Steps p.tables e below (T23.setTop (mkF m 120 #[.val (.long q1), .second, .val (.long q2), .second, .val (.int p3), .val (.int p4), .val (.long xa), .second, .val (.long ya), .second, .val (.long sta), .second, .val (.long len), .second, .val (.long room), .second, .val (.int bod), .val (.int ne1), .val (.long (((4 : Int64) + (bod.toInt64)) + (4 : Int64))), .second, .unset] [])) _
    refine XS.iload X23.here hx rfl (hb hby at_120) rfl ?_
    exact kt)
  obtain ⟨exp1, hexp1⟩ : ∃ z : Int32, z = (if ne1 = (0 : Int32) then (0 : Int32) else (if room < (((4 : Int64) + (bod.toInt64)) + (4 : Int64)) then (0 : Int32) else (1 : Int32))) := ⟨_, rfl⟩
  have pre34 : ∀ t, Steps p.tables e below (T23.setTop (mkF m 138 #[.val (.long q1), .second, .val (.long q2), .second, .val (.int p3), .val (.int p4), .val (.long xa), .second, .val (.long ya), .second, .val (.long sta), .second, .val (.long len), .second, .val (.long room), .second, .val (.int bod), .val (.int ne1), .val (.long (((4 : Int64) + (bod.toInt64)) + (4 : Int64))), .second, .unset] [(.int exp1)])) t → Steps p.tables e below (s₁.setTop (entryFrame m #[(.long q1), (.long q2), (.int p3), (.int p4)] maxLocals)) t := fun t kt => pre31 t (by
    by_cases hc32 : ne1 = (0 : Int32)
    case pos =>
      show Steps p.tables e below (T23.setTop (mkF m 122 #[.val (.long q1), .second, .val (.long q2), .second, .val (.int p3), .val (.int p4), .val (.long xa), .second, .val (.long ya), .second, .val (.long sta), .second, .val (.long len), .second, .val (.long room), .second, .val (.int bod), .val (.int ne1), .val (.long (((4 : Int64) + (bod.toInt64)) + (4 : Int64))), .second, .unset] [(.int ne1)])) _
      refine XS.ifYes X23.here hx rfl (pc0 := 122) (pc' := 137) rfl (hb hby at_122) rfl ((if0 _ _).trans (teq hc32).1) (by decide) (by decide) ?_
      show Steps p.tables e below (T23.setTop (mkF m 137 #[.val (.long q1), .second, .val (.long q2), .second, .val (.int p3), .val (.int p4), .val (.long xa), .second, .val (.long ya), .second, .val (.long sta), .second, .val (.long len), .second, .val (.long room), .second, .val (.int bod), .val (.int ne1), .val (.long (((4 : Int64) + (bod.toInt64)) + (4 : Int64))), .second, .unset] [])) _
      refine XS.iconst X23.here hx rfl (hb hby at_137) ?_
      rw [show exp1 = (0 : Int32) from (hexp1.trans (if_pos hc32))] at kt
      exact kt
    case neg =>
      show Steps p.tables e below (T23.setTop (mkF m 122 #[.val (.long q1), .second, .val (.long q2), .second, .val (.int p3), .val (.int p4), .val (.long xa), .second, .val (.long ya), .second, .val (.long sta), .second, .val (.long len), .second, .val (.long room), .second, .val (.int bod), .val (.int ne1), .val (.long (((4 : Int64) + (bod.toInt64)) + (4 : Int64))), .second, .unset] [(.int ne1)])) _
      refine XS.ifNo X23.here hx rfl (hb hby at_122) rfl ((if0 _ _).trans (feq hc32).1) ?_
      show Steps p.tables e below (T23.setTop (mkF m 125 #[.val (.long q1), .second, .val (.long q2), .second, .val (.int p3), .val (.int p4), .val (.long xa), .second, .val (.long ya), .second, .val (.long sta), .second, .val (.long len), .second, .val (.long room), .second, .val (.int bod), .val (.int ne1), .val (.long (((4 : Int64) + (bod.toInt64)) + (4 : Int64))), .second, .unset] [])) _
      refine XS.lload X23.here hx rfl (hb hby at_125) rfl ?_
      show Steps p.tables e below (T23.setTop (mkF m 127 #[.val (.long q1), .second, .val (.long q2), .second, .val (.int p3), .val (.int p4), .val (.long xa), .second, .val (.long ya), .second, .val (.long sta), .second, .val (.long len), .second, .val (.long room), .second, .val (.int bod), .val (.int ne1), .val (.long (((4 : Int64) + (bod.toInt64)) + (4 : Int64))), .second, .unset] [(.long (((4 : Int64) + (bod.toInt64)) + (4 : Int64)))])) _
      refine XS.lload X23.here hx rfl (hb hby at_127) rfl ?_
      show Steps p.tables e below (T23.setTop (mkF m 129 #[.val (.long q1), .second, .val (.long q2), .second, .val (.int p3), .val (.int p4), .val (.long xa), .second, .val (.long ya), .second, .val (.long sta), .second, .val (.long len), .second, .val (.long room), .second, .val (.int bod), .val (.int ne1), .val (.long (((4 : Int64) + (bod.toInt64)) + (4 : Int64))), .second, .unset] [(.long room), (.long (((4 : Int64) + (bod.toInt64)) + (4 : Int64)))])) _
      refine XS.lcmp X23.here hx rfl (hb hby at_129) rfl ?_
      by_cases hc33 : room < (((4 : Int64) + (bod.toInt64)) + (4 : Int64))
      case pos =>
        show Steps p.tables e below (T23.setTop (mkF m 130 #[.val (.long q1), .second, .val (.long q2), .second, .val (.int p3), .val (.int p4), .val (.long xa), .second, .val (.long ya), .second, .val (.long sta), .second, .val (.long len), .second, .val (.long room), .second, .val (.int bod), .val (.int ne1), .val (.long (((4 : Int64) + (bod.toInt64)) + (4 : Int64))), .second, .unset] [(.int (lcmpW (((4 : Int64) + (bod.toInt64)) + (4 : Int64)) room))])) _
        refine XS.ifYes X23.here hx rfl (pc0 := 130) (pc' := 137) rfl (hb hby at_130) rfl ((if0 _ _).trans (tlt ((lw_gt _ _).mpr hc33)).2.2.1) (by decide) (by decide) ?_
        show Steps p.tables e below (T23.setTop (mkF m 137 #[.val (.long q1), .second, .val (.long q2), .second, .val (.int p3), .val (.int p4), .val (.long xa), .second, .val (.long ya), .second, .val (.long sta), .second, .val (.long len), .second, .val (.long room), .second, .val (.int bod), .val (.int ne1), .val (.long (((4 : Int64) + (bod.toInt64)) + (4 : Int64))), .second, .unset] [])) _
        refine XS.iconst X23.here hx rfl (hb hby at_137) ?_
        rw [show exp1 = (0 : Int32) from ((hexp1.trans (if_neg hc32)).trans (if_pos hc33))] at kt
        exact kt
      case neg =>
        show Steps p.tables e below (T23.setTop (mkF m 130 #[.val (.long q1), .second, .val (.long q2), .second, .val (.int p3), .val (.int p4), .val (.long xa), .second, .val (.long ya), .second, .val (.long sta), .second, .val (.long len), .second, .val (.long room), .second, .val (.int bod), .val (.int ne1), .val (.long (((4 : Int64) + (bod.toInt64)) + (4 : Int64))), .second, .unset] [(.int (lcmpW (((4 : Int64) + (bod.toInt64)) + (4 : Int64)) room))])) _
        refine XS.ifNo X23.here hx rfl (hb hby at_130) rfl ((if0 _ _).trans (flt (fun q => hc33 ((lw_gt _ _).mp q))).2.2.1) ?_
        show Steps p.tables e below (T23.setTop (mkF m 133 #[.val (.long q1), .second, .val (.long q2), .second, .val (.int p3), .val (.int p4), .val (.long xa), .second, .val (.long ya), .second, .val (.long sta), .second, .val (.long len), .second, .val (.long room), .second, .val (.int bod), .val (.int ne1), .val (.long (((4 : Int64) + (bod.toInt64)) + (4 : Int64))), .second, .unset] [])) _
        refine XS.iconst X23.here hx rfl (hb hby at_133) ?_
        show Steps p.tables e below (T23.setTop (mkF m 134 #[.val (.long q1), .second, .val (.long q2), .second, .val (.int p3), .val (.int p4), .val (.long xa), .second, .val (.long ya), .second, .val (.long sta), .second, .val (.long len), .second, .val (.long room), .second, .val (.int bod), .val (.int ne1), .val (.long (((4 : Int64) + (bod.toInt64)) + (4 : Int64))), .second, .unset] [(.int (1 : Int32))])) _
        refine XS.goto X23.here hx rfl (pc0 := 134) (pc' := 138) rfl (hb hby at_134) (by decide) (by decide) ?_
        rw [show exp1 = (1 : Int32) from ((hexp1.trans (if_neg hc32)).trans (if_neg hc33))] at kt
        exact kt)
  obtain ⟨_, _, ⟨T35, L35, k35, n35⟩, -, X35, ⟨Lc35, hQ35, l35, y35, z35⟩, st35⟩ := Jvm.LawKit.callS X23 hx (y := (⟨"bearings/core/RecordReader", "fits", "(IJJ)Z"⟩ : MethodName)) hown (mvT hZ (hw _ (List.mem_of_getElem? (i := 4) rfl))) (mvT hZ (hw _ (List.mem_of_getElem? (i := 5) rfl))) (mvT hZ (hw _ (List.mem_of_getElem? (i := 6) rfl))) (mvT hZ (hw _ (List.mem_of_getElem? (i := 7) rfl))) (by decide) (backOf (W := 0) (rm1 l Z a0 hw [] bod sta len h0 n0 Z0) hZ (hw _ (List.mem_of_getElem? (i := 7) rfl)) (hw _ (List.mem_of_getElem? (i := 6) rfl)) (by decide) (by decide)) (g := (mkF m 146 #[.val (.long q1), .second, .val (.long q2), .second, .val (.int p3), .val (.int p4), .val (.long xa), .second, .val (.long ya), .second, .val (.long sta), .second, .val (.long len), .second, .val (.long room), .second, .val (.int bod), .val (.int ne1), .val (.long (((4 : Int64) + (bod.toInt64)) + (4 : Int64))), .second, .val (.int exp1)] [(.long len), (.long sta), (.int bod)])) rfl (by rw [hml]; rfl) (argsL := [(.int bod), (.long sta), (.long len)]) (rest := []) (lenOf pd_39 rfl) rfl (by show 2 * 0 + _ ≤ _; exact Nat.le_of_eq rfl) (hb hby at_146) (fun _ _ => ⟨rfl, e23, (by decide : 0 + 0 ≤ _), (by decide : 0 + 0 ≤ _)⟩)
  dsimp only [Pt.U, Pt.locs, Pt.cells, Pt.slots] at X35 l35 y35 z35 st35 hQ35
  subst l35 y35 z35
  obtain ⟨rfl, Nq35, e35⟩ := hQ35
  have N35 := Fr.app N23 Nq35
  have hfin : (if bod < (1 : Int32) then (0 : Int32) else (if ((len - sta) - (8 : Int64)) < (bod.toInt64) then (0 : Int32) else (1 : Int32))) = exp1 := own_law q1 q2 p3 p4 xa ya sta len room bod ne1 exp1 hxa hya hsta hlen hroom hbod hne1 hexp1
  have pre36 : ∀ t, Steps p.tables e below (T35.setTop (mkF m 159 #[.val (.long q1), .second, .val (.long q2), .second, .val (.int p3), .val (.int p4), .val (.long xa), .second, .val (.long ya), .second, .val (.long sta), .second, .val (.long len), .second, .val (.long room), .second, .val (.int bod), .val (.int ne1), .val (.long (((4 : Int64) + (bod.toInt64)) + (4 : Int64))), .second, .val (.int exp1)] [(.int (1 : Int32))])) t → Steps p.tables e below (s₁.setTop (entryFrame m #[(.long q1), (.long q2), (.int p3), (.int p4)] maxLocals)) t := fun t kt => pre34 t (by
    show Steps p.tables e below (T23.setTop (mkF m 138 #[.val (.long q1), .second, .val (.long q2), .second, .val (.int p3), .val (.int p4), .val (.long xa), .second, .val (.long ya), .second, .val (.long sta), .second, .val (.long len), .second, .val (.long room), .second, .val (.int bod), .val (.int ne1), .val (.long (((4 : Int64) + (bod.toInt64)) + (4 : Int64))), .second, .unset] [(.int exp1)])) _
    refine XS.istore X23.here hx rfl (hb hby at_138) rfl (l' := #[.val (.long q1), .second, .val (.long q2), .second, .val (.int p3), .val (.int p4), .val (.long xa), .second, .val (.long ya), .second, .val (.long sta), .second, .val (.long len), .second, .val (.long room), .second, .val (.int bod), .val (.int ne1), .val (.long (((4 : Int64) + (bod.toInt64)) + (4 : Int64))), .second, .val (.int exp1)]) rfl ?_
    show Steps p.tables e below (T23.setTop (mkF m 140 #[.val (.long q1), .second, .val (.long q2), .second, .val (.int p3), .val (.int p4), .val (.long xa), .second, .val (.long ya), .second, .val (.long sta), .second, .val (.long len), .second, .val (.long room), .second, .val (.int bod), .val (.int ne1), .val (.long (((4 : Int64) + (bod.toInt64)) + (4 : Int64))), .second, .val (.int exp1)] [])) _
    refine XS.iload X23.here hx rfl (hb hby at_140) rfl ?_
    show Steps p.tables e below (T23.setTop (mkF m 142 #[.val (.long q1), .second, .val (.long q2), .second, .val (.int p3), .val (.int p4), .val (.long xa), .second, .val (.long ya), .second, .val (.long sta), .second, .val (.long len), .second, .val (.long room), .second, .val (.int bod), .val (.int ne1), .val (.long (((4 : Int64) + (bod.toInt64)) + (4 : Int64))), .second, .val (.int exp1)] [(.int bod)])) _
    refine XS.lload X23.here hx rfl (hb hby at_142) rfl ?_
    show Steps p.tables e below (T23.setTop (mkF m 144 #[.val (.long q1), .second, .val (.long q2), .second, .val (.int p3), .val (.int p4), .val (.long xa), .second, .val (.long ya), .second, .val (.long sta), .second, .val (.long len), .second, .val (.long room), .second, .val (.int bod), .val (.int ne1), .val (.long (((4 : Int64) + (bod.toInt64)) + (4 : Int64))), .second, .val (.int exp1)] [(.long sta), (.int bod)])) _
    refine XS.lload X23.here hx rfl (hb hby at_144) rfl ?_
    show Steps p.tables e below (T23.setTop (mkF m 146 #[.val (.long q1), .second, .val (.long q2), .second, .val (.int p3), .val (.int p4), .val (.long xa), .second, .val (.long ya), .second, .val (.long sta), .second, .val (.long len), .second, .val (.long room), .second, .val (.int bod), .val (.int ne1), .val (.long (((4 : Int64) + (bod.toInt64)) + (4 : Int64))), .second, .val (.int exp1)] [(.long len), (.long sta), (.int bod)])) _
    refine st35 _ ?_
    show Steps p.tables e below (T35.setTop (mkF m 149 #[.val (.long q1), .second, .val (.long q2), .second, .val (.int p3), .val (.int p4), .val (.long xa), .second, .val (.long ya), .second, .val (.long sta), .second, .val (.long len), .second, .val (.long room), .second, .val (.int bod), .val (.int ne1), .val (.long (((4 : Int64) + (bod.toInt64)) + (4 : Int64))), .second, .val (.int exp1)] [(.int (if bod < (1 : Int32) then (0 : Int32) else (if ((len - sta) - (8 : Int64)) < (bod.toInt64) then (0 : Int32) else (1 : Int32))))])) _
    refine XS.iload X35.here hx rfl (hb hby at_149) rfl ?_
    show Steps p.tables e below (T35.setTop (mkF m 151 #[.val (.long q1), .second, .val (.long q2), .second, .val (.int p3), .val (.int p4), .val (.long xa), .second, .val (.long ya), .second, .val (.long sta), .second, .val (.long len), .second, .val (.long room), .second, .val (.int bod), .val (.int ne1), .val (.long (((4 : Int64) + (bod.toInt64)) + (4 : Int64))), .second, .val (.int exp1)] [(.int exp1), (.int (if bod < (1 : Int32) then (0 : Int32) else (if ((len - sta) - (8 : Int64)) < (bod.toInt64) then (0 : Int32) else (1 : Int32))))])) _
    refine XS.icmpNo X35.here hx rfl (hb hby at_151) rfl (teq hfin).2 ?_
    show Steps p.tables e below (T35.setTop (mkF m 154 #[.val (.long q1), .second, .val (.long q2), .second, .val (.int p3), .val (.int p4), .val (.long xa), .second, .val (.long ya), .second, .val (.long sta), .second, .val (.long len), .second, .val (.long room), .second, .val (.int bod), .val (.int ne1), .val (.long (((4 : Int64) + (bod.toInt64)) + (4 : Int64))), .second, .val (.int exp1)] [])) _
    refine XS.iconst X35.here hx rfl (hb hby at_154) ?_
    show Steps p.tables e below (T35.setTop (mkF m 155 #[.val (.long q1), .second, .val (.long q2), .second, .val (.int p3), .val (.int p4), .val (.long xa), .second, .val (.long ya), .second, .val (.long sta), .second, .val (.long len), .second, .val (.long room), .second, .val (.int bod), .val (.int ne1), .val (.long (((4 : Int64) + (bod.toInt64)) + (4 : Int64))), .second, .val (.int exp1)] [(.int (1 : Int32))])) _
    refine XS.goto X35.here hx rfl (pc0 := 155) (pc' := 159) rfl (hb hby at_155) (by decide) (by decide) ?_
    exact kt)
  exact own_retN X35 hx Bd.notSynchronized (t := .boolean) Bd.returns (by simp) (hb hby at_159) pre36 (show Q0 h0 n0 _ _ _ from ⟨rfl, N35⟩) (by decide) (by decide)
set_option maxRecDepth 65536 in
set_option maxHeartbeats 40000000 in
theorem comes_1 {Post : Tables → Env → Array Value → State → Outcome → State → Prop} (hpost : ∀ tb e args s v u, (limb_1_1.after args s (.returned v) u = true ∧ limb_1_2.after args s (.returned v) u = true ∧ True) → FrameEnd s (.returned v) u (Jvm.fieldLocs frame_1_writes args s ++ Jvm.arrayLocs frame_1_arrays args s ++ Jvm.staticLocs frame_1_statics s) 0 0 → Post tb e args s (.returned v) u) :
    ArmFor flags0 classFile x code maxLocals ret World_1 tables_1 room_1 Calls_1 rest_1 Pre_1 Post := by
  intro l hfl _ _ p e ha hc hk s m args below hf hA hF happ hP
  obtain ⟨hcalls, hrest, hpre⟩ := hP
  obtain ⟨-, -, -, hnamed, -, -, -, hat⟩ := (Spec.applies_iff hf).mp happ
  obtain ⟨hg, hn⟩ := and_e (Cond.before_iff.mp (show (Jvm.Cond.and given_1 narrow_1).before args s = true from hpre))
  obtain ⟨g1a, g1b⟩ := and_e hg
  obtain ⟨g2a, g2b⟩ := and_e g1b
  obtain ⟨g3a, g3b⟩ := and_e g2b
  obtain ⟨g4a, g4b⟩ := and_e g3b
  obtain ⟨w0, w1, w2, w3, rfl⟩ : ∃ w0 w1 w2 w3 : Value, args = #[w0, w1, w2, w3] := by
    have hs : args.size = 4 := by simpa [Cond.value, given_1] using g1a
    obtain ⟨L⟩ := args
    match L, hs with
    | [w0, w1, w2, w3], _ => exact ⟨w0, w1, w2, w3, rfl⟩
  have hw := fun d (hd : d ∈ tables_1) => atoms_spec (ws := Jvm.Cond.code x code maxLocals ret :: tables_1) hat d (List.mem_cons_of_mem _ hd)
  have hfit : Fit s := fun {y c} hc i hi => by
    obtain ⟨ha, rfl⟩ := Array.getElem?_eq_some_iff.mp hc
    have q := List.all_eq_true.mp ((Array.all_eq_true_iff_forall_mem.mp hF) _ (Array.getElem_mem ha)) i (List.mem_range.mpr hi)
    simpa [Array.getElem?_eq_getElem hi] using q
  obtain ⟨i0, ei0⟩ := isL_v g2a
  obtain rfl : w0 = (.long i0) := Option.some.inj ei0
  obtain ⟨i1, ei1⟩ := isL_v g3a
  obtain rfl : w1 = (.long i1) := Option.some.inj ei1
  obtain ⟨i2, ei2⟩ := is_v g4a
  obtain rfl : w2 = (.int i2) := Option.some.inj ei2
  obtain ⟨i3, ei3⟩ := is_v g4b
  obtain rfl : w3 = (.int i3) := Option.some.inj ei3
  obtain ⟨n, o, h1, h2, h3, _, L, rfl, ⟨rfl, N⟩, hq⟩ := rm0 l s _ hw tables_1 i0 i1 i2 i3 s.heap s.heap.size (Nat.le_refl _) p e ha hc hk s m _ below hf ((Spec.applies_iff_loose hf).mp happ).1 ⟨rfl, State.Warmed39.refl s, rfl⟩ trivial
  refine ⟨n, _, h1, h2, h3, hpost _ _ _ _ _ _ ⟨Cond.after_iff.mpr rfl, Cond.after_iff.mpr (eq_i res_at (Term.int_eval (1)) rfl), trivial⟩ ⟨hq.1, hq.2.1, (hq.2.2.sift fun y hy => Or.inr (N y hy)).mono (by decide) (by decide)⟩⟩
theorem main_1_1 : Claimed_1_1 := comes_1 fun _ _ _ _ _ _ h hF => ⟨h.1, hF⟩
theorem main_1_2 : Claimed_1_2 := comes_1 fun _ _ _ _ _ _ h hF => ⟨h.2.1, hF⟩
end Jvm.Pilot.@@N@@
namespace Jvm.Pilot.@@N@@
open Jvm Jvm.ClassFile Sem Op Lib Jvm.Free Jvm.Stand Jvm.Pilot.@@N@@.Jvm.D
/-! MADE BY PROGRAM (witnessworld.py) out of the Statement's table words and the real class files: 10 classes; the members and pool entries that the words name. The judged class is class 1, her method 1. -/
namespace start1
open Jvm.ClassFile
def u (s : String) : CpInfo := .utf8 (stringToUtf16 s)
/-- a pool by its gaps: so many unusable entries, then the entry; so many at the end -/
def gap : Nat → List CpInfo → List CpInfo
  | 0, r => r
  | n + 1, r => .unusable :: gap n r
def poolList (es : List (Nat × CpInfo)) (last : Nat) : List CpInfo := es.foldr (fun e r => gap e.1 (e.2 :: r)) (gap last [])
def pool (es : List (Nat × CpInfo)) (last : Nat) : Array CpInfo := ⟨poolList es last⟩
def fileOf (pool : Array CpInfo) (this : Nat) (attrs : Array Attribute := #[]) (ms : Array MethodInfo := #[]) (fl : Nat := 33) (sup : Nat := 0) (ifs : Array Nat := #[]) (fds : Array FieldInfo := #[]) : ClassFile where
  minorVersion := 0
  majorVersion := 65
  constantPool := pool
  accessFlags := fl
  thisClass := this
  superClass := sup
  interfaces := ifs
  fields := fds
  methods := ms
  attributes := attrs
def plain (name : String) (sup : Option ClassId) : Class where
  name := name
  kind := .ordinary
  loader := none
  accessFlags := 33
  super := sup
  interfaces := #[]
  cf := none
  fields := #[]
  methods := #[]
  instanceTypes := #[]
  staticTypes := #[]
  resolved := #[]
  callSites := []
  init := .initialized
  statics := none
  mirror := none

def pool0 : Array CpInfo := pool [(5, u "<init>"), (0, u "()V"), (1, .class_ 10), (1, u "java/lang/Object")] 113

def k0m0 : Method := { name := "<init>", desc := "()V", sig := { parameters := [], returnType := none }, accessFlags := 1, code := none }
/-- java/lang/Object -/
def k0 : Class := { plain "java/lang/Object" none with
  accessFlags := 33
  interfaces := #[]
  cf := some (fileOf pool0 8 #[] #[{ accessFlags := 1, nameIndex := 5, descriptorIndex := 6, attributes := #[] }] 33 0 #[] #[])
  fields := #[]
  methods := #[k0m0]
  instanceTypes := #[]
  staticTypes := #[]
  resolved := Array.replicate 124 none
  statics := none }

def pool1 : Array CpInfo := pool [(2, .class_ 4), (1, u "java/lang/Object"), (0, u "<init>"), (0, u "()V"), (2, .long 9223372036854775807), (1, .methodref 12 13), (0, .class_ 14), (0, .nameAndType 15 16), (0, u "java/lang/Math"), (0, u "min"), (0, u "(JJ)J"), (0, .methodref 12 18), (0, .nameAndType 19 16), (0, u "max"), (0, .long 63), (1, .long 8), (1, .long 4), (1, .methodref 27 28), (0, .class_ 29), (0, .nameAndType 30 31), (0, u "bearings/core/RecordReader"), (0, u "fits"), (0, u "(IJJ)Z"), (0, .class_ 33), (0, u "bearings/core/RecordReaderFitsPinLaw"), (2, u "law"), (0, u "(JJII)Z")] 3

def k1m0 : Method := { name := "<init>", desc := "()V", sig := { parameters := [], returnType := none }, accessFlags := 2, code := none }
def k1c1 : Code := { maxStack := 6, maxLocals := 21, code := code, exceptionTable := #[], attributes := #[] }
def k1m1 : Method := { name := "law", desc := "(JJII)Z", sig := { parameters := [.long, .long, .int, .int], returnType := some .boolean }, accessFlags := 9, code := some k1c1 }
/-- bearings/core/RecordReaderFitsPinLaw -/
def k1 : Class := { plain "bearings/core/RecordReaderFitsPinLaw" (some 0) with
  accessFlags := 49
  interfaces := #[]
  cf := some (fileOf pool1 32 #[] #[{ accessFlags := 2, nameIndex := 5, descriptorIndex := 6, attributes := #[] }, { accessFlags := 9, nameIndex := 36, descriptorIndex := 37, attributes := #[] }] 49 2 #[] #[])
  fields := #[]
  methods := #[k1m0, k1m1]
  instanceTypes := #[]
  staticTypes := #[]
  resolved := Array.replicate 41 none
  statics := none }

def pool2 : Array CpInfo := pool [(2, .class_ 4), (1, u "java/lang/Object"), (0, u "<init>"), (0, u "()V"), (10, .class_ 18), (0, u "bearings/core/RecordReader"), (74, .class_ 94), (0, u "bearings/core/RecordReader$Body"), (4, .class_ 101), (1, u "bearings/core/RecordReader$Replay"), (18, u "fits"), (0, u "(IJJ)Z"), (7, .class_ 130), (0, u "bearings/core/RecordReader$MalformedRecordException"), (33, .class_ 165), (0, u "bearings/core/RecordReader$BodyInFile"), (86, .long 8), (96, .class_ 351), (1, u "bearings/core/RecordReader$FieldReader"), (10, u "READ_BUFFER_BYTES"), (0, u "I")] 58

def k2m0 : Method := { name := "<init>", desc := "()V", sig := { parameters := [], returnType := none }, accessFlags := 2, code := none }
def k2c1 : Code := { maxStack := 6, maxLocals := 5, code := prog_52_method_5_code, exceptionTable := #[], attributes := #[] }
def k2m1 : Method := { name := "fits", desc := "(IJJ)Z", sig := { parameters := [.int, .long, .long], returnType := some .boolean }, accessFlags := 8, code := some k2c1 }
/-- bearings/core/RecordReader -/
def k2 : Class := { plain "bearings/core/RecordReader" (some 0) with
  accessFlags := 48
  interfaces := #[]
  cf := some (fileOf pool2 17 #[.nestMembers #[129, 164, 93, 349, 99]] #[{ accessFlags := 2, nameIndex := 5, descriptorIndex := 6, attributes := #[] }, { accessFlags := 8, nameIndex := 120, descriptorIndex := 121, attributes := #[] }] 48 2 #[] #[{ accessFlags := 26, nameIndex := 362, descriptorIndex := 363, attributes := #[] }])
  fields := #[{ name := "READ_BUFFER_BYTES", type := .int, accessFlags := 26, slot := 0, constantValue := 0 }]
  methods := #[k2m0, k2m1]
  instanceTypes := #[]
  staticTypes := #[.int]
  resolved := Array.replicate 422 none
  statics := none }

def pool3 : Array CpInfo := pool [(1, .class_ 2), (0, u "java/lang/Math"), (1, .class_ 6), (1, u "java/lang/Object"), (0, u "<init>"), (0, u "()V"), (89, .class_ 100), (1, u "java/lang/Math$RandomNumberGeneratorHolder"), (20, u "(JJ)J"), (50, u "negativeZeroFloatBits"), (0, u "J"), (2, u "negativeZeroDoubleBits"), (21, u "max"), (2, u "min"), (43, u "$assertionsDisabled"), (0, u "Z"), (91, u "twoToTheDoubleScaleDown"), (0, u "D"), (4, u "twoToTheDoubleScaleUp"), (9, u "E"), (3, u "PI"), (2, u "TAU"), (2, u "DEGREES_TO_RADIANS"), (0, u "RADIANS_TO_DEGREES")] 94

def k3m0 : Method := { name := "<init>", desc := "()V", sig := { parameters := [], returnType := none }, accessFlags := 2, code := none }
def k3c1 : Code := { maxStack := 4, maxLocals := 4, code := jdk_29_method_66_code, exceptionTable := #[], attributes := #[] }
def k3m1 : Method := { name := "max", desc := "(JJ)J", sig := { parameters := [.long, .long], returnType := some .long }, accessFlags := 9, code := some k3c1 }
def k3c2 : Code := { maxStack := 4, maxLocals := 4, code := jdk_29_method_70_code, exceptionTable := #[], attributes := #[] }
def k3m2 : Method := { name := "min", desc := "(JJ)J", sig := { parameters := [.long, .long], returnType := some .long }, accessFlags := 9, code := some k3c2 }
/-- java/lang/Math -/
def k3 : Class := { plain "java/lang/Math" (some 0) with
  accessFlags := 49
  interfaces := #[]
  cf := some (fileOf pool3 1 #[.nestMembers #[98]] #[{ accessFlags := 2, nameIndex := 7, descriptorIndex := 8, attributes := #[] }, { accessFlags := 9, nameIndex := 198, descriptorIndex := 121, attributes := #[] }, { accessFlags := 9, nameIndex := 201, descriptorIndex := 121, attributes := #[] }] 49 4 #[] #[{ accessFlags := 25, nameIndex := 354, descriptorIndex := 339, attributes := #[] }, { accessFlags := 25, nameIndex := 358, descriptorIndex := 339, attributes := #[] }, { accessFlags := 25, nameIndex := 361, descriptorIndex := 339, attributes := #[] }, { accessFlags := 26, nameIndex := 364, descriptorIndex := 339, attributes := #[] }, { accessFlags := 26, nameIndex := 365, descriptorIndex := 339, attributes := #[] }, { accessFlags := 26, nameIndex := 172, descriptorIndex := 173, attributes := #[] }, { accessFlags := 26, nameIndex := 176, descriptorIndex := 173, attributes := #[] }, { accessFlags := 8, nameIndex := 344, descriptorIndex := 339, attributes := #[] }, { accessFlags := 8, nameIndex := 338, descriptorIndex := 339, attributes := #[] }, { accessFlags := 4120, nameIndex := 245, descriptorIndex := 246, attributes := #[] }])
  fields := #[{ name := "E", type := .double, accessFlags := 25, slot := 0, constantValue := 0 }, { name := "PI", type := .double, accessFlags := 25, slot := 1, constantValue := 0 }, { name := "TAU", type := .double, accessFlags := 25, slot := 2, constantValue := 0 }, { name := "DEGREES_TO_RADIANS", type := .double, accessFlags := 26, slot := 3, constantValue := 0 }, { name := "RADIANS_TO_DEGREES", type := .double, accessFlags := 26, slot := 4, constantValue := 0 }, { name := "negativeZeroFloatBits", type := .long, accessFlags := 26, slot := 5, constantValue := 0 }, { name := "negativeZeroDoubleBits", type := .long, accessFlags := 26, slot := 6, constantValue := 0 }, { name := "twoToTheDoubleScaleUp", type := .double, accessFlags := 8, slot := 7, constantValue := 0 }, { name := "twoToTheDoubleScaleDown", type := .double, accessFlags := 8, slot := 8, constantValue := 0 }, { name := "$assertionsDisabled", type := .boolean, accessFlags := 4120, slot := 9, constantValue := 0 }]
  methods := #[k3m0, k3m1, k3m2]
  instanceTypes := #[]
  staticTypes := #[.double, .double, .double, .double, .double, .long, .long, .double, .double, .boolean]
  resolved := Array.replicate 460 none
  statics := none }

def pool4 : Array CpInfo := pool [(1, u "java/lang/Cloneable"), (0, .class_ 1), (0, u "java/lang/Object"), (0, .class_ 3)] 3

/-- java/lang/Cloneable -/
def k4 : Class := { plain "java/lang/Cloneable" (some 0) with
  accessFlags := 1537
  interfaces := #[]
  cf := some (fileOf pool4 2 #[] #[] 1537 4 #[] #[])
  fields := #[]
  methods := #[]
  instanceTypes := #[]
  staticTypes := #[]
  resolved := Array.replicate 8 none
  statics := none }

def pool5 : Array CpInfo := pool [(1, u "java/io/Serializable"), (0, .class_ 1), (0, u "java/lang/Object"), (0, .class_ 3)] 3

/-- java/io/Serializable -/
def k5 : Class := { plain "java/io/Serializable" (some 0) with
  accessFlags := 1537
  interfaces := #[]
  cf := some (fileOf pool5 2 #[] #[] 1537 4 #[] #[])
  fields := #[]
  methods := #[]
  instanceTypes := #[]
  staticTypes := #[]
  resolved := Array.replicate 8 none
  statics := none }

/-- the primitive byte -/
def k6 : Class := { plain "byte" none with kind := .primitive 'B', accessFlags := 0x411 }
/-- [B -/
def k7 : Class := { plain "[B" (some 0) with kind := .array 6 .byte, interfaces := #[4, 5], accessFlags := 1041 }

/-- the primitive int -/
def k8 : Class := { plain "int" none with kind := .primitive 'I', accessFlags := 0x411 }
/-- [I -/
def k9 : Class := { plain "[I" (some 0) with kind := .array 8 .int, interfaces := #[4, 5], accessFlags := 1041 }

def heap : Heap := #[]
def classes : Array Class := #[k0, k1, k2, k3, k4, k5, k6, k7, k8, k9]
def interned : List (Array UInt16 × Addr) := []
def slotsUsed : Nat := 0
def theMethod : MethodId := ⟨1, 1⟩
def args0 : Array Value := #[.long 5, .long 7, .int 3, .int 0]
def aboutOver (below : List Frame) : State where
  vm := { classes := classes, interned := interned.toArray }
  heap := heap
  slotsUsed := slotsUsed
  threads := #[{ frames := .invoking theMethod args0 :: below }]
def below0 : List Frame := [.native { method := ⟨0, 0⟩, args := #[] }]
def about1 : State := aboutOver below0
def p0 : Program := .bare "" "" ""
def e0 : Env := launch0.env 0 0 0
theorem w_frames : about1.frames = Frame.invoking theMethod args0 :: below0 := rfl
set_option maxRecDepth 65536 in
theorem w_args : argsFit about1.vm theMethod args0 = true := by decide +kernel
set_option maxRecDepth 65536 in
theorem w_heap : heapFits about1 = true := by decide +kernel
set_option maxRecDepth 65536 in
theorem w_runnable : about1.curStatus? = some .runnable := by decide +kernel
set_option maxRecDepth 65536 in
theorem w_alone : about1.alone = true := by decide +kernel
set_option maxRecDepth 65536 in
theorem w_named : about1.methodNamed? x = some theMethod := by decide +kernel
set_option maxRecDepth 65536 in
theorem w_hears : about1.hears theMethod below0 = true := by decide +kernel
set_option maxRecDepth 65536 in
theorem w_ripe : about1.ripe theMethod args0 below0 = true := by decide +kernel
theorem w_running : about1.status = .running := rfl
set_option maxRecDepth 65536 in
theorem w_room : about1.hasRoom e0.platform room_1 = true :=
  launch0.hasRoom_least _ room_1 (by decide +kernel) (by decide +kernel) (by decide +kernel) (by decide +kernel) (by decide +kernel) (by decide +kernel)
theorem allAtoms_all (ts : List Jvm.Cond) (a : Array Jvm.Value) (st : Jvm.State) : (allAtoms ts).before a st = ts.all (fun c => c.before a st) := by
  induction ts with
  | nil => rfl
  | cons c t ih =>
    show (Jvm.Cond.and c (allAtoms t)).before a st = _
    rw [Jvm.Cond.before_and, ih, List.all_cons]
def words1 : List Jvm.Cond := Jvm.Cond.code x code maxLocals ret :: tables_1
/-- a 'code' word, met by the world's own term for the bytes: nothing is compared byte by byte -/
theorem code_word {y : MethodName} {bytes : ByteArray} {mx : Nat} {rt : Option FieldType} {a : Array Value} {s : State} {m : MethodId} {meth : Method} {c : Code} (h1 : s.methodNamed? y = some m) (h2 : s.vm.method? m = some meth) (h3 : meth.code = some c) (h4 : c.code = bytes)
    (h5 : (c.maxLocals == mx && c.exceptionTable.isEmpty && decide (c.maxStack ≤ mostOperands) && decide (meth.sig.returnType = rt) && !meth.locks && decide (parseMethodDescriptor y.desc = some meth.sig)) = true) : (Jvm.Cond.code y bytes mx rt).before a s = true := by
  simp only [Bool.and_eq_true, beq_iff_eq, Bool.not_eq_true', decide_eq_true_eq] at h5
  obtain ⟨⟨⟨⟨⟨g1, g2⟩, g3⟩, g4⟩, g5⟩, g6⟩ := h5
  simp [Cond.before, Cond.holds, Cond.value, h1, h2, h3, h4, g1, g2, g3, g4, g5, g6]
def isCode : Jvm.Cond → Bool
  | .code _ _ _ _ => true
  | _ => false
theorem all_split {L : List Jvm.Cond} {P : Jvm.Cond → Bool} (h1 : L.all (fun c => isCode c || P c) = true) (h2 : ∀ c ∈ L.filter isCode, P c = true) : L.all P = true := by
  refine List.all_eq_true.mpr fun c hc => ?_
  have h := List.all_eq_true.mp h1 c hc
  rcases Bool.eq_false_or_eq_true (isCode c) with hi | hi
  · exact h2 c (List.mem_filter.mpr ⟨hc, hi⟩)
  · simpa [hi] using h
set_option maxRecDepth 65536 in
theorem w_c0 : (Jvm.Cond.code x code maxLocals ret).before args0 about1 = true := code_word (m := ⟨1, 1⟩) (meth := k1m1) (c := k1c1) (by decide +kernel) rfl rfl rfl (by decide +kernel)
set_option maxRecDepth 65536 in
theorem w_c1 : (Jvm.Cond.code ({ cls := "bearings/core/RecordReader", name := "fits", desc := "(IJJ)Z" } : Jvm.MethodName) prog_52_method_5_code (5 : Nat) (Option.some Jvm.ClassFile.FieldType.boolean)).before args0 about1 = true := code_word (m := ⟨2, 1⟩) (meth := k2m1) (c := k2c1) (by decide +kernel) rfl rfl rfl (by decide +kernel)
set_option maxRecDepth 65536 in
theorem w_c2 : (Jvm.Cond.code ({ cls := "java/lang/Math", name := "min", desc := "(JJ)J" } : Jvm.MethodName) jdk_29_method_70_code (4 : Nat) (Option.some Jvm.ClassFile.FieldType.long)).before args0 about1 = true := code_word (m := ⟨3, 2⟩) (meth := k3m2) (c := k3c2) (by decide +kernel) rfl rfl rfl (by decide +kernel)
set_option maxRecDepth 65536 in
theorem w_c3 : (Jvm.Cond.code ({ cls := "java/lang/Math", name := "max", desc := "(JJ)J" } : Jvm.MethodName) jdk_29_method_66_code (4 : Nat) (Option.some Jvm.ClassFile.FieldType.long)).before args0 about1 = true := code_word (m := ⟨3, 1⟩) (meth := k3m1) (c := k3c1) (by decide +kernel) rfl rfl rfl (by decide +kernel)
def codes1 : List Jvm.Cond := [Jvm.Cond.code x code maxLocals ret, Jvm.Cond.code ({ cls := "bearings/core/RecordReader", name := "fits", desc := "(IJJ)Z" } : Jvm.MethodName) prog_52_method_5_code (5 : Nat) (Option.some Jvm.ClassFile.FieldType.boolean), Jvm.Cond.code ({ cls := "java/lang/Math", name := "min", desc := "(JJ)J" } : Jvm.MethodName) jdk_29_method_70_code (4 : Nat) (Option.some Jvm.ClassFile.FieldType.long), Jvm.Cond.code ({ cls := "java/lang/Math", name := "max", desc := "(JJ)J" } : Jvm.MethodName) jdk_29_method_66_code (4 : Nat) (Option.some Jvm.ClassFile.FieldType.long)]
set_option maxRecDepth 65536 in
theorem codes_eq : words1.filter isCode = codes1 := rfl
theorem w_codes : ∀ c ∈ words1.filter isCode, c.before args0 about1 = true := by
  rw [codes_eq]
  intro c hc
  simp only [codes1, List.mem_cons, List.not_mem_nil, or_false] at hc
  rcases hc with rfl | rfl | rfl | rfl
  · exact w_c0
  · exact w_c1
  · exact w_c2
  · exact w_c3
set_option maxRecDepth 65536 in
theorem w_t1 : words1.all (fun c => isCode c || c.before args0 about1) = true := by decide +kernel
theorem w_tables : (allAtoms (Jvm.Cond.code x code maxLocals ret :: tables_1)).before args0 about1 = true := by
  rw [allAtoms_all]
  show words1.all (fun c => c.before args0 about1) = true
  refine all_split ?_ w_codes
  rw [w_t1]
set_option maxRecDepth 65536 in
theorem w_case : (Jvm.Cond.and given_1 narrow_1).before args0 about1 = true := by decide +kernel
theorem w_applies : (headSpec (Jvm.Cond.code x code maxLocals ret :: tables_1) room_1).applies x e0.platform about1 = true :=
  (Spec.applies_iff w_frames).mpr ⟨w_running, w_runnable, w_alone, w_named, w_hears, w_ripe, w_room, w_tables⟩
theorem atStart : AtStart classFile x code maxLocals ret World_1 tables_1 room_1 Calls_1 rest_1 Pre_1 launch0 p0 e0 about1 theMethod args0 below0 :=
  ⟨lists_1, trivial, launch0.admits_env _ _ _, launch0.least_env, fairChoices_fair.cas, fairChoices_fair.clock, w_frames, w_args, w_heap, w_applies, trivial, trivial, w_case⟩
end start1
theorem witness_1 : WitnessClaimed_1 := ⟨start1.p0, start1.e0, start1.about1, start1.theMethod, start1.args0, start1.below0, start1.atStart⟩
end Jvm.Pilot.@@N@@
