import JvmDerived
import JvmDerived.Pilot.@@N@@Statement
import JvmDerived.Pilot.@@N@@Code
set_option linter.unusedVariables false
set_option linter.unusedSimpArgs false
@@BLOCK:NumsL.lean.txt@@
namespace Jvm.Pilot.@@N@@
open Jvm Jvm.ClassFile Sem Op Lib Jvm.Free Jvm.Stand Jvm.LawKit Jvm.RoadKit Bundle Jvm.Pilot.@@N@@.Jvm.D
section Own
variable {p : Program} {l : Launch} {e : Env} {R : Room} {s : State} {m : MethodId} {args : Array Value} {below : List Frame} {meth : Method} {c : Code} {T : State} {locs : List Loc} {cells slots : Nat}
theorem own_ireturn (X : Stand p l e R s m args below meth c T locs cells slots) (hx : p.tables.exec = Jvm.exec) {pc : Nat} {Ls : Array Slot} {z : Int32} {rest : List Value} (hret : meth.sig.returnType = some .int) (hd : decode c.code pc = .ok (.ireturn, 1)) {fs : List Frame}
    (hl : ∀ (f : JFrame) (acts : List Action), f.method = m → f.locked = none → f.entered = [] → (doReturn e (T.setTop f) acts (some (.int z))).1 = T.setFrames fs) : Steps p.tables e below (T.setTop (mkF m pc Ls (.int z :: rest))) (T.setFrames fs) := by
  have hm' : T.vm.method? m = some meth := X.method'
  have hn : narrow .int (.int z) = .int z := rfl
  show Steps p.tables e below (T.setTop { method := m, pc := pc, locals := Ls, stack := _ :: rest, locked := none }) _
  jvm_step X.here [X.here.top, hx, hd, hm', hret, hn]
  first | (intro acts; rw [hl _ acts rfl rfl rfl]) | rw [hl _ _ rfl rfl rfl]
  exact Steps.refl _
theorem own_more (X : Stand p l e R s m args below meth c T locs cells slots) {k n : Nat} (h1 : cells ≤ k) (h2 : slots ≤ n) : Stand p l e R s m args below meth c T locs k n := { X with same := X.same.mono h1 h2 }
theorem own_retV (X : Stand p l e R s m args below meth c T locs cells slots) (hx : p.tables.exec = Jvm.exec) (hlk : meth.locks = false) (hret : meth.sig.returnType = none) {pc : Nat} {Ls : Array Slot} (hd : decode c.code pc = .ok (.return_, 1)) {base : State}
    (pre : ∀ t, Steps p.tables e below (T.setTop (mkF m pc Ls [])) t → Steps p.tables e below base t) {Q : Option Value → Heap → List Loc → Prop} (hQ : Q none T.heap locs) {k n : Nat} (h1 : cells ≤ k) (h2 : slots ≤ n) :
    ∃ s₂ o, Steps p.tables e below base s₂ ∧ s₂.status = .running ∧ Ended s₂ below o ∧ ∃ v L, o = .returned v ∧ Q v s₂.heap L ∧ FrameEnd s o s₂ L k n := by
  obtain ⟨fs, hr, hrun, hended, hW, hsame⟩ := X.leave (v := none) (fun _ => rfl)
  exact ⟨_, _, pre _ (X.returnOut hx hret hd hr), hrun, hended, _, _, rfl, hQ, ⟨_, rfl⟩, hW, hsame.mono h1 h2⟩
theorem own_retI (X : Stand p l e R s m args below meth c T locs cells slots) (hx : p.tables.exec = Jvm.exec) (hlk : meth.locks = false) (hret : meth.sig.returnType = some .int) {pc : Nat} {Ls : Array Slot} {z : Int32} {rest : List Value} (hd : decode c.code pc = .ok (.ireturn, 1)) {base : State}
    (pre : ∀ t, Steps p.tables e below (T.setTop (mkF m pc Ls (.int z :: rest))) t → Steps p.tables e below base t) {Q : Option Value → Heap → List Loc → Prop} (hQ : Q (some (.int z)) T.heap locs) {k n : Nat} (h1 : cells ≤ k) (h2 : slots ≤ n) :
    ∃ s₂ o, Steps p.tables e below base s₂ ∧ s₂.status = .running ∧ Ended s₂ below o ∧ ∃ v L, o = .returned v ∧ Q v s₂.heap L ∧ FrameEnd s o s₂ L k n := by
  obtain ⟨fs, hr, hrun, hended, hW, hsame⟩ := X.leave (v := some (.int z)) (fun h => by rw [hret] at h; cases h)
  exact ⟨_, _, pre _ (own_ireturn X hx hret hd hr), hrun, hended, _, _, rfl, hQ, ⟨_, rfl⟩, hW, hsame.mono h1 h2⟩
theorem own_retN (X : Stand p l e R s m args below meth c T locs cells slots) (hx : p.tables.exec = Jvm.exec) (hlk : meth.locks = false) {t : FieldType} (hret : meth.sig.returnType = some t) (ht : t = .boolean ∨ t = .byte ∨ t = .char ∨ t = .short) {pc : Nat} {Ls : Array Slot} {z : Int32} {rest : List Value} (hd : decode c.code pc = .ok (.ireturn, 1)) {base : State}
    (pre : ∀ t, Steps p.tables e below (T.setTop (mkF m pc Ls (.int z :: rest))) t → Steps p.tables e below base t) {Q : Option Value → Heap → List Loc → Prop} (hQ : Q (some (.int (nar t z))) T.heap locs) {k n : Nat} (h1 : cells ≤ k) (h2 : slots ≤ n) :
    ∃ s₂ o, Steps p.tables e below base s₂ ∧ s₂.status = .running ∧ Ended s₂ below o ∧ ∃ v L, o = .returned v ∧ Q v s₂.heap L ∧ FrameEnd s o s₂ L k n := by
  obtain ⟨fs, hr, hrun, hended, hW, hsame⟩ := X.leave (v := some (.int (nar t z))) (fun h => by rw [hret] at h; cases h)
  exact ⟨_, _, pre _ (retN X hx hret ht hd hr), hrun, hended, _, _, rfl, hQ, ⟨_, rfl⟩, hW, hsame.mono h1 h2⟩
theorem own_retJ (X : Stand p l e R s m args below meth c T locs cells slots) (hx : p.tables.exec = Jvm.exec) (hlk : meth.locks = false) (hret : meth.sig.returnType = some .long) {pc : Nat} {Ls : Array Slot} {z : Int64} (hd : decode c.code pc = .ok (.lreturn, 1)) {base : State}
    (pre : ∀ t, Steps p.tables e below (T.setTop (mkF m pc Ls [.long z])) t → Steps p.tables e below base t) {Q : Option Value → Heap → List Loc → Prop} (hQ : Q (some (.long z)) T.heap locs) {k n : Nat} (h1 : cells ≤ k) (h2 : slots ≤ n) :
    ∃ s₂ o, Steps p.tables e below base s₂ ∧ s₂.status = .running ∧ Ended s₂ below o ∧ ∃ v L, o = .returned v ∧ Q v s₂.heap L ∧ FrameEnd s o s₂ L k n := by
  obtain ⟨fs, hr, hrun, hended, hW, hsame⟩ := X.leave (v := some (.long z)) (fun h => by rw [hret] at h; cases h)
  exact ⟨_, _, pre _ (X.lreturnOut hx hret hd hr), hrun, hended, _, _, rfl, hQ, ⟨_, rfl⟩, hW, hsame.mono h1 h2⟩
theorem own_retA (X : Stand p l e R s m args below meth c T locs cells slots) (hx : p.tables.exec = Jvm.exec) (hlk : meth.locks = false) {w : Value} {t : FieldType} (hw : w.isRef = true) (hret : meth.sig.returnType = some t) (ht : t.isReference = true) {pc : Nat} {Ls : Array Slot} (hd : decode c.code pc = .ok (.areturn, 1)) {base : State}
    (pre : ∀ t, Steps p.tables e below (T.setTop (mkF m pc Ls [w])) t → Steps p.tables e below base t) {Q : Option Value → Heap → List Loc → Prop} (hQ : Q (some w) T.heap locs) {k n : Nat} (h1 : cells ≤ k) (h2 : slots ≤ n) :
    ∃ s₂ o, Steps p.tables e below base s₂ ∧ s₂.status = .running ∧ Ended s₂ below o ∧ ∃ v L, o = .returned v ∧ Q v s₂.heap L ∧ FrameEnd s o s₂ L k n := by
  obtain ⟨fs, hr, hrun, hended, hW, hsame⟩ := X.leave (v := some w) (fun h => by rw [hret] at h; cases h)
  exact ⟨_, _, pre _ (X.areturnOut hx hw hret ht hd hr), hrun, hended, _, _, rfl, hQ, ⟨_, rfl⟩, hW, hsame.mono h1 h2⟩
end Own
theorem own_w {a0 : Array Value} {Z : State} (hw : ∀ d ∈ tables_1, d.before a0 Z = true) (i : Nat) {d : Jvm.Cond} (h : tables_1[i]? = some d) : d.before a0 Z = true := hw d (List.mem_of_getElem? h)
theorem own_bool {z : Int32} (h : z = 0 ∨ z = 1) : nar .boolean z = z := by rcases h with rfl | rfl <;> rfl

def PT (Z : State) (h : Heap) (n0 : Nat) (a : Addr) (f e cap : Int32) (xs ys : List Value) (b : Int32) : Prop := ∃ (am ac : Addr) (km kc : ClassId), Exa Z h a "com/example/viral_counter/viralcounter/PostTrend" ∧ Fld Z h a "com/example/viral_counter/viralcounter/PostTrend" "minutes" "[J" (.ref am) ∧ Fld Z h a "com/example/viral_counter/viralcounter/PostTrend" "counts" "[I" (.ref ac) ∧ Fld Z h a "com/example/viral_counter/viralcounter/PostTrend" "first" "I" (.int f) ∧ Fld Z h a "com/example/viral_counter/viralcounter/PostTrend" "end" "I" (.int e) ∧ Fld Z h a "com/example/viral_counter/viralcounter/PostTrend" "before" "I" (.int b) ∧ Arv Z h am km .long cap xs (.long (0 : Int64)) ∧ Arv Z h ac kc .int cap ys (.int (0 : Int32)) ∧ n0 ≤ a ∧ n0 ≤ am ∧ n0 ≤ ac ∧ a ≠ am ∧ a ≠ ac ∧ am ≠ ac
theorem own_pt_exa {Z : State} {h : Heap} {n0 : Nat} {a : Addr} {f e cap : Int32} {xs ys : List Value} {b : Int32} (P : PT Z h n0 a f e cap xs ys b) : Exa Z h a "com/example/viral_counter/viralcounter/PostTrend" := by obtain ⟨_, _, _, _, E, _⟩ := P; exact E
abbrev own_y_0 : MethodName := (⟨"com/example/viral_counter/viralcounter/PostTrend", "<init>", "()V"⟩ : MethodName)
theorem ef_1 (m : MethodId) (x0 : Addr) : entryFrame m #[(.ref x0)] 1 = mkF m 0 #[.val (.ref x0)] [] := by first | (simp [entryFrame, mkF, argsToLocals, Value.category]; done) | rfl
theorem pn_2 : plainName "com/example/viral_counter/viralcounter/PostTrend" = true := by first | (simp [plainName, overriddenIn]; done) | decide +kernel
theorem d2_0 : decode prog_25_method_1_code 0 = .ok (.aload_n 0, 1) := by decide +kernel
theorem d2_1 : decode prog_25_method_1_code 1 = .ok (.invokespecial 1, 3) := by decide +kernel
theorem d2_4 : decode prog_25_method_1_code 4 = .ok (.aload_n 0, 1) := by decide +kernel
theorem d2_5 : decode prog_25_method_1_code 5 = .ok (.iconst 2, 1) := by decide +kernel
theorem d2_6 : decode prog_25_method_1_code 6 = .ok (.newarray .long, 2) := by decide +kernel
theorem d2_8 : decode prog_25_method_1_code 8 = .ok (.putfield 9, 3) := by decide +kernel
theorem own_sn_9 {Z : State} {a0 : Array Value} (hw : ∀ d ∈ tables_1, d.before a0 Z = true) : Jvm.RoadKit.slotOf Z "com/example/viral_counter/viralcounter/PostTrend" "counts" "[I" ≠ Jvm.RoadKit.slotOf Z "com/example/viral_counter/viralcounter/PostTrend" "minutes" "[J" := slot_ne (C := "com/example/viral_counter/viralcounter/PostTrend") (Or.inl (own_w hw 18 rfl)) (Or.inl (own_w hw 15 rfl)) (by decide) (t := (.array .int)) (t' := (.array .long)) (by decide) (by decide)
theorem own_sn_10 {Z : State} {a0 : Array Value} (hw : ∀ d ∈ tables_1, d.before a0 Z = true) : Jvm.RoadKit.slotOf Z "com/example/viral_counter/viralcounter/PostTrend" "first" "I" ≠ Jvm.RoadKit.slotOf Z "com/example/viral_counter/viralcounter/PostTrend" "minutes" "[J" := slot_ne (C := "com/example/viral_counter/viralcounter/PostTrend") (Or.inl (own_w hw 25 rfl)) (Or.inl (own_w hw 15 rfl)) (by decide) (t := .int) (t' := (.array .long)) (by decide) (by decide)
theorem own_sn_11 {Z : State} {a0 : Array Value} (hw : ∀ d ∈ tables_1, d.before a0 Z = true) : Jvm.RoadKit.slotOf Z "com/example/viral_counter/viralcounter/PostTrend" "end" "I" ≠ Jvm.RoadKit.slotOf Z "com/example/viral_counter/viralcounter/PostTrend" "minutes" "[J" := slot_ne (C := "com/example/viral_counter/viralcounter/PostTrend") (Or.inl (own_w hw 27 rfl)) (Or.inl (own_w hw 15 rfl)) (by decide) (t := .int) (t' := (.array .long)) (by decide) (by decide)
theorem own_sn_12 {Z : State} {a0 : Array Value} (hw : ∀ d ∈ tables_1, d.before a0 Z = true) : Jvm.RoadKit.slotOf Z "com/example/viral_counter/viralcounter/PostTrend" "before" "I" ≠ Jvm.RoadKit.slotOf Z "com/example/viral_counter/viralcounter/PostTrend" "minutes" "[J" := slot_ne (C := "com/example/viral_counter/viralcounter/PostTrend") (Or.inl (own_w hw 34 rfl)) (Or.inl (own_w hw 15 rfl)) (by decide) (t := .int) (t' := (.array .long)) (by decide) (by decide)
theorem d2_11 : decode prog_25_method_1_code 11 = .ok (.aload_n 0, 1) := by decide +kernel
theorem d2_12 : decode prog_25_method_1_code 12 = .ok (.iconst 2, 1) := by decide +kernel
theorem d2_13 : decode prog_25_method_1_code 13 = .ok (.newarray .int, 2) := by decide +kernel
theorem d2_15 : decode prog_25_method_1_code 15 = .ok (.putfield 13, 3) := by decide +kernel
theorem own_sn_17 {Z : State} {a0 : Array Value} (hw : ∀ d ∈ tables_1, d.before a0 Z = true) : Jvm.RoadKit.slotOf Z "com/example/viral_counter/viralcounter/PostTrend" "first" "I" ≠ Jvm.RoadKit.slotOf Z "com/example/viral_counter/viralcounter/PostTrend" "counts" "[I" := slot_ne (C := "com/example/viral_counter/viralcounter/PostTrend") (Or.inl (own_w hw 25 rfl)) (Or.inl (own_w hw 18 rfl)) (by decide) (t := .int) (t' := (.array .int)) (by decide) (by decide)
theorem own_sn_18 {Z : State} {a0 : Array Value} (hw : ∀ d ∈ tables_1, d.before a0 Z = true) : Jvm.RoadKit.slotOf Z "com/example/viral_counter/viralcounter/PostTrend" "end" "I" ≠ Jvm.RoadKit.slotOf Z "com/example/viral_counter/viralcounter/PostTrend" "counts" "[I" := slot_ne (C := "com/example/viral_counter/viralcounter/PostTrend") (Or.inl (own_w hw 27 rfl)) (Or.inl (own_w hw 18 rfl)) (by decide) (t := .int) (t' := (.array .int)) (by decide) (by decide)
theorem own_sn_19 {Z : State} {a0 : Array Value} (hw : ∀ d ∈ tables_1, d.before a0 Z = true) : Jvm.RoadKit.slotOf Z "com/example/viral_counter/viralcounter/PostTrend" "before" "I" ≠ Jvm.RoadKit.slotOf Z "com/example/viral_counter/viralcounter/PostTrend" "counts" "[I" := slot_ne (C := "com/example/viral_counter/viralcounter/PostTrend") (Or.inl (own_w hw 34 rfl)) (Or.inl (own_w hw 18 rfl)) (by decide) (t := .int) (t' := (.array .int)) (by decide) (by decide)
theorem own_sn_20 {Z : State} {a0 : Array Value} (hw : ∀ d ∈ tables_1, d.before a0 Z = true) : Jvm.RoadKit.slotOf Z "com/example/viral_counter/viralcounter/PostTrend" "minutes" "[J" ≠ Jvm.RoadKit.slotOf Z "com/example/viral_counter/viralcounter/PostTrend" "counts" "[I" := slot_ne (C := "com/example/viral_counter/viralcounter/PostTrend") (Or.inl (own_w hw 15 rfl)) (Or.inl (own_w hw 18 rfl)) (by decide) (t := (.array .long)) (t' := (.array .int)) (by decide) (by decide)
theorem d2_18 : decode prog_25_method_1_code 18 = .ok (.return_, 1) := by decide +kernel
def QNew (Z : State) (a1 : Addr) (h0 : Heap) (n0 : Nat) (v : Option Value) (h : Heap) (L : List Loc) : Prop := v = none ∧ Fr n0 L ∧ h0.size ≤ h.size ∧ PT Z h n0 a1 (0 : Int32) (0 : Int32) (2 : Int32) [(.long (0 : Int64)), (.long (0 : Int64))] [(.int (0 : Int32)), (.int (0 : Int32))] (0 : Int32)
set_option maxRecDepth 65536 in
set_option maxHeartbeats 40000000 in
theorem rmNew (l : Launch) (Z : State) (a0 : Array Value) (hw : ∀ d ∈ tables_1, d.before a0 Z = true) (ws : List Jvm.Cond) (a1 : Addr) (h0 : Heap) (n0 : Nat) (Z0 : n0 ≤ h0.size) (E1 : Exa Z h0 a1 "com/example/viral_counter/viralcounter/PostTrend") (F0 : Fld Z h0 a1 "com/example/viral_counter/viralcounter/PostTrend" "minutes" "[J" .null) (F1 : Fld Z h0 a1 "com/example/viral_counter/viralcounter/PostTrend" "counts" "[I" .null) (F2 : Fld Z h0 a1 "com/example/viral_counter/viralcounter/PostTrend" "first" "I" (.int (0 : Int32))) (F3 : Fld Z h0 a1 "com/example/viral_counter/viralcounter/PostTrend" "end" "I" (.int (0 : Int32))) (F4 : Fld Z h0 a1 "com/example/viral_counter/viralcounter/PostTrend" "before" "I" (.int (0 : Int32))) (G1 : n0 ≤ a1) :
    MetFree l own_y_0 (head1 (Jvm.Cond.code own_y_0 prog_25_method_1_code 1 none :: ws) ({ frames := 1, cells := 2, slots := 4, locals := 12 } : Room)) (fun a U => a = #[(.ref a1)] ∧ Z.Warmed39 U.vm ∧ U.heap = h0) (fun _ _ _ _ _ => True) (fun _ U o U' => ∃ v L, o = .returned v ∧ QNew Z a1 h0 n0 v U'.heap L ∧ FrameEnd U o U' L ({ frames := 1, cells := 2, slots := 4, locals := 12 } : Room).cells ({ frames := 1, cells := 2, slots := 4, locals := 12 } : Room).slots) := by
  refine MetFree.of_bodySF (plainFor_of_name pn_2) hisR ?_
  intro p e s m args below meth c s₁ Bd hml0 hP hK
  obtain ⟨rfl, hZ, hh⟩ := hP
  have hx := Bd.exec
  have hby := Bd.bytes
  have hml : c.maxLocals = 1 := hml0
  have hown : s.vm.findClass "com/example/viral_counter/viralcounter/PostTrend" = some m.cls := findClass_of_methodNamed Bd.named
  have hnm := (name_of_methodNamed Bd.named Bd.method).1
  have X0 : Stand p l e ({ frames := 1, cells := 2, slots := 4, locals := 12 } : Room) s m #[(.ref a1)] below meth c s₁ [] 0 0 := Stand.of_body Bd
  have e0 : s₁.heap = h0 := by rw [← hh, Bd.state]; rfl
  have N0 := Fr.nil n0
  have pre0 : ∀ t, Steps p.tables e below (s₁.setTop (mkF m 0 #[.val (.ref a1)] [])) t → Steps p.tables e below (s₁.setTop (entryFrame m #[(.ref a1)] 1)) t := fun t k => castTop (ef_1 m a1) k
  obtain ⟨T1, X1, e1, st1⟩ := initO X0 hx hZ hown (own_w hw 10 rfl) (own_w hw 11 rfl) (own_w hw 12 rfl) e0 (g := (mkF m 1 #[.val (.ref a1)] [(.ref a1)])) rfl (by rw [hml]; rfl) rfl (hb hby d2_1) (by decide) (W := 0) (by show 2 * 0 + _ ≤ _; exact Nat.le_of_eq rfl) (by decide)
  obtain ⟨T2, h2, k2, X2, e2, E2, A2, st2⟩ := newP X1 hx hZ (own_w hw 13 rfl) e1 (g := (mkF m 6 #[.val (.ref a1)] [(.int (2 : Int32)), (.ref a1)])) rfl (hb hby d2_6) rfl (by decide) (cap := 2) (by decide) (by decide) (by decide) (by decide)
  obtain ⟨b2, g2⟩ : ∃ z, z = h0.size := ⟨_, rfl⟩
  rw [← g2] at A2 st2
  have G2 : n0 ≤ b2 := Nat.le_trans Z0 (Nat.le_of_eq g2.symm)
  have ne3 : a1 ≠ b2 := Nat.ne_of_lt (Nat.lt_of_lt_of_le E1.lt (Nat.le_of_eq g2.symm))
  have c4 := E1.ext E2
  have c5 := F0.ext E2
  have c6 := F1.ext E2
  have c7 := F2.ext E2
  have c8 := F3.ext E2
  have c9 := F4.ext E2
  have z10 : n0 ≤ h2.size := Nat.le_trans Z0 E2.1
  have V2 : Arv Z h2 b2 k2 .long (2 : Int32) [(.long (0 : Int64)), (.long (0 : Int64))] (.long (0 : Int64)) := (Arv.new A2 (by decide)).pad (pad_rep [] (.long (0 : Int64)) 2)
  obtain ⟨T11, h11, X11, e11, W11, st11⟩ := putF X2 hx hZ hown (host := "") (Or.inl (own_w hw 14 rfl)) Via.refl e2 c5 c4 (Or.inl (own_w hw 15 rfl)) (own_w hw 5 rfl) (ty := (.array .long)) (by decide) rfl rfl (g := (mkF m 8 #[.val (.ref a1)] [(.ref b2), (.ref a1)])) rfl rfl (hb hby d2_8)
  have Fw11 := c5.same W11
  have N11 := Fr.snoc X11 N0 G1
  have z12 : n0 ≤ h11.size := Nat.le_trans z10 (Keep.of_wr W11).1
  have c13 := c4.wr W11
  have c15 := c6.other W11 (Or.inr (own_sn_9 hw))
  have c16 := c7.other W11 (Or.inr (own_sn_10 hw))
  have c17 := c8.other W11 (Or.inr (own_sn_11 hw))
  have c18 := c9.other W11 (Or.inr (own_sn_12 hw))
  have c19 := V2.other W11 (Ne.symm ne3)
  obtain ⟨T20, h20, k20, X20, e20, E20, A20, st20⟩ := newP X11 hx hZ (own_w hw 16 rfl) e11 (g := (mkF m 13 #[.val (.ref a1)] [(.int (2 : Int32)), (.ref a1)])) rfl (hb hby d2_13) rfl (by decide) (cap := 2) (by decide) (by decide) (by decide) (by decide)
  obtain ⟨b20, g20⟩ : ∃ z, z = h11.size := ⟨_, rfl⟩
  rw [← g20] at A20 st20
  have G20 : n0 ≤ b20 := Nat.le_trans z12 (Nat.le_of_eq g20.symm)
  have ne21 : a1 ≠ b20 := Nat.ne_of_lt (Nat.lt_of_lt_of_le c13.lt (Nat.le_of_eq g20.symm))
  have ne22 : b2 ≠ b20 := Nat.ne_of_lt (Nat.lt_of_lt_of_le c19.lt (Nat.le_of_eq g20.symm))
  have c23 := c13.ext E20
  have c24 := c15.ext E20
  have c25 := c16.ext E20
  have c26 := c17.ext E20
  have c27 := c18.ext E20
  have c28 := c19.ext E20
  have c29 := Fw11.ext E20
  have z30 : n0 ≤ h20.size := Nat.le_trans z12 E20.1
  have V20 : Arv Z h20 b20 k20 .int (2 : Int32) [(.int (0 : Int32)), (.int (0 : Int32))] (.int (0 : Int32)) := (Arv.new A20 (by decide)).pad (pad_rep [] (.int (0 : Int32)) 2)
  obtain ⟨T31, h31, X31, e31, W31, st31⟩ := putF X20 hx hZ hown (host := "") (Or.inl (own_w hw 17 rfl)) Via.refl e20 c24 c23 (Or.inl (own_w hw 18 rfl)) (own_w hw 5 rfl) (ty := (.array .int)) (by decide) rfl rfl (g := (mkF m 15 #[.val (.ref a1)] [(.ref b20), (.ref a1)])) rfl rfl (hb hby d2_15)
  have Fw31 := c24.same W31
  have N31 := Fr.snoc X31 N11 G1
  have z32 : n0 ≤ h31.size := Nat.le_trans z30 (Keep.of_wr W31).1
  have c33 := c23.wr W31
  have c35 := c25.other W31 (Or.inr (own_sn_17 hw))
  have c36 := c26.other W31 (Or.inr (own_sn_18 hw))
  have c37 := c27.other W31 (Or.inr (own_sn_19 hw))
  have c38 := c28.other W31 (Ne.symm ne3)
  have c39 := c29.other W31 (Or.inr (own_sn_20 hw))
  have c40 := V20.other W31 (Ne.symm ne21)
  have pre41 : ∀ t, Steps p.tables e below (T31.setTop (mkF m 18 #[.val (.ref a1)] [])) t → Steps p.tables e below (s₁.setTop (entryFrame m #[(.ref a1)] 1)) t := fun t kt => pre0 t (by
    show Steps p.tables e below (s₁.setTop (mkF m 0 #[.val (.ref a1)] [])) _
    refine XS.aloadN X0.here hx rfl (hb hby d2_0) rfl rfl ?_
    refine st1 _ ?_
    refine XS.aloadN X1.here hx rfl (hb hby d2_4) rfl rfl ?_
    refine XS.iconst X1.here hx rfl (hb hby d2_5) ?_
    refine st2 _ ?_
    refine st11 _ ?_
    refine XS.aloadN X11.here hx rfl (hb hby d2_11) rfl rfl ?_
    refine XS.iconst X11.here hx rfl (hb hby d2_12) ?_
    refine st20 _ ?_
    refine st31 _ ?_
    exact kt)
  have hz : h0.size ≤ h31.size := Nat.le_trans (Nat.le_trans (Nat.le_trans (Nat.le_trans (Nat.le_refl _) E2.1) (Keep.of_wr W11).1) E20.1) (Keep.of_wr W31).1
  have hQ : QNew Z a1 h0 n0 none h31 _ := ⟨rfl, N31, hz, ⟨b2, b20, k2, k20, c33, c39, Fw31, c35, c36, c37, c38, c40, G1, G2, G20, ne3, ne21, ne22⟩⟩
  exact own_retV X31 hx Bd.notSynchronized Bd.returns (hb hby d2_18) pre41 (show QNew Z a1 h0 n0 _ _ _ from (by rw [e31]; exact hQ)) (by decide) (by decide)
abbrev own_y_22 : MethodName := (⟨"com/example/viral_counter/viralcounter/PostTrendIsEmptyPinLaw", "after", "(JI)J"⟩ : MethodName)
theorem ef_23 (m : MethodId) (x0 : Int64) (x1 : Int32) : entryFrame m #[(.long x0), (.int x1)] 5 = mkF m 0 #[.val (.long x0), .second, .val (.int x1), .unset, .unset] [] := by first | (simp [entryFrame, mkF, argsToLocals, Value.category]; done) | rfl
theorem pn_24 : plainName "com/example/viral_counter/viralcounter/PostTrendIsEmptyPinLaw" = true := by first | (simp [plainName, overriddenIn]; done) | decide +kernel
theorem d1_0 : decode method_2_code 0 = .ok (.lload_n 0, 1) := by decide +kernel
theorem d1_1 : decode method_2_code 1 = .ok (.iload_n 2, 1) := by decide +kernel
theorem d1_2 : decode method_2_code 2 = .ok (.i2l, 1) := by decide +kernel
theorem d1_3 : decode method_2_code 3 = .ok (.ladd, 1) := by decide +kernel
theorem d1_4 : decode method_2_code 4 = .ok (.lstore_n 3, 1) := by decide +kernel
theorem d1_5 : decode method_2_code 5 = .ok (.lload_n 3, 1) := by decide +kernel
theorem d1_6 : decode method_2_code 6 = .ok (.lload_n 0, 1) := by decide +kernel
theorem d1_7 : decode method_2_code 7 = .ok (.lcmp, 1) := by decide +kernel
theorem d1_8 : decode method_2_code 8 = .ok (.ifCond .ge 7, 3) := by decide +kernel
theorem d1_11 : decode method_2_code 11 = .ok (.lload_n 0, 1) := by decide +kernel
theorem d1_12 : decode method_2_code 12 = .ok (.goto 4, 3) := by decide +kernel
theorem d1_15 : decode method_2_code 15 = .ok (.lload_n 3, 1) := by decide +kernel
theorem d1_16 : decode method_2_code 16 = .ok (.lreturn, 1) := by decide +kernel
def QAft (q1 : Int64) (p2 : Int32) (h0 : Heap) (n0 : Nat) (v : Option Value) (h : Heap) (L : List Loc) : Prop := v = some (.long (if (q1 + (p2.toInt64)) < q1 then q1 else (q1 + (p2.toInt64)))) ∧ Fr n0 L ∧ h = h0
set_option maxRecDepth 65536 in
set_option maxHeartbeats 40000000 in
theorem rmAft (l : Launch) (Z : State) (a0 : Array Value) (hw : ∀ d ∈ tables_1, d.before a0 Z = true) (ws : List Jvm.Cond) (q1 : Int64) (p2 : Int32) (h0 : Heap) (n0 : Nat) (Z0 : n0 ≤ h0.size) :
    MetFree l own_y_22 (head1 (Jvm.Cond.code own_y_22 method_2_code 5 (some .long) :: ws) ({ frames := 0, cells := 0, slots := 0, locals := 0 } : Room)) (fun a U => a = #[(.long q1), (.int p2)] ∧ Z.Warmed39 U.vm ∧ U.heap = h0) (fun _ _ _ _ _ => True) (fun _ U o U' => ∃ v L, o = .returned v ∧ QAft q1 p2 h0 n0 v U'.heap L ∧ FrameEnd U o U' L ({ frames := 0, cells := 0, slots := 0, locals := 0 } : Room).cells ({ frames := 0, cells := 0, slots := 0, locals := 0 } : Room).slots) := by
  refine MetFree.of_bodySF (plainFor_of_name pn_24) hisR ?_
  intro p e s m args below meth c s₁ Bd hml0 hP hK
  obtain ⟨rfl, hZ, hh⟩ := hP
  have hx := Bd.exec
  have hby := Bd.bytes
  have hml : c.maxLocals = 5 := hml0
  have hown : s.vm.findClass "com/example/viral_counter/viralcounter/PostTrendIsEmptyPinLaw" = some m.cls := findClass_of_methodNamed Bd.named
  have hnm := (name_of_methodNamed Bd.named Bd.method).1
  have X0 : Stand p l e ({ frames := 0, cells := 0, slots := 0, locals := 0 } : Room) s m #[(.long q1), (.int p2)] below meth c s₁ [] 0 0 := Stand.of_body Bd
  have e0 : s₁.heap = h0 := by rw [← hh, Bd.state]; rfl
  have N0 := Fr.nil n0
  have pre0 : ∀ t, Steps p.tables e below (s₁.setTop (mkF m 0 #[.val (.long q1), .second, .val (.int p2), .unset, .unset] [])) t → Steps p.tables e below (s₁.setTop (entryFrame m #[(.long q1), (.int p2)] 5)) t := fun t k => castTop (ef_23 m q1 p2) k
  have pre42 : ∀ t, Steps p.tables e below (s₁.setTop (mkF m 8 #[.val (.long q1), .second, .val (.int p2), .val (.long (q1 + (p2.toInt64))), .second] [(.int (lcmpW (q1 + (p2.toInt64)) q1))])) t → Steps p.tables e below (s₁.setTop (entryFrame m #[(.long q1), (.int p2)] 5)) t := fun t kt => pre0 t (by
    show Steps p.tables e below (s₁.setTop (mkF m 0 #[.val (.long q1), .second, .val (.int p2), .unset, .unset] [])) _
    refine XS.lloadN X0.here hx rfl (hb hby d1_0) rfl ?_
    refine XS.iloadN X0.here hx rfl (hb hby d1_1) rfl ?_
    refine XS.i2l X0.here hx rfl (hb hby d1_2) rfl ?_
    refine XS.ladd X0.here hx rfl (hb hby d1_3) rfl ?_
    refine XS.lstoreN X0.here hx rfl (hb hby d1_4) rfl (l' := #[.val (.long q1), .second, .val (.int p2), .val (.long (q1 + (p2.toInt64))), .second]) rfl ?_
    refine XS.lloadN X0.here hx rfl (hb hby d1_5) rfl ?_
    refine XS.lloadN X0.here hx rfl (hb hby d1_6) rfl ?_
    refine XS.lcmp X0.here hx rfl (hb hby d1_7) rfl ?_
    exact kt)
  obtain ⟨res, hres⟩ : ∃ z : Int64, z = (if (q1 + (p2.toInt64)) < q1 then q1 else (q1 + (p2.toInt64))) := ⟨_, rfl⟩
  have pre44 : ∀ t, Steps p.tables e below (s₁.setTop (mkF m 16 #[.val (.long q1), .second, .val (.int p2), .val (.long (q1 + (p2.toInt64))), .second] [(.long res)])) t → Steps p.tables e below (s₁.setTop (entryFrame m #[(.long q1), (.int p2)] 5)) t := fun t kt => pre42 t (by
    by_cases hc43 : (q1 + (p2.toInt64)) < q1
    case pos =>
      show Steps p.tables e below (s₁.setTop (mkF m 8 #[.val (.long q1), .second, .val (.int p2), .val (.long (q1 + (p2.toInt64))), .second] [(.int (lcmpW (q1 + (p2.toInt64)) q1))])) _
      refine XS.ifNo X0.here hx rfl (hb hby d1_8) rfl ((if0 _ _).trans (tlt ((lw_lt _ _).mpr hc43)).2.1) ?_
      refine XS.lloadN X0.here hx rfl (hb hby d1_11) rfl ?_
      refine XS.goto X0.here hx rfl (pc0 := 12) (pc' := 16) rfl (hb hby d1_12) (by decide) (by decide) ?_
      rw [show res = q1 from (hres.trans (if_pos hc43))] at kt
      exact kt
    case neg =>
      show Steps p.tables e below (s₁.setTop (mkF m 8 #[.val (.long q1), .second, .val (.int p2), .val (.long (q1 + (p2.toInt64))), .second] [(.int (lcmpW (q1 + (p2.toInt64)) q1))])) _
      refine XS.ifYes X0.here hx rfl (pc0 := 8) (pc' := 15) rfl (hb hby d1_8) rfl ((if0 _ _).trans (flt (fun q => hc43 ((lw_lt _ _).mp q))).2.1) (by decide) (by decide) ?_
      refine XS.lloadN X0.here hx rfl (hb hby d1_15) rfl ?_
      rw [show res = (q1 + (p2.toInt64)) from (hres.trans (if_neg hc43))] at kt
      exact kt)
  exact own_retJ X0 hx Bd.notSynchronized Bd.returns (hb hby d1_16) pre44 (show QAft q1 p2 h0 n0 _ _ _ from ⟨congrArg (fun z => some (Value.long z)) hres, N0, e0⟩) (by decide) (by decide)
theorem own_aft (q1 m : Int64) (p2 : Int32) (h : m = (if (q1 + (p2.toInt64)) < q1 then q1 else (q1 + (p2.toInt64)))) : ¬ m < q1 := by
  rw [h]
  split
  · rw [Int64.lt_iff_toInt_lt]; omega
  · assumption
theorem own_and3 (x : Int32) : (x &&& (3 : Int32)) = (0 : Int32) ∨ (x &&& (3 : Int32)) = (1 : Int32) ∨ (x &&& (3 : Int32)) = (2 : Int32) ∨ (x &&& (3 : Int32)) = (3 : Int32) := by
  have e1 : (x &&& (3 : Int32)).toInt = x.toInt % 2 ^ 2 := Jvm.Kit.i32_mask x _ (k := 2) (by decide) (by decide)
  have e3 : (x &&& (3 : Int32)).toInt = 0 ∨ (x &&& (3 : Int32)).toInt = 1 ∨ (x &&& (3 : Int32)).toInt = 2 ∨ (x &&& (3 : Int32)).toInt = 3 := by omega
  rcases e3 with h | h | h | h <;> simp only [← Int32.toInt_inj, h] <;> decide
abbrev own_LF (q1 : Int64) (p2 : Int32) (p3 : Int32) (q4 : Int64) (p5 : Int32) (kn : Int32) (df : Int32) (ex : Int32) (lk : Int32) (m2 : Int64) (m3 : Int64) (nw : Int64) (mx : Int64) (ob : Addr) (e0 : Int32) (e1 : Int32) (z24 z25 : Slot) : Array Slot := #[.val (.long q1), .second, .val (.int p2), .val (.int p3), .val (.long q4), .second, .val (.int p5), .val (.int kn), .val (.int df), .val (.int ex), .val (.int lk), .val (.long q1), .second, .val (.long m2), .second, .val (.long m3), .second, .val (.long nw), .second, .val (.long mx), .second, .val (.ref ob), .val (.int e0), .val (.int e1), z24, z25, .unset, .unset, .unset]
abbrev own_y_38 : MethodName := (⟨"com/example/viral_counter/viralcounter/PostTrend", "isEmpty", "()Z"⟩ : MethodName)
theorem ef_39 (m : MethodId) (x0 : Addr) : entryFrame m #[(.ref x0)] 1 = mkF m 0 #[.val (.ref x0)] [] := by first | (simp [entryFrame, mkF, argsToLocals, Value.category]; done) | rfl
theorem d4_0 : decode prog_25_method_5_code 0 = .ok (.aload_n 0, 1) := by decide +kernel
theorem d4_1 : decode prog_25_method_5_code 1 = .ok (.getfield 17, 3) := by decide +kernel
theorem d4_4 : decode prog_25_method_5_code 4 = .ok (.aload_n 0, 1) := by decide +kernel
theorem d4_5 : decode prog_25_method_5_code 5 = .ok (.getfield 21, 3) := by decide +kernel
theorem d4_8 : decode prog_25_method_5_code 8 = .ok (.if_icmp .ne 7, 3) := by decide +kernel
theorem d4_11 : decode prog_25_method_5_code 11 = .ok (.iconst 1, 1) := by decide +kernel
theorem d4_12 : decode prog_25_method_5_code 12 = .ok (.goto 4, 3) := by decide +kernel
theorem d4_16 : decode prog_25_method_5_code 16 = .ok (.ireturn, 1) := by decide +kernel
def QEmp (z : Int32) (h0 : Heap) (n0 : Nat) (v : Option Value) (h : Heap) (L : List Loc) : Prop := v = some (.int z) ∧ Fr n0 L ∧ h = h0
set_option maxRecDepth 65536 in
set_option maxHeartbeats 40000000 in
theorem rmEmpT (l : Launch) (Z : State) (a0 : Array Value) (hw : ∀ d ∈ tables_1, d.before a0 Z = true) (ws : List Jvm.Cond) (a1 : Addr) (fi en cap : Int32) (xs ys : List Value) (b : Int32) (h0 : Heap) (n0 : Nat) (Z0 : n0 ≤ h0.size) (P0 : PT Z h0 n0 a1 fi en cap xs ys b) (hq : fi = en) :
    MetFree l own_y_38 (head1 (Jvm.Cond.code own_y_38 prog_25_method_5_code 1 (some .boolean) :: ws) ({ frames := 0, cells := 0, slots := 0, locals := 0 } : Room)) (fun a U => a = #[(.ref a1)] ∧ Z.Warmed39 U.vm ∧ U.heap = h0) (fun _ _ _ _ _ => True) (fun _ U o U' => ∃ v L, o = .returned v ∧ QEmp (1 : Int32) h0 n0 v U'.heap L ∧ FrameEnd U o U' L ({ frames := 0, cells := 0, slots := 0, locals := 0 } : Room).cells ({ frames := 0, cells := 0, slots := 0, locals := 0 } : Room).slots) := by
  refine MetFree.of_bodySF (plainFor_of_name pn_2) hisR ?_
  intro p e s m args below meth c s₁ Bd hml0 hP hK
  obtain ⟨rfl, hZ, hh⟩ := hP
  have hx := Bd.exec
  have hby := Bd.bytes
  have hml : c.maxLocals = 1 := hml0
  have hown : s.vm.findClass "com/example/viral_counter/viralcounter/PostTrend" = some m.cls := findClass_of_methodNamed Bd.named
  have hnm := (name_of_methodNamed Bd.named Bd.method).1
  have X0 : Stand p l e ({ frames := 0, cells := 0, slots := 0, locals := 0 } : Room) s m #[(.ref a1)] below meth c s₁ [] 0 0 := Stand.of_body Bd
  have e0 : s₁.heap = h0 := by rw [← hh, Bd.state]; rfl
  have N0 := Fr.nil n0
  have pre0 : ∀ t, Steps p.tables e below (s₁.setTop (mkF m 0 #[.val (.ref a1)] [])) t → Steps p.tables e below (s₁.setTop (entryFrame m #[(.ref a1)] 1)) t := fun t k => castTop (ef_39 m a1) k
  obtain ⟨am, ac, km, kc, E0, Fm, Fc, Ff, Fe, -⟩ := id P0
  obtain ⟨T47, X47, e47, st47⟩ := getF X0 hx hZ hown (host := "") (Or.inl (own_w hw 24 rfl)) Via.refl e0 Ff (g := (mkF m 1 #[.val (.ref a1)] [(.ref a1)])) rfl rfl (hb hby d4_1)
  obtain ⟨T48, X48, e48, st48⟩ := getF X47 hx hZ hown (host := "") (Or.inl (own_w hw 26 rfl)) Via.refl e47 Fe (g := (mkF m 5 #[.val (.ref a1)] [(.ref a1), (.int fi)])) rfl rfl (hb hby d4_5)
  have pre49 : ∀ t, Steps p.tables e below (T48.setTop (mkF m 16 #[.val (.ref a1)] [(.int (1 : Int32))])) t → Steps p.tables e below (s₁.setTop (entryFrame m #[(.ref a1)] 1)) t := fun t kt => pre0 t (by
    show Steps p.tables e below (s₁.setTop (mkF m 0 #[.val (.ref a1)] [])) _
    refine XS.aloadN X0.here hx rfl (hb hby d4_0) rfl rfl ?_
    refine st47 _ ?_
    refine XS.aloadN X47.here hx rfl (hb hby d4_4) rfl rfl ?_
    refine st48 _ ?_
    refine XS.icmpNo X48.here hx rfl (hb hby d4_8) rfl (teq hq).2 ?_
    refine XS.iconst X48.here hx rfl (hb hby d4_11) ?_
    refine XS.goto X48.here hx rfl (pc0 := 12) (pc' := 16) rfl (hb hby d4_12) (by decide) (by decide) ?_
    exact kt)
  exact own_retN X48 hx Bd.notSynchronized (t := .boolean) Bd.returns (by simp) (hb hby d4_16) pre49 (show QEmp (1 : Int32) h0 n0 _ _ _ from ⟨rfl, N0, e48⟩) (by decide) (by decide)
theorem pd_48 : parseMethodDescriptor "()Z" = some ⟨[], some .boolean⟩ := by decide +kernel
theorem d5_0 : decode prog_25_method_2_code 0 = .ok (.aload_n 0, 1) := by decide +kernel
theorem d5_1 : decode prog_25_method_2_code 1 = .ok (.getfield 17, 3) := by decide +kernel
theorem d5_4 : decode prog_25_method_2_code 4 = .ok (.aload_n 0, 1) := by decide +kernel
theorem d5_5 : decode prog_25_method_2_code 5 = .ok (.getfield 21, 3) := by decide +kernel
theorem d5_8 : decode prog_25_method_2_code 8 = .ok (.if_icmp .ne 21, 3) := by decide +kernel
theorem d5_11 : decode prog_25_method_2_code 11 = .ok (.aload_n 0, 1) := by decide +kernel
theorem d5_12 : decode prog_25_method_2_code 12 = .ok (.iload 4, 2) := by decide +kernel
theorem d5_14 : decode prog_25_method_2_code 14 = .ok (.ifCond .eq 9, 3) := by decide +kernel
theorem d5_23 : decode prog_25_method_2_code 23 = .ok (.iload_n 3, 1) := by decide +kernel
theorem d5_24 : decode prog_25_method_2_code 24 = .ok (.iconst 1, 1) := by decide +kernel
theorem d5_25 : decode prog_25_method_2_code 25 = .ok (.iadd, 1) := by decide +kernel
theorem d5_17 : decode prog_25_method_2_code 17 = .ok (.iload_n 3, 1) := by decide +kernel
theorem d5_18 : decode prog_25_method_2_code 18 = .ok (.iconst 1, 1) := by decide +kernel
theorem d5_19 : decode prog_25_method_2_code 19 = .ok (.isub, 1) := by decide +kernel
theorem d5_20 : decode prog_25_method_2_code 20 = .ok (.goto 6, 3) := by decide +kernel
theorem d5_26 : decode prog_25_method_2_code 26 = .ok (.putfield 24, 3) := by decide +kernel
theorem own_sn_65 {Z : State} {a0 : Array Value} (hw : ∀ d ∈ tables_1, d.before a0 Z = true) : Jvm.RoadKit.slotOf Z "com/example/viral_counter/viralcounter/PostTrend" "minutes" "[J" ≠ Jvm.RoadKit.slotOf Z "com/example/viral_counter/viralcounter/PostTrend" "before" "I" := slot_ne (C := "com/example/viral_counter/viralcounter/PostTrend") (Or.inl (own_w hw 15 rfl)) (Or.inl (own_w hw 34 rfl)) (by decide) (t := (.array .long)) (t' := .int) (by decide) (by decide)
theorem own_sn_66 {Z : State} {a0 : Array Value} (hw : ∀ d ∈ tables_1, d.before a0 Z = true) : Jvm.RoadKit.slotOf Z "com/example/viral_counter/viralcounter/PostTrend" "counts" "[I" ≠ Jvm.RoadKit.slotOf Z "com/example/viral_counter/viralcounter/PostTrend" "before" "I" := slot_ne (C := "com/example/viral_counter/viralcounter/PostTrend") (Or.inl (own_w hw 18 rfl)) (Or.inl (own_w hw 34 rfl)) (by decide) (t := (.array .int)) (t' := .int) (by decide) (by decide)
theorem own_sn_67 {Z : State} {a0 : Array Value} (hw : ∀ d ∈ tables_1, d.before a0 Z = true) : Jvm.RoadKit.slotOf Z "com/example/viral_counter/viralcounter/PostTrend" "first" "I" ≠ Jvm.RoadKit.slotOf Z "com/example/viral_counter/viralcounter/PostTrend" "before" "I" := slot_ne (C := "com/example/viral_counter/viralcounter/PostTrend") (Or.inl (own_w hw 25 rfl)) (Or.inl (own_w hw 34 rfl)) (by decide) (t := .int) (t' := .int) (by decide) (by decide)
theorem own_sn_68 {Z : State} {a0 : Array Value} (hw : ∀ d ∈ tables_1, d.before a0 Z = true) : Jvm.RoadKit.slotOf Z "com/example/viral_counter/viralcounter/PostTrend" "end" "I" ≠ Jvm.RoadKit.slotOf Z "com/example/viral_counter/viralcounter/PostTrend" "before" "I" := slot_ne (C := "com/example/viral_counter/viralcounter/PostTrend") (Or.inl (own_w hw 27 rfl)) (Or.inl (own_w hw 34 rfl)) (by decide) (t := .int) (t' := .int) (by decide) (by decide)
theorem d5_29 : decode prog_25_method_2_code 29 = .ok (.aload_n 0, 1) := by decide +kernel
theorem d5_30 : decode prog_25_method_2_code 30 = .ok (.getfield 17, 3) := by decide +kernel
theorem d5_33 : decode prog_25_method_2_code 33 = .ok (.aload_n 0, 1) := by decide +kernel
theorem d5_34 : decode prog_25_method_2_code 34 = .ok (.getfield 21, 3) := by decide +kernel
theorem d5_37 : decode prog_25_method_2_code 37 = .ok (.if_icmp .ge 34, 3) := by decide +kernel
theorem d5_71 : decode prog_25_method_2_code 71 = .ok (.aload_n 0, 1) := by decide +kernel
theorem d5_72 : decode prog_25_method_2_code 72 = .ok (.getfield 21, 3) := by decide +kernel
theorem d5_75 : decode prog_25_method_2_code 75 = .ok (.aload_n 0, 1) := by decide +kernel
theorem d5_76 : decode prog_25_method_2_code 76 = .ok (.getfield 9, 3) := by decide +kernel
theorem d5_79 : decode prog_25_method_2_code 79 = .ok (.arraylength, 1) := by decide +kernel
theorem d5_80 : decode prog_25_method_2_code 80 = .ok (.if_icmp .ne 7, 3) := by decide +kernel
theorem d5_87 : decode prog_25_method_2_code 87 = .ok (.aload_n 0, 1) := by decide +kernel
theorem d5_88 : decode prog_25_method_2_code 88 = .ok (.getfield 9, 3) := by decide +kernel
theorem d5_91 : decode prog_25_method_2_code 91 = .ok (.aload_n 0, 1) := by decide +kernel
theorem d5_92 : decode prog_25_method_2_code 92 = .ok (.getfield 21, 3) := by decide +kernel
theorem d5_95 : decode prog_25_method_2_code 95 = .ok (.lload_n 1, 1) := by decide +kernel
theorem d5_96 : decode prog_25_method_2_code 96 = .ok (.lastore, 1) := by decide +kernel
theorem d5_97 : decode prog_25_method_2_code 97 = .ok (.aload_n 0, 1) := by decide +kernel
theorem d5_98 : decode prog_25_method_2_code 98 = .ok (.getfield 13, 3) := by decide +kernel
theorem d5_101 : decode prog_25_method_2_code 101 = .ok (.aload_n 0, 1) := by decide +kernel
theorem d5_102 : decode prog_25_method_2_code 102 = .ok (.getfield 21, 3) := by decide +kernel
theorem d5_105 : decode prog_25_method_2_code 105 = .ok (.iload_n 3, 1) := by decide +kernel
theorem d5_106 : decode prog_25_method_2_code 106 = .ok (.iastore, 1) := by decide +kernel
theorem d5_107 : decode prog_25_method_2_code 107 = .ok (.aload_n 0, 1) := by decide +kernel
theorem d5_108 : decode prog_25_method_2_code 108 = .ok (.dup, 1) := by decide +kernel
theorem d5_109 : decode prog_25_method_2_code 109 = .ok (.getfield 21, 3) := by decide +kernel
theorem d5_112 : decode prog_25_method_2_code 112 = .ok (.iconst 1, 1) := by decide +kernel
theorem d5_113 : decode prog_25_method_2_code 113 = .ok (.iadd, 1) := by decide +kernel
theorem d5_114 : decode prog_25_method_2_code 114 = .ok (.putfield 21, 3) := by decide +kernel
theorem own_sn_98 {Z : State} {a0 : Array Value} (hw : ∀ d ∈ tables_1, d.before a0 Z = true) : Jvm.RoadKit.slotOf Z "com/example/viral_counter/viralcounter/PostTrend" "minutes" "[J" ≠ Jvm.RoadKit.slotOf Z "com/example/viral_counter/viralcounter/PostTrend" "end" "I" := slot_ne (C := "com/example/viral_counter/viralcounter/PostTrend") (Or.inl (own_w hw 15 rfl)) (Or.inl (own_w hw 27 rfl)) (by decide) (t := (.array .long)) (t' := .int) (by decide) (by decide)
theorem own_sn_99 {Z : State} {a0 : Array Value} (hw : ∀ d ∈ tables_1, d.before a0 Z = true) : Jvm.RoadKit.slotOf Z "com/example/viral_counter/viralcounter/PostTrend" "counts" "[I" ≠ Jvm.RoadKit.slotOf Z "com/example/viral_counter/viralcounter/PostTrend" "end" "I" := slot_ne (C := "com/example/viral_counter/viralcounter/PostTrend") (Or.inl (own_w hw 18 rfl)) (Or.inl (own_w hw 27 rfl)) (by decide) (t := (.array .int)) (t' := .int) (by decide) (by decide)
theorem own_sn_100 {Z : State} {a0 : Array Value} (hw : ∀ d ∈ tables_1, d.before a0 Z = true) : Jvm.RoadKit.slotOf Z "com/example/viral_counter/viralcounter/PostTrend" "first" "I" ≠ Jvm.RoadKit.slotOf Z "com/example/viral_counter/viralcounter/PostTrend" "end" "I" := slot_ne (C := "com/example/viral_counter/viralcounter/PostTrend") (Or.inl (own_w hw 25 rfl)) (Or.inl (own_w hw 27 rfl)) (by decide) (t := .int) (t' := .int) (by decide) (by decide)
theorem own_sn_101 {Z : State} {a0 : Array Value} (hw : ∀ d ∈ tables_1, d.before a0 Z = true) : Jvm.RoadKit.slotOf Z "com/example/viral_counter/viralcounter/PostTrend" "before" "I" ≠ Jvm.RoadKit.slotOf Z "com/example/viral_counter/viralcounter/PostTrend" "end" "I" := slot_ne (C := "com/example/viral_counter/viralcounter/PostTrend") (Or.inl (own_w hw 34 rfl)) (Or.inl (own_w hw 27 rfl)) (by decide) (t := .int) (t' := .int) (by decide) (by decide)
theorem d5_117 : decode prog_25_method_2_code 117 = .ok (.return_, 1) := by decide +kernel
abbrev own_y_103 : MethodName := (⟨"com/example/viral_counter/viralcounter/PostTrend", "counted", "(JIZ)V"⟩ : MethodName)
theorem ef_104 (m : MethodId) (x0 : Addr) (x1 : Int64) (x2 : Int32) (x3 : Int32) : entryFrame m #[(.ref x0), (.long x1), (.int x2), (.int x3)] 5 = mkF m 0 #[.val (.ref x0), .val (.long x1), .second, .val (.int x2), .val (.int x3)] [] := by first | (simp [entryFrame, mkF, argsToLocals, Value.category]; done) | rfl
def QCnt002a (Z : State) (a1 : Addr) (q2 : Int64) (p4 p5 : Int32) (x0 : Int64) (x1 : Int64) (y0 : Int32) (y1 : Int32) (b : Int32) (h0 : Heap) (n0 : Nat) (v : Option Value) (h : Heap) (L : List Loc) : Prop := v = none ∧ Fr n0 L ∧ h0.size ≤ h.size ∧ PT Z h n0 a1 (0 : Int32) (1 : Int32) (2 : Int32) [(.long q2), (.long x1)] [(.int p4), (.int y1)] (if p5 = (0 : Int32) then (p4 + (1 : Int32)) else (p4 - (1 : Int32)))
set_option maxRecDepth 65536 in
set_option maxHeartbeats 40000000 in
theorem rmCnt002a (l : Launch) (Z : State) (a0 : Array Value) (hw : ∀ d ∈ tables_1, d.before a0 Z = true) (ws : List Jvm.Cond) (a1 : Addr) (q2 : Int64) (p4 p5 : Int32) (x0 : Int64) (x1 : Int64) (y0 : Int32) (y1 : Int32) (b : Int32) (h0 : Heap) (n0 : Nat) (Z0 : n0 ≤ h0.size) (P0 : PT Z h0 n0 a1 (0 : Int32) (0 : Int32) (2 : Int32) [(.long x0), (.long x1)] [(.int y0), (.int y1)] b) :
    MetFree l own_y_103 (head1 (Jvm.Cond.code own_y_103 prog_25_method_2_code 5 none :: ws) ({ frames := 0, cells := 0, slots := 0, locals := 0 } : Room)) (fun a U => a = #[(.ref a1), (.long q2), (.int p4), (.int p5)] ∧ Z.Warmed39 U.vm ∧ U.heap = h0) (fun _ _ _ _ _ => True) (fun _ U o U' => ∃ v L, o = .returned v ∧ QCnt002a Z a1 q2 p4 p5 x0 x1 y0 y1 b h0 n0  v U'.heap L ∧ FrameEnd U o U' L ({ frames := 0, cells := 0, slots := 0, locals := 0 } : Room).cells ({ frames := 0, cells := 0, slots := 0, locals := 0 } : Room).slots) := by
  refine MetFree.of_bodySF (plainFor_of_name pn_2) hisR ?_
  intro p e s m args below meth c s₁ Bd hml0 hP hK
  obtain ⟨rfl, hZ, hh⟩ := hP
  have hx := Bd.exec
  have hby := Bd.bytes
  have hml : c.maxLocals = 5 := hml0
  have hown : s.vm.findClass "com/example/viral_counter/viralcounter/PostTrend" = some m.cls := findClass_of_methodNamed Bd.named
  have hnm := (name_of_methodNamed Bd.named Bd.method).1
  have X0 : Stand p l e ({ frames := 0, cells := 0, slots := 0, locals := 0 } : Room) s m #[(.ref a1), (.long q2), (.int p4), (.int p5)] below meth c s₁ [] 0 0 := Stand.of_body Bd
  have e0 : s₁.heap = h0 := by rw [← hh, Bd.state]; rfl
  have N0 := Fr.nil n0
  have pre0 : ∀ t, Steps p.tables e below (s₁.setTop (mkF m 0 #[.val (.ref a1), .val (.long q2), .second, .val (.int p4), .val (.int p5)] [])) t → Steps p.tables e below (s₁.setTop (entryFrame m #[(.ref a1), (.long q2), (.int p4), (.int p5)] 5)) t := fun t k => castTop (ef_104 m a1 q2 p4 p5) k
  obtain ⟨am55, ac55, km55, kc55, E55, Fm55, Fc55, Ff55, Fe55, Fb55, Vm55, Vc55, Ga55, Gm55, Gc55, n155, n255, n355⟩ := id P0
  obtain ⟨T56, X56, e56, st56⟩ := getF X0 hx hZ hown (host := "") (Or.inl (own_w hw 24 rfl)) Via.refl e0 Ff55 (g := (mkF m 1 #[.val (.ref a1), .val (.long q2), .second, .val (.int p4), .val (.int p5)] [(.ref a1)])) rfl rfl (hb hby d5_1)
  obtain ⟨T57, X57, e57, st57⟩ := getF X56 hx hZ hown (host := "") (Or.inl (own_w hw 26 rfl)) Via.refl e56 Fe55 (g := (mkF m 5 #[.val (.ref a1), .val (.long q2), .second, .val (.int p4), .val (.int p5)] [(.ref a1), (.int (0 : Int32))])) rfl rfl (hb hby d5_5)
  have pre58 : ∀ t, Steps p.tables e below (T57.setTop (mkF m 14 #[.val (.ref a1), .val (.long q2), .second, .val (.int p4), .val (.int p5)] [(.int p5), (.ref a1)])) t → Steps p.tables e below (s₁.setTop (entryFrame m #[(.ref a1), (.long q2), (.int p4), (.int p5)] 5)) t := fun t kt => pre0 t (by
    show Steps p.tables e below (s₁.setTop (mkF m 0 #[.val (.ref a1), .val (.long q2), .second, .val (.int p4), .val (.int p5)] [])) _
    refine XS.aloadN X0.here hx rfl (hb hby d5_0) rfl rfl ?_
    refine st56 _ ?_
    refine XS.aloadN X56.here hx rfl (hb hby d5_4) rfl rfl ?_
    refine st57 _ ?_
    refine XS.icmpNo X57.here hx rfl (hb hby d5_8) rfl (teq (by decide : (0 : Int32) = (0 : Int32))).2 ?_
    refine XS.aloadN X57.here hx rfl (hb hby d5_11) rfl rfl ?_
    refine XS.iload X57.here hx rfl (hb hby d5_12) rfl ?_
    exact kt)
  obtain ⟨bb, hbb⟩ : ∃ z : Int32, z = (if p5 = (0 : Int32) then (p4 + (1 : Int32)) else (p4 - (1 : Int32))) := ⟨_, rfl⟩
  have pre60 : ∀ t, Steps p.tables e below (T57.setTop (mkF m 26 #[.val (.ref a1), .val (.long q2), .second, .val (.int p4), .val (.int p5)] [(.int bb), (.ref a1)])) t → Steps p.tables e below (s₁.setTop (entryFrame m #[(.ref a1), (.long q2), (.int p4), (.int p5)] 5)) t := fun t kt => pre58 t (by
    by_cases hc59 : p5 = (0 : Int32)
    case pos =>
      show Steps p.tables e below (T57.setTop (mkF m 14 #[.val (.ref a1), .val (.long q2), .second, .val (.int p4), .val (.int p5)] [(.int p5), (.ref a1)])) _
      refine XS.ifYes X57.here hx rfl (pc0 := 14) (pc' := 23) rfl (hb hby d5_14) rfl ((if0 _ _).trans (teq hc59).1) (by decide) (by decide) ?_
      refine XS.iloadN X57.here hx rfl (hb hby d5_23) rfl ?_
      refine XS.iconst X57.here hx rfl (hb hby d5_24) ?_
      refine XS.iadd X57.here hx rfl (hb hby d5_25) rfl ?_
      rw [show bb = (p4 + (1 : Int32)) from (hbb.trans (if_pos hc59))] at kt
      exact kt
    case neg =>
      show Steps p.tables e below (T57.setTop (mkF m 14 #[.val (.ref a1), .val (.long q2), .second, .val (.int p4), .val (.int p5)] [(.int p5), (.ref a1)])) _
      refine XS.ifNo X57.here hx rfl (hb hby d5_14) rfl ((if0 _ _).trans (feq hc59).1) ?_
      refine XS.iloadN X57.here hx rfl (hb hby d5_17) rfl ?_
      refine XS.iconst X57.here hx rfl (hb hby d5_18) ?_
      refine XS.isub X57.here hx rfl (hb hby d5_19) rfl ?_
      refine XS.goto X57.here hx rfl (pc0 := 20) (pc' := 26) rfl (hb hby d5_20) (by decide) (by decide) ?_
      rw [show bb = (p4 - (1 : Int32)) from (hbb.trans (if_neg hc59))] at kt
      exact kt)
  obtain ⟨T61, h61, X61, e61, W61, st61⟩ := putF X57 hx hZ hown (host := "") (Or.inl (own_w hw 33 rfl)) Via.refl e57 Fb55 E55 (Or.inl (own_w hw 34 rfl)) (own_w hw 5 rfl) (ty := .int) (by decide) rfl rfl (g := (mkF m 26 #[.val (.ref a1), .val (.long q2), .second, .val (.int p4), .val (.int p5)] [(.int bb), (.ref a1)])) rfl rfl (hb hby d5_26)
  have Fw61 := Fb55.same W61
  have N61 := Fr.snoc X61 N0 Ga55
  have z62 : n0 ≤ h61.size := Nat.le_trans Z0 (Keep.of_wr W61).1
  have c63 := E55.wr W61
  have c64 := Fm55.other W61 (Or.inr (own_sn_65 hw))
  have c65 := Fc55.other W61 (Or.inr (own_sn_66 hw))
  have c66 := Ff55.other W61 (Or.inr (own_sn_67 hw))
  have c67 := Fe55.other W61 (Or.inr (own_sn_68 hw))
  have c69 := Vm55.other W61 (Ne.symm n155)
  have c70 := Vc55.other W61 (Ne.symm n255)
  obtain ⟨T71, X71, e71, st71⟩ := getF X61 hx hZ hown (host := "") (Or.inl (own_w hw 24 rfl)) Via.refl e61 c66 (g := (mkF m 30 #[.val (.ref a1), .val (.long q2), .second, .val (.int p4), .val (.int p5)] [(.ref a1)])) rfl rfl (hb hby d5_30)
  obtain ⟨T72, X72, e72, st72⟩ := getF X71 hx hZ hown (host := "") (Or.inl (own_w hw 26 rfl)) Via.refl e71 c67 (g := (mkF m 34 #[.val (.ref a1), .val (.long q2), .second, .val (.int p4), .val (.int p5)] [(.ref a1), (.int (0 : Int32))])) rfl rfl (hb hby d5_34)
  obtain ⟨T73, X73, e73, st73⟩ := getF X72 hx hZ hown (host := "") (Or.inl (own_w hw 26 rfl)) Via.refl e72 c67 (g := (mkF m 72 #[.val (.ref a1), .val (.long q2), .second, .val (.int p4), .val (.int p5)] [(.ref a1)])) rfl rfl (hb hby d5_72)
  obtain ⟨T74, X74, e74, st74⟩ := getF X73 hx hZ hown (host := "") (Or.inl (own_w hw 14 rfl)) Via.refl e73 c64 (g := (mkF m 76 #[.val (.ref a1), .val (.long q2), .second, .val (.int p4), .val (.int p5)] [(.ref a1), (.int (0 : Int32))])) rfl rfl (hb hby d5_76)
  obtain ⟨cl75, A75, q75, S75, M75, H75, J75⟩ := id c69
  obtain ⟨T76, X76, e76, st76⟩ := getF X74 hx hZ hown (host := "") (Or.inl (own_w hw 14 rfl)) Via.refl e74 c64 (g := (mkF m 88 #[.val (.ref a1), .val (.long q2), .second, .val (.int p4), .val (.int p5)] [(.ref a1)])) rfl rfl (hb hby d5_88)
  obtain ⟨T77, X77, e77, st77⟩ := getF X76 hx hZ hown (host := "") (Or.inl (own_w hw 26 rfl)) Via.refl e76 c67 (g := (mkF m 92 #[.val (.ref a1), .val (.long q2), .second, .val (.int p4), .val (.int p5)] [(.ref a1), (.ref am55)])) rfl rfl (hb hby d5_92)
  obtain ⟨cl78, Ar78, q78, S78, M78, H78, J78⟩ := id c69
  have hin78 : ¬ ((0 : Int32) < 0 ∨ cl78.slots.size ≤ ((0 : Int32)).toNatClampNeg) := inb_of S78 ⟨by decide, by decide⟩
  obtain ⟨T79, h79, X79, e79, W79, st79⟩ := stJ X77 hx hZ e77 Ar78 (j := (0 : Int32)) hin78 (g := (mkF m 96 #[.val (.ref a1), .val (.long q2), .second, .val (.int p4), .val (.int p5)] [(.long q2), (.int (0 : Int32)), (.ref am55)])) rfl rfl (hb hby d5_96)
  have V79 : Arv Z h79 am55 km55 .long (2 : Int32) [(.long q2), (.long x1)] (.long (0 : Int64)) := Arv.set Ar78 q78 S78 M78 H78 J78 rfl W79 0 rfl (Nat.le_of_ble_eq_true rfl)
  have N79 := Fr.snoc X79 N61 Gm55
  have z80 : n0 ≤ h79.size := Nat.le_trans z62 (Keep.of_wr W79).1
  have c81 := c63.wr W79
  have c82 := c64.other W79 (Or.inl n155)
  have c83 := c65.other W79 (Or.inl n155)
  have c84 := c66.other W79 (Or.inl n155)
  have c85 := c67.other W79 (Or.inl n155)
  have c87 := c70.other W79 (Ne.symm n355)
  have c88 := Fw61.other W79 (Or.inl n155)
  obtain ⟨T89, X89, e89, st89⟩ := getF X79 hx hZ hown (host := "") (Or.inl (own_w hw 17 rfl)) Via.refl e79 c83 (g := (mkF m 98 #[.val (.ref a1), .val (.long q2), .second, .val (.int p4), .val (.int p5)] [(.ref a1)])) rfl rfl (hb hby d5_98)
  obtain ⟨T90, X90, e90, st90⟩ := getF X89 hx hZ hown (host := "") (Or.inl (own_w hw 26 rfl)) Via.refl e89 c85 (g := (mkF m 102 #[.val (.ref a1), .val (.long q2), .second, .val (.int p4), .val (.int p5)] [(.ref a1), (.ref ac55)])) rfl rfl (hb hby d5_102)
  obtain ⟨cl91, Ar91, q91, S91, M91, H91, J91⟩ := id c87
  have hin91 : ¬ ((0 : Int32) < 0 ∨ cl91.slots.size ≤ ((0 : Int32)).toNatClampNeg) := inb_of S91 ⟨by decide, by decide⟩
  obtain ⟨T92, h92, X92, e92, W92, st92⟩ := stI X90 hx hZ e90 Ar91 (j := (0 : Int32)) hin91 (g := (mkF m 106 #[.val (.ref a1), .val (.long q2), .second, .val (.int p4), .val (.int p5)] [(.int p4), (.int (0 : Int32)), (.ref ac55)])) rfl rfl (hb hby d5_106)
  have V92 : Arv Z h92 ac55 kc55 .int (2 : Int32) [(.int p4), (.int y1)] (.int (0 : Int32)) := Arv.set Ar91 q91 S91 M91 H91 J91 rfl W92 0 rfl (Nat.le_of_ble_eq_true rfl)
  have N92 := Fr.snoc X92 N79 Gc55
  have z93 : n0 ≤ h92.size := Nat.le_trans z80 (Keep.of_wr W92).1
  have c94 := c81.wr W92
  have c95 := c82.other W92 (Or.inl n255)
  have c96 := c83.other W92 (Or.inl n255)
  have c97 := c84.other W92 (Or.inl n255)
  have c98 := c85.other W92 (Or.inl n255)
  have c100 := c88.other W92 (Or.inl n255)
  have c101 := V79.other W92 n355
  obtain ⟨T102, X102, e102, st102⟩ := getF X92 hx hZ hown (host := "") (Or.inl (own_w hw 26 rfl)) Via.refl e92 c98 (g := (mkF m 109 #[.val (.ref a1), .val (.long q2), .second, .val (.int p4), .val (.int p5)] [(.ref a1), (.ref a1)])) rfl rfl (hb hby d5_109)
  obtain ⟨T103, h103, X103, e103, W103, st103⟩ := putF X102 hx hZ hown (host := "") (Or.inl (own_w hw 26 rfl)) Via.refl e102 c98 c94 (Or.inl (own_w hw 27 rfl)) (own_w hw 5 rfl) (ty := .int) (by decide) rfl rfl (g := (mkF m 114 #[.val (.ref a1), .val (.long q2), .second, .val (.int p4), .val (.int p5)] [(.int (1 : Int32)), (.ref a1)])) rfl rfl (hb hby d5_114)
  have Fw103 := c98.same W103
  have N103 := Fr.snoc X103 N92 Ga55
  have z104 : n0 ≤ h103.size := Nat.le_trans z93 (Keep.of_wr W103).1
  have c105 := c94.wr W103
  have c106 := c95.other W103 (Or.inr (own_sn_98 hw))
  have c107 := c96.other W103 (Or.inr (own_sn_99 hw))
  have c108 := c97.other W103 (Or.inr (own_sn_100 hw))
  have c110 := c100.other W103 (Or.inr (own_sn_101 hw))
  have c111 := c101.other W103 (Ne.symm n155)
  have c112 := V92.other W103 (Ne.symm n255)
  have pre113 : ∀ t, Steps p.tables e below (T103.setTop (mkF m 117 #[.val (.ref a1), .val (.long q2), .second, .val (.int p4), .val (.int p5)] [])) t → Steps p.tables e below (s₁.setTop (entryFrame m #[(.ref a1), (.long q2), (.int p4), (.int p5)] 5)) t := fun t kt => pre60 t (by
    show Steps p.tables e below (T57.setTop (mkF m 26 #[.val (.ref a1), .val (.long q2), .second, .val (.int p4), .val (.int p5)] [(.int bb), (.ref a1)])) _
    refine st61 _ ?_
    refine XS.aloadN X61.here hx rfl (hb hby d5_29) rfl rfl ?_
    refine st71 _ ?_
    refine XS.aloadN X71.here hx rfl (hb hby d5_33) rfl rfl ?_
    refine st72 _ ?_
    refine XS.icmpYes X72.here hx rfl (pc0 := 37) (pc' := 71) rfl (hb hby d5_37) rfl (flt (by decide : ¬ ((0 : Int32) < (0 : Int32)))).2.1 (by decide) (by decide) ?_
    refine XS.aloadN X72.here hx rfl (hb hby d5_71) rfl rfl ?_
    refine st73 _ ?_
    refine XS.aloadN X73.here hx rfl (hb hby d5_75) rfl rfl ?_
    refine st74 _ ?_
    refine X74.arraylength hx (by rw [e74]; exact A75.1) (State.isArrayOf_alike hZ.alike A75.2.1) (g := (mkF m 79 #[.val (.ref a1), .val (.long q2), .second, .val (.int p4), .val (.int p5)] [(.ref am55), (.int (0 : Int32))])) rfl rfl (hb hby d5_79) _ ?_
    rw [len_of S75 M75]
    refine XS.icmpYes X74.here hx rfl (pc0 := 80) (pc' := 87) rfl (hb hby d5_80) rfl (feq (by decide : ¬ ((0 : Int32) = (2 : Int32)))).2 (by decide) (by decide) ?_
    show Steps p.tables e below (T74.setTop (mkF m 87 #[.val (.ref a1), .val (.long q2), .second, .val (.int p4), .val (.int p5)] [])) _
    refine XS.aloadN X74.here hx rfl (hb hby d5_87) rfl rfl ?_
    refine st76 _ ?_
    refine XS.aloadN X76.here hx rfl (hb hby d5_91) rfl rfl ?_
    refine st77 _ ?_
    refine XS.lloadN X77.here hx rfl (hb hby d5_95) rfl ?_
    refine st79 _ ?_
    refine XS.aloadN X79.here hx rfl (hb hby d5_97) rfl rfl ?_
    refine st89 _ ?_
    refine XS.aloadN X89.here hx rfl (hb hby d5_101) rfl rfl ?_
    refine st90 _ ?_
    refine XS.iloadN X90.here hx rfl (hb hby d5_105) rfl ?_
    refine st92 _ ?_
    show Steps p.tables e below (T92.setTop (mkF m 107 #[.val (.ref a1), .val (.long q2), .second, .val (.int p4), .val (.int p5)] [])) _
    refine XS.aloadN X92.here hx rfl (hb hby d5_107) rfl rfl ?_
    refine XS.dup X92.here hx rfl (hb hby d5_108) rfl rfl ?_
    refine st102 _ ?_
    refine XS.iconst X102.here hx rfl (hb hby d5_112) ?_
    refine XS.iadd X102.here hx rfl (hb hby d5_113) rfl ?_
    refine st103 _ ?_
    exact kt)
  have hz : h0.size ≤ h103.size := Nat.le_trans (Nat.le_trans (Nat.le_trans (Nat.le_trans (Nat.le_refl _) (Keep.of_wr W61).1) (Keep.of_wr W79).1) (Keep.of_wr W92).1) (Keep.of_wr W103).1
  have hP : PT Z h103 n0 a1 (0 : Int32) (1 : Int32) (2 : Int32) [(.long q2), (.long x1)] [(.int p4), (.int y1)] bb := ⟨am55, ac55, km55, kc55, c105, c106, c107, c108, Fw103, c110, c111, c112, Ga55, Gm55, Gc55, n155, n255, n355⟩
  rw [hbb] at hP
  have hQ : QCnt002a Z a1 q2 p4 p5 x0 x1 y0 y1 b h0 n0 none h103 _ := ⟨rfl, N103, hz, hP⟩
  exact own_retV X103 hx Bd.notSynchronized Bd.returns (hb hby d5_117) pre113 (show QCnt002a Z a1 q2 p4 p5 x0 x1 y0 y1 b h0 n0 _ _ _ from (by rw [e103]; exact hQ)) (by decide) (by decide)
theorem pd_105 : parseMethodDescriptor "(JIZ)V" = some ⟨[.long, .int, .boolean], none⟩ := by decide +kernel
theorem d4_15 : decode prog_25_method_5_code 15 = .ok (.iconst 0, 1) := by decide +kernel
set_option maxRecDepth 65536 in
set_option maxHeartbeats 40000000 in
theorem rmEmpF (l : Launch) (Z : State) (a0 : Array Value) (hw : ∀ d ∈ tables_1, d.before a0 Z = true) (ws : List Jvm.Cond) (a1 : Addr) (fi en cap : Int32) (xs ys : List Value) (b : Int32) (h0 : Heap) (n0 : Nat) (Z0 : n0 ≤ h0.size) (P0 : PT Z h0 n0 a1 fi en cap xs ys b) (hq : ¬ (fi = en)) :
    MetFree l own_y_38 (head1 (Jvm.Cond.code own_y_38 prog_25_method_5_code 1 (some .boolean) :: ws) ({ frames := 0, cells := 0, slots := 0, locals := 0 } : Room)) (fun a U => a = #[(.ref a1)] ∧ Z.Warmed39 U.vm ∧ U.heap = h0) (fun _ _ _ _ _ => True) (fun _ U o U' => ∃ v L, o = .returned v ∧ QEmp (0 : Int32) h0 n0 v U'.heap L ∧ FrameEnd U o U' L ({ frames := 0, cells := 0, slots := 0, locals := 0 } : Room).cells ({ frames := 0, cells := 0, slots := 0, locals := 0 } : Room).slots) := by
  refine MetFree.of_bodySF (plainFor_of_name pn_2) hisR ?_
  intro p e s m args below meth c s₁ Bd hml0 hP hK
  obtain ⟨rfl, hZ, hh⟩ := hP
  have hx := Bd.exec
  have hby := Bd.bytes
  have hml : c.maxLocals = 1 := hml0
  have hown : s.vm.findClass "com/example/viral_counter/viralcounter/PostTrend" = some m.cls := findClass_of_methodNamed Bd.named
  have hnm := (name_of_methodNamed Bd.named Bd.method).1
  have X0 : Stand p l e ({ frames := 0, cells := 0, slots := 0, locals := 0 } : Room) s m #[(.ref a1)] below meth c s₁ [] 0 0 := Stand.of_body Bd
  have e0 : s₁.heap = h0 := by rw [← hh, Bd.state]; rfl
  have N0 := Fr.nil n0
  have pre0 : ∀ t, Steps p.tables e below (s₁.setTop (mkF m 0 #[.val (.ref a1)] [])) t → Steps p.tables e below (s₁.setTop (entryFrame m #[(.ref a1)] 1)) t := fun t k => castTop (ef_39 m a1) k
  obtain ⟨am, ac, km, kc, E0, Fm, Fc, Ff, Fe, -⟩ := id P0
  obtain ⟨T116, X116, e116, st116⟩ := getF X0 hx hZ hown (host := "") (Or.inl (own_w hw 24 rfl)) Via.refl e0 Ff (g := (mkF m 1 #[.val (.ref a1)] [(.ref a1)])) rfl rfl (hb hby d4_1)
  obtain ⟨T117, X117, e117, st117⟩ := getF X116 hx hZ hown (host := "") (Or.inl (own_w hw 26 rfl)) Via.refl e116 Fe (g := (mkF m 5 #[.val (.ref a1)] [(.ref a1), (.int fi)])) rfl rfl (hb hby d4_5)
  have pre118 : ∀ t, Steps p.tables e below (T117.setTop (mkF m 16 #[.val (.ref a1)] [(.int (0 : Int32))])) t → Steps p.tables e below (s₁.setTop (entryFrame m #[(.ref a1)] 1)) t := fun t kt => pre0 t (by
    show Steps p.tables e below (s₁.setTop (mkF m 0 #[.val (.ref a1)] [])) _
    refine XS.aloadN X0.here hx rfl (hb hby d4_0) rfl rfl ?_
    refine st116 _ ?_
    refine XS.aloadN X116.here hx rfl (hb hby d4_4) rfl rfl ?_
    refine st117 _ ?_
    refine XS.icmpYes X117.here hx rfl (pc0 := 8) (pc' := 15) rfl (hb hby d4_8) rfl (feq hq).2 (by decide) (by decide) ?_
    refine XS.iconst X117.here hx rfl (hb hby d4_15) ?_
    exact kt)
  exact own_retN X117 hx Bd.notSynchronized (t := .boolean) Bd.returns (by simp) (hb hby d4_16) pre118 (show QEmp (0 : Int32) h0 n0 _ _ _ from ⟨rfl, N0, e117⟩) (by decide) (by decide)
theorem d13_0 : decode prog_25_method_4_code 0 = .ok (.aload_n 0, 1) := by decide +kernel
theorem d13_1 : decode prog_25_method_4_code 1 = .ok (.getfield 17, 3) := by decide +kernel
theorem d13_4 : decode prog_25_method_4_code 4 = .ok (.aload_n 0, 1) := by decide +kernel
theorem d13_5 : decode prog_25_method_4_code 5 = .ok (.getfield 21, 3) := by decide +kernel
theorem d13_8 : decode prog_25_method_4_code 8 = .ok (.if_icmp .ge 43, 3) := by decide +kernel
theorem d13_51 : decode prog_25_method_4_code 51 = .ok (.return_, 1) := by decide +kernel
abbrev own_y_113 : MethodName := (⟨"com/example/viral_counter/viralcounter/PostTrend", "forgetBefore", "(J)V"⟩ : MethodName)
theorem ef_114 (m : MethodId) (x0 : Addr) (x1 : Int64) : entryFrame m #[(.ref x0), (.long x1)] 3 = mkF m 0 #[.val (.ref x0), .val (.long x1), .second] [] := by first | (simp [entryFrame, mkF, argsToLocals, Value.category]; done) | rfl
def QFgt002_0 (Z : State) (a1 : Addr) (q2 : Int64) (x0 : Int64) (x1 : Int64) (y0 : Int32) (y1 : Int32) (b : Int32) (h0 : Heap) (n0 : Nat) (v : Option Value) (h : Heap) (L : List Loc) : Prop := v = none ∧ Fr n0 L ∧ h0.size ≤ h.size ∧ PT Z h n0 a1 (0 : Int32) (0 : Int32) (2 : Int32) [(.long x0), (.long x1)] [(.int y0), (.int y1)] b
set_option maxRecDepth 65536 in
set_option maxHeartbeats 40000000 in
theorem rmFgt002_0 (l : Launch) (Z : State) (a0 : Array Value) (hw : ∀ d ∈ tables_1, d.before a0 Z = true) (ws : List Jvm.Cond) (a1 : Addr) (q2 : Int64) (x0 : Int64) (x1 : Int64) (y0 : Int32) (y1 : Int32) (b : Int32) (h0 : Heap) (n0 : Nat) (Z0 : n0 ≤ h0.size) (P0 : PT Z h0 n0 a1 (0 : Int32) (0 : Int32) (2 : Int32) [(.long x0), (.long x1)] [(.int y0), (.int y1)] b) :
    MetFree l own_y_113 (head1 (Jvm.Cond.code own_y_113 prog_25_method_4_code 3 none :: ws) ({ frames := 0, cells := 0, slots := 0, locals := 0 } : Room)) (fun a U => a = #[(.ref a1), (.long q2)] ∧ Z.Warmed39 U.vm ∧ U.heap = h0) (fun _ _ _ _ _ => True) (fun _ U o U' => ∃ v L, o = .returned v ∧ QFgt002_0 Z a1 q2 x0 x1 y0 y1 b h0 n0 v U'.heap L ∧ FrameEnd U o U' L ({ frames := 0, cells := 0, slots := 0, locals := 0 } : Room).cells ({ frames := 0, cells := 0, slots := 0, locals := 0 } : Room).slots) := by
  refine MetFree.of_bodySF (plainFor_of_name pn_2) hisR ?_
  intro p e s m args below meth c s₁ Bd hml0 hP hK
  obtain ⟨rfl, hZ, hh⟩ := hP
  have hx := Bd.exec
  have hby := Bd.bytes
  have hml : c.maxLocals = 3 := hml0
  have hown : s.vm.findClass "com/example/viral_counter/viralcounter/PostTrend" = some m.cls := findClass_of_methodNamed Bd.named
  have hnm := (name_of_methodNamed Bd.named Bd.method).1
  have X0 : Stand p l e ({ frames := 0, cells := 0, slots := 0, locals := 0 } : Room) s m #[(.ref a1), (.long q2)] below meth c s₁ [] 0 0 := Stand.of_body Bd
  have e0 : s₁.heap = h0 := by rw [← hh, Bd.state]; rfl
  have N0 := Fr.nil n0
  have pre0 : ∀ t, Steps p.tables e below (s₁.setTop (mkF m 0 #[.val (.ref a1), .val (.long q2), .second] [])) t → Steps p.tables e below (s₁.setTop (entryFrame m #[(.ref a1), (.long q2)] 3)) t := fun t k => castTop (ef_114 m a1 q2) k
  obtain ⟨am121, ac121, km121, kc121, E121, Fm121, Fc121, Ff121, Fe121, Fb121, Vm121, Vc121, Ga121, Gm121, Gc121, n1121, n2121, n3121⟩ := id P0
  have hz0 : h0.size ≤ h0.size := Nat.le_refl _
  obtain ⟨T122, X122, e122, st122⟩ := getF X0 hx hZ hown (host := "") (Or.inl (own_w hw 24 rfl)) Via.refl e0 Ff121 (g := (mkF m 1 #[.val (.ref a1), .val (.long q2), .second] [(.ref a1)])) rfl rfl (hb hby d13_1)
  obtain ⟨T123, X123, e123, st123⟩ := getF X122 hx hZ hown (host := "") (Or.inl (own_w hw 26 rfl)) Via.refl e122 Fe121 (g := (mkF m 5 #[.val (.ref a1), .val (.long q2), .second] [(.ref a1), (.int (0 : Int32))])) rfl rfl (hb hby d13_5)
  have pre124 : ∀ t, Steps p.tables e below (T123.setTop (mkF m 51 #[.val (.ref a1), .val (.long q2), .second] [])) t → Steps p.tables e below (s₁.setTop (entryFrame m #[(.ref a1), (.long q2)] 3)) t := fun t kt => pre0 t (by
    show Steps p.tables e below (s₁.setTop (mkF m 0 #[.val (.ref a1), .val (.long q2), .second] [])) _
    refine XS.aloadN X0.here hx rfl (hb hby d13_0) rfl rfl ?_
    refine st122 _ ?_
    refine XS.aloadN X122.here hx rfl (hb hby d13_4) rfl rfl ?_
    refine st123 _ ?_
    refine XS.icmpYes X123.here hx rfl (pc0 := 8) (pc' := 51) rfl (hb hby d13_8) rfl (flt (by decide : ¬ ((0 : Int32) < (0 : Int32)))).2.1 (by decide) (by decide) ?_
    exact kt)
  have hz : h0.size ≤ h0.size := Nat.le_refl _
  have hQ : QFgt002_0 Z a1 q2 x0 x1 y0 y1 b h0 n0 none h0 _ := ⟨rfl, N0, hz, ⟨am121, ac121, km121, kc121, E121, Fm121, Fc121, Ff121, Fe121, Fb121, Vm121, Vc121, Ga121, Gm121, Gc121, n1121, n2121, n3121⟩⟩
  exact own_retV X123 hx Bd.notSynchronized Bd.returns (hb hby d13_51) pre124 (show QFgt002_0 Z a1 q2 x0 x1 y0 y1 b h0 n0 _ _ _ from (by rw [e123]; exact hQ)) (by decide) (by decide)
theorem pd_115 : parseMethodDescriptor "(J)V" = some ⟨[.long], none⟩ := by decide +kernel
set_option maxRecDepth 65536 in
set_option maxHeartbeats 40000000 in
theorem sg002 {p : Program} {l : Launch} {e : Env} {s : State} {m : MethodId} {below : List Frame} {meth : Method} {c : Code} {T0 : State} {locs : List Loc} {Z : State} {a0 : Array Value} {n0 : Nat} (q1 : Int64) (p2 : Int32) (p3 : Int32) (q4 : Int64) (p5 : Int32) (kn : Int32) (df : Int32) (ex : Int32) (lk : Int32) (m2 : Int64) (m3 : Int64) (nw : Int64) (mx : Int64) (ob : Addr) (e0 : Int32) (e1 : Int32) (x0 : Int64) (x1 : Int64) (y0 : Int32) (y1 : Int32) (b : Int32) (X0 : Stand p l e room_1 s m #[(.long q1), (.int p2), (.int p3), (.long q4), (.int p5)] below meth c T0 locs 5 22) (hx : p.tables.exec = Jvm.exec) (hZ : Z.Warmed39 s.vm) (hw : ∀ d ∈ tables_1, d.before a0 Z = true) (hby : c.code = code) (hml : c.maxLocals = 29) (hown : s.vm.findClass "com/example/viral_counter/viralcounter/PostTrendIsEmptyPinLaw" = some m.cls) (N0 : Fr n0 locs) (Z0 : n0 ≤ T0.heap.size) (P0 : PT Z T0.heap n0 ob (0 : Int32) (0 : Int32) (2 : Int32) [(.long x0), (.long x1)] [(.int y0), (.int y1)] b) :
    ∃ (T' : State) (locs' : List Loc), Stand p l e room_1 s m #[(.long q1), (.int p2), (.int p3), (.long q4), (.int p5)] below meth c T' locs' 7 30 ∧ Fr n0 locs' ∧ ∀ t, Steps p.tables e below (T'.setTop (mkF m 237 (own_LF q1 p2 p3 q4 p5 kn df ex lk m2 m3 nw mx ob e0 e1 (.val (.int (1 : Int32))) (.val (.int (if ex = (0 : Int32) then (1 : Int32) else (0 : Int32))))) [])) t → Steps p.tables e below (T0.setTop (mkF m 196 (own_LF q1 p2 p3 q4 p5 kn df ex lk m2 m3 nw mx ob e0 e1 .unset .unset) [])) t := by
  have pre0 : ∀ t, Steps p.tables e below (T0.setTop (mkF m 196 (own_LF q1 p2 p3 q4 p5 kn df ex lk m2 m3 nw mx ob e0 e1 .unset .unset) [])) t → Steps p.tables e below (T0.setTop (mkF m 196 (own_LF q1 p2 p3 q4 p5 kn df ex lk m2 m3 nw mx ob e0 e1 .unset .unset) [])) t := fun _ q => q
  have pre45 : ∀ t, Steps p.tables e below (T0.setTop (mkF m 198 (own_LF q1 p2 p3 q4 p5 kn df ex lk m2 m3 nw mx ob e0 e1 .unset .unset) [(.int df)])) t → Steps p.tables e below (T0.setTop (mkF m 196 (own_LF q1 p2 p3 q4 p5 kn df ex lk m2 m3 nw mx ob e0 e1 .unset .unset) [])) t := fun t kt => pre0 t (by
    show Steps p.tables e below (T0.setTop (mkF m 196 (own_LF q1 p2 p3 q4 p5 kn df ex lk m2 m3 nw mx ob e0 e1 .unset .unset) [])) _
    refine XS.iload X0.here hx rfl (hb hby at_196) rfl ?_
    exact kt)
  by_cases hc46 : df = (0 : Int32)
  case pos =>
    obtain ⟨cq50, kq50, q50a, q50b, q50c⟩ := isOf hZ rfl (own_pt_exa P0)
    obtain ⟨_, _, ⟨T50, L50, k50, n50⟩, -, X50, ⟨Lc50, hQ50, l50, y50, z50⟩, st50⟩ := X0.virtualBack hx (y := own_y_38) (z := own_y_38) hown (mvT hZ (own_w hw 19 rfl)) (mvT hZ (own_w hw 20 rfl)) (notFace_of_selects (args := #[]) (mvT hZ (own_w hw 22 rfl))) (mvT hZ (own_w hw 22 rfl)) (mvT hZ (own_w hw 21 rfl)) (by decide) (backOf (W := 0) (rmEmpT l Z a0 hw [] ob _ _ _ _ _ _ T0.heap n0 Z0 P0 (by decide)) hZ (own_w hw 23 rfl) (own_w hw 6 rfl) (by decide) (by decide)) q50a q50c (g := (mkF m 210 (own_LF q1 p2 p3 q4 p5 kn df ex lk m2 m3 nw mx ob e0 e1 .unset .unset) [(.ref ob)])) rfl (by rw [hml]; rfl) (Steps.refl _) (argsL := []) (rest := []) (lenOf pd_48 rfl) rfl (by show 2 * 0 + _ ≤ _; exact Nat.le_of_eq rfl) (hb hby at_210) (fun _ _ => ⟨rfl, rfl, (by decide : 5 + 0 ≤ _), (by decide : 22 + 0 ≤ _)⟩)
    dsimp only [Pt.U, Pt.locs, Pt.cells, Pt.slots] at X50 l50 y50 z50 st50 hQ50
    subst l50 y50 z50
    obtain ⟨rfl, Nq50, e50⟩ := hQ50
    have N50 := Fr.app N0 Nq50
    have pre51 : ∀ t, Steps p.tables e below (T50.setTop (mkF m 217 (own_LF q1 p2 p3 q4 p5 kn df ex lk m2 m3 nw mx ob e0 e1 (.val (.int (1 : Int32))) .unset) [(.int ex)])) t → Steps p.tables e below (T0.setTop (mkF m 196 (own_LF q1 p2 p3 q4 p5 kn df ex lk m2 m3 nw mx ob e0 e1 .unset .unset) [])) t := fun t kt => pre45 t (by
      show Steps p.tables e below (T0.setTop (mkF m 198 (own_LF q1 p2 p3 q4 p5 kn df ex lk m2 m3 nw mx ob e0 e1 .unset .unset) [(.int df)])) _
      refine XS.ifYes X0.here hx rfl (pc0 := 198) (pc' := 208) rfl (hb hby at_198) rfl ((if0 _ _).trans (teq hc46).1) (by decide) (by decide) ?_
      refine XS.aload X0.here hx rfl (hb hby at_208) rfl rfl ?_
      refine st50.trans ?_
      refine XS.istore X50.here hx rfl (hb hby at_213) rfl (l' := (own_LF q1 p2 p3 q4 p5 kn df ex lk m2 m3 nw mx ob e0 e1 (.val (.int (1 : Int32))) .unset)) rfl ?_
      refine XS.iload X50.here hx rfl (hb hby at_215) rfl ?_
      exact kt)
    by_cases hc52 : ex = (0 : Int32)
    case pos =>
      obtain ⟨cq53, kq53, q53a, q53b, q53c⟩ := isOf hZ e50 (own_pt_exa P0)
      obtain ⟨_, _, ⟨T53, L53, k53, n53⟩, -, X53, ⟨Lc53, hQ53, l53, y53, z53⟩, st53⟩ := X50.virtualBack hx (y := own_y_38) (z := own_y_38) hown (mvT hZ (own_w hw 19 rfl)) (mvT hZ (own_w hw 20 rfl)) (notFace_of_selects (args := #[]) (mvT hZ (own_w hw 22 rfl))) (mvT hZ (own_w hw 22 rfl)) (mvT hZ (own_w hw 21 rfl)) (by decide) (backOf (W := 0) (rmEmpT l Z a0 hw [] ob _ _ _ _ _ _ T0.heap n0 Z0 P0 (by decide)) hZ (own_w hw 23 rfl) (own_w hw 6 rfl) (by decide) (by decide)) q53a q53c (g := (mkF m 232 (own_LF q1 p2 p3 q4 p5 kn df ex lk m2 m3 nw mx ob e0 e1 (.val (.int (1 : Int32))) .unset) [(.ref ob)])) rfl (by rw [hml]; rfl) (Steps.refl _) (argsL := []) (rest := []) (lenOf pd_48 rfl) rfl (by show 2 * 0 + _ ≤ _; exact Nat.le_of_eq rfl) (hb hby at_232) (fun _ _ => ⟨rfl, e50, (by decide : 5 + 0 ≤ _), (by decide : 22 + 0 ≤ _)⟩)
      dsimp only [Pt.U, Pt.locs, Pt.cells, Pt.slots] at X53 l53 y53 z53 st53 hQ53
      subst l53 y53 z53
      obtain ⟨rfl, Nq53, e53⟩ := hQ53
      have N53 := Fr.app N50 Nq53
      have pre54 : ∀ t, Steps p.tables e below (T53.setTop (mkF m 237 (own_LF q1 p2 p3 q4 p5 kn df ex lk m2 m3 nw mx ob e0 e1 (.val (.int (1 : Int32))) (.val (.int (1 : Int32)))) [])) t → Steps p.tables e below (T0.setTop (mkF m 196 (own_LF q1 p2 p3 q4 p5 kn df ex lk m2 m3 nw mx ob e0 e1 .unset .unset) [])) t := fun t kt => pre51 t (by
        show Steps p.tables e below (T50.setTop (mkF m 217 (own_LF q1 p2 p3 q4 p5 kn df ex lk m2 m3 nw mx ob e0 e1 (.val (.int (1 : Int32))) .unset) [(.int ex)])) _
        refine XS.ifYes X50.here hx rfl (pc0 := 217) (pc' := 230) rfl (hb hby at_217) rfl ((if0 _ _).trans (teq hc52).1) (by decide) (by decide) ?_
        refine XS.aload X50.here hx rfl (hb hby at_230) rfl rfl ?_
        refine st53.trans ?_
        refine XS.istore X53.here hx rfl (hb hby at_235) rfl (l' := (own_LF q1 p2 p3 q4 p5 kn df ex lk m2 m3 nw mx ob e0 e1 (.val (.int (1 : Int32))) (.val (.int (1 : Int32))))) rfl ?_
        exact kt)
      rw [show (if ex = (0 : Int32) then (1 : Int32) else (0 : Int32)) = (1 : Int32) from if_pos hc52]
      exact ⟨T53, _, own_more X53 (by decide) (by decide), N53, pre54⟩
    case neg =>
      obtain ⟨cq114, kq114, q114a, q114b, q114c⟩ := isOf hZ e50 (own_pt_exa P0)
      obtain ⟨_, _, ⟨T114, L114, k114, n114⟩, -, X114, ⟨Lc114, hQ114, l114, y114, z114⟩, st114⟩ := X50.virtualBack hx (y := own_y_103) (z := own_y_103) hown (mvT hZ (own_w hw 28 rfl)) (mvT hZ (own_w hw 29 rfl)) (notFace_of_selects (args := #[]) (mvT hZ (own_w hw 31 rfl))) (mvT hZ (own_w hw 31 rfl)) (mvT hZ (own_w hw 30 rfl)) (by decide) (backOf (W := 0) (rmCnt002a l Z a0 hw [] ob mx p3 lk x0 x1 y0 y1 b T0.heap n0 Z0 P0) hZ (own_w hw 32 rfl) (own_w hw 6 rfl) (by decide) (by decide)) q114a q114c (g := (mkF m 227 (own_LF q1 p2 p3 q4 p5 kn df ex lk m2 m3 nw mx ob e0 e1 (.val (.int (1 : Int32))) .unset) [(.int lk), (.int p3), (.long mx), (.ref ob)])) rfl (by rw [hml]; rfl) (Steps.refl _) (argsL := [(.long mx), (.int p3), (.int lk)]) (rest := []) (lenOf pd_105 rfl) rfl (by show 2 * 0 + _ ≤ _; exact Nat.le_of_eq rfl) (hb hby at_227) (fun _ _ => ⟨rfl, e50, (by decide : 5 + 0 ≤ _), (by decide : 22 + 0 ≤ _)⟩)
      dsimp only [Pt.U, Pt.locs, Pt.cells, Pt.slots] at X114 l114 y114 z114 st114 hQ114
      subst l114 y114 z114
      obtain ⟨rfl, Nq114, z114, P114⟩ := hQ114
      have N114 := Fr.app N50 Nq114
      have z115 : n0 ≤ T114.heap.size := Nat.le_trans Z0 z114
      obtain ⟨cq119, kq119, q119a, q119b, q119c⟩ := isOf hZ rfl (own_pt_exa P114)
      obtain ⟨_, _, ⟨T119, L119, k119, n119⟩, -, X119, ⟨Lc119, hQ119, l119, y119, z119⟩, st119⟩ := X114.virtualBack hx (y := own_y_38) (z := own_y_38) hown (mvT hZ (own_w hw 19 rfl)) (mvT hZ (own_w hw 20 rfl)) (notFace_of_selects (args := #[]) (mvT hZ (own_w hw 22 rfl))) (mvT hZ (own_w hw 22 rfl)) (mvT hZ (own_w hw 21 rfl)) (by decide) (backOf (W := 0) (rmEmpF l Z a0 hw [] ob _ _ _ _ _ _ T114.heap n0 z115 P114 (by decide)) hZ (own_w hw 23 rfl) (own_w hw 6 rfl) (by decide) (by decide)) q119a q119c (g := (mkF m 232 (own_LF q1 p2 p3 q4 p5 kn df ex lk m2 m3 nw mx ob e0 e1 (.val (.int (1 : Int32))) .unset) [(.ref ob)])) rfl (by rw [hml]; rfl) (Steps.refl _) (argsL := []) (rest := []) (lenOf pd_48 rfl) rfl (by show 2 * 0 + _ ≤ _; exact Nat.le_of_eq rfl) (hb hby at_232) (fun _ _ => ⟨rfl, rfl, (by decide : 5 + 0 ≤ _), (by decide : 22 + 0 ≤ _)⟩)
      dsimp only [Pt.U, Pt.locs, Pt.cells, Pt.slots] at X119 l119 y119 z119 st119 hQ119
      subst l119 y119 z119
      obtain ⟨rfl, Nq119, e119⟩ := hQ119
      have N119 := Fr.app N114 Nq119
      have pre120 : ∀ t, Steps p.tables e below (T119.setTop (mkF m 237 (own_LF q1 p2 p3 q4 p5 kn df ex lk m2 m3 nw mx ob e0 e1 (.val (.int (1 : Int32))) (.val (.int (0 : Int32)))) [])) t → Steps p.tables e below (T0.setTop (mkF m 196 (own_LF q1 p2 p3 q4 p5 kn df ex lk m2 m3 nw mx ob e0 e1 .unset .unset) [])) t := fun t kt => pre51 t (by
        show Steps p.tables e below (T50.setTop (mkF m 217 (own_LF q1 p2 p3 q4 p5 kn df ex lk m2 m3 nw mx ob e0 e1 (.val (.int (1 : Int32))) .unset) [(.int ex)])) _
        refine XS.ifNo X50.here hx rfl (hb hby at_217) rfl ((if0 _ _).trans (feq hc52).1) ?_
        refine XS.aload X50.here hx rfl (hb hby at_220) rfl rfl ?_
        refine XS.lload X50.here hx rfl (hb hby at_222) rfl ?_
        refine XS.iloadN X50.here hx rfl (hb hby at_224) rfl ?_
        refine XS.iload X50.here hx rfl (hb hby at_225) rfl ?_
        refine st114.trans ?_
        refine XS.aload X114.here hx rfl (hb hby at_230) rfl rfl ?_
        refine st119.trans ?_
        refine XS.istore X119.here hx rfl (hb hby at_235) rfl (l' := (own_LF q1 p2 p3 q4 p5 kn df ex lk m2 m3 nw mx ob e0 e1 (.val (.int (1 : Int32))) (.val (.int (0 : Int32))))) rfl ?_
        exact kt)
      rw [show (if ex = (0 : Int32) then (1 : Int32) else (0 : Int32)) = (0 : Int32) from if_neg hc52]
      exact ⟨T119, _, own_more X119 (by decide) (by decide), N119, pre120⟩
  case neg =>
    obtain ⟨cq125, kq125, q125a, q125b, q125c⟩ := isOf hZ rfl (own_pt_exa P0)
    obtain ⟨_, _, ⟨T125, L125, k125, n125⟩, -, X125, ⟨Lc125, hQ125, l125, y125, z125⟩, st125⟩ := X0.virtualBack hx (y := own_y_113) (z := own_y_113) hown (mvT hZ (own_w hw 63 rfl)) (mvT hZ (own_w hw 64 rfl)) (notFace_of_selects (args := #[]) (mvT hZ (own_w hw 66 rfl))) (mvT hZ (own_w hw 66 rfl)) (mvT hZ (own_w hw 65 rfl)) (by decide) (backOf (W := 0) (rmFgt002_0 l Z a0 hw [] ob q4 x0 x1 y0 y1 b T0.heap n0 Z0 P0 ) hZ (own_w hw 67 rfl) (own_w hw 6 rfl) (by decide) (by decide)) q125a q125c (g := (mkF m 205 (own_LF q1 p2 p3 q4 p5 kn df ex lk m2 m3 nw mx ob e0 e1 .unset .unset) [(.long q4), (.ref ob)])) rfl (by rw [hml]; rfl) (Steps.refl _) (argsL := [(.long q4)]) (rest := []) (lenOf pd_115 rfl) rfl (by show 2 * 0 + _ ≤ _; exact Nat.le_of_eq rfl) (hb hby at_205) (fun _ _ => ⟨rfl, rfl, (by decide : 5 + 0 ≤ _), (by decide : 22 + 0 ≤ _)⟩)
    dsimp only [Pt.U, Pt.locs, Pt.cells, Pt.slots] at X125 l125 y125 z125 st125 hQ125
    subst l125 y125 z125
    obtain ⟨rfl, Nq125, z125, P125⟩ := hQ125
    have N125 := Fr.app N0 Nq125
    have z126 : n0 ≤ T125.heap.size := Nat.le_trans Z0 z125
    obtain ⟨cq127, kq127, q127a, q127b, q127c⟩ := isOf hZ rfl (own_pt_exa P125)
    obtain ⟨_, _, ⟨T127, L127, k127, n127⟩, -, X127, ⟨Lc127, hQ127, l127, y127, z127⟩, st127⟩ := X125.virtualBack hx (y := own_y_38) (z := own_y_38) hown (mvT hZ (own_w hw 19 rfl)) (mvT hZ (own_w hw 20 rfl)) (notFace_of_selects (args := #[]) (mvT hZ (own_w hw 22 rfl))) (mvT hZ (own_w hw 22 rfl)) (mvT hZ (own_w hw 21 rfl)) (by decide) (backOf (W := 0) (rmEmpT l Z a0 hw [] ob _ _ _ _ _ _ T125.heap n0 z126 P125 (by decide)) hZ (own_w hw 23 rfl) (own_w hw 6 rfl) (by decide) (by decide)) q127a q127c (g := (mkF m 210 (own_LF q1 p2 p3 q4 p5 kn df ex lk m2 m3 nw mx ob e0 e1 .unset .unset) [(.ref ob)])) rfl (by rw [hml]; rfl) (Steps.refl _) (argsL := []) (rest := []) (lenOf pd_48 rfl) rfl (by show 2 * 0 + _ ≤ _; exact Nat.le_of_eq rfl) (hb hby at_210) (fun _ _ => ⟨rfl, rfl, (by decide : 5 + 0 ≤ _), (by decide : 22 + 0 ≤ _)⟩)
    dsimp only [Pt.U, Pt.locs, Pt.cells, Pt.slots] at X127 l127 y127 z127 st127 hQ127
    subst l127 y127 z127
    obtain ⟨rfl, Nq127, e127⟩ := hQ127
    have N127 := Fr.app N125 Nq127
    have pre128 : ∀ t, Steps p.tables e below (T127.setTop (mkF m 217 (own_LF q1 p2 p3 q4 p5 kn df ex lk m2 m3 nw mx ob e0 e1 (.val (.int (1 : Int32))) .unset) [(.int ex)])) t → Steps p.tables e below (T0.setTop (mkF m 196 (own_LF q1 p2 p3 q4 p5 kn df ex lk m2 m3 nw mx ob e0 e1 .unset .unset) [])) t := fun t kt => pre45 t (by
      show Steps p.tables e below (T0.setTop (mkF m 198 (own_LF q1 p2 p3 q4 p5 kn df ex lk m2 m3 nw mx ob e0 e1 .unset .unset) [(.int df)])) _
      refine XS.ifNo X0.here hx rfl (hb hby at_198) rfl ((if0 _ _).trans (feq hc46).1) ?_
      refine XS.aload X0.here hx rfl (hb hby at_201) rfl rfl ?_
      refine XS.lload X0.here hx rfl (hb hby at_203) rfl ?_
      refine st125.trans ?_
      refine XS.aload X125.here hx rfl (hb hby at_208) rfl rfl ?_
      refine st127.trans ?_
      refine XS.istore X127.here hx rfl (hb hby at_213) rfl (l' := (own_LF q1 p2 p3 q4 p5 kn df ex lk m2 m3 nw mx ob e0 e1 (.val (.int (1 : Int32))) .unset)) rfl ?_
      refine XS.iload X127.here hx rfl (hb hby at_215) rfl ?_
      exact kt)
    by_cases hc129 : ex = (0 : Int32)
    case pos =>
      obtain ⟨cq130, kq130, q130a, q130b, q130c⟩ := isOf hZ e127 (own_pt_exa P125)
      obtain ⟨_, _, ⟨T130, L130, k130, n130⟩, -, X130, ⟨Lc130, hQ130, l130, y130, z130⟩, st130⟩ := X127.virtualBack hx (y := own_y_38) (z := own_y_38) hown (mvT hZ (own_w hw 19 rfl)) (mvT hZ (own_w hw 20 rfl)) (notFace_of_selects (args := #[]) (mvT hZ (own_w hw 22 rfl))) (mvT hZ (own_w hw 22 rfl)) (mvT hZ (own_w hw 21 rfl)) (by decide) (backOf (W := 0) (rmEmpT l Z a0 hw [] ob _ _ _ _ _ _ T125.heap n0 z126 P125 (by decide)) hZ (own_w hw 23 rfl) (own_w hw 6 rfl) (by decide) (by decide)) q130a q130c (g := (mkF m 232 (own_LF q1 p2 p3 q4 p5 kn df ex lk m2 m3 nw mx ob e0 e1 (.val (.int (1 : Int32))) .unset) [(.ref ob)])) rfl (by rw [hml]; rfl) (Steps.refl _) (argsL := []) (rest := []) (lenOf pd_48 rfl) rfl (by show 2 * 0 + _ ≤ _; exact Nat.le_of_eq rfl) (hb hby at_232) (fun _ _ => ⟨rfl, e127, (by decide : 5 + 0 ≤ _), (by decide : 22 + 0 ≤ _)⟩)
      dsimp only [Pt.U, Pt.locs, Pt.cells, Pt.slots] at X130 l130 y130 z130 st130 hQ130
      subst l130 y130 z130
      obtain ⟨rfl, Nq130, e130⟩ := hQ130
      have N130 := Fr.app N127 Nq130
      have pre131 : ∀ t, Steps p.tables e below (T130.setTop (mkF m 237 (own_LF q1 p2 p3 q4 p5 kn df ex lk m2 m3 nw mx ob e0 e1 (.val (.int (1 : Int32))) (.val (.int (1 : Int32)))) [])) t → Steps p.tables e below (T0.setTop (mkF m 196 (own_LF q1 p2 p3 q4 p5 kn df ex lk m2 m3 nw mx ob e0 e1 .unset .unset) [])) t := fun t kt => pre128 t (by
        show Steps p.tables e below (T127.setTop (mkF m 217 (own_LF q1 p2 p3 q4 p5 kn df ex lk m2 m3 nw mx ob e0 e1 (.val (.int (1 : Int32))) .unset) [(.int ex)])) _
        refine XS.ifYes X127.here hx rfl (pc0 := 217) (pc' := 230) rfl (hb hby at_217) rfl ((if0 _ _).trans (teq hc129).1) (by decide) (by decide) ?_
        refine XS.aload X127.here hx rfl (hb hby at_230) rfl rfl ?_
        refine st130.trans ?_
        refine XS.istore X130.here hx rfl (hb hby at_235) rfl (l' := (own_LF q1 p2 p3 q4 p5 kn df ex lk m2 m3 nw mx ob e0 e1 (.val (.int (1 : Int32))) (.val (.int (1 : Int32))))) rfl ?_
        exact kt)
      rw [show (if ex = (0 : Int32) then (1 : Int32) else (0 : Int32)) = (1 : Int32) from if_pos hc129]
      exact ⟨T130, _, own_more X130 (by decide) (by decide), N130, pre131⟩
    case neg =>
      obtain ⟨cq132, kq132, q132a, q132b, q132c⟩ := isOf hZ e127 (own_pt_exa P125)
      obtain ⟨_, _, ⟨T132, L132, k132, n132⟩, -, X132, ⟨Lc132, hQ132, l132, y132, z132⟩, st132⟩ := X127.virtualBack hx (y := own_y_103) (z := own_y_103) hown (mvT hZ (own_w hw 28 rfl)) (mvT hZ (own_w hw 29 rfl)) (notFace_of_selects (args := #[]) (mvT hZ (own_w hw 31 rfl))) (mvT hZ (own_w hw 31 rfl)) (mvT hZ (own_w hw 30 rfl)) (by decide) (backOf (W := 0) (rmCnt002a l Z a0 hw [] ob mx p3 lk x0 x1 y0 y1 b T125.heap n0 z126 P125) hZ (own_w hw 32 rfl) (own_w hw 6 rfl) (by decide) (by decide)) q132a q132c (g := (mkF m 227 (own_LF q1 p2 p3 q4 p5 kn df ex lk m2 m3 nw mx ob e0 e1 (.val (.int (1 : Int32))) .unset) [(.int lk), (.int p3), (.long mx), (.ref ob)])) rfl (by rw [hml]; rfl) (Steps.refl _) (argsL := [(.long mx), (.int p3), (.int lk)]) (rest := []) (lenOf pd_105 rfl) rfl (by show 2 * 0 + _ ≤ _; exact Nat.le_of_eq rfl) (hb hby at_227) (fun _ _ => ⟨rfl, e127, (by decide : 5 + 0 ≤ _), (by decide : 22 + 0 ≤ _)⟩)
      dsimp only [Pt.U, Pt.locs, Pt.cells, Pt.slots] at X132 l132 y132 z132 st132 hQ132
      subst l132 y132 z132
      obtain ⟨rfl, Nq132, z132, P132⟩ := hQ132
      have N132 := Fr.app N127 Nq132
      have z133 : n0 ≤ T132.heap.size := Nat.le_trans z126 z132
      obtain ⟨cq134, kq134, q134a, q134b, q134c⟩ := isOf hZ rfl (own_pt_exa P132)
      obtain ⟨_, _, ⟨T134, L134, k134, n134⟩, -, X134, ⟨Lc134, hQ134, l134, y134, z134⟩, st134⟩ := X132.virtualBack hx (y := own_y_38) (z := own_y_38) hown (mvT hZ (own_w hw 19 rfl)) (mvT hZ (own_w hw 20 rfl)) (notFace_of_selects (args := #[]) (mvT hZ (own_w hw 22 rfl))) (mvT hZ (own_w hw 22 rfl)) (mvT hZ (own_w hw 21 rfl)) (by decide) (backOf (W := 0) (rmEmpF l Z a0 hw [] ob _ _ _ _ _ _ T132.heap n0 z133 P132 (by decide)) hZ (own_w hw 23 rfl) (own_w hw 6 rfl) (by decide) (by decide)) q134a q134c (g := (mkF m 232 (own_LF q1 p2 p3 q4 p5 kn df ex lk m2 m3 nw mx ob e0 e1 (.val (.int (1 : Int32))) .unset) [(.ref ob)])) rfl (by rw [hml]; rfl) (Steps.refl _) (argsL := []) (rest := []) (lenOf pd_48 rfl) rfl (by show 2 * 0 + _ ≤ _; exact Nat.le_of_eq rfl) (hb hby at_232) (fun _ _ => ⟨rfl, rfl, (by decide : 5 + 0 ≤ _), (by decide : 22 + 0 ≤ _)⟩)
      dsimp only [Pt.U, Pt.locs, Pt.cells, Pt.slots] at X134 l134 y134 z134 st134 hQ134
      subst l134 y134 z134
      obtain ⟨rfl, Nq134, e134⟩ := hQ134
      have N134 := Fr.app N132 Nq134
      have pre135 : ∀ t, Steps p.tables e below (T134.setTop (mkF m 237 (own_LF q1 p2 p3 q4 p5 kn df ex lk m2 m3 nw mx ob e0 e1 (.val (.int (1 : Int32))) (.val (.int (0 : Int32)))) [])) t → Steps p.tables e below (T0.setTop (mkF m 196 (own_LF q1 p2 p3 q4 p5 kn df ex lk m2 m3 nw mx ob e0 e1 .unset .unset) [])) t := fun t kt => pre128 t (by
        show Steps p.tables e below (T127.setTop (mkF m 217 (own_LF q1 p2 p3 q4 p5 kn df ex lk m2 m3 nw mx ob e0 e1 (.val (.int (1 : Int32))) .unset) [(.int ex)])) _
        refine XS.ifNo X127.here hx rfl (hb hby at_217) rfl ((if0 _ _).trans (feq hc129).1) ?_
        refine XS.aload X127.here hx rfl (hb hby at_220) rfl rfl ?_
        refine XS.lload X127.here hx rfl (hb hby at_222) rfl ?_
        refine XS.iloadN X127.here hx rfl (hb hby at_224) rfl ?_
        refine XS.iload X127.here hx rfl (hb hby at_225) rfl ?_
        refine st132.trans ?_
        refine XS.aload X132.here hx rfl (hb hby at_230) rfl rfl ?_
        refine st134.trans ?_
        refine XS.istore X134.here hx rfl (hb hby at_235) rfl (l' := (own_LF q1 p2 p3 q4 p5 kn df ex lk m2 m3 nw mx ob e0 e1 (.val (.int (1 : Int32))) (.val (.int (0 : Int32))))) rfl ?_
        exact kt)
      rw [show (if ex = (0 : Int32) then (1 : Int32) else (0 : Int32)) = (0 : Int32) from if_neg hc129]
      exact ⟨T134, _, own_more X134 (by decide) (by decide), N134, pre135⟩
theorem d5_40 : decode prog_25_method_2_code 40 = .ok (.lload_n 1, 1) := by decide +kernel
theorem d5_41 : decode prog_25_method_2_code 41 = .ok (.aload_n 0, 1) := by decide +kernel
theorem d5_42 : decode prog_25_method_2_code 42 = .ok (.getfield 9, 3) := by decide +kernel
theorem d5_45 : decode prog_25_method_2_code 45 = .ok (.aload_n 0, 1) := by decide +kernel
theorem d5_46 : decode prog_25_method_2_code 46 = .ok (.getfield 21, 3) := by decide +kernel
theorem d5_49 : decode prog_25_method_2_code 49 = .ok (.iconst 1, 1) := by decide +kernel
theorem d5_50 : decode prog_25_method_2_code 50 = .ok (.isub, 1) := by decide +kernel
theorem d5_51 : decode prog_25_method_2_code 51 = .ok (.laload, 1) := by decide +kernel
theorem d5_52 : decode prog_25_method_2_code 52 = .ok (.lcmp, 1) := by decide +kernel
theorem d5_53 : decode prog_25_method_2_code 53 = .ok (.ifCond .gt 18, 3) := by decide +kernel
def QCnt012a (Z : State) (a1 : Addr) (q2 : Int64) (p4 p5 : Int32) (x0 : Int64) (x1 : Int64) (y0 : Int32) (y1 : Int32) (b : Int32) (h0 : Heap) (n0 : Nat) (v : Option Value) (h : Heap) (L : List Loc) : Prop := v = none ∧ Fr n0 L ∧ h0.size ≤ h.size ∧ PT Z h n0 a1 (0 : Int32) (2 : Int32) (2 : Int32) [(.long x0), (.long q2)] [(.int y0), (.int p4)] b
set_option maxRecDepth 65536 in
set_option maxHeartbeats 40000000 in
theorem rmCnt012a (l : Launch) (Z : State) (a0 : Array Value) (hw : ∀ d ∈ tables_1, d.before a0 Z = true) (ws : List Jvm.Cond) (a1 : Addr) (q2 : Int64) (p4 p5 : Int32) (x0 : Int64) (x1 : Int64) (y0 : Int32) (y1 : Int32) (b : Int32) (h0 : Heap) (n0 : Nat) (Z0 : n0 ≤ h0.size) (P0 : PT Z h0 n0 a1 (0 : Int32) (1 : Int32) (2 : Int32) [(.long x0), (.long x1)] [(.int y0), (.int y1)] b) (c0 : x0 < q2) :
    MetFree l own_y_103 (head1 (Jvm.Cond.code own_y_103 prog_25_method_2_code 5 none :: ws) ({ frames := 0, cells := 0, slots := 0, locals := 0 } : Room)) (fun a U => a = #[(.ref a1), (.long q2), (.int p4), (.int p5)] ∧ Z.Warmed39 U.vm ∧ U.heap = h0) (fun _ _ _ _ _ => True) (fun _ U o U' => ∃ v L, o = .returned v ∧ QCnt012a Z a1 q2 p4 p5 x0 x1 y0 y1 b h0 n0 v U'.heap L ∧ FrameEnd U o U' L ({ frames := 0, cells := 0, slots := 0, locals := 0 } : Room).cells ({ frames := 0, cells := 0, slots := 0, locals := 0 } : Room).slots) := by
  refine MetFree.of_bodySF (plainFor_of_name pn_2) hisR ?_
  intro p e s m args below meth c s₁ Bd hml0 hP hK
  obtain ⟨rfl, hZ, hh⟩ := hP
  have hx := Bd.exec
  have hby := Bd.bytes
  have hml : c.maxLocals = 5 := hml0
  have hown : s.vm.findClass "com/example/viral_counter/viralcounter/PostTrend" = some m.cls := findClass_of_methodNamed Bd.named
  have hnm := (name_of_methodNamed Bd.named Bd.method).1
  have X0 : Stand p l e ({ frames := 0, cells := 0, slots := 0, locals := 0 } : Room) s m #[(.ref a1), (.long q2), (.int p4), (.int p5)] below meth c s₁ [] 0 0 := Stand.of_body Bd
  have e0 : s₁.heap = h0 := by rw [← hh, Bd.state]; rfl
  have N0 := Fr.nil n0
  have pre0 : ∀ t, Steps p.tables e below (s₁.setTop (mkF m 0 #[.val (.ref a1), .val (.long q2), .second, .val (.int p4), .val (.int p5)] [])) t → Steps p.tables e below (s₁.setTop (entryFrame m #[(.ref a1), (.long q2), (.int p4), (.int p5)] 5)) t := fun t k => castTop (ef_104 m a1 q2 p4 p5) k
  obtain ⟨am145, ac145, km145, kc145, E145, Fm145, Fc145, Ff145, Fe145, Fb145, Vm145, Vc145, Ga145, Gm145, Gc145, n1145, n2145, n3145⟩ := id P0
  have hz0 : h0.size ≤ h0.size := Nat.le_refl _
  obtain ⟨T146, X146, e146, st146⟩ := getF X0 hx hZ hown (host := "") (Or.inl (own_w hw 24 rfl)) Via.refl e0 Ff145 (g := (mkF m 1 #[.val (.ref a1), .val (.long q2), .second, .val (.int p4), .val (.int p5)] [(.ref a1)])) rfl rfl (hb hby d5_1)
  obtain ⟨T147, X147, e147, st147⟩ := getF X146 hx hZ hown (host := "") (Or.inl (own_w hw 26 rfl)) Via.refl e146 Fe145 (g := (mkF m 5 #[.val (.ref a1), .val (.long q2), .second, .val (.int p4), .val (.int p5)] [(.ref a1), (.int (0 : Int32))])) rfl rfl (hb hby d5_5)
  obtain ⟨T148, X148, e148, st148⟩ := getF X147 hx hZ hown (host := "") (Or.inl (own_w hw 24 rfl)) Via.refl e147 Ff145 (g := (mkF m 30 #[.val (.ref a1), .val (.long q2), .second, .val (.int p4), .val (.int p5)] [(.ref a1)])) rfl rfl (hb hby d5_30)
  obtain ⟨T149, X149, e149, st149⟩ := getF X148 hx hZ hown (host := "") (Or.inl (own_w hw 26 rfl)) Via.refl e148 Fe145 (g := (mkF m 34 #[.val (.ref a1), .val (.long q2), .second, .val (.int p4), .val (.int p5)] [(.ref a1), (.int (0 : Int32))])) rfl rfl (hb hby d5_34)
  obtain ⟨T150, X150, e150, st150⟩ := getF X149 hx hZ hown (host := "") (Or.inl (own_w hw 14 rfl)) Via.refl e149 Fm145 (g := (mkF m 42 #[.val (.ref a1), .val (.long q2), .second, .val (.int p4), .val (.int p5)] [(.ref a1), (.long q2)])) rfl rfl (hb hby d5_42)
  obtain ⟨T151, X151, e151, st151⟩ := getF X150 hx hZ hown (host := "") (Or.inl (own_w hw 26 rfl)) Via.refl e150 Fe145 (g := (mkF m 46 #[.val (.ref a1), .val (.long q2), .second, .val (.int p4), .val (.int p5)] [(.ref a1), (.ref am145), (.long q2)])) rfl rfl (hb hby d5_46)
  obtain ⟨cl152, A152, q152, S152, M152, H152, J152⟩ := id Vm145
  have hin152 : ¬ ((0 : Int32) < 0 ∨ cl152.slots.size ≤ ((0 : Int32)).toNatClampNeg) := inb_of S152 ⟨by decide, by decide⟩
  have hat152 : cl152.slots[((0 : Int32)).toNatClampNeg]? = some (.long x0) := H152.at hin152 rfl
  obtain ⟨T153, X153, e153, st153⟩ := getF X151 hx hZ hown (host := "") (Or.inl (own_w hw 26 rfl)) Via.refl e151 Fe145 (g := (mkF m 72 #[.val (.ref a1), .val (.long q2), .second, .val (.int p4), .val (.int p5)] [(.ref a1)])) rfl rfl (hb hby d5_72)
  obtain ⟨T154, X154, e154, st154⟩ := getF X153 hx hZ hown (host := "") (Or.inl (own_w hw 14 rfl)) Via.refl e153 Fm145 (g := (mkF m 76 #[.val (.ref a1), .val (.long q2), .second, .val (.int p4), .val (.int p5)] [(.ref a1), (.int (1 : Int32))])) rfl rfl (hb hby d5_76)
  obtain ⟨cl155, A155, q155, S155, M155, H155, J155⟩ := id Vm145
  obtain ⟨T156, X156, e156, st156⟩ := getF X154 hx hZ hown (host := "") (Or.inl (own_w hw 14 rfl)) Via.refl e154 Fm145 (g := (mkF m 88 #[.val (.ref a1), .val (.long q2), .second, .val (.int p4), .val (.int p5)] [(.ref a1)])) rfl rfl (hb hby d5_88)
  obtain ⟨T157, X157, e157, st157⟩ := getF X156 hx hZ hown (host := "") (Or.inl (own_w hw 26 rfl)) Via.refl e156 Fe145 (g := (mkF m 92 #[.val (.ref a1), .val (.long q2), .second, .val (.int p4), .val (.int p5)] [(.ref a1), (.ref am145)])) rfl rfl (hb hby d5_92)
  obtain ⟨cl158, Ar158, q158, S158, M158, H158, J158⟩ := id Vm145
  have hin158 : ¬ ((1 : Int32) < 0 ∨ cl158.slots.size ≤ ((1 : Int32)).toNatClampNeg) := inb_of S158 ⟨by decide, by decide⟩
  obtain ⟨T159, h159, X159, e159, W159, st159⟩ := stJ X157 hx hZ e157 Ar158 (j := (1 : Int32)) hin158 (g := (mkF m 96 #[.val (.ref a1), .val (.long q2), .second, .val (.int p4), .val (.int p5)] [(.long q2), (.int (1 : Int32)), (.ref am145)])) rfl rfl (hb hby d5_96)
  have V159 : Arv Z h159 am145 km145 .long (2 : Int32) [(.long x0), (.long q2)] (.long (0 : Int64)) := Arv.set Ar158 q158 S158 M158 H158 J158 rfl W159 1 rfl (Nat.le_of_ble_eq_true rfl)
  have N159 := Fr.snoc X159 N0 Gm145
  have z160 : n0 ≤ h159.size := Nat.le_trans Z0 (Keep.of_wr W159).1
  have c161 := E145.wr W159
  have c162 := Fm145.other W159 (Or.inl n1145)
  have c163 := Fc145.other W159 (Or.inl n1145)
  have c164 := Ff145.other W159 (Or.inl n1145)
  have c165 := Fe145.other W159 (Or.inl n1145)
  have c166 := Fb145.other W159 (Or.inl n1145)
  have c168 := Vc145.other W159 (Ne.symm n3145)
  obtain ⟨T169, X169, e169, st169⟩ := getF X159 hx hZ hown (host := "") (Or.inl (own_w hw 17 rfl)) Via.refl e159 c163 (g := (mkF m 98 #[.val (.ref a1), .val (.long q2), .second, .val (.int p4), .val (.int p5)] [(.ref a1)])) rfl rfl (hb hby d5_98)
  obtain ⟨T170, X170, e170, st170⟩ := getF X169 hx hZ hown (host := "") (Or.inl (own_w hw 26 rfl)) Via.refl e169 c165 (g := (mkF m 102 #[.val (.ref a1), .val (.long q2), .second, .val (.int p4), .val (.int p5)] [(.ref a1), (.ref ac145)])) rfl rfl (hb hby d5_102)
  obtain ⟨cl171, Ar171, q171, S171, M171, H171, J171⟩ := id c168
  have hin171 : ¬ ((1 : Int32) < 0 ∨ cl171.slots.size ≤ ((1 : Int32)).toNatClampNeg) := inb_of S171 ⟨by decide, by decide⟩
  obtain ⟨T172, h172, X172, e172, W172, st172⟩ := stI X170 hx hZ e170 Ar171 (j := (1 : Int32)) hin171 (g := (mkF m 106 #[.val (.ref a1), .val (.long q2), .second, .val (.int p4), .val (.int p5)] [(.int p4), (.int (1 : Int32)), (.ref ac145)])) rfl rfl (hb hby d5_106)
  have V172 : Arv Z h172 ac145 kc145 .int (2 : Int32) [(.int y0), (.int p4)] (.int (0 : Int32)) := Arv.set Ar171 q171 S171 M171 H171 J171 rfl W172 1 rfl (Nat.le_of_ble_eq_true rfl)
  have N172 := Fr.snoc X172 N159 Gc145
  have z173 : n0 ≤ h172.size := Nat.le_trans z160 (Keep.of_wr W172).1
  have c174 := c161.wr W172
  have c175 := c162.other W172 (Or.inl n2145)
  have c176 := c163.other W172 (Or.inl n2145)
  have c177 := c164.other W172 (Or.inl n2145)
  have c178 := c165.other W172 (Or.inl n2145)
  have c179 := c166.other W172 (Or.inl n2145)
  have c181 := V159.other W172 n3145
  obtain ⟨T182, X182, e182, st182⟩ := getF X172 hx hZ hown (host := "") (Or.inl (own_w hw 26 rfl)) Via.refl e172 c178 (g := (mkF m 109 #[.val (.ref a1), .val (.long q2), .second, .val (.int p4), .val (.int p5)] [(.ref a1), (.ref a1)])) rfl rfl (hb hby d5_109)
  obtain ⟨T183, h183, X183, e183, W183, st183⟩ := putF X182 hx hZ hown (host := "") (Or.inl (own_w hw 26 rfl)) Via.refl e182 c178 c174 (Or.inl (own_w hw 27 rfl)) (own_w hw 5 rfl) (ty := .int) (by decide) rfl rfl (g := (mkF m 114 #[.val (.ref a1), .val (.long q2), .second, .val (.int p4), .val (.int p5)] [(.int (2 : Int32)), (.ref a1)])) rfl rfl (hb hby d5_114)
  have Fw183 := c178.same W183
  have N183 := Fr.snoc X183 N172 Ga145
  have z184 : n0 ≤ h183.size := Nat.le_trans z173 (Keep.of_wr W183).1
  have c185 := c174.wr W183
  have c186 := c175.other W183 (Or.inr (own_sn_98 hw))
  have c187 := c176.other W183 (Or.inr (own_sn_99 hw))
  have c188 := c177.other W183 (Or.inr (own_sn_100 hw))
  have c190 := c179.other W183 (Or.inr (own_sn_101 hw))
  have c191 := c181.other W183 (Ne.symm n1145)
  have c192 := V172.other W183 (Ne.symm n2145)
  have pre193 : ∀ t, Steps p.tables e below (T183.setTop (mkF m 117 #[.val (.ref a1), .val (.long q2), .second, .val (.int p4), .val (.int p5)] [])) t → Steps p.tables e below (s₁.setTop (entryFrame m #[(.ref a1), (.long q2), (.int p4), (.int p5)] 5)) t := fun t kt => pre0 t (by
    show Steps p.tables e below (s₁.setTop (mkF m 0 #[.val (.ref a1), .val (.long q2), .second, .val (.int p4), .val (.int p5)] [])) _
    refine XS.aloadN X0.here hx rfl (hb hby d5_0) rfl rfl ?_
    refine st146 _ ?_
    refine XS.aloadN X146.here hx rfl (hb hby d5_4) rfl rfl ?_
    refine st147 _ ?_
    refine XS.icmpYes X147.here hx rfl (pc0 := 8) (pc' := 29) rfl (hb hby d5_8) rfl (feq (by decide : ¬ ((0 : Int32) = (1 : Int32)))).2 (by decide) (by decide) ?_
    refine XS.aloadN X147.here hx rfl (hb hby d5_29) rfl rfl ?_
    refine st148 _ ?_
    refine XS.aloadN X148.here hx rfl (hb hby d5_33) rfl rfl ?_
    refine st149 _ ?_
    refine XS.icmpNo X149.here hx rfl (hb hby d5_37) rfl (tlt (by decide : (0 : Int32) < (1 : Int32))).2.1 ?_
    refine XS.lloadN X149.here hx rfl (hb hby d5_40) rfl ?_
    refine XS.aloadN X149.here hx rfl (hb hby d5_41) rfl rfl ?_
    show Steps p.tables e below (T149.setTop (mkF m 42 #[.val (.ref a1), .val (.long q2), .second, .val (.int p4), .val (.int p5)] [(.ref a1), (.long q2)])) _
    refine st150 _ ?_
    refine XS.aloadN X150.here hx rfl (hb hby d5_45) rfl rfl ?_
    refine st151 _ ?_
    refine XS.iconst X151.here hx rfl (hb hby d5_49) ?_
    refine XS.isub X151.here hx rfl (hb hby d5_50) rfl ?_
    refine X151.laload hx (j := (0 : Int32)) (v := (.long x0)) (by rw [e151]; exact A152.1) (State.isArrayOf_alike hZ.alike A152.2.1) A152.2.2 hin152 hat152 (g := (mkF m 51 #[.val (.ref a1), .val (.long q2), .second, .val (.int p4), .val (.int p5)] [(.int (0 : Int32)), (.ref am145), (.long q2)])) rfl rfl (hb hby d5_51) _ ?_
    refine XS.lcmp X151.here hx rfl (hb hby d5_52) rfl ?_
    refine XS.ifYes X151.here hx rfl (pc0 := 53) (pc' := 71) rfl (hb hby d5_53) rfl ((if0 _ _).trans (tlt ((lw_gt _ _).mpr c0)).2.2.1) (by decide) (by decide) ?_
    refine XS.aloadN X151.here hx rfl (hb hby d5_71) rfl rfl ?_
    refine st153 _ ?_
    refine XS.aloadN X153.here hx rfl (hb hby d5_75) rfl rfl ?_
    refine st154 _ ?_
    show Steps p.tables e below (T154.setTop (mkF m 79 #[.val (.ref a1), .val (.long q2), .second, .val (.int p4), .val (.int p5)] [(.ref am145), (.int (1 : Int32))])) _
    refine X154.arraylength hx (by rw [e154]; exact A155.1) (State.isArrayOf_alike hZ.alike A155.2.1) (g := (mkF m 79 #[.val (.ref a1), .val (.long q2), .second, .val (.int p4), .val (.int p5)] [(.ref am145), (.int (1 : Int32))])) rfl rfl (hb hby d5_79) _ ?_
    rw [len_of S155 M155]
    refine XS.icmpYes X154.here hx rfl (pc0 := 80) (pc' := 87) rfl (hb hby d5_80) rfl (feq (by decide : ¬ ((1 : Int32) = (2 : Int32)))).2 (by decide) (by decide) ?_
    refine XS.aloadN X154.here hx rfl (hb hby d5_87) rfl rfl ?_
    refine st156 _ ?_
    refine XS.aloadN X156.here hx rfl (hb hby d5_91) rfl rfl ?_
    refine st157 _ ?_
    refine XS.lloadN X157.here hx rfl (hb hby d5_95) rfl ?_
    refine st159 _ ?_
    refine XS.aloadN X159.here hx rfl (hb hby d5_97) rfl rfl ?_
    refine st169 _ ?_
    refine XS.aloadN X169.here hx rfl (hb hby d5_101) rfl rfl ?_
    refine st170 _ ?_
    show Steps p.tables e below (T170.setTop (mkF m 105 #[.val (.ref a1), .val (.long q2), .second, .val (.int p4), .val (.int p5)] [(.int (1 : Int32)), (.ref ac145)])) _
    refine XS.iloadN X170.here hx rfl (hb hby d5_105) rfl ?_
    refine st172 _ ?_
    refine XS.aloadN X172.here hx rfl (hb hby d5_107) rfl rfl ?_
    refine XS.dup X172.here hx rfl (hb hby d5_108) rfl rfl ?_
    refine st182 _ ?_
    refine XS.iconst X182.here hx rfl (hb hby d5_112) ?_
    refine XS.iadd X182.here hx rfl (hb hby d5_113) rfl ?_
    refine st183 _ ?_
    exact kt)
  have hz : h0.size ≤ h183.size := Nat.le_trans (Nat.le_trans (Nat.le_trans (Nat.le_refl _) (Keep.of_wr W159).1) (Keep.of_wr W172).1) (Keep.of_wr W183).1
  have hQ : QCnt012a Z a1 q2 p4 p5 x0 x1 y0 y1 b h0 n0 none h183 _ := ⟨rfl, N183, hz, ⟨am145, ac145, km145, kc145, c185, c186, c187, c188, Fw183, c190, c191, c192, Ga145, Gm145, Gc145, n1145, n2145, n3145⟩⟩
  exact own_retV X183 hx Bd.notSynchronized Bd.returns (hb hby d5_117) pre193 (show QCnt012a Z a1 q2 p4 p5 x0 x1 y0 y1 b h0 n0 _ _ _ from (by rw [e183]; exact hQ)) (by decide) (by decide)
theorem d5_56 : decode prog_25_method_2_code 56 = .ok (.aload_n 0, 1) := by decide +kernel
theorem d5_57 : decode prog_25_method_2_code 57 = .ok (.getfield 13, 3) := by decide +kernel
theorem d5_60 : decode prog_25_method_2_code 60 = .ok (.aload_n 0, 1) := by decide +kernel
theorem d5_61 : decode prog_25_method_2_code 61 = .ok (.getfield 21, 3) := by decide +kernel
theorem d5_64 : decode prog_25_method_2_code 64 = .ok (.iconst 1, 1) := by decide +kernel
theorem d5_65 : decode prog_25_method_2_code 65 = .ok (.isub, 1) := by decide +kernel
theorem d5_66 : decode prog_25_method_2_code 66 = .ok (.iload_n 3, 1) := by decide +kernel
theorem d5_67 : decode prog_25_method_2_code 67 = .ok (.iastore, 1) := by decide +kernel
theorem d5_68 : decode prog_25_method_2_code 68 = .ok (.goto 49, 3) := by decide +kernel
def QCnt012o (Z : State) (a1 : Addr) (q2 : Int64) (p4 p5 : Int32) (x0 : Int64) (x1 : Int64) (y0 : Int32) (y1 : Int32) (b : Int32) (h0 : Heap) (n0 : Nat) (v : Option Value) (h : Heap) (L : List Loc) : Prop := v = none ∧ Fr n0 L ∧ h0.size ≤ h.size ∧ PT Z h n0 a1 (0 : Int32) (1 : Int32) (2 : Int32) [(.long x0), (.long x1)] [(.int p4), (.int y1)] b
set_option maxRecDepth 65536 in
set_option maxHeartbeats 40000000 in
theorem rmCnt012o (l : Launch) (Z : State) (a0 : Array Value) (hw : ∀ d ∈ tables_1, d.before a0 Z = true) (ws : List Jvm.Cond) (a1 : Addr) (q2 : Int64) (p4 p5 : Int32) (x0 : Int64) (x1 : Int64) (y0 : Int32) (y1 : Int32) (b : Int32) (h0 : Heap) (n0 : Nat) (Z0 : n0 ≤ h0.size) (P0 : PT Z h0 n0 a1 (0 : Int32) (1 : Int32) (2 : Int32) [(.long x0), (.long x1)] [(.int y0), (.int y1)] b) (c0 : ¬ (x0 < q2)) :
    MetFree l own_y_103 (head1 (Jvm.Cond.code own_y_103 prog_25_method_2_code 5 none :: ws) ({ frames := 0, cells := 0, slots := 0, locals := 0 } : Room)) (fun a U => a = #[(.ref a1), (.long q2), (.int p4), (.int p5)] ∧ Z.Warmed39 U.vm ∧ U.heap = h0) (fun _ _ _ _ _ => True) (fun _ U o U' => ∃ v L, o = .returned v ∧ QCnt012o Z a1 q2 p4 p5 x0 x1 y0 y1 b h0 n0 v U'.heap L ∧ FrameEnd U o U' L ({ frames := 0, cells := 0, slots := 0, locals := 0 } : Room).cells ({ frames := 0, cells := 0, slots := 0, locals := 0 } : Room).slots) := by
  refine MetFree.of_bodySF (plainFor_of_name pn_2) hisR ?_
  intro p e s m args below meth c s₁ Bd hml0 hP hK
  obtain ⟨rfl, hZ, hh⟩ := hP
  have hx := Bd.exec
  have hby := Bd.bytes
  have hml : c.maxLocals = 5 := hml0
  have hown : s.vm.findClass "com/example/viral_counter/viralcounter/PostTrend" = some m.cls := findClass_of_methodNamed Bd.named
  have hnm := (name_of_methodNamed Bd.named Bd.method).1
  have X0 : Stand p l e ({ frames := 0, cells := 0, slots := 0, locals := 0 } : Room) s m #[(.ref a1), (.long q2), (.int p4), (.int p5)] below meth c s₁ [] 0 0 := Stand.of_body Bd
  have e0 : s₁.heap = h0 := by rw [← hh, Bd.state]; rfl
  have N0 := Fr.nil n0
  have pre0 : ∀ t, Steps p.tables e below (s₁.setTop (mkF m 0 #[.val (.ref a1), .val (.long q2), .second, .val (.int p4), .val (.int p5)] [])) t → Steps p.tables e below (s₁.setTop (entryFrame m #[(.ref a1), (.long q2), (.int p4), (.int p5)] 5)) t := fun t k => castTop (ef_104 m a1 q2 p4 p5) k
  obtain ⟨am198, ac198, km198, kc198, E198, Fm198, Fc198, Ff198, Fe198, Fb198, Vm198, Vc198, Ga198, Gm198, Gc198, n1198, n2198, n3198⟩ := id P0
  have hz0 : h0.size ≤ h0.size := Nat.le_refl _
  obtain ⟨T199, X199, e199, st199⟩ := getF X0 hx hZ hown (host := "") (Or.inl (own_w hw 24 rfl)) Via.refl e0 Ff198 (g := (mkF m 1 #[.val (.ref a1), .val (.long q2), .second, .val (.int p4), .val (.int p5)] [(.ref a1)])) rfl rfl (hb hby d5_1)
  obtain ⟨T200, X200, e200, st200⟩ := getF X199 hx hZ hown (host := "") (Or.inl (own_w hw 26 rfl)) Via.refl e199 Fe198 (g := (mkF m 5 #[.val (.ref a1), .val (.long q2), .second, .val (.int p4), .val (.int p5)] [(.ref a1), (.int (0 : Int32))])) rfl rfl (hb hby d5_5)
  obtain ⟨T201, X201, e201, st201⟩ := getF X200 hx hZ hown (host := "") (Or.inl (own_w hw 24 rfl)) Via.refl e200 Ff198 (g := (mkF m 30 #[.val (.ref a1), .val (.long q2), .second, .val (.int p4), .val (.int p5)] [(.ref a1)])) rfl rfl (hb hby d5_30)
  obtain ⟨T202, X202, e202, st202⟩ := getF X201 hx hZ hown (host := "") (Or.inl (own_w hw 26 rfl)) Via.refl e201 Fe198 (g := (mkF m 34 #[.val (.ref a1), .val (.long q2), .second, .val (.int p4), .val (.int p5)] [(.ref a1), (.int (0 : Int32))])) rfl rfl (hb hby d5_34)
  obtain ⟨T203, X203, e203, st203⟩ := getF X202 hx hZ hown (host := "") (Or.inl (own_w hw 14 rfl)) Via.refl e202 Fm198 (g := (mkF m 42 #[.val (.ref a1), .val (.long q2), .second, .val (.int p4), .val (.int p5)] [(.ref a1), (.long q2)])) rfl rfl (hb hby d5_42)
  obtain ⟨T204, X204, e204, st204⟩ := getF X203 hx hZ hown (host := "") (Or.inl (own_w hw 26 rfl)) Via.refl e203 Fe198 (g := (mkF m 46 #[.val (.ref a1), .val (.long q2), .second, .val (.int p4), .val (.int p5)] [(.ref a1), (.ref am198), (.long q2)])) rfl rfl (hb hby d5_46)
  obtain ⟨cl205, A205, q205, S205, M205, H205, J205⟩ := id Vm198
  have hin205 : ¬ ((0 : Int32) < 0 ∨ cl205.slots.size ≤ ((0 : Int32)).toNatClampNeg) := inb_of S205 ⟨by decide, by decide⟩
  have hat205 : cl205.slots[((0 : Int32)).toNatClampNeg]? = some (.long x0) := H205.at hin205 rfl
  obtain ⟨T206, X206, e206, st206⟩ := getF X204 hx hZ hown (host := "") (Or.inl (own_w hw 17 rfl)) Via.refl e204 Fc198 (g := (mkF m 57 #[.val (.ref a1), .val (.long q2), .second, .val (.int p4), .val (.int p5)] [(.ref a1)])) rfl rfl (hb hby d5_57)
  obtain ⟨T207, X207, e207, st207⟩ := getF X206 hx hZ hown (host := "") (Or.inl (own_w hw 26 rfl)) Via.refl e206 Fe198 (g := (mkF m 61 #[.val (.ref a1), .val (.long q2), .second, .val (.int p4), .val (.int p5)] [(.ref a1), (.ref ac198)])) rfl rfl (hb hby d5_61)
  obtain ⟨cl208, Ar208, q208, S208, M208, H208, J208⟩ := id Vc198
  have hin208 : ¬ ((0 : Int32) < 0 ∨ cl208.slots.size ≤ ((0 : Int32)).toNatClampNeg) := inb_of S208 ⟨by decide, by decide⟩
  obtain ⟨T209, h209, X209, e209, W209, st209⟩ := stI X207 hx hZ e207 Ar208 (j := (0 : Int32)) hin208 (g := (mkF m 67 #[.val (.ref a1), .val (.long q2), .second, .val (.int p4), .val (.int p5)] [(.int p4), (.int (0 : Int32)), (.ref ac198)])) rfl rfl (hb hby d5_67)
  have V209 : Arv Z h209 ac198 kc198 .int (2 : Int32) [(.int p4), (.int y1)] (.int (0 : Int32)) := Arv.set Ar208 q208 S208 M208 H208 J208 rfl W209 0 rfl (Nat.le_of_ble_eq_true rfl)
  have N209 := Fr.snoc X209 N0 Gc198
  have z210 : n0 ≤ h209.size := Nat.le_trans Z0 (Keep.of_wr W209).1
  have c211 := E198.wr W209
  have c212 := Fm198.other W209 (Or.inl n2198)
  have c213 := Fc198.other W209 (Or.inl n2198)
  have c214 := Ff198.other W209 (Or.inl n2198)
  have c215 := Fe198.other W209 (Or.inl n2198)
  have c216 := Fb198.other W209 (Or.inl n2198)
  have c217 := Vm198.other W209 n3198
  have pre219 : ∀ t, Steps p.tables e below (T209.setTop (mkF m 117 #[.val (.ref a1), .val (.long q2), .second, .val (.int p4), .val (.int p5)] [])) t → Steps p.tables e below (s₁.setTop (entryFrame m #[(.ref a1), (.long q2), (.int p4), (.int p5)] 5)) t := fun t kt => pre0 t (by
    show Steps p.tables e below (s₁.setTop (mkF m 0 #[.val (.ref a1), .val (.long q2), .second, .val (.int p4), .val (.int p5)] [])) _
    refine XS.aloadN X0.here hx rfl (hb hby d5_0) rfl rfl ?_
    refine st199 _ ?_
    refine XS.aloadN X199.here hx rfl (hb hby d5_4) rfl rfl ?_
    refine st200 _ ?_
    refine XS.icmpYes X200.here hx rfl (pc0 := 8) (pc' := 29) rfl (hb hby d5_8) rfl (feq (by decide : ¬ ((0 : Int32) = (1 : Int32)))).2 (by decide) (by decide) ?_
    refine XS.aloadN X200.here hx rfl (hb hby d5_29) rfl rfl ?_
    refine st201 _ ?_
    refine XS.aloadN X201.here hx rfl (hb hby d5_33) rfl rfl ?_
    refine st202 _ ?_
    refine XS.icmpNo X202.here hx rfl (hb hby d5_37) rfl (tlt (by decide : (0 : Int32) < (1 : Int32))).2.1 ?_
    refine XS.lloadN X202.here hx rfl (hb hby d5_40) rfl ?_
    refine XS.aloadN X202.here hx rfl (hb hby d5_41) rfl rfl ?_
    show Steps p.tables e below (T202.setTop (mkF m 42 #[.val (.ref a1), .val (.long q2), .second, .val (.int p4), .val (.int p5)] [(.ref a1), (.long q2)])) _
    refine st203 _ ?_
    refine XS.aloadN X203.here hx rfl (hb hby d5_45) rfl rfl ?_
    refine st204 _ ?_
    refine XS.iconst X204.here hx rfl (hb hby d5_49) ?_
    refine XS.isub X204.here hx rfl (hb hby d5_50) rfl ?_
    refine X204.laload hx (j := (0 : Int32)) (v := (.long x0)) (by rw [e204]; exact A205.1) (State.isArrayOf_alike hZ.alike A205.2.1) A205.2.2 hin205 hat205 (g := (mkF m 51 #[.val (.ref a1), .val (.long q2), .second, .val (.int p4), .val (.int p5)] [(.int (0 : Int32)), (.ref am198), (.long q2)])) rfl rfl (hb hby d5_51) _ ?_
    refine XS.lcmp X204.here hx rfl (hb hby d5_52) rfl ?_
    refine XS.ifNo X204.here hx rfl (hb hby d5_53) rfl ((if0 _ _).trans (flt (fun q => c0 ((lw_gt _ _).mp q))).2.2.1) ?_
    refine XS.aloadN X204.here hx rfl (hb hby d5_56) rfl rfl ?_
    refine st206 _ ?_
    refine XS.aloadN X206.here hx rfl (hb hby d5_60) rfl rfl ?_
    refine st207 _ ?_
    show Steps p.tables e below (T207.setTop (mkF m 64 #[.val (.ref a1), .val (.long q2), .second, .val (.int p4), .val (.int p5)] [(.int (1 : Int32)), (.ref ac198)])) _
    refine XS.iconst X207.here hx rfl (hb hby d5_64) ?_
    refine XS.isub X207.here hx rfl (hb hby d5_65) rfl ?_
    refine XS.iloadN X207.here hx rfl (hb hby d5_66) rfl ?_
    refine st209 _ ?_
    refine XS.goto X209.here hx rfl (pc0 := 68) (pc' := 117) rfl (hb hby d5_68) (by decide) (by decide) ?_
    exact kt)
  have hz : h0.size ≤ h209.size := Nat.le_trans (Nat.le_refl _) (Keep.of_wr W209).1
  have hQ : QCnt012o Z a1 q2 p4 p5 x0 x1 y0 y1 b h0 n0 none h209 _ := ⟨rfl, N209, hz, ⟨am198, ac198, km198, kc198, c211, c212, c213, c214, c215, c216, c217, V209, Ga198, Gm198, Gc198, n1198, n2198, n3198⟩⟩
  exact own_retV X209 hx Bd.notSynchronized Bd.returns (hb hby d5_117) pre219 (show QCnt012o Z a1 q2 p4 p5 x0 x1 y0 y1 b h0 n0 _ _ _ from (by rw [e209]; exact hQ)) (by decide) (by decide)
theorem d13_11 : decode prog_25_method_4_code 11 = .ok (.aload_n 0, 1) := by decide +kernel
theorem d13_12 : decode prog_25_method_4_code 12 = .ok (.getfield 9, 3) := by decide +kernel
theorem d13_15 : decode prog_25_method_4_code 15 = .ok (.aload_n 0, 1) := by decide +kernel
theorem d13_16 : decode prog_25_method_4_code 16 = .ok (.getfield 17, 3) := by decide +kernel
theorem d13_19 : decode prog_25_method_4_code 19 = .ok (.laload, 1) := by decide +kernel
theorem d13_20 : decode prog_25_method_4_code 20 = .ok (.lload_n 1, 1) := by decide +kernel
theorem d13_21 : decode prog_25_method_4_code 21 = .ok (.lcmp, 1) := by decide +kernel
theorem d13_22 : decode prog_25_method_4_code 22 = .ok (.ifCond .ge 29, 3) := by decide +kernel
theorem d13_25 : decode prog_25_method_4_code 25 = .ok (.aload_n 0, 1) := by decide +kernel
theorem d13_26 : decode prog_25_method_4_code 26 = .ok (.aload_n 0, 1) := by decide +kernel
theorem d13_27 : decode prog_25_method_4_code 27 = .ok (.getfield 13, 3) := by decide +kernel
theorem d13_30 : decode prog_25_method_4_code 30 = .ok (.aload_n 0, 1) := by decide +kernel
theorem d13_31 : decode prog_25_method_4_code 31 = .ok (.getfield 17, 3) := by decide +kernel
theorem d13_34 : decode prog_25_method_4_code 34 = .ok (.iaload, 1) := by decide +kernel
theorem d13_35 : decode prog_25_method_4_code 35 = .ok (.putfield 24, 3) := by decide +kernel
theorem d13_38 : decode prog_25_method_4_code 38 = .ok (.aload_n 0, 1) := by decide +kernel
theorem d13_39 : decode prog_25_method_4_code 39 = .ok (.dup, 1) := by decide +kernel
theorem d13_40 : decode prog_25_method_4_code 40 = .ok (.getfield 17, 3) := by decide +kernel
theorem d13_43 : decode prog_25_method_4_code 43 = .ok (.iconst 1, 1) := by decide +kernel
theorem d13_44 : decode prog_25_method_4_code 44 = .ok (.iadd, 1) := by decide +kernel
theorem d13_45 : decode prog_25_method_4_code 45 = .ok (.putfield 17, 3) := by decide +kernel
theorem own_sn_156 {Z : State} {a0 : Array Value} (hw : ∀ d ∈ tables_1, d.before a0 Z = true) : Jvm.RoadKit.slotOf Z "com/example/viral_counter/viralcounter/PostTrend" "minutes" "[J" ≠ Jvm.RoadKit.slotOf Z "com/example/viral_counter/viralcounter/PostTrend" "first" "I" := slot_ne (C := "com/example/viral_counter/viralcounter/PostTrend") (Or.inl (own_w hw 15 rfl)) (Or.inl (own_w hw 25 rfl)) (by decide) (t := (.array .long)) (t' := .int) (by decide) (by decide)
theorem own_sn_157 {Z : State} {a0 : Array Value} (hw : ∀ d ∈ tables_1, d.before a0 Z = true) : Jvm.RoadKit.slotOf Z "com/example/viral_counter/viralcounter/PostTrend" "counts" "[I" ≠ Jvm.RoadKit.slotOf Z "com/example/viral_counter/viralcounter/PostTrend" "first" "I" := slot_ne (C := "com/example/viral_counter/viralcounter/PostTrend") (Or.inl (own_w hw 18 rfl)) (Or.inl (own_w hw 25 rfl)) (by decide) (t := (.array .int)) (t' := .int) (by decide) (by decide)
theorem own_sn_158 {Z : State} {a0 : Array Value} (hw : ∀ d ∈ tables_1, d.before a0 Z = true) : Jvm.RoadKit.slotOf Z "com/example/viral_counter/viralcounter/PostTrend" "end" "I" ≠ Jvm.RoadKit.slotOf Z "com/example/viral_counter/viralcounter/PostTrend" "first" "I" := slot_ne (C := "com/example/viral_counter/viralcounter/PostTrend") (Or.inl (own_w hw 27 rfl)) (Or.inl (own_w hw 25 rfl)) (by decide) (t := .int) (t' := .int) (by decide) (by decide)
theorem own_sn_159 {Z : State} {a0 : Array Value} (hw : ∀ d ∈ tables_1, d.before a0 Z = true) : Jvm.RoadKit.slotOf Z "com/example/viral_counter/viralcounter/PostTrend" "before" "I" ≠ Jvm.RoadKit.slotOf Z "com/example/viral_counter/viralcounter/PostTrend" "first" "I" := slot_ne (C := "com/example/viral_counter/viralcounter/PostTrend") (Or.inl (own_w hw 34 rfl)) (Or.inl (own_w hw 25 rfl)) (by decide) (t := .int) (t' := .int) (by decide) (by decide)
theorem d13_48 : decode prog_25_method_4_code 48 = .ok (.goto (-48), 3) := by decide +kernel
def QFgt012_1 (Z : State) (a1 : Addr) (q2 : Int64) (x0 : Int64) (x1 : Int64) (y0 : Int32) (y1 : Int32) (b : Int32) (h0 : Heap) (n0 : Nat) (v : Option Value) (h : Heap) (L : List Loc) : Prop := v = none ∧ Fr n0 L ∧ h0.size ≤ h.size ∧ PT Z h n0 a1 (1 : Int32) (1 : Int32) (2 : Int32) [(.long x0), (.long x1)] [(.int y0), (.int y1)] y0
set_option maxRecDepth 65536 in
set_option maxHeartbeats 40000000 in
theorem rmFgt012_1 (l : Launch) (Z : State) (a0 : Array Value) (hw : ∀ d ∈ tables_1, d.before a0 Z = true) (ws : List Jvm.Cond) (a1 : Addr) (q2 : Int64) (x0 : Int64) (x1 : Int64) (y0 : Int32) (y1 : Int32) (b : Int32) (h0 : Heap) (n0 : Nat) (Z0 : n0 ≤ h0.size) (P0 : PT Z h0 n0 a1 (0 : Int32) (1 : Int32) (2 : Int32) [(.long x0), (.long x1)] [(.int y0), (.int y1)] b) (c0 : x0 < q2) :
    MetFree l own_y_113 (head1 (Jvm.Cond.code own_y_113 prog_25_method_4_code 3 none :: ws) ({ frames := 0, cells := 0, slots := 0, locals := 0 } : Room)) (fun a U => a = #[(.ref a1), (.long q2)] ∧ Z.Warmed39 U.vm ∧ U.heap = h0) (fun _ _ _ _ _ => True) (fun _ U o U' => ∃ v L, o = .returned v ∧ QFgt012_1 Z a1 q2 x0 x1 y0 y1 b h0 n0 v U'.heap L ∧ FrameEnd U o U' L ({ frames := 0, cells := 0, slots := 0, locals := 0 } : Room).cells ({ frames := 0, cells := 0, slots := 0, locals := 0 } : Room).slots) := by
  refine MetFree.of_bodySF (plainFor_of_name pn_2) hisR ?_
  intro p e s m args below meth c s₁ Bd hml0 hP hK
  obtain ⟨rfl, hZ, hh⟩ := hP
  have hx := Bd.exec
  have hby := Bd.bytes
  have hml : c.maxLocals = 3 := hml0
  have hown : s.vm.findClass "com/example/viral_counter/viralcounter/PostTrend" = some m.cls := findClass_of_methodNamed Bd.named
  have hnm := (name_of_methodNamed Bd.named Bd.method).1
  have X0 : Stand p l e ({ frames := 0, cells := 0, slots := 0, locals := 0 } : Room) s m #[(.ref a1), (.long q2)] below meth c s₁ [] 0 0 := Stand.of_body Bd
  have e0 : s₁.heap = h0 := by rw [← hh, Bd.state]; rfl
  have N0 := Fr.nil n0
  have pre0 : ∀ t, Steps p.tables e below (s₁.setTop (mkF m 0 #[.val (.ref a1), .val (.long q2), .second] [])) t → Steps p.tables e below (s₁.setTop (entryFrame m #[(.ref a1), (.long q2)] 3)) t := fun t k => castTop (ef_114 m a1 q2) k
  obtain ⟨am226, ac226, km226, kc226, E226, Fm226, Fc226, Ff226, Fe226, Fb226, Vm226, Vc226, Ga226, Gm226, Gc226, n1226, n2226, n3226⟩ := id P0
  have hz0 : h0.size ≤ h0.size := Nat.le_refl _
  obtain ⟨T227, X227, e227, st227⟩ := getF X0 hx hZ hown (host := "") (Or.inl (own_w hw 24 rfl)) Via.refl e0 Ff226 (g := (mkF m 1 #[.val (.ref a1), .val (.long q2), .second] [(.ref a1)])) rfl rfl (hb hby d13_1)
  obtain ⟨T228, X228, e228, st228⟩ := getF X227 hx hZ hown (host := "") (Or.inl (own_w hw 26 rfl)) Via.refl e227 Fe226 (g := (mkF m 5 #[.val (.ref a1), .val (.long q2), .second] [(.ref a1), (.int (0 : Int32))])) rfl rfl (hb hby d13_5)
  obtain ⟨T229, X229, e229, st229⟩ := getF X228 hx hZ hown (host := "") (Or.inl (own_w hw 14 rfl)) Via.refl e228 Fm226 (g := (mkF m 12 #[.val (.ref a1), .val (.long q2), .second] [(.ref a1)])) rfl rfl (hb hby d13_12)
  obtain ⟨T230, X230, e230, st230⟩ := getF X229 hx hZ hown (host := "") (Or.inl (own_w hw 24 rfl)) Via.refl e229 Ff226 (g := (mkF m 16 #[.val (.ref a1), .val (.long q2), .second] [(.ref a1), (.ref am226)])) rfl rfl (hb hby d13_16)
  obtain ⟨cl231, A231, q231, S231, M231, H231, J231⟩ := id Vm226
  have hin231 : ¬ ((0 : Int32) < 0 ∨ cl231.slots.size ≤ ((0 : Int32)).toNatClampNeg) := inb_of S231 ⟨by decide, by decide⟩
  have hat231 : cl231.slots[((0 : Int32)).toNatClampNeg]? = some (.long x0) := H231.at hin231 rfl
  obtain ⟨T232, X232, e232, st232⟩ := getF X230 hx hZ hown (host := "") (Or.inl (own_w hw 17 rfl)) Via.refl e230 Fc226 (g := (mkF m 27 #[.val (.ref a1), .val (.long q2), .second] [(.ref a1), (.ref a1)])) rfl rfl (hb hby d13_27)
  obtain ⟨T233, X233, e233, st233⟩ := getF X232 hx hZ hown (host := "") (Or.inl (own_w hw 24 rfl)) Via.refl e232 Ff226 (g := (mkF m 31 #[.val (.ref a1), .val (.long q2), .second] [(.ref a1), (.ref ac226), (.ref a1)])) rfl rfl (hb hby d13_31)
  obtain ⟨cl234, A234, q234, S234, M234, H234, J234⟩ := id Vc226
  have hin234 : ¬ ((0 : Int32) < 0 ∨ cl234.slots.size ≤ ((0 : Int32)).toNatClampNeg) := inb_of S234 ⟨by decide, by decide⟩
  have hat234 : cl234.slots[((0 : Int32)).toNatClampNeg]? = some (.int y0) := H234.at hin234 rfl
  obtain ⟨T235, h235, X235, e235, W235, st235⟩ := putF X233 hx hZ hown (host := "") (Or.inl (own_w hw 33 rfl)) Via.refl e233 Fb226 E226 (Or.inl (own_w hw 34 rfl)) (own_w hw 5 rfl) (ty := .int) (by decide) rfl rfl (g := (mkF m 35 #[.val (.ref a1), .val (.long q2), .second] [(.int y0), (.ref a1)])) rfl rfl (hb hby d13_35)
  have Fw235 := Fb226.same W235
  have N235 := Fr.snoc X235 N0 Ga226
  have z236 : n0 ≤ h235.size := Nat.le_trans Z0 (Keep.of_wr W235).1
  have c237 := E226.wr W235
  have c238 := Fm226.other W235 (Or.inr (own_sn_65 hw))
  have c239 := Fc226.other W235 (Or.inr (own_sn_66 hw))
  have c240 := Ff226.other W235 (Or.inr (own_sn_67 hw))
  have c241 := Fe226.other W235 (Or.inr (own_sn_68 hw))
  have c243 := Vm226.other W235 (Ne.symm n1226)
  have c244 := Vc226.other W235 (Ne.symm n2226)
  obtain ⟨T245, X245, e245, st245⟩ := getF X235 hx hZ hown (host := "") (Or.inl (own_w hw 24 rfl)) Via.refl e235 c240 (g := (mkF m 40 #[.val (.ref a1), .val (.long q2), .second] [(.ref a1), (.ref a1)])) rfl rfl (hb hby d13_40)
  obtain ⟨T246, h246, X246, e246, W246, st246⟩ := putF X245 hx hZ hown (host := "") (Or.inl (own_w hw 24 rfl)) Via.refl e245 c240 c237 (Or.inl (own_w hw 25 rfl)) (own_w hw 5 rfl) (ty := .int) (by decide) rfl rfl (g := (mkF m 45 #[.val (.ref a1), .val (.long q2), .second] [(.int (1 : Int32)), (.ref a1)])) rfl rfl (hb hby d13_45)
  have Fw246 := c240.same W246
  have N246 := Fr.snoc X246 N235 Ga226
  have z247 : n0 ≤ h246.size := Nat.le_trans z236 (Keep.of_wr W246).1
  have c248 := c237.wr W246
  have c249 := c238.other W246 (Or.inr (own_sn_156 hw))
  have c250 := c239.other W246 (Or.inr (own_sn_157 hw))
  have c252 := c241.other W246 (Or.inr (own_sn_158 hw))
  have c253 := c243.other W246 (Ne.symm n1226)
  have c254 := c244.other W246 (Ne.symm n2226)
  have c255 := Fw235.other W246 (Or.inr (own_sn_159 hw))
  obtain ⟨T256, X256, e256, st256⟩ := getF X246 hx hZ hown (host := "") (Or.inl (own_w hw 24 rfl)) Via.refl e246 Fw246 (g := (mkF m 1 #[.val (.ref a1), .val (.long q2), .second] [(.ref a1)])) rfl rfl (hb hby d13_1)
  obtain ⟨T257, X257, e257, st257⟩ := getF X256 hx hZ hown (host := "") (Or.inl (own_w hw 26 rfl)) Via.refl e256 c252 (g := (mkF m 5 #[.val (.ref a1), .val (.long q2), .second] [(.ref a1), (.int (1 : Int32))])) rfl rfl (hb hby d13_5)
  have pre258 : ∀ t, Steps p.tables e below (T257.setTop (mkF m 51 #[.val (.ref a1), .val (.long q2), .second] [])) t → Steps p.tables e below (s₁.setTop (entryFrame m #[(.ref a1), (.long q2)] 3)) t := fun t kt => pre0 t (by
    show Steps p.tables e below (s₁.setTop (mkF m 0 #[.val (.ref a1), .val (.long q2), .second] [])) _
    refine XS.aloadN X0.here hx rfl (hb hby d13_0) rfl rfl ?_
    refine st227 _ ?_
    refine XS.aloadN X227.here hx rfl (hb hby d13_4) rfl rfl ?_
    refine st228 _ ?_
    refine XS.icmpNo X228.here hx rfl (hb hby d13_8) rfl (tlt (by decide : (0 : Int32) < (1 : Int32))).2.1 ?_
    refine XS.aloadN X228.here hx rfl (hb hby d13_11) rfl rfl ?_
    refine st229 _ ?_
    refine XS.aloadN X229.here hx rfl (hb hby d13_15) rfl rfl ?_
    refine st230 _ ?_
    refine X230.laload hx (j := (0 : Int32)) (v := (.long x0)) (by rw [e230]; exact A231.1) (State.isArrayOf_alike hZ.alike A231.2.1) A231.2.2 hin231 hat231 (g := (mkF m 19 #[.val (.ref a1), .val (.long q2), .second] [(.int (0 : Int32)), (.ref am226)])) rfl rfl (hb hby d13_19) _ ?_
    refine XS.lloadN X230.here hx rfl (hb hby d13_20) rfl ?_
    refine XS.lcmp X230.here hx rfl (hb hby d13_21) rfl ?_
    show Steps p.tables e below (T230.setTop (mkF m 22 #[.val (.ref a1), .val (.long q2), .second] [(.int (lcmpW x0 q2))])) _
    refine XS.ifNo X230.here hx rfl (hb hby d13_22) rfl ((if0 _ _).trans (tlt ((lw_lt _ _).mpr c0)).2.1) ?_
    refine XS.aloadN X230.here hx rfl (hb hby d13_25) rfl rfl ?_
    refine XS.aloadN X230.here hx rfl (hb hby d13_26) rfl rfl ?_
    refine st232 _ ?_
    refine XS.aloadN X232.here hx rfl (hb hby d13_30) rfl rfl ?_
    refine st233 _ ?_
    refine X233.iaload hx (j := (0 : Int32)) (v := (.int y0)) (by rw [e233]; exact A234.1) (State.isArrayOf_alike hZ.alike A234.2.1) A234.2.2 hin234 hat234 (g := (mkF m 34 #[.val (.ref a1), .val (.long q2), .second] [(.int (0 : Int32)), (.ref ac226), (.ref a1)])) rfl rfl (hb hby d13_34) _ ?_
    refine st235 _ ?_
    refine XS.aloadN X235.here hx rfl (hb hby d13_38) rfl rfl ?_
    refine XS.dup X235.here hx rfl (hb hby d13_39) rfl rfl ?_
    refine st245 _ ?_
    refine XS.iconst X245.here hx rfl (hb hby d13_43) ?_
    show Steps p.tables e below (T245.setTop (mkF m 44 #[.val (.ref a1), .val (.long q2), .second] [(.int (1 : Int32)), (.int (0 : Int32)), (.ref a1)])) _
    refine XS.iadd X245.here hx rfl (hb hby d13_44) rfl ?_
    refine st246 _ ?_
    refine XS.goto X246.here hx rfl (pc0 := 48) (pc' := 0) rfl (hb hby d13_48) (by decide) (by decide) ?_
    refine XS.aloadN X246.here hx rfl (hb hby d13_0) rfl rfl ?_
    refine st256 _ ?_
    refine XS.aloadN X256.here hx rfl (hb hby d13_4) rfl rfl ?_
    refine st257 _ ?_
    refine XS.icmpYes X257.here hx rfl (pc0 := 8) (pc' := 51) rfl (hb hby d13_8) rfl (flt (by decide : ¬ ((1 : Int32) < (1 : Int32)))).2.1 (by decide) (by decide) ?_
    exact kt)
  have hz : h0.size ≤ h246.size := Nat.le_trans (Nat.le_trans (Nat.le_refl _) (Keep.of_wr W235).1) (Keep.of_wr W246).1
  have hQ : QFgt012_1 Z a1 q2 x0 x1 y0 y1 b h0 n0 none h246 _ := ⟨rfl, N246, hz, ⟨am226, ac226, km226, kc226, c248, c249, c250, Fw246, c252, c255, c253, c254, Ga226, Gm226, Gc226, n1226, n2226, n3226⟩⟩
  exact own_retV X257 hx Bd.notSynchronized Bd.returns (hb hby d13_51) pre258 (show QFgt012_1 Z a1 q2 x0 x1 y0 y1 b h0 n0 _ _ _ from (by rw [e257]; exact hQ)) (by decide) (by decide)
def QCnt112a (Z : State) (a1 : Addr) (q2 : Int64) (p4 p5 : Int32) (x0 : Int64) (x1 : Int64) (y0 : Int32) (y1 : Int32) (b : Int32) (h0 : Heap) (n0 : Nat) (v : Option Value) (h : Heap) (L : List Loc) : Prop := v = none ∧ Fr n0 L ∧ h0.size ≤ h.size ∧ PT Z h n0 a1 (1 : Int32) (2 : Int32) (2 : Int32) [(.long x0), (.long q2)] [(.int y0), (.int p4)] (if p5 = (0 : Int32) then (p4 + (1 : Int32)) else (p4 - (1 : Int32)))
set_option maxRecDepth 65536 in
set_option maxHeartbeats 40000000 in
theorem rmCnt112a (l : Launch) (Z : State) (a0 : Array Value) (hw : ∀ d ∈ tables_1, d.before a0 Z = true) (ws : List Jvm.Cond) (a1 : Addr) (q2 : Int64) (p4 p5 : Int32) (x0 : Int64) (x1 : Int64) (y0 : Int32) (y1 : Int32) (b : Int32) (h0 : Heap) (n0 : Nat) (Z0 : n0 ≤ h0.size) (P0 : PT Z h0 n0 a1 (1 : Int32) (1 : Int32) (2 : Int32) [(.long x0), (.long x1)] [(.int y0), (.int y1)] b) :
    MetFree l own_y_103 (head1 (Jvm.Cond.code own_y_103 prog_25_method_2_code 5 none :: ws) ({ frames := 0, cells := 0, slots := 0, locals := 0 } : Room)) (fun a U => a = #[(.ref a1), (.long q2), (.int p4), (.int p5)] ∧ Z.Warmed39 U.vm ∧ U.heap = h0) (fun _ _ _ _ _ => True) (fun _ U o U' => ∃ v L, o = .returned v ∧ QCnt112a Z a1 q2 p4 p5 x0 x1 y0 y1 b h0 n0  v U'.heap L ∧ FrameEnd U o U' L ({ frames := 0, cells := 0, slots := 0, locals := 0 } : Room).cells ({ frames := 0, cells := 0, slots := 0, locals := 0 } : Room).slots) := by
  refine MetFree.of_bodySF (plainFor_of_name pn_2) hisR ?_
  intro p e s m args below meth c s₁ Bd hml0 hP hK
  obtain ⟨rfl, hZ, hh⟩ := hP
  have hx := Bd.exec
  have hby := Bd.bytes
  have hml : c.maxLocals = 5 := hml0
  have hown : s.vm.findClass "com/example/viral_counter/viralcounter/PostTrend" = some m.cls := findClass_of_methodNamed Bd.named
  have hnm := (name_of_methodNamed Bd.named Bd.method).1
  have X0 : Stand p l e ({ frames := 0, cells := 0, slots := 0, locals := 0 } : Room) s m #[(.ref a1), (.long q2), (.int p4), (.int p5)] below meth c s₁ [] 0 0 := Stand.of_body Bd
  have e0 : s₁.heap = h0 := by rw [← hh, Bd.state]; rfl
  have N0 := Fr.nil n0
  have pre0 : ∀ t, Steps p.tables e below (s₁.setTop (mkF m 0 #[.val (.ref a1), .val (.long q2), .second, .val (.int p4), .val (.int p5)] [])) t → Steps p.tables e below (s₁.setTop (entryFrame m #[(.ref a1), (.long q2), (.int p4), (.int p5)] 5)) t := fun t k => castTop (ef_104 m a1 q2 p4 p5) k
  obtain ⟨am266, ac266, km266, kc266, E266, Fm266, Fc266, Ff266, Fe266, Fb266, Vm266, Vc266, Ga266, Gm266, Gc266, n1266, n2266, n3266⟩ := id P0
  obtain ⟨T267, X267, e267, st267⟩ := getF X0 hx hZ hown (host := "") (Or.inl (own_w hw 24 rfl)) Via.refl e0 Ff266 (g := (mkF m 1 #[.val (.ref a1), .val (.long q2), .second, .val (.int p4), .val (.int p5)] [(.ref a1)])) rfl rfl (hb hby d5_1)
  obtain ⟨T268, X268, e268, st268⟩ := getF X267 hx hZ hown (host := "") (Or.inl (own_w hw 26 rfl)) Via.refl e267 Fe266 (g := (mkF m 5 #[.val (.ref a1), .val (.long q2), .second, .val (.int p4), .val (.int p5)] [(.ref a1), (.int (1 : Int32))])) rfl rfl (hb hby d5_5)
  have pre269 : ∀ t, Steps p.tables e below (T268.setTop (mkF m 14 #[.val (.ref a1), .val (.long q2), .second, .val (.int p4), .val (.int p5)] [(.int p5), (.ref a1)])) t → Steps p.tables e below (s₁.setTop (entryFrame m #[(.ref a1), (.long q2), (.int p4), (.int p5)] 5)) t := fun t kt => pre0 t (by
    show Steps p.tables e below (s₁.setTop (mkF m 0 #[.val (.ref a1), .val (.long q2), .second, .val (.int p4), .val (.int p5)] [])) _
    refine XS.aloadN X0.here hx rfl (hb hby d5_0) rfl rfl ?_
    refine st267 _ ?_
    refine XS.aloadN X267.here hx rfl (hb hby d5_4) rfl rfl ?_
    refine st268 _ ?_
    refine XS.icmpNo X268.here hx rfl (hb hby d5_8) rfl (teq (by decide : (1 : Int32) = (1 : Int32))).2 ?_
    refine XS.aloadN X268.here hx rfl (hb hby d5_11) rfl rfl ?_
    refine XS.iload X268.here hx rfl (hb hby d5_12) rfl ?_
    exact kt)
  obtain ⟨bb, hbb⟩ : ∃ z : Int32, z = (if p5 = (0 : Int32) then (p4 + (1 : Int32)) else (p4 - (1 : Int32))) := ⟨_, rfl⟩
  have pre271 : ∀ t, Steps p.tables e below (T268.setTop (mkF m 26 #[.val (.ref a1), .val (.long q2), .second, .val (.int p4), .val (.int p5)] [(.int bb), (.ref a1)])) t → Steps p.tables e below (s₁.setTop (entryFrame m #[(.ref a1), (.long q2), (.int p4), (.int p5)] 5)) t := fun t kt => pre269 t (by
    by_cases hc270 : p5 = (0 : Int32)
    case pos =>
      show Steps p.tables e below (T268.setTop (mkF m 14 #[.val (.ref a1), .val (.long q2), .second, .val (.int p4), .val (.int p5)] [(.int p5), (.ref a1)])) _
      refine XS.ifYes X268.here hx rfl (pc0 := 14) (pc' := 23) rfl (hb hby d5_14) rfl ((if0 _ _).trans (teq hc270).1) (by decide) (by decide) ?_
      refine XS.iloadN X268.here hx rfl (hb hby d5_23) rfl ?_
      refine XS.iconst X268.here hx rfl (hb hby d5_24) ?_
      refine XS.iadd X268.here hx rfl (hb hby d5_25) rfl ?_
      rw [show bb = (p4 + (1 : Int32)) from (hbb.trans (if_pos hc270))] at kt
      exact kt
    case neg =>
      show Steps p.tables e below (T268.setTop (mkF m 14 #[.val (.ref a1), .val (.long q2), .second, .val (.int p4), .val (.int p5)] [(.int p5), (.ref a1)])) _
      refine XS.ifNo X268.here hx rfl (hb hby d5_14) rfl ((if0 _ _).trans (feq hc270).1) ?_
      refine XS.iloadN X268.here hx rfl (hb hby d5_17) rfl ?_
      refine XS.iconst X268.here hx rfl (hb hby d5_18) ?_
      refine XS.isub X268.here hx rfl (hb hby d5_19) rfl ?_
      refine XS.goto X268.here hx rfl (pc0 := 20) (pc' := 26) rfl (hb hby d5_20) (by decide) (by decide) ?_
      rw [show bb = (p4 - (1 : Int32)) from (hbb.trans (if_neg hc270))] at kt
      exact kt)
  obtain ⟨T272, h272, X272, e272, W272, st272⟩ := putF X268 hx hZ hown (host := "") (Or.inl (own_w hw 33 rfl)) Via.refl e268 Fb266 E266 (Or.inl (own_w hw 34 rfl)) (own_w hw 5 rfl) (ty := .int) (by decide) rfl rfl (g := (mkF m 26 #[.val (.ref a1), .val (.long q2), .second, .val (.int p4), .val (.int p5)] [(.int bb), (.ref a1)])) rfl rfl (hb hby d5_26)
  have Fw272 := Fb266.same W272
  have N272 := Fr.snoc X272 N0 Ga266
  have z273 : n0 ≤ h272.size := Nat.le_trans Z0 (Keep.of_wr W272).1
  have c274 := E266.wr W272
  have c275 := Fm266.other W272 (Or.inr (own_sn_65 hw))
  have c276 := Fc266.other W272 (Or.inr (own_sn_66 hw))
  have c277 := Ff266.other W272 (Or.inr (own_sn_67 hw))
  have c278 := Fe266.other W272 (Or.inr (own_sn_68 hw))
  have c280 := Vm266.other W272 (Ne.symm n1266)
  have c281 := Vc266.other W272 (Ne.symm n2266)
  obtain ⟨T282, X282, e282, st282⟩ := getF X272 hx hZ hown (host := "") (Or.inl (own_w hw 24 rfl)) Via.refl e272 c277 (g := (mkF m 30 #[.val (.ref a1), .val (.long q2), .second, .val (.int p4), .val (.int p5)] [(.ref a1)])) rfl rfl (hb hby d5_30)
  obtain ⟨T283, X283, e283, st283⟩ := getF X282 hx hZ hown (host := "") (Or.inl (own_w hw 26 rfl)) Via.refl e282 c278 (g := (mkF m 34 #[.val (.ref a1), .val (.long q2), .second, .val (.int p4), .val (.int p5)] [(.ref a1), (.int (1 : Int32))])) rfl rfl (hb hby d5_34)
  obtain ⟨T284, X284, e284, st284⟩ := getF X283 hx hZ hown (host := "") (Or.inl (own_w hw 26 rfl)) Via.refl e283 c278 (g := (mkF m 72 #[.val (.ref a1), .val (.long q2), .second, .val (.int p4), .val (.int p5)] [(.ref a1)])) rfl rfl (hb hby d5_72)
  obtain ⟨T285, X285, e285, st285⟩ := getF X284 hx hZ hown (host := "") (Or.inl (own_w hw 14 rfl)) Via.refl e284 c275 (g := (mkF m 76 #[.val (.ref a1), .val (.long q2), .second, .val (.int p4), .val (.int p5)] [(.ref a1), (.int (1 : Int32))])) rfl rfl (hb hby d5_76)
  obtain ⟨cl286, A286, q286, S286, M286, H286, J286⟩ := id c280
  obtain ⟨T287, X287, e287, st287⟩ := getF X285 hx hZ hown (host := "") (Or.inl (own_w hw 14 rfl)) Via.refl e285 c275 (g := (mkF m 88 #[.val (.ref a1), .val (.long q2), .second, .val (.int p4), .val (.int p5)] [(.ref a1)])) rfl rfl (hb hby d5_88)
  obtain ⟨T288, X288, e288, st288⟩ := getF X287 hx hZ hown (host := "") (Or.inl (own_w hw 26 rfl)) Via.refl e287 c278 (g := (mkF m 92 #[.val (.ref a1), .val (.long q2), .second, .val (.int p4), .val (.int p5)] [(.ref a1), (.ref am266)])) rfl rfl (hb hby d5_92)
  obtain ⟨cl289, Ar289, q289, S289, M289, H289, J289⟩ := id c280
  have hin289 : ¬ ((1 : Int32) < 0 ∨ cl289.slots.size ≤ ((1 : Int32)).toNatClampNeg) := inb_of S289 ⟨by decide, by decide⟩
  obtain ⟨T290, h290, X290, e290, W290, st290⟩ := stJ X288 hx hZ e288 Ar289 (j := (1 : Int32)) hin289 (g := (mkF m 96 #[.val (.ref a1), .val (.long q2), .second, .val (.int p4), .val (.int p5)] [(.long q2), (.int (1 : Int32)), (.ref am266)])) rfl rfl (hb hby d5_96)
  have V290 : Arv Z h290 am266 km266 .long (2 : Int32) [(.long x0), (.long q2)] (.long (0 : Int64)) := Arv.set Ar289 q289 S289 M289 H289 J289 rfl W290 1 rfl (Nat.le_of_ble_eq_true rfl)
  have N290 := Fr.snoc X290 N272 Gm266
  have z291 : n0 ≤ h290.size := Nat.le_trans z273 (Keep.of_wr W290).1
  have c292 := c274.wr W290
  have c293 := c275.other W290 (Or.inl n1266)
  have c294 := c276.other W290 (Or.inl n1266)
  have c295 := c277.other W290 (Or.inl n1266)
  have c296 := c278.other W290 (Or.inl n1266)
  have c298 := c281.other W290 (Ne.symm n3266)
  have c299 := Fw272.other W290 (Or.inl n1266)
  obtain ⟨T300, X300, e300, st300⟩ := getF X290 hx hZ hown (host := "") (Or.inl (own_w hw 17 rfl)) Via.refl e290 c294 (g := (mkF m 98 #[.val (.ref a1), .val (.long q2), .second, .val (.int p4), .val (.int p5)] [(.ref a1)])) rfl rfl (hb hby d5_98)
  obtain ⟨T301, X301, e301, st301⟩ := getF X300 hx hZ hown (host := "") (Or.inl (own_w hw 26 rfl)) Via.refl e300 c296 (g := (mkF m 102 #[.val (.ref a1), .val (.long q2), .second, .val (.int p4), .val (.int p5)] [(.ref a1), (.ref ac266)])) rfl rfl (hb hby d5_102)
  obtain ⟨cl302, Ar302, q302, S302, M302, H302, J302⟩ := id c298
  have hin302 : ¬ ((1 : Int32) < 0 ∨ cl302.slots.size ≤ ((1 : Int32)).toNatClampNeg) := inb_of S302 ⟨by decide, by decide⟩
  obtain ⟨T303, h303, X303, e303, W303, st303⟩ := stI X301 hx hZ e301 Ar302 (j := (1 : Int32)) hin302 (g := (mkF m 106 #[.val (.ref a1), .val (.long q2), .second, .val (.int p4), .val (.int p5)] [(.int p4), (.int (1 : Int32)), (.ref ac266)])) rfl rfl (hb hby d5_106)
  have V303 : Arv Z h303 ac266 kc266 .int (2 : Int32) [(.int y0), (.int p4)] (.int (0 : Int32)) := Arv.set Ar302 q302 S302 M302 H302 J302 rfl W303 1 rfl (Nat.le_of_ble_eq_true rfl)
  have N303 := Fr.snoc X303 N290 Gc266
  have z304 : n0 ≤ h303.size := Nat.le_trans z291 (Keep.of_wr W303).1
  have c305 := c292.wr W303
  have c306 := c293.other W303 (Or.inl n2266)
  have c307 := c294.other W303 (Or.inl n2266)
  have c308 := c295.other W303 (Or.inl n2266)
  have c309 := c296.other W303 (Or.inl n2266)
  have c311 := c299.other W303 (Or.inl n2266)
  have c312 := V290.other W303 n3266
  obtain ⟨T313, X313, e313, st313⟩ := getF X303 hx hZ hown (host := "") (Or.inl (own_w hw 26 rfl)) Via.refl e303 c309 (g := (mkF m 109 #[.val (.ref a1), .val (.long q2), .second, .val (.int p4), .val (.int p5)] [(.ref a1), (.ref a1)])) rfl rfl (hb hby d5_109)
  obtain ⟨T314, h314, X314, e314, W314, st314⟩ := putF X313 hx hZ hown (host := "") (Or.inl (own_w hw 26 rfl)) Via.refl e313 c309 c305 (Or.inl (own_w hw 27 rfl)) (own_w hw 5 rfl) (ty := .int) (by decide) rfl rfl (g := (mkF m 114 #[.val (.ref a1), .val (.long q2), .second, .val (.int p4), .val (.int p5)] [(.int (2 : Int32)), (.ref a1)])) rfl rfl (hb hby d5_114)
  have Fw314 := c309.same W314
  have N314 := Fr.snoc X314 N303 Ga266
  have z315 : n0 ≤ h314.size := Nat.le_trans z304 (Keep.of_wr W314).1
  have c316 := c305.wr W314
  have c317 := c306.other W314 (Or.inr (own_sn_98 hw))
  have c318 := c307.other W314 (Or.inr (own_sn_99 hw))
  have c319 := c308.other W314 (Or.inr (own_sn_100 hw))
  have c321 := c311.other W314 (Or.inr (own_sn_101 hw))
  have c322 := c312.other W314 (Ne.symm n1266)
  have c323 := V303.other W314 (Ne.symm n2266)
  have pre324 : ∀ t, Steps p.tables e below (T314.setTop (mkF m 117 #[.val (.ref a1), .val (.long q2), .second, .val (.int p4), .val (.int p5)] [])) t → Steps p.tables e below (s₁.setTop (entryFrame m #[(.ref a1), (.long q2), (.int p4), (.int p5)] 5)) t := fun t kt => pre271 t (by
    show Steps p.tables e below (T268.setTop (mkF m 26 #[.val (.ref a1), .val (.long q2), .second, .val (.int p4), .val (.int p5)] [(.int bb), (.ref a1)])) _
    refine st272 _ ?_
    refine XS.aloadN X272.here hx rfl (hb hby d5_29) rfl rfl ?_
    refine st282 _ ?_
    refine XS.aloadN X282.here hx rfl (hb hby d5_33) rfl rfl ?_
    refine st283 _ ?_
    refine XS.icmpYes X283.here hx rfl (pc0 := 37) (pc' := 71) rfl (hb hby d5_37) rfl (flt (by decide : ¬ ((1 : Int32) < (1 : Int32)))).2.1 (by decide) (by decide) ?_
    refine XS.aloadN X283.here hx rfl (hb hby d5_71) rfl rfl ?_
    refine st284 _ ?_
    refine XS.aloadN X284.here hx rfl (hb hby d5_75) rfl rfl ?_
    refine st285 _ ?_
    refine X285.arraylength hx (by rw [e285]; exact A286.1) (State.isArrayOf_alike hZ.alike A286.2.1) (g := (mkF m 79 #[.val (.ref a1), .val (.long q2), .second, .val (.int p4), .val (.int p5)] [(.ref am266), (.int (1 : Int32))])) rfl rfl (hb hby d5_79) _ ?_
    rw [len_of S286 M286]
    refine XS.icmpYes X285.here hx rfl (pc0 := 80) (pc' := 87) rfl (hb hby d5_80) rfl (feq (by decide : ¬ ((1 : Int32) = (2 : Int32)))).2 (by decide) (by decide) ?_
    show Steps p.tables e below (T285.setTop (mkF m 87 #[.val (.ref a1), .val (.long q2), .second, .val (.int p4), .val (.int p5)] [])) _
    refine XS.aloadN X285.here hx rfl (hb hby d5_87) rfl rfl ?_
    refine st287 _ ?_
    refine XS.aloadN X287.here hx rfl (hb hby d5_91) rfl rfl ?_
    refine st288 _ ?_
    refine XS.lloadN X288.here hx rfl (hb hby d5_95) rfl ?_
    refine st290 _ ?_
    refine XS.aloadN X290.here hx rfl (hb hby d5_97) rfl rfl ?_
    refine st300 _ ?_
    refine XS.aloadN X300.here hx rfl (hb hby d5_101) rfl rfl ?_
    refine st301 _ ?_
    refine XS.iloadN X301.here hx rfl (hb hby d5_105) rfl ?_
    refine st303 _ ?_
    show Steps p.tables e below (T303.setTop (mkF m 107 #[.val (.ref a1), .val (.long q2), .second, .val (.int p4), .val (.int p5)] [])) _
    refine XS.aloadN X303.here hx rfl (hb hby d5_107) rfl rfl ?_
    refine XS.dup X303.here hx rfl (hb hby d5_108) rfl rfl ?_
    refine st313 _ ?_
    refine XS.iconst X313.here hx rfl (hb hby d5_112) ?_
    refine XS.iadd X313.here hx rfl (hb hby d5_113) rfl ?_
    refine st314 _ ?_
    exact kt)
  have hz : h0.size ≤ h314.size := Nat.le_trans (Nat.le_trans (Nat.le_trans (Nat.le_trans (Nat.le_refl _) (Keep.of_wr W272).1) (Keep.of_wr W290).1) (Keep.of_wr W303).1) (Keep.of_wr W314).1
  have hP : PT Z h314 n0 a1 (1 : Int32) (2 : Int32) (2 : Int32) [(.long x0), (.long q2)] [(.int y0), (.int p4)] bb := ⟨am266, ac266, km266, kc266, c316, c317, c318, c319, Fw314, c321, c322, c323, Ga266, Gm266, Gc266, n1266, n2266, n3266⟩
  rw [hbb] at hP
  have hQ : QCnt112a Z a1 q2 p4 p5 x0 x1 y0 y1 b h0 n0 none h314 _ := ⟨rfl, N314, hz, hP⟩
  exact own_retV X314 hx Bd.notSynchronized Bd.returns (hb hby d5_117) pre324 (show QCnt112a Z a1 q2 p4 p5 x0 x1 y0 y1 b h0 n0 _ _ _ from (by rw [e314]; exact hQ)) (by decide) (by decide)
def QFgt012_0 (Z : State) (a1 : Addr) (q2 : Int64) (x0 : Int64) (x1 : Int64) (y0 : Int32) (y1 : Int32) (b : Int32) (h0 : Heap) (n0 : Nat) (v : Option Value) (h : Heap) (L : List Loc) : Prop := v = none ∧ Fr n0 L ∧ h0.size ≤ h.size ∧ PT Z h n0 a1 (0 : Int32) (1 : Int32) (2 : Int32) [(.long x0), (.long x1)] [(.int y0), (.int y1)] b
set_option maxRecDepth 65536 in
set_option maxHeartbeats 40000000 in
theorem rmFgt012_0 (l : Launch) (Z : State) (a0 : Array Value) (hw : ∀ d ∈ tables_1, d.before a0 Z = true) (ws : List Jvm.Cond) (a1 : Addr) (q2 : Int64) (x0 : Int64) (x1 : Int64) (y0 : Int32) (y1 : Int32) (b : Int32) (h0 : Heap) (n0 : Nat) (Z0 : n0 ≤ h0.size) (P0 : PT Z h0 n0 a1 (0 : Int32) (1 : Int32) (2 : Int32) [(.long x0), (.long x1)] [(.int y0), (.int y1)] b) (c0 : ¬ (x0 < q2)) :
    MetFree l own_y_113 (head1 (Jvm.Cond.code own_y_113 prog_25_method_4_code 3 none :: ws) ({ frames := 0, cells := 0, slots := 0, locals := 0 } : Room)) (fun a U => a = #[(.ref a1), (.long q2)] ∧ Z.Warmed39 U.vm ∧ U.heap = h0) (fun _ _ _ _ _ => True) (fun _ U o U' => ∃ v L, o = .returned v ∧ QFgt012_0 Z a1 q2 x0 x1 y0 y1 b h0 n0 v U'.heap L ∧ FrameEnd U o U' L ({ frames := 0, cells := 0, slots := 0, locals := 0 } : Room).cells ({ frames := 0, cells := 0, slots := 0, locals := 0 } : Room).slots) := by
  refine MetFree.of_bodySF (plainFor_of_name pn_2) hisR ?_
  intro p e s m args below meth c s₁ Bd hml0 hP hK
  obtain ⟨rfl, hZ, hh⟩ := hP
  have hx := Bd.exec
  have hby := Bd.bytes
  have hml : c.maxLocals = 3 := hml0
  have hown : s.vm.findClass "com/example/viral_counter/viralcounter/PostTrend" = some m.cls := findClass_of_methodNamed Bd.named
  have hnm := (name_of_methodNamed Bd.named Bd.method).1
  have X0 : Stand p l e ({ frames := 0, cells := 0, slots := 0, locals := 0 } : Room) s m #[(.ref a1), (.long q2)] below meth c s₁ [] 0 0 := Stand.of_body Bd
  have e0 : s₁.heap = h0 := by rw [← hh, Bd.state]; rfl
  have N0 := Fr.nil n0
  have pre0 : ∀ t, Steps p.tables e below (s₁.setTop (mkF m 0 #[.val (.ref a1), .val (.long q2), .second] [])) t → Steps p.tables e below (s₁.setTop (entryFrame m #[(.ref a1), (.long q2)] 3)) t := fun t k => castTop (ef_114 m a1 q2) k
  obtain ⟨am329, ac329, km329, kc329, E329, Fm329, Fc329, Ff329, Fe329, Fb329, Vm329, Vc329, Ga329, Gm329, Gc329, n1329, n2329, n3329⟩ := id P0
  have hz0 : h0.size ≤ h0.size := Nat.le_refl _
  obtain ⟨T330, X330, e330, st330⟩ := getF X0 hx hZ hown (host := "") (Or.inl (own_w hw 24 rfl)) Via.refl e0 Ff329 (g := (mkF m 1 #[.val (.ref a1), .val (.long q2), .second] [(.ref a1)])) rfl rfl (hb hby d13_1)
  obtain ⟨T331, X331, e331, st331⟩ := getF X330 hx hZ hown (host := "") (Or.inl (own_w hw 26 rfl)) Via.refl e330 Fe329 (g := (mkF m 5 #[.val (.ref a1), .val (.long q2), .second] [(.ref a1), (.int (0 : Int32))])) rfl rfl (hb hby d13_5)
  obtain ⟨T332, X332, e332, st332⟩ := getF X331 hx hZ hown (host := "") (Or.inl (own_w hw 14 rfl)) Via.refl e331 Fm329 (g := (mkF m 12 #[.val (.ref a1), .val (.long q2), .second] [(.ref a1)])) rfl rfl (hb hby d13_12)
  obtain ⟨T333, X333, e333, st333⟩ := getF X332 hx hZ hown (host := "") (Or.inl (own_w hw 24 rfl)) Via.refl e332 Ff329 (g := (mkF m 16 #[.val (.ref a1), .val (.long q2), .second] [(.ref a1), (.ref am329)])) rfl rfl (hb hby d13_16)
  obtain ⟨cl334, A334, q334, S334, M334, H334, J334⟩ := id Vm329
  have hin334 : ¬ ((0 : Int32) < 0 ∨ cl334.slots.size ≤ ((0 : Int32)).toNatClampNeg) := inb_of S334 ⟨by decide, by decide⟩
  have hat334 : cl334.slots[((0 : Int32)).toNatClampNeg]? = some (.long x0) := H334.at hin334 rfl
  have pre335 : ∀ t, Steps p.tables e below (T333.setTop (mkF m 51 #[.val (.ref a1), .val (.long q2), .second] [])) t → Steps p.tables e below (s₁.setTop (entryFrame m #[(.ref a1), (.long q2)] 3)) t := fun t kt => pre0 t (by
    show Steps p.tables e below (s₁.setTop (mkF m 0 #[.val (.ref a1), .val (.long q2), .second] [])) _
    refine XS.aloadN X0.here hx rfl (hb hby d13_0) rfl rfl ?_
    refine st330 _ ?_
    refine XS.aloadN X330.here hx rfl (hb hby d13_4) rfl rfl ?_
    refine st331 _ ?_
    refine XS.icmpNo X331.here hx rfl (hb hby d13_8) rfl (tlt (by decide : (0 : Int32) < (1 : Int32))).2.1 ?_
    refine XS.aloadN X331.here hx rfl (hb hby d13_11) rfl rfl ?_
    refine st332 _ ?_
    refine XS.aloadN X332.here hx rfl (hb hby d13_15) rfl rfl ?_
    refine st333 _ ?_
    refine X333.laload hx (j := (0 : Int32)) (v := (.long x0)) (by rw [e333]; exact A334.1) (State.isArrayOf_alike hZ.alike A334.2.1) A334.2.2 hin334 hat334 (g := (mkF m 19 #[.val (.ref a1), .val (.long q2), .second] [(.int (0 : Int32)), (.ref am329)])) rfl rfl (hb hby d13_19) _ ?_
    refine XS.lloadN X333.here hx rfl (hb hby d13_20) rfl ?_
    refine XS.lcmp X333.here hx rfl (hb hby d13_21) rfl ?_
    show Steps p.tables e below (T333.setTop (mkF m 22 #[.val (.ref a1), .val (.long q2), .second] [(.int (lcmpW x0 q2))])) _
    refine XS.ifYes X333.here hx rfl (pc0 := 22) (pc' := 51) rfl (hb hby d13_22) rfl ((if0 _ _).trans (flt (fun q => c0 ((lw_lt _ _).mp q))).2.1) (by decide) (by decide) ?_
    exact kt)
  have hz : h0.size ≤ h0.size := Nat.le_refl _
  have hQ : QFgt012_0 Z a1 q2 x0 x1 y0 y1 b h0 n0 none h0 _ := ⟨rfl, N0, hz, ⟨am329, ac329, km329, kc329, E329, Fm329, Fc329, Ff329, Fe329, Fb329, Vm329, Vc329, Ga329, Gm329, Gc329, n1329, n2329, n3329⟩⟩
  exact own_retV X333 hx Bd.notSynchronized Bd.returns (hb hby d13_51) pre335 (show QFgt012_0 Z a1 q2 x0 x1 y0 y1 b h0 n0 _ _ _ from (by rw [e333]; exact hQ)) (by decide) (by decide)
set_option maxRecDepth 65536 in
set_option maxHeartbeats 40000000 in
theorem sg012 {p : Program} {l : Launch} {e : Env} {s : State} {m : MethodId} {below : List Frame} {meth : Method} {c : Code} {T0 : State} {locs : List Loc} {Z : State} {a0 : Array Value} {n0 : Nat} (q1 : Int64) (p2 : Int32) (p3 : Int32) (q4 : Int64) (p5 : Int32) (kn : Int32) (df : Int32) (ex : Int32) (lk : Int32) (m2 : Int64) (m3 : Int64) (nw : Int64) (mx : Int64) (ob : Addr) (e0 : Int32) (e1 : Int32) (x0 : Int64) (x1 : Int64) (y0 : Int32) (y1 : Int32) (b : Int32) (X0 : Stand p l e room_1 s m #[(.long q1), (.int p2), (.int p3), (.long q4), (.int p5)] below meth c T0 locs 5 22) (hx : p.tables.exec = Jvm.exec) (hZ : Z.Warmed39 s.vm) (hw : ∀ d ∈ tables_1, d.before a0 Z = true) (hby : c.code = code) (hml : c.maxLocals = 29) (hown : s.vm.findClass "com/example/viral_counter/viralcounter/PostTrendIsEmptyPinLaw" = some m.cls) (N0 : Fr n0 locs) (Z0 : n0 ≤ T0.heap.size) (P0 : PT Z T0.heap n0 ob (0 : Int32) (1 : Int32) (2 : Int32) [(.long x0), (.long x1)] [(.int y0), (.int y1)] b) (hnw : nw = x0) :
    ∃ (T' : State) (locs' : List Loc), Stand p l e room_1 s m #[(.long q1), (.int p2), (.int p3), (.long q4), (.int p5)] below meth c T' locs' 7 30 ∧ Fr n0 locs' ∧ ∀ t, Steps p.tables e below (T'.setTop (mkF m 237 (own_LF q1 p2 p3 q4 p5 kn df ex lk m2 m3 nw mx ob e0 e1 (.val (.int (if df = (0 : Int32) then (0 : Int32) else (if nw < q4 then (1 : Int32) else (0 : Int32))))) (.val (.int (if ex = (0 : Int32) then (if df = (0 : Int32) then (0 : Int32) else (if nw < q4 then (1 : Int32) else (0 : Int32))) else (0 : Int32))))) [])) t → Steps p.tables e below (T0.setTop (mkF m 196 (own_LF q1 p2 p3 q4 p5 kn df ex lk m2 m3 nw mx ob e0 e1 .unset .unset) [])) t := by
  have pre0 : ∀ t, Steps p.tables e below (T0.setTop (mkF m 196 (own_LF q1 p2 p3 q4 p5 kn df ex lk m2 m3 nw mx ob e0 e1 .unset .unset) [])) t → Steps p.tables e below (T0.setTop (mkF m 196 (own_LF q1 p2 p3 q4 p5 kn df ex lk m2 m3 nw mx ob e0 e1 .unset .unset) [])) t := fun _ q => q
  have pre136 : ∀ t, Steps p.tables e below (T0.setTop (mkF m 198 (own_LF q1 p2 p3 q4 p5 kn df ex lk m2 m3 nw mx ob e0 e1 .unset .unset) [(.int df)])) t → Steps p.tables e below (T0.setTop (mkF m 196 (own_LF q1 p2 p3 q4 p5 kn df ex lk m2 m3 nw mx ob e0 e1 .unset .unset) [])) t := fun t kt => pre0 t (by
    show Steps p.tables e below (T0.setTop (mkF m 196 (own_LF q1 p2 p3 q4 p5 kn df ex lk m2 m3 nw mx ob e0 e1 .unset .unset) [])) _
    refine XS.iload X0.here hx rfl (hb hby at_196) rfl ?_
    exact kt)
  by_cases hc137 : df = (0 : Int32)
  case pos =>
    obtain ⟨cq138, kq138, q138a, q138b, q138c⟩ := isOf hZ rfl (own_pt_exa P0)
    obtain ⟨_, _, ⟨T138, L138, k138, n138⟩, -, X138, ⟨Lc138, hQ138, l138, y138, z138⟩, st138⟩ := X0.virtualBack hx (y := own_y_38) (z := own_y_38) hown (mvT hZ (own_w hw 19 rfl)) (mvT hZ (own_w hw 20 rfl)) (notFace_of_selects (args := #[]) (mvT hZ (own_w hw 22 rfl))) (mvT hZ (own_w hw 22 rfl)) (mvT hZ (own_w hw 21 rfl)) (by decide) (backOf (W := 0) (rmEmpF l Z a0 hw [] ob _ _ _ _ _ _ T0.heap n0 Z0 P0 (by decide)) hZ (own_w hw 23 rfl) (own_w hw 6 rfl) (by decide) (by decide)) q138a q138c (g := (mkF m 210 (own_LF q1 p2 p3 q4 p5 kn df ex lk m2 m3 nw mx ob e0 e1 .unset .unset) [(.ref ob)])) rfl (by rw [hml]; rfl) (Steps.refl _) (argsL := []) (rest := []) (lenOf pd_48 rfl) rfl (by show 2 * 0 + _ ≤ _; exact Nat.le_of_eq rfl) (hb hby at_210) (fun _ _ => ⟨rfl, rfl, (by decide : 5 + 0 ≤ _), (by decide : 22 + 0 ≤ _)⟩)
    dsimp only [Pt.U, Pt.locs, Pt.cells, Pt.slots] at X138 l138 y138 z138 st138 hQ138
    subst l138 y138 z138
    obtain ⟨rfl, Nq138, e138⟩ := hQ138
    have N138 := Fr.app N0 Nq138
    have pre139 : ∀ t, Steps p.tables e below (T138.setTop (mkF m 217 (own_LF q1 p2 p3 q4 p5 kn df ex lk m2 m3 nw mx ob e0 e1 (.val (.int (0 : Int32))) .unset) [(.int ex)])) t → Steps p.tables e below (T0.setTop (mkF m 196 (own_LF q1 p2 p3 q4 p5 kn df ex lk m2 m3 nw mx ob e0 e1 .unset .unset) [])) t := fun t kt => pre136 t (by
      show Steps p.tables e below (T0.setTop (mkF m 198 (own_LF q1 p2 p3 q4 p5 kn df ex lk m2 m3 nw mx ob e0 e1 .unset .unset) [(.int df)])) _
      refine XS.ifYes X0.here hx rfl (pc0 := 198) (pc' := 208) rfl (hb hby at_198) rfl ((if0 _ _).trans (teq hc137).1) (by decide) (by decide) ?_
      refine XS.aload X0.here hx rfl (hb hby at_208) rfl rfl ?_
      refine st138.trans ?_
      refine XS.istore X138.here hx rfl (hb hby at_213) rfl (l' := (own_LF q1 p2 p3 q4 p5 kn df ex lk m2 m3 nw mx ob e0 e1 (.val (.int (0 : Int32))) .unset)) rfl ?_
      refine XS.iload X138.here hx rfl (hb hby at_215) rfl ?_
      exact kt)
    by_cases hc140 : ex = (0 : Int32)
    case pos =>
      obtain ⟨cq141, kq141, q141a, q141b, q141c⟩ := isOf hZ e138 (own_pt_exa P0)
      obtain ⟨_, _, ⟨T141, L141, k141, n141⟩, -, X141, ⟨Lc141, hQ141, l141, y141, z141⟩, st141⟩ := X138.virtualBack hx (y := own_y_38) (z := own_y_38) hown (mvT hZ (own_w hw 19 rfl)) (mvT hZ (own_w hw 20 rfl)) (notFace_of_selects (args := #[]) (mvT hZ (own_w hw 22 rfl))) (mvT hZ (own_w hw 22 rfl)) (mvT hZ (own_w hw 21 rfl)) (by decide) (backOf (W := 0) (rmEmpF l Z a0 hw [] ob _ _ _ _ _ _ T0.heap n0 Z0 P0 (by decide)) hZ (own_w hw 23 rfl) (own_w hw 6 rfl) (by decide) (by decide)) q141a q141c (g := (mkF m 232 (own_LF q1 p2 p3 q4 p5 kn df ex lk m2 m3 nw mx ob e0 e1 (.val (.int (0 : Int32))) .unset) [(.ref ob)])) rfl (by rw [hml]; rfl) (Steps.refl _) (argsL := []) (rest := []) (lenOf pd_48 rfl) rfl (by show 2 * 0 + _ ≤ _; exact Nat.le_of_eq rfl) (hb hby at_232) (fun _ _ => ⟨rfl, e138, (by decide : 5 + 0 ≤ _), (by decide : 22 + 0 ≤ _)⟩)
      dsimp only [Pt.U, Pt.locs, Pt.cells, Pt.slots] at X141 l141 y141 z141 st141 hQ141
      subst l141 y141 z141
      obtain ⟨rfl, Nq141, e141⟩ := hQ141
      have N141 := Fr.app N138 Nq141
      have pre142 : ∀ t, Steps p.tables e below (T141.setTop (mkF m 237 (own_LF q1 p2 p3 q4 p5 kn df ex lk m2 m3 nw mx ob e0 e1 (.val (.int (0 : Int32))) (.val (.int (0 : Int32)))) [])) t → Steps p.tables e below (T0.setTop (mkF m 196 (own_LF q1 p2 p3 q4 p5 kn df ex lk m2 m3 nw mx ob e0 e1 .unset .unset) [])) t := fun t kt => pre139 t (by
        show Steps p.tables e below (T138.setTop (mkF m 217 (own_LF q1 p2 p3 q4 p5 kn df ex lk m2 m3 nw mx ob e0 e1 (.val (.int (0 : Int32))) .unset) [(.int ex)])) _
        refine XS.ifYes X138.here hx rfl (pc0 := 217) (pc' := 230) rfl (hb hby at_217) rfl ((if0 _ _).trans (teq hc140).1) (by decide) (by decide) ?_
        refine XS.aload X138.here hx rfl (hb hby at_230) rfl rfl ?_
        refine st141.trans ?_
        refine XS.istore X141.here hx rfl (hb hby at_235) rfl (l' := (own_LF q1 p2 p3 q4 p5 kn df ex lk m2 m3 nw mx ob e0 e1 (.val (.int (0 : Int32))) (.val (.int (0 : Int32))))) rfl ?_
        exact kt)
      rw [show (if df = (0 : Int32) then (0 : Int32) else (if nw < q4 then (1 : Int32) else (0 : Int32))) = (0 : Int32) from if_pos hc137]
      rw [show (if ex = (0 : Int32) then (0 : Int32) else (0 : Int32)) = (0 : Int32) from if_pos hc140]
      exact ⟨T141, _, own_more X141 (by decide) (by decide), N141, pre142⟩
    case neg =>
      have pre143 : ∀ t, Steps p.tables e below (T138.setTop (mkF m 227 (own_LF q1 p2 p3 q4 p5 kn df ex lk m2 m3 nw mx ob e0 e1 (.val (.int (0 : Int32))) .unset) [(.int lk), (.int p3), (.long mx), (.ref ob)])) t → Steps p.tables e below (T0.setTop (mkF m 196 (own_LF q1 p2 p3 q4 p5 kn df ex lk m2 m3 nw mx ob e0 e1 .unset .unset) [])) t := fun t kt => pre139 t (by
        show Steps p.tables e below (T138.setTop (mkF m 217 (own_LF q1 p2 p3 q4 p5 kn df ex lk m2 m3 nw mx ob e0 e1 (.val (.int (0 : Int32))) .unset) [(.int ex)])) _
        refine XS.ifNo X138.here hx rfl (hb hby at_217) rfl ((if0 _ _).trans (feq hc140).1) ?_
        refine XS.aload X138.here hx rfl (hb hby at_220) rfl rfl ?_
        refine XS.lload X138.here hx rfl (hb hby at_222) rfl ?_
        refine XS.iloadN X138.here hx rfl (hb hby at_224) rfl ?_
        refine XS.iload X138.here hx rfl (hb hby at_225) rfl ?_
        exact kt)
      by_cases hc144 : x0 < mx
      case pos =>
        obtain ⟨cq194, kq194, q194a, q194b, q194c⟩ := isOf hZ e138 (own_pt_exa P0)
        obtain ⟨_, _, ⟨T194, L194, k194, n194⟩, -, X194, ⟨Lc194, hQ194, l194, y194, z194⟩, st194⟩ := X138.virtualBack hx (y := own_y_103) (z := own_y_103) hown (mvT hZ (own_w hw 28 rfl)) (mvT hZ (own_w hw 29 rfl)) (notFace_of_selects (args := #[]) (mvT hZ (own_w hw 31 rfl))) (mvT hZ (own_w hw 31 rfl)) (mvT hZ (own_w hw 30 rfl)) (by decide) (backOf (W := 0) (rmCnt012a l Z a0 hw [] ob mx p3 lk x0 x1 y0 y1 b T0.heap n0 Z0 P0 hc144) hZ (own_w hw 32 rfl) (own_w hw 6 rfl) (by decide) (by decide)) q194a q194c (g := (mkF m 227 (own_LF q1 p2 p3 q4 p5 kn df ex lk m2 m3 nw mx ob e0 e1 (.val (.int (0 : Int32))) .unset) [(.int lk), (.int p3), (.long mx), (.ref ob)])) rfl (by rw [hml]; rfl) (Steps.refl _) (argsL := [(.long mx), (.int p3), (.int lk)]) (rest := []) (lenOf pd_105 rfl) rfl (by show 2 * 0 + _ ≤ _; exact Nat.le_of_eq rfl) (hb hby at_227) (fun _ _ => ⟨rfl, e138, (by decide : 5 + 0 ≤ _), (by decide : 22 + 0 ≤ _)⟩)
        dsimp only [Pt.U, Pt.locs, Pt.cells, Pt.slots] at X194 l194 y194 z194 st194 hQ194
        subst l194 y194 z194
        obtain ⟨rfl, Nq194, z194, P194⟩ := hQ194
        have N194 := Fr.app N138 Nq194
        have z195 : n0 ≤ T194.heap.size := Nat.le_trans Z0 z194
        obtain ⟨cq196, kq196, q196a, q196b, q196c⟩ := isOf hZ rfl (own_pt_exa P194)
        obtain ⟨_, _, ⟨T196, L196, k196, n196⟩, -, X196, ⟨Lc196, hQ196, l196, y196, z196⟩, st196⟩ := X194.virtualBack hx (y := own_y_38) (z := own_y_38) hown (mvT hZ (own_w hw 19 rfl)) (mvT hZ (own_w hw 20 rfl)) (notFace_of_selects (args := #[]) (mvT hZ (own_w hw 22 rfl))) (mvT hZ (own_w hw 22 rfl)) (mvT hZ (own_w hw 21 rfl)) (by decide) (backOf (W := 0) (rmEmpF l Z a0 hw [] ob _ _ _ _ _ _ T194.heap n0 z195 P194 (by decide)) hZ (own_w hw 23 rfl) (own_w hw 6 rfl) (by decide) (by decide)) q196a q196c (g := (mkF m 232 (own_LF q1 p2 p3 q4 p5 kn df ex lk m2 m3 nw mx ob e0 e1 (.val (.int (0 : Int32))) .unset) [(.ref ob)])) rfl (by rw [hml]; rfl) (Steps.refl _) (argsL := []) (rest := []) (lenOf pd_48 rfl) rfl (by show 2 * 0 + _ ≤ _; exact Nat.le_of_eq rfl) (hb hby at_232) (fun _ _ => ⟨rfl, rfl, (by decide : 5 + 0 ≤ _), (by decide : 22 + 0 ≤ _)⟩)
        dsimp only [Pt.U, Pt.locs, Pt.cells, Pt.slots] at X196 l196 y196 z196 st196 hQ196
        subst l196 y196 z196
        obtain ⟨rfl, Nq196, e196⟩ := hQ196
        have N196 := Fr.app N194 Nq196
        have pre197 : ∀ t, Steps p.tables e below (T196.setTop (mkF m 237 (own_LF q1 p2 p3 q4 p5 kn df ex lk m2 m3 nw mx ob e0 e1 (.val (.int (0 : Int32))) (.val (.int (0 : Int32)))) [])) t → Steps p.tables e below (T0.setTop (mkF m 196 (own_LF q1 p2 p3 q4 p5 kn df ex lk m2 m3 nw mx ob e0 e1 .unset .unset) [])) t := fun t kt => pre143 t (by
          show Steps p.tables e below (T138.setTop (mkF m 227 (own_LF q1 p2 p3 q4 p5 kn df ex lk m2 m3 nw mx ob e0 e1 (.val (.int (0 : Int32))) .unset) [(.int lk), (.int p3), (.long mx), (.ref ob)])) _
          refine st194.trans ?_
          refine XS.aload X194.here hx rfl (hb hby at_230) rfl rfl ?_
          refine st196.trans ?_
          refine XS.istore X196.here hx rfl (hb hby at_235) rfl (l' := (own_LF q1 p2 p3 q4 p5 kn df ex lk m2 m3 nw mx ob e0 e1 (.val (.int (0 : Int32))) (.val (.int (0 : Int32))))) rfl ?_
          exact kt)
        rw [show (if df = (0 : Int32) then (0 : Int32) else (if nw < q4 then (1 : Int32) else (0 : Int32))) = (0 : Int32) from if_pos hc137]
        rw [show (if ex = (0 : Int32) then (0 : Int32) else (0 : Int32)) = (0 : Int32) from if_neg hc140]
        exact ⟨T196, _, own_more X196 (by decide) (by decide), N196, pre197⟩
      case neg =>
        obtain ⟨cq220, kq220, q220a, q220b, q220c⟩ := isOf hZ e138 (own_pt_exa P0)
        obtain ⟨_, _, ⟨T220, L220, k220, n220⟩, -, X220, ⟨Lc220, hQ220, l220, y220, z220⟩, st220⟩ := X138.virtualBack hx (y := own_y_103) (z := own_y_103) hown (mvT hZ (own_w hw 28 rfl)) (mvT hZ (own_w hw 29 rfl)) (notFace_of_selects (args := #[]) (mvT hZ (own_w hw 31 rfl))) (mvT hZ (own_w hw 31 rfl)) (mvT hZ (own_w hw 30 rfl)) (by decide) (backOf (W := 0) (rmCnt012o l Z a0 hw [] ob mx p3 lk x0 x1 y0 y1 b T0.heap n0 Z0 P0 hc144) hZ (own_w hw 32 rfl) (own_w hw 6 rfl) (by decide) (by decide)) q220a q220c (g := (mkF m 227 (own_LF q1 p2 p3 q4 p5 kn df ex lk m2 m3 nw mx ob e0 e1 (.val (.int (0 : Int32))) .unset) [(.int lk), (.int p3), (.long mx), (.ref ob)])) rfl (by rw [hml]; rfl) (Steps.refl _) (argsL := [(.long mx), (.int p3), (.int lk)]) (rest := []) (lenOf pd_105 rfl) rfl (by show 2 * 0 + _ ≤ _; exact Nat.le_of_eq rfl) (hb hby at_227) (fun _ _ => ⟨rfl, e138, (by decide : 5 + 0 ≤ _), (by decide : 22 + 0 ≤ _)⟩)
        dsimp only [Pt.U, Pt.locs, Pt.cells, Pt.slots] at X220 l220 y220 z220 st220 hQ220
        subst l220 y220 z220
        obtain ⟨rfl, Nq220, z220, P220⟩ := hQ220
        have N220 := Fr.app N138 Nq220
        have z221 : n0 ≤ T220.heap.size := Nat.le_trans Z0 z220
        obtain ⟨cq222, kq222, q222a, q222b, q222c⟩ := isOf hZ rfl (own_pt_exa P220)
        obtain ⟨_, _, ⟨T222, L222, k222, n222⟩, -, X222, ⟨Lc222, hQ222, l222, y222, z222⟩, st222⟩ := X220.virtualBack hx (y := own_y_38) (z := own_y_38) hown (mvT hZ (own_w hw 19 rfl)) (mvT hZ (own_w hw 20 rfl)) (notFace_of_selects (args := #[]) (mvT hZ (own_w hw 22 rfl))) (mvT hZ (own_w hw 22 rfl)) (mvT hZ (own_w hw 21 rfl)) (by decide) (backOf (W := 0) (rmEmpF l Z a0 hw [] ob _ _ _ _ _ _ T220.heap n0 z221 P220 (by decide)) hZ (own_w hw 23 rfl) (own_w hw 6 rfl) (by decide) (by decide)) q222a q222c (g := (mkF m 232 (own_LF q1 p2 p3 q4 p5 kn df ex lk m2 m3 nw mx ob e0 e1 (.val (.int (0 : Int32))) .unset) [(.ref ob)])) rfl (by rw [hml]; rfl) (Steps.refl _) (argsL := []) (rest := []) (lenOf pd_48 rfl) rfl (by show 2 * 0 + _ ≤ _; exact Nat.le_of_eq rfl) (hb hby at_232) (fun _ _ => ⟨rfl, rfl, (by decide : 5 + 0 ≤ _), (by decide : 22 + 0 ≤ _)⟩)
        dsimp only [Pt.U, Pt.locs, Pt.cells, Pt.slots] at X222 l222 y222 z222 st222 hQ222
        subst l222 y222 z222
        obtain ⟨rfl, Nq222, e222⟩ := hQ222
        have N222 := Fr.app N220 Nq222
        have pre223 : ∀ t, Steps p.tables e below (T222.setTop (mkF m 237 (own_LF q1 p2 p3 q4 p5 kn df ex lk m2 m3 nw mx ob e0 e1 (.val (.int (0 : Int32))) (.val (.int (0 : Int32)))) [])) t → Steps p.tables e below (T0.setTop (mkF m 196 (own_LF q1 p2 p3 q4 p5 kn df ex lk m2 m3 nw mx ob e0 e1 .unset .unset) [])) t := fun t kt => pre143 t (by
          show Steps p.tables e below (T138.setTop (mkF m 227 (own_LF q1 p2 p3 q4 p5 kn df ex lk m2 m3 nw mx ob e0 e1 (.val (.int (0 : Int32))) .unset) [(.int lk), (.int p3), (.long mx), (.ref ob)])) _
          refine st220.trans ?_
          refine XS.aload X220.here hx rfl (hb hby at_230) rfl rfl ?_
          refine st222.trans ?_
          refine XS.istore X222.here hx rfl (hb hby at_235) rfl (l' := (own_LF q1 p2 p3 q4 p5 kn df ex lk m2 m3 nw mx ob e0 e1 (.val (.int (0 : Int32))) (.val (.int (0 : Int32))))) rfl ?_
          exact kt)
        rw [show (if df = (0 : Int32) then (0 : Int32) else (if nw < q4 then (1 : Int32) else (0 : Int32))) = (0 : Int32) from if_pos hc137]
        rw [show (if ex = (0 : Int32) then (0 : Int32) else (0 : Int32)) = (0 : Int32) from if_neg hc140]
        exact ⟨T222, _, own_more X222 (by decide) (by decide), N222, pre223⟩
  case neg =>
    have pre224 : ∀ t, Steps p.tables e below (T0.setTop (mkF m 205 (own_LF q1 p2 p3 q4 p5 kn df ex lk m2 m3 nw mx ob e0 e1 .unset .unset) [(.long q4), (.ref ob)])) t → Steps p.tables e below (T0.setTop (mkF m 196 (own_LF q1 p2 p3 q4 p5 kn df ex lk m2 m3 nw mx ob e0 e1 .unset .unset) [])) t := fun t kt => pre136 t (by
      show Steps p.tables e below (T0.setTop (mkF m 198 (own_LF q1 p2 p3 q4 p5 kn df ex lk m2 m3 nw mx ob e0 e1 .unset .unset) [(.int df)])) _
      refine XS.ifNo X0.here hx rfl (hb hby at_198) rfl ((if0 _ _).trans (feq hc137).1) ?_
      refine XS.aload X0.here hx rfl (hb hby at_201) rfl rfl ?_
      refine XS.lload X0.here hx rfl (hb hby at_203) rfl ?_
      exact kt)
    by_cases hc225 : x0 < q4
    case pos =>
      obtain ⟨cq259, kq259, q259a, q259b, q259c⟩ := isOf hZ rfl (own_pt_exa P0)
      obtain ⟨_, _, ⟨T259, L259, k259, n259⟩, -, X259, ⟨Lc259, hQ259, l259, y259, z259⟩, st259⟩ := X0.virtualBack hx (y := own_y_113) (z := own_y_113) hown (mvT hZ (own_w hw 63 rfl)) (mvT hZ (own_w hw 64 rfl)) (notFace_of_selects (args := #[]) (mvT hZ (own_w hw 66 rfl))) (mvT hZ (own_w hw 66 rfl)) (mvT hZ (own_w hw 65 rfl)) (by decide) (backOf (W := 0) (rmFgt012_1 l Z a0 hw [] ob q4 x0 x1 y0 y1 b T0.heap n0 Z0 P0 hc225) hZ (own_w hw 67 rfl) (own_w hw 6 rfl) (by decide) (by decide)) q259a q259c (g := (mkF m 205 (own_LF q1 p2 p3 q4 p5 kn df ex lk m2 m3 nw mx ob e0 e1 .unset .unset) [(.long q4), (.ref ob)])) rfl (by rw [hml]; rfl) (Steps.refl _) (argsL := [(.long q4)]) (rest := []) (lenOf pd_115 rfl) rfl (by show 2 * 0 + _ ≤ _; exact Nat.le_of_eq rfl) (hb hby at_205) (fun _ _ => ⟨rfl, rfl, (by decide : 5 + 0 ≤ _), (by decide : 22 + 0 ≤ _)⟩)
      dsimp only [Pt.U, Pt.locs, Pt.cells, Pt.slots] at X259 l259 y259 z259 st259 hQ259
      subst l259 y259 z259
      obtain ⟨rfl, Nq259, z259, P259⟩ := hQ259
      have N259 := Fr.app N0 Nq259
      have z260 : n0 ≤ T259.heap.size := Nat.le_trans Z0 z259
      obtain ⟨cq261, kq261, q261a, q261b, q261c⟩ := isOf hZ rfl (own_pt_exa P259)
      obtain ⟨_, _, ⟨T261, L261, k261, n261⟩, -, X261, ⟨Lc261, hQ261, l261, y261, z261⟩, st261⟩ := X259.virtualBack hx (y := own_y_38) (z := own_y_38) hown (mvT hZ (own_w hw 19 rfl)) (mvT hZ (own_w hw 20 rfl)) (notFace_of_selects (args := #[]) (mvT hZ (own_w hw 22 rfl))) (mvT hZ (own_w hw 22 rfl)) (mvT hZ (own_w hw 21 rfl)) (by decide) (backOf (W := 0) (rmEmpT l Z a0 hw [] ob _ _ _ _ _ _ T259.heap n0 z260 P259 (by decide)) hZ (own_w hw 23 rfl) (own_w hw 6 rfl) (by decide) (by decide)) q261a q261c (g := (mkF m 210 (own_LF q1 p2 p3 q4 p5 kn df ex lk m2 m3 nw mx ob e0 e1 .unset .unset) [(.ref ob)])) rfl (by rw [hml]; rfl) (Steps.refl _) (argsL := []) (rest := []) (lenOf pd_48 rfl) rfl (by show 2 * 0 + _ ≤ _; exact Nat.le_of_eq rfl) (hb hby at_210) (fun _ _ => ⟨rfl, rfl, (by decide : 5 + 0 ≤ _), (by decide : 22 + 0 ≤ _)⟩)
      dsimp only [Pt.U, Pt.locs, Pt.cells, Pt.slots] at X261 l261 y261 z261 st261 hQ261
      subst l261 y261 z261
      obtain ⟨rfl, Nq261, e261⟩ := hQ261
      have N261 := Fr.app N259 Nq261
      have pre262 : ∀ t, Steps p.tables e below (T261.setTop (mkF m 217 (own_LF q1 p2 p3 q4 p5 kn df ex lk m2 m3 nw mx ob e0 e1 (.val (.int (1 : Int32))) .unset) [(.int ex)])) t → Steps p.tables e below (T0.setTop (mkF m 196 (own_LF q1 p2 p3 q4 p5 kn df ex lk m2 m3 nw mx ob e0 e1 .unset .unset) [])) t := fun t kt => pre224 t (by
        show Steps p.tables e below (T0.setTop (mkF m 205 (own_LF q1 p2 p3 q4 p5 kn df ex lk m2 m3 nw mx ob e0 e1 .unset .unset) [(.long q4), (.ref ob)])) _
        refine st259.trans ?_
        refine XS.aload X259.here hx rfl (hb hby at_208) rfl rfl ?_
        refine st261.trans ?_
        refine XS.istore X261.here hx rfl (hb hby at_213) rfl (l' := (own_LF q1 p2 p3 q4 p5 kn df ex lk m2 m3 nw mx ob e0 e1 (.val (.int (1 : Int32))) .unset)) rfl ?_
        refine XS.iload X261.here hx rfl (hb hby at_215) rfl ?_
        exact kt)
      by_cases hc263 : ex = (0 : Int32)
      case pos =>
        obtain ⟨cq264, kq264, q264a, q264b, q264c⟩ := isOf hZ e261 (own_pt_exa P259)
        obtain ⟨_, _, ⟨T264, L264, k264, n264⟩, -, X264, ⟨Lc264, hQ264, l264, y264, z264⟩, st264⟩ := X261.virtualBack hx (y := own_y_38) (z := own_y_38) hown (mvT hZ (own_w hw 19 rfl)) (mvT hZ (own_w hw 20 rfl)) (notFace_of_selects (args := #[]) (mvT hZ (own_w hw 22 rfl))) (mvT hZ (own_w hw 22 rfl)) (mvT hZ (own_w hw 21 rfl)) (by decide) (backOf (W := 0) (rmEmpT l Z a0 hw [] ob _ _ _ _ _ _ T259.heap n0 z260 P259 (by decide)) hZ (own_w hw 23 rfl) (own_w hw 6 rfl) (by decide) (by decide)) q264a q264c (g := (mkF m 232 (own_LF q1 p2 p3 q4 p5 kn df ex lk m2 m3 nw mx ob e0 e1 (.val (.int (1 : Int32))) .unset) [(.ref ob)])) rfl (by rw [hml]; rfl) (Steps.refl _) (argsL := []) (rest := []) (lenOf pd_48 rfl) rfl (by show 2 * 0 + _ ≤ _; exact Nat.le_of_eq rfl) (hb hby at_232) (fun _ _ => ⟨rfl, e261, (by decide : 5 + 0 ≤ _), (by decide : 22 + 0 ≤ _)⟩)
        dsimp only [Pt.U, Pt.locs, Pt.cells, Pt.slots] at X264 l264 y264 z264 st264 hQ264
        subst l264 y264 z264
        obtain ⟨rfl, Nq264, e264⟩ := hQ264
        have N264 := Fr.app N261 Nq264
        have pre265 : ∀ t, Steps p.tables e below (T264.setTop (mkF m 237 (own_LF q1 p2 p3 q4 p5 kn df ex lk m2 m3 nw mx ob e0 e1 (.val (.int (1 : Int32))) (.val (.int (1 : Int32)))) [])) t → Steps p.tables e below (T0.setTop (mkF m 196 (own_LF q1 p2 p3 q4 p5 kn df ex lk m2 m3 nw mx ob e0 e1 .unset .unset) [])) t := fun t kt => pre262 t (by
          show Steps p.tables e below (T261.setTop (mkF m 217 (own_LF q1 p2 p3 q4 p5 kn df ex lk m2 m3 nw mx ob e0 e1 (.val (.int (1 : Int32))) .unset) [(.int ex)])) _
          refine XS.ifYes X261.here hx rfl (pc0 := 217) (pc' := 230) rfl (hb hby at_217) rfl ((if0 _ _).trans (teq hc263).1) (by decide) (by decide) ?_
          refine XS.aload X261.here hx rfl (hb hby at_230) rfl rfl ?_
          refine st264.trans ?_
          refine XS.istore X264.here hx rfl (hb hby at_235) rfl (l' := (own_LF q1 p2 p3 q4 p5 kn df ex lk m2 m3 nw mx ob e0 e1 (.val (.int (1 : Int32))) (.val (.int (1 : Int32))))) rfl ?_
          exact kt)
        have hq : nw < q4 := by rw [hnw]; exact hc225
        rw [show (if df = (0 : Int32) then (0 : Int32) else (if nw < q4 then (1 : Int32) else (0 : Int32))) = (1 : Int32) from (if_neg hc137).trans (if_pos hq)]
        rw [show (if ex = (0 : Int32) then (1 : Int32) else (0 : Int32)) = (1 : Int32) from if_pos hc263]
        exact ⟨T264, _, own_more X264 (by decide) (by decide), N264, pre265⟩
      case neg =>
        obtain ⟨cq325, kq325, q325a, q325b, q325c⟩ := isOf hZ e261 (own_pt_exa P259)
        obtain ⟨_, _, ⟨T325, L325, k325, n325⟩, -, X325, ⟨Lc325, hQ325, l325, y325, z325⟩, st325⟩ := X261.virtualBack hx (y := own_y_103) (z := own_y_103) hown (mvT hZ (own_w hw 28 rfl)) (mvT hZ (own_w hw 29 rfl)) (notFace_of_selects (args := #[]) (mvT hZ (own_w hw 31 rfl))) (mvT hZ (own_w hw 31 rfl)) (mvT hZ (own_w hw 30 rfl)) (by decide) (backOf (W := 0) (rmCnt112a l Z a0 hw [] ob mx p3 lk x0 x1 y0 y1 y0 T259.heap n0 z260 P259) hZ (own_w hw 32 rfl) (own_w hw 6 rfl) (by decide) (by decide)) q325a q325c (g := (mkF m 227 (own_LF q1 p2 p3 q4 p5 kn df ex lk m2 m3 nw mx ob e0 e1 (.val (.int (1 : Int32))) .unset) [(.int lk), (.int p3), (.long mx), (.ref ob)])) rfl (by rw [hml]; rfl) (Steps.refl _) (argsL := [(.long mx), (.int p3), (.int lk)]) (rest := []) (lenOf pd_105 rfl) rfl (by show 2 * 0 + _ ≤ _; exact Nat.le_of_eq rfl) (hb hby at_227) (fun _ _ => ⟨rfl, e261, (by decide : 5 + 0 ≤ _), (by decide : 22 + 0 ≤ _)⟩)
        dsimp only [Pt.U, Pt.locs, Pt.cells, Pt.slots] at X325 l325 y325 z325 st325 hQ325
        subst l325 y325 z325
        obtain ⟨rfl, Nq325, z325, P325⟩ := hQ325
        have N325 := Fr.app N261 Nq325
        have z326 : n0 ≤ T325.heap.size := Nat.le_trans z260 z325
        obtain ⟨cq327, kq327, q327a, q327b, q327c⟩ := isOf hZ rfl (own_pt_exa P325)
        obtain ⟨_, _, ⟨T327, L327, k327, n327⟩, -, X327, ⟨Lc327, hQ327, l327, y327, z327⟩, st327⟩ := X325.virtualBack hx (y := own_y_38) (z := own_y_38) hown (mvT hZ (own_w hw 19 rfl)) (mvT hZ (own_w hw 20 rfl)) (notFace_of_selects (args := #[]) (mvT hZ (own_w hw 22 rfl))) (mvT hZ (own_w hw 22 rfl)) (mvT hZ (own_w hw 21 rfl)) (by decide) (backOf (W := 0) (rmEmpF l Z a0 hw [] ob _ _ _ _ _ _ T325.heap n0 z326 P325 (by decide)) hZ (own_w hw 23 rfl) (own_w hw 6 rfl) (by decide) (by decide)) q327a q327c (g := (mkF m 232 (own_LF q1 p2 p3 q4 p5 kn df ex lk m2 m3 nw mx ob e0 e1 (.val (.int (1 : Int32))) .unset) [(.ref ob)])) rfl (by rw [hml]; rfl) (Steps.refl _) (argsL := []) (rest := []) (lenOf pd_48 rfl) rfl (by show 2 * 0 + _ ≤ _; exact Nat.le_of_eq rfl) (hb hby at_232) (fun _ _ => ⟨rfl, rfl, (by decide : 5 + 0 ≤ _), (by decide : 22 + 0 ≤ _)⟩)
        dsimp only [Pt.U, Pt.locs, Pt.cells, Pt.slots] at X327 l327 y327 z327 st327 hQ327
        subst l327 y327 z327
        obtain ⟨rfl, Nq327, e327⟩ := hQ327
        have N327 := Fr.app N325 Nq327
        have pre328 : ∀ t, Steps p.tables e below (T327.setTop (mkF m 237 (own_LF q1 p2 p3 q4 p5 kn df ex lk m2 m3 nw mx ob e0 e1 (.val (.int (1 : Int32))) (.val (.int (0 : Int32)))) [])) t → Steps p.tables e below (T0.setTop (mkF m 196 (own_LF q1 p2 p3 q4 p5 kn df ex lk m2 m3 nw mx ob e0 e1 .unset .unset) [])) t := fun t kt => pre262 t (by
          show Steps p.tables e below (T261.setTop (mkF m 217 (own_LF q1 p2 p3 q4 p5 kn df ex lk m2 m3 nw mx ob e0 e1 (.val (.int (1 : Int32))) .unset) [(.int ex)])) _
          refine XS.ifNo X261.here hx rfl (hb hby at_217) rfl ((if0 _ _).trans (feq hc263).1) ?_
          refine XS.aload X261.here hx rfl (hb hby at_220) rfl rfl ?_
          refine XS.lload X261.here hx rfl (hb hby at_222) rfl ?_
          refine XS.iloadN X261.here hx rfl (hb hby at_224) rfl ?_
          refine XS.iload X261.here hx rfl (hb hby at_225) rfl ?_
          refine st325.trans ?_
          refine XS.aload X325.here hx rfl (hb hby at_230) rfl rfl ?_
          refine st327.trans ?_
          refine XS.istore X327.here hx rfl (hb hby at_235) rfl (l' := (own_LF q1 p2 p3 q4 p5 kn df ex lk m2 m3 nw mx ob e0 e1 (.val (.int (1 : Int32))) (.val (.int (0 : Int32))))) rfl ?_
          exact kt)
        have hq : nw < q4 := by rw [hnw]; exact hc225
        rw [show (if df = (0 : Int32) then (0 : Int32) else (if nw < q4 then (1 : Int32) else (0 : Int32))) = (1 : Int32) from (if_neg hc137).trans (if_pos hq)]
        rw [show (if ex = (0 : Int32) then (1 : Int32) else (0 : Int32)) = (0 : Int32) from if_neg hc263]
        exact ⟨T327, _, own_more X327 (by decide) (by decide), N327, pre328⟩
    case neg =>
      obtain ⟨cq336, kq336, q336a, q336b, q336c⟩ := isOf hZ rfl (own_pt_exa P0)
      obtain ⟨_, _, ⟨T336, L336, k336, n336⟩, -, X336, ⟨Lc336, hQ336, l336, y336, z336⟩, st336⟩ := X0.virtualBack hx (y := own_y_113) (z := own_y_113) hown (mvT hZ (own_w hw 63 rfl)) (mvT hZ (own_w hw 64 rfl)) (notFace_of_selects (args := #[]) (mvT hZ (own_w hw 66 rfl))) (mvT hZ (own_w hw 66 rfl)) (mvT hZ (own_w hw 65 rfl)) (by decide) (backOf (W := 0) (rmFgt012_0 l Z a0 hw [] ob q4 x0 x1 y0 y1 b T0.heap n0 Z0 P0 hc225) hZ (own_w hw 67 rfl) (own_w hw 6 rfl) (by decide) (by decide)) q336a q336c (g := (mkF m 205 (own_LF q1 p2 p3 q4 p5 kn df ex lk m2 m3 nw mx ob e0 e1 .unset .unset) [(.long q4), (.ref ob)])) rfl (by rw [hml]; rfl) (Steps.refl _) (argsL := [(.long q4)]) (rest := []) (lenOf pd_115 rfl) rfl (by show 2 * 0 + _ ≤ _; exact Nat.le_of_eq rfl) (hb hby at_205) (fun _ _ => ⟨rfl, rfl, (by decide : 5 + 0 ≤ _), (by decide : 22 + 0 ≤ _)⟩)
      dsimp only [Pt.U, Pt.locs, Pt.cells, Pt.slots] at X336 l336 y336 z336 st336 hQ336
      subst l336 y336 z336
      obtain ⟨rfl, Nq336, z336, P336⟩ := hQ336
      have N336 := Fr.app N0 Nq336
      have z337 : n0 ≤ T336.heap.size := Nat.le_trans Z0 z336
      obtain ⟨cq338, kq338, q338a, q338b, q338c⟩ := isOf hZ rfl (own_pt_exa P336)
      obtain ⟨_, _, ⟨T338, L338, k338, n338⟩, -, X338, ⟨Lc338, hQ338, l338, y338, z338⟩, st338⟩ := X336.virtualBack hx (y := own_y_38) (z := own_y_38) hown (mvT hZ (own_w hw 19 rfl)) (mvT hZ (own_w hw 20 rfl)) (notFace_of_selects (args := #[]) (mvT hZ (own_w hw 22 rfl))) (mvT hZ (own_w hw 22 rfl)) (mvT hZ (own_w hw 21 rfl)) (by decide) (backOf (W := 0) (rmEmpF l Z a0 hw [] ob _ _ _ _ _ _ T336.heap n0 z337 P336 (by decide)) hZ (own_w hw 23 rfl) (own_w hw 6 rfl) (by decide) (by decide)) q338a q338c (g := (mkF m 210 (own_LF q1 p2 p3 q4 p5 kn df ex lk m2 m3 nw mx ob e0 e1 .unset .unset) [(.ref ob)])) rfl (by rw [hml]; rfl) (Steps.refl _) (argsL := []) (rest := []) (lenOf pd_48 rfl) rfl (by show 2 * 0 + _ ≤ _; exact Nat.le_of_eq rfl) (hb hby at_210) (fun _ _ => ⟨rfl, rfl, (by decide : 5 + 0 ≤ _), (by decide : 22 + 0 ≤ _)⟩)
      dsimp only [Pt.U, Pt.locs, Pt.cells, Pt.slots] at X338 l338 y338 z338 st338 hQ338
      subst l338 y338 z338
      obtain ⟨rfl, Nq338, e338⟩ := hQ338
      have N338 := Fr.app N336 Nq338
      have pre339 : ∀ t, Steps p.tables e below (T338.setTop (mkF m 217 (own_LF q1 p2 p3 q4 p5 kn df ex lk m2 m3 nw mx ob e0 e1 (.val (.int (0 : Int32))) .unset) [(.int ex)])) t → Steps p.tables e below (T0.setTop (mkF m 196 (own_LF q1 p2 p3 q4 p5 kn df ex lk m2 m3 nw mx ob e0 e1 .unset .unset) [])) t := fun t kt => pre224 t (by
        show Steps p.tables e below (T0.setTop (mkF m 205 (own_LF q1 p2 p3 q4 p5 kn df ex lk m2 m3 nw mx ob e0 e1 .unset .unset) [(.long q4), (.ref ob)])) _
        refine st336.trans ?_
        refine XS.aload X336.here hx rfl (hb hby at_208) rfl rfl ?_
        refine st338.trans ?_
        refine XS.istore X338.here hx rfl (hb hby at_213) rfl (l' := (own_LF q1 p2 p3 q4 p5 kn df ex lk m2 m3 nw mx ob e0 e1 (.val (.int (0 : Int32))) .unset)) rfl ?_
        refine XS.iload X338.here hx rfl (hb hby at_215) rfl ?_
        exact kt)
      by_cases hc340 : ex = (0 : Int32)
      case pos =>
        obtain ⟨cq341, kq341, q341a, q341b, q341c⟩ := isOf hZ e338 (own_pt_exa P336)
        obtain ⟨_, _, ⟨T341, L341, k341, n341⟩, -, X341, ⟨Lc341, hQ341, l341, y341, z341⟩, st341⟩ := X338.virtualBack hx (y := own_y_38) (z := own_y_38) hown (mvT hZ (own_w hw 19 rfl)) (mvT hZ (own_w hw 20 rfl)) (notFace_of_selects (args := #[]) (mvT hZ (own_w hw 22 rfl))) (mvT hZ (own_w hw 22 rfl)) (mvT hZ (own_w hw 21 rfl)) (by decide) (backOf (W := 0) (rmEmpF l Z a0 hw [] ob _ _ _ _ _ _ T336.heap n0 z337 P336 (by decide)) hZ (own_w hw 23 rfl) (own_w hw 6 rfl) (by decide) (by decide)) q341a q341c (g := (mkF m 232 (own_LF q1 p2 p3 q4 p5 kn df ex lk m2 m3 nw mx ob e0 e1 (.val (.int (0 : Int32))) .unset) [(.ref ob)])) rfl (by rw [hml]; rfl) (Steps.refl _) (argsL := []) (rest := []) (lenOf pd_48 rfl) rfl (by show 2 * 0 + _ ≤ _; exact Nat.le_of_eq rfl) (hb hby at_232) (fun _ _ => ⟨rfl, e338, (by decide : 5 + 0 ≤ _), (by decide : 22 + 0 ≤ _)⟩)
        dsimp only [Pt.U, Pt.locs, Pt.cells, Pt.slots] at X341 l341 y341 z341 st341 hQ341
        subst l341 y341 z341
        obtain ⟨rfl, Nq341, e341⟩ := hQ341
        have N341 := Fr.app N338 Nq341
        have pre342 : ∀ t, Steps p.tables e below (T341.setTop (mkF m 237 (own_LF q1 p2 p3 q4 p5 kn df ex lk m2 m3 nw mx ob e0 e1 (.val (.int (0 : Int32))) (.val (.int (0 : Int32)))) [])) t → Steps p.tables e below (T0.setTop (mkF m 196 (own_LF q1 p2 p3 q4 p5 kn df ex lk m2 m3 nw mx ob e0 e1 .unset .unset) [])) t := fun t kt => pre339 t (by
          show Steps p.tables e below (T338.setTop (mkF m 217 (own_LF q1 p2 p3 q4 p5 kn df ex lk m2 m3 nw mx ob e0 e1 (.val (.int (0 : Int32))) .unset) [(.int ex)])) _
          refine XS.ifYes X338.here hx rfl (pc0 := 217) (pc' := 230) rfl (hb hby at_217) rfl ((if0 _ _).trans (teq hc340).1) (by decide) (by decide) ?_
          refine XS.aload X338.here hx rfl (hb hby at_230) rfl rfl ?_
          refine st341.trans ?_
          refine XS.istore X341.here hx rfl (hb hby at_235) rfl (l' := (own_LF q1 p2 p3 q4 p5 kn df ex lk m2 m3 nw mx ob e0 e1 (.val (.int (0 : Int32))) (.val (.int (0 : Int32))))) rfl ?_
          exact kt)
        have hq : ¬ (nw < q4) := by rw [hnw]; exact hc225
        rw [show (if df = (0 : Int32) then (0 : Int32) else (if nw < q4 then (1 : Int32) else (0 : Int32))) = (0 : Int32) from (if_neg hc137).trans (if_neg hq)]
        rw [show (if ex = (0 : Int32) then (0 : Int32) else (0 : Int32)) = (0 : Int32) from if_pos hc340]
        exact ⟨T341, _, own_more X341 (by decide) (by decide), N341, pre342⟩
      case neg =>
        have pre343 : ∀ t, Steps p.tables e below (T338.setTop (mkF m 227 (own_LF q1 p2 p3 q4 p5 kn df ex lk m2 m3 nw mx ob e0 e1 (.val (.int (0 : Int32))) .unset) [(.int lk), (.int p3), (.long mx), (.ref ob)])) t → Steps p.tables e below (T0.setTop (mkF m 196 (own_LF q1 p2 p3 q4 p5 kn df ex lk m2 m3 nw mx ob e0 e1 .unset .unset) [])) t := fun t kt => pre339 t (by
          show Steps p.tables e below (T338.setTop (mkF m 217 (own_LF q1 p2 p3 q4 p5 kn df ex lk m2 m3 nw mx ob e0 e1 (.val (.int (0 : Int32))) .unset) [(.int ex)])) _
          refine XS.ifNo X338.here hx rfl (hb hby at_217) rfl ((if0 _ _).trans (feq hc340).1) ?_
          refine XS.aload X338.here hx rfl (hb hby at_220) rfl rfl ?_
          refine XS.lload X338.here hx rfl (hb hby at_222) rfl ?_
          refine XS.iloadN X338.here hx rfl (hb hby at_224) rfl ?_
          refine XS.iload X338.here hx rfl (hb hby at_225) rfl ?_
          exact kt)
        by_cases hc344 : x0 < mx
        case pos =>
          obtain ⟨cq345, kq345, q345a, q345b, q345c⟩ := isOf hZ e338 (own_pt_exa P336)
          obtain ⟨_, _, ⟨T345, L345, k345, n345⟩, -, X345, ⟨Lc345, hQ345, l345, y345, z345⟩, st345⟩ := X338.virtualBack hx (y := own_y_103) (z := own_y_103) hown (mvT hZ (own_w hw 28 rfl)) (mvT hZ (own_w hw 29 rfl)) (notFace_of_selects (args := #[]) (mvT hZ (own_w hw 31 rfl))) (mvT hZ (own_w hw 31 rfl)) (mvT hZ (own_w hw 30 rfl)) (by decide) (backOf (W := 0) (rmCnt012a l Z a0 hw [] ob mx p3 lk x0 x1 y0 y1 b T336.heap n0 z337 P336 hc344) hZ (own_w hw 32 rfl) (own_w hw 6 rfl) (by decide) (by decide)) q345a q345c (g := (mkF m 227 (own_LF q1 p2 p3 q4 p5 kn df ex lk m2 m3 nw mx ob e0 e1 (.val (.int (0 : Int32))) .unset) [(.int lk), (.int p3), (.long mx), (.ref ob)])) rfl (by rw [hml]; rfl) (Steps.refl _) (argsL := [(.long mx), (.int p3), (.int lk)]) (rest := []) (lenOf pd_105 rfl) rfl (by show 2 * 0 + _ ≤ _; exact Nat.le_of_eq rfl) (hb hby at_227) (fun _ _ => ⟨rfl, e338, (by decide : 5 + 0 ≤ _), (by decide : 22 + 0 ≤ _)⟩)
          dsimp only [Pt.U, Pt.locs, Pt.cells, Pt.slots] at X345 l345 y345 z345 st345 hQ345
          subst l345 y345 z345
          obtain ⟨rfl, Nq345, z345, P345⟩ := hQ345
          have N345 := Fr.app N338 Nq345
          have z346 : n0 ≤ T345.heap.size := Nat.le_trans z337 z345
          obtain ⟨cq347, kq347, q347a, q347b, q347c⟩ := isOf hZ rfl (own_pt_exa P345)
          obtain ⟨_, _, ⟨T347, L347, k347, n347⟩, -, X347, ⟨Lc347, hQ347, l347, y347, z347⟩, st347⟩ := X345.virtualBack hx (y := own_y_38) (z := own_y_38) hown (mvT hZ (own_w hw 19 rfl)) (mvT hZ (own_w hw 20 rfl)) (notFace_of_selects (args := #[]) (mvT hZ (own_w hw 22 rfl))) (mvT hZ (own_w hw 22 rfl)) (mvT hZ (own_w hw 21 rfl)) (by decide) (backOf (W := 0) (rmEmpF l Z a0 hw [] ob _ _ _ _ _ _ T345.heap n0 z346 P345 (by decide)) hZ (own_w hw 23 rfl) (own_w hw 6 rfl) (by decide) (by decide)) q347a q347c (g := (mkF m 232 (own_LF q1 p2 p3 q4 p5 kn df ex lk m2 m3 nw mx ob e0 e1 (.val (.int (0 : Int32))) .unset) [(.ref ob)])) rfl (by rw [hml]; rfl) (Steps.refl _) (argsL := []) (rest := []) (lenOf pd_48 rfl) rfl (by show 2 * 0 + _ ≤ _; exact Nat.le_of_eq rfl) (hb hby at_232) (fun _ _ => ⟨rfl, rfl, (by decide : 5 + 0 ≤ _), (by decide : 22 + 0 ≤ _)⟩)
          dsimp only [Pt.U, Pt.locs, Pt.cells, Pt.slots] at X347 l347 y347 z347 st347 hQ347
          subst l347 y347 z347
          obtain ⟨rfl, Nq347, e347⟩ := hQ347
          have N347 := Fr.app N345 Nq347
          have pre348 : ∀ t, Steps p.tables e below (T347.setTop (mkF m 237 (own_LF q1 p2 p3 q4 p5 kn df ex lk m2 m3 nw mx ob e0 e1 (.val (.int (0 : Int32))) (.val (.int (0 : Int32)))) [])) t → Steps p.tables e below (T0.setTop (mkF m 196 (own_LF q1 p2 p3 q4 p5 kn df ex lk m2 m3 nw mx ob e0 e1 .unset .unset) [])) t := fun t kt => pre343 t (by
            show Steps p.tables e below (T338.setTop (mkF m 227 (own_LF q1 p2 p3 q4 p5 kn df ex lk m2 m3 nw mx ob e0 e1 (.val (.int (0 : Int32))) .unset) [(.int lk), (.int p3), (.long mx), (.ref ob)])) _
            refine st345.trans ?_
            refine XS.aload X345.here hx rfl (hb hby at_230) rfl rfl ?_
            refine st347.trans ?_
            refine XS.istore X347.here hx rfl (hb hby at_235) rfl (l' := (own_LF q1 p2 p3 q4 p5 kn df ex lk m2 m3 nw mx ob e0 e1 (.val (.int (0 : Int32))) (.val (.int (0 : Int32))))) rfl ?_
            exact kt)
          have hq : ¬ (nw < q4) := by rw [hnw]; exact hc225
          rw [show (if df = (0 : Int32) then (0 : Int32) else (if nw < q4 then (1 : Int32) else (0 : Int32))) = (0 : Int32) from (if_neg hc137).trans (if_neg hq)]
          rw [show (if ex = (0 : Int32) then (0 : Int32) else (0 : Int32)) = (0 : Int32) from if_neg hc340]
          exact ⟨T347, _, own_more X347 (by decide) (by decide), N347, pre348⟩
        case neg =>
          obtain ⟨cq349, kq349, q349a, q349b, q349c⟩ := isOf hZ e338 (own_pt_exa P336)
          obtain ⟨_, _, ⟨T349, L349, k349, n349⟩, -, X349, ⟨Lc349, hQ349, l349, y349, z349⟩, st349⟩ := X338.virtualBack hx (y := own_y_103) (z := own_y_103) hown (mvT hZ (own_w hw 28 rfl)) (mvT hZ (own_w hw 29 rfl)) (notFace_of_selects (args := #[]) (mvT hZ (own_w hw 31 rfl))) (mvT hZ (own_w hw 31 rfl)) (mvT hZ (own_w hw 30 rfl)) (by decide) (backOf (W := 0) (rmCnt012o l Z a0 hw [] ob mx p3 lk x0 x1 y0 y1 b T336.heap n0 z337 P336 hc344) hZ (own_w hw 32 rfl) (own_w hw 6 rfl) (by decide) (by decide)) q349a q349c (g := (mkF m 227 (own_LF q1 p2 p3 q4 p5 kn df ex lk m2 m3 nw mx ob e0 e1 (.val (.int (0 : Int32))) .unset) [(.int lk), (.int p3), (.long mx), (.ref ob)])) rfl (by rw [hml]; rfl) (Steps.refl _) (argsL := [(.long mx), (.int p3), (.int lk)]) (rest := []) (lenOf pd_105 rfl) rfl (by show 2 * 0 + _ ≤ _; exact Nat.le_of_eq rfl) (hb hby at_227) (fun _ _ => ⟨rfl, e338, (by decide : 5 + 0 ≤ _), (by decide : 22 + 0 ≤ _)⟩)
          dsimp only [Pt.U, Pt.locs, Pt.cells, Pt.slots] at X349 l349 y349 z349 st349 hQ349
          subst l349 y349 z349
          obtain ⟨rfl, Nq349, z349, P349⟩ := hQ349
          have N349 := Fr.app N338 Nq349
          have z350 : n0 ≤ T349.heap.size := Nat.le_trans z337 z349
          obtain ⟨cq351, kq351, q351a, q351b, q351c⟩ := isOf hZ rfl (own_pt_exa P349)
          obtain ⟨_, _, ⟨T351, L351, k351, n351⟩, -, X351, ⟨Lc351, hQ351, l351, y351, z351⟩, st351⟩ := X349.virtualBack hx (y := own_y_38) (z := own_y_38) hown (mvT hZ (own_w hw 19 rfl)) (mvT hZ (own_w hw 20 rfl)) (notFace_of_selects (args := #[]) (mvT hZ (own_w hw 22 rfl))) (mvT hZ (own_w hw 22 rfl)) (mvT hZ (own_w hw 21 rfl)) (by decide) (backOf (W := 0) (rmEmpF l Z a0 hw [] ob _ _ _ _ _ _ T349.heap n0 z350 P349 (by decide)) hZ (own_w hw 23 rfl) (own_w hw 6 rfl) (by decide) (by decide)) q351a q351c (g := (mkF m 232 (own_LF q1 p2 p3 q4 p5 kn df ex lk m2 m3 nw mx ob e0 e1 (.val (.int (0 : Int32))) .unset) [(.ref ob)])) rfl (by rw [hml]; rfl) (Steps.refl _) (argsL := []) (rest := []) (lenOf pd_48 rfl) rfl (by show 2 * 0 + _ ≤ _; exact Nat.le_of_eq rfl) (hb hby at_232) (fun _ _ => ⟨rfl, rfl, (by decide : 5 + 0 ≤ _), (by decide : 22 + 0 ≤ _)⟩)
          dsimp only [Pt.U, Pt.locs, Pt.cells, Pt.slots] at X351 l351 y351 z351 st351 hQ351
          subst l351 y351 z351
          obtain ⟨rfl, Nq351, e351⟩ := hQ351
          have N351 := Fr.app N349 Nq351
          have pre352 : ∀ t, Steps p.tables e below (T351.setTop (mkF m 237 (own_LF q1 p2 p3 q4 p5 kn df ex lk m2 m3 nw mx ob e0 e1 (.val (.int (0 : Int32))) (.val (.int (0 : Int32)))) [])) t → Steps p.tables e below (T0.setTop (mkF m 196 (own_LF q1 p2 p3 q4 p5 kn df ex lk m2 m3 nw mx ob e0 e1 .unset .unset) [])) t := fun t kt => pre343 t (by
            show Steps p.tables e below (T338.setTop (mkF m 227 (own_LF q1 p2 p3 q4 p5 kn df ex lk m2 m3 nw mx ob e0 e1 (.val (.int (0 : Int32))) .unset) [(.int lk), (.int p3), (.long mx), (.ref ob)])) _
            refine st349.trans ?_
            refine XS.aload X349.here hx rfl (hb hby at_230) rfl rfl ?_
            refine st351.trans ?_
            refine XS.istore X351.here hx rfl (hb hby at_235) rfl (l' := (own_LF q1 p2 p3 q4 p5 kn df ex lk m2 m3 nw mx ob e0 e1 (.val (.int (0 : Int32))) (.val (.int (0 : Int32))))) rfl ?_
            exact kt)
          have hq : ¬ (nw < q4) := by rw [hnw]; exact hc225
          rw [show (if df = (0 : Int32) then (0 : Int32) else (if nw < q4 then (1 : Int32) else (0 : Int32))) = (0 : Int32) from (if_neg hc137).trans (if_neg hq)]
          rw [show (if ex = (0 : Int32) then (0 : Int32) else (0 : Int32)) = (0 : Int32) from if_neg hc340]
          exact ⟨T351, _, own_more X351 (by decide) (by decide), N351, pre352⟩
abbrev own_y_161 : MethodName := (⟨"java/util/Arrays", "checkLength", "(II)V"⟩ : MethodName)
theorem ef_162 (m : MethodId) (x0 : Int32) (x1 : Int32) : entryFrame m #[(.int x0), (.int x1)] 2 = mkF m 0 #[.val (.int x0), .val (.int x1)] [] := by first | (simp [entryFrame, mkF, argsToLocals, Value.category]; done) | rfl
theorem pn_163 : plainName "java/util/Arrays" = true := by first | (simp [plainName, overriddenIn]; done) | decide +kernel
theorem d9_0 : decode jdk_65_method_131_code 0 = .ok (.iload_n 1, 1) := by decide +kernel
theorem d9_1 : decode jdk_65_method_131_code 1 = .ok (.iload_n 0, 1) := by decide +kernel
theorem d9_2 : decode jdk_65_method_131_code 2 = .ok (.if_icmp .ge 35, 3) := by decide +kernel
theorem d9_37 : decode jdk_65_method_131_code 37 = .ok (.return_, 1) := by decide +kernel
def QCL (h0 : Heap) (n0 : Nat) (v : Option Value) (h : Heap) (L : List Loc) : Prop := v = none ∧ Fr n0 L ∧ h = h0
set_option maxRecDepth 65536 in
set_option maxHeartbeats 40000000 in
theorem rmCL (l : Launch) (Z : State) (a0 : Array Value) (hw : ∀ d ∈ tables_1, d.before a0 Z = true) (ws : List Jvm.Cond)  (h0 : Heap) (n0 : Nat) (Z0 : n0 ≤ h0.size) :
    MetFree l own_y_161 (head1 (Jvm.Cond.code own_y_161 jdk_65_method_131_code 2 none :: ws) ({ frames := 0, cells := 0, slots := 0, locals := 0 } : Room)) (fun a U => a = #[(.int (0 : Int32)), (.int (4 : Int32))] ∧ Z.Warmed39 U.vm ∧ U.heap = h0) (fun _ _ _ _ _ => True) (fun _ U o U' => ∃ v L, o = .returned v ∧ QCL h0 n0 v U'.heap L ∧ FrameEnd U o U' L ({ frames := 0, cells := 0, slots := 0, locals := 0 } : Room).cells ({ frames := 0, cells := 0, slots := 0, locals := 0 } : Room).slots) := by
  refine MetFree.of_bodySF (plainFor_of_name pn_163) hisR ?_
  intro p e s m args below meth c s₁ Bd hml0 hP hK
  obtain ⟨rfl, hZ, hh⟩ := hP
  have hx := Bd.exec
  have hby := Bd.bytes
  have hml : c.maxLocals = 2 := hml0
  have hown : s.vm.findClass "java/util/Arrays" = some m.cls := findClass_of_methodNamed Bd.named
  have hnm := (name_of_methodNamed Bd.named Bd.method).1
  have X0 : Stand p l e ({ frames := 0, cells := 0, slots := 0, locals := 0 } : Room) s m #[(.int (0 : Int32)), (.int (4 : Int32))] below meth c s₁ [] 0 0 := Stand.of_body Bd
  have e0 : s₁.heap = h0 := by rw [← hh, Bd.state]; rfl
  have N0 := Fr.nil n0
  have pre0 : ∀ t, Steps p.tables e below (s₁.setTop (mkF m 0 #[.val (.int (0 : Int32)), .val (.int (4 : Int32))] [])) t → Steps p.tables e below (s₁.setTop (entryFrame m #[(.int (0 : Int32)), (.int (4 : Int32))] 2)) t := fun t k => castTop (ef_162 m (0 : Int32) (4 : Int32)) k
  have pre362 : ∀ t, Steps p.tables e below (s₁.setTop (mkF m 37 #[.val (.int (0 : Int32)), .val (.int (4 : Int32))] [])) t → Steps p.tables e below (s₁.setTop (entryFrame m #[(.int (0 : Int32)), (.int (4 : Int32))] 2)) t := fun t kt => pre0 t (by
    show Steps p.tables e below (s₁.setTop (mkF m 0 #[.val (.int (0 : Int32)), .val (.int (4 : Int32))] [])) _
    refine XS.iloadN X0.here hx rfl (hb hby d9_0) rfl ?_
    refine XS.iloadN X0.here hx rfl (hb hby d9_1) rfl ?_
    refine XS.icmpYes X0.here hx rfl (pc0 := 2) (pc' := 37) rfl (hb hby d9_2) rfl (flt (by decide : ¬ ((4 : Int32) < (0 : Int32)))).2.1 (by decide) (by decide) ?_
    exact kt)
  exact own_retV X0 hx Bd.notSynchronized Bd.returns (hb hby d9_37) pre362 (show QCL h0 n0 _ _ _ from ⟨rfl, N0, e0⟩) (by decide) (by decide)
abbrev own_y_168 : MethodName := (⟨"java/lang/Math", "min", "(II)I"⟩ : MethodName)
theorem ef_169 (m : MethodId) (x0 : Int32) (x1 : Int32) : entryFrame m #[(.int x0), (.int x1)] 2 = mkF m 0 #[.val (.int x0), .val (.int x1)] [] := by first | (simp [entryFrame, mkF, argsToLocals, Value.category]; done) | rfl
theorem d10_0 : decode jdk_29_method_69_code 0 = .ok (.iload_n 0, 1) := by decide +kernel
theorem d10_1 : decode jdk_29_method_69_code 1 = .ok (.iload_n 1, 1) := by decide +kernel
theorem d10_2 : decode jdk_29_method_69_code 2 = .ok (.if_icmp .gt 7, 3) := by decide +kernel
theorem d10_5 : decode jdk_29_method_69_code 5 = .ok (.iload_n 0, 1) := by decide +kernel
theorem d10_6 : decode jdk_29_method_69_code 6 = .ok (.goto 4, 3) := by decide +kernel
theorem d10_10 : decode jdk_29_method_69_code 10 = .ok (.ireturn, 1) := by decide +kernel
def QMin (h0 : Heap) (n0 : Nat) (v : Option Value) (h : Heap) (L : List Loc) : Prop := v = some (.int (2 : Int32)) ∧ Fr n0 L ∧ h = h0
set_option maxRecDepth 65536 in
set_option maxHeartbeats 40000000 in
theorem rmMin (l : Launch) (Z : State) (a0 : Array Value) (hw : ∀ d ∈ tables_1, d.before a0 Z = true) (ws : List Jvm.Cond)  (h0 : Heap) (n0 : Nat) (Z0 : n0 ≤ h0.size) :
    MetFree l own_y_168 (head1 (Jvm.Cond.code own_y_168 jdk_29_method_69_code 2 (some .int) :: ws) ({ frames := 0, cells := 0, slots := 0, locals := 0 } : Room)) (fun a U => a = #[(.int (2 : Int32)), (.int (4 : Int32))] ∧ Z.Warmed39 U.vm ∧ U.heap = h0) (fun _ _ _ _ _ => True) (fun _ U o U' => ∃ v L, o = .returned v ∧ QMin h0 n0 v U'.heap L ∧ FrameEnd U o U' L ({ frames := 0, cells := 0, slots := 0, locals := 0 } : Room).cells ({ frames := 0, cells := 0, slots := 0, locals := 0 } : Room).slots) := by
  refine MetFree.of_bodySF (Jvm.Free.JP.mathPlain rfl (by decide +kernel)) hisR ?_
  intro p e s m args below meth c s₁ Bd hml0 hP hK
  obtain ⟨rfl, hZ, hh⟩ := hP
  have hx := Bd.exec
  have hby := Bd.bytes
  have hml : c.maxLocals = 2 := hml0
  have hown : s.vm.findClass "java/lang/Math" = some m.cls := findClass_of_methodNamed Bd.named
  have hnm := (name_of_methodNamed Bd.named Bd.method).1
  have X0 : Stand p l e ({ frames := 0, cells := 0, slots := 0, locals := 0 } : Room) s m #[(.int (2 : Int32)), (.int (4 : Int32))] below meth c s₁ [] 0 0 := Stand.of_body Bd
  have e0 : s₁.heap = h0 := by rw [← hh, Bd.state]; rfl
  have N0 := Fr.nil n0
  have pre0 : ∀ t, Steps p.tables e below (s₁.setTop (mkF m 0 #[.val (.int (2 : Int32)), .val (.int (4 : Int32))] [])) t → Steps p.tables e below (s₁.setTop (entryFrame m #[(.int (2 : Int32)), (.int (4 : Int32))] 2)) t := fun t k => castTop (ef_169 m (2 : Int32) (4 : Int32)) k
  have pre363 : ∀ t, Steps p.tables e below (s₁.setTop (mkF m 10 #[.val (.int (2 : Int32)), .val (.int (4 : Int32))] [(.int (2 : Int32))])) t → Steps p.tables e below (s₁.setTop (entryFrame m #[(.int (2 : Int32)), (.int (4 : Int32))] 2)) t := fun t kt => pre0 t (by
    show Steps p.tables e below (s₁.setTop (mkF m 0 #[.val (.int (2 : Int32)), .val (.int (4 : Int32))] [])) _
    refine XS.iloadN X0.here hx rfl (hb hby d10_0) rfl ?_
    refine XS.iloadN X0.here hx rfl (hb hby d10_1) rfl ?_
    refine XS.icmpNo X0.here hx rfl (hb hby d10_2) rfl (flt (by decide : ¬ ((4 : Int32) < (2 : Int32)))).2.2.1 ?_
    refine XS.iloadN X0.here hx rfl (hb hby d10_5) rfl ?_
    refine XS.goto X0.here hx rfl (pc0 := 6) (pc' := 10) rfl (hb hby d10_6) (by decide) (by decide) ?_
    exact kt)
  exact own_retI X0 hx Bd.notSynchronized Bd.returns (hb hby d10_10) pre363 (show QMin h0 n0 _ _ _ from ⟨rfl, N0, e0⟩) (by decide) (by decide)
abbrev own_y_176 : MethodName := (⟨"java/util/Arrays", "copyOfRangeLong", "([JII)[J"⟩ : MethodName)
theorem ef_177 (m : MethodId) (x0 : Addr) (x1 : Int32) (x2 : Int32) : entryFrame m #[(.ref x0), (.int x1), (.int x2)] 5 = mkF m 0 #[.val (.ref x0), .val (.int x1), .val (.int x2), .unset, .unset] [] := by first | (simp [entryFrame, mkF, argsToLocals, Value.category]; done) | rfl
theorem d8_0 : decode jdk_65_method_139_code 0 = .ok (.iload_n 1, 1) := by decide +kernel
theorem d8_1 : decode jdk_65_method_139_code 1 = .ok (.iload_n 2, 1) := by decide +kernel
theorem d8_2 : decode jdk_65_method_139_code 2 = .ok (.invokestatic 343, 3) := by decide +kernel
theorem pd_181 : parseMethodDescriptor "(II)V" = some ⟨[.int, .int], none⟩ := by decide +kernel
theorem d8_5 : decode jdk_65_method_139_code 5 = .ok (.iload_n 2, 1) := by decide +kernel
theorem d8_6 : decode jdk_65_method_139_code 6 = .ok (.iload_n 1, 1) := by decide +kernel
theorem d8_7 : decode jdk_65_method_139_code 7 = .ok (.isub, 1) := by decide +kernel
theorem d8_8 : decode jdk_65_method_139_code 8 = .ok (.istore_n 3, 1) := by decide +kernel
theorem d8_9 : decode jdk_65_method_139_code 9 = .ok (.iload_n 3, 1) := by decide +kernel
theorem d8_10 : decode jdk_65_method_139_code 10 = .ok (.newarray .long, 2) := by decide +kernel
theorem d8_12 : decode jdk_65_method_139_code 12 = .ok (.astore 4, 2) := by decide +kernel
theorem d8_14 : decode jdk_65_method_139_code 14 = .ok (.aload_n 0, 1) := by decide +kernel
theorem d8_15 : decode jdk_65_method_139_code 15 = .ok (.iload_n 1, 1) := by decide +kernel
theorem d8_16 : decode jdk_65_method_139_code 16 = .ok (.aload 4, 2) := by decide +kernel
theorem d8_18 : decode jdk_65_method_139_code 18 = .ok (.iconst 0, 1) := by decide +kernel
theorem d8_19 : decode jdk_65_method_139_code 19 = .ok (.aload_n 0, 1) := by decide +kernel
theorem d8_20 : decode jdk_65_method_139_code 20 = .ok (.arraylength, 1) := by decide +kernel
theorem d8_21 : decode jdk_65_method_139_code 21 = .ok (.iload_n 1, 1) := by decide +kernel
theorem d8_22 : decode jdk_65_method_139_code 22 = .ok (.isub, 1) := by decide +kernel
theorem d8_23 : decode jdk_65_method_139_code 23 = .ok (.iload_n 3, 1) := by decide +kernel
theorem d8_24 : decode jdk_65_method_139_code 24 = .ok (.invokestatic 304, 3) := by decide +kernel
theorem pd_199 : parseMethodDescriptor "(II)I" = some ⟨[.int, .int], some .int⟩ := by decide +kernel
theorem d8_27 : decode jdk_65_method_139_code 27 = .ok (.invokestatic 150, 3) := by decide +kernel
theorem d8_30 : decode jdk_65_method_139_code 30 = .ok (.aload 4, 2) := by decide +kernel
theorem d8_32 : decode jdk_65_method_139_code 32 = .ok (.areturn, 1) := by decide +kernel
def QRJ (Z : State) (x0 x1 : Int64) (h0 : Heap) (n0 : Nat) (v : Option Value) (h : Heap) (L : List Loc) : Prop := ∃ (r : Addr) (kc : ClassId), v = some (.ref r) ∧ Fr n0 L ∧ Keep h0 h [] ∧ h0.size ≤ r ∧ n0 ≤ r ∧ Arv Z h r kc .long (4 : Int32) [(.long x0), (.long x1), (.long (0 : Int64)), (.long (0 : Int64))] (.long (0 : Int64))
set_option maxRecDepth 65536 in
set_option maxHeartbeats 40000000 in
theorem rmRJ0 (l : Launch) (Z : State) (a0 : Array Value) (hw : ∀ d ∈ tables_1, d.before a0 Z = true) (ws : List Jvm.Cond) (a1 : Addr) (k0 : ClassId) (x0 x1 : Int64) (h0 : Heap) (n0 : Nat) (Z0 : n0 ≤ h0.size) (V0 : Arv Z h0 a1 k0 .long (2 : Int32) [(.long x0), (.long x1)] (.long (0 : Int64))) :
    MetFree l own_y_176 (head1 (Jvm.Cond.code own_y_176 jdk_65_method_139_code 5 (some (.array .long)) :: ws) ({ frames := 1, cells := 1, slots := 4, locals := 60 } : Room)) (fun a U => a = #[(.ref a1), (.int (0 : Int32)), (.int (4 : Int32))] ∧ Z.Warmed39 U.vm ∧ U.heap = h0) (fun _ _ _ _ _ => True) (fun _ U o U' => ∃ v L, o = .returned v ∧ QRJ Z x0 x1 h0 n0 v U'.heap L ∧ FrameEnd U o U' L ({ frames := 1, cells := 1, slots := 4, locals := 60 } : Room).cells ({ frames := 1, cells := 1, slots := 4, locals := 60 } : Room).slots) := by
  refine MetFree.of_bodySF (plainFor_of_name pn_163) hisR ?_
  intro p e s m args below meth c s₁ Bd hml0 hP hK
  obtain ⟨rfl, hZ, hh⟩ := hP
  have hx := Bd.exec
  have hby := Bd.bytes
  have hml : c.maxLocals = 5 := hml0
  have hown : s.vm.findClass "java/util/Arrays" = some m.cls := findClass_of_methodNamed Bd.named
  have hnm := (name_of_methodNamed Bd.named Bd.method).1
  have X0 : Stand p l e ({ frames := 1, cells := 1, slots := 4, locals := 60 } : Room) s m #[(.ref a1), (.int (0 : Int32)), (.int (4 : Int32))] below meth c s₁ [] 0 0 := Stand.of_body Bd
  have e0 : s₁.heap = h0 := by rw [← hh, Bd.state]; rfl
  have N0 := Fr.nil n0
  have pre0 : ∀ t, Steps p.tables e below (s₁.setTop (mkF m 0 #[.val (.ref a1), .val (.int (0 : Int32)), .val (.int (4 : Int32)), .unset, .unset] [])) t → Steps p.tables e below (s₁.setTop (entryFrame m #[(.ref a1), (.int (0 : Int32)), (.int (4 : Int32))] 5)) t := fun t k => castTop (ef_177 m a1 (0 : Int32) (4 : Int32)) k
  obtain ⟨_, _, ⟨T364, L364, k364, n364⟩, -, X364, ⟨Lc364, hQ364, l364, y364, z364⟩, st364⟩ := Jvm.LawKit.callS X0 hx (y := own_y_161) hown (mvT hZ (own_w hw 46 rfl)) (mvT hZ (own_w hw 47 rfl)) (mvT hZ (own_w hw 41 rfl)) (mvT hZ (own_w hw 48 rfl)) (by decide) (backOf (W := 0) (rmCL l Z a0 hw [] h0 n0 Z0) hZ (own_w hw 48 rfl) (own_w hw 41 rfl) (by decide) (by decide)) (g := (mkF m 2 #[.val (.ref a1), .val (.int (0 : Int32)), .val (.int (4 : Int32)), .unset, .unset] [(.int (4 : Int32)), (.int (0 : Int32))])) rfl (by rw [hml]; rfl) (argsL := [(.int (0 : Int32)), (.int (4 : Int32))]) (rest := []) (lenOf pd_181 rfl) rfl (by show 2 * 0 + _ ≤ _; exact Nat.le_of_eq rfl) (hb hby d8_2) (fun _ _ => ⟨rfl, e0, (by decide : 0 + 0 ≤ _), (by decide : 0 + 0 ≤ _)⟩)
  dsimp only [Pt.U, Pt.locs, Pt.cells, Pt.slots] at X364 l364 y364 z364 st364 hQ364
  subst l364 y364 z364
  obtain ⟨rfl, Nq364, e364⟩ := hQ364
  have N364 := Fr.app N0 Nq364
  obtain ⟨T365, h365, k365, X365, e365, E365, A365, st365⟩ := newP X364 hx hZ (own_w hw 13 rfl) e364 (g := (mkF m 10 #[.val (.ref a1), .val (.int (0 : Int32)), .val (.int (4 : Int32)), .val (.int (4 : Int32)), .unset] [(.int (4 : Int32))])) rfl (hb hby d8_10) rfl (by decide) (cap := 4) (by decide) (by decide) (by decide) (by decide)
  obtain ⟨b365, g365⟩ : ∃ z, z = h0.size := ⟨_, rfl⟩
  rw [← g365] at A365 st365
  have G365 : n0 ≤ b365 := Nat.le_trans Z0 (Nat.le_of_eq g365.symm)
  have sz365 : h0.size ≤ b365 := Nat.le_trans (Keep.refl h0 []).1 (Nat.le_of_eq g365.symm)
  have ne366 : a1 ≠ b365 := Nat.ne_of_lt (Nat.lt_of_lt_of_le V0.lt (Nat.le_of_eq g365.symm))
  have c367 := V0.ext E365
  have c368 := (Keep.refl h0 []).ext E365
  have z369 : n0 ≤ h365.size := Nat.le_trans Z0 E365.1
  have V365 : Arv Z h365 b365 k365 .long (4 : Int32) [(.long (0 : Int64)), (.long (0 : Int64)), (.long (0 : Int64)), (.long (0 : Int64))] (.long (0 : Int64)) := (Arv.new A365 (by decide)).pad (pad_rep [] (.long (0 : Int64)) 4)
  obtain ⟨cl370, A370, q370, S370, M370, H370, J370⟩ := id c367
  obtain ⟨_, _, ⟨T371, L371, k371, n371⟩, -, X371, ⟨Lc371, hQ371, l371, y371, z371⟩, st371⟩ := Jvm.LawKit.callS X365 hx (y := own_y_168) hown (mvT hZ (own_w hw 49 rfl)) (mvT hZ (own_w hw 50 rfl)) (mvT hZ (own_w hw 51 rfl)) (mvT hZ (own_w hw 52 rfl)) (by decide) (backOf (W := 4) (rmMin l Z a0 hw [] h365 n0 z369) hZ (own_w hw 52 rfl) (own_w hw 51 rfl) (by decide) (by decide)) (g := (mkF m 24 #[.val (.ref a1), .val (.int (0 : Int32)), .val (.int (4 : Int32)), .val (.int (4 : Int32)), .val (.ref b365)] [(.int (4 : Int32)), (.int (2 : Int32)), (.int (0 : Int32)), (.ref b365), (.int (0 : Int32)), (.ref a1)])) rfl (by rw [hml]; rfl) (argsL := [(.int (2 : Int32)), (.int (4 : Int32))]) (rest := [(.int (0 : Int32)), (.ref b365), (.int (0 : Int32)), (.ref a1)]) (lenOf pd_199 rfl) rfl (by show 2 * 0 + _ ≤ _; exact Nat.le_of_eq rfl) (hb hby d8_24) (fun _ _ => ⟨rfl, e365, (by decide : 1 + 0 ≤ _), (by decide : 4 + 0 ≤ _)⟩)
  dsimp only [Pt.U, Pt.locs, Pt.cells, Pt.slots] at X371 l371 y371 z371 st371 hQ371
  subst l371 y371 z371
  obtain ⟨rfl, Nq371, e371⟩ := hQ371
  have N371 := Fr.app N364 Nq371
  obtain ⟨T372, h372, L372, X372, e372, N372, K372, U372, st372⟩ := cpA X371 hx hZ hown (own_w hw 53 rfl) (own_w hw 56 rfl) (own_w hw 54 rfl) (own_w hw 55 rfl) e371 (us := [(.long x0), (.long x1)]) c367 V365 (Or.inl ⟨rfl, rfl⟩) (by decide) (by decide) (by decide) (by decide) (by decide) rfl (Nat.le_of_ble_eq_true rfl) N371 G365 (g := (mkF m 27 #[.val (.ref a1), .val (.int (0 : Int32)), .val (.int (4 : Int32)), .val (.int (4 : Int32)), .val (.ref b365)] [(.int (2 : Int32)), (.int (0 : Int32)), (.ref b365), (.int (0 : Int32)), (.ref a1)])) rfl (by rw [hml]; rfl) rfl (hb hby d8_27) (by decide) (W := 0) (by show 2 * 0 + _ ≤ _; exact Nat.le_of_eq rfl) (by decide)
  have V372 : Arv Z h372 b365 k365 .long (4 : Int32) [(.long x0), (.long x1), (.long (0 : Int64)), (.long (0 : Int64))] (.long (0 : Int64)) := U372
  have z373 : n0 ≤ h372.size := Nat.le_trans z369 K372.1
  have c374 := c367.keep K372 (ninS ne366 nin0)
  have c375 := c368.trans K372 (allS (Or.inr sz365) all0)
  have pre377 : ∀ t, Steps p.tables e below (T372.setTop (mkF m 32 #[.val (.ref a1), .val (.int (0 : Int32)), .val (.int (4 : Int32)), .val (.int (4 : Int32)), .val (.ref b365)] [(.ref b365)])) t → Steps p.tables e below (s₁.setTop (entryFrame m #[(.ref a1), (.int (0 : Int32)), (.int (4 : Int32))] 5)) t := fun t kt => pre0 t (by
    show Steps p.tables e below (s₁.setTop (mkF m 0 #[.val (.ref a1), .val (.int (0 : Int32)), .val (.int (4 : Int32)), .unset, .unset] [])) _
    refine XS.iloadN X0.here hx rfl (hb hby d8_0) rfl ?_
    refine XS.iloadN X0.here hx rfl (hb hby d8_1) rfl ?_
    refine st364 _ ?_
    refine XS.iloadN X364.here hx rfl (hb hby d8_5) rfl ?_
    refine XS.iloadN X364.here hx rfl (hb hby d8_6) rfl ?_
    refine XS.isub X364.here hx rfl (hb hby d8_7) rfl ?_
    refine XS.istoreN X364.here hx rfl (hb hby d8_8) rfl (l' := #[.val (.ref a1), .val (.int (0 : Int32)), .val (.int (4 : Int32)), .val (.int (4 : Int32)), .unset]) rfl ?_
    refine XS.iloadN X364.here hx rfl (hb hby d8_9) rfl ?_
    refine st365 _ ?_
    refine XS.astore X365.here hx rfl (hb hby d8_12) rfl rfl (l' := #[.val (.ref a1), .val (.int (0 : Int32)), .val (.int (4 : Int32)), .val (.int (4 : Int32)), .val (.ref b365)]) rfl ?_
    refine XS.aloadN X365.here hx rfl (hb hby d8_14) rfl rfl ?_
    refine XS.iloadN X365.here hx rfl (hb hby d8_15) rfl ?_
    show Steps p.tables e below (T365.setTop (mkF m 16 #[.val (.ref a1), .val (.int (0 : Int32)), .val (.int (4 : Int32)), .val (.int (4 : Int32)), .val (.ref b365)] [(.int (0 : Int32)), (.ref a1)])) _
    refine XS.aload X365.here hx rfl (hb hby d8_16) rfl rfl ?_
    refine XS.iconst X365.here hx rfl (hb hby d8_18) ?_
    refine XS.aloadN X365.here hx rfl (hb hby d8_19) rfl rfl ?_
    refine X365.arraylength hx (by rw [e365]; exact A370.1) (State.isArrayOf_alike hZ.alike A370.2.1) (g := (mkF m 20 #[.val (.ref a1), .val (.int (0 : Int32)), .val (.int (4 : Int32)), .val (.int (4 : Int32)), .val (.ref b365)] [(.ref a1), (.int (0 : Int32)), (.ref b365), (.int (0 : Int32)), (.ref a1)])) rfl rfl (hb hby d8_20) _ ?_
    rw [len_of S370 M370]
    refine XS.iloadN X365.here hx rfl (hb hby d8_21) rfl ?_
    refine XS.isub X365.here hx rfl (hb hby d8_22) rfl ?_
    refine XS.iloadN X365.here hx rfl (hb hby d8_23) rfl ?_
    refine st371 _ ?_
    refine st372 _ ?_
    refine XS.aload X372.here hx rfl (hb hby d8_30) rfl rfl ?_
    exact kt)
  have hQ : QRJ Z x0 x1 h0 n0 (some (.ref b365)) h372 _ := ⟨b365, k365, rfl, N372, c375, sz365, G365, V372⟩
  exact own_retA X372 hx Bd.notSynchronized rfl Bd.returns rfl (hb hby d8_32) pre377 (show QRJ Z x0 x1 h0 n0 _ _ _ from (by rw [e372]; exact hQ)) (by decide) (by decide)
abbrev own_y_203 : MethodName := (⟨"java/util/Arrays", "copyOfRange", "([JII)[J"⟩ : MethodName)
theorem ef_204 (m : MethodId) (x0 : Addr) (x1 : Int32) (x2 : Int32) : entryFrame m #[(.ref x0), (.int x1), (.int x2)] 3 = mkF m 0 #[.val (.ref x0), .val (.int x1), .val (.int x2)] [] := by first | (simp [entryFrame, mkF, argsToLocals, Value.category]; done) | rfl
theorem d7_0 : decode jdk_65_method_138_code 0 = .ok (.iload_n 1, 1) := by decide +kernel
theorem d7_1 : decode jdk_65_method_138_code 1 = .ok (.ifCond .ne 9, 3) := by decide +kernel
theorem d7_4 : decode jdk_65_method_138_code 4 = .ok (.iload_n 2, 1) := by decide +kernel
theorem d7_5 : decode jdk_65_method_138_code 5 = .ok (.aload_n 0, 1) := by decide +kernel
theorem d7_6 : decode jdk_65_method_138_code 6 = .ok (.arraylength, 1) := by decide +kernel
theorem d7_7 : decode jdk_65_method_138_code 7 = .ok (.if_icmp .eq 10, 3) := by decide +kernel
theorem d7_10 : decode jdk_65_method_138_code 10 = .ok (.aload_n 0, 1) := by decide +kernel
theorem d7_11 : decode jdk_65_method_138_code 11 = .ok (.iload_n 1, 1) := by decide +kernel
theorem d7_12 : decode jdk_65_method_138_code 12 = .ok (.iload_n 2, 1) := by decide +kernel
theorem d7_13 : decode jdk_65_method_138_code 13 = .ok (.invokestatic 355, 3) := by decide +kernel
theorem pd_215 : parseMethodDescriptor "([JII)[J" = some ⟨[(.array .long), .int, .int], some (.array .long)⟩ := by decide +kernel
theorem d7_16 : decode jdk_65_method_138_code 16 = .ok (.areturn, 1) := by decide +kernel
set_option maxRecDepth 65536 in
set_option maxHeartbeats 40000000 in
theorem rmRJ (l : Launch) (Z : State) (a0 : Array Value) (hw : ∀ d ∈ tables_1, d.before a0 Z = true) (ws : List Jvm.Cond) (a1 : Addr) (k0 : ClassId) (x0 x1 : Int64) (h0 : Heap) (n0 : Nat) (Z0 : n0 ≤ h0.size) (V0 : Arv Z h0 a1 k0 .long (2 : Int32) [(.long x0), (.long x1)] (.long (0 : Int64))) :
    MetFree l own_y_203 (head1 (Jvm.Cond.code own_y_203 jdk_65_method_138_code 3 (some (.array .long)) :: ws) ({ frames := 2, cells := 1, slots := 4, locals := 76 } : Room)) (fun a U => a = #[(.ref a1), (.int (0 : Int32)), (.int (4 : Int32))] ∧ Z.Warmed39 U.vm ∧ U.heap = h0) (fun _ _ _ _ _ => True) (fun _ U o U' => ∃ v L, o = .returned v ∧ QRJ Z x0 x1 h0 n0 v U'.heap L ∧ FrameEnd U o U' L ({ frames := 2, cells := 1, slots := 4, locals := 76 } : Room).cells ({ frames := 2, cells := 1, slots := 4, locals := 76 } : Room).slots) := by
  refine MetFree.of_bodySF (plainFor_of_name pn_163) hisR ?_
  intro p e s m args below meth c s₁ Bd hml0 hP hK
  obtain ⟨rfl, hZ, hh⟩ := hP
  have hx := Bd.exec
  have hby := Bd.bytes
  have hml : c.maxLocals = 3 := hml0
  have hown : s.vm.findClass "java/util/Arrays" = some m.cls := findClass_of_methodNamed Bd.named
  have hnm := (name_of_methodNamed Bd.named Bd.method).1
  have X0 : Stand p l e ({ frames := 2, cells := 1, slots := 4, locals := 76 } : Room) s m #[(.ref a1), (.int (0 : Int32)), (.int (4 : Int32))] below meth c s₁ [] 0 0 := Stand.of_body Bd
  have e0 : s₁.heap = h0 := by rw [← hh, Bd.state]; rfl
  have N0 := Fr.nil n0
  have pre0 : ∀ t, Steps p.tables e below (s₁.setTop (mkF m 0 #[.val (.ref a1), .val (.int (0 : Int32)), .val (.int (4 : Int32))] [])) t → Steps p.tables e below (s₁.setTop (entryFrame m #[(.ref a1), (.int (0 : Int32)), (.int (4 : Int32))] 3)) t := fun t k => castTop (ef_204 m a1 (0 : Int32) (4 : Int32)) k
  obtain ⟨cl378, A378, q378, S378, M378, H378, J378⟩ := id V0
  obtain ⟨_, _, ⟨T379, L379, k379, n379⟩, -, X379, ⟨Lc379, hQ379, l379, y379, z379⟩, st379⟩ := Jvm.LawKit.callS X0 hx (y := own_y_176) hown (mvT hZ (own_w hw 43 rfl)) (mvT hZ (own_w hw 44 rfl)) (mvT hZ (own_w hw 41 rfl)) (mvT hZ (own_w hw 45 rfl)) (by decide) (backOf (W := 0) (rmRJ0 l Z a0 hw [] a1 k0 x0 x1 h0 n0 Z0 V0) hZ (own_w hw 45 rfl) (own_w hw 41 rfl) (by decide) (by decide)) (g := (mkF m 13 #[.val (.ref a1), .val (.int (0 : Int32)), .val (.int (4 : Int32))] [(.int (4 : Int32)), (.int (0 : Int32)), (.ref a1)])) rfl (by rw [hml]; rfl) (argsL := [(.ref a1), (.int (0 : Int32)), (.int (4 : Int32))]) (rest := []) (lenOf pd_215 rfl) rfl (by show 2 * 0 + _ ≤ _; exact Nat.le_of_eq rfl) (hb hby d7_13) (fun _ _ => ⟨rfl, e0, (by decide : 0 + 1 ≤ _), (by decide : 0 + 4 ≤ _)⟩)
  dsimp only [Pt.U, Pt.locs, Pt.cells, Pt.slots] at X379 l379 y379 z379 st379 hQ379
  subst l379 y379 z379
  obtain ⟨r379, kc379, rfl, Nq379, K379, z379, G379, V379⟩ := hQ379
  have N379 := Fr.app N0 Nq379
  have pre380 : ∀ t, Steps p.tables e below (T379.setTop (mkF m 16 #[.val (.ref a1), .val (.int (0 : Int32)), .val (.int (4 : Int32))] [(.ref r379)])) t → Steps p.tables e below (s₁.setTop (entryFrame m #[(.ref a1), (.int (0 : Int32)), (.int (4 : Int32))] 3)) t := fun t kt => pre0 t (by
    show Steps p.tables e below (s₁.setTop (mkF m 0 #[.val (.ref a1), .val (.int (0 : Int32)), .val (.int (4 : Int32))] [])) _
    refine XS.iloadN X0.here hx rfl (hb hby d7_0) rfl ?_
    refine XS.ifNo X0.here hx rfl (hb hby d7_1) rfl ((if0 _ _).trans (teq (by decide : (0 : Int32) = (0 : Int32))).2) ?_
    refine XS.iloadN X0.here hx rfl (hb hby d7_4) rfl ?_
    refine XS.aloadN X0.here hx rfl (hb hby d7_5) rfl rfl ?_
    refine X0.arraylength hx (by rw [e0]; exact A378.1) (State.isArrayOf_alike hZ.alike A378.2.1) (g := (mkF m 6 #[.val (.ref a1), .val (.int (0 : Int32)), .val (.int (4 : Int32))] [(.ref a1), (.int (4 : Int32))])) rfl rfl (hb hby d7_6) _ ?_
    rw [len_of S378 M378]
    refine XS.icmpNo X0.here hx rfl (hb hby d7_7) rfl (feq (by decide : ¬ ((4 : Int32) = (2 : Int32)))).1 ?_
    refine XS.aloadN X0.here hx rfl (hb hby d7_10) rfl rfl ?_
    refine XS.iloadN X0.here hx rfl (hb hby d7_11) rfl ?_
    refine XS.iloadN X0.here hx rfl (hb hby d7_12) rfl ?_
    refine st379 _ ?_
    exact kt)
  exact own_retA X379 hx Bd.notSynchronized rfl Bd.returns rfl (hb hby d7_16) pre380 (show QRJ Z x0 x1 h0 n0 _ _ _ from ⟨r379, kc379, rfl, N379, K379, z379, G379, V379⟩) (by decide) (by decide)
abbrev own_y_217 : MethodName := (⟨"java/util/Arrays", "copyOfRangeInt", "([III)[I"⟩ : MethodName)
theorem ef_218 (m : MethodId) (x0 : Addr) (x1 : Int32) (x2 : Int32) : entryFrame m #[(.ref x0), (.int x1), (.int x2)] 5 = mkF m 0 #[.val (.ref x0), .val (.int x1), .val (.int x2), .unset, .unset] [] := by first | (simp [entryFrame, mkF, argsToLocals, Value.category]; done) | rfl
theorem d12_0 : decode jdk_65_method_137_code 0 = .ok (.iload_n 1, 1) := by decide +kernel
theorem d12_1 : decode jdk_65_method_137_code 1 = .ok (.iload_n 2, 1) := by decide +kernel
theorem d12_2 : decode jdk_65_method_137_code 2 = .ok (.invokestatic 343, 3) := by decide +kernel
theorem d12_5 : decode jdk_65_method_137_code 5 = .ok (.iload_n 2, 1) := by decide +kernel
theorem d12_6 : decode jdk_65_method_137_code 6 = .ok (.iload_n 1, 1) := by decide +kernel
theorem d12_7 : decode jdk_65_method_137_code 7 = .ok (.isub, 1) := by decide +kernel
theorem d12_8 : decode jdk_65_method_137_code 8 = .ok (.istore_n 3, 1) := by decide +kernel
theorem d12_9 : decode jdk_65_method_137_code 9 = .ok (.iload_n 3, 1) := by decide +kernel
theorem d12_10 : decode jdk_65_method_137_code 10 = .ok (.newarray .int, 2) := by decide +kernel
theorem d12_12 : decode jdk_65_method_137_code 12 = .ok (.astore 4, 2) := by decide +kernel
theorem d12_14 : decode jdk_65_method_137_code 14 = .ok (.aload_n 0, 1) := by decide +kernel
theorem d12_15 : decode jdk_65_method_137_code 15 = .ok (.iload_n 1, 1) := by decide +kernel
theorem d12_16 : decode jdk_65_method_137_code 16 = .ok (.aload 4, 2) := by decide +kernel
theorem d12_18 : decode jdk_65_method_137_code 18 = .ok (.iconst 0, 1) := by decide +kernel
theorem d12_19 : decode jdk_65_method_137_code 19 = .ok (.aload_n 0, 1) := by decide +kernel
theorem d12_20 : decode jdk_65_method_137_code 20 = .ok (.arraylength, 1) := by decide +kernel
theorem d12_21 : decode jdk_65_method_137_code 21 = .ok (.iload_n 1, 1) := by decide +kernel
theorem d12_22 : decode jdk_65_method_137_code 22 = .ok (.isub, 1) := by decide +kernel
theorem d12_23 : decode jdk_65_method_137_code 23 = .ok (.iload_n 3, 1) := by decide +kernel
theorem d12_24 : decode jdk_65_method_137_code 24 = .ok (.invokestatic 304, 3) := by decide +kernel
theorem d12_27 : decode jdk_65_method_137_code 27 = .ok (.invokestatic 150, 3) := by decide +kernel
theorem d12_30 : decode jdk_65_method_137_code 30 = .ok (.aload 4, 2) := by decide +kernel
theorem d12_32 : decode jdk_65_method_137_code 32 = .ok (.areturn, 1) := by decide +kernel
def QRI (Z : State) (x0 x1 : Int32) (h0 : Heap) (n0 : Nat) (v : Option Value) (h : Heap) (L : List Loc) : Prop := ∃ (r : Addr) (kc : ClassId), v = some (.ref r) ∧ Fr n0 L ∧ Keep h0 h [] ∧ h0.size ≤ r ∧ n0 ≤ r ∧ Arv Z h r kc .int (4 : Int32) [(.int x0), (.int x1), (.int (0 : Int32)), (.int (0 : Int32))] (.int (0 : Int32))
set_option maxRecDepth 65536 in
set_option maxHeartbeats 40000000 in
theorem rmRI0 (l : Launch) (Z : State) (a0 : Array Value) (hw : ∀ d ∈ tables_1, d.before a0 Z = true) (ws : List Jvm.Cond) (a1 : Addr) (k0 : ClassId) (x0 x1 : Int32) (h0 : Heap) (n0 : Nat) (Z0 : n0 ≤ h0.size) (V0 : Arv Z h0 a1 k0 .int (2 : Int32) [(.int x0), (.int x1)] (.int (0 : Int32))) :
    MetFree l own_y_217 (head1 (Jvm.Cond.code own_y_217 jdk_65_method_137_code 5 (some (.array .int)) :: ws) ({ frames := 1, cells := 1, slots := 4, locals := 60 } : Room)) (fun a U => a = #[(.ref a1), (.int (0 : Int32)), (.int (4 : Int32))] ∧ Z.Warmed39 U.vm ∧ U.heap = h0) (fun _ _ _ _ _ => True) (fun _ U o U' => ∃ v L, o = .returned v ∧ QRI Z x0 x1 h0 n0 v U'.heap L ∧ FrameEnd U o U' L ({ frames := 1, cells := 1, slots := 4, locals := 60 } : Room).cells ({ frames := 1, cells := 1, slots := 4, locals := 60 } : Room).slots) := by
  refine MetFree.of_bodySF (plainFor_of_name pn_163) hisR ?_
  intro p e s m args below meth c s₁ Bd hml0 hP hK
  obtain ⟨rfl, hZ, hh⟩ := hP
  have hx := Bd.exec
  have hby := Bd.bytes
  have hml : c.maxLocals = 5 := hml0
  have hown : s.vm.findClass "java/util/Arrays" = some m.cls := findClass_of_methodNamed Bd.named
  have hnm := (name_of_methodNamed Bd.named Bd.method).1
  have X0 : Stand p l e ({ frames := 1, cells := 1, slots := 4, locals := 60 } : Room) s m #[(.ref a1), (.int (0 : Int32)), (.int (4 : Int32))] below meth c s₁ [] 0 0 := Stand.of_body Bd
  have e0 : s₁.heap = h0 := by rw [← hh, Bd.state]; rfl
  have N0 := Fr.nil n0
  have pre0 : ∀ t, Steps p.tables e below (s₁.setTop (mkF m 0 #[.val (.ref a1), .val (.int (0 : Int32)), .val (.int (4 : Int32)), .unset, .unset] [])) t → Steps p.tables e below (s₁.setTop (entryFrame m #[(.ref a1), (.int (0 : Int32)), (.int (4 : Int32))] 5)) t := fun t k => castTop (ef_218 m a1 (0 : Int32) (4 : Int32)) k
  obtain ⟨_, _, ⟨T381, L381, k381, n381⟩, -, X381, ⟨Lc381, hQ381, l381, y381, z381⟩, st381⟩ := Jvm.LawKit.callS X0 hx (y := own_y_161) hown (mvT hZ (own_w hw 46 rfl)) (mvT hZ (own_w hw 47 rfl)) (mvT hZ (own_w hw 41 rfl)) (mvT hZ (own_w hw 48 rfl)) (by decide) (backOf (W := 0) (rmCL l Z a0 hw [] h0 n0 Z0) hZ (own_w hw 48 rfl) (own_w hw 41 rfl) (by decide) (by decide)) (g := (mkF m 2 #[.val (.ref a1), .val (.int (0 : Int32)), .val (.int (4 : Int32)), .unset, .unset] [(.int (4 : Int32)), (.int (0 : Int32))])) rfl (by rw [hml]; rfl) (argsL := [(.int (0 : Int32)), (.int (4 : Int32))]) (rest := []) (lenOf pd_181 rfl) rfl (by show 2 * 0 + _ ≤ _; exact Nat.le_of_eq rfl) (hb hby d12_2) (fun _ _ => ⟨rfl, e0, (by decide : 0 + 0 ≤ _), (by decide : 0 + 0 ≤ _)⟩)
  dsimp only [Pt.U, Pt.locs, Pt.cells, Pt.slots] at X381 l381 y381 z381 st381 hQ381
  subst l381 y381 z381
  obtain ⟨rfl, Nq381, e381⟩ := hQ381
  have N381 := Fr.app N0 Nq381
  obtain ⟨T382, h382, k382, X382, e382, E382, A382, st382⟩ := newP X381 hx hZ (own_w hw 16 rfl) e381 (g := (mkF m 10 #[.val (.ref a1), .val (.int (0 : Int32)), .val (.int (4 : Int32)), .val (.int (4 : Int32)), .unset] [(.int (4 : Int32))])) rfl (hb hby d12_10) rfl (by decide) (cap := 4) (by decide) (by decide) (by decide) (by decide)
  obtain ⟨b382, g382⟩ : ∃ z, z = h0.size := ⟨_, rfl⟩
  rw [← g382] at A382 st382
  have G382 : n0 ≤ b382 := Nat.le_trans Z0 (Nat.le_of_eq g382.symm)
  have sz382 : h0.size ≤ b382 := Nat.le_trans (Keep.refl h0 []).1 (Nat.le_of_eq g382.symm)
  have ne383 : a1 ≠ b382 := Nat.ne_of_lt (Nat.lt_of_lt_of_le V0.lt (Nat.le_of_eq g382.symm))
  have c384 := V0.ext E382
  have c385 := (Keep.refl h0 []).ext E382
  have z386 : n0 ≤ h382.size := Nat.le_trans Z0 E382.1
  have V382 : Arv Z h382 b382 k382 .int (4 : Int32) [(.int (0 : Int32)), (.int (0 : Int32)), (.int (0 : Int32)), (.int (0 : Int32))] (.int (0 : Int32)) := (Arv.new A382 (by decide)).pad (pad_rep [] (.int (0 : Int32)) 4)
  obtain ⟨cl387, A387, q387, S387, M387, H387, J387⟩ := id c384
  obtain ⟨_, _, ⟨T388, L388, k388, n388⟩, -, X388, ⟨Lc388, hQ388, l388, y388, z388⟩, st388⟩ := Jvm.LawKit.callS X382 hx (y := own_y_168) hown (mvT hZ (own_w hw 49 rfl)) (mvT hZ (own_w hw 50 rfl)) (mvT hZ (own_w hw 51 rfl)) (mvT hZ (own_w hw 52 rfl)) (by decide) (backOf (W := 4) (rmMin l Z a0 hw [] h382 n0 z386) hZ (own_w hw 52 rfl) (own_w hw 51 rfl) (by decide) (by decide)) (g := (mkF m 24 #[.val (.ref a1), .val (.int (0 : Int32)), .val (.int (4 : Int32)), .val (.int (4 : Int32)), .val (.ref b382)] [(.int (4 : Int32)), (.int (2 : Int32)), (.int (0 : Int32)), (.ref b382), (.int (0 : Int32)), (.ref a1)])) rfl (by rw [hml]; rfl) (argsL := [(.int (2 : Int32)), (.int (4 : Int32))]) (rest := [(.int (0 : Int32)), (.ref b382), (.int (0 : Int32)), (.ref a1)]) (lenOf pd_199 rfl) rfl (by show 2 * 0 + _ ≤ _; exact Nat.le_of_eq rfl) (hb hby d12_24) (fun _ _ => ⟨rfl, e382, (by decide : 1 + 0 ≤ _), (by decide : 4 + 0 ≤ _)⟩)
  dsimp only [Pt.U, Pt.locs, Pt.cells, Pt.slots] at X388 l388 y388 z388 st388 hQ388
  subst l388 y388 z388
  obtain ⟨rfl, Nq388, e388⟩ := hQ388
  have N388 := Fr.app N381 Nq388
  obtain ⟨T389, h389, L389, X389, e389, N389, K389, U389, st389⟩ := cpA X388 hx hZ hown (own_w hw 53 rfl) (own_w hw 56 rfl) (own_w hw 54 rfl) (own_w hw 55 rfl) e388 (us := [(.int x0), (.int x1)]) c384 V382 (Or.inl ⟨rfl, rfl⟩) (by decide) (by decide) (by decide) (by decide) (by decide) rfl (Nat.le_of_ble_eq_true rfl) N388 G382 (g := (mkF m 27 #[.val (.ref a1), .val (.int (0 : Int32)), .val (.int (4 : Int32)), .val (.int (4 : Int32)), .val (.ref b382)] [(.int (2 : Int32)), (.int (0 : Int32)), (.ref b382), (.int (0 : Int32)), (.ref a1)])) rfl (by rw [hml]; rfl) rfl (hb hby d12_27) (by decide) (W := 0) (by show 2 * 0 + _ ≤ _; exact Nat.le_of_eq rfl) (by decide)
  have V389 : Arv Z h389 b382 k382 .int (4 : Int32) [(.int x0), (.int x1), (.int (0 : Int32)), (.int (0 : Int32))] (.int (0 : Int32)) := U389
  have z390 : n0 ≤ h389.size := Nat.le_trans z386 K389.1
  have c391 := c384.keep K389 (ninS ne383 nin0)
  have c392 := c385.trans K389 (allS (Or.inr sz382) all0)
  have pre394 : ∀ t, Steps p.tables e below (T389.setTop (mkF m 32 #[.val (.ref a1), .val (.int (0 : Int32)), .val (.int (4 : Int32)), .val (.int (4 : Int32)), .val (.ref b382)] [(.ref b382)])) t → Steps p.tables e below (s₁.setTop (entryFrame m #[(.ref a1), (.int (0 : Int32)), (.int (4 : Int32))] 5)) t := fun t kt => pre0 t (by
    show Steps p.tables e below (s₁.setTop (mkF m 0 #[.val (.ref a1), .val (.int (0 : Int32)), .val (.int (4 : Int32)), .unset, .unset] [])) _
    refine XS.iloadN X0.here hx rfl (hb hby d12_0) rfl ?_
    refine XS.iloadN X0.here hx rfl (hb hby d12_1) rfl ?_
    refine st381 _ ?_
    refine XS.iloadN X381.here hx rfl (hb hby d12_5) rfl ?_
    refine XS.iloadN X381.here hx rfl (hb hby d12_6) rfl ?_
    refine XS.isub X381.here hx rfl (hb hby d12_7) rfl ?_
    refine XS.istoreN X381.here hx rfl (hb hby d12_8) rfl (l' := #[.val (.ref a1), .val (.int (0 : Int32)), .val (.int (4 : Int32)), .val (.int (4 : Int32)), .unset]) rfl ?_
    refine XS.iloadN X381.here hx rfl (hb hby d12_9) rfl ?_
    refine st382 _ ?_
    refine XS.astore X382.here hx rfl (hb hby d12_12) rfl rfl (l' := #[.val (.ref a1), .val (.int (0 : Int32)), .val (.int (4 : Int32)), .val (.int (4 : Int32)), .val (.ref b382)]) rfl ?_
    refine XS.aloadN X382.here hx rfl (hb hby d12_14) rfl rfl ?_
    refine XS.iloadN X382.here hx rfl (hb hby d12_15) rfl ?_
    show Steps p.tables e below (T382.setTop (mkF m 16 #[.val (.ref a1), .val (.int (0 : Int32)), .val (.int (4 : Int32)), .val (.int (4 : Int32)), .val (.ref b382)] [(.int (0 : Int32)), (.ref a1)])) _
    refine XS.aload X382.here hx rfl (hb hby d12_16) rfl rfl ?_
    refine XS.iconst X382.here hx rfl (hb hby d12_18) ?_
    refine XS.aloadN X382.here hx rfl (hb hby d12_19) rfl rfl ?_
    refine X382.arraylength hx (by rw [e382]; exact A387.1) (State.isArrayOf_alike hZ.alike A387.2.1) (g := (mkF m 20 #[.val (.ref a1), .val (.int (0 : Int32)), .val (.int (4 : Int32)), .val (.int (4 : Int32)), .val (.ref b382)] [(.ref a1), (.int (0 : Int32)), (.ref b382), (.int (0 : Int32)), (.ref a1)])) rfl rfl (hb hby d12_20) _ ?_
    rw [len_of S387 M387]
    refine XS.iloadN X382.here hx rfl (hb hby d12_21) rfl ?_
    refine XS.isub X382.here hx rfl (hb hby d12_22) rfl ?_
    refine XS.iloadN X382.here hx rfl (hb hby d12_23) rfl ?_
    refine st388 _ ?_
    refine st389 _ ?_
    refine XS.aload X389.here hx rfl (hb hby d12_30) rfl rfl ?_
    exact kt)
  have hQ : QRI Z x0 x1 h0 n0 (some (.ref b382)) h389 _ := ⟨b382, k382, rfl, N389, c392, sz382, G382, V389⟩
  exact own_retA X389 hx Bd.notSynchronized rfl Bd.returns rfl (hb hby d12_32) pre394 (show QRI Z x0 x1 h0 n0 _ _ _ from (by rw [e389]; exact hQ)) (by decide) (by decide)
abbrev own_y_242 : MethodName := (⟨"java/util/Arrays", "copyOfRange", "([III)[I"⟩ : MethodName)
theorem ef_243 (m : MethodId) (x0 : Addr) (x1 : Int32) (x2 : Int32) : entryFrame m #[(.ref x0), (.int x1), (.int x2)] 3 = mkF m 0 #[.val (.ref x0), .val (.int x1), .val (.int x2)] [] := by first | (simp [entryFrame, mkF, argsToLocals, Value.category]; done) | rfl
theorem d11_0 : decode jdk_65_method_136_code 0 = .ok (.iload_n 1, 1) := by decide +kernel
theorem d11_1 : decode jdk_65_method_136_code 1 = .ok (.ifCond .ne 9, 3) := by decide +kernel
theorem d11_4 : decode jdk_65_method_136_code 4 = .ok (.iload_n 2, 1) := by decide +kernel
theorem d11_5 : decode jdk_65_method_136_code 5 = .ok (.aload_n 0, 1) := by decide +kernel
theorem d11_6 : decode jdk_65_method_136_code 6 = .ok (.arraylength, 1) := by decide +kernel
theorem d11_7 : decode jdk_65_method_136_code 7 = .ok (.if_icmp .eq 10, 3) := by decide +kernel
theorem d11_10 : decode jdk_65_method_136_code 10 = .ok (.aload_n 0, 1) := by decide +kernel
theorem d11_11 : decode jdk_65_method_136_code 11 = .ok (.iload_n 1, 1) := by decide +kernel
theorem d11_12 : decode jdk_65_method_136_code 12 = .ok (.iload_n 2, 1) := by decide +kernel
theorem d11_13 : decode jdk_65_method_136_code 13 = .ok (.invokestatic 351, 3) := by decide +kernel
theorem pd_254 : parseMethodDescriptor "([III)[I" = some ⟨[(.array .int), .int, .int], some (.array .int)⟩ := by decide +kernel
theorem d11_16 : decode jdk_65_method_136_code 16 = .ok (.areturn, 1) := by decide +kernel
set_option maxRecDepth 65536 in
set_option maxHeartbeats 40000000 in
theorem rmRI (l : Launch) (Z : State) (a0 : Array Value) (hw : ∀ d ∈ tables_1, d.before a0 Z = true) (ws : List Jvm.Cond) (a1 : Addr) (k0 : ClassId) (x0 x1 : Int32) (h0 : Heap) (n0 : Nat) (Z0 : n0 ≤ h0.size) (V0 : Arv Z h0 a1 k0 .int (2 : Int32) [(.int x0), (.int x1)] (.int (0 : Int32))) :
    MetFree l own_y_242 (head1 (Jvm.Cond.code own_y_242 jdk_65_method_136_code 3 (some (.array .int)) :: ws) ({ frames := 2, cells := 1, slots := 4, locals := 76 } : Room)) (fun a U => a = #[(.ref a1), (.int (0 : Int32)), (.int (4 : Int32))] ∧ Z.Warmed39 U.vm ∧ U.heap = h0) (fun _ _ _ _ _ => True) (fun _ U o U' => ∃ v L, o = .returned v ∧ QRI Z x0 x1 h0 n0 v U'.heap L ∧ FrameEnd U o U' L ({ frames := 2, cells := 1, slots := 4, locals := 76 } : Room).cells ({ frames := 2, cells := 1, slots := 4, locals := 76 } : Room).slots) := by
  refine MetFree.of_bodySF (plainFor_of_name pn_163) hisR ?_
  intro p e s m args below meth c s₁ Bd hml0 hP hK
  obtain ⟨rfl, hZ, hh⟩ := hP
  have hx := Bd.exec
  have hby := Bd.bytes
  have hml : c.maxLocals = 3 := hml0
  have hown : s.vm.findClass "java/util/Arrays" = some m.cls := findClass_of_methodNamed Bd.named
  have hnm := (name_of_methodNamed Bd.named Bd.method).1
  have X0 : Stand p l e ({ frames := 2, cells := 1, slots := 4, locals := 76 } : Room) s m #[(.ref a1), (.int (0 : Int32)), (.int (4 : Int32))] below meth c s₁ [] 0 0 := Stand.of_body Bd
  have e0 : s₁.heap = h0 := by rw [← hh, Bd.state]; rfl
  have N0 := Fr.nil n0
  have pre0 : ∀ t, Steps p.tables e below (s₁.setTop (mkF m 0 #[.val (.ref a1), .val (.int (0 : Int32)), .val (.int (4 : Int32))] [])) t → Steps p.tables e below (s₁.setTop (entryFrame m #[(.ref a1), (.int (0 : Int32)), (.int (4 : Int32))] 3)) t := fun t k => castTop (ef_243 m a1 (0 : Int32) (4 : Int32)) k
  obtain ⟨cl395, A395, q395, S395, M395, H395, J395⟩ := id V0
  obtain ⟨_, _, ⟨T396, L396, k396, n396⟩, -, X396, ⟨Lc396, hQ396, l396, y396, z396⟩, st396⟩ := Jvm.LawKit.callS X0 hx (y := own_y_217) hown (mvT hZ (own_w hw 60 rfl)) (mvT hZ (own_w hw 61 rfl)) (mvT hZ (own_w hw 41 rfl)) (mvT hZ (own_w hw 62 rfl)) (by decide) (backOf (W := 0) (rmRI0 l Z a0 hw [] a1 k0 x0 x1 h0 n0 Z0 V0) hZ (own_w hw 62 rfl) (own_w hw 41 rfl) (by decide) (by decide)) (g := (mkF m 13 #[.val (.ref a1), .val (.int (0 : Int32)), .val (.int (4 : Int32))] [(.int (4 : Int32)), (.int (0 : Int32)), (.ref a1)])) rfl (by rw [hml]; rfl) (argsL := [(.ref a1), (.int (0 : Int32)), (.int (4 : Int32))]) (rest := []) (lenOf pd_254 rfl) rfl (by show 2 * 0 + _ ≤ _; exact Nat.le_of_eq rfl) (hb hby d11_13) (fun _ _ => ⟨rfl, e0, (by decide : 0 + 1 ≤ _), (by decide : 0 + 4 ≤ _)⟩)
  dsimp only [Pt.U, Pt.locs, Pt.cells, Pt.slots] at X396 l396 y396 z396 st396 hQ396
  subst l396 y396 z396
  obtain ⟨r396, kc396, rfl, Nq396, K396, z396, G396, V396⟩ := hQ396
  have N396 := Fr.app N0 Nq396
  have pre397 : ∀ t, Steps p.tables e below (T396.setTop (mkF m 16 #[.val (.ref a1), .val (.int (0 : Int32)), .val (.int (4 : Int32))] [(.ref r396)])) t → Steps p.tables e below (s₁.setTop (entryFrame m #[(.ref a1), (.int (0 : Int32)), (.int (4 : Int32))] 3)) t := fun t kt => pre0 t (by
    show Steps p.tables e below (s₁.setTop (mkF m 0 #[.val (.ref a1), .val (.int (0 : Int32)), .val (.int (4 : Int32))] [])) _
    refine XS.iloadN X0.here hx rfl (hb hby d11_0) rfl ?_
    refine XS.ifNo X0.here hx rfl (hb hby d11_1) rfl ((if0 _ _).trans (teq (by decide : (0 : Int32) = (0 : Int32))).2) ?_
    refine XS.iloadN X0.here hx rfl (hb hby d11_4) rfl ?_
    refine XS.aloadN X0.here hx rfl (hb hby d11_5) rfl rfl ?_
    refine X0.arraylength hx (by rw [e0]; exact A395.1) (State.isArrayOf_alike hZ.alike A395.2.1) (g := (mkF m 6 #[.val (.ref a1), .val (.int (0 : Int32)), .val (.int (4 : Int32))] [(.ref a1), (.int (4 : Int32))])) rfl rfl (hb hby d11_6) _ ?_
    rw [len_of S395 M395]
    refine XS.icmpNo X0.here hx rfl (hb hby d11_7) rfl (feq (by decide : ¬ ((4 : Int32) = (2 : Int32)))).1 ?_
    refine XS.aloadN X0.here hx rfl (hb hby d11_10) rfl rfl ?_
    refine XS.iloadN X0.here hx rfl (hb hby d11_11) rfl ?_
    refine XS.iloadN X0.here hx rfl (hb hby d11_12) rfl ?_
    refine st396 _ ?_
    exact kt)
  exact own_retA X396 hx Bd.notSynchronized rfl Bd.returns rfl (hb hby d11_16) pre397 (show QRI Z x0 x1 h0 n0 _ _ _ from ⟨r396, kc396, rfl, N396, K396, z396, G396, V396⟩) (by decide) (by decide)
theorem d6_0 : decode prog_25_method_8_code 0 = .ok (.aload_n 0, 1) := by decide +kernel
theorem d6_1 : decode prog_25_method_8_code 1 = .ok (.getfield 21, 3) := by decide +kernel
theorem d6_4 : decode prog_25_method_8_code 4 = .ok (.aload_n 0, 1) := by decide +kernel
theorem d6_5 : decode prog_25_method_8_code 5 = .ok (.getfield 17, 3) := by decide +kernel
theorem d6_8 : decode prog_25_method_8_code 8 = .ok (.isub, 1) := by decide +kernel
theorem d6_9 : decode prog_25_method_8_code 9 = .ok (.istore_n 1, 1) := by decide +kernel
theorem d6_10 : decode prog_25_method_8_code 10 = .ok (.iload_n 1, 1) := by decide +kernel
theorem d6_11 : decode prog_25_method_8_code 11 = .ok (.iconst 4, 1) := by decide +kernel
theorem d6_12 : decode prog_25_method_8_code 12 = .ok (.imul, 1) := by decide +kernel
theorem d6_13 : decode prog_25_method_8_code 13 = .ok (.aload_n 0, 1) := by decide +kernel
theorem d6_14 : decode prog_25_method_8_code 14 = .ok (.getfield 9, 3) := by decide +kernel
theorem d6_17 : decode prog_25_method_8_code 17 = .ok (.arraylength, 1) := by decide +kernel
theorem d6_18 : decode prog_25_method_8_code 18 = .ok (.iconst 3, 1) := by decide +kernel
theorem d6_19 : decode prog_25_method_8_code 19 = .ok (.imul, 1) := by decide +kernel
theorem d6_20 : decode prog_25_method_8_code 20 = .ok (.if_icmp .le 60, 3) := by decide +kernel
theorem d6_23 : decode prog_25_method_8_code 23 = .ok (.aload_n 0, 1) := by decide +kernel
theorem d6_24 : decode prog_25_method_8_code 24 = .ok (.aload_n 0, 1) := by decide +kernel
theorem d6_25 : decode prog_25_method_8_code 25 = .ok (.getfield 9, 3) := by decide +kernel
theorem d6_28 : decode prog_25_method_8_code 28 = .ok (.aload_n 0, 1) := by decide +kernel
theorem d6_29 : decode prog_25_method_8_code 29 = .ok (.getfield 17, 3) := by decide +kernel
theorem d6_32 : decode prog_25_method_8_code 32 = .ok (.aload_n 0, 1) := by decide +kernel
theorem d6_33 : decode prog_25_method_8_code 33 = .ok (.getfield 17, 3) := by decide +kernel
theorem d6_36 : decode prog_25_method_8_code 36 = .ok (.aload_n 0, 1) := by decide +kernel
theorem d6_37 : decode prog_25_method_8_code 37 = .ok (.getfield 9, 3) := by decide +kernel
theorem d6_40 : decode prog_25_method_8_code 40 = .ok (.arraylength, 1) := by decide +kernel
theorem d6_41 : decode prog_25_method_8_code 41 = .ok (.iconst 2, 1) := by decide +kernel
theorem d6_42 : decode prog_25_method_8_code 42 = .ok (.imul, 1) := by decide +kernel
theorem d6_43 : decode prog_25_method_8_code 43 = .ok (.iadd, 1) := by decide +kernel
theorem d6_44 : decode prog_25_method_8_code 44 = .ok (.invokestatic 40, 3) := by decide +kernel
theorem d6_47 : decode prog_25_method_8_code 47 = .ok (.putfield 9, 3) := by decide +kernel
theorem d6_50 : decode prog_25_method_8_code 50 = .ok (.aload_n 0, 1) := by decide +kernel
theorem d6_51 : decode prog_25_method_8_code 51 = .ok (.aload_n 0, 1) := by decide +kernel
theorem d6_52 : decode prog_25_method_8_code 52 = .ok (.getfield 13, 3) := by decide +kernel
theorem d6_55 : decode prog_25_method_8_code 55 = .ok (.aload_n 0, 1) := by decide +kernel
theorem d6_56 : decode prog_25_method_8_code 56 = .ok (.getfield 17, 3) := by decide +kernel
theorem d6_59 : decode prog_25_method_8_code 59 = .ok (.aload_n 0, 1) := by decide +kernel
theorem d6_60 : decode prog_25_method_8_code 60 = .ok (.getfield 17, 3) := by decide +kernel
theorem d6_63 : decode prog_25_method_8_code 63 = .ok (.aload_n 0, 1) := by decide +kernel
theorem d6_64 : decode prog_25_method_8_code 64 = .ok (.getfield 13, 3) := by decide +kernel
theorem d6_67 : decode prog_25_method_8_code 67 = .ok (.arraylength, 1) := by decide +kernel
theorem d6_68 : decode prog_25_method_8_code 68 = .ok (.iconst 2, 1) := by decide +kernel
theorem d6_69 : decode prog_25_method_8_code 69 = .ok (.imul, 1) := by decide +kernel
theorem d6_70 : decode prog_25_method_8_code 70 = .ok (.iadd, 1) := by decide +kernel
theorem d6_71 : decode prog_25_method_8_code 71 = .ok (.invokestatic 44, 3) := by decide +kernel
theorem d6_74 : decode prog_25_method_8_code 74 = .ok (.putfield 13, 3) := by decide +kernel
theorem d6_77 : decode prog_25_method_8_code 77 = .ok (.goto 37, 3) := by decide +kernel
theorem d6_114 : decode prog_25_method_8_code 114 = .ok (.aload_n 0, 1) := by decide +kernel
theorem d6_115 : decode prog_25_method_8_code 115 = .ok (.iconst 0, 1) := by decide +kernel
theorem d6_116 : decode prog_25_method_8_code 116 = .ok (.putfield 17, 3) := by decide +kernel
theorem d6_119 : decode prog_25_method_8_code 119 = .ok (.aload_n 0, 1) := by decide +kernel
theorem d6_120 : decode prog_25_method_8_code 120 = .ok (.iload_n 1, 1) := by decide +kernel
theorem d6_121 : decode prog_25_method_8_code 121 = .ok (.putfield 21, 3) := by decide +kernel
theorem d6_124 : decode prog_25_method_8_code 124 = .ok (.return_, 1) := by decide +kernel
abbrev own_y_309 : MethodName := (⟨"com/example/viral_counter/viralcounter/PostTrend", "makeRoom", "()V"⟩ : MethodName)
theorem ef_310 (m : MethodId) (x0 : Addr) : entryFrame m #[(.ref x0)] 2 = mkF m 0 #[.val (.ref x0), .unset] [] := by first | (simp [entryFrame, mkF, argsToLocals, Value.category]; done) | rfl
def QRoom022 (Z : State) (a1 : Addr)  (x0 : Int64) (x1 : Int64) (y0 : Int32) (y1 : Int32) (b : Int32) (h0 : Heap) (n0 : Nat) (v : Option Value) (h : Heap) (L : List Loc) : Prop := v = none ∧ Fr n0 L ∧ h0.size ≤ h.size ∧ PT Z h n0 a1 (0 : Int32) (2 : Int32) (4 : Int32) [(.long x0), (.long x1), (.long (0 : Int64)), (.long (0 : Int64))] [(.int y0), (.int y1), (.int (0 : Int32)), (.int (0 : Int32))] b
set_option maxRecDepth 65536 in
set_option maxHeartbeats 40000000 in
theorem rmRoom022 (l : Launch) (Z : State) (a0 : Array Value) (hw : ∀ d ∈ tables_1, d.before a0 Z = true) (ws : List Jvm.Cond) (a1 : Addr)  (x0 : Int64) (x1 : Int64) (y0 : Int32) (y1 : Int32) (b : Int32) (h0 : Heap) (n0 : Nat) (Z0 : n0 ≤ h0.size) (P0 : PT Z h0 n0 a1 (0 : Int32) (2 : Int32) (2 : Int32) [(.long x0), (.long x1)] [(.int y0), (.int y1)] b) :
    MetFree l own_y_309 (head1 (Jvm.Cond.code own_y_309 prog_25_method_8_code 2 none :: ws) ({ frames := 3, cells := 2, slots := 8, locals := 91 } : Room)) (fun a U => a = #[(.ref a1)] ∧ Z.Warmed39 U.vm ∧ U.heap = h0) (fun _ _ _ _ _ => True) (fun _ U o U' => ∃ v L, o = .returned v ∧ QRoom022 Z a1 x0 x1 y0 y1 b h0 n0 v U'.heap L ∧ FrameEnd U o U' L ({ frames := 3, cells := 2, slots := 8, locals := 91 } : Room).cells ({ frames := 3, cells := 2, slots := 8, locals := 91 } : Room).slots) := by
  refine MetFree.of_bodySF (plainFor_of_name pn_2) hisR ?_
  intro p e s m args below meth c s₁ Bd hml0 hP hK
  obtain ⟨rfl, hZ, hh⟩ := hP
  have hx := Bd.exec
  have hby := Bd.bytes
  have hml : c.maxLocals = 2 := hml0
  have hown : s.vm.findClass "com/example/viral_counter/viralcounter/PostTrend" = some m.cls := findClass_of_methodNamed Bd.named
  have hnm := (name_of_methodNamed Bd.named Bd.method).1
  have X0 : Stand p l e ({ frames := 3, cells := 2, slots := 8, locals := 91 } : Room) s m #[(.ref a1)] below meth c s₁ [] 0 0 := Stand.of_body Bd
  have e0 : s₁.heap = h0 := by rw [← hh, Bd.state]; rfl
  have N0 := Fr.nil n0
  have pre0 : ∀ t, Steps p.tables e below (s₁.setTop (mkF m 0 #[.val (.ref a1), .unset] [])) t → Steps p.tables e below (s₁.setTop (entryFrame m #[(.ref a1)] 2)) t := fun t k => castTop (ef_310 m a1) k
  obtain ⟨am398, ac398, km398, kc398, E398, Fm398, Fc398, Ff398, Fe398, Fb398, Vm398, Vc398, Ga398, Gm398, Gc398, n1398, n2398, n3398⟩ := id P0
  have hz0 : h0.size ≤ h0.size := Nat.le_refl _
  obtain ⟨T399, X399, e399, st399⟩ := getF X0 hx hZ hown (host := "") (Or.inl (own_w hw 26 rfl)) Via.refl e0 Fe398 (g := (mkF m 1 #[.val (.ref a1), .unset] [(.ref a1)])) rfl rfl (hb hby d6_1)
  obtain ⟨T400, X400, e400, st400⟩ := getF X399 hx hZ hown (host := "") (Or.inl (own_w hw 24 rfl)) Via.refl e399 Ff398 (g := (mkF m 5 #[.val (.ref a1), .unset] [(.ref a1), (.int (2 : Int32))])) rfl rfl (hb hby d6_5)
  obtain ⟨T401, X401, e401, st401⟩ := getF X400 hx hZ hown (host := "") (Or.inl (own_w hw 14 rfl)) Via.refl e400 Fm398 (g := (mkF m 14 #[.val (.ref a1), .val (.int (2 : Int32))] [(.ref a1), (.int (8 : Int32))])) rfl rfl (hb hby d6_14)
  obtain ⟨cl402, A402, q402, S402, M402, H402, J402⟩ := id Vm398
  obtain ⟨T403, X403, e403, st403⟩ := getF X401 hx hZ hown (host := "") (Or.inl (own_w hw 14 rfl)) Via.refl e401 Fm398 (g := (mkF m 25 #[.val (.ref a1), .val (.int (2 : Int32))] [(.ref a1), (.ref a1)])) rfl rfl (hb hby d6_25)
  obtain ⟨T404, X404, e404, st404⟩ := getF X403 hx hZ hown (host := "") (Or.inl (own_w hw 24 rfl)) Via.refl e403 Ff398 (g := (mkF m 29 #[.val (.ref a1), .val (.int (2 : Int32))] [(.ref a1), (.ref am398), (.ref a1)])) rfl rfl (hb hby d6_29)
  obtain ⟨T405, X405, e405, st405⟩ := getF X404 hx hZ hown (host := "") (Or.inl (own_w hw 24 rfl)) Via.refl e404 Ff398 (g := (mkF m 33 #[.val (.ref a1), .val (.int (2 : Int32))] [(.ref a1), (.int (0 : Int32)), (.ref am398), (.ref a1)])) rfl rfl (hb hby d6_33)
  obtain ⟨T406, X406, e406, st406⟩ := getF X405 hx hZ hown (host := "") (Or.inl (own_w hw 14 rfl)) Via.refl e405 Fm398 (g := (mkF m 37 #[.val (.ref a1), .val (.int (2 : Int32))] [(.ref a1), (.int (0 : Int32)), (.int (0 : Int32)), (.ref am398), (.ref a1)])) rfl rfl (hb hby d6_37)
  obtain ⟨cl407, A407, q407, S407, M407, H407, J407⟩ := id Vm398
  obtain ⟨_, _, ⟨T408, L408, k408, n408⟩, -, X408, ⟨Lc408, hQ408, l408, y408, z408⟩, st408⟩ := Jvm.LawKit.callS X406 hx (y := own_y_203) hown (mvT hZ (own_w hw 39 rfl)) (mvT hZ (own_w hw 40 rfl)) (mvT hZ (own_w hw 41 rfl)) (mvT hZ (own_w hw 42 rfl)) (by decide) (backOf (W := 1) (rmRJ l Z a0 hw [] am398 km398 x0 x1 h0 n0 Z0 Vm398) hZ (own_w hw 42 rfl) (own_w hw 41 rfl) (by decide) (by decide)) (g := (mkF m 44 #[.val (.ref a1), .val (.int (2 : Int32))] [(.int (4 : Int32)), (.int (0 : Int32)), (.ref am398), (.ref a1)])) rfl (by rw [hml]; rfl) (argsL := [(.ref am398), (.int (0 : Int32)), (.int (4 : Int32))]) (rest := [(.ref a1)]) (lenOf pd_215 rfl) rfl (by show 2 * 0 + _ ≤ _; exact Nat.le_of_eq rfl) (hb hby d6_44) (fun _ _ => ⟨rfl, e406, (by decide : 0 + 1 ≤ _), (by decide : 0 + 4 ≤ _)⟩)
  dsimp only [Pt.U, Pt.locs, Pt.cells, Pt.slots] at X408 l408 y408 z408 st408 hQ408
  subst l408 y408 z408
  obtain ⟨r408, kc408, rfl, Nq408, K408, z408, G408, V408⟩ := hQ408
  have N408 := Fr.app N0 Nq408
  have ne409 : a1 ≠ r408 := Nat.ne_of_lt (Nat.lt_of_lt_of_le E398.lt z408)
  have ne410 : am398 ≠ r408 := Nat.ne_of_lt (Nat.lt_of_lt_of_le Vm398.lt z408)
  have ne411 : ac398 ≠ r408 := Nat.ne_of_lt (Nat.lt_of_lt_of_le Vc398.lt z408)
  have z412 : n0 ≤ T408.heap.size := Nat.le_trans Z0 K408.1
  have c413 := E398.keep K408
  have c414 := Fm398.keep K408 nin0
  have c415 := Fc398.keep K408 nin0
  have c416 := Ff398.keep K408 nin0
  have c417 := Fe398.keep K408 nin0
  have c418 := Fb398.keep K408 nin0
  have c419 := Vm398.keep K408 nin0
  have c420 := Vc398.keep K408 nin0
  obtain ⟨T421, h421, X421, e421, W421, st421⟩ := putF X408 hx hZ hown (host := "") (Or.inl (own_w hw 14 rfl)) Via.refl rfl c414 c413 (Or.inl (own_w hw 15 rfl)) (own_w hw 5 rfl) (ty := (.array .long)) (by decide) rfl rfl (g := (mkF m 47 #[.val (.ref a1), .val (.int (2 : Int32))] [(.ref r408), (.ref a1)])) rfl rfl (hb hby d6_47)
  have Fw421 := c414.same W421
  have N421 := Fr.snoc X421 N408 Ga398
  have z422 : n0 ≤ h421.size := Nat.le_trans z412 (Keep.of_wr W421).1
  have c423 := c413.wr W421
  have c425 := c415.other W421 (Or.inr (own_sn_9 hw))
  have c426 := c416.other W421 (Or.inr (own_sn_10 hw))
  have c427 := c417.other W421 (Or.inr (own_sn_11 hw))
  have c428 := c418.other W421 (Or.inr (own_sn_12 hw))
  have c429 := c419.other W421 (Ne.symm n1398)
  have c430 := c420.other W421 (Ne.symm n2398)
  have c431 := V408.other W421 (Ne.symm ne409)
  obtain ⟨T432, X432, e432, st432⟩ := getF X421 hx hZ hown (host := "") (Or.inl (own_w hw 17 rfl)) Via.refl e421 c425 (g := (mkF m 52 #[.val (.ref a1), .val (.int (2 : Int32))] [(.ref a1), (.ref a1)])) rfl rfl (hb hby d6_52)
  obtain ⟨T433, X433, e433, st433⟩ := getF X432 hx hZ hown (host := "") (Or.inl (own_w hw 24 rfl)) Via.refl e432 c426 (g := (mkF m 56 #[.val (.ref a1), .val (.int (2 : Int32))] [(.ref a1), (.ref ac398), (.ref a1)])) rfl rfl (hb hby d6_56)
  obtain ⟨T434, X434, e434, st434⟩ := getF X433 hx hZ hown (host := "") (Or.inl (own_w hw 24 rfl)) Via.refl e433 c426 (g := (mkF m 60 #[.val (.ref a1), .val (.int (2 : Int32))] [(.ref a1), (.int (0 : Int32)), (.ref ac398), (.ref a1)])) rfl rfl (hb hby d6_60)
  obtain ⟨T435, X435, e435, st435⟩ := getF X434 hx hZ hown (host := "") (Or.inl (own_w hw 17 rfl)) Via.refl e434 c425 (g := (mkF m 64 #[.val (.ref a1), .val (.int (2 : Int32))] [(.ref a1), (.int (0 : Int32)), (.int (0 : Int32)), (.ref ac398), (.ref a1)])) rfl rfl (hb hby d6_64)
  obtain ⟨cl436, A436, q436, S436, M436, H436, J436⟩ := id c430
  obtain ⟨_, _, ⟨T437, L437, k437, n437⟩, -, X437, ⟨Lc437, hQ437, l437, y437, z437⟩, st437⟩ := Jvm.LawKit.callS X435 hx (y := own_y_242) hown (mvT hZ (own_w hw 57 rfl)) (mvT hZ (own_w hw 58 rfl)) (mvT hZ (own_w hw 41 rfl)) (mvT hZ (own_w hw 59 rfl)) (by decide) (backOf (W := 1) (rmRI l Z a0 hw [] ac398 kc398 y0 y1 h421 n0 z422 c430) hZ (own_w hw 59 rfl) (own_w hw 41 rfl) (by decide) (by decide)) (g := (mkF m 71 #[.val (.ref a1), .val (.int (2 : Int32))] [(.int (4 : Int32)), (.int (0 : Int32)), (.ref ac398), (.ref a1)])) rfl (by rw [hml]; rfl) (argsL := [(.ref ac398), (.int (0 : Int32)), (.int (4 : Int32))]) (rest := [(.ref a1)]) (lenOf pd_254 rfl) rfl (by show 2 * 0 + _ ≤ _; exact Nat.le_of_eq rfl) (hb hby d6_71) (fun _ _ => ⟨rfl, e435, (by decide : 1 + 1 ≤ _), (by decide : 4 + 4 ≤ _)⟩)
  dsimp only [Pt.U, Pt.locs, Pt.cells, Pt.slots] at X437 l437 y437 z437 st437 hQ437
  subst l437 y437 z437
  obtain ⟨r437, kc437, rfl, Nq437, K437, z437, G437, V437⟩ := hQ437
  have N437 := Fr.app N421 Nq437
  have ne438 : a1 ≠ r437 := Nat.ne_of_lt (Nat.lt_of_lt_of_le c423.lt z437)
  have ne439 : am398 ≠ r437 := Nat.ne_of_lt (Nat.lt_of_lt_of_le c429.lt z437)
  have ne440 : ac398 ≠ r437 := Nat.ne_of_lt (Nat.lt_of_lt_of_le c430.lt z437)
  have ne441 : r408 ≠ r437 := Nat.ne_of_lt (Nat.lt_of_lt_of_le c431.lt z437)
  have z442 : n0 ≤ T437.heap.size := Nat.le_trans z422 K437.1
  have c443 := c423.keep K437
  have c444 := c425.keep K437 nin0
  have c445 := c426.keep K437 nin0
  have c446 := c427.keep K437 nin0
  have c447 := c428.keep K437 nin0
  have c448 := c429.keep K437 nin0
  have c449 := c430.keep K437 nin0
  have c450 := c431.keep K437 nin0
  have c451 := Fw421.keep K437 nin0
  obtain ⟨T452, h452, X452, e452, W452, st452⟩ := putF X437 hx hZ hown (host := "") (Or.inl (own_w hw 17 rfl)) Via.refl rfl c444 c443 (Or.inl (own_w hw 18 rfl)) (own_w hw 5 rfl) (ty := (.array .int)) (by decide) rfl rfl (g := (mkF m 74 #[.val (.ref a1), .val (.int (2 : Int32))] [(.ref r437), (.ref a1)])) rfl rfl (hb hby d6_74)
  have Fw452 := c444.same W452
  have N452 := Fr.snoc X452 N437 Ga398
  have z453 : n0 ≤ h452.size := Nat.le_trans z442 (Keep.of_wr W452).1
  have c454 := c443.wr W452
  have c456 := c445.other W452 (Or.inr (own_sn_17 hw))
  have c457 := c446.other W452 (Or.inr (own_sn_18 hw))
  have c458 := c447.other W452 (Or.inr (own_sn_19 hw))
  have c459 := c448.other W452 (Ne.symm n1398)
  have c460 := c449.other W452 (Ne.symm n2398)
  have c461 := c450.other W452 (Ne.symm ne409)
  have c462 := c451.other W452 (Or.inr (own_sn_20 hw))
  have c463 := V437.other W452 (Ne.symm ne438)
  obtain ⟨T464, h464, X464, e464, W464, st464⟩ := putF X452 hx hZ hown (host := "") (Or.inl (own_w hw 24 rfl)) Via.refl e452 c456 c454 (Or.inl (own_w hw 25 rfl)) (own_w hw 5 rfl) (ty := .int) (by decide) rfl rfl (g := (mkF m 116 #[.val (.ref a1), .val (.int (2 : Int32))] [(.int (0 : Int32)), (.ref a1)])) rfl rfl (hb hby d6_116)
  have Fw464 := c456.same W464
  have N464 := Fr.snoc X464 N452 Ga398
  have z465 : n0 ≤ h464.size := Nat.le_trans z453 (Keep.of_wr W464).1
  have c466 := c454.wr W464
  have c468 := c457.other W464 (Or.inr (own_sn_158 hw))
  have c469 := c458.other W464 (Or.inr (own_sn_159 hw))
  have c470 := c459.other W464 (Ne.symm n1398)
  have c471 := c460.other W464 (Ne.symm n2398)
  have c472 := c461.other W464 (Ne.symm ne409)
  have c473 := c462.other W464 (Or.inr (own_sn_156 hw))
  have c474 := c463.other W464 (Ne.symm ne438)
  have c475 := Fw452.other W464 (Or.inr (own_sn_157 hw))
  obtain ⟨T476, h476, X476, e476, W476, st476⟩ := putF X464 hx hZ hown (host := "") (Or.inl (own_w hw 26 rfl)) Via.refl e464 c468 c466 (Or.inl (own_w hw 27 rfl)) (own_w hw 5 rfl) (ty := .int) (by decide) rfl rfl (g := (mkF m 121 #[.val (.ref a1), .val (.int (2 : Int32))] [(.int (2 : Int32)), (.ref a1)])) rfl rfl (hb hby d6_121)
  have Fw476 := c468.same W476
  have N476 := Fr.snoc X476 N464 Ga398
  have z477 : n0 ≤ h476.size := Nat.le_trans z465 (Keep.of_wr W476).1
  have c478 := c466.wr W476
  have c480 := c469.other W476 (Or.inr (own_sn_101 hw))
  have c481 := c470.other W476 (Ne.symm n1398)
  have c482 := c471.other W476 (Ne.symm n2398)
  have c483 := c472.other W476 (Ne.symm ne409)
  have c484 := c473.other W476 (Or.inr (own_sn_98 hw))
  have c485 := c474.other W476 (Ne.symm ne438)
  have c486 := c475.other W476 (Or.inr (own_sn_99 hw))
  have c487 := Fw464.other W476 (Or.inr (own_sn_100 hw))
  have pre488 : ∀ t, Steps p.tables e below (T476.setTop (mkF m 124 #[.val (.ref a1), .val (.int (2 : Int32))] [])) t → Steps p.tables e below (s₁.setTop (entryFrame m #[(.ref a1)] 2)) t := fun t kt => pre0 t (by
    show Steps p.tables e below (s₁.setTop (mkF m 0 #[.val (.ref a1), .unset] [])) _
    refine XS.aloadN X0.here hx rfl (hb hby d6_0) rfl rfl ?_
    refine st399 _ ?_
    refine XS.aloadN X399.here hx rfl (hb hby d6_4) rfl rfl ?_
    refine st400 _ ?_
    refine XS.isub X400.here hx rfl (hb hby d6_8) rfl ?_
    refine XS.istoreN X400.here hx rfl (hb hby d6_9) rfl (l' := #[.val (.ref a1), .val (.int (2 : Int32))]) rfl ?_
    refine XS.iloadN X400.here hx rfl (hb hby d6_10) rfl ?_
    refine XS.iconst X400.here hx rfl (hb hby d6_11) ?_
    refine XS.imul X400.here hx rfl (hb hby d6_12) rfl ?_
    refine XS.aloadN X400.here hx rfl (hb hby d6_13) rfl rfl ?_
    refine st401 _ ?_
    refine X401.arraylength hx (by rw [e401]; exact A402.1) (State.isArrayOf_alike hZ.alike A402.2.1) (g := (mkF m 17 #[.val (.ref a1), .val (.int (2 : Int32))] [(.ref am398), (.int (8 : Int32))])) rfl rfl (hb hby d6_17) _ ?_
    rw [len_of S402 M402]
    show Steps p.tables e below (T401.setTop (mkF m 18 #[.val (.ref a1), .val (.int (2 : Int32))] [(.int (2 : Int32)), (.int (8 : Int32))])) _
    refine XS.iconst X401.here hx rfl (hb hby d6_18) ?_
    refine XS.imul X401.here hx rfl (hb hby d6_19) rfl ?_
    refine XS.icmpNo X401.here hx rfl (hb hby d6_20) rfl (tlt (by decide : (6 : Int32) < (8 : Int32))).2.2.2 ?_
    refine XS.aloadN X401.here hx rfl (hb hby d6_23) rfl rfl ?_
    refine XS.aloadN X401.here hx rfl (hb hby d6_24) rfl rfl ?_
    refine st403 _ ?_
    refine XS.aloadN X403.here hx rfl (hb hby d6_28) rfl rfl ?_
    refine st404 _ ?_
    refine XS.aloadN X404.here hx rfl (hb hby d6_32) rfl rfl ?_
    refine st405 _ ?_
    refine XS.aloadN X405.here hx rfl (hb hby d6_36) rfl rfl ?_
    refine st406 _ ?_
    show Steps p.tables e below (T406.setTop (mkF m 40 #[.val (.ref a1), .val (.int (2 : Int32))] [(.ref am398), (.int (0 : Int32)), (.int (0 : Int32)), (.ref am398), (.ref a1)])) _
    refine X406.arraylength hx (by rw [e406]; exact A407.1) (State.isArrayOf_alike hZ.alike A407.2.1) (g := (mkF m 40 #[.val (.ref a1), .val (.int (2 : Int32))] [(.ref am398), (.int (0 : Int32)), (.int (0 : Int32)), (.ref am398), (.ref a1)])) rfl rfl (hb hby d6_40) _ ?_
    rw [len_of S407 M407]
    refine XS.iconst X406.here hx rfl (hb hby d6_41) ?_
    refine XS.imul X406.here hx rfl (hb hby d6_42) rfl ?_
    refine XS.iadd X406.here hx rfl (hb hby d6_43) rfl ?_
    refine st408 _ ?_
    refine st421 _ ?_
    refine XS.aloadN X421.here hx rfl (hb hby d6_50) rfl rfl ?_
    refine XS.aloadN X421.here hx rfl (hb hby d6_51) rfl rfl ?_
    refine st432 _ ?_
    refine XS.aloadN X432.here hx rfl (hb hby d6_55) rfl rfl ?_
    refine st433 _ ?_
    refine XS.aloadN X433.here hx rfl (hb hby d6_59) rfl rfl ?_
    show Steps p.tables e below (T433.setTop (mkF m 60 #[.val (.ref a1), .val (.int (2 : Int32))] [(.ref a1), (.int (0 : Int32)), (.ref ac398), (.ref a1)])) _
    refine st434 _ ?_
    refine XS.aloadN X434.here hx rfl (hb hby d6_63) rfl rfl ?_
    refine st435 _ ?_
    refine X435.arraylength hx (by rw [e435]; exact A436.1) (State.isArrayOf_alike hZ.alike A436.2.1) (g := (mkF m 67 #[.val (.ref a1), .val (.int (2 : Int32))] [(.ref ac398), (.int (0 : Int32)), (.int (0 : Int32)), (.ref ac398), (.ref a1)])) rfl rfl (hb hby d6_67) _ ?_
    rw [len_of S436 M436]
    refine XS.iconst X435.here hx rfl (hb hby d6_68) ?_
    refine XS.imul X435.here hx rfl (hb hby d6_69) rfl ?_
    refine XS.iadd X435.here hx rfl (hb hby d6_70) rfl ?_
    refine st437 _ ?_
    refine st452 _ ?_
    refine XS.goto X452.here hx rfl (pc0 := 77) (pc' := 114) rfl (hb hby d6_77) (by decide) (by decide) ?_
    refine XS.aloadN X452.here hx rfl (hb hby d6_114) rfl rfl ?_
    refine XS.iconst X452.here hx rfl (hb hby d6_115) ?_
    show Steps p.tables e below (T452.setTop (mkF m 116 #[.val (.ref a1), .val (.int (2 : Int32))] [(.int (0 : Int32)), (.ref a1)])) _
    refine st464 _ ?_
    refine XS.aloadN X464.here hx rfl (hb hby d6_119) rfl rfl ?_
    refine XS.iloadN X464.here hx rfl (hb hby d6_120) rfl ?_
    refine st476 _ ?_
    exact kt)
  have hz : h0.size ≤ h476.size := Nat.le_trans (Nat.le_trans (Nat.le_trans (Nat.le_trans (Nat.le_trans (Nat.le_trans (Nat.le_refl _) K408.1) (Keep.of_wr W421).1) K437.1) (Keep.of_wr W452).1) (Keep.of_wr W464).1) (Keep.of_wr W476).1
  have hQ : QRoom022 Z a1 x0 x1 y0 y1 b h0 n0 none h476 _ := ⟨rfl, N476, hz, ⟨r408, r437, kc408, kc437, c478, c484, c486, c487, Fw476, c480, c483, c485, Ga398, G408, G437, ne409, ne438, ne441⟩⟩
  exact own_retV X476 hx Bd.notSynchronized Bd.returns (hb hby d6_124) pre488 (show QRoom022 Z a1 x0 x1 y0 y1 b h0 n0 _ _ _ from (by rw [e476]; exact hQ)) (by decide) (by decide)
theorem d5_83 : decode prog_25_method_2_code 83 = .ok (.aload_n 0, 1) := by decide +kernel
theorem d5_84 : decode prog_25_method_2_code 84 = .ok (.invokevirtual 27, 3) := by decide +kernel
theorem pd_313 : parseMethodDescriptor "()V" = some ⟨[], none⟩ := by decide +kernel
def QCnt022a (Z : State) (a1 : Addr) (q2 : Int64) (p4 p5 : Int32) (x0 : Int64) (x1 : Int64) (y0 : Int32) (y1 : Int32) (b : Int32) (h0 : Heap) (n0 : Nat) (v : Option Value) (h : Heap) (L : List Loc) : Prop := v = none ∧ Fr n0 L ∧ h0.size ≤ h.size ∧ PT Z h n0 a1 (0 : Int32) (3 : Int32) (4 : Int32) [(.long x0), (.long x1), (.long q2), (.long (0 : Int64))] [(.int y0), (.int y1), (.int p4), (.int (0 : Int32))] b
set_option maxRecDepth 65536 in
set_option maxHeartbeats 40000000 in
theorem rmCnt022a (l : Launch) (Z : State) (a0 : Array Value) (hw : ∀ d ∈ tables_1, d.before a0 Z = true) (ws : List Jvm.Cond) (a1 : Addr) (q2 : Int64) (p4 p5 : Int32) (x0 : Int64) (x1 : Int64) (y0 : Int32) (y1 : Int32) (b : Int32) (h0 : Heap) (n0 : Nat) (Z0 : n0 ≤ h0.size) (P0 : PT Z h0 n0 a1 (0 : Int32) (2 : Int32) (2 : Int32) [(.long x0), (.long x1)] [(.int y0), (.int y1)] b) (c0 : x1 < q2) :
    MetFree l own_y_103 (head1 (Jvm.Cond.code own_y_103 prog_25_method_2_code 5 none :: ws) ({ frames := 4, cells := 2, slots := 8, locals := 104 } : Room)) (fun a U => a = #[(.ref a1), (.long q2), (.int p4), (.int p5)] ∧ Z.Warmed39 U.vm ∧ U.heap = h0) (fun _ _ _ _ _ => True) (fun _ U o U' => ∃ v L, o = .returned v ∧ QCnt022a Z a1 q2 p4 p5 x0 x1 y0 y1 b h0 n0 v U'.heap L ∧ FrameEnd U o U' L ({ frames := 4, cells := 2, slots := 8, locals := 104 } : Room).cells ({ frames := 4, cells := 2, slots := 8, locals := 104 } : Room).slots) := by
  refine MetFree.of_bodySF (plainFor_of_name pn_2) hisR ?_
  intro p e s m args below meth c s₁ Bd hml0 hP hK
  obtain ⟨rfl, hZ, hh⟩ := hP
  have hx := Bd.exec
  have hby := Bd.bytes
  have hml : c.maxLocals = 5 := hml0
  have hown : s.vm.findClass "com/example/viral_counter/viralcounter/PostTrend" = some m.cls := findClass_of_methodNamed Bd.named
  have hnm := (name_of_methodNamed Bd.named Bd.method).1
  have X0 : Stand p l e ({ frames := 4, cells := 2, slots := 8, locals := 104 } : Room) s m #[(.ref a1), (.long q2), (.int p4), (.int p5)] below meth c s₁ [] 0 0 := Stand.of_body Bd
  have e0 : s₁.heap = h0 := by rw [← hh, Bd.state]; rfl
  have N0 := Fr.nil n0
  have pre0 : ∀ t, Steps p.tables e below (s₁.setTop (mkF m 0 #[.val (.ref a1), .val (.long q2), .second, .val (.int p4), .val (.int p5)] [])) t → Steps p.tables e below (s₁.setTop (entryFrame m #[(.ref a1), (.long q2), (.int p4), (.int p5)] 5)) t := fun t k => castTop (ef_104 m a1 q2 p4 p5) k
  obtain ⟨am489, ac489, km489, kc489, E489, Fm489, Fc489, Ff489, Fe489, Fb489, Vm489, Vc489, Ga489, Gm489, Gc489, n1489, n2489, n3489⟩ := id P0
  have hz0 : h0.size ≤ h0.size := Nat.le_refl _
  obtain ⟨T490, X490, e490, st490⟩ := getF X0 hx hZ hown (host := "") (Or.inl (own_w hw 24 rfl)) Via.refl e0 Ff489 (g := (mkF m 1 #[.val (.ref a1), .val (.long q2), .second, .val (.int p4), .val (.int p5)] [(.ref a1)])) rfl rfl (hb hby d5_1)
  obtain ⟨T491, X491, e491, st491⟩ := getF X490 hx hZ hown (host := "") (Or.inl (own_w hw 26 rfl)) Via.refl e490 Fe489 (g := (mkF m 5 #[.val (.ref a1), .val (.long q2), .second, .val (.int p4), .val (.int p5)] [(.ref a1), (.int (0 : Int32))])) rfl rfl (hb hby d5_5)
  obtain ⟨T492, X492, e492, st492⟩ := getF X491 hx hZ hown (host := "") (Or.inl (own_w hw 24 rfl)) Via.refl e491 Ff489 (g := (mkF m 30 #[.val (.ref a1), .val (.long q2), .second, .val (.int p4), .val (.int p5)] [(.ref a1)])) rfl rfl (hb hby d5_30)
  obtain ⟨T493, X493, e493, st493⟩ := getF X492 hx hZ hown (host := "") (Or.inl (own_w hw 26 rfl)) Via.refl e492 Fe489 (g := (mkF m 34 #[.val (.ref a1), .val (.long q2), .second, .val (.int p4), .val (.int p5)] [(.ref a1), (.int (0 : Int32))])) rfl rfl (hb hby d5_34)
  obtain ⟨T494, X494, e494, st494⟩ := getF X493 hx hZ hown (host := "") (Or.inl (own_w hw 14 rfl)) Via.refl e493 Fm489 (g := (mkF m 42 #[.val (.ref a1), .val (.long q2), .second, .val (.int p4), .val (.int p5)] [(.ref a1), (.long q2)])) rfl rfl (hb hby d5_42)
  obtain ⟨T495, X495, e495, st495⟩ := getF X494 hx hZ hown (host := "") (Or.inl (own_w hw 26 rfl)) Via.refl e494 Fe489 (g := (mkF m 46 #[.val (.ref a1), .val (.long q2), .second, .val (.int p4), .val (.int p5)] [(.ref a1), (.ref am489), (.long q2)])) rfl rfl (hb hby d5_46)
  obtain ⟨cl496, A496, q496, S496, M496, H496, J496⟩ := id Vm489
  have hin496 : ¬ ((1 : Int32) < 0 ∨ cl496.slots.size ≤ ((1 : Int32)).toNatClampNeg) := inb_of S496 ⟨by decide, by decide⟩
  have hat496 : cl496.slots[((1 : Int32)).toNatClampNeg]? = some (.long x1) := H496.at hin496 rfl
  obtain ⟨T497, X497, e497, st497⟩ := getF X495 hx hZ hown (host := "") (Or.inl (own_w hw 26 rfl)) Via.refl e495 Fe489 (g := (mkF m 72 #[.val (.ref a1), .val (.long q2), .second, .val (.int p4), .val (.int p5)] [(.ref a1)])) rfl rfl (hb hby d5_72)
  obtain ⟨T498, X498, e498, st498⟩ := getF X497 hx hZ hown (host := "") (Or.inl (own_w hw 14 rfl)) Via.refl e497 Fm489 (g := (mkF m 76 #[.val (.ref a1), .val (.long q2), .second, .val (.int p4), .val (.int p5)] [(.ref a1), (.int (2 : Int32))])) rfl rfl (hb hby d5_76)
  obtain ⟨cl499, A499, q499, S499, M499, H499, J499⟩ := id Vm489
  have P500 : PT Z h0 n0 a1 (0 : Int32) (2 : Int32) (2 : Int32) [(.long x0), (.long x1)] [(.int y0), (.int y1)] b := ⟨am489, ac489, km489, kc489, E489, Fm489, Fc489, Ff489, Fe489, Fb489, Vm489, Vc489, Ga489, Gm489, Gc489, n1489, n2489, n3489⟩
  obtain ⟨cq501, q501, q501'⟩ := E489.cell
  obtain ⟨ci501, ki501, i1501, i2501, -, i4501, -⟩ := Cond.instantiable_spec (mvT (args := #[(.ref a1), (.long q2), (.int p4), (.int p5)]) hZ (own_w hw 5 rfl))
  have hni501 : ki501.isInterface = false := by cases q : ki501.isInterface <;> simp [q] at i4501 ⊢
  have hsel501 := selects_self_of_private (args := #[(.ref a1), (.long q2), (.int p4), (.int p5)]) (y := own_y_309) i1501 i2501 hni501 (Cond.privateMethod_at (mvP hZ (own_w hw 37 rfl) (args := #[]))) (mvT hZ (own_w hw 36 rfl)) (by decide)
  obtain ⟨_, _, ⟨T501, L501, k501, n501⟩, -, X501, ⟨Lc501, hQ501, l501, y501, z501⟩, st501⟩ := X498.privateBack hx (y := own_y_309) hown (mvT hZ (own_w hw 35 rfl)) (mvT hZ (own_w hw 36 rfl)) hsel501 (Cond.privateMethod_at (mvP hZ (own_w hw 37 rfl) (args := #[]))) (mvT hZ (own_w hw 38 rfl)) (by decide) (backOf (W := 0) (rmRoom022 l Z a0 hw [] a1 x0 x1 y0 y1 b h0 n0 Z0 P500) hZ (own_w hw 38 rfl) (own_w hw 6 rfl) (by decide) (by decide)) (g := (mkF m 84 #[.val (.ref a1), .val (.long q2), .second, .val (.int p4), .val (.int p5)] [(.ref a1)])) rfl (by rw [hml]; rfl) (Steps.refl _) (a := a1) (by rw [e498]; exact q501) q501' (argsL := []) (rest := []) (lenOf pd_313 rfl) rfl (by show 2 * 0 + _ ≤ _; exact Nat.le_of_eq rfl) (hb hby d5_84) (fun _ _ => ⟨rfl, e498, (by decide : 0 + 2 ≤ _), (by decide : 0 + 8 ≤ _)⟩)
  dsimp only [Pt.U, Pt.locs, Pt.cells, Pt.slots] at X501 l501 y501 z501 st501 hQ501
  subst l501 y501 z501
  obtain ⟨rfl, Nq501, z501, P501⟩ := hQ501
  have N501 := Fr.app N0 Nq501
  have z502 : n0 ≤ T501.heap.size := Nat.le_trans Z0 z501
  obtain ⟨am503, ac503, km503, kc503, E503, Fm503, Fc503, Ff503, Fe503, Fb503, Vm503, Vc503, Ga503, Gm503, Gc503, n1503, n2503, n3503⟩ := id P501
  obtain ⟨T504, X504, e504, st504⟩ := getF X501 hx hZ hown (host := "") (Or.inl (own_w hw 14 rfl)) Via.refl rfl Fm503 (g := (mkF m 88 #[.val (.ref a1), .val (.long q2), .second, .val (.int p4), .val (.int p5)] [(.ref a1)])) rfl rfl (hb hby d5_88)
  obtain ⟨T505, X505, e505, st505⟩ := getF X504 hx hZ hown (host := "") (Or.inl (own_w hw 26 rfl)) Via.refl e504 Fe503 (g := (mkF m 92 #[.val (.ref a1), .val (.long q2), .second, .val (.int p4), .val (.int p5)] [(.ref a1), (.ref am503)])) rfl rfl (hb hby d5_92)
  obtain ⟨cl506, Ar506, q506, S506, M506, H506, J506⟩ := id Vm503
  have hin506 : ¬ ((2 : Int32) < 0 ∨ cl506.slots.size ≤ ((2 : Int32)).toNatClampNeg) := inb_of S506 ⟨by decide, by decide⟩
  obtain ⟨T507, h507, X507, e507, W507, st507⟩ := stJ X505 hx hZ e505 Ar506 (j := (2 : Int32)) hin506 (g := (mkF m 96 #[.val (.ref a1), .val (.long q2), .second, .val (.int p4), .val (.int p5)] [(.long q2), (.int (2 : Int32)), (.ref am503)])) rfl rfl (hb hby d5_96)
  have V507 : Arv Z h507 am503 km503 .long (4 : Int32) [(.long x0), (.long x1), (.long q2), (.long (0 : Int64))] (.long (0 : Int64)) := Arv.set Ar506 q506 S506 M506 H506 J506 rfl W507 2 rfl (Nat.le_of_ble_eq_true rfl)
  have N507 := Fr.snoc X507 N501 Gm503
  have z508 : n0 ≤ h507.size := Nat.le_trans z502 (Keep.of_wr W507).1
  have c509 := E503.wr W507
  have c510 := Fm503.other W507 (Or.inl n1503)
  have c511 := Fc503.other W507 (Or.inl n1503)
  have c512 := Ff503.other W507 (Or.inl n1503)
  have c513 := Fe503.other W507 (Or.inl n1503)
  have c514 := Fb503.other W507 (Or.inl n1503)
  have c516 := Vc503.other W507 (Ne.symm n3503)
  obtain ⟨T517, X517, e517, st517⟩ := getF X507 hx hZ hown (host := "") (Or.inl (own_w hw 17 rfl)) Via.refl e507 c511 (g := (mkF m 98 #[.val (.ref a1), .val (.long q2), .second, .val (.int p4), .val (.int p5)] [(.ref a1)])) rfl rfl (hb hby d5_98)
  obtain ⟨T518, X518, e518, st518⟩ := getF X517 hx hZ hown (host := "") (Or.inl (own_w hw 26 rfl)) Via.refl e517 c513 (g := (mkF m 102 #[.val (.ref a1), .val (.long q2), .second, .val (.int p4), .val (.int p5)] [(.ref a1), (.ref ac503)])) rfl rfl (hb hby d5_102)
  obtain ⟨cl519, Ar519, q519, S519, M519, H519, J519⟩ := id c516
  have hin519 : ¬ ((2 : Int32) < 0 ∨ cl519.slots.size ≤ ((2 : Int32)).toNatClampNeg) := inb_of S519 ⟨by decide, by decide⟩
  obtain ⟨T520, h520, X520, e520, W520, st520⟩ := stI X518 hx hZ e518 Ar519 (j := (2 : Int32)) hin519 (g := (mkF m 106 #[.val (.ref a1), .val (.long q2), .second, .val (.int p4), .val (.int p5)] [(.int p4), (.int (2 : Int32)), (.ref ac503)])) rfl rfl (hb hby d5_106)
  have V520 : Arv Z h520 ac503 kc503 .int (4 : Int32) [(.int y0), (.int y1), (.int p4), (.int (0 : Int32))] (.int (0 : Int32)) := Arv.set Ar519 q519 S519 M519 H519 J519 rfl W520 2 rfl (Nat.le_of_ble_eq_true rfl)
  have N520 := Fr.snoc X520 N507 Gc503
  have z521 : n0 ≤ h520.size := Nat.le_trans z508 (Keep.of_wr W520).1
  have c522 := c509.wr W520
  have c523 := c510.other W520 (Or.inl n2503)
  have c524 := c511.other W520 (Or.inl n2503)
  have c525 := c512.other W520 (Or.inl n2503)
  have c526 := c513.other W520 (Or.inl n2503)
  have c527 := c514.other W520 (Or.inl n2503)
  have c529 := V507.other W520 n3503
  obtain ⟨T530, X530, e530, st530⟩ := getF X520 hx hZ hown (host := "") (Or.inl (own_w hw 26 rfl)) Via.refl e520 c526 (g := (mkF m 109 #[.val (.ref a1), .val (.long q2), .second, .val (.int p4), .val (.int p5)] [(.ref a1), (.ref a1)])) rfl rfl (hb hby d5_109)
  obtain ⟨T531, h531, X531, e531, W531, st531⟩ := putF X530 hx hZ hown (host := "") (Or.inl (own_w hw 26 rfl)) Via.refl e530 c526 c522 (Or.inl (own_w hw 27 rfl)) (own_w hw 5 rfl) (ty := .int) (by decide) rfl rfl (g := (mkF m 114 #[.val (.ref a1), .val (.long q2), .second, .val (.int p4), .val (.int p5)] [(.int (3 : Int32)), (.ref a1)])) rfl rfl (hb hby d5_114)
  have Fw531 := c526.same W531
  have N531 := Fr.snoc X531 N520 Ga503
  have z532 : n0 ≤ h531.size := Nat.le_trans z521 (Keep.of_wr W531).1
  have c533 := c522.wr W531
  have c534 := c523.other W531 (Or.inr (own_sn_98 hw))
  have c535 := c524.other W531 (Or.inr (own_sn_99 hw))
  have c536 := c525.other W531 (Or.inr (own_sn_100 hw))
  have c538 := c527.other W531 (Or.inr (own_sn_101 hw))
  have c539 := c529.other W531 (Ne.symm n1503)
  have c540 := V520.other W531 (Ne.symm n2503)
  have pre541 : ∀ t, Steps p.tables e below (T531.setTop (mkF m 117 #[.val (.ref a1), .val (.long q2), .second, .val (.int p4), .val (.int p5)] [])) t → Steps p.tables e below (s₁.setTop (entryFrame m #[(.ref a1), (.long q2), (.int p4), (.int p5)] 5)) t := fun t kt => pre0 t (by
    show Steps p.tables e below (s₁.setTop (mkF m 0 #[.val (.ref a1), .val (.long q2), .second, .val (.int p4), .val (.int p5)] [])) _
    refine XS.aloadN X0.here hx rfl (hb hby d5_0) rfl rfl ?_
    refine st490 _ ?_
    refine XS.aloadN X490.here hx rfl (hb hby d5_4) rfl rfl ?_
    refine st491 _ ?_
    refine XS.icmpYes X491.here hx rfl (pc0 := 8) (pc' := 29) rfl (hb hby d5_8) rfl (feq (by decide : ¬ ((0 : Int32) = (2 : Int32)))).2 (by decide) (by decide) ?_
    refine XS.aloadN X491.here hx rfl (hb hby d5_29) rfl rfl ?_
    refine st492 _ ?_
    refine XS.aloadN X492.here hx rfl (hb hby d5_33) rfl rfl ?_
    refine st493 _ ?_
    refine XS.icmpNo X493.here hx rfl (hb hby d5_37) rfl (tlt (by decide : (0 : Int32) < (2 : Int32))).2.1 ?_
    refine XS.lloadN X493.here hx rfl (hb hby d5_40) rfl ?_
    refine XS.aloadN X493.here hx rfl (hb hby d5_41) rfl rfl ?_
    show Steps p.tables e below (T493.setTop (mkF m 42 #[.val (.ref a1), .val (.long q2), .second, .val (.int p4), .val (.int p5)] [(.ref a1), (.long q2)])) _
    refine st494 _ ?_
    refine XS.aloadN X494.here hx rfl (hb hby d5_45) rfl rfl ?_
    refine st495 _ ?_
    refine XS.iconst X495.here hx rfl (hb hby d5_49) ?_
    refine XS.isub X495.here hx rfl (hb hby d5_50) rfl ?_
    refine X495.laload hx (j := (1 : Int32)) (v := (.long x1)) (by rw [e495]; exact A496.1) (State.isArrayOf_alike hZ.alike A496.2.1) A496.2.2 hin496 hat496 (g := (mkF m 51 #[.val (.ref a1), .val (.long q2), .second, .val (.int p4), .val (.int p5)] [(.int (1 : Int32)), (.ref am489), (.long q2)])) rfl rfl (hb hby d5_51) _ ?_
    refine XS.lcmp X495.here hx rfl (hb hby d5_52) rfl ?_
    refine XS.ifYes X495.here hx rfl (pc0 := 53) (pc' := 71) rfl (hb hby d5_53) rfl ((if0 _ _).trans (tlt ((lw_gt _ _).mpr c0)).2.2.1) (by decide) (by decide) ?_
    refine XS.aloadN X495.here hx rfl (hb hby d5_71) rfl rfl ?_
    refine st497 _ ?_
    refine XS.aloadN X497.here hx rfl (hb hby d5_75) rfl rfl ?_
    refine st498 _ ?_
    show Steps p.tables e below (T498.setTop (mkF m 79 #[.val (.ref a1), .val (.long q2), .second, .val (.int p4), .val (.int p5)] [(.ref am489), (.int (2 : Int32))])) _
    refine X498.arraylength hx (by rw [e498]; exact A499.1) (State.isArrayOf_alike hZ.alike A499.2.1) (g := (mkF m 79 #[.val (.ref a1), .val (.long q2), .second, .val (.int p4), .val (.int p5)] [(.ref am489), (.int (2 : Int32))])) rfl rfl (hb hby d5_79) _ ?_
    rw [len_of S499 M499]
    refine XS.icmpNo X498.here hx rfl (hb hby d5_80) rfl (teq (by decide : (2 : Int32) = (2 : Int32))).2 ?_
    refine XS.aloadN X498.here hx rfl (hb hby d5_83) rfl rfl ?_
    refine st501.trans ?_
    refine XS.aloadN X501.here hx rfl (hb hby d5_87) rfl rfl ?_
    refine st504 _ ?_
    refine XS.aloadN X504.here hx rfl (hb hby d5_91) rfl rfl ?_
    refine st505 _ ?_
    refine XS.lloadN X505.here hx rfl (hb hby d5_95) rfl ?_
    refine st507 _ ?_
    refine XS.aloadN X507.here hx rfl (hb hby d5_97) rfl rfl ?_
    refine st517 _ ?_
    show Steps p.tables e below (T517.setTop (mkF m 101 #[.val (.ref a1), .val (.long q2), .second, .val (.int p4), .val (.int p5)] [(.ref ac503)])) _
    refine XS.aloadN X517.here hx rfl (hb hby d5_101) rfl rfl ?_
    refine st518 _ ?_
    refine XS.iloadN X518.here hx rfl (hb hby d5_105) rfl ?_
    refine st520 _ ?_
    refine XS.aloadN X520.here hx rfl (hb hby d5_107) rfl rfl ?_
    refine XS.dup X520.here hx rfl (hb hby d5_108) rfl rfl ?_
    refine st530 _ ?_
    refine XS.iconst X530.here hx rfl (hb hby d5_112) ?_
    refine XS.iadd X530.here hx rfl (hb hby d5_113) rfl ?_
    refine st531 _ ?_
    exact kt)
  have hz : h0.size ≤ h531.size := Nat.le_trans (Nat.le_trans (Nat.le_trans (Nat.le_trans (Nat.le_refl _) z501) (Keep.of_wr W507).1) (Keep.of_wr W520).1) (Keep.of_wr W531).1
  have hQ : QCnt022a Z a1 q2 p4 p5 x0 x1 y0 y1 b h0 n0 none h531 _ := ⟨rfl, N531, hz, ⟨am503, ac503, km503, kc503, c533, c534, c535, c536, Fw531, c538, c539, c540, Ga503, Gm503, Gc503, n1503, n2503, n3503⟩⟩
  exact own_retV X531 hx Bd.notSynchronized Bd.returns (hb hby d5_117) pre541 (show QCnt022a Z a1 q2 p4 p5 x0 x1 y0 y1 b h0 n0 _ _ _ from (by rw [e531]; exact hQ)) (by decide) (by decide)
def QCnt022o (Z : State) (a1 : Addr) (q2 : Int64) (p4 p5 : Int32) (x0 : Int64) (x1 : Int64) (y0 : Int32) (y1 : Int32) (b : Int32) (h0 : Heap) (n0 : Nat) (v : Option Value) (h : Heap) (L : List Loc) : Prop := v = none ∧ Fr n0 L ∧ h0.size ≤ h.size ∧ PT Z h n0 a1 (0 : Int32) (2 : Int32) (2 : Int32) [(.long x0), (.long x1)] [(.int y0), (.int p4)] b
set_option maxRecDepth 65536 in
set_option maxHeartbeats 40000000 in
theorem rmCnt022o (l : Launch) (Z : State) (a0 : Array Value) (hw : ∀ d ∈ tables_1, d.before a0 Z = true) (ws : List Jvm.Cond) (a1 : Addr) (q2 : Int64) (p4 p5 : Int32) (x0 : Int64) (x1 : Int64) (y0 : Int32) (y1 : Int32) (b : Int32) (h0 : Heap) (n0 : Nat) (Z0 : n0 ≤ h0.size) (P0 : PT Z h0 n0 a1 (0 : Int32) (2 : Int32) (2 : Int32) [(.long x0), (.long x1)] [(.int y0), (.int y1)] b) (c0 : ¬ (x1 < q2)) :
    MetFree l own_y_103 (head1 (Jvm.Cond.code own_y_103 prog_25_method_2_code 5 none :: ws) ({ frames := 0, cells := 0, slots := 0, locals := 0 } : Room)) (fun a U => a = #[(.ref a1), (.long q2), (.int p4), (.int p5)] ∧ Z.Warmed39 U.vm ∧ U.heap = h0) (fun _ _ _ _ _ => True) (fun _ U o U' => ∃ v L, o = .returned v ∧ QCnt022o Z a1 q2 p4 p5 x0 x1 y0 y1 b h0 n0 v U'.heap L ∧ FrameEnd U o U' L ({ frames := 0, cells := 0, slots := 0, locals := 0 } : Room).cells ({ frames := 0, cells := 0, slots := 0, locals := 0 } : Room).slots) := by
  refine MetFree.of_bodySF (plainFor_of_name pn_2) hisR ?_
  intro p e s m args below meth c s₁ Bd hml0 hP hK
  obtain ⟨rfl, hZ, hh⟩ := hP
  have hx := Bd.exec
  have hby := Bd.bytes
  have hml : c.maxLocals = 5 := hml0
  have hown : s.vm.findClass "com/example/viral_counter/viralcounter/PostTrend" = some m.cls := findClass_of_methodNamed Bd.named
  have hnm := (name_of_methodNamed Bd.named Bd.method).1
  have X0 : Stand p l e ({ frames := 0, cells := 0, slots := 0, locals := 0 } : Room) s m #[(.ref a1), (.long q2), (.int p4), (.int p5)] below meth c s₁ [] 0 0 := Stand.of_body Bd
  have e0 : s₁.heap = h0 := by rw [← hh, Bd.state]; rfl
  have N0 := Fr.nil n0
  have pre0 : ∀ t, Steps p.tables e below (s₁.setTop (mkF m 0 #[.val (.ref a1), .val (.long q2), .second, .val (.int p4), .val (.int p5)] [])) t → Steps p.tables e below (s₁.setTop (entryFrame m #[(.ref a1), (.long q2), (.int p4), (.int p5)] 5)) t := fun t k => castTop (ef_104 m a1 q2 p4 p5) k
  obtain ⟨am546, ac546, km546, kc546, E546, Fm546, Fc546, Ff546, Fe546, Fb546, Vm546, Vc546, Ga546, Gm546, Gc546, n1546, n2546, n3546⟩ := id P0
  have hz0 : h0.size ≤ h0.size := Nat.le_refl _
  obtain ⟨T547, X547, e547, st547⟩ := getF X0 hx hZ hown (host := "") (Or.inl (own_w hw 24 rfl)) Via.refl e0 Ff546 (g := (mkF m 1 #[.val (.ref a1), .val (.long q2), .second, .val (.int p4), .val (.int p5)] [(.ref a1)])) rfl rfl (hb hby d5_1)
  obtain ⟨T548, X548, e548, st548⟩ := getF X547 hx hZ hown (host := "") (Or.inl (own_w hw 26 rfl)) Via.refl e547 Fe546 (g := (mkF m 5 #[.val (.ref a1), .val (.long q2), .second, .val (.int p4), .val (.int p5)] [(.ref a1), (.int (0 : Int32))])) rfl rfl (hb hby d5_5)
  obtain ⟨T549, X549, e549, st549⟩ := getF X548 hx hZ hown (host := "") (Or.inl (own_w hw 24 rfl)) Via.refl e548 Ff546 (g := (mkF m 30 #[.val (.ref a1), .val (.long q2), .second, .val (.int p4), .val (.int p5)] [(.ref a1)])) rfl rfl (hb hby d5_30)
  obtain ⟨T550, X550, e550, st550⟩ := getF X549 hx hZ hown (host := "") (Or.inl (own_w hw 26 rfl)) Via.refl e549 Fe546 (g := (mkF m 34 #[.val (.ref a1), .val (.long q2), .second, .val (.int p4), .val (.int p5)] [(.ref a1), (.int (0 : Int32))])) rfl rfl (hb hby d5_34)
  obtain ⟨T551, X551, e551, st551⟩ := getF X550 hx hZ hown (host := "") (Or.inl (own_w hw 14 rfl)) Via.refl e550 Fm546 (g := (mkF m 42 #[.val (.ref a1), .val (.long q2), .second, .val (.int p4), .val (.int p5)] [(.ref a1), (.long q2)])) rfl rfl (hb hby d5_42)
  obtain ⟨T552, X552, e552, st552⟩ := getF X551 hx hZ hown (host := "") (Or.inl (own_w hw 26 rfl)) Via.refl e551 Fe546 (g := (mkF m 46 #[.val (.ref a1), .val (.long q2), .second, .val (.int p4), .val (.int p5)] [(.ref a1), (.ref am546), (.long q2)])) rfl rfl (hb hby d5_46)
  obtain ⟨cl553, A553, q553, S553, M553, H553, J553⟩ := id Vm546
  have hin553 : ¬ ((1 : Int32) < 0 ∨ cl553.slots.size ≤ ((1 : Int32)).toNatClampNeg) := inb_of S553 ⟨by decide, by decide⟩
  have hat553 : cl553.slots[((1 : Int32)).toNatClampNeg]? = some (.long x1) := H553.at hin553 rfl
  obtain ⟨T554, X554, e554, st554⟩ := getF X552 hx hZ hown (host := "") (Or.inl (own_w hw 17 rfl)) Via.refl e552 Fc546 (g := (mkF m 57 #[.val (.ref a1), .val (.long q2), .second, .val (.int p4), .val (.int p5)] [(.ref a1)])) rfl rfl (hb hby d5_57)
  obtain ⟨T555, X555, e555, st555⟩ := getF X554 hx hZ hown (host := "") (Or.inl (own_w hw 26 rfl)) Via.refl e554 Fe546 (g := (mkF m 61 #[.val (.ref a1), .val (.long q2), .second, .val (.int p4), .val (.int p5)] [(.ref a1), (.ref ac546)])) rfl rfl (hb hby d5_61)
  obtain ⟨cl556, Ar556, q556, S556, M556, H556, J556⟩ := id Vc546
  have hin556 : ¬ ((1 : Int32) < 0 ∨ cl556.slots.size ≤ ((1 : Int32)).toNatClampNeg) := inb_of S556 ⟨by decide, by decide⟩
  obtain ⟨T557, h557, X557, e557, W557, st557⟩ := stI X555 hx hZ e555 Ar556 (j := (1 : Int32)) hin556 (g := (mkF m 67 #[.val (.ref a1), .val (.long q2), .second, .val (.int p4), .val (.int p5)] [(.int p4), (.int (1 : Int32)), (.ref ac546)])) rfl rfl (hb hby d5_67)
  have V557 : Arv Z h557 ac546 kc546 .int (2 : Int32) [(.int y0), (.int p4)] (.int (0 : Int32)) := Arv.set Ar556 q556 S556 M556 H556 J556 rfl W557 1 rfl (Nat.le_of_ble_eq_true rfl)
  have N557 := Fr.snoc X557 N0 Gc546
  have z558 : n0 ≤ h557.size := Nat.le_trans Z0 (Keep.of_wr W557).1
  have c559 := E546.wr W557
  have c560 := Fm546.other W557 (Or.inl n2546)
  have c561 := Fc546.other W557 (Or.inl n2546)
  have c562 := Ff546.other W557 (Or.inl n2546)
  have c563 := Fe546.other W557 (Or.inl n2546)
  have c564 := Fb546.other W557 (Or.inl n2546)
  have c565 := Vm546.other W557 n3546
  have pre567 : ∀ t, Steps p.tables e below (T557.setTop (mkF m 117 #[.val (.ref a1), .val (.long q2), .second, .val (.int p4), .val (.int p5)] [])) t → Steps p.tables e below (s₁.setTop (entryFrame m #[(.ref a1), (.long q2), (.int p4), (.int p5)] 5)) t := fun t kt => pre0 t (by
    show Steps p.tables e below (s₁.setTop (mkF m 0 #[.val (.ref a1), .val (.long q2), .second, .val (.int p4), .val (.int p5)] [])) _
    refine XS.aloadN X0.here hx rfl (hb hby d5_0) rfl rfl ?_
    refine st547 _ ?_
    refine XS.aloadN X547.here hx rfl (hb hby d5_4) rfl rfl ?_
    refine st548 _ ?_
    refine XS.icmpYes X548.here hx rfl (pc0 := 8) (pc' := 29) rfl (hb hby d5_8) rfl (feq (by decide : ¬ ((0 : Int32) = (2 : Int32)))).2 (by decide) (by decide) ?_
    refine XS.aloadN X548.here hx rfl (hb hby d5_29) rfl rfl ?_
    refine st549 _ ?_
    refine XS.aloadN X549.here hx rfl (hb hby d5_33) rfl rfl ?_
    refine st550 _ ?_
    refine XS.icmpNo X550.here hx rfl (hb hby d5_37) rfl (tlt (by decide : (0 : Int32) < (2 : Int32))).2.1 ?_
    refine XS.lloadN X550.here hx rfl (hb hby d5_40) rfl ?_
    refine XS.aloadN X550.here hx rfl (hb hby d5_41) rfl rfl ?_
    show Steps p.tables e below (T550.setTop (mkF m 42 #[.val (.ref a1), .val (.long q2), .second, .val (.int p4), .val (.int p5)] [(.ref a1), (.long q2)])) _
    refine st551 _ ?_
    refine XS.aloadN X551.here hx rfl (hb hby d5_45) rfl rfl ?_
    refine st552 _ ?_
    refine XS.iconst X552.here hx rfl (hb hby d5_49) ?_
    refine XS.isub X552.here hx rfl (hb hby d5_50) rfl ?_
    refine X552.laload hx (j := (1 : Int32)) (v := (.long x1)) (by rw [e552]; exact A553.1) (State.isArrayOf_alike hZ.alike A553.2.1) A553.2.2 hin553 hat553 (g := (mkF m 51 #[.val (.ref a1), .val (.long q2), .second, .val (.int p4), .val (.int p5)] [(.int (1 : Int32)), (.ref am546), (.long q2)])) rfl rfl (hb hby d5_51) _ ?_
    refine XS.lcmp X552.here hx rfl (hb hby d5_52) rfl ?_
    refine XS.ifNo X552.here hx rfl (hb hby d5_53) rfl ((if0 _ _).trans (flt (fun q => c0 ((lw_gt _ _).mp q))).2.2.1) ?_
    refine XS.aloadN X552.here hx rfl (hb hby d5_56) rfl rfl ?_
    refine st554 _ ?_
    refine XS.aloadN X554.here hx rfl (hb hby d5_60) rfl rfl ?_
    refine st555 _ ?_
    show Steps p.tables e below (T555.setTop (mkF m 64 #[.val (.ref a1), .val (.long q2), .second, .val (.int p4), .val (.int p5)] [(.int (2 : Int32)), (.ref ac546)])) _
    refine XS.iconst X555.here hx rfl (hb hby d5_64) ?_
    refine XS.isub X555.here hx rfl (hb hby d5_65) rfl ?_
    refine XS.iloadN X555.here hx rfl (hb hby d5_66) rfl ?_
    refine st557 _ ?_
    refine XS.goto X557.here hx rfl (pc0 := 68) (pc' := 117) rfl (hb hby d5_68) (by decide) (by decide) ?_
    exact kt)
  have hz : h0.size ≤ h557.size := Nat.le_trans (Nat.le_refl _) (Keep.of_wr W557).1
  have hQ : QCnt022o Z a1 q2 p4 p5 x0 x1 y0 y1 b h0 n0 none h557 _ := ⟨rfl, N557, hz, ⟨am546, ac546, km546, kc546, c559, c560, c561, c562, c563, c564, c565, V557, Ga546, Gm546, Gc546, n1546, n2546, n3546⟩⟩
  exact own_retV X557 hx Bd.notSynchronized Bd.returns (hb hby d5_117) pre567 (show QCnt022o Z a1 q2 p4 p5 x0 x1 y0 y1 b h0 n0 _ _ _ from (by rw [e557]; exact hQ)) (by decide) (by decide)
def QFgt022_2 (Z : State) (a1 : Addr) (q2 : Int64) (x0 : Int64) (x1 : Int64) (y0 : Int32) (y1 : Int32) (b : Int32) (h0 : Heap) (n0 : Nat) (v : Option Value) (h : Heap) (L : List Loc) : Prop := v = none ∧ Fr n0 L ∧ h0.size ≤ h.size ∧ PT Z h n0 a1 (2 : Int32) (2 : Int32) (2 : Int32) [(.long x0), (.long x1)] [(.int y0), (.int y1)] y1
set_option maxRecDepth 65536 in
set_option maxHeartbeats 40000000 in
theorem rmFgt022_2 (l : Launch) (Z : State) (a0 : Array Value) (hw : ∀ d ∈ tables_1, d.before a0 Z = true) (ws : List Jvm.Cond) (a1 : Addr) (q2 : Int64) (x0 : Int64) (x1 : Int64) (y0 : Int32) (y1 : Int32) (b : Int32) (h0 : Heap) (n0 : Nat) (Z0 : n0 ≤ h0.size) (P0 : PT Z h0 n0 a1 (0 : Int32) (2 : Int32) (2 : Int32) [(.long x0), (.long x1)] [(.int y0), (.int y1)] b) (c0 : x0 < q2) (c1 : x1 < q2) :
    MetFree l own_y_113 (head1 (Jvm.Cond.code own_y_113 prog_25_method_4_code 3 none :: ws) ({ frames := 0, cells := 0, slots := 0, locals := 0 } : Room)) (fun a U => a = #[(.ref a1), (.long q2)] ∧ Z.Warmed39 U.vm ∧ U.heap = h0) (fun _ _ _ _ _ => True) (fun _ U o U' => ∃ v L, o = .returned v ∧ QFgt022_2 Z a1 q2 x0 x1 y0 y1 b h0 n0 v U'.heap L ∧ FrameEnd U o U' L ({ frames := 0, cells := 0, slots := 0, locals := 0 } : Room).cells ({ frames := 0, cells := 0, slots := 0, locals := 0 } : Room).slots) := by
  refine MetFree.of_bodySF (plainFor_of_name pn_2) hisR ?_
  intro p e s m args below meth c s₁ Bd hml0 hP hK
  obtain ⟨rfl, hZ, hh⟩ := hP
  have hx := Bd.exec
  have hby := Bd.bytes
  have hml : c.maxLocals = 3 := hml0
  have hown : s.vm.findClass "com/example/viral_counter/viralcounter/PostTrend" = some m.cls := findClass_of_methodNamed Bd.named
  have hnm := (name_of_methodNamed Bd.named Bd.method).1
  have X0 : Stand p l e ({ frames := 0, cells := 0, slots := 0, locals := 0 } : Room) s m #[(.ref a1), (.long q2)] below meth c s₁ [] 0 0 := Stand.of_body Bd
  have e0 : s₁.heap = h0 := by rw [← hh, Bd.state]; rfl
  have N0 := Fr.nil n0
  have pre0 : ∀ t, Steps p.tables e below (s₁.setTop (mkF m 0 #[.val (.ref a1), .val (.long q2), .second] [])) t → Steps p.tables e below (s₁.setTop (entryFrame m #[(.ref a1), (.long q2)] 3)) t := fun t k => castTop (ef_114 m a1 q2) k
  obtain ⟨am575, ac575, km575, kc575, E575, Fm575, Fc575, Ff575, Fe575, Fb575, Vm575, Vc575, Ga575, Gm575, Gc575, n1575, n2575, n3575⟩ := id P0
  have hz0 : h0.size ≤ h0.size := Nat.le_refl _
  obtain ⟨T576, X576, e576, st576⟩ := getF X0 hx hZ hown (host := "") (Or.inl (own_w hw 24 rfl)) Via.refl e0 Ff575 (g := (mkF m 1 #[.val (.ref a1), .val (.long q2), .second] [(.ref a1)])) rfl rfl (hb hby d13_1)
  obtain ⟨T577, X577, e577, st577⟩ := getF X576 hx hZ hown (host := "") (Or.inl (own_w hw 26 rfl)) Via.refl e576 Fe575 (g := (mkF m 5 #[.val (.ref a1), .val (.long q2), .second] [(.ref a1), (.int (0 : Int32))])) rfl rfl (hb hby d13_5)
  obtain ⟨T578, X578, e578, st578⟩ := getF X577 hx hZ hown (host := "") (Or.inl (own_w hw 14 rfl)) Via.refl e577 Fm575 (g := (mkF m 12 #[.val (.ref a1), .val (.long q2), .second] [(.ref a1)])) rfl rfl (hb hby d13_12)
  obtain ⟨T579, X579, e579, st579⟩ := getF X578 hx hZ hown (host := "") (Or.inl (own_w hw 24 rfl)) Via.refl e578 Ff575 (g := (mkF m 16 #[.val (.ref a1), .val (.long q2), .second] [(.ref a1), (.ref am575)])) rfl rfl (hb hby d13_16)
  obtain ⟨cl580, A580, q580, S580, M580, H580, J580⟩ := id Vm575
  have hin580 : ¬ ((0 : Int32) < 0 ∨ cl580.slots.size ≤ ((0 : Int32)).toNatClampNeg) := inb_of S580 ⟨by decide, by decide⟩
  have hat580 : cl580.slots[((0 : Int32)).toNatClampNeg]? = some (.long x0) := H580.at hin580 rfl
  obtain ⟨T581, X581, e581, st581⟩ := getF X579 hx hZ hown (host := "") (Or.inl (own_w hw 17 rfl)) Via.refl e579 Fc575 (g := (mkF m 27 #[.val (.ref a1), .val (.long q2), .second] [(.ref a1), (.ref a1)])) rfl rfl (hb hby d13_27)
  obtain ⟨T582, X582, e582, st582⟩ := getF X581 hx hZ hown (host := "") (Or.inl (own_w hw 24 rfl)) Via.refl e581 Ff575 (g := (mkF m 31 #[.val (.ref a1), .val (.long q2), .second] [(.ref a1), (.ref ac575), (.ref a1)])) rfl rfl (hb hby d13_31)
  obtain ⟨cl583, A583, q583, S583, M583, H583, J583⟩ := id Vc575
  have hin583 : ¬ ((0 : Int32) < 0 ∨ cl583.slots.size ≤ ((0 : Int32)).toNatClampNeg) := inb_of S583 ⟨by decide, by decide⟩
  have hat583 : cl583.slots[((0 : Int32)).toNatClampNeg]? = some (.int y0) := H583.at hin583 rfl
  obtain ⟨T584, h584, X584, e584, W584, st584⟩ := putF X582 hx hZ hown (host := "") (Or.inl (own_w hw 33 rfl)) Via.refl e582 Fb575 E575 (Or.inl (own_w hw 34 rfl)) (own_w hw 5 rfl) (ty := .int) (by decide) rfl rfl (g := (mkF m 35 #[.val (.ref a1), .val (.long q2), .second] [(.int y0), (.ref a1)])) rfl rfl (hb hby d13_35)
  have Fw584 := Fb575.same W584
  have N584 := Fr.snoc X584 N0 Ga575
  have z585 : n0 ≤ h584.size := Nat.le_trans Z0 (Keep.of_wr W584).1
  have c586 := E575.wr W584
  have c587 := Fm575.other W584 (Or.inr (own_sn_65 hw))
  have c588 := Fc575.other W584 (Or.inr (own_sn_66 hw))
  have c589 := Ff575.other W584 (Or.inr (own_sn_67 hw))
  have c590 := Fe575.other W584 (Or.inr (own_sn_68 hw))
  have c592 := Vm575.other W584 (Ne.symm n1575)
  have c593 := Vc575.other W584 (Ne.symm n2575)
  obtain ⟨T594, X594, e594, st594⟩ := getF X584 hx hZ hown (host := "") (Or.inl (own_w hw 24 rfl)) Via.refl e584 c589 (g := (mkF m 40 #[.val (.ref a1), .val (.long q2), .second] [(.ref a1), (.ref a1)])) rfl rfl (hb hby d13_40)
  obtain ⟨T595, h595, X595, e595, W595, st595⟩ := putF X594 hx hZ hown (host := "") (Or.inl (own_w hw 24 rfl)) Via.refl e594 c589 c586 (Or.inl (own_w hw 25 rfl)) (own_w hw 5 rfl) (ty := .int) (by decide) rfl rfl (g := (mkF m 45 #[.val (.ref a1), .val (.long q2), .second] [(.int (1 : Int32)), (.ref a1)])) rfl rfl (hb hby d13_45)
  have Fw595 := c589.same W595
  have N595 := Fr.snoc X595 N584 Ga575
  have z596 : n0 ≤ h595.size := Nat.le_trans z585 (Keep.of_wr W595).1
  have c597 := c586.wr W595
  have c598 := c587.other W595 (Or.inr (own_sn_156 hw))
  have c599 := c588.other W595 (Or.inr (own_sn_157 hw))
  have c601 := c590.other W595 (Or.inr (own_sn_158 hw))
  have c602 := c592.other W595 (Ne.symm n1575)
  have c603 := c593.other W595 (Ne.symm n2575)
  have c604 := Fw584.other W595 (Or.inr (own_sn_159 hw))
  obtain ⟨T605, X605, e605, st605⟩ := getF X595 hx hZ hown (host := "") (Or.inl (own_w hw 24 rfl)) Via.refl e595 Fw595 (g := (mkF m 1 #[.val (.ref a1), .val (.long q2), .second] [(.ref a1)])) rfl rfl (hb hby d13_1)
  obtain ⟨T606, X606, e606, st606⟩ := getF X605 hx hZ hown (host := "") (Or.inl (own_w hw 26 rfl)) Via.refl e605 c601 (g := (mkF m 5 #[.val (.ref a1), .val (.long q2), .second] [(.ref a1), (.int (1 : Int32))])) rfl rfl (hb hby d13_5)
  obtain ⟨T607, X607, e607, st607⟩ := getF X606 hx hZ hown (host := "") (Or.inl (own_w hw 14 rfl)) Via.refl e606 c598 (g := (mkF m 12 #[.val (.ref a1), .val (.long q2), .second] [(.ref a1)])) rfl rfl (hb hby d13_12)
  obtain ⟨T608, X608, e608, st608⟩ := getF X607 hx hZ hown (host := "") (Or.inl (own_w hw 24 rfl)) Via.refl e607 Fw595 (g := (mkF m 16 #[.val (.ref a1), .val (.long q2), .second] [(.ref a1), (.ref am575)])) rfl rfl (hb hby d13_16)
  obtain ⟨cl609, A609, q609, S609, M609, H609, J609⟩ := id c602
  have hin609 : ¬ ((1 : Int32) < 0 ∨ cl609.slots.size ≤ ((1 : Int32)).toNatClampNeg) := inb_of S609 ⟨by decide, by decide⟩
  have hat609 : cl609.slots[((1 : Int32)).toNatClampNeg]? = some (.long x1) := H609.at hin609 rfl
  obtain ⟨T610, X610, e610, st610⟩ := getF X608 hx hZ hown (host := "") (Or.inl (own_w hw 17 rfl)) Via.refl e608 c599 (g := (mkF m 27 #[.val (.ref a1), .val (.long q2), .second] [(.ref a1), (.ref a1)])) rfl rfl (hb hby d13_27)
  obtain ⟨T611, X611, e611, st611⟩ := getF X610 hx hZ hown (host := "") (Or.inl (own_w hw 24 rfl)) Via.refl e610 Fw595 (g := (mkF m 31 #[.val (.ref a1), .val (.long q2), .second] [(.ref a1), (.ref ac575), (.ref a1)])) rfl rfl (hb hby d13_31)
  obtain ⟨cl612, A612, q612, S612, M612, H612, J612⟩ := id c603
  have hin612 : ¬ ((1 : Int32) < 0 ∨ cl612.slots.size ≤ ((1 : Int32)).toNatClampNeg) := inb_of S612 ⟨by decide, by decide⟩
  have hat612 : cl612.slots[((1 : Int32)).toNatClampNeg]? = some (.int y1) := H612.at hin612 rfl
  obtain ⟨T613, h613, X613, e613, W613, st613⟩ := putF X611 hx hZ hown (host := "") (Or.inl (own_w hw 33 rfl)) Via.refl e611 c604 c597 (Or.inl (own_w hw 34 rfl)) (own_w hw 5 rfl) (ty := .int) (by decide) rfl rfl (g := (mkF m 35 #[.val (.ref a1), .val (.long q2), .second] [(.int y1), (.ref a1)])) rfl rfl (hb hby d13_35)
  have Fw613 := c604.same W613
  have N613 := Fr.snoc X613 N595 Ga575
  have z614 : n0 ≤ h613.size := Nat.le_trans z596 (Keep.of_wr W613).1
  have c615 := c597.wr W613
  have c616 := c598.other W613 (Or.inr (own_sn_65 hw))
  have c617 := c599.other W613 (Or.inr (own_sn_66 hw))
  have c618 := c601.other W613 (Or.inr (own_sn_68 hw))
  have c619 := c602.other W613 (Ne.symm n1575)
  have c620 := c603.other W613 (Ne.symm n2575)
  have c622 := Fw595.other W613 (Or.inr (own_sn_67 hw))
  obtain ⟨T623, X623, e623, st623⟩ := getF X613 hx hZ hown (host := "") (Or.inl (own_w hw 24 rfl)) Via.refl e613 c622 (g := (mkF m 40 #[.val (.ref a1), .val (.long q2), .second] [(.ref a1), (.ref a1)])) rfl rfl (hb hby d13_40)
  obtain ⟨T624, h624, X624, e624, W624, st624⟩ := putF X623 hx hZ hown (host := "") (Or.inl (own_w hw 24 rfl)) Via.refl e623 c622 c615 (Or.inl (own_w hw 25 rfl)) (own_w hw 5 rfl) (ty := .int) (by decide) rfl rfl (g := (mkF m 45 #[.val (.ref a1), .val (.long q2), .second] [(.int (2 : Int32)), (.ref a1)])) rfl rfl (hb hby d13_45)
  have Fw624 := c622.same W624
  have N624 := Fr.snoc X624 N613 Ga575
  have z625 : n0 ≤ h624.size := Nat.le_trans z614 (Keep.of_wr W624).1
  have c626 := c615.wr W624
  have c627 := c616.other W624 (Or.inr (own_sn_156 hw))
  have c628 := c617.other W624 (Or.inr (own_sn_157 hw))
  have c629 := c618.other W624 (Or.inr (own_sn_158 hw))
  have c630 := c619.other W624 (Ne.symm n1575)
  have c631 := c620.other W624 (Ne.symm n2575)
  have c633 := Fw613.other W624 (Or.inr (own_sn_159 hw))
  obtain ⟨T634, X634, e634, st634⟩ := getF X624 hx hZ hown (host := "") (Or.inl (own_w hw 24 rfl)) Via.refl e624 Fw624 (g := (mkF m 1 #[.val (.ref a1), .val (.long q2), .second] [(.ref a1)])) rfl rfl (hb hby d13_1)
  obtain ⟨T635, X635, e635, st635⟩ := getF X634 hx hZ hown (host := "") (Or.inl (own_w hw 26 rfl)) Via.refl e634 c629 (g := (mkF m 5 #[.val (.ref a1), .val (.long q2), .second] [(.ref a1), (.int (2 : Int32))])) rfl rfl (hb hby d13_5)
  have pre636 : ∀ t, Steps p.tables e below (T635.setTop (mkF m 51 #[.val (.ref a1), .val (.long q2), .second] [])) t → Steps p.tables e below (s₁.setTop (entryFrame m #[(.ref a1), (.long q2)] 3)) t := fun t kt => pre0 t (by
    show Steps p.tables e below (s₁.setTop (mkF m 0 #[.val (.ref a1), .val (.long q2), .second] [])) _
    refine XS.aloadN X0.here hx rfl (hb hby d13_0) rfl rfl ?_
    refine st576 _ ?_
    refine XS.aloadN X576.here hx rfl (hb hby d13_4) rfl rfl ?_
    refine st577 _ ?_
    refine XS.icmpNo X577.here hx rfl (hb hby d13_8) rfl (tlt (by decide : (0 : Int32) < (2 : Int32))).2.1 ?_
    refine XS.aloadN X577.here hx rfl (hb hby d13_11) rfl rfl ?_
    refine st578 _ ?_
    refine XS.aloadN X578.here hx rfl (hb hby d13_15) rfl rfl ?_
    refine st579 _ ?_
    refine X579.laload hx (j := (0 : Int32)) (v := (.long x0)) (by rw [e579]; exact A580.1) (State.isArrayOf_alike hZ.alike A580.2.1) A580.2.2 hin580 hat580 (g := (mkF m 19 #[.val (.ref a1), .val (.long q2), .second] [(.int (0 : Int32)), (.ref am575)])) rfl rfl (hb hby d13_19) _ ?_
    refine XS.lloadN X579.here hx rfl (hb hby d13_20) rfl ?_
    refine XS.lcmp X579.here hx rfl (hb hby d13_21) rfl ?_
    show Steps p.tables e below (T579.setTop (mkF m 22 #[.val (.ref a1), .val (.long q2), .second] [(.int (lcmpW x0 q2))])) _
    refine XS.ifNo X579.here hx rfl (hb hby d13_22) rfl ((if0 _ _).trans (tlt ((lw_lt _ _).mpr c0)).2.1) ?_
    refine XS.aloadN X579.here hx rfl (hb hby d13_25) rfl rfl ?_
    refine XS.aloadN X579.here hx rfl (hb hby d13_26) rfl rfl ?_
    refine st581 _ ?_
    refine XS.aloadN X581.here hx rfl (hb hby d13_30) rfl rfl ?_
    refine st582 _ ?_
    refine X582.iaload hx (j := (0 : Int32)) (v := (.int y0)) (by rw [e582]; exact A583.1) (State.isArrayOf_alike hZ.alike A583.2.1) A583.2.2 hin583 hat583 (g := (mkF m 34 #[.val (.ref a1), .val (.long q2), .second] [(.int (0 : Int32)), (.ref ac575), (.ref a1)])) rfl rfl (hb hby d13_34) _ ?_
    refine st584 _ ?_
    refine XS.aloadN X584.here hx rfl (hb hby d13_38) rfl rfl ?_
    refine XS.dup X584.here hx rfl (hb hby d13_39) rfl rfl ?_
    refine st594 _ ?_
    refine XS.iconst X594.here hx rfl (hb hby d13_43) ?_
    show Steps p.tables e below (T594.setTop (mkF m 44 #[.val (.ref a1), .val (.long q2), .second] [(.int (1 : Int32)), (.int (0 : Int32)), (.ref a1)])) _
    refine XS.iadd X594.here hx rfl (hb hby d13_44) rfl ?_
    refine st595 _ ?_
    refine XS.goto X595.here hx rfl (pc0 := 48) (pc' := 0) rfl (hb hby d13_48) (by decide) (by decide) ?_
    refine XS.aloadN X595.here hx rfl (hb hby d13_0) rfl rfl ?_
    refine st605 _ ?_
    refine XS.aloadN X605.here hx rfl (hb hby d13_4) rfl rfl ?_
    refine st606 _ ?_
    refine XS.icmpNo X606.here hx rfl (hb hby d13_8) rfl (tlt (by decide : (1 : Int32) < (2 : Int32))).2.1 ?_
    refine XS.aloadN X606.here hx rfl (hb hby d13_11) rfl rfl ?_
    refine st607 _ ?_
    refine XS.aloadN X607.here hx rfl (hb hby d13_15) rfl rfl ?_
    refine st608 _ ?_
    show Steps p.tables e below (T608.setTop (mkF m 19 #[.val (.ref a1), .val (.long q2), .second] [(.int (1 : Int32)), (.ref am575)])) _
    refine X608.laload hx (j := (1 : Int32)) (v := (.long x1)) (by rw [e608]; exact A609.1) (State.isArrayOf_alike hZ.alike A609.2.1) A609.2.2 hin609 hat609 (g := (mkF m 19 #[.val (.ref a1), .val (.long q2), .second] [(.int (1 : Int32)), (.ref am575)])) rfl rfl (hb hby d13_19) _ ?_
    refine XS.lloadN X608.here hx rfl (hb hby d13_20) rfl ?_
    refine XS.lcmp X608.here hx rfl (hb hby d13_21) rfl ?_
    refine XS.ifNo X608.here hx rfl (hb hby d13_22) rfl ((if0 _ _).trans (tlt ((lw_lt _ _).mpr c1)).2.1) ?_
    refine XS.aloadN X608.here hx rfl (hb hby d13_25) rfl rfl ?_
    refine XS.aloadN X608.here hx rfl (hb hby d13_26) rfl rfl ?_
    refine st610 _ ?_
    refine XS.aloadN X610.here hx rfl (hb hby d13_30) rfl rfl ?_
    refine st611 _ ?_
    refine X611.iaload hx (j := (1 : Int32)) (v := (.int y1)) (by rw [e611]; exact A612.1) (State.isArrayOf_alike hZ.alike A612.2.1) A612.2.2 hin612 hat612 (g := (mkF m 34 #[.val (.ref a1), .val (.long q2), .second] [(.int (1 : Int32)), (.ref ac575), (.ref a1)])) rfl rfl (hb hby d13_34) _ ?_
    refine st613 _ ?_
    refine XS.aloadN X613.here hx rfl (hb hby d13_38) rfl rfl ?_
    show Steps p.tables e below (T613.setTop (mkF m 39 #[.val (.ref a1), .val (.long q2), .second] [(.ref a1)])) _
    refine XS.dup X613.here hx rfl (hb hby d13_39) rfl rfl ?_
    refine st623 _ ?_
    refine XS.iconst X623.here hx rfl (hb hby d13_43) ?_
    refine XS.iadd X623.here hx rfl (hb hby d13_44) rfl ?_
    refine st624 _ ?_
    refine XS.goto X624.here hx rfl (pc0 := 48) (pc' := 0) rfl (hb hby d13_48) (by decide) (by decide) ?_
    refine XS.aloadN X624.here hx rfl (hb hby d13_0) rfl rfl ?_
    refine st634 _ ?_
    refine XS.aloadN X634.here hx rfl (hb hby d13_4) rfl rfl ?_
    refine st635 _ ?_
    refine XS.icmpYes X635.here hx rfl (pc0 := 8) (pc' := 51) rfl (hb hby d13_8) rfl (flt (by decide : ¬ ((2 : Int32) < (2 : Int32)))).2.1 (by decide) (by decide) ?_
    exact kt)
  have hz : h0.size ≤ h624.size := Nat.le_trans (Nat.le_trans (Nat.le_trans (Nat.le_trans (Nat.le_refl _) (Keep.of_wr W584).1) (Keep.of_wr W595).1) (Keep.of_wr W613).1) (Keep.of_wr W624).1
  have hQ : QFgt022_2 Z a1 q2 x0 x1 y0 y1 b h0 n0 none h624 _ := ⟨rfl, N624, hz, ⟨am575, ac575, km575, kc575, c626, c627, c628, Fw624, c629, c633, c630, c631, Ga575, Gm575, Gc575, n1575, n2575, n3575⟩⟩
  exact own_retV X635 hx Bd.notSynchronized Bd.returns (hb hby d13_51) pre636 (show QFgt022_2 Z a1 q2 x0 x1 y0 y1 b h0 n0 _ _ _ from (by rw [e635]; exact hQ)) (by decide) (by decide)
theorem d6_80 : decode prog_25_method_8_code 80 = .ok (.aload_n 0, 1) := by decide +kernel
theorem d6_81 : decode prog_25_method_8_code 81 = .ok (.getfield 9, 3) := by decide +kernel
theorem d6_84 : decode prog_25_method_8_code 84 = .ok (.aload_n 0, 1) := by decide +kernel
theorem d6_85 : decode prog_25_method_8_code 85 = .ok (.getfield 17, 3) := by decide +kernel
theorem d6_88 : decode prog_25_method_8_code 88 = .ok (.aload_n 0, 1) := by decide +kernel
theorem d6_89 : decode prog_25_method_8_code 89 = .ok (.getfield 9, 3) := by decide +kernel
theorem d6_92 : decode prog_25_method_8_code 92 = .ok (.iconst 0, 1) := by decide +kernel
theorem d6_93 : decode prog_25_method_8_code 93 = .ok (.iload_n 1, 1) := by decide +kernel
theorem d6_94 : decode prog_25_method_8_code 94 = .ok (.invokestatic 47, 3) := by decide +kernel
theorem d6_97 : decode prog_25_method_8_code 97 = .ok (.aload_n 0, 1) := by decide +kernel
theorem d6_98 : decode prog_25_method_8_code 98 = .ok (.getfield 13, 3) := by decide +kernel
theorem d6_101 : decode prog_25_method_8_code 101 = .ok (.aload_n 0, 1) := by decide +kernel
theorem d6_102 : decode prog_25_method_8_code 102 = .ok (.getfield 17, 3) := by decide +kernel
theorem d6_105 : decode prog_25_method_8_code 105 = .ok (.aload_n 0, 1) := by decide +kernel
theorem d6_106 : decode prog_25_method_8_code 106 = .ok (.getfield 13, 3) := by decide +kernel
theorem d6_109 : decode prog_25_method_8_code 109 = .ok (.iconst 0, 1) := by decide +kernel
theorem d6_110 : decode prog_25_method_8_code 110 = .ok (.iload_n 1, 1) := by decide +kernel
theorem d6_111 : decode prog_25_method_8_code 111 = .ok (.invokestatic 47, 3) := by decide +kernel
def QRoom222 (Z : State) (a1 : Addr)  (x0 : Int64) (x1 : Int64) (y0 : Int32) (y1 : Int32) (b : Int32) (h0 : Heap) (n0 : Nat) (v : Option Value) (h : Heap) (L : List Loc) : Prop := v = none ∧ Fr n0 L ∧ h0.size ≤ h.size ∧ PT Z h n0 a1 (0 : Int32) (0 : Int32) (2 : Int32) [(.long x0), (.long x1)] [(.int y0), (.int y1)] b
set_option maxRecDepth 65536 in
set_option maxHeartbeats 40000000 in
theorem rmRoom222 (l : Launch) (Z : State) (a0 : Array Value) (hw : ∀ d ∈ tables_1, d.before a0 Z = true) (ws : List Jvm.Cond) (a1 : Addr)  (x0 : Int64) (x1 : Int64) (y0 : Int32) (y1 : Int32) (b : Int32) (h0 : Heap) (n0 : Nat) (Z0 : n0 ≤ h0.size) (P0 : PT Z h0 n0 a1 (2 : Int32) (2 : Int32) (2 : Int32) [(.long x0), (.long x1)] [(.int y0), (.int y1)] b) :
    MetFree l own_y_309 (head1 (Jvm.Cond.code own_y_309 prog_25_method_8_code 2 none :: ws) ({ frames := 1, cells := 0, slots := 0, locals := 91 } : Room)) (fun a U => a = #[(.ref a1)] ∧ Z.Warmed39 U.vm ∧ U.heap = h0) (fun _ _ _ _ _ => True) (fun _ U o U' => ∃ v L, o = .returned v ∧ QRoom222 Z a1 x0 x1 y0 y1 b h0 n0 v U'.heap L ∧ FrameEnd U o U' L ({ frames := 1, cells := 0, slots := 0, locals := 91 } : Room).cells ({ frames := 1, cells := 0, slots := 0, locals := 91 } : Room).slots) := by
  refine MetFree.of_bodySF (plainFor_of_name pn_2) hisR ?_
  intro p e s m args below meth c s₁ Bd hml0 hP hK
  obtain ⟨rfl, hZ, hh⟩ := hP
  have hx := Bd.exec
  have hby := Bd.bytes
  have hml : c.maxLocals = 2 := hml0
  have hown : s.vm.findClass "com/example/viral_counter/viralcounter/PostTrend" = some m.cls := findClass_of_methodNamed Bd.named
  have hnm := (name_of_methodNamed Bd.named Bd.method).1
  have X0 : Stand p l e ({ frames := 1, cells := 0, slots := 0, locals := 91 } : Room) s m #[(.ref a1)] below meth c s₁ [] 0 0 := Stand.of_body Bd
  have e0 : s₁.heap = h0 := by rw [← hh, Bd.state]; rfl
  have N0 := Fr.nil n0
  have pre0 : ∀ t, Steps p.tables e below (s₁.setTop (mkF m 0 #[.val (.ref a1), .unset] [])) t → Steps p.tables e below (s₁.setTop (entryFrame m #[(.ref a1)] 2)) t := fun t k => castTop (ef_310 m a1) k
  obtain ⟨am644, ac644, km644, kc644, E644, Fm644, Fc644, Ff644, Fe644, Fb644, Vm644, Vc644, Ga644, Gm644, Gc644, n1644, n2644, n3644⟩ := id P0
  have hz0 : h0.size ≤ h0.size := Nat.le_refl _
  obtain ⟨T645, X645, e645, st645⟩ := getF X0 hx hZ hown (host := "") (Or.inl (own_w hw 26 rfl)) Via.refl e0 Fe644 (g := (mkF m 1 #[.val (.ref a1), .unset] [(.ref a1)])) rfl rfl (hb hby d6_1)
  obtain ⟨T646, X646, e646, st646⟩ := getF X645 hx hZ hown (host := "") (Or.inl (own_w hw 24 rfl)) Via.refl e645 Ff644 (g := (mkF m 5 #[.val (.ref a1), .unset] [(.ref a1), (.int (2 : Int32))])) rfl rfl (hb hby d6_5)
  obtain ⟨T647, X647, e647, st647⟩ := getF X646 hx hZ hown (host := "") (Or.inl (own_w hw 14 rfl)) Via.refl e646 Fm644 (g := (mkF m 14 #[.val (.ref a1), .val (.int (0 : Int32))] [(.ref a1), (.int (0 : Int32))])) rfl rfl (hb hby d6_14)
  obtain ⟨cl648, A648, q648, S648, M648, H648, J648⟩ := id Vm644
  obtain ⟨T649, X649, e649, st649⟩ := getF X647 hx hZ hown (host := "") (Or.inl (own_w hw 14 rfl)) Via.refl e647 Fm644 (g := (mkF m 81 #[.val (.ref a1), .val (.int (0 : Int32))] [(.ref a1)])) rfl rfl (hb hby d6_81)
  obtain ⟨T650, X650, e650, st650⟩ := getF X649 hx hZ hown (host := "") (Or.inl (own_w hw 24 rfl)) Via.refl e649 Ff644 (g := (mkF m 85 #[.val (.ref a1), .val (.int (0 : Int32))] [(.ref a1), (.ref am644)])) rfl rfl (hb hby d6_85)
  obtain ⟨T651, X651, e651, st651⟩ := getF X650 hx hZ hown (host := "") (Or.inl (own_w hw 14 rfl)) Via.refl e650 Fm644 (g := (mkF m 89 #[.val (.ref a1), .val (.int (0 : Int32))] [(.ref a1), (.int (2 : Int32)), (.ref am644)])) rfl rfl (hb hby d6_89)
  obtain ⟨T652, h652, L652, X652, e652, N652, K652, U652, st652⟩ := cpA X651 hx hZ hown (own_w hw 68 rfl) (own_w hw 56 rfl) (own_w hw 54 rfl) (own_w hw 55 rfl) e651 (us := []) Vm644 Vm644 (Or.inl ⟨rfl, rfl⟩) (by decide) (by decide) (by decide) (by decide) (by decide) rfl (Nat.le_of_ble_eq_true rfl) N0 Gm644 (g := (mkF m 94 #[.val (.ref a1), .val (.int (0 : Int32))] [(.int (0 : Int32)), (.int (0 : Int32)), (.ref am644), (.int (2 : Int32)), (.ref am644)])) rfl (by rw [hml]; rfl) rfl (hb hby d6_94) (by decide) (W := 0) (by show 2 * 0 + _ ≤ _; exact Nat.le_of_eq rfl) (by decide)
  have V652 : Arv Z h652 am644 km644 .long (2 : Int32) [(.long x0), (.long x1)] (.long (0 : Int64)) := U652
  have z653 : n0 ≤ h652.size := Nat.le_trans Z0 K652.1
  have c654 := E644.keep K652
  have c655 := Fm644.keep K652 (ninS n1644 nin0)
  have c656 := Fc644.keep K652 (ninS n1644 nin0)
  have c657 := Ff644.keep K652 (ninS n1644 nin0)
  have c658 := Fe644.keep K652 (ninS n1644 nin0)
  have c659 := Fb644.keep K652 (ninS n1644 nin0)
  have c661 := Vc644.keep K652 (ninS (Ne.symm n3644) nin0)
  obtain ⟨T662, X662, e662, st662⟩ := getF X652 hx hZ hown (host := "") (Or.inl (own_w hw 17 rfl)) Via.refl e652 c656 (g := (mkF m 98 #[.val (.ref a1), .val (.int (0 : Int32))] [(.ref a1)])) rfl rfl (hb hby d6_98)
  obtain ⟨T663, X663, e663, st663⟩ := getF X662 hx hZ hown (host := "") (Or.inl (own_w hw 24 rfl)) Via.refl e662 c657 (g := (mkF m 102 #[.val (.ref a1), .val (.int (0 : Int32))] [(.ref a1), (.ref ac644)])) rfl rfl (hb hby d6_102)
  obtain ⟨T664, X664, e664, st664⟩ := getF X663 hx hZ hown (host := "") (Or.inl (own_w hw 17 rfl)) Via.refl e663 c656 (g := (mkF m 106 #[.val (.ref a1), .val (.int (0 : Int32))] [(.ref a1), (.int (2 : Int32)), (.ref ac644)])) rfl rfl (hb hby d6_106)
  obtain ⟨T665, h665, L665, X665, e665, N665, K665, U665, st665⟩ := cpA X664 hx hZ hown (own_w hw 68 rfl) (own_w hw 56 rfl) (own_w hw 54 rfl) (own_w hw 55 rfl) e664 (us := []) c661 c661 (Or.inl ⟨rfl, rfl⟩) (by decide) (by decide) (by decide) (by decide) (by decide) rfl (Nat.le_of_ble_eq_true rfl) N652 Gc644 (g := (mkF m 111 #[.val (.ref a1), .val (.int (0 : Int32))] [(.int (0 : Int32)), (.int (0 : Int32)), (.ref ac644), (.int (2 : Int32)), (.ref ac644)])) rfl (by rw [hml]; rfl) rfl (hb hby d6_111) (by decide) (W := 0) (by show 2 * 0 + _ ≤ _; exact Nat.le_of_eq rfl) (by decide)
  have V665 : Arv Z h665 ac644 kc644 .int (2 : Int32) [(.int y0), (.int y1)] (.int (0 : Int32)) := U665
  have z666 : n0 ≤ h665.size := Nat.le_trans z653 K665.1
  have c667 := c654.keep K665
  have c668 := c655.keep K665 (ninS n2644 nin0)
  have c669 := c656.keep K665 (ninS n2644 nin0)
  have c670 := c657.keep K665 (ninS n2644 nin0)
  have c671 := c658.keep K665 (ninS n2644 nin0)
  have c672 := c659.keep K665 (ninS n2644 nin0)
  have c674 := V652.keep K665 (ninS n3644 nin0)
  obtain ⟨T675, h675, X675, e675, W675, st675⟩ := putF X665 hx hZ hown (host := "") (Or.inl (own_w hw 24 rfl)) Via.refl e665 c670 c667 (Or.inl (own_w hw 25 rfl)) (own_w hw 5 rfl) (ty := .int) (by decide) rfl rfl (g := (mkF m 116 #[.val (.ref a1), .val (.int (0 : Int32))] [(.int (0 : Int32)), (.ref a1)])) rfl rfl (hb hby d6_116)
  have Fw675 := c670.same W675
  have N675 := Fr.snoc X675 N665 Ga644
  have z676 : n0 ≤ h675.size := Nat.le_trans z666 (Keep.of_wr W675).1
  have c677 := c667.wr W675
  have c678 := c668.other W675 (Or.inr (own_sn_156 hw))
  have c679 := c669.other W675 (Or.inr (own_sn_157 hw))
  have c681 := c671.other W675 (Or.inr (own_sn_158 hw))
  have c682 := c672.other W675 (Or.inr (own_sn_159 hw))
  have c683 := c674.other W675 (Ne.symm n1644)
  have c684 := V665.other W675 (Ne.symm n2644)
  obtain ⟨T685, h685, X685, e685, W685, st685⟩ := putF X675 hx hZ hown (host := "") (Or.inl (own_w hw 26 rfl)) Via.refl e675 c681 c677 (Or.inl (own_w hw 27 rfl)) (own_w hw 5 rfl) (ty := .int) (by decide) rfl rfl (g := (mkF m 121 #[.val (.ref a1), .val (.int (0 : Int32))] [(.int (0 : Int32)), (.ref a1)])) rfl rfl (hb hby d6_121)
  have Fw685 := c681.same W685
  have N685 := Fr.snoc X685 N675 Ga644
  have z686 : n0 ≤ h685.size := Nat.le_trans z676 (Keep.of_wr W685).1
  have c687 := c677.wr W685
  have c688 := c678.other W685 (Or.inr (own_sn_98 hw))
  have c689 := c679.other W685 (Or.inr (own_sn_99 hw))
  have c691 := c682.other W685 (Or.inr (own_sn_101 hw))
  have c692 := c683.other W685 (Ne.symm n1644)
  have c693 := c684.other W685 (Ne.symm n2644)
  have c694 := Fw675.other W685 (Or.inr (own_sn_100 hw))
  have pre695 : ∀ t, Steps p.tables e below (T685.setTop (mkF m 124 #[.val (.ref a1), .val (.int (0 : Int32))] [])) t → Steps p.tables e below (s₁.setTop (entryFrame m #[(.ref a1)] 2)) t := fun t kt => pre0 t (by
    show Steps p.tables e below (s₁.setTop (mkF m 0 #[.val (.ref a1), .unset] [])) _
    refine XS.aloadN X0.here hx rfl (hb hby d6_0) rfl rfl ?_
    refine st645 _ ?_
    refine XS.aloadN X645.here hx rfl (hb hby d6_4) rfl rfl ?_
    refine st646 _ ?_
    refine XS.isub X646.here hx rfl (hb hby d6_8) rfl ?_
    refine XS.istoreN X646.here hx rfl (hb hby d6_9) rfl (l' := #[.val (.ref a1), .val (.int (0 : Int32))]) rfl ?_
    refine XS.iloadN X646.here hx rfl (hb hby d6_10) rfl ?_
    refine XS.iconst X646.here hx rfl (hb hby d6_11) ?_
    refine XS.imul X646.here hx rfl (hb hby d6_12) rfl ?_
    refine XS.aloadN X646.here hx rfl (hb hby d6_13) rfl rfl ?_
    refine st647 _ ?_
    refine X647.arraylength hx (by rw [e647]; exact A648.1) (State.isArrayOf_alike hZ.alike A648.2.1) (g := (mkF m 17 #[.val (.ref a1), .val (.int (0 : Int32))] [(.ref am644), (.int (0 : Int32))])) rfl rfl (hb hby d6_17) _ ?_
    rw [len_of S648 M648]
    show Steps p.tables e below (T647.setTop (mkF m 18 #[.val (.ref a1), .val (.int (0 : Int32))] [(.int (2 : Int32)), (.int (0 : Int32))])) _
    refine XS.iconst X647.here hx rfl (hb hby d6_18) ?_
    refine XS.imul X647.here hx rfl (hb hby d6_19) rfl ?_
    refine XS.icmpYes X647.here hx rfl (pc0 := 20) (pc' := 80) rfl (hb hby d6_20) rfl (flt (by decide : ¬ ((6 : Int32) < (0 : Int32)))).2.2.2 (by decide) (by decide) ?_
    refine XS.aloadN X647.here hx rfl (hb hby d6_80) rfl rfl ?_
    refine st649 _ ?_
    refine XS.aloadN X649.here hx rfl (hb hby d6_84) rfl rfl ?_
    refine st650 _ ?_
    refine XS.aloadN X650.here hx rfl (hb hby d6_88) rfl rfl ?_
    refine st651 _ ?_
    refine XS.iconst X651.here hx rfl (hb hby d6_92) ?_
    refine XS.iloadN X651.here hx rfl (hb hby d6_93) rfl ?_
    refine st652 _ ?_
    show Steps p.tables e below (T652.setTop (mkF m 97 #[.val (.ref a1), .val (.int (0 : Int32))] [])) _
    refine XS.aloadN X652.here hx rfl (hb hby d6_97) rfl rfl ?_
    refine st662 _ ?_
    refine XS.aloadN X662.here hx rfl (hb hby d6_101) rfl rfl ?_
    refine st663 _ ?_
    refine XS.aloadN X663.here hx rfl (hb hby d6_105) rfl rfl ?_
    refine st664 _ ?_
    refine XS.iconst X664.here hx rfl (hb hby d6_109) ?_
    refine XS.iloadN X664.here hx rfl (hb hby d6_110) rfl ?_
    refine st665 _ ?_
    refine XS.aloadN X665.here hx rfl (hb hby d6_114) rfl rfl ?_
    refine XS.iconst X665.here hx rfl (hb hby d6_115) ?_
    refine st675 _ ?_
    show Steps p.tables e below (T675.setTop (mkF m 119 #[.val (.ref a1), .val (.int (0 : Int32))] [])) _
    refine XS.aloadN X675.here hx rfl (hb hby d6_119) rfl rfl ?_
    refine XS.iloadN X675.here hx rfl (hb hby d6_120) rfl ?_
    refine st685 _ ?_
    exact kt)
  have hz : h0.size ≤ h685.size := Nat.le_trans (Nat.le_trans (Nat.le_trans (Nat.le_trans (Nat.le_refl _) K652.1) K665.1) (Keep.of_wr W675).1) (Keep.of_wr W685).1
  have hQ : QRoom222 Z a1 x0 x1 y0 y1 b h0 n0 none h685 _ := ⟨rfl, N685, hz, ⟨am644, ac644, km644, kc644, c687, c688, c689, c694, Fw685, c691, c692, c693, Ga644, Gm644, Gc644, n1644, n2644, n3644⟩⟩
  exact own_retV X685 hx Bd.notSynchronized Bd.returns (hb hby d6_124) pre695 (show QRoom222 Z a1 x0 x1 y0 y1 b h0 n0 _ _ _ from (by rw [e685]; exact hQ)) (by decide) (by decide)
def QCnt222a (Z : State) (a1 : Addr) (q2 : Int64) (p4 p5 : Int32) (x0 : Int64) (x1 : Int64) (y0 : Int32) (y1 : Int32) (b : Int32) (h0 : Heap) (n0 : Nat) (v : Option Value) (h : Heap) (L : List Loc) : Prop := v = none ∧ Fr n0 L ∧ h0.size ≤ h.size ∧ PT Z h n0 a1 (0 : Int32) (1 : Int32) (2 : Int32) [(.long q2), (.long x1)] [(.int p4), (.int y1)] (if p5 = (0 : Int32) then (p4 + (1 : Int32)) else (p4 - (1 : Int32)))
set_option maxRecDepth 65536 in
set_option maxHeartbeats 40000000 in
theorem rmCnt222a (l : Launch) (Z : State) (a0 : Array Value) (hw : ∀ d ∈ tables_1, d.before a0 Z = true) (ws : List Jvm.Cond) (a1 : Addr) (q2 : Int64) (p4 p5 : Int32) (x0 : Int64) (x1 : Int64) (y0 : Int32) (y1 : Int32) (b : Int32) (h0 : Heap) (n0 : Nat) (Z0 : n0 ≤ h0.size) (P0 : PT Z h0 n0 a1 (2 : Int32) (2 : Int32) (2 : Int32) [(.long x0), (.long x1)] [(.int y0), (.int y1)] b) :
    MetFree l own_y_103 (head1 (Jvm.Cond.code own_y_103 prog_25_method_2_code 5 none :: ws) ({ frames := 4, cells := 0, slots := 0, locals := 104 } : Room)) (fun a U => a = #[(.ref a1), (.long q2), (.int p4), (.int p5)] ∧ Z.Warmed39 U.vm ∧ U.heap = h0) (fun _ _ _ _ _ => True) (fun _ U o U' => ∃ v L, o = .returned v ∧ QCnt222a Z a1 q2 p4 p5 x0 x1 y0 y1 b h0 n0  v U'.heap L ∧ FrameEnd U o U' L ({ frames := 4, cells := 0, slots := 0, locals := 104 } : Room).cells ({ frames := 4, cells := 0, slots := 0, locals := 104 } : Room).slots) := by
  refine MetFree.of_bodySF (plainFor_of_name pn_2) hisR ?_
  intro p e s m args below meth c s₁ Bd hml0 hP hK
  obtain ⟨rfl, hZ, hh⟩ := hP
  have hx := Bd.exec
  have hby := Bd.bytes
  have hml : c.maxLocals = 5 := hml0
  have hown : s.vm.findClass "com/example/viral_counter/viralcounter/PostTrend" = some m.cls := findClass_of_methodNamed Bd.named
  have hnm := (name_of_methodNamed Bd.named Bd.method).1
  have X0 : Stand p l e ({ frames := 4, cells := 0, slots := 0, locals := 104 } : Room) s m #[(.ref a1), (.long q2), (.int p4), (.int p5)] below meth c s₁ [] 0 0 := Stand.of_body Bd
  have e0 : s₁.heap = h0 := by rw [← hh, Bd.state]; rfl
  have N0 := Fr.nil n0
  have pre0 : ∀ t, Steps p.tables e below (s₁.setTop (mkF m 0 #[.val (.ref a1), .val (.long q2), .second, .val (.int p4), .val (.int p5)] [])) t → Steps p.tables e below (s₁.setTop (entryFrame m #[(.ref a1), (.long q2), (.int p4), (.int p5)] 5)) t := fun t k => castTop (ef_104 m a1 q2 p4 p5) k
  obtain ⟨am696, ac696, km696, kc696, E696, Fm696, Fc696, Ff696, Fe696, Fb696, Vm696, Vc696, Ga696, Gm696, Gc696, n1696, n2696, n3696⟩ := id P0
  obtain ⟨T697, X697, e697, st697⟩ := getF X0 hx hZ hown (host := "") (Or.inl (own_w hw 24 rfl)) Via.refl e0 Ff696 (g := (mkF m 1 #[.val (.ref a1), .val (.long q2), .second, .val (.int p4), .val (.int p5)] [(.ref a1)])) rfl rfl (hb hby d5_1)
  obtain ⟨T698, X698, e698, st698⟩ := getF X697 hx hZ hown (host := "") (Or.inl (own_w hw 26 rfl)) Via.refl e697 Fe696 (g := (mkF m 5 #[.val (.ref a1), .val (.long q2), .second, .val (.int p4), .val (.int p5)] [(.ref a1), (.int (2 : Int32))])) rfl rfl (hb hby d5_5)
  have pre699 : ∀ t, Steps p.tables e below (T698.setTop (mkF m 14 #[.val (.ref a1), .val (.long q2), .second, .val (.int p4), .val (.int p5)] [(.int p5), (.ref a1)])) t → Steps p.tables e below (s₁.setTop (entryFrame m #[(.ref a1), (.long q2), (.int p4), (.int p5)] 5)) t := fun t kt => pre0 t (by
    show Steps p.tables e below (s₁.setTop (mkF m 0 #[.val (.ref a1), .val (.long q2), .second, .val (.int p4), .val (.int p5)] [])) _
    refine XS.aloadN X0.here hx rfl (hb hby d5_0) rfl rfl ?_
    refine st697 _ ?_
    refine XS.aloadN X697.here hx rfl (hb hby d5_4) rfl rfl ?_
    refine st698 _ ?_
    refine XS.icmpNo X698.here hx rfl (hb hby d5_8) rfl (teq (by decide : (2 : Int32) = (2 : Int32))).2 ?_
    refine XS.aloadN X698.here hx rfl (hb hby d5_11) rfl rfl ?_
    refine XS.iload X698.here hx rfl (hb hby d5_12) rfl ?_
    exact kt)
  obtain ⟨bb, hbb⟩ : ∃ z : Int32, z = (if p5 = (0 : Int32) then (p4 + (1 : Int32)) else (p4 - (1 : Int32))) := ⟨_, rfl⟩
  have pre701 : ∀ t, Steps p.tables e below (T698.setTop (mkF m 26 #[.val (.ref a1), .val (.long q2), .second, .val (.int p4), .val (.int p5)] [(.int bb), (.ref a1)])) t → Steps p.tables e below (s₁.setTop (entryFrame m #[(.ref a1), (.long q2), (.int p4), (.int p5)] 5)) t := fun t kt => pre699 t (by
    by_cases hc700 : p5 = (0 : Int32)
    case pos =>
      show Steps p.tables e below (T698.setTop (mkF m 14 #[.val (.ref a1), .val (.long q2), .second, .val (.int p4), .val (.int p5)] [(.int p5), (.ref a1)])) _
      refine XS.ifYes X698.here hx rfl (pc0 := 14) (pc' := 23) rfl (hb hby d5_14) rfl ((if0 _ _).trans (teq hc700).1) (by decide) (by decide) ?_
      refine XS.iloadN X698.here hx rfl (hb hby d5_23) rfl ?_
      refine XS.iconst X698.here hx rfl (hb hby d5_24) ?_
      refine XS.iadd X698.here hx rfl (hb hby d5_25) rfl ?_
      rw [show bb = (p4 + (1 : Int32)) from (hbb.trans (if_pos hc700))] at kt
      exact kt
    case neg =>
      show Steps p.tables e below (T698.setTop (mkF m 14 #[.val (.ref a1), .val (.long q2), .second, .val (.int p4), .val (.int p5)] [(.int p5), (.ref a1)])) _
      refine XS.ifNo X698.here hx rfl (hb hby d5_14) rfl ((if0 _ _).trans (feq hc700).1) ?_
      refine XS.iloadN X698.here hx rfl (hb hby d5_17) rfl ?_
      refine XS.iconst X698.here hx rfl (hb hby d5_18) ?_
      refine XS.isub X698.here hx rfl (hb hby d5_19) rfl ?_
      refine XS.goto X698.here hx rfl (pc0 := 20) (pc' := 26) rfl (hb hby d5_20) (by decide) (by decide) ?_
      rw [show bb = (p4 - (1 : Int32)) from (hbb.trans (if_neg hc700))] at kt
      exact kt)
  obtain ⟨T702, h702, X702, e702, W702, st702⟩ := putF X698 hx hZ hown (host := "") (Or.inl (own_w hw 33 rfl)) Via.refl e698 Fb696 E696 (Or.inl (own_w hw 34 rfl)) (own_w hw 5 rfl) (ty := .int) (by decide) rfl rfl (g := (mkF m 26 #[.val (.ref a1), .val (.long q2), .second, .val (.int p4), .val (.int p5)] [(.int bb), (.ref a1)])) rfl rfl (hb hby d5_26)
  have Fw702 := Fb696.same W702
  have N702 := Fr.snoc X702 N0 Ga696
  have z703 : n0 ≤ h702.size := Nat.le_trans Z0 (Keep.of_wr W702).1
  have c704 := E696.wr W702
  have c705 := Fm696.other W702 (Or.inr (own_sn_65 hw))
  have c706 := Fc696.other W702 (Or.inr (own_sn_66 hw))
  have c707 := Ff696.other W702 (Or.inr (own_sn_67 hw))
  have c708 := Fe696.other W702 (Or.inr (own_sn_68 hw))
  have c710 := Vm696.other W702 (Ne.symm n1696)
  have c711 := Vc696.other W702 (Ne.symm n2696)
  obtain ⟨T712, X712, e712, st712⟩ := getF X702 hx hZ hown (host := "") (Or.inl (own_w hw 24 rfl)) Via.refl e702 c707 (g := (mkF m 30 #[.val (.ref a1), .val (.long q2), .second, .val (.int p4), .val (.int p5)] [(.ref a1)])) rfl rfl (hb hby d5_30)
  obtain ⟨T713, X713, e713, st713⟩ := getF X712 hx hZ hown (host := "") (Or.inl (own_w hw 26 rfl)) Via.refl e712 c708 (g := (mkF m 34 #[.val (.ref a1), .val (.long q2), .second, .val (.int p4), .val (.int p5)] [(.ref a1), (.int (2 : Int32))])) rfl rfl (hb hby d5_34)
  obtain ⟨T714, X714, e714, st714⟩ := getF X713 hx hZ hown (host := "") (Or.inl (own_w hw 26 rfl)) Via.refl e713 c708 (g := (mkF m 72 #[.val (.ref a1), .val (.long q2), .second, .val (.int p4), .val (.int p5)] [(.ref a1)])) rfl rfl (hb hby d5_72)
  obtain ⟨T715, X715, e715, st715⟩ := getF X714 hx hZ hown (host := "") (Or.inl (own_w hw 14 rfl)) Via.refl e714 c705 (g := (mkF m 76 #[.val (.ref a1), .val (.long q2), .second, .val (.int p4), .val (.int p5)] [(.ref a1), (.int (2 : Int32))])) rfl rfl (hb hby d5_76)
  obtain ⟨cl716, A716, q716, S716, M716, H716, J716⟩ := id c710
  have P717 : PT Z h702 n0 a1 (2 : Int32) (2 : Int32) (2 : Int32) [(.long x0), (.long x1)] [(.int y0), (.int y1)] bb := ⟨am696, ac696, km696, kc696, c704, c705, c706, c707, c708, Fw702, c710, c711, Ga696, Gm696, Gc696, n1696, n2696, n3696⟩
  obtain ⟨cq718, q718, q718'⟩ := c704.cell
  obtain ⟨ci718, ki718, i1718, i2718, -, i4718, -⟩ := Cond.instantiable_spec (mvT (args := #[(.ref a1), (.long q2), (.int p4), (.int p5)]) hZ (own_w hw 5 rfl))
  have hni718 : ki718.isInterface = false := by cases q : ki718.isInterface <;> simp [q] at i4718 ⊢
  have hsel718 := selects_self_of_private (args := #[(.ref a1), (.long q2), (.int p4), (.int p5)]) (y := own_y_309) i1718 i2718 hni718 (Cond.privateMethod_at (mvP hZ (own_w hw 37 rfl) (args := #[]))) (mvT hZ (own_w hw 36 rfl)) (by decide)
  obtain ⟨_, _, ⟨T718, L718, k718, n718⟩, -, X718, ⟨Lc718, hQ718, l718, y718, z718⟩, st718⟩ := X715.privateBack hx (y := own_y_309) hown (mvT hZ (own_w hw 35 rfl)) (mvT hZ (own_w hw 36 rfl)) hsel718 (Cond.privateMethod_at (mvP hZ (own_w hw 37 rfl) (args := #[]))) (mvT hZ (own_w hw 38 rfl)) (by decide) (backOf (W := 0) (rmRoom222 l Z a0 hw [] a1 x0 x1 y0 y1 bb h702 n0 z703 P717) hZ (own_w hw 38 rfl) (own_w hw 6 rfl) (by decide) (by decide)) (g := (mkF m 84 #[.val (.ref a1), .val (.long q2), .second, .val (.int p4), .val (.int p5)] [(.ref a1)])) rfl (by rw [hml]; rfl) (Steps.refl _) (a := a1) (by rw [e715]; exact q718) q718' (argsL := []) (rest := []) (lenOf pd_313 rfl) rfl (by show 2 * 0 + _ ≤ _; exact Nat.le_of_eq rfl) (hb hby d5_84) (fun _ _ => ⟨rfl, e715, (by decide : 0 + 0 ≤ _), (by decide : 0 + 0 ≤ _)⟩)
  dsimp only [Pt.U, Pt.locs, Pt.cells, Pt.slots] at X718 l718 y718 z718 st718 hQ718
  subst l718 y718 z718
  obtain ⟨rfl, Nq718, z718, P718⟩ := hQ718
  have N718 := Fr.app N702 Nq718
  have z719 : n0 ≤ T718.heap.size := Nat.le_trans z703 z718
  obtain ⟨am720, ac720, km720, kc720, E720, Fm720, Fc720, Ff720, Fe720, Fb720, Vm720, Vc720, Ga720, Gm720, Gc720, n1720, n2720, n3720⟩ := id P718
  obtain ⟨T721, X721, e721, st721⟩ := getF X718 hx hZ hown (host := "") (Or.inl (own_w hw 14 rfl)) Via.refl rfl Fm720 (g := (mkF m 88 #[.val (.ref a1), .val (.long q2), .second, .val (.int p4), .val (.int p5)] [(.ref a1)])) rfl rfl (hb hby d5_88)
  obtain ⟨T722, X722, e722, st722⟩ := getF X721 hx hZ hown (host := "") (Or.inl (own_w hw 26 rfl)) Via.refl e721 Fe720 (g := (mkF m 92 #[.val (.ref a1), .val (.long q2), .second, .val (.int p4), .val (.int p5)] [(.ref a1), (.ref am720)])) rfl rfl (hb hby d5_92)
  obtain ⟨cl723, Ar723, q723, S723, M723, H723, J723⟩ := id Vm720
  have hin723 : ¬ ((0 : Int32) < 0 ∨ cl723.slots.size ≤ ((0 : Int32)).toNatClampNeg) := inb_of S723 ⟨by decide, by decide⟩
  obtain ⟨T724, h724, X724, e724, W724, st724⟩ := stJ X722 hx hZ e722 Ar723 (j := (0 : Int32)) hin723 (g := (mkF m 96 #[.val (.ref a1), .val (.long q2), .second, .val (.int p4), .val (.int p5)] [(.long q2), (.int (0 : Int32)), (.ref am720)])) rfl rfl (hb hby d5_96)
  have V724 : Arv Z h724 am720 km720 .long (2 : Int32) [(.long q2), (.long x1)] (.long (0 : Int64)) := Arv.set Ar723 q723 S723 M723 H723 J723 rfl W724 0 rfl (Nat.le_of_ble_eq_true rfl)
  have N724 := Fr.snoc X724 N718 Gm720
  have z725 : n0 ≤ h724.size := Nat.le_trans z719 (Keep.of_wr W724).1
  have c726 := E720.wr W724
  have c727 := Fm720.other W724 (Or.inl n1720)
  have c728 := Fc720.other W724 (Or.inl n1720)
  have c729 := Ff720.other W724 (Or.inl n1720)
  have c730 := Fe720.other W724 (Or.inl n1720)
  have c731 := Fb720.other W724 (Or.inl n1720)
  have c733 := Vc720.other W724 (Ne.symm n3720)
  obtain ⟨T734, X734, e734, st734⟩ := getF X724 hx hZ hown (host := "") (Or.inl (own_w hw 17 rfl)) Via.refl e724 c728 (g := (mkF m 98 #[.val (.ref a1), .val (.long q2), .second, .val (.int p4), .val (.int p5)] [(.ref a1)])) rfl rfl (hb hby d5_98)
  obtain ⟨T735, X735, e735, st735⟩ := getF X734 hx hZ hown (host := "") (Or.inl (own_w hw 26 rfl)) Via.refl e734 c730 (g := (mkF m 102 #[.val (.ref a1), .val (.long q2), .second, .val (.int p4), .val (.int p5)] [(.ref a1), (.ref ac720)])) rfl rfl (hb hby d5_102)
  obtain ⟨cl736, Ar736, q736, S736, M736, H736, J736⟩ := id c733
  have hin736 : ¬ ((0 : Int32) < 0 ∨ cl736.slots.size ≤ ((0 : Int32)).toNatClampNeg) := inb_of S736 ⟨by decide, by decide⟩
  obtain ⟨T737, h737, X737, e737, W737, st737⟩ := stI X735 hx hZ e735 Ar736 (j := (0 : Int32)) hin736 (g := (mkF m 106 #[.val (.ref a1), .val (.long q2), .second, .val (.int p4), .val (.int p5)] [(.int p4), (.int (0 : Int32)), (.ref ac720)])) rfl rfl (hb hby d5_106)
  have V737 : Arv Z h737 ac720 kc720 .int (2 : Int32) [(.int p4), (.int y1)] (.int (0 : Int32)) := Arv.set Ar736 q736 S736 M736 H736 J736 rfl W737 0 rfl (Nat.le_of_ble_eq_true rfl)
  have N737 := Fr.snoc X737 N724 Gc720
  have z738 : n0 ≤ h737.size := Nat.le_trans z725 (Keep.of_wr W737).1
  have c739 := c726.wr W737
  have c740 := c727.other W737 (Or.inl n2720)
  have c741 := c728.other W737 (Or.inl n2720)
  have c742 := c729.other W737 (Or.inl n2720)
  have c743 := c730.other W737 (Or.inl n2720)
  have c744 := c731.other W737 (Or.inl n2720)
  have c746 := V724.other W737 n3720
  obtain ⟨T747, X747, e747, st747⟩ := getF X737 hx hZ hown (host := "") (Or.inl (own_w hw 26 rfl)) Via.refl e737 c743 (g := (mkF m 109 #[.val (.ref a1), .val (.long q2), .second, .val (.int p4), .val (.int p5)] [(.ref a1), (.ref a1)])) rfl rfl (hb hby d5_109)
  obtain ⟨T748, h748, X748, e748, W748, st748⟩ := putF X747 hx hZ hown (host := "") (Or.inl (own_w hw 26 rfl)) Via.refl e747 c743 c739 (Or.inl (own_w hw 27 rfl)) (own_w hw 5 rfl) (ty := .int) (by decide) rfl rfl (g := (mkF m 114 #[.val (.ref a1), .val (.long q2), .second, .val (.int p4), .val (.int p5)] [(.int (1 : Int32)), (.ref a1)])) rfl rfl (hb hby d5_114)
  have Fw748 := c743.same W748
  have N748 := Fr.snoc X748 N737 Ga720
  have z749 : n0 ≤ h748.size := Nat.le_trans z738 (Keep.of_wr W748).1
  have c750 := c739.wr W748
  have c751 := c740.other W748 (Or.inr (own_sn_98 hw))
  have c752 := c741.other W748 (Or.inr (own_sn_99 hw))
  have c753 := c742.other W748 (Or.inr (own_sn_100 hw))
  have c755 := c744.other W748 (Or.inr (own_sn_101 hw))
  have c756 := c746.other W748 (Ne.symm n1720)
  have c757 := V737.other W748 (Ne.symm n2720)
  have pre758 : ∀ t, Steps p.tables e below (T748.setTop (mkF m 117 #[.val (.ref a1), .val (.long q2), .second, .val (.int p4), .val (.int p5)] [])) t → Steps p.tables e below (s₁.setTop (entryFrame m #[(.ref a1), (.long q2), (.int p4), (.int p5)] 5)) t := fun t kt => pre701 t (by
    show Steps p.tables e below (T698.setTop (mkF m 26 #[.val (.ref a1), .val (.long q2), .second, .val (.int p4), .val (.int p5)] [(.int bb), (.ref a1)])) _
    refine st702 _ ?_
    refine XS.aloadN X702.here hx rfl (hb hby d5_29) rfl rfl ?_
    refine st712 _ ?_
    refine XS.aloadN X712.here hx rfl (hb hby d5_33) rfl rfl ?_
    refine st713 _ ?_
    refine XS.icmpYes X713.here hx rfl (pc0 := 37) (pc' := 71) rfl (hb hby d5_37) rfl (flt (by decide : ¬ ((2 : Int32) < (2 : Int32)))).2.1 (by decide) (by decide) ?_
    refine XS.aloadN X713.here hx rfl (hb hby d5_71) rfl rfl ?_
    refine st714 _ ?_
    refine XS.aloadN X714.here hx rfl (hb hby d5_75) rfl rfl ?_
    refine st715 _ ?_
    refine X715.arraylength hx (by rw [e715]; exact A716.1) (State.isArrayOf_alike hZ.alike A716.2.1) (g := (mkF m 79 #[.val (.ref a1), .val (.long q2), .second, .val (.int p4), .val (.int p5)] [(.ref am696), (.int (2 : Int32))])) rfl rfl (hb hby d5_79) _ ?_
    rw [len_of S716 M716]
    refine XS.icmpNo X715.here hx rfl (hb hby d5_80) rfl (teq (by decide : (2 : Int32) = (2 : Int32))).2 ?_
    show Steps p.tables e below (T715.setTop (mkF m 83 #[.val (.ref a1), .val (.long q2), .second, .val (.int p4), .val (.int p5)] [])) _
    refine XS.aloadN X715.here hx rfl (hb hby d5_83) rfl rfl ?_
    refine st718.trans ?_
    refine XS.aloadN X718.here hx rfl (hb hby d5_87) rfl rfl ?_
    refine st721 _ ?_
    refine XS.aloadN X721.here hx rfl (hb hby d5_91) rfl rfl ?_
    refine st722 _ ?_
    refine XS.lloadN X722.here hx rfl (hb hby d5_95) rfl ?_
    refine st724 _ ?_
    refine XS.aloadN X724.here hx rfl (hb hby d5_97) rfl rfl ?_
    refine st734 _ ?_
    refine XS.aloadN X734.here hx rfl (hb hby d5_101) rfl rfl ?_
    refine st735 _ ?_
    show Steps p.tables e below (T735.setTop (mkF m 105 #[.val (.ref a1), .val (.long q2), .second, .val (.int p4), .val (.int p5)] [(.int (0 : Int32)), (.ref ac720)])) _
    refine XS.iloadN X735.here hx rfl (hb hby d5_105) rfl ?_
    refine st737 _ ?_
    refine XS.aloadN X737.here hx rfl (hb hby d5_107) rfl rfl ?_
    refine XS.dup X737.here hx rfl (hb hby d5_108) rfl rfl ?_
    refine st747 _ ?_
    refine XS.iconst X747.here hx rfl (hb hby d5_112) ?_
    refine XS.iadd X747.here hx rfl (hb hby d5_113) rfl ?_
    refine st748 _ ?_
    exact kt)
  have hz : h0.size ≤ h748.size := Nat.le_trans (Nat.le_trans (Nat.le_trans (Nat.le_trans (Nat.le_trans (Nat.le_refl _) (Keep.of_wr W702).1) z718) (Keep.of_wr W724).1) (Keep.of_wr W737).1) (Keep.of_wr W748).1
  have hP : PT Z h748 n0 a1 (0 : Int32) (1 : Int32) (2 : Int32) [(.long q2), (.long x1)] [(.int p4), (.int y1)] bb := ⟨am720, ac720, km720, kc720, c750, c751, c752, c753, Fw748, c755, c756, c757, Ga720, Gm720, Gc720, n1720, n2720, n3720⟩
  rw [hbb] at hP
  have hQ : QCnt222a Z a1 q2 p4 p5 x0 x1 y0 y1 b h0 n0 none h748 _ := ⟨rfl, N748, hz, hP⟩
  exact own_retV X748 hx Bd.notSynchronized Bd.returns (hb hby d5_117) pre758 (show QCnt222a Z a1 q2 p4 p5 x0 x1 y0 y1 b h0 n0 _ _ _ from (by rw [e748]; exact hQ)) (by decide) (by decide)
def QFgt022_1 (Z : State) (a1 : Addr) (q2 : Int64) (x0 : Int64) (x1 : Int64) (y0 : Int32) (y1 : Int32) (b : Int32) (h0 : Heap) (n0 : Nat) (v : Option Value) (h : Heap) (L : List Loc) : Prop := v = none ∧ Fr n0 L ∧ h0.size ≤ h.size ∧ PT Z h n0 a1 (1 : Int32) (2 : Int32) (2 : Int32) [(.long x0), (.long x1)] [(.int y0), (.int y1)] y0
set_option maxRecDepth 65536 in
set_option maxHeartbeats 40000000 in
theorem rmFgt022_1 (l : Launch) (Z : State) (a0 : Array Value) (hw : ∀ d ∈ tables_1, d.before a0 Z = true) (ws : List Jvm.Cond) (a1 : Addr) (q2 : Int64) (x0 : Int64) (x1 : Int64) (y0 : Int32) (y1 : Int32) (b : Int32) (h0 : Heap) (n0 : Nat) (Z0 : n0 ≤ h0.size) (P0 : PT Z h0 n0 a1 (0 : Int32) (2 : Int32) (2 : Int32) [(.long x0), (.long x1)] [(.int y0), (.int y1)] b) (c0 : x0 < q2) (c1 : ¬ (x1 < q2)) :
    MetFree l own_y_113 (head1 (Jvm.Cond.code own_y_113 prog_25_method_4_code 3 none :: ws) ({ frames := 0, cells := 0, slots := 0, locals := 0 } : Room)) (fun a U => a = #[(.ref a1), (.long q2)] ∧ Z.Warmed39 U.vm ∧ U.heap = h0) (fun _ _ _ _ _ => True) (fun _ U o U' => ∃ v L, o = .returned v ∧ QFgt022_1 Z a1 q2 x0 x1 y0 y1 b h0 n0 v U'.heap L ∧ FrameEnd U o U' L ({ frames := 0, cells := 0, slots := 0, locals := 0 } : Room).cells ({ frames := 0, cells := 0, slots := 0, locals := 0 } : Room).slots) := by
  refine MetFree.of_bodySF (plainFor_of_name pn_2) hisR ?_
  intro p e s m args below meth c s₁ Bd hml0 hP hK
  obtain ⟨rfl, hZ, hh⟩ := hP
  have hx := Bd.exec
  have hby := Bd.bytes
  have hml : c.maxLocals = 3 := hml0
  have hown : s.vm.findClass "com/example/viral_counter/viralcounter/PostTrend" = some m.cls := findClass_of_methodNamed Bd.named
  have hnm := (name_of_methodNamed Bd.named Bd.method).1
  have X0 : Stand p l e ({ frames := 0, cells := 0, slots := 0, locals := 0 } : Room) s m #[(.ref a1), (.long q2)] below meth c s₁ [] 0 0 := Stand.of_body Bd
  have e0 : s₁.heap = h0 := by rw [← hh, Bd.state]; rfl
  have N0 := Fr.nil n0
  have pre0 : ∀ t, Steps p.tables e below (s₁.setTop (mkF m 0 #[.val (.ref a1), .val (.long q2), .second] [])) t → Steps p.tables e below (s₁.setTop (entryFrame m #[(.ref a1), (.long q2)] 3)) t := fun t k => castTop (ef_114 m a1 q2) k
  obtain ⟨am763, ac763, km763, kc763, E763, Fm763, Fc763, Ff763, Fe763, Fb763, Vm763, Vc763, Ga763, Gm763, Gc763, n1763, n2763, n3763⟩ := id P0
  have hz0 : h0.size ≤ h0.size := Nat.le_refl _
  obtain ⟨T764, X764, e764, st764⟩ := getF X0 hx hZ hown (host := "") (Or.inl (own_w hw 24 rfl)) Via.refl e0 Ff763 (g := (mkF m 1 #[.val (.ref a1), .val (.long q2), .second] [(.ref a1)])) rfl rfl (hb hby d13_1)
  obtain ⟨T765, X765, e765, st765⟩ := getF X764 hx hZ hown (host := "") (Or.inl (own_w hw 26 rfl)) Via.refl e764 Fe763 (g := (mkF m 5 #[.val (.ref a1), .val (.long q2), .second] [(.ref a1), (.int (0 : Int32))])) rfl rfl (hb hby d13_5)
  obtain ⟨T766, X766, e766, st766⟩ := getF X765 hx hZ hown (host := "") (Or.inl (own_w hw 14 rfl)) Via.refl e765 Fm763 (g := (mkF m 12 #[.val (.ref a1), .val (.long q2), .second] [(.ref a1)])) rfl rfl (hb hby d13_12)
  obtain ⟨T767, X767, e767, st767⟩ := getF X766 hx hZ hown (host := "") (Or.inl (own_w hw 24 rfl)) Via.refl e766 Ff763 (g := (mkF m 16 #[.val (.ref a1), .val (.long q2), .second] [(.ref a1), (.ref am763)])) rfl rfl (hb hby d13_16)
  obtain ⟨cl768, A768, q768, S768, M768, H768, J768⟩ := id Vm763
  have hin768 : ¬ ((0 : Int32) < 0 ∨ cl768.slots.size ≤ ((0 : Int32)).toNatClampNeg) := inb_of S768 ⟨by decide, by decide⟩
  have hat768 : cl768.slots[((0 : Int32)).toNatClampNeg]? = some (.long x0) := H768.at hin768 rfl
  obtain ⟨T769, X769, e769, st769⟩ := getF X767 hx hZ hown (host := "") (Or.inl (own_w hw 17 rfl)) Via.refl e767 Fc763 (g := (mkF m 27 #[.val (.ref a1), .val (.long q2), .second] [(.ref a1), (.ref a1)])) rfl rfl (hb hby d13_27)
  obtain ⟨T770, X770, e770, st770⟩ := getF X769 hx hZ hown (host := "") (Or.inl (own_w hw 24 rfl)) Via.refl e769 Ff763 (g := (mkF m 31 #[.val (.ref a1), .val (.long q2), .second] [(.ref a1), (.ref ac763), (.ref a1)])) rfl rfl (hb hby d13_31)
  obtain ⟨cl771, A771, q771, S771, M771, H771, J771⟩ := id Vc763
  have hin771 : ¬ ((0 : Int32) < 0 ∨ cl771.slots.size ≤ ((0 : Int32)).toNatClampNeg) := inb_of S771 ⟨by decide, by decide⟩
  have hat771 : cl771.slots[((0 : Int32)).toNatClampNeg]? = some (.int y0) := H771.at hin771 rfl
  obtain ⟨T772, h772, X772, e772, W772, st772⟩ := putF X770 hx hZ hown (host := "") (Or.inl (own_w hw 33 rfl)) Via.refl e770 Fb763 E763 (Or.inl (own_w hw 34 rfl)) (own_w hw 5 rfl) (ty := .int) (by decide) rfl rfl (g := (mkF m 35 #[.val (.ref a1), .val (.long q2), .second] [(.int y0), (.ref a1)])) rfl rfl (hb hby d13_35)
  have Fw772 := Fb763.same W772
  have N772 := Fr.snoc X772 N0 Ga763
  have z773 : n0 ≤ h772.size := Nat.le_trans Z0 (Keep.of_wr W772).1
  have c774 := E763.wr W772
  have c775 := Fm763.other W772 (Or.inr (own_sn_65 hw))
  have c776 := Fc763.other W772 (Or.inr (own_sn_66 hw))
  have c777 := Ff763.other W772 (Or.inr (own_sn_67 hw))
  have c778 := Fe763.other W772 (Or.inr (own_sn_68 hw))
  have c780 := Vm763.other W772 (Ne.symm n1763)
  have c781 := Vc763.other W772 (Ne.symm n2763)
  obtain ⟨T782, X782, e782, st782⟩ := getF X772 hx hZ hown (host := "") (Or.inl (own_w hw 24 rfl)) Via.refl e772 c777 (g := (mkF m 40 #[.val (.ref a1), .val (.long q2), .second] [(.ref a1), (.ref a1)])) rfl rfl (hb hby d13_40)
  obtain ⟨T783, h783, X783, e783, W783, st783⟩ := putF X782 hx hZ hown (host := "") (Or.inl (own_w hw 24 rfl)) Via.refl e782 c777 c774 (Or.inl (own_w hw 25 rfl)) (own_w hw 5 rfl) (ty := .int) (by decide) rfl rfl (g := (mkF m 45 #[.val (.ref a1), .val (.long q2), .second] [(.int (1 : Int32)), (.ref a1)])) rfl rfl (hb hby d13_45)
  have Fw783 := c777.same W783
  have N783 := Fr.snoc X783 N772 Ga763
  have z784 : n0 ≤ h783.size := Nat.le_trans z773 (Keep.of_wr W783).1
  have c785 := c774.wr W783
  have c786 := c775.other W783 (Or.inr (own_sn_156 hw))
  have c787 := c776.other W783 (Or.inr (own_sn_157 hw))
  have c789 := c778.other W783 (Or.inr (own_sn_158 hw))
  have c790 := c780.other W783 (Ne.symm n1763)
  have c791 := c781.other W783 (Ne.symm n2763)
  have c792 := Fw772.other W783 (Or.inr (own_sn_159 hw))
  obtain ⟨T793, X793, e793, st793⟩ := getF X783 hx hZ hown (host := "") (Or.inl (own_w hw 24 rfl)) Via.refl e783 Fw783 (g := (mkF m 1 #[.val (.ref a1), .val (.long q2), .second] [(.ref a1)])) rfl rfl (hb hby d13_1)
  obtain ⟨T794, X794, e794, st794⟩ := getF X793 hx hZ hown (host := "") (Or.inl (own_w hw 26 rfl)) Via.refl e793 c789 (g := (mkF m 5 #[.val (.ref a1), .val (.long q2), .second] [(.ref a1), (.int (1 : Int32))])) rfl rfl (hb hby d13_5)
  obtain ⟨T795, X795, e795, st795⟩ := getF X794 hx hZ hown (host := "") (Or.inl (own_w hw 14 rfl)) Via.refl e794 c786 (g := (mkF m 12 #[.val (.ref a1), .val (.long q2), .second] [(.ref a1)])) rfl rfl (hb hby d13_12)
  obtain ⟨T796, X796, e796, st796⟩ := getF X795 hx hZ hown (host := "") (Or.inl (own_w hw 24 rfl)) Via.refl e795 Fw783 (g := (mkF m 16 #[.val (.ref a1), .val (.long q2), .second] [(.ref a1), (.ref am763)])) rfl rfl (hb hby d13_16)
  obtain ⟨cl797, A797, q797, S797, M797, H797, J797⟩ := id c790
  have hin797 : ¬ ((1 : Int32) < 0 ∨ cl797.slots.size ≤ ((1 : Int32)).toNatClampNeg) := inb_of S797 ⟨by decide, by decide⟩
  have hat797 : cl797.slots[((1 : Int32)).toNatClampNeg]? = some (.long x1) := H797.at hin797 rfl
  have pre798 : ∀ t, Steps p.tables e below (T796.setTop (mkF m 51 #[.val (.ref a1), .val (.long q2), .second] [])) t → Steps p.tables e below (s₁.setTop (entryFrame m #[(.ref a1), (.long q2)] 3)) t := fun t kt => pre0 t (by
    show Steps p.tables e below (s₁.setTop (mkF m 0 #[.val (.ref a1), .val (.long q2), .second] [])) _
    refine XS.aloadN X0.here hx rfl (hb hby d13_0) rfl rfl ?_
    refine st764 _ ?_
    refine XS.aloadN X764.here hx rfl (hb hby d13_4) rfl rfl ?_
    refine st765 _ ?_
    refine XS.icmpNo X765.here hx rfl (hb hby d13_8) rfl (tlt (by decide : (0 : Int32) < (2 : Int32))).2.1 ?_
    refine XS.aloadN X765.here hx rfl (hb hby d13_11) rfl rfl ?_
    refine st766 _ ?_
    refine XS.aloadN X766.here hx rfl (hb hby d13_15) rfl rfl ?_
    refine st767 _ ?_
    refine X767.laload hx (j := (0 : Int32)) (v := (.long x0)) (by rw [e767]; exact A768.1) (State.isArrayOf_alike hZ.alike A768.2.1) A768.2.2 hin768 hat768 (g := (mkF m 19 #[.val (.ref a1), .val (.long q2), .second] [(.int (0 : Int32)), (.ref am763)])) rfl rfl (hb hby d13_19) _ ?_
    refine XS.lloadN X767.here hx rfl (hb hby d13_20) rfl ?_
    refine XS.lcmp X767.here hx rfl (hb hby d13_21) rfl ?_
    show Steps p.tables e below (T767.setTop (mkF m 22 #[.val (.ref a1), .val (.long q2), .second] [(.int (lcmpW x0 q2))])) _
    refine XS.ifNo X767.here hx rfl (hb hby d13_22) rfl ((if0 _ _).trans (tlt ((lw_lt _ _).mpr c0)).2.1) ?_
    refine XS.aloadN X767.here hx rfl (hb hby d13_25) rfl rfl ?_
    refine XS.aloadN X767.here hx rfl (hb hby d13_26) rfl rfl ?_
    refine st769 _ ?_
    refine XS.aloadN X769.here hx rfl (hb hby d13_30) rfl rfl ?_
    refine st770 _ ?_
    refine X770.iaload hx (j := (0 : Int32)) (v := (.int y0)) (by rw [e770]; exact A771.1) (State.isArrayOf_alike hZ.alike A771.2.1) A771.2.2 hin771 hat771 (g := (mkF m 34 #[.val (.ref a1), .val (.long q2), .second] [(.int (0 : Int32)), (.ref ac763), (.ref a1)])) rfl rfl (hb hby d13_34) _ ?_
    refine st772 _ ?_
    refine XS.aloadN X772.here hx rfl (hb hby d13_38) rfl rfl ?_
    refine XS.dup X772.here hx rfl (hb hby d13_39) rfl rfl ?_
    refine st782 _ ?_
    refine XS.iconst X782.here hx rfl (hb hby d13_43) ?_
    show Steps p.tables e below (T782.setTop (mkF m 44 #[.val (.ref a1), .val (.long q2), .second] [(.int (1 : Int32)), (.int (0 : Int32)), (.ref a1)])) _
    refine XS.iadd X782.here hx rfl (hb hby d13_44) rfl ?_
    refine st783 _ ?_
    refine XS.goto X783.here hx rfl (pc0 := 48) (pc' := 0) rfl (hb hby d13_48) (by decide) (by decide) ?_
    refine XS.aloadN X783.here hx rfl (hb hby d13_0) rfl rfl ?_
    refine st793 _ ?_
    refine XS.aloadN X793.here hx rfl (hb hby d13_4) rfl rfl ?_
    refine st794 _ ?_
    refine XS.icmpNo X794.here hx rfl (hb hby d13_8) rfl (tlt (by decide : (1 : Int32) < (2 : Int32))).2.1 ?_
    refine XS.aloadN X794.here hx rfl (hb hby d13_11) rfl rfl ?_
    refine st795 _ ?_
    refine XS.aloadN X795.here hx rfl (hb hby d13_15) rfl rfl ?_
    refine st796 _ ?_
    show Steps p.tables e below (T796.setTop (mkF m 19 #[.val (.ref a1), .val (.long q2), .second] [(.int (1 : Int32)), (.ref am763)])) _
    refine X796.laload hx (j := (1 : Int32)) (v := (.long x1)) (by rw [e796]; exact A797.1) (State.isArrayOf_alike hZ.alike A797.2.1) A797.2.2 hin797 hat797 (g := (mkF m 19 #[.val (.ref a1), .val (.long q2), .second] [(.int (1 : Int32)), (.ref am763)])) rfl rfl (hb hby d13_19) _ ?_
    refine XS.lloadN X796.here hx rfl (hb hby d13_20) rfl ?_
    refine XS.lcmp X796.here hx rfl (hb hby d13_21) rfl ?_
    refine XS.ifYes X796.here hx rfl (pc0 := 22) (pc' := 51) rfl (hb hby d13_22) rfl ((if0 _ _).trans (flt (fun q => c1 ((lw_lt _ _).mp q))).2.1) (by decide) (by decide) ?_
    exact kt)
  have hz : h0.size ≤ h783.size := Nat.le_trans (Nat.le_trans (Nat.le_refl _) (Keep.of_wr W772).1) (Keep.of_wr W783).1
  have hQ : QFgt022_1 Z a1 q2 x0 x1 y0 y1 b h0 n0 none h783 _ := ⟨rfl, N783, hz, ⟨am763, ac763, km763, kc763, c785, c786, c787, Fw783, c789, c792, c790, c791, Ga763, Gm763, Gc763, n1763, n2763, n3763⟩⟩
  exact own_retV X796 hx Bd.notSynchronized Bd.returns (hb hby d13_51) pre798 (show QFgt022_1 Z a1 q2 x0 x1 y0 y1 b h0 n0 _ _ _ from (by rw [e796]; exact hQ)) (by decide) (by decide)
def QRoom122 (Z : State) (a1 : Addr)  (x0 : Int64) (x1 : Int64) (y0 : Int32) (y1 : Int32) (b : Int32) (h0 : Heap) (n0 : Nat) (v : Option Value) (h : Heap) (L : List Loc) : Prop := v = none ∧ Fr n0 L ∧ h0.size ≤ h.size ∧ PT Z h n0 a1 (0 : Int32) (1 : Int32) (2 : Int32) [(.long x1), (.long x1)] [(.int y1), (.int y1)] b
set_option maxRecDepth 65536 in
set_option maxHeartbeats 40000000 in
theorem rmRoom122 (l : Launch) (Z : State) (a0 : Array Value) (hw : ∀ d ∈ tables_1, d.before a0 Z = true) (ws : List Jvm.Cond) (a1 : Addr)  (x0 : Int64) (x1 : Int64) (y0 : Int32) (y1 : Int32) (b : Int32) (h0 : Heap) (n0 : Nat) (Z0 : n0 ≤ h0.size) (P0 : PT Z h0 n0 a1 (1 : Int32) (2 : Int32) (2 : Int32) [(.long x0), (.long x1)] [(.int y0), (.int y1)] b) :
    MetFree l own_y_309 (head1 (Jvm.Cond.code own_y_309 prog_25_method_8_code 2 none :: ws) ({ frames := 1, cells := 0, slots := 0, locals := 91 } : Room)) (fun a U => a = #[(.ref a1)] ∧ Z.Warmed39 U.vm ∧ U.heap = h0) (fun _ _ _ _ _ => True) (fun _ U o U' => ∃ v L, o = .returned v ∧ QRoom122 Z a1 x0 x1 y0 y1 b h0 n0 v U'.heap L ∧ FrameEnd U o U' L ({ frames := 1, cells := 0, slots := 0, locals := 91 } : Room).cells ({ frames := 1, cells := 0, slots := 0, locals := 91 } : Room).slots) := by
  refine MetFree.of_bodySF (plainFor_of_name pn_2) hisR ?_
  intro p e s m args below meth c s₁ Bd hml0 hP hK
  obtain ⟨rfl, hZ, hh⟩ := hP
  have hx := Bd.exec
  have hby := Bd.bytes
  have hml : c.maxLocals = 2 := hml0
  have hown : s.vm.findClass "com/example/viral_counter/viralcounter/PostTrend" = some m.cls := findClass_of_methodNamed Bd.named
  have hnm := (name_of_methodNamed Bd.named Bd.method).1
  have X0 : Stand p l e ({ frames := 1, cells := 0, slots := 0, locals := 91 } : Room) s m #[(.ref a1)] below meth c s₁ [] 0 0 := Stand.of_body Bd
  have e0 : s₁.heap = h0 := by rw [← hh, Bd.state]; rfl
  have N0 := Fr.nil n0
  have pre0 : ∀ t, Steps p.tables e below (s₁.setTop (mkF m 0 #[.val (.ref a1), .unset] [])) t → Steps p.tables e below (s₁.setTop (entryFrame m #[(.ref a1)] 2)) t := fun t k => castTop (ef_310 m a1) k
  obtain ⟨am808, ac808, km808, kc808, E808, Fm808, Fc808, Ff808, Fe808, Fb808, Vm808, Vc808, Ga808, Gm808, Gc808, n1808, n2808, n3808⟩ := id P0
  have hz0 : h0.size ≤ h0.size := Nat.le_refl _
  obtain ⟨T809, X809, e809, st809⟩ := getF X0 hx hZ hown (host := "") (Or.inl (own_w hw 26 rfl)) Via.refl e0 Fe808 (g := (mkF m 1 #[.val (.ref a1), .unset] [(.ref a1)])) rfl rfl (hb hby d6_1)
  obtain ⟨T810, X810, e810, st810⟩ := getF X809 hx hZ hown (host := "") (Or.inl (own_w hw 24 rfl)) Via.refl e809 Ff808 (g := (mkF m 5 #[.val (.ref a1), .unset] [(.ref a1), (.int (2 : Int32))])) rfl rfl (hb hby d6_5)
  obtain ⟨T811, X811, e811, st811⟩ := getF X810 hx hZ hown (host := "") (Or.inl (own_w hw 14 rfl)) Via.refl e810 Fm808 (g := (mkF m 14 #[.val (.ref a1), .val (.int (1 : Int32))] [(.ref a1), (.int (4 : Int32))])) rfl rfl (hb hby d6_14)
  obtain ⟨cl812, A812, q812, S812, M812, H812, J812⟩ := id Vm808
  obtain ⟨T813, X813, e813, st813⟩ := getF X811 hx hZ hown (host := "") (Or.inl (own_w hw 14 rfl)) Via.refl e811 Fm808 (g := (mkF m 81 #[.val (.ref a1), .val (.int (1 : Int32))] [(.ref a1)])) rfl rfl (hb hby d6_81)
  obtain ⟨T814, X814, e814, st814⟩ := getF X813 hx hZ hown (host := "") (Or.inl (own_w hw 24 rfl)) Via.refl e813 Ff808 (g := (mkF m 85 #[.val (.ref a1), .val (.int (1 : Int32))] [(.ref a1), (.ref am808)])) rfl rfl (hb hby d6_85)
  obtain ⟨T815, X815, e815, st815⟩ := getF X814 hx hZ hown (host := "") (Or.inl (own_w hw 14 rfl)) Via.refl e814 Fm808 (g := (mkF m 89 #[.val (.ref a1), .val (.int (1 : Int32))] [(.ref a1), (.int (1 : Int32)), (.ref am808)])) rfl rfl (hb hby d6_89)
  obtain ⟨T816, h816, L816, X816, e816, N816, K816, U816, st816⟩ := cpA X815 hx hZ hown (own_w hw 68 rfl) (own_w hw 56 rfl) (own_w hw 54 rfl) (own_w hw 55 rfl) e815 (us := [(.long x1)]) Vm808 Vm808 (Or.inl ⟨rfl, rfl⟩) (by decide) (by decide) (by decide) (by decide) (by decide) rfl (Nat.le_of_ble_eq_true rfl) N0 Gm808 (g := (mkF m 94 #[.val (.ref a1), .val (.int (1 : Int32))] [(.int (1 : Int32)), (.int (0 : Int32)), (.ref am808), (.int (1 : Int32)), (.ref am808)])) rfl (by rw [hml]; rfl) rfl (hb hby d6_94) (by decide) (W := 0) (by show 2 * 0 + _ ≤ _; exact Nat.le_of_eq rfl) (by decide)
  have V816 : Arv Z h816 am808 km808 .long (2 : Int32) [(.long x1), (.long x1)] (.long (0 : Int64)) := U816
  have z817 : n0 ≤ h816.size := Nat.le_trans Z0 K816.1
  have c818 := E808.keep K816
  have c819 := Fm808.keep K816 (ninS n1808 nin0)
  have c820 := Fc808.keep K816 (ninS n1808 nin0)
  have c821 := Ff808.keep K816 (ninS n1808 nin0)
  have c822 := Fe808.keep K816 (ninS n1808 nin0)
  have c823 := Fb808.keep K816 (ninS n1808 nin0)
  have c825 := Vc808.keep K816 (ninS (Ne.symm n3808) nin0)
  obtain ⟨T826, X826, e826, st826⟩ := getF X816 hx hZ hown (host := "") (Or.inl (own_w hw 17 rfl)) Via.refl e816 c820 (g := (mkF m 98 #[.val (.ref a1), .val (.int (1 : Int32))] [(.ref a1)])) rfl rfl (hb hby d6_98)
  obtain ⟨T827, X827, e827, st827⟩ := getF X826 hx hZ hown (host := "") (Or.inl (own_w hw 24 rfl)) Via.refl e826 c821 (g := (mkF m 102 #[.val (.ref a1), .val (.int (1 : Int32))] [(.ref a1), (.ref ac808)])) rfl rfl (hb hby d6_102)
  obtain ⟨T828, X828, e828, st828⟩ := getF X827 hx hZ hown (host := "") (Or.inl (own_w hw 17 rfl)) Via.refl e827 c820 (g := (mkF m 106 #[.val (.ref a1), .val (.int (1 : Int32))] [(.ref a1), (.int (1 : Int32)), (.ref ac808)])) rfl rfl (hb hby d6_106)
  obtain ⟨T829, h829, L829, X829, e829, N829, K829, U829, st829⟩ := cpA X828 hx hZ hown (own_w hw 68 rfl) (own_w hw 56 rfl) (own_w hw 54 rfl) (own_w hw 55 rfl) e828 (us := [(.int y1)]) c825 c825 (Or.inl ⟨rfl, rfl⟩) (by decide) (by decide) (by decide) (by decide) (by decide) rfl (Nat.le_of_ble_eq_true rfl) N816 Gc808 (g := (mkF m 111 #[.val (.ref a1), .val (.int (1 : Int32))] [(.int (1 : Int32)), (.int (0 : Int32)), (.ref ac808), (.int (1 : Int32)), (.ref ac808)])) rfl (by rw [hml]; rfl) rfl (hb hby d6_111) (by decide) (W := 0) (by show 2 * 0 + _ ≤ _; exact Nat.le_of_eq rfl) (by decide)
  have V829 : Arv Z h829 ac808 kc808 .int (2 : Int32) [(.int y1), (.int y1)] (.int (0 : Int32)) := U829
  have z830 : n0 ≤ h829.size := Nat.le_trans z817 K829.1
  have c831 := c818.keep K829
  have c832 := c819.keep K829 (ninS n2808 nin0)
  have c833 := c820.keep K829 (ninS n2808 nin0)
  have c834 := c821.keep K829 (ninS n2808 nin0)
  have c835 := c822.keep K829 (ninS n2808 nin0)
  have c836 := c823.keep K829 (ninS n2808 nin0)
  have c838 := V816.keep K829 (ninS n3808 nin0)
  obtain ⟨T839, h839, X839, e839, W839, st839⟩ := putF X829 hx hZ hown (host := "") (Or.inl (own_w hw 24 rfl)) Via.refl e829 c834 c831 (Or.inl (own_w hw 25 rfl)) (own_w hw 5 rfl) (ty := .int) (by decide) rfl rfl (g := (mkF m 116 #[.val (.ref a1), .val (.int (1 : Int32))] [(.int (0 : Int32)), (.ref a1)])) rfl rfl (hb hby d6_116)
  have Fw839 := c834.same W839
  have N839 := Fr.snoc X839 N829 Ga808
  have z840 : n0 ≤ h839.size := Nat.le_trans z830 (Keep.of_wr W839).1
  have c841 := c831.wr W839
  have c842 := c832.other W839 (Or.inr (own_sn_156 hw))
  have c843 := c833.other W839 (Or.inr (own_sn_157 hw))
  have c845 := c835.other W839 (Or.inr (own_sn_158 hw))
  have c846 := c836.other W839 (Or.inr (own_sn_159 hw))
  have c847 := c838.other W839 (Ne.symm n1808)
  have c848 := V829.other W839 (Ne.symm n2808)
  obtain ⟨T849, h849, X849, e849, W849, st849⟩ := putF X839 hx hZ hown (host := "") (Or.inl (own_w hw 26 rfl)) Via.refl e839 c845 c841 (Or.inl (own_w hw 27 rfl)) (own_w hw 5 rfl) (ty := .int) (by decide) rfl rfl (g := (mkF m 121 #[.val (.ref a1), .val (.int (1 : Int32))] [(.int (1 : Int32)), (.ref a1)])) rfl rfl (hb hby d6_121)
  have Fw849 := c845.same W849
  have N849 := Fr.snoc X849 N839 Ga808
  have z850 : n0 ≤ h849.size := Nat.le_trans z840 (Keep.of_wr W849).1
  have c851 := c841.wr W849
  have c852 := c842.other W849 (Or.inr (own_sn_98 hw))
  have c853 := c843.other W849 (Or.inr (own_sn_99 hw))
  have c855 := c846.other W849 (Or.inr (own_sn_101 hw))
  have c856 := c847.other W849 (Ne.symm n1808)
  have c857 := c848.other W849 (Ne.symm n2808)
  have c858 := Fw839.other W849 (Or.inr (own_sn_100 hw))
  have pre859 : ∀ t, Steps p.tables e below (T849.setTop (mkF m 124 #[.val (.ref a1), .val (.int (1 : Int32))] [])) t → Steps p.tables e below (s₁.setTop (entryFrame m #[(.ref a1)] 2)) t := fun t kt => pre0 t (by
    show Steps p.tables e below (s₁.setTop (mkF m 0 #[.val (.ref a1), .unset] [])) _
    refine XS.aloadN X0.here hx rfl (hb hby d6_0) rfl rfl ?_
    refine st809 _ ?_
    refine XS.aloadN X809.here hx rfl (hb hby d6_4) rfl rfl ?_
    refine st810 _ ?_
    refine XS.isub X810.here hx rfl (hb hby d6_8) rfl ?_
    refine XS.istoreN X810.here hx rfl (hb hby d6_9) rfl (l' := #[.val (.ref a1), .val (.int (1 : Int32))]) rfl ?_
    refine XS.iloadN X810.here hx rfl (hb hby d6_10) rfl ?_
    refine XS.iconst X810.here hx rfl (hb hby d6_11) ?_
    refine XS.imul X810.here hx rfl (hb hby d6_12) rfl ?_
    refine XS.aloadN X810.here hx rfl (hb hby d6_13) rfl rfl ?_
    refine st811 _ ?_
    refine X811.arraylength hx (by rw [e811]; exact A812.1) (State.isArrayOf_alike hZ.alike A812.2.1) (g := (mkF m 17 #[.val (.ref a1), .val (.int (1 : Int32))] [(.ref am808), (.int (4 : Int32))])) rfl rfl (hb hby d6_17) _ ?_
    rw [len_of S812 M812]
    show Steps p.tables e below (T811.setTop (mkF m 18 #[.val (.ref a1), .val (.int (1 : Int32))] [(.int (2 : Int32)), (.int (4 : Int32))])) _
    refine XS.iconst X811.here hx rfl (hb hby d6_18) ?_
    refine XS.imul X811.here hx rfl (hb hby d6_19) rfl ?_
    refine XS.icmpYes X811.here hx rfl (pc0 := 20) (pc' := 80) rfl (hb hby d6_20) rfl (flt (by decide : ¬ ((6 : Int32) < (4 : Int32)))).2.2.2 (by decide) (by decide) ?_
    refine XS.aloadN X811.here hx rfl (hb hby d6_80) rfl rfl ?_
    refine st813 _ ?_
    refine XS.aloadN X813.here hx rfl (hb hby d6_84) rfl rfl ?_
    refine st814 _ ?_
    refine XS.aloadN X814.here hx rfl (hb hby d6_88) rfl rfl ?_
    refine st815 _ ?_
    refine XS.iconst X815.here hx rfl (hb hby d6_92) ?_
    refine XS.iloadN X815.here hx rfl (hb hby d6_93) rfl ?_
    refine st816 _ ?_
    show Steps p.tables e below (T816.setTop (mkF m 97 #[.val (.ref a1), .val (.int (1 : Int32))] [])) _
    refine XS.aloadN X816.here hx rfl (hb hby d6_97) rfl rfl ?_
    refine st826 _ ?_
    refine XS.aloadN X826.here hx rfl (hb hby d6_101) rfl rfl ?_
    refine st827 _ ?_
    refine XS.aloadN X827.here hx rfl (hb hby d6_105) rfl rfl ?_
    refine st828 _ ?_
    refine XS.iconst X828.here hx rfl (hb hby d6_109) ?_
    refine XS.iloadN X828.here hx rfl (hb hby d6_110) rfl ?_
    refine st829 _ ?_
    refine XS.aloadN X829.here hx rfl (hb hby d6_114) rfl rfl ?_
    refine XS.iconst X829.here hx rfl (hb hby d6_115) ?_
    refine st839 _ ?_
    show Steps p.tables e below (T839.setTop (mkF m 119 #[.val (.ref a1), .val (.int (1 : Int32))] [])) _
    refine XS.aloadN X839.here hx rfl (hb hby d6_119) rfl rfl ?_
    refine XS.iloadN X839.here hx rfl (hb hby d6_120) rfl ?_
    refine st849 _ ?_
    exact kt)
  have hz : h0.size ≤ h849.size := Nat.le_trans (Nat.le_trans (Nat.le_trans (Nat.le_trans (Nat.le_refl _) K816.1) K829.1) (Keep.of_wr W839).1) (Keep.of_wr W849).1
  have hQ : QRoom122 Z a1 x0 x1 y0 y1 b h0 n0 none h849 _ := ⟨rfl, N849, hz, ⟨am808, ac808, km808, kc808, c851, c852, c853, c858, Fw849, c855, c856, c857, Ga808, Gm808, Gc808, n1808, n2808, n3808⟩⟩
  exact own_retV X849 hx Bd.notSynchronized Bd.returns (hb hby d6_124) pre859 (show QRoom122 Z a1 x0 x1 y0 y1 b h0 n0 _ _ _ from (by rw [e849]; exact hQ)) (by decide) (by decide)
def QCnt122a (Z : State) (a1 : Addr) (q2 : Int64) (p4 p5 : Int32) (x0 : Int64) (x1 : Int64) (y0 : Int32) (y1 : Int32) (b : Int32) (h0 : Heap) (n0 : Nat) (v : Option Value) (h : Heap) (L : List Loc) : Prop := v = none ∧ Fr n0 L ∧ h0.size ≤ h.size ∧ PT Z h n0 a1 (0 : Int32) (2 : Int32) (2 : Int32) [(.long x1), (.long q2)] [(.int y1), (.int p4)] b
set_option maxRecDepth 65536 in
set_option maxHeartbeats 40000000 in
theorem rmCnt122a (l : Launch) (Z : State) (a0 : Array Value) (hw : ∀ d ∈ tables_1, d.before a0 Z = true) (ws : List Jvm.Cond) (a1 : Addr) (q2 : Int64) (p4 p5 : Int32) (x0 : Int64) (x1 : Int64) (y0 : Int32) (y1 : Int32) (b : Int32) (h0 : Heap) (n0 : Nat) (Z0 : n0 ≤ h0.size) (P0 : PT Z h0 n0 a1 (1 : Int32) (2 : Int32) (2 : Int32) [(.long x0), (.long x1)] [(.int y0), (.int y1)] b) (c0 : x1 < q2) :
    MetFree l own_y_103 (head1 (Jvm.Cond.code own_y_103 prog_25_method_2_code 5 none :: ws) ({ frames := 4, cells := 0, slots := 0, locals := 104 } : Room)) (fun a U => a = #[(.ref a1), (.long q2), (.int p4), (.int p5)] ∧ Z.Warmed39 U.vm ∧ U.heap = h0) (fun _ _ _ _ _ => True) (fun _ U o U' => ∃ v L, o = .returned v ∧ QCnt122a Z a1 q2 p4 p5 x0 x1 y0 y1 b h0 n0 v U'.heap L ∧ FrameEnd U o U' L ({ frames := 4, cells := 0, slots := 0, locals := 104 } : Room).cells ({ frames := 4, cells := 0, slots := 0, locals := 104 } : Room).slots) := by
  refine MetFree.of_bodySF (plainFor_of_name pn_2) hisR ?_
  intro p e s m args below meth c s₁ Bd hml0 hP hK
  obtain ⟨rfl, hZ, hh⟩ := hP
  have hx := Bd.exec
  have hby := Bd.bytes
  have hml : c.maxLocals = 5 := hml0
  have hown : s.vm.findClass "com/example/viral_counter/viralcounter/PostTrend" = some m.cls := findClass_of_methodNamed Bd.named
  have hnm := (name_of_methodNamed Bd.named Bd.method).1
  have X0 : Stand p l e ({ frames := 4, cells := 0, slots := 0, locals := 104 } : Room) s m #[(.ref a1), (.long q2), (.int p4), (.int p5)] below meth c s₁ [] 0 0 := Stand.of_body Bd
  have e0 : s₁.heap = h0 := by rw [← hh, Bd.state]; rfl
  have N0 := Fr.nil n0
  have pre0 : ∀ t, Steps p.tables e below (s₁.setTop (mkF m 0 #[.val (.ref a1), .val (.long q2), .second, .val (.int p4), .val (.int p5)] [])) t → Steps p.tables e below (s₁.setTop (entryFrame m #[(.ref a1), (.long q2), (.int p4), (.int p5)] 5)) t := fun t k => castTop (ef_104 m a1 q2 p4 p5) k
  obtain ⟨am860, ac860, km860, kc860, E860, Fm860, Fc860, Ff860, Fe860, Fb860, Vm860, Vc860, Ga860, Gm860, Gc860, n1860, n2860, n3860⟩ := id P0
  have hz0 : h0.size ≤ h0.size := Nat.le_refl _
  obtain ⟨T861, X861, e861, st861⟩ := getF X0 hx hZ hown (host := "") (Or.inl (own_w hw 24 rfl)) Via.refl e0 Ff860 (g := (mkF m 1 #[.val (.ref a1), .val (.long q2), .second, .val (.int p4), .val (.int p5)] [(.ref a1)])) rfl rfl (hb hby d5_1)
  obtain ⟨T862, X862, e862, st862⟩ := getF X861 hx hZ hown (host := "") (Or.inl (own_w hw 26 rfl)) Via.refl e861 Fe860 (g := (mkF m 5 #[.val (.ref a1), .val (.long q2), .second, .val (.int p4), .val (.int p5)] [(.ref a1), (.int (1 : Int32))])) rfl rfl (hb hby d5_5)
  obtain ⟨T863, X863, e863, st863⟩ := getF X862 hx hZ hown (host := "") (Or.inl (own_w hw 24 rfl)) Via.refl e862 Ff860 (g := (mkF m 30 #[.val (.ref a1), .val (.long q2), .second, .val (.int p4), .val (.int p5)] [(.ref a1)])) rfl rfl (hb hby d5_30)
  obtain ⟨T864, X864, e864, st864⟩ := getF X863 hx hZ hown (host := "") (Or.inl (own_w hw 26 rfl)) Via.refl e863 Fe860 (g := (mkF m 34 #[.val (.ref a1), .val (.long q2), .second, .val (.int p4), .val (.int p5)] [(.ref a1), (.int (1 : Int32))])) rfl rfl (hb hby d5_34)
  obtain ⟨T865, X865, e865, st865⟩ := getF X864 hx hZ hown (host := "") (Or.inl (own_w hw 14 rfl)) Via.refl e864 Fm860 (g := (mkF m 42 #[.val (.ref a1), .val (.long q2), .second, .val (.int p4), .val (.int p5)] [(.ref a1), (.long q2)])) rfl rfl (hb hby d5_42)
  obtain ⟨T866, X866, e866, st866⟩ := getF X865 hx hZ hown (host := "") (Or.inl (own_w hw 26 rfl)) Via.refl e865 Fe860 (g := (mkF m 46 #[.val (.ref a1), .val (.long q2), .second, .val (.int p4), .val (.int p5)] [(.ref a1), (.ref am860), (.long q2)])) rfl rfl (hb hby d5_46)
  obtain ⟨cl867, A867, q867, S867, M867, H867, J867⟩ := id Vm860
  have hin867 : ¬ ((1 : Int32) < 0 ∨ cl867.slots.size ≤ ((1 : Int32)).toNatClampNeg) := inb_of S867 ⟨by decide, by decide⟩
  have hat867 : cl867.slots[((1 : Int32)).toNatClampNeg]? = some (.long x1) := H867.at hin867 rfl
  obtain ⟨T868, X868, e868, st868⟩ := getF X866 hx hZ hown (host := "") (Or.inl (own_w hw 26 rfl)) Via.refl e866 Fe860 (g := (mkF m 72 #[.val (.ref a1), .val (.long q2), .second, .val (.int p4), .val (.int p5)] [(.ref a1)])) rfl rfl (hb hby d5_72)
  obtain ⟨T869, X869, e869, st869⟩ := getF X868 hx hZ hown (host := "") (Or.inl (own_w hw 14 rfl)) Via.refl e868 Fm860 (g := (mkF m 76 #[.val (.ref a1), .val (.long q2), .second, .val (.int p4), .val (.int p5)] [(.ref a1), (.int (2 : Int32))])) rfl rfl (hb hby d5_76)
  obtain ⟨cl870, A870, q870, S870, M870, H870, J870⟩ := id Vm860
  have P871 : PT Z h0 n0 a1 (1 : Int32) (2 : Int32) (2 : Int32) [(.long x0), (.long x1)] [(.int y0), (.int y1)] b := ⟨am860, ac860, km860, kc860, E860, Fm860, Fc860, Ff860, Fe860, Fb860, Vm860, Vc860, Ga860, Gm860, Gc860, n1860, n2860, n3860⟩
  obtain ⟨cq872, q872, q872'⟩ := E860.cell
  obtain ⟨ci872, ki872, i1872, i2872, -, i4872, -⟩ := Cond.instantiable_spec (mvT (args := #[(.ref a1), (.long q2), (.int p4), (.int p5)]) hZ (own_w hw 5 rfl))
  have hni872 : ki872.isInterface = false := by cases q : ki872.isInterface <;> simp [q] at i4872 ⊢
  have hsel872 := selects_self_of_private (args := #[(.ref a1), (.long q2), (.int p4), (.int p5)]) (y := own_y_309) i1872 i2872 hni872 (Cond.privateMethod_at (mvP hZ (own_w hw 37 rfl) (args := #[]))) (mvT hZ (own_w hw 36 rfl)) (by decide)
  obtain ⟨_, _, ⟨T872, L872, k872, n872⟩, -, X872, ⟨Lc872, hQ872, l872, y872, z872⟩, st872⟩ := X869.privateBack hx (y := own_y_309) hown (mvT hZ (own_w hw 35 rfl)) (mvT hZ (own_w hw 36 rfl)) hsel872 (Cond.privateMethod_at (mvP hZ (own_w hw 37 rfl) (args := #[]))) (mvT hZ (own_w hw 38 rfl)) (by decide) (backOf (W := 0) (rmRoom122 l Z a0 hw [] a1 x0 x1 y0 y1 b h0 n0 Z0 P871) hZ (own_w hw 38 rfl) (own_w hw 6 rfl) (by decide) (by decide)) (g := (mkF m 84 #[.val (.ref a1), .val (.long q2), .second, .val (.int p4), .val (.int p5)] [(.ref a1)])) rfl (by rw [hml]; rfl) (Steps.refl _) (a := a1) (by rw [e869]; exact q872) q872' (argsL := []) (rest := []) (lenOf pd_313 rfl) rfl (by show 2 * 0 + _ ≤ _; exact Nat.le_of_eq rfl) (hb hby d5_84) (fun _ _ => ⟨rfl, e869, (by decide : 0 + 0 ≤ _), (by decide : 0 + 0 ≤ _)⟩)
  dsimp only [Pt.U, Pt.locs, Pt.cells, Pt.slots] at X872 l872 y872 z872 st872 hQ872
  subst l872 y872 z872
  obtain ⟨rfl, Nq872, z872, P872⟩ := hQ872
  have N872 := Fr.app N0 Nq872
  have z873 : n0 ≤ T872.heap.size := Nat.le_trans Z0 z872
  obtain ⟨am874, ac874, km874, kc874, E874, Fm874, Fc874, Ff874, Fe874, Fb874, Vm874, Vc874, Ga874, Gm874, Gc874, n1874, n2874, n3874⟩ := id P872
  obtain ⟨T875, X875, e875, st875⟩ := getF X872 hx hZ hown (host := "") (Or.inl (own_w hw 14 rfl)) Via.refl rfl Fm874 (g := (mkF m 88 #[.val (.ref a1), .val (.long q2), .second, .val (.int p4), .val (.int p5)] [(.ref a1)])) rfl rfl (hb hby d5_88)
  obtain ⟨T876, X876, e876, st876⟩ := getF X875 hx hZ hown (host := "") (Or.inl (own_w hw 26 rfl)) Via.refl e875 Fe874 (g := (mkF m 92 #[.val (.ref a1), .val (.long q2), .second, .val (.int p4), .val (.int p5)] [(.ref a1), (.ref am874)])) rfl rfl (hb hby d5_92)
  obtain ⟨cl877, Ar877, q877, S877, M877, H877, J877⟩ := id Vm874
  have hin877 : ¬ ((1 : Int32) < 0 ∨ cl877.slots.size ≤ ((1 : Int32)).toNatClampNeg) := inb_of S877 ⟨by decide, by decide⟩
  obtain ⟨T878, h878, X878, e878, W878, st878⟩ := stJ X876 hx hZ e876 Ar877 (j := (1 : Int32)) hin877 (g := (mkF m 96 #[.val (.ref a1), .val (.long q2), .second, .val (.int p4), .val (.int p5)] [(.long q2), (.int (1 : Int32)), (.ref am874)])) rfl rfl (hb hby d5_96)
  have V878 : Arv Z h878 am874 km874 .long (2 : Int32) [(.long x1), (.long q2)] (.long (0 : Int64)) := Arv.set Ar877 q877 S877 M877 H877 J877 rfl W878 1 rfl (Nat.le_of_ble_eq_true rfl)
  have N878 := Fr.snoc X878 N872 Gm874
  have z879 : n0 ≤ h878.size := Nat.le_trans z873 (Keep.of_wr W878).1
  have c880 := E874.wr W878
  have c881 := Fm874.other W878 (Or.inl n1874)
  have c882 := Fc874.other W878 (Or.inl n1874)
  have c883 := Ff874.other W878 (Or.inl n1874)
  have c884 := Fe874.other W878 (Or.inl n1874)
  have c885 := Fb874.other W878 (Or.inl n1874)
  have c887 := Vc874.other W878 (Ne.symm n3874)
  obtain ⟨T888, X888, e888, st888⟩ := getF X878 hx hZ hown (host := "") (Or.inl (own_w hw 17 rfl)) Via.refl e878 c882 (g := (mkF m 98 #[.val (.ref a1), .val (.long q2), .second, .val (.int p4), .val (.int p5)] [(.ref a1)])) rfl rfl (hb hby d5_98)
  obtain ⟨T889, X889, e889, st889⟩ := getF X888 hx hZ hown (host := "") (Or.inl (own_w hw 26 rfl)) Via.refl e888 c884 (g := (mkF m 102 #[.val (.ref a1), .val (.long q2), .second, .val (.int p4), .val (.int p5)] [(.ref a1), (.ref ac874)])) rfl rfl (hb hby d5_102)
  obtain ⟨cl890, Ar890, q890, S890, M890, H890, J890⟩ := id c887
  have hin890 : ¬ ((1 : Int32) < 0 ∨ cl890.slots.size ≤ ((1 : Int32)).toNatClampNeg) := inb_of S890 ⟨by decide, by decide⟩
  obtain ⟨T891, h891, X891, e891, W891, st891⟩ := stI X889 hx hZ e889 Ar890 (j := (1 : Int32)) hin890 (g := (mkF m 106 #[.val (.ref a1), .val (.long q2), .second, .val (.int p4), .val (.int p5)] [(.int p4), (.int (1 : Int32)), (.ref ac874)])) rfl rfl (hb hby d5_106)
  have V891 : Arv Z h891 ac874 kc874 .int (2 : Int32) [(.int y1), (.int p4)] (.int (0 : Int32)) := Arv.set Ar890 q890 S890 M890 H890 J890 rfl W891 1 rfl (Nat.le_of_ble_eq_true rfl)
  have N891 := Fr.snoc X891 N878 Gc874
  have z892 : n0 ≤ h891.size := Nat.le_trans z879 (Keep.of_wr W891).1
  have c893 := c880.wr W891
  have c894 := c881.other W891 (Or.inl n2874)
  have c895 := c882.other W891 (Or.inl n2874)
  have c896 := c883.other W891 (Or.inl n2874)
  have c897 := c884.other W891 (Or.inl n2874)
  have c898 := c885.other W891 (Or.inl n2874)
  have c900 := V878.other W891 n3874
  obtain ⟨T901, X901, e901, st901⟩ := getF X891 hx hZ hown (host := "") (Or.inl (own_w hw 26 rfl)) Via.refl e891 c897 (g := (mkF m 109 #[.val (.ref a1), .val (.long q2), .second, .val (.int p4), .val (.int p5)] [(.ref a1), (.ref a1)])) rfl rfl (hb hby d5_109)
  obtain ⟨T902, h902, X902, e902, W902, st902⟩ := putF X901 hx hZ hown (host := "") (Or.inl (own_w hw 26 rfl)) Via.refl e901 c897 c893 (Or.inl (own_w hw 27 rfl)) (own_w hw 5 rfl) (ty := .int) (by decide) rfl rfl (g := (mkF m 114 #[.val (.ref a1), .val (.long q2), .second, .val (.int p4), .val (.int p5)] [(.int (2 : Int32)), (.ref a1)])) rfl rfl (hb hby d5_114)
  have Fw902 := c897.same W902
  have N902 := Fr.snoc X902 N891 Ga874
  have z903 : n0 ≤ h902.size := Nat.le_trans z892 (Keep.of_wr W902).1
  have c904 := c893.wr W902
  have c905 := c894.other W902 (Or.inr (own_sn_98 hw))
  have c906 := c895.other W902 (Or.inr (own_sn_99 hw))
  have c907 := c896.other W902 (Or.inr (own_sn_100 hw))
  have c909 := c898.other W902 (Or.inr (own_sn_101 hw))
  have c910 := c900.other W902 (Ne.symm n1874)
  have c911 := V891.other W902 (Ne.symm n2874)
  have pre912 : ∀ t, Steps p.tables e below (T902.setTop (mkF m 117 #[.val (.ref a1), .val (.long q2), .second, .val (.int p4), .val (.int p5)] [])) t → Steps p.tables e below (s₁.setTop (entryFrame m #[(.ref a1), (.long q2), (.int p4), (.int p5)] 5)) t := fun t kt => pre0 t (by
    show Steps p.tables e below (s₁.setTop (mkF m 0 #[.val (.ref a1), .val (.long q2), .second, .val (.int p4), .val (.int p5)] [])) _
    refine XS.aloadN X0.here hx rfl (hb hby d5_0) rfl rfl ?_
    refine st861 _ ?_
    refine XS.aloadN X861.here hx rfl (hb hby d5_4) rfl rfl ?_
    refine st862 _ ?_
    refine XS.icmpYes X862.here hx rfl (pc0 := 8) (pc' := 29) rfl (hb hby d5_8) rfl (feq (by decide : ¬ ((1 : Int32) = (2 : Int32)))).2 (by decide) (by decide) ?_
    refine XS.aloadN X862.here hx rfl (hb hby d5_29) rfl rfl ?_
    refine st863 _ ?_
    refine XS.aloadN X863.here hx rfl (hb hby d5_33) rfl rfl ?_
    refine st864 _ ?_
    refine XS.icmpNo X864.here hx rfl (hb hby d5_37) rfl (tlt (by decide : (1 : Int32) < (2 : Int32))).2.1 ?_
    refine XS.lloadN X864.here hx rfl (hb hby d5_40) rfl ?_
    refine XS.aloadN X864.here hx rfl (hb hby d5_41) rfl rfl ?_
    show Steps p.tables e below (T864.setTop (mkF m 42 #[.val (.ref a1), .val (.long q2), .second, .val (.int p4), .val (.int p5)] [(.ref a1), (.long q2)])) _
    refine st865 _ ?_
    refine XS.aloadN X865.here hx rfl (hb hby d5_45) rfl rfl ?_
    refine st866 _ ?_
    refine XS.iconst X866.here hx rfl (hb hby d5_49) ?_
    refine XS.isub X866.here hx rfl (hb hby d5_50) rfl ?_
    refine X866.laload hx (j := (1 : Int32)) (v := (.long x1)) (by rw [e866]; exact A867.1) (State.isArrayOf_alike hZ.alike A867.2.1) A867.2.2 hin867 hat867 (g := (mkF m 51 #[.val (.ref a1), .val (.long q2), .second, .val (.int p4), .val (.int p5)] [(.int (1 : Int32)), (.ref am860), (.long q2)])) rfl rfl (hb hby d5_51) _ ?_
    refine XS.lcmp X866.here hx rfl (hb hby d5_52) rfl ?_
    refine XS.ifYes X866.here hx rfl (pc0 := 53) (pc' := 71) rfl (hb hby d5_53) rfl ((if0 _ _).trans (tlt ((lw_gt _ _).mpr c0)).2.2.1) (by decide) (by decide) ?_
    refine XS.aloadN X866.here hx rfl (hb hby d5_71) rfl rfl ?_
    refine st868 _ ?_
    refine XS.aloadN X868.here hx rfl (hb hby d5_75) rfl rfl ?_
    refine st869 _ ?_
    show Steps p.tables e below (T869.setTop (mkF m 79 #[.val (.ref a1), .val (.long q2), .second, .val (.int p4), .val (.int p5)] [(.ref am860), (.int (2 : Int32))])) _
    refine X869.arraylength hx (by rw [e869]; exact A870.1) (State.isArrayOf_alike hZ.alike A870.2.1) (g := (mkF m 79 #[.val (.ref a1), .val (.long q2), .second, .val (.int p4), .val (.int p5)] [(.ref am860), (.int (2 : Int32))])) rfl rfl (hb hby d5_79) _ ?_
    rw [len_of S870 M870]
    refine XS.icmpNo X869.here hx rfl (hb hby d5_80) rfl (teq (by decide : (2 : Int32) = (2 : Int32))).2 ?_
    refine XS.aloadN X869.here hx rfl (hb hby d5_83) rfl rfl ?_
    refine st872.trans ?_
    refine XS.aloadN X872.here hx rfl (hb hby d5_87) rfl rfl ?_
    refine st875 _ ?_
    refine XS.aloadN X875.here hx rfl (hb hby d5_91) rfl rfl ?_
    refine st876 _ ?_
    refine XS.lloadN X876.here hx rfl (hb hby d5_95) rfl ?_
    refine st878 _ ?_
    refine XS.aloadN X878.here hx rfl (hb hby d5_97) rfl rfl ?_
    refine st888 _ ?_
    show Steps p.tables e below (T888.setTop (mkF m 101 #[.val (.ref a1), .val (.long q2), .second, .val (.int p4), .val (.int p5)] [(.ref ac874)])) _
    refine XS.aloadN X888.here hx rfl (hb hby d5_101) rfl rfl ?_
    refine st889 _ ?_
    refine XS.iloadN X889.here hx rfl (hb hby d5_105) rfl ?_
    refine st891 _ ?_
    refine XS.aloadN X891.here hx rfl (hb hby d5_107) rfl rfl ?_
    refine XS.dup X891.here hx rfl (hb hby d5_108) rfl rfl ?_
    refine st901 _ ?_
    refine XS.iconst X901.here hx rfl (hb hby d5_112) ?_
    refine XS.iadd X901.here hx rfl (hb hby d5_113) rfl ?_
    refine st902 _ ?_
    exact kt)
  have hz : h0.size ≤ h902.size := Nat.le_trans (Nat.le_trans (Nat.le_trans (Nat.le_trans (Nat.le_refl _) z872) (Keep.of_wr W878).1) (Keep.of_wr W891).1) (Keep.of_wr W902).1
  have hQ : QCnt122a Z a1 q2 p4 p5 x0 x1 y0 y1 b h0 n0 none h902 _ := ⟨rfl, N902, hz, ⟨am874, ac874, km874, kc874, c904, c905, c906, c907, Fw902, c909, c910, c911, Ga874, Gm874, Gc874, n1874, n2874, n3874⟩⟩
  exact own_retV X902 hx Bd.notSynchronized Bd.returns (hb hby d5_117) pre912 (show QCnt122a Z a1 q2 p4 p5 x0 x1 y0 y1 b h0 n0 _ _ _ from (by rw [e902]; exact hQ)) (by decide) (by decide)
def QCnt122o (Z : State) (a1 : Addr) (q2 : Int64) (p4 p5 : Int32) (x0 : Int64) (x1 : Int64) (y0 : Int32) (y1 : Int32) (b : Int32) (h0 : Heap) (n0 : Nat) (v : Option Value) (h : Heap) (L : List Loc) : Prop := v = none ∧ Fr n0 L ∧ h0.size ≤ h.size ∧ PT Z h n0 a1 (1 : Int32) (2 : Int32) (2 : Int32) [(.long x0), (.long x1)] [(.int y0), (.int p4)] b
set_option maxRecDepth 65536 in
set_option maxHeartbeats 40000000 in
theorem rmCnt122o (l : Launch) (Z : State) (a0 : Array Value) (hw : ∀ d ∈ tables_1, d.before a0 Z = true) (ws : List Jvm.Cond) (a1 : Addr) (q2 : Int64) (p4 p5 : Int32) (x0 : Int64) (x1 : Int64) (y0 : Int32) (y1 : Int32) (b : Int32) (h0 : Heap) (n0 : Nat) (Z0 : n0 ≤ h0.size) (P0 : PT Z h0 n0 a1 (1 : Int32) (2 : Int32) (2 : Int32) [(.long x0), (.long x1)] [(.int y0), (.int y1)] b) (c0 : ¬ (x1 < q2)) :
    MetFree l own_y_103 (head1 (Jvm.Cond.code own_y_103 prog_25_method_2_code 5 none :: ws) ({ frames := 0, cells := 0, slots := 0, locals := 0 } : Room)) (fun a U => a = #[(.ref a1), (.long q2), (.int p4), (.int p5)] ∧ Z.Warmed39 U.vm ∧ U.heap = h0) (fun _ _ _ _ _ => True) (fun _ U o U' => ∃ v L, o = .returned v ∧ QCnt122o Z a1 q2 p4 p5 x0 x1 y0 y1 b h0 n0 v U'.heap L ∧ FrameEnd U o U' L ({ frames := 0, cells := 0, slots := 0, locals := 0 } : Room).cells ({ frames := 0, cells := 0, slots := 0, locals := 0 } : Room).slots) := by
  refine MetFree.of_bodySF (plainFor_of_name pn_2) hisR ?_
  intro p e s m args below meth c s₁ Bd hml0 hP hK
  obtain ⟨rfl, hZ, hh⟩ := hP
  have hx := Bd.exec
  have hby := Bd.bytes
  have hml : c.maxLocals = 5 := hml0
  have hown : s.vm.findClass "com/example/viral_counter/viralcounter/PostTrend" = some m.cls := findClass_of_methodNamed Bd.named
  have hnm := (name_of_methodNamed Bd.named Bd.method).1
  have X0 : Stand p l e ({ frames := 0, cells := 0, slots := 0, locals := 0 } : Room) s m #[(.ref a1), (.long q2), (.int p4), (.int p5)] below meth c s₁ [] 0 0 := Stand.of_body Bd
  have e0 : s₁.heap = h0 := by rw [← hh, Bd.state]; rfl
  have N0 := Fr.nil n0
  have pre0 : ∀ t, Steps p.tables e below (s₁.setTop (mkF m 0 #[.val (.ref a1), .val (.long q2), .second, .val (.int p4), .val (.int p5)] [])) t → Steps p.tables e below (s₁.setTop (entryFrame m #[(.ref a1), (.long q2), (.int p4), (.int p5)] 5)) t := fun t k => castTop (ef_104 m a1 q2 p4 p5) k
  obtain ⟨am917, ac917, km917, kc917, E917, Fm917, Fc917, Ff917, Fe917, Fb917, Vm917, Vc917, Ga917, Gm917, Gc917, n1917, n2917, n3917⟩ := id P0
  have hz0 : h0.size ≤ h0.size := Nat.le_refl _
  obtain ⟨T918, X918, e918, st918⟩ := getF X0 hx hZ hown (host := "") (Or.inl (own_w hw 24 rfl)) Via.refl e0 Ff917 (g := (mkF m 1 #[.val (.ref a1), .val (.long q2), .second, .val (.int p4), .val (.int p5)] [(.ref a1)])) rfl rfl (hb hby d5_1)
  obtain ⟨T919, X919, e919, st919⟩ := getF X918 hx hZ hown (host := "") (Or.inl (own_w hw 26 rfl)) Via.refl e918 Fe917 (g := (mkF m 5 #[.val (.ref a1), .val (.long q2), .second, .val (.int p4), .val (.int p5)] [(.ref a1), (.int (1 : Int32))])) rfl rfl (hb hby d5_5)
  obtain ⟨T920, X920, e920, st920⟩ := getF X919 hx hZ hown (host := "") (Or.inl (own_w hw 24 rfl)) Via.refl e919 Ff917 (g := (mkF m 30 #[.val (.ref a1), .val (.long q2), .second, .val (.int p4), .val (.int p5)] [(.ref a1)])) rfl rfl (hb hby d5_30)
  obtain ⟨T921, X921, e921, st921⟩ := getF X920 hx hZ hown (host := "") (Or.inl (own_w hw 26 rfl)) Via.refl e920 Fe917 (g := (mkF m 34 #[.val (.ref a1), .val (.long q2), .second, .val (.int p4), .val (.int p5)] [(.ref a1), (.int (1 : Int32))])) rfl rfl (hb hby d5_34)
  obtain ⟨T922, X922, e922, st922⟩ := getF X921 hx hZ hown (host := "") (Or.inl (own_w hw 14 rfl)) Via.refl e921 Fm917 (g := (mkF m 42 #[.val (.ref a1), .val (.long q2), .second, .val (.int p4), .val (.int p5)] [(.ref a1), (.long q2)])) rfl rfl (hb hby d5_42)
  obtain ⟨T923, X923, e923, st923⟩ := getF X922 hx hZ hown (host := "") (Or.inl (own_w hw 26 rfl)) Via.refl e922 Fe917 (g := (mkF m 46 #[.val (.ref a1), .val (.long q2), .second, .val (.int p4), .val (.int p5)] [(.ref a1), (.ref am917), (.long q2)])) rfl rfl (hb hby d5_46)
  obtain ⟨cl924, A924, q924, S924, M924, H924, J924⟩ := id Vm917
  have hin924 : ¬ ((1 : Int32) < 0 ∨ cl924.slots.size ≤ ((1 : Int32)).toNatClampNeg) := inb_of S924 ⟨by decide, by decide⟩
  have hat924 : cl924.slots[((1 : Int32)).toNatClampNeg]? = some (.long x1) := H924.at hin924 rfl
  obtain ⟨T925, X925, e925, st925⟩ := getF X923 hx hZ hown (host := "") (Or.inl (own_w hw 17 rfl)) Via.refl e923 Fc917 (g := (mkF m 57 #[.val (.ref a1), .val (.long q2), .second, .val (.int p4), .val (.int p5)] [(.ref a1)])) rfl rfl (hb hby d5_57)
  obtain ⟨T926, X926, e926, st926⟩ := getF X925 hx hZ hown (host := "") (Or.inl (own_w hw 26 rfl)) Via.refl e925 Fe917 (g := (mkF m 61 #[.val (.ref a1), .val (.long q2), .second, .val (.int p4), .val (.int p5)] [(.ref a1), (.ref ac917)])) rfl rfl (hb hby d5_61)
  obtain ⟨cl927, Ar927, q927, S927, M927, H927, J927⟩ := id Vc917
  have hin927 : ¬ ((1 : Int32) < 0 ∨ cl927.slots.size ≤ ((1 : Int32)).toNatClampNeg) := inb_of S927 ⟨by decide, by decide⟩
  obtain ⟨T928, h928, X928, e928, W928, st928⟩ := stI X926 hx hZ e926 Ar927 (j := (1 : Int32)) hin927 (g := (mkF m 67 #[.val (.ref a1), .val (.long q2), .second, .val (.int p4), .val (.int p5)] [(.int p4), (.int (1 : Int32)), (.ref ac917)])) rfl rfl (hb hby d5_67)
  have V928 : Arv Z h928 ac917 kc917 .int (2 : Int32) [(.int y0), (.int p4)] (.int (0 : Int32)) := Arv.set Ar927 q927 S927 M927 H927 J927 rfl W928 1 rfl (Nat.le_of_ble_eq_true rfl)
  have N928 := Fr.snoc X928 N0 Gc917
  have z929 : n0 ≤ h928.size := Nat.le_trans Z0 (Keep.of_wr W928).1
  have c930 := E917.wr W928
  have c931 := Fm917.other W928 (Or.inl n2917)
  have c932 := Fc917.other W928 (Or.inl n2917)
  have c933 := Ff917.other W928 (Or.inl n2917)
  have c934 := Fe917.other W928 (Or.inl n2917)
  have c935 := Fb917.other W928 (Or.inl n2917)
  have c936 := Vm917.other W928 n3917
  have pre938 : ∀ t, Steps p.tables e below (T928.setTop (mkF m 117 #[.val (.ref a1), .val (.long q2), .second, .val (.int p4), .val (.int p5)] [])) t → Steps p.tables e below (s₁.setTop (entryFrame m #[(.ref a1), (.long q2), (.int p4), (.int p5)] 5)) t := fun t kt => pre0 t (by
    show Steps p.tables e below (s₁.setTop (mkF m 0 #[.val (.ref a1), .val (.long q2), .second, .val (.int p4), .val (.int p5)] [])) _
    refine XS.aloadN X0.here hx rfl (hb hby d5_0) rfl rfl ?_
    refine st918 _ ?_
    refine XS.aloadN X918.here hx rfl (hb hby d5_4) rfl rfl ?_
    refine st919 _ ?_
    refine XS.icmpYes X919.here hx rfl (pc0 := 8) (pc' := 29) rfl (hb hby d5_8) rfl (feq (by decide : ¬ ((1 : Int32) = (2 : Int32)))).2 (by decide) (by decide) ?_
    refine XS.aloadN X919.here hx rfl (hb hby d5_29) rfl rfl ?_
    refine st920 _ ?_
    refine XS.aloadN X920.here hx rfl (hb hby d5_33) rfl rfl ?_
    refine st921 _ ?_
    refine XS.icmpNo X921.here hx rfl (hb hby d5_37) rfl (tlt (by decide : (1 : Int32) < (2 : Int32))).2.1 ?_
    refine XS.lloadN X921.here hx rfl (hb hby d5_40) rfl ?_
    refine XS.aloadN X921.here hx rfl (hb hby d5_41) rfl rfl ?_
    show Steps p.tables e below (T921.setTop (mkF m 42 #[.val (.ref a1), .val (.long q2), .second, .val (.int p4), .val (.int p5)] [(.ref a1), (.long q2)])) _
    refine st922 _ ?_
    refine XS.aloadN X922.here hx rfl (hb hby d5_45) rfl rfl ?_
    refine st923 _ ?_
    refine XS.iconst X923.here hx rfl (hb hby d5_49) ?_
    refine XS.isub X923.here hx rfl (hb hby d5_50) rfl ?_
    refine X923.laload hx (j := (1 : Int32)) (v := (.long x1)) (by rw [e923]; exact A924.1) (State.isArrayOf_alike hZ.alike A924.2.1) A924.2.2 hin924 hat924 (g := (mkF m 51 #[.val (.ref a1), .val (.long q2), .second, .val (.int p4), .val (.int p5)] [(.int (1 : Int32)), (.ref am917), (.long q2)])) rfl rfl (hb hby d5_51) _ ?_
    refine XS.lcmp X923.here hx rfl (hb hby d5_52) rfl ?_
    refine XS.ifNo X923.here hx rfl (hb hby d5_53) rfl ((if0 _ _).trans (flt (fun q => c0 ((lw_gt _ _).mp q))).2.2.1) ?_
    refine XS.aloadN X923.here hx rfl (hb hby d5_56) rfl rfl ?_
    refine st925 _ ?_
    refine XS.aloadN X925.here hx rfl (hb hby d5_60) rfl rfl ?_
    refine st926 _ ?_
    show Steps p.tables e below (T926.setTop (mkF m 64 #[.val (.ref a1), .val (.long q2), .second, .val (.int p4), .val (.int p5)] [(.int (2 : Int32)), (.ref ac917)])) _
    refine XS.iconst X926.here hx rfl (hb hby d5_64) ?_
    refine XS.isub X926.here hx rfl (hb hby d5_65) rfl ?_
    refine XS.iloadN X926.here hx rfl (hb hby d5_66) rfl ?_
    refine st928 _ ?_
    refine XS.goto X928.here hx rfl (pc0 := 68) (pc' := 117) rfl (hb hby d5_68) (by decide) (by decide) ?_
    exact kt)
  have hz : h0.size ≤ h928.size := Nat.le_trans (Nat.le_refl _) (Keep.of_wr W928).1
  have hQ : QCnt122o Z a1 q2 p4 p5 x0 x1 y0 y1 b h0 n0 none h928 _ := ⟨rfl, N928, hz, ⟨am917, ac917, km917, kc917, c930, c931, c932, c933, c934, c935, c936, V928, Ga917, Gm917, Gc917, n1917, n2917, n3917⟩⟩
  exact own_retV X928 hx Bd.notSynchronized Bd.returns (hb hby d5_117) pre938 (show QCnt122o Z a1 q2 p4 p5 x0 x1 y0 y1 b h0 n0 _ _ _ from (by rw [e928]; exact hQ)) (by decide) (by decide)
def QFgt022_0 (Z : State) (a1 : Addr) (q2 : Int64) (x0 : Int64) (x1 : Int64) (y0 : Int32) (y1 : Int32) (b : Int32) (h0 : Heap) (n0 : Nat) (v : Option Value) (h : Heap) (L : List Loc) : Prop := v = none ∧ Fr n0 L ∧ h0.size ≤ h.size ∧ PT Z h n0 a1 (0 : Int32) (2 : Int32) (2 : Int32) [(.long x0), (.long x1)] [(.int y0), (.int y1)] b
set_option maxRecDepth 65536 in
set_option maxHeartbeats 40000000 in
theorem rmFgt022_0 (l : Launch) (Z : State) (a0 : Array Value) (hw : ∀ d ∈ tables_1, d.before a0 Z = true) (ws : List Jvm.Cond) (a1 : Addr) (q2 : Int64) (x0 : Int64) (x1 : Int64) (y0 : Int32) (y1 : Int32) (b : Int32) (h0 : Heap) (n0 : Nat) (Z0 : n0 ≤ h0.size) (P0 : PT Z h0 n0 a1 (0 : Int32) (2 : Int32) (2 : Int32) [(.long x0), (.long x1)] [(.int y0), (.int y1)] b) (c0 : ¬ (x0 < q2)) :
    MetFree l own_y_113 (head1 (Jvm.Cond.code own_y_113 prog_25_method_4_code 3 none :: ws) ({ frames := 0, cells := 0, slots := 0, locals := 0 } : Room)) (fun a U => a = #[(.ref a1), (.long q2)] ∧ Z.Warmed39 U.vm ∧ U.heap = h0) (fun _ _ _ _ _ => True) (fun _ U o U' => ∃ v L, o = .returned v ∧ QFgt022_0 Z a1 q2 x0 x1 y0 y1 b h0 n0 v U'.heap L ∧ FrameEnd U o U' L ({ frames := 0, cells := 0, slots := 0, locals := 0 } : Room).cells ({ frames := 0, cells := 0, slots := 0, locals := 0 } : Room).slots) := by
  refine MetFree.of_bodySF (plainFor_of_name pn_2) hisR ?_
  intro p e s m args below meth c s₁ Bd hml0 hP hK
  obtain ⟨rfl, hZ, hh⟩ := hP
  have hx := Bd.exec
  have hby := Bd.bytes
  have hml : c.maxLocals = 3 := hml0
  have hown : s.vm.findClass "com/example/viral_counter/viralcounter/PostTrend" = some m.cls := findClass_of_methodNamed Bd.named
  have hnm := (name_of_methodNamed Bd.named Bd.method).1
  have X0 : Stand p l e ({ frames := 0, cells := 0, slots := 0, locals := 0 } : Room) s m #[(.ref a1), (.long q2)] below meth c s₁ [] 0 0 := Stand.of_body Bd
  have e0 : s₁.heap = h0 := by rw [← hh, Bd.state]; rfl
  have N0 := Fr.nil n0
  have pre0 : ∀ t, Steps p.tables e below (s₁.setTop (mkF m 0 #[.val (.ref a1), .val (.long q2), .second] [])) t → Steps p.tables e below (s₁.setTop (entryFrame m #[(.ref a1), (.long q2)] 3)) t := fun t k => castTop (ef_114 m a1 q2) k
  obtain ⟨am943, ac943, km943, kc943, E943, Fm943, Fc943, Ff943, Fe943, Fb943, Vm943, Vc943, Ga943, Gm943, Gc943, n1943, n2943, n3943⟩ := id P0
  have hz0 : h0.size ≤ h0.size := Nat.le_refl _
  obtain ⟨T944, X944, e944, st944⟩ := getF X0 hx hZ hown (host := "") (Or.inl (own_w hw 24 rfl)) Via.refl e0 Ff943 (g := (mkF m 1 #[.val (.ref a1), .val (.long q2), .second] [(.ref a1)])) rfl rfl (hb hby d13_1)
  obtain ⟨T945, X945, e945, st945⟩ := getF X944 hx hZ hown (host := "") (Or.inl (own_w hw 26 rfl)) Via.refl e944 Fe943 (g := (mkF m 5 #[.val (.ref a1), .val (.long q2), .second] [(.ref a1), (.int (0 : Int32))])) rfl rfl (hb hby d13_5)
  obtain ⟨T946, X946, e946, st946⟩ := getF X945 hx hZ hown (host := "") (Or.inl (own_w hw 14 rfl)) Via.refl e945 Fm943 (g := (mkF m 12 #[.val (.ref a1), .val (.long q2), .second] [(.ref a1)])) rfl rfl (hb hby d13_12)
  obtain ⟨T947, X947, e947, st947⟩ := getF X946 hx hZ hown (host := "") (Or.inl (own_w hw 24 rfl)) Via.refl e946 Ff943 (g := (mkF m 16 #[.val (.ref a1), .val (.long q2), .second] [(.ref a1), (.ref am943)])) rfl rfl (hb hby d13_16)
  obtain ⟨cl948, A948, q948, S948, M948, H948, J948⟩ := id Vm943
  have hin948 : ¬ ((0 : Int32) < 0 ∨ cl948.slots.size ≤ ((0 : Int32)).toNatClampNeg) := inb_of S948 ⟨by decide, by decide⟩
  have hat948 : cl948.slots[((0 : Int32)).toNatClampNeg]? = some (.long x0) := H948.at hin948 rfl
  have pre949 : ∀ t, Steps p.tables e below (T947.setTop (mkF m 51 #[.val (.ref a1), .val (.long q2), .second] [])) t → Steps p.tables e below (s₁.setTop (entryFrame m #[(.ref a1), (.long q2)] 3)) t := fun t kt => pre0 t (by
    show Steps p.tables e below (s₁.setTop (mkF m 0 #[.val (.ref a1), .val (.long q2), .second] [])) _
    refine XS.aloadN X0.here hx rfl (hb hby d13_0) rfl rfl ?_
    refine st944 _ ?_
    refine XS.aloadN X944.here hx rfl (hb hby d13_4) rfl rfl ?_
    refine st945 _ ?_
    refine XS.icmpNo X945.here hx rfl (hb hby d13_8) rfl (tlt (by decide : (0 : Int32) < (2 : Int32))).2.1 ?_
    refine XS.aloadN X945.here hx rfl (hb hby d13_11) rfl rfl ?_
    refine st946 _ ?_
    refine XS.aloadN X946.here hx rfl (hb hby d13_15) rfl rfl ?_
    refine st947 _ ?_
    refine X947.laload hx (j := (0 : Int32)) (v := (.long x0)) (by rw [e947]; exact A948.1) (State.isArrayOf_alike hZ.alike A948.2.1) A948.2.2 hin948 hat948 (g := (mkF m 19 #[.val (.ref a1), .val (.long q2), .second] [(.int (0 : Int32)), (.ref am943)])) rfl rfl (hb hby d13_19) _ ?_
    refine XS.lloadN X947.here hx rfl (hb hby d13_20) rfl ?_
    refine XS.lcmp X947.here hx rfl (hb hby d13_21) rfl ?_
    show Steps p.tables e below (T947.setTop (mkF m 22 #[.val (.ref a1), .val (.long q2), .second] [(.int (lcmpW x0 q2))])) _
    refine XS.ifYes X947.here hx rfl (pc0 := 22) (pc' := 51) rfl (hb hby d13_22) rfl ((if0 _ _).trans (flt (fun q => c0 ((lw_lt _ _).mp q))).2.1) (by decide) (by decide) ?_
    exact kt)
  have hz : h0.size ≤ h0.size := Nat.le_refl _
  have hQ : QFgt022_0 Z a1 q2 x0 x1 y0 y1 b h0 n0 none h0 _ := ⟨rfl, N0, hz, ⟨am943, ac943, km943, kc943, E943, Fm943, Fc943, Ff943, Fe943, Fb943, Vm943, Vc943, Ga943, Gm943, Gc943, n1943, n2943, n3943⟩⟩
  exact own_retV X947 hx Bd.notSynchronized Bd.returns (hb hby d13_51) pre949 (show QFgt022_0 Z a1 q2 x0 x1 y0 y1 b h0 n0 _ _ _ from (by rw [e947]; exact hQ)) (by decide) (by decide)
set_option maxRecDepth 65536 in
set_option maxHeartbeats 40000000 in
theorem sg022 {p : Program} {l : Launch} {e : Env} {s : State} {m : MethodId} {below : List Frame} {meth : Method} {c : Code} {T0 : State} {locs : List Loc} {Z : State} {a0 : Array Value} {n0 : Nat} (q1 : Int64) (p2 : Int32) (p3 : Int32) (q4 : Int64) (p5 : Int32) (kn : Int32) (df : Int32) (ex : Int32) (lk : Int32) (m2 : Int64) (m3 : Int64) (nw : Int64) (mx : Int64) (ob : Addr) (e0 : Int32) (e1 : Int32) (x0 : Int64) (x1 : Int64) (y0 : Int32) (y1 : Int32) (b : Int32) (X0 : Stand p l e room_1 s m #[(.long q1), (.int p2), (.int p3), (.long q4), (.int p5)] below meth c T0 locs 5 22) (hx : p.tables.exec = Jvm.exec) (hZ : Z.Warmed39 s.vm) (hw : ∀ d ∈ tables_1, d.before a0 Z = true) (hby : c.code = code) (hml : c.maxLocals = 29) (hown : s.vm.findClass "com/example/viral_counter/viralcounter/PostTrendIsEmptyPinLaw" = some m.cls) (N0 : Fr n0 locs) (Z0 : n0 ≤ T0.heap.size) (P0 : PT Z T0.heap n0 ob (0 : Int32) (2 : Int32) (2 : Int32) [(.long x0), (.long x1)] [(.int y0), (.int y1)] b) (hnw : nw = x1) (hs0 : x0 < x1) :
    ∃ (T' : State) (locs' : List Loc), Stand p l e room_1 s m #[(.long q1), (.int p2), (.int p3), (.long q4), (.int p5)] below meth c T' locs' 7 30 ∧ Fr n0 locs' ∧ ∀ t, Steps p.tables e below (T'.setTop (mkF m 237 (own_LF q1 p2 p3 q4 p5 kn df ex lk m2 m3 nw mx ob e0 e1 (.val (.int (if df = (0 : Int32) then (0 : Int32) else (if nw < q4 then (1 : Int32) else (0 : Int32))))) (.val (.int (if ex = (0 : Int32) then (if df = (0 : Int32) then (0 : Int32) else (if nw < q4 then (1 : Int32) else (0 : Int32))) else (0 : Int32))))) [])) t → Steps p.tables e below (T0.setTop (mkF m 196 (own_LF q1 p2 p3 q4 p5 kn df ex lk m2 m3 nw mx ob e0 e1 .unset .unset) [])) t := by
  have pre0 : ∀ t, Steps p.tables e below (T0.setTop (mkF m 196 (own_LF q1 p2 p3 q4 p5 kn df ex lk m2 m3 nw mx ob e0 e1 .unset .unset) [])) t → Steps p.tables e below (T0.setTop (mkF m 196 (own_LF q1 p2 p3 q4 p5 kn df ex lk m2 m3 nw mx ob e0 e1 .unset .unset) [])) t := fun _ q => q
  have pre353 : ∀ t, Steps p.tables e below (T0.setTop (mkF m 198 (own_LF q1 p2 p3 q4 p5 kn df ex lk m2 m3 nw mx ob e0 e1 .unset .unset) [(.int df)])) t → Steps p.tables e below (T0.setTop (mkF m 196 (own_LF q1 p2 p3 q4 p5 kn df ex lk m2 m3 nw mx ob e0 e1 .unset .unset) [])) t := fun t kt => pre0 t (by
    show Steps p.tables e below (T0.setTop (mkF m 196 (own_LF q1 p2 p3 q4 p5 kn df ex lk m2 m3 nw mx ob e0 e1 .unset .unset) [])) _
    refine XS.iload X0.here hx rfl (hb hby at_196) rfl ?_
    exact kt)
  by_cases hc354 : df = (0 : Int32)
  case pos =>
    obtain ⟨cq355, kq355, q355a, q355b, q355c⟩ := isOf hZ rfl (own_pt_exa P0)
    obtain ⟨_, _, ⟨T355, L355, k355, n355⟩, -, X355, ⟨Lc355, hQ355, l355, y355, z355⟩, st355⟩ := X0.virtualBack hx (y := own_y_38) (z := own_y_38) hown (mvT hZ (own_w hw 19 rfl)) (mvT hZ (own_w hw 20 rfl)) (notFace_of_selects (args := #[]) (mvT hZ (own_w hw 22 rfl))) (mvT hZ (own_w hw 22 rfl)) (mvT hZ (own_w hw 21 rfl)) (by decide) (backOf (W := 0) (rmEmpF l Z a0 hw [] ob _ _ _ _ _ _ T0.heap n0 Z0 P0 (by decide)) hZ (own_w hw 23 rfl) (own_w hw 6 rfl) (by decide) (by decide)) q355a q355c (g := (mkF m 210 (own_LF q1 p2 p3 q4 p5 kn df ex lk m2 m3 nw mx ob e0 e1 .unset .unset) [(.ref ob)])) rfl (by rw [hml]; rfl) (Steps.refl _) (argsL := []) (rest := []) (lenOf pd_48 rfl) rfl (by show 2 * 0 + _ ≤ _; exact Nat.le_of_eq rfl) (hb hby at_210) (fun _ _ => ⟨rfl, rfl, (by decide : 5 + 0 ≤ _), (by decide : 22 + 0 ≤ _)⟩)
    dsimp only [Pt.U, Pt.locs, Pt.cells, Pt.slots] at X355 l355 y355 z355 st355 hQ355
    subst l355 y355 z355
    obtain ⟨rfl, Nq355, e355⟩ := hQ355
    have N355 := Fr.app N0 Nq355
    have pre356 : ∀ t, Steps p.tables e below (T355.setTop (mkF m 217 (own_LF q1 p2 p3 q4 p5 kn df ex lk m2 m3 nw mx ob e0 e1 (.val (.int (0 : Int32))) .unset) [(.int ex)])) t → Steps p.tables e below (T0.setTop (mkF m 196 (own_LF q1 p2 p3 q4 p5 kn df ex lk m2 m3 nw mx ob e0 e1 .unset .unset) [])) t := fun t kt => pre353 t (by
      show Steps p.tables e below (T0.setTop (mkF m 198 (own_LF q1 p2 p3 q4 p5 kn df ex lk m2 m3 nw mx ob e0 e1 .unset .unset) [(.int df)])) _
      refine XS.ifYes X0.here hx rfl (pc0 := 198) (pc' := 208) rfl (hb hby at_198) rfl ((if0 _ _).trans (teq hc354).1) (by decide) (by decide) ?_
      refine XS.aload X0.here hx rfl (hb hby at_208) rfl rfl ?_
      refine st355.trans ?_
      refine XS.istore X355.here hx rfl (hb hby at_213) rfl (l' := (own_LF q1 p2 p3 q4 p5 kn df ex lk m2 m3 nw mx ob e0 e1 (.val (.int (0 : Int32))) .unset)) rfl ?_
      refine XS.iload X355.here hx rfl (hb hby at_215) rfl ?_
      exact kt)
    by_cases hc357 : ex = (0 : Int32)
    case pos =>
      obtain ⟨cq358, kq358, q358a, q358b, q358c⟩ := isOf hZ e355 (own_pt_exa P0)
      obtain ⟨_, _, ⟨T358, L358, k358, n358⟩, -, X358, ⟨Lc358, hQ358, l358, y358, z358⟩, st358⟩ := X355.virtualBack hx (y := own_y_38) (z := own_y_38) hown (mvT hZ (own_w hw 19 rfl)) (mvT hZ (own_w hw 20 rfl)) (notFace_of_selects (args := #[]) (mvT hZ (own_w hw 22 rfl))) (mvT hZ (own_w hw 22 rfl)) (mvT hZ (own_w hw 21 rfl)) (by decide) (backOf (W := 0) (rmEmpF l Z a0 hw [] ob _ _ _ _ _ _ T0.heap n0 Z0 P0 (by decide)) hZ (own_w hw 23 rfl) (own_w hw 6 rfl) (by decide) (by decide)) q358a q358c (g := (mkF m 232 (own_LF q1 p2 p3 q4 p5 kn df ex lk m2 m3 nw mx ob e0 e1 (.val (.int (0 : Int32))) .unset) [(.ref ob)])) rfl (by rw [hml]; rfl) (Steps.refl _) (argsL := []) (rest := []) (lenOf pd_48 rfl) rfl (by show 2 * 0 + _ ≤ _; exact Nat.le_of_eq rfl) (hb hby at_232) (fun _ _ => ⟨rfl, e355, (by decide : 5 + 0 ≤ _), (by decide : 22 + 0 ≤ _)⟩)
      dsimp only [Pt.U, Pt.locs, Pt.cells, Pt.slots] at X358 l358 y358 z358 st358 hQ358
      subst l358 y358 z358
      obtain ⟨rfl, Nq358, e358⟩ := hQ358
      have N358 := Fr.app N355 Nq358
      have pre359 : ∀ t, Steps p.tables e below (T358.setTop (mkF m 237 (own_LF q1 p2 p3 q4 p5 kn df ex lk m2 m3 nw mx ob e0 e1 (.val (.int (0 : Int32))) (.val (.int (0 : Int32)))) [])) t → Steps p.tables e below (T0.setTop (mkF m 196 (own_LF q1 p2 p3 q4 p5 kn df ex lk m2 m3 nw mx ob e0 e1 .unset .unset) [])) t := fun t kt => pre356 t (by
        show Steps p.tables e below (T355.setTop (mkF m 217 (own_LF q1 p2 p3 q4 p5 kn df ex lk m2 m3 nw mx ob e0 e1 (.val (.int (0 : Int32))) .unset) [(.int ex)])) _
        refine XS.ifYes X355.here hx rfl (pc0 := 217) (pc' := 230) rfl (hb hby at_217) rfl ((if0 _ _).trans (teq hc357).1) (by decide) (by decide) ?_
        refine XS.aload X355.here hx rfl (hb hby at_230) rfl rfl ?_
        refine st358.trans ?_
        refine XS.istore X358.here hx rfl (hb hby at_235) rfl (l' := (own_LF q1 p2 p3 q4 p5 kn df ex lk m2 m3 nw mx ob e0 e1 (.val (.int (0 : Int32))) (.val (.int (0 : Int32))))) rfl ?_
        exact kt)
      rw [show (if df = (0 : Int32) then (0 : Int32) else (if nw < q4 then (1 : Int32) else (0 : Int32))) = (0 : Int32) from if_pos hc354]
      rw [show (if ex = (0 : Int32) then (0 : Int32) else (0 : Int32)) = (0 : Int32) from if_pos hc357]
      exact ⟨T358, _, own_more X358 (by decide) (by decide), N358, pre359⟩
    case neg =>
      have pre360 : ∀ t, Steps p.tables e below (T355.setTop (mkF m 227 (own_LF q1 p2 p3 q4 p5 kn df ex lk m2 m3 nw mx ob e0 e1 (.val (.int (0 : Int32))) .unset) [(.int lk), (.int p3), (.long mx), (.ref ob)])) t → Steps p.tables e below (T0.setTop (mkF m 196 (own_LF q1 p2 p3 q4 p5 kn df ex lk m2 m3 nw mx ob e0 e1 .unset .unset) [])) t := fun t kt => pre356 t (by
        show Steps p.tables e below (T355.setTop (mkF m 217 (own_LF q1 p2 p3 q4 p5 kn df ex lk m2 m3 nw mx ob e0 e1 (.val (.int (0 : Int32))) .unset) [(.int ex)])) _
        refine XS.ifNo X355.here hx rfl (hb hby at_217) rfl ((if0 _ _).trans (feq hc357).1) ?_
        refine XS.aload X355.here hx rfl (hb hby at_220) rfl rfl ?_
        refine XS.lload X355.here hx rfl (hb hby at_222) rfl ?_
        refine XS.iloadN X355.here hx rfl (hb hby at_224) rfl ?_
        refine XS.iload X355.here hx rfl (hb hby at_225) rfl ?_
        exact kt)
      by_cases hc361 : x1 < mx
      case pos =>
        obtain ⟨cq542, kq542, q542a, q542b, q542c⟩ := isOf hZ e355 (own_pt_exa P0)
        obtain ⟨_, _, ⟨T542, L542, k542, n542⟩, -, X542, ⟨Lc542, hQ542, l542, y542, z542⟩, st542⟩ := X355.virtualBack hx (y := own_y_103) (z := own_y_103) hown (mvT hZ (own_w hw 28 rfl)) (mvT hZ (own_w hw 29 rfl)) (notFace_of_selects (args := #[]) (mvT hZ (own_w hw 31 rfl))) (mvT hZ (own_w hw 31 rfl)) (mvT hZ (own_w hw 30 rfl)) (by decide) (backOf (W := 0) (rmCnt022a l Z a0 hw [] ob mx p3 lk x0 x1 y0 y1 b T0.heap n0 Z0 P0 hc361) hZ (own_w hw 32 rfl) (own_w hw 6 rfl) (by decide) (by decide)) q542a q542c (g := (mkF m 227 (own_LF q1 p2 p3 q4 p5 kn df ex lk m2 m3 nw mx ob e0 e1 (.val (.int (0 : Int32))) .unset) [(.int lk), (.int p3), (.long mx), (.ref ob)])) rfl (by rw [hml]; rfl) (Steps.refl _) (argsL := [(.long mx), (.int p3), (.int lk)]) (rest := []) (lenOf pd_105 rfl) rfl (by show 2 * 0 + _ ≤ _; exact Nat.le_of_eq rfl) (hb hby at_227) (fun _ _ => ⟨rfl, e355, (by decide : 5 + 2 ≤ _), (by decide : 22 + 8 ≤ _)⟩)
        dsimp only [Pt.U, Pt.locs, Pt.cells, Pt.slots] at X542 l542 y542 z542 st542 hQ542
        subst l542 y542 z542
        obtain ⟨rfl, Nq542, z542, P542⟩ := hQ542
        have N542 := Fr.app N355 Nq542
        have z543 : n0 ≤ T542.heap.size := Nat.le_trans Z0 z542
        obtain ⟨cq544, kq544, q544a, q544b, q544c⟩ := isOf hZ rfl (own_pt_exa P542)
        obtain ⟨_, _, ⟨T544, L544, k544, n544⟩, -, X544, ⟨Lc544, hQ544, l544, y544, z544⟩, st544⟩ := X542.virtualBack hx (y := own_y_38) (z := own_y_38) hown (mvT hZ (own_w hw 19 rfl)) (mvT hZ (own_w hw 20 rfl)) (notFace_of_selects (args := #[]) (mvT hZ (own_w hw 22 rfl))) (mvT hZ (own_w hw 22 rfl)) (mvT hZ (own_w hw 21 rfl)) (by decide) (backOf (W := 0) (rmEmpF l Z a0 hw [] ob _ _ _ _ _ _ T542.heap n0 z543 P542 (by decide)) hZ (own_w hw 23 rfl) (own_w hw 6 rfl) (by decide) (by decide)) q544a q544c (g := (mkF m 232 (own_LF q1 p2 p3 q4 p5 kn df ex lk m2 m3 nw mx ob e0 e1 (.val (.int (0 : Int32))) .unset) [(.ref ob)])) rfl (by rw [hml]; rfl) (Steps.refl _) (argsL := []) (rest := []) (lenOf pd_48 rfl) rfl (by show 2 * 0 + _ ≤ _; exact Nat.le_of_eq rfl) (hb hby at_232) (fun _ _ => ⟨rfl, rfl, (by decide : 7 + 0 ≤ _), (by decide : 30 + 0 ≤ _)⟩)
        dsimp only [Pt.U, Pt.locs, Pt.cells, Pt.slots] at X544 l544 y544 z544 st544 hQ544
        subst l544 y544 z544
        obtain ⟨rfl, Nq544, e544⟩ := hQ544
        have N544 := Fr.app N542 Nq544
        have pre545 : ∀ t, Steps p.tables e below (T544.setTop (mkF m 237 (own_LF q1 p2 p3 q4 p5 kn df ex lk m2 m3 nw mx ob e0 e1 (.val (.int (0 : Int32))) (.val (.int (0 : Int32)))) [])) t → Steps p.tables e below (T0.setTop (mkF m 196 (own_LF q1 p2 p3 q4 p5 kn df ex lk m2 m3 nw mx ob e0 e1 .unset .unset) [])) t := fun t kt => pre360 t (by
          show Steps p.tables e below (T355.setTop (mkF m 227 (own_LF q1 p2 p3 q4 p5 kn df ex lk m2 m3 nw mx ob e0 e1 (.val (.int (0 : Int32))) .unset) [(.int lk), (.int p3), (.long mx), (.ref ob)])) _
          refine st542.trans ?_
          refine XS.aload X542.here hx rfl (hb hby at_230) rfl rfl ?_
          refine st544.trans ?_
          refine XS.istore X544.here hx rfl (hb hby at_235) rfl (l' := (own_LF q1 p2 p3 q4 p5 kn df ex lk m2 m3 nw mx ob e0 e1 (.val (.int (0 : Int32))) (.val (.int (0 : Int32))))) rfl ?_
          exact kt)
        rw [show (if df = (0 : Int32) then (0 : Int32) else (if nw < q4 then (1 : Int32) else (0 : Int32))) = (0 : Int32) from if_pos hc354]
        rw [show (if ex = (0 : Int32) then (0 : Int32) else (0 : Int32)) = (0 : Int32) from if_neg hc357]
        exact ⟨T544, _, own_more X544 (by decide) (by decide), N544, pre545⟩
      case neg =>
        obtain ⟨cq568, kq568, q568a, q568b, q568c⟩ := isOf hZ e355 (own_pt_exa P0)
        obtain ⟨_, _, ⟨T568, L568, k568, n568⟩, -, X568, ⟨Lc568, hQ568, l568, y568, z568⟩, st568⟩ := X355.virtualBack hx (y := own_y_103) (z := own_y_103) hown (mvT hZ (own_w hw 28 rfl)) (mvT hZ (own_w hw 29 rfl)) (notFace_of_selects (args := #[]) (mvT hZ (own_w hw 31 rfl))) (mvT hZ (own_w hw 31 rfl)) (mvT hZ (own_w hw 30 rfl)) (by decide) (backOf (W := 0) (rmCnt022o l Z a0 hw [] ob mx p3 lk x0 x1 y0 y1 b T0.heap n0 Z0 P0 hc361) hZ (own_w hw 32 rfl) (own_w hw 6 rfl) (by decide) (by decide)) q568a q568c (g := (mkF m 227 (own_LF q1 p2 p3 q4 p5 kn df ex lk m2 m3 nw mx ob e0 e1 (.val (.int (0 : Int32))) .unset) [(.int lk), (.int p3), (.long mx), (.ref ob)])) rfl (by rw [hml]; rfl) (Steps.refl _) (argsL := [(.long mx), (.int p3), (.int lk)]) (rest := []) (lenOf pd_105 rfl) rfl (by show 2 * 0 + _ ≤ _; exact Nat.le_of_eq rfl) (hb hby at_227) (fun _ _ => ⟨rfl, e355, (by decide : 5 + 0 ≤ _), (by decide : 22 + 0 ≤ _)⟩)
        dsimp only [Pt.U, Pt.locs, Pt.cells, Pt.slots] at X568 l568 y568 z568 st568 hQ568
        subst l568 y568 z568
        obtain ⟨rfl, Nq568, z568, P568⟩ := hQ568
        have N568 := Fr.app N355 Nq568
        have z569 : n0 ≤ T568.heap.size := Nat.le_trans Z0 z568
        obtain ⟨cq570, kq570, q570a, q570b, q570c⟩ := isOf hZ rfl (own_pt_exa P568)
        obtain ⟨_, _, ⟨T570, L570, k570, n570⟩, -, X570, ⟨Lc570, hQ570, l570, y570, z570⟩, st570⟩ := X568.virtualBack hx (y := own_y_38) (z := own_y_38) hown (mvT hZ (own_w hw 19 rfl)) (mvT hZ (own_w hw 20 rfl)) (notFace_of_selects (args := #[]) (mvT hZ (own_w hw 22 rfl))) (mvT hZ (own_w hw 22 rfl)) (mvT hZ (own_w hw 21 rfl)) (by decide) (backOf (W := 0) (rmEmpF l Z a0 hw [] ob _ _ _ _ _ _ T568.heap n0 z569 P568 (by decide)) hZ (own_w hw 23 rfl) (own_w hw 6 rfl) (by decide) (by decide)) q570a q570c (g := (mkF m 232 (own_LF q1 p2 p3 q4 p5 kn df ex lk m2 m3 nw mx ob e0 e1 (.val (.int (0 : Int32))) .unset) [(.ref ob)])) rfl (by rw [hml]; rfl) (Steps.refl _) (argsL := []) (rest := []) (lenOf pd_48 rfl) rfl (by show 2 * 0 + _ ≤ _; exact Nat.le_of_eq rfl) (hb hby at_232) (fun _ _ => ⟨rfl, rfl, (by decide : 5 + 0 ≤ _), (by decide : 22 + 0 ≤ _)⟩)
        dsimp only [Pt.U, Pt.locs, Pt.cells, Pt.slots] at X570 l570 y570 z570 st570 hQ570
        subst l570 y570 z570
        obtain ⟨rfl, Nq570, e570⟩ := hQ570
        have N570 := Fr.app N568 Nq570
        have pre571 : ∀ t, Steps p.tables e below (T570.setTop (mkF m 237 (own_LF q1 p2 p3 q4 p5 kn df ex lk m2 m3 nw mx ob e0 e1 (.val (.int (0 : Int32))) (.val (.int (0 : Int32)))) [])) t → Steps p.tables e below (T0.setTop (mkF m 196 (own_LF q1 p2 p3 q4 p5 kn df ex lk m2 m3 nw mx ob e0 e1 .unset .unset) [])) t := fun t kt => pre360 t (by
          show Steps p.tables e below (T355.setTop (mkF m 227 (own_LF q1 p2 p3 q4 p5 kn df ex lk m2 m3 nw mx ob e0 e1 (.val (.int (0 : Int32))) .unset) [(.int lk), (.int p3), (.long mx), (.ref ob)])) _
          refine st568.trans ?_
          refine XS.aload X568.here hx rfl (hb hby at_230) rfl rfl ?_
          refine st570.trans ?_
          refine XS.istore X570.here hx rfl (hb hby at_235) rfl (l' := (own_LF q1 p2 p3 q4 p5 kn df ex lk m2 m3 nw mx ob e0 e1 (.val (.int (0 : Int32))) (.val (.int (0 : Int32))))) rfl ?_
          exact kt)
        rw [show (if df = (0 : Int32) then (0 : Int32) else (if nw < q4 then (1 : Int32) else (0 : Int32))) = (0 : Int32) from if_pos hc354]
        rw [show (if ex = (0 : Int32) then (0 : Int32) else (0 : Int32)) = (0 : Int32) from if_neg hc357]
        exact ⟨T570, _, own_more X570 (by decide) (by decide), N570, pre571⟩
  case neg =>
    have pre572 : ∀ t, Steps p.tables e below (T0.setTop (mkF m 205 (own_LF q1 p2 p3 q4 p5 kn df ex lk m2 m3 nw mx ob e0 e1 .unset .unset) [(.long q4), (.ref ob)])) t → Steps p.tables e below (T0.setTop (mkF m 196 (own_LF q1 p2 p3 q4 p5 kn df ex lk m2 m3 nw mx ob e0 e1 .unset .unset) [])) t := fun t kt => pre353 t (by
      show Steps p.tables e below (T0.setTop (mkF m 198 (own_LF q1 p2 p3 q4 p5 kn df ex lk m2 m3 nw mx ob e0 e1 .unset .unset) [(.int df)])) _
      refine XS.ifNo X0.here hx rfl (hb hby at_198) rfl ((if0 _ _).trans (feq hc354).1) ?_
      refine XS.aload X0.here hx rfl (hb hby at_201) rfl rfl ?_
      refine XS.lload X0.here hx rfl (hb hby at_203) rfl ?_
      exact kt)
    by_cases hc573 : x0 < q4
    case pos =>
      by_cases hc574 : x1 < q4
      case pos =>
        obtain ⟨cq637, kq637, q637a, q637b, q637c⟩ := isOf hZ rfl (own_pt_exa P0)
        obtain ⟨_, _, ⟨T637, L637, k637, n637⟩, -, X637, ⟨Lc637, hQ637, l637, y637, z637⟩, st637⟩ := X0.virtualBack hx (y := own_y_113) (z := own_y_113) hown (mvT hZ (own_w hw 63 rfl)) (mvT hZ (own_w hw 64 rfl)) (notFace_of_selects (args := #[]) (mvT hZ (own_w hw 66 rfl))) (mvT hZ (own_w hw 66 rfl)) (mvT hZ (own_w hw 65 rfl)) (by decide) (backOf (W := 0) (rmFgt022_2 l Z a0 hw [] ob q4 x0 x1 y0 y1 b T0.heap n0 Z0 P0 hc573 hc574) hZ (own_w hw 67 rfl) (own_w hw 6 rfl) (by decide) (by decide)) q637a q637c (g := (mkF m 205 (own_LF q1 p2 p3 q4 p5 kn df ex lk m2 m3 nw mx ob e0 e1 .unset .unset) [(.long q4), (.ref ob)])) rfl (by rw [hml]; rfl) (Steps.refl _) (argsL := [(.long q4)]) (rest := []) (lenOf pd_115 rfl) rfl (by show 2 * 0 + _ ≤ _; exact Nat.le_of_eq rfl) (hb hby at_205) (fun _ _ => ⟨rfl, rfl, (by decide : 5 + 0 ≤ _), (by decide : 22 + 0 ≤ _)⟩)
        dsimp only [Pt.U, Pt.locs, Pt.cells, Pt.slots] at X637 l637 y637 z637 st637 hQ637
        subst l637 y637 z637
        obtain ⟨rfl, Nq637, z637, P637⟩ := hQ637
        have N637 := Fr.app N0 Nq637
        have z638 : n0 ≤ T637.heap.size := Nat.le_trans Z0 z637
        obtain ⟨cq639, kq639, q639a, q639b, q639c⟩ := isOf hZ rfl (own_pt_exa P637)
        obtain ⟨_, _, ⟨T639, L639, k639, n639⟩, -, X639, ⟨Lc639, hQ639, l639, y639, z639⟩, st639⟩ := X637.virtualBack hx (y := own_y_38) (z := own_y_38) hown (mvT hZ (own_w hw 19 rfl)) (mvT hZ (own_w hw 20 rfl)) (notFace_of_selects (args := #[]) (mvT hZ (own_w hw 22 rfl))) (mvT hZ (own_w hw 22 rfl)) (mvT hZ (own_w hw 21 rfl)) (by decide) (backOf (W := 0) (rmEmpT l Z a0 hw [] ob _ _ _ _ _ _ T637.heap n0 z638 P637 (by decide)) hZ (own_w hw 23 rfl) (own_w hw 6 rfl) (by decide) (by decide)) q639a q639c (g := (mkF m 210 (own_LF q1 p2 p3 q4 p5 kn df ex lk m2 m3 nw mx ob e0 e1 .unset .unset) [(.ref ob)])) rfl (by rw [hml]; rfl) (Steps.refl _) (argsL := []) (rest := []) (lenOf pd_48 rfl) rfl (by show 2 * 0 + _ ≤ _; exact Nat.le_of_eq rfl) (hb hby at_210) (fun _ _ => ⟨rfl, rfl, (by decide : 5 + 0 ≤ _), (by decide : 22 + 0 ≤ _)⟩)
        dsimp only [Pt.U, Pt.locs, Pt.cells, Pt.slots] at X639 l639 y639 z639 st639 hQ639
        subst l639 y639 z639
        obtain ⟨rfl, Nq639, e639⟩ := hQ639
        have N639 := Fr.app N637 Nq639
        have pre640 : ∀ t, Steps p.tables e below (T639.setTop (mkF m 217 (own_LF q1 p2 p3 q4 p5 kn df ex lk m2 m3 nw mx ob e0 e1 (.val (.int (1 : Int32))) .unset) [(.int ex)])) t → Steps p.tables e below (T0.setTop (mkF m 196 (own_LF q1 p2 p3 q4 p5 kn df ex lk m2 m3 nw mx ob e0 e1 .unset .unset) [])) t := fun t kt => pre572 t (by
          show Steps p.tables e below (T0.setTop (mkF m 205 (own_LF q1 p2 p3 q4 p5 kn df ex lk m2 m3 nw mx ob e0 e1 .unset .unset) [(.long q4), (.ref ob)])) _
          refine st637.trans ?_
          refine XS.aload X637.here hx rfl (hb hby at_208) rfl rfl ?_
          refine st639.trans ?_
          refine XS.istore X639.here hx rfl (hb hby at_213) rfl (l' := (own_LF q1 p2 p3 q4 p5 kn df ex lk m2 m3 nw mx ob e0 e1 (.val (.int (1 : Int32))) .unset)) rfl ?_
          refine XS.iload X639.here hx rfl (hb hby at_215) rfl ?_
          exact kt)
        by_cases hc641 : ex = (0 : Int32)
        case pos =>
          obtain ⟨cq642, kq642, q642a, q642b, q642c⟩ := isOf hZ e639 (own_pt_exa P637)
          obtain ⟨_, _, ⟨T642, L642, k642, n642⟩, -, X642, ⟨Lc642, hQ642, l642, y642, z642⟩, st642⟩ := X639.virtualBack hx (y := own_y_38) (z := own_y_38) hown (mvT hZ (own_w hw 19 rfl)) (mvT hZ (own_w hw 20 rfl)) (notFace_of_selects (args := #[]) (mvT hZ (own_w hw 22 rfl))) (mvT hZ (own_w hw 22 rfl)) (mvT hZ (own_w hw 21 rfl)) (by decide) (backOf (W := 0) (rmEmpT l Z a0 hw [] ob _ _ _ _ _ _ T637.heap n0 z638 P637 (by decide)) hZ (own_w hw 23 rfl) (own_w hw 6 rfl) (by decide) (by decide)) q642a q642c (g := (mkF m 232 (own_LF q1 p2 p3 q4 p5 kn df ex lk m2 m3 nw mx ob e0 e1 (.val (.int (1 : Int32))) .unset) [(.ref ob)])) rfl (by rw [hml]; rfl) (Steps.refl _) (argsL := []) (rest := []) (lenOf pd_48 rfl) rfl (by show 2 * 0 + _ ≤ _; exact Nat.le_of_eq rfl) (hb hby at_232) (fun _ _ => ⟨rfl, e639, (by decide : 5 + 0 ≤ _), (by decide : 22 + 0 ≤ _)⟩)
          dsimp only [Pt.U, Pt.locs, Pt.cells, Pt.slots] at X642 l642 y642 z642 st642 hQ642
          subst l642 y642 z642
          obtain ⟨rfl, Nq642, e642⟩ := hQ642
          have N642 := Fr.app N639 Nq642
          have pre643 : ∀ t, Steps p.tables e below (T642.setTop (mkF m 237 (own_LF q1 p2 p3 q4 p5 kn df ex lk m2 m3 nw mx ob e0 e1 (.val (.int (1 : Int32))) (.val (.int (1 : Int32)))) [])) t → Steps p.tables e below (T0.setTop (mkF m 196 (own_LF q1 p2 p3 q4 p5 kn df ex lk m2 m3 nw mx ob e0 e1 .unset .unset) [])) t := fun t kt => pre640 t (by
            show Steps p.tables e below (T639.setTop (mkF m 217 (own_LF q1 p2 p3 q4 p5 kn df ex lk m2 m3 nw mx ob e0 e1 (.val (.int (1 : Int32))) .unset) [(.int ex)])) _
            refine XS.ifYes X639.here hx rfl (pc0 := 217) (pc' := 230) rfl (hb hby at_217) rfl ((if0 _ _).trans (teq hc641).1) (by decide) (by decide) ?_
            refine XS.aload X639.here hx rfl (hb hby at_230) rfl rfl ?_
            refine st642.trans ?_
            refine XS.istore X642.here hx rfl (hb hby at_235) rfl (l' := (own_LF q1 p2 p3 q4 p5 kn df ex lk m2 m3 nw mx ob e0 e1 (.val (.int (1 : Int32))) (.val (.int (1 : Int32))))) rfl ?_
            exact kt)
          have hq : nw < q4 := by rw [hnw]; exact hc574
          rw [show (if df = (0 : Int32) then (0 : Int32) else (if nw < q4 then (1 : Int32) else (0 : Int32))) = (1 : Int32) from (if_neg hc354).trans (if_pos hq)]
          rw [show (if ex = (0 : Int32) then (1 : Int32) else (0 : Int32)) = (1 : Int32) from if_pos hc641]
          exact ⟨T642, _, own_more X642 (by decide) (by decide), N642, pre643⟩
        case neg =>
          obtain ⟨cq759, kq759, q759a, q759b, q759c⟩ := isOf hZ e639 (own_pt_exa P637)
          obtain ⟨_, _, ⟨T759, L759, k759, n759⟩, -, X759, ⟨Lc759, hQ759, l759, y759, z759⟩, st759⟩ := X639.virtualBack hx (y := own_y_103) (z := own_y_103) hown (mvT hZ (own_w hw 28 rfl)) (mvT hZ (own_w hw 29 rfl)) (notFace_of_selects (args := #[]) (mvT hZ (own_w hw 31 rfl))) (mvT hZ (own_w hw 31 rfl)) (mvT hZ (own_w hw 30 rfl)) (by decide) (backOf (W := 0) (rmCnt222a l Z a0 hw [] ob mx p3 lk x0 x1 y0 y1 y1 T637.heap n0 z638 P637) hZ (own_w hw 32 rfl) (own_w hw 6 rfl) (by decide) (by decide)) q759a q759c (g := (mkF m 227 (own_LF q1 p2 p3 q4 p5 kn df ex lk m2 m3 nw mx ob e0 e1 (.val (.int (1 : Int32))) .unset) [(.int lk), (.int p3), (.long mx), (.ref ob)])) rfl (by rw [hml]; rfl) (Steps.refl _) (argsL := [(.long mx), (.int p3), (.int lk)]) (rest := []) (lenOf pd_105 rfl) rfl (by show 2 * 0 + _ ≤ _; exact Nat.le_of_eq rfl) (hb hby at_227) (fun _ _ => ⟨rfl, e639, (by decide : 5 + 0 ≤ _), (by decide : 22 + 0 ≤ _)⟩)
          dsimp only [Pt.U, Pt.locs, Pt.cells, Pt.slots] at X759 l759 y759 z759 st759 hQ759
          subst l759 y759 z759
          obtain ⟨rfl, Nq759, z759, P759⟩ := hQ759
          have N759 := Fr.app N639 Nq759
          have z760 : n0 ≤ T759.heap.size := Nat.le_trans z638 z759
          obtain ⟨cq761, kq761, q761a, q761b, q761c⟩ := isOf hZ rfl (own_pt_exa P759)
          obtain ⟨_, _, ⟨T761, L761, k761, n761⟩, -, X761, ⟨Lc761, hQ761, l761, y761, z761⟩, st761⟩ := X759.virtualBack hx (y := own_y_38) (z := own_y_38) hown (mvT hZ (own_w hw 19 rfl)) (mvT hZ (own_w hw 20 rfl)) (notFace_of_selects (args := #[]) (mvT hZ (own_w hw 22 rfl))) (mvT hZ (own_w hw 22 rfl)) (mvT hZ (own_w hw 21 rfl)) (by decide) (backOf (W := 0) (rmEmpF l Z a0 hw [] ob _ _ _ _ _ _ T759.heap n0 z760 P759 (by decide)) hZ (own_w hw 23 rfl) (own_w hw 6 rfl) (by decide) (by decide)) q761a q761c (g := (mkF m 232 (own_LF q1 p2 p3 q4 p5 kn df ex lk m2 m3 nw mx ob e0 e1 (.val (.int (1 : Int32))) .unset) [(.ref ob)])) rfl (by rw [hml]; rfl) (Steps.refl _) (argsL := []) (rest := []) (lenOf pd_48 rfl) rfl (by show 2 * 0 + _ ≤ _; exact Nat.le_of_eq rfl) (hb hby at_232) (fun _ _ => ⟨rfl, rfl, (by decide : 5 + 0 ≤ _), (by decide : 22 + 0 ≤ _)⟩)
          dsimp only [Pt.U, Pt.locs, Pt.cells, Pt.slots] at X761 l761 y761 z761 st761 hQ761
          subst l761 y761 z761
          obtain ⟨rfl, Nq761, e761⟩ := hQ761
          have N761 := Fr.app N759 Nq761
          have pre762 : ∀ t, Steps p.tables e below (T761.setTop (mkF m 237 (own_LF q1 p2 p3 q4 p5 kn df ex lk m2 m3 nw mx ob e0 e1 (.val (.int (1 : Int32))) (.val (.int (0 : Int32)))) [])) t → Steps p.tables e below (T0.setTop (mkF m 196 (own_LF q1 p2 p3 q4 p5 kn df ex lk m2 m3 nw mx ob e0 e1 .unset .unset) [])) t := fun t kt => pre640 t (by
            show Steps p.tables e below (T639.setTop (mkF m 217 (own_LF q1 p2 p3 q4 p5 kn df ex lk m2 m3 nw mx ob e0 e1 (.val (.int (1 : Int32))) .unset) [(.int ex)])) _
            refine XS.ifNo X639.here hx rfl (hb hby at_217) rfl ((if0 _ _).trans (feq hc641).1) ?_
            refine XS.aload X639.here hx rfl (hb hby at_220) rfl rfl ?_
            refine XS.lload X639.here hx rfl (hb hby at_222) rfl ?_
            refine XS.iloadN X639.here hx rfl (hb hby at_224) rfl ?_
            refine XS.iload X639.here hx rfl (hb hby at_225) rfl ?_
            refine st759.trans ?_
            refine XS.aload X759.here hx rfl (hb hby at_230) rfl rfl ?_
            refine st761.trans ?_
            refine XS.istore X761.here hx rfl (hb hby at_235) rfl (l' := (own_LF q1 p2 p3 q4 p5 kn df ex lk m2 m3 nw mx ob e0 e1 (.val (.int (1 : Int32))) (.val (.int (0 : Int32))))) rfl ?_
            exact kt)
          have hq : nw < q4 := by rw [hnw]; exact hc574
          rw [show (if df = (0 : Int32) then (0 : Int32) else (if nw < q4 then (1 : Int32) else (0 : Int32))) = (1 : Int32) from (if_neg hc354).trans (if_pos hq)]
          rw [show (if ex = (0 : Int32) then (1 : Int32) else (0 : Int32)) = (0 : Int32) from if_neg hc641]
          exact ⟨T761, _, own_more X761 (by decide) (by decide), N761, pre762⟩
      case neg =>
        obtain ⟨cq799, kq799, q799a, q799b, q799c⟩ := isOf hZ rfl (own_pt_exa P0)
        obtain ⟨_, _, ⟨T799, L799, k799, n799⟩, -, X799, ⟨Lc799, hQ799, l799, y799, z799⟩, st799⟩ := X0.virtualBack hx (y := own_y_113) (z := own_y_113) hown (mvT hZ (own_w hw 63 rfl)) (mvT hZ (own_w hw 64 rfl)) (notFace_of_selects (args := #[]) (mvT hZ (own_w hw 66 rfl))) (mvT hZ (own_w hw 66 rfl)) (mvT hZ (own_w hw 65 rfl)) (by decide) (backOf (W := 0) (rmFgt022_1 l Z a0 hw [] ob q4 x0 x1 y0 y1 b T0.heap n0 Z0 P0 hc573 hc574) hZ (own_w hw 67 rfl) (own_w hw 6 rfl) (by decide) (by decide)) q799a q799c (g := (mkF m 205 (own_LF q1 p2 p3 q4 p5 kn df ex lk m2 m3 nw mx ob e0 e1 .unset .unset) [(.long q4), (.ref ob)])) rfl (by rw [hml]; rfl) (Steps.refl _) (argsL := [(.long q4)]) (rest := []) (lenOf pd_115 rfl) rfl (by show 2 * 0 + _ ≤ _; exact Nat.le_of_eq rfl) (hb hby at_205) (fun _ _ => ⟨rfl, rfl, (by decide : 5 + 0 ≤ _), (by decide : 22 + 0 ≤ _)⟩)
        dsimp only [Pt.U, Pt.locs, Pt.cells, Pt.slots] at X799 l799 y799 z799 st799 hQ799
        subst l799 y799 z799
        obtain ⟨rfl, Nq799, z799, P799⟩ := hQ799
        have N799 := Fr.app N0 Nq799
        have z800 : n0 ≤ T799.heap.size := Nat.le_trans Z0 z799
        obtain ⟨cq801, kq801, q801a, q801b, q801c⟩ := isOf hZ rfl (own_pt_exa P799)
        obtain ⟨_, _, ⟨T801, L801, k801, n801⟩, -, X801, ⟨Lc801, hQ801, l801, y801, z801⟩, st801⟩ := X799.virtualBack hx (y := own_y_38) (z := own_y_38) hown (mvT hZ (own_w hw 19 rfl)) (mvT hZ (own_w hw 20 rfl)) (notFace_of_selects (args := #[]) (mvT hZ (own_w hw 22 rfl))) (mvT hZ (own_w hw 22 rfl)) (mvT hZ (own_w hw 21 rfl)) (by decide) (backOf (W := 0) (rmEmpF l Z a0 hw [] ob _ _ _ _ _ _ T799.heap n0 z800 P799 (by decide)) hZ (own_w hw 23 rfl) (own_w hw 6 rfl) (by decide) (by decide)) q801a q801c (g := (mkF m 210 (own_LF q1 p2 p3 q4 p5 kn df ex lk m2 m3 nw mx ob e0 e1 .unset .unset) [(.ref ob)])) rfl (by rw [hml]; rfl) (Steps.refl _) (argsL := []) (rest := []) (lenOf pd_48 rfl) rfl (by show 2 * 0 + _ ≤ _; exact Nat.le_of_eq rfl) (hb hby at_210) (fun _ _ => ⟨rfl, rfl, (by decide : 5 + 0 ≤ _), (by decide : 22 + 0 ≤ _)⟩)
        dsimp only [Pt.U, Pt.locs, Pt.cells, Pt.slots] at X801 l801 y801 z801 st801 hQ801
        subst l801 y801 z801
        obtain ⟨rfl, Nq801, e801⟩ := hQ801
        have N801 := Fr.app N799 Nq801
        have pre802 : ∀ t, Steps p.tables e below (T801.setTop (mkF m 217 (own_LF q1 p2 p3 q4 p5 kn df ex lk m2 m3 nw mx ob e0 e1 (.val (.int (0 : Int32))) .unset) [(.int ex)])) t → Steps p.tables e below (T0.setTop (mkF m 196 (own_LF q1 p2 p3 q4 p5 kn df ex lk m2 m3 nw mx ob e0 e1 .unset .unset) [])) t := fun t kt => pre572 t (by
          show Steps p.tables e below (T0.setTop (mkF m 205 (own_LF q1 p2 p3 q4 p5 kn df ex lk m2 m3 nw mx ob e0 e1 .unset .unset) [(.long q4), (.ref ob)])) _
          refine st799.trans ?_
          refine XS.aload X799.here hx rfl (hb hby at_208) rfl rfl ?_
          refine st801.trans ?_
          refine XS.istore X801.here hx rfl (hb hby at_213) rfl (l' := (own_LF q1 p2 p3 q4 p5 kn df ex lk m2 m3 nw mx ob e0 e1 (.val (.int (0 : Int32))) .unset)) rfl ?_
          refine XS.iload X801.here hx rfl (hb hby at_215) rfl ?_
          exact kt)
        by_cases hc803 : ex = (0 : Int32)
        case pos =>
          obtain ⟨cq804, kq804, q804a, q804b, q804c⟩ := isOf hZ e801 (own_pt_exa P799)
          obtain ⟨_, _, ⟨T804, L804, k804, n804⟩, -, X804, ⟨Lc804, hQ804, l804, y804, z804⟩, st804⟩ := X801.virtualBack hx (y := own_y_38) (z := own_y_38) hown (mvT hZ (own_w hw 19 rfl)) (mvT hZ (own_w hw 20 rfl)) (notFace_of_selects (args := #[]) (mvT hZ (own_w hw 22 rfl))) (mvT hZ (own_w hw 22 rfl)) (mvT hZ (own_w hw 21 rfl)) (by decide) (backOf (W := 0) (rmEmpF l Z a0 hw [] ob _ _ _ _ _ _ T799.heap n0 z800 P799 (by decide)) hZ (own_w hw 23 rfl) (own_w hw 6 rfl) (by decide) (by decide)) q804a q804c (g := (mkF m 232 (own_LF q1 p2 p3 q4 p5 kn df ex lk m2 m3 nw mx ob e0 e1 (.val (.int (0 : Int32))) .unset) [(.ref ob)])) rfl (by rw [hml]; rfl) (Steps.refl _) (argsL := []) (rest := []) (lenOf pd_48 rfl) rfl (by show 2 * 0 + _ ≤ _; exact Nat.le_of_eq rfl) (hb hby at_232) (fun _ _ => ⟨rfl, e801, (by decide : 5 + 0 ≤ _), (by decide : 22 + 0 ≤ _)⟩)
          dsimp only [Pt.U, Pt.locs, Pt.cells, Pt.slots] at X804 l804 y804 z804 st804 hQ804
          subst l804 y804 z804
          obtain ⟨rfl, Nq804, e804⟩ := hQ804
          have N804 := Fr.app N801 Nq804
          have pre805 : ∀ t, Steps p.tables e below (T804.setTop (mkF m 237 (own_LF q1 p2 p3 q4 p5 kn df ex lk m2 m3 nw mx ob e0 e1 (.val (.int (0 : Int32))) (.val (.int (0 : Int32)))) [])) t → Steps p.tables e below (T0.setTop (mkF m 196 (own_LF q1 p2 p3 q4 p5 kn df ex lk m2 m3 nw mx ob e0 e1 .unset .unset) [])) t := fun t kt => pre802 t (by
            show Steps p.tables e below (T801.setTop (mkF m 217 (own_LF q1 p2 p3 q4 p5 kn df ex lk m2 m3 nw mx ob e0 e1 (.val (.int (0 : Int32))) .unset) [(.int ex)])) _
            refine XS.ifYes X801.here hx rfl (pc0 := 217) (pc' := 230) rfl (hb hby at_217) rfl ((if0 _ _).trans (teq hc803).1) (by decide) (by decide) ?_
            refine XS.aload X801.here hx rfl (hb hby at_230) rfl rfl ?_
            refine st804.trans ?_
            refine XS.istore X804.here hx rfl (hb hby at_235) rfl (l' := (own_LF q1 p2 p3 q4 p5 kn df ex lk m2 m3 nw mx ob e0 e1 (.val (.int (0 : Int32))) (.val (.int (0 : Int32))))) rfl ?_
            exact kt)
          have hq : ¬ (nw < q4) := by rw [hnw]; exact hc574
          rw [show (if df = (0 : Int32) then (0 : Int32) else (if nw < q4 then (1 : Int32) else (0 : Int32))) = (0 : Int32) from (if_neg hc354).trans (if_neg hq)]
          rw [show (if ex = (0 : Int32) then (0 : Int32) else (0 : Int32)) = (0 : Int32) from if_pos hc803]
          exact ⟨T804, _, own_more X804 (by decide) (by decide), N804, pre805⟩
        case neg =>
          have pre806 : ∀ t, Steps p.tables e below (T801.setTop (mkF m 227 (own_LF q1 p2 p3 q4 p5 kn df ex lk m2 m3 nw mx ob e0 e1 (.val (.int (0 : Int32))) .unset) [(.int lk), (.int p3), (.long mx), (.ref ob)])) t → Steps p.tables e below (T0.setTop (mkF m 196 (own_LF q1 p2 p3 q4 p5 kn df ex lk m2 m3 nw mx ob e0 e1 .unset .unset) [])) t := fun t kt => pre802 t (by
            show Steps p.tables e below (T801.setTop (mkF m 217 (own_LF q1 p2 p3 q4 p5 kn df ex lk m2 m3 nw mx ob e0 e1 (.val (.int (0 : Int32))) .unset) [(.int ex)])) _
            refine XS.ifNo X801.here hx rfl (hb hby at_217) rfl ((if0 _ _).trans (feq hc803).1) ?_
            refine XS.aload X801.here hx rfl (hb hby at_220) rfl rfl ?_
            refine XS.lload X801.here hx rfl (hb hby at_222) rfl ?_
            refine XS.iloadN X801.here hx rfl (hb hby at_224) rfl ?_
            refine XS.iload X801.here hx rfl (hb hby at_225) rfl ?_
            exact kt)
          by_cases hc807 : x1 < mx
          case pos =>
            obtain ⟨cq913, kq913, q913a, q913b, q913c⟩ := isOf hZ e801 (own_pt_exa P799)
            obtain ⟨_, _, ⟨T913, L913, k913, n913⟩, -, X913, ⟨Lc913, hQ913, l913, y913, z913⟩, st913⟩ := X801.virtualBack hx (y := own_y_103) (z := own_y_103) hown (mvT hZ (own_w hw 28 rfl)) (mvT hZ (own_w hw 29 rfl)) (notFace_of_selects (args := #[]) (mvT hZ (own_w hw 31 rfl))) (mvT hZ (own_w hw 31 rfl)) (mvT hZ (own_w hw 30 rfl)) (by decide) (backOf (W := 0) (rmCnt122a l Z a0 hw [] ob mx p3 lk x0 x1 y0 y1 y0 T799.heap n0 z800 P799 hc807) hZ (own_w hw 32 rfl) (own_w hw 6 rfl) (by decide) (by decide)) q913a q913c (g := (mkF m 227 (own_LF q1 p2 p3 q4 p5 kn df ex lk m2 m3 nw mx ob e0 e1 (.val (.int (0 : Int32))) .unset) [(.int lk), (.int p3), (.long mx), (.ref ob)])) rfl (by rw [hml]; rfl) (Steps.refl _) (argsL := [(.long mx), (.int p3), (.int lk)]) (rest := []) (lenOf pd_105 rfl) rfl (by show 2 * 0 + _ ≤ _; exact Nat.le_of_eq rfl) (hb hby at_227) (fun _ _ => ⟨rfl, e801, (by decide : 5 + 0 ≤ _), (by decide : 22 + 0 ≤ _)⟩)
            dsimp only [Pt.U, Pt.locs, Pt.cells, Pt.slots] at X913 l913 y913 z913 st913 hQ913
            subst l913 y913 z913
            obtain ⟨rfl, Nq913, z913, P913⟩ := hQ913
            have N913 := Fr.app N801 Nq913
            have z914 : n0 ≤ T913.heap.size := Nat.le_trans z800 z913
            obtain ⟨cq915, kq915, q915a, q915b, q915c⟩ := isOf hZ rfl (own_pt_exa P913)
            obtain ⟨_, _, ⟨T915, L915, k915, n915⟩, -, X915, ⟨Lc915, hQ915, l915, y915, z915⟩, st915⟩ := X913.virtualBack hx (y := own_y_38) (z := own_y_38) hown (mvT hZ (own_w hw 19 rfl)) (mvT hZ (own_w hw 20 rfl)) (notFace_of_selects (args := #[]) (mvT hZ (own_w hw 22 rfl))) (mvT hZ (own_w hw 22 rfl)) (mvT hZ (own_w hw 21 rfl)) (by decide) (backOf (W := 0) (rmEmpF l Z a0 hw [] ob _ _ _ _ _ _ T913.heap n0 z914 P913 (by decide)) hZ (own_w hw 23 rfl) (own_w hw 6 rfl) (by decide) (by decide)) q915a q915c (g := (mkF m 232 (own_LF q1 p2 p3 q4 p5 kn df ex lk m2 m3 nw mx ob e0 e1 (.val (.int (0 : Int32))) .unset) [(.ref ob)])) rfl (by rw [hml]; rfl) (Steps.refl _) (argsL := []) (rest := []) (lenOf pd_48 rfl) rfl (by show 2 * 0 + _ ≤ _; exact Nat.le_of_eq rfl) (hb hby at_232) (fun _ _ => ⟨rfl, rfl, (by decide : 5 + 0 ≤ _), (by decide : 22 + 0 ≤ _)⟩)
            dsimp only [Pt.U, Pt.locs, Pt.cells, Pt.slots] at X915 l915 y915 z915 st915 hQ915
            subst l915 y915 z915
            obtain ⟨rfl, Nq915, e915⟩ := hQ915
            have N915 := Fr.app N913 Nq915
            have pre916 : ∀ t, Steps p.tables e below (T915.setTop (mkF m 237 (own_LF q1 p2 p3 q4 p5 kn df ex lk m2 m3 nw mx ob e0 e1 (.val (.int (0 : Int32))) (.val (.int (0 : Int32)))) [])) t → Steps p.tables e below (T0.setTop (mkF m 196 (own_LF q1 p2 p3 q4 p5 kn df ex lk m2 m3 nw mx ob e0 e1 .unset .unset) [])) t := fun t kt => pre806 t (by
              show Steps p.tables e below (T801.setTop (mkF m 227 (own_LF q1 p2 p3 q4 p5 kn df ex lk m2 m3 nw mx ob e0 e1 (.val (.int (0 : Int32))) .unset) [(.int lk), (.int p3), (.long mx), (.ref ob)])) _
              refine st913.trans ?_
              refine XS.aload X913.here hx rfl (hb hby at_230) rfl rfl ?_
              refine st915.trans ?_
              refine XS.istore X915.here hx rfl (hb hby at_235) rfl (l' := (own_LF q1 p2 p3 q4 p5 kn df ex lk m2 m3 nw mx ob e0 e1 (.val (.int (0 : Int32))) (.val (.int (0 : Int32))))) rfl ?_
              exact kt)
            have hq : ¬ (nw < q4) := by rw [hnw]; exact hc574
            rw [show (if df = (0 : Int32) then (0 : Int32) else (if nw < q4 then (1 : Int32) else (0 : Int32))) = (0 : Int32) from (if_neg hc354).trans (if_neg hq)]
            rw [show (if ex = (0 : Int32) then (0 : Int32) else (0 : Int32)) = (0 : Int32) from if_neg hc803]
            exact ⟨T915, _, own_more X915 (by decide) (by decide), N915, pre916⟩
          case neg =>
            obtain ⟨cq939, kq939, q939a, q939b, q939c⟩ := isOf hZ e801 (own_pt_exa P799)
            obtain ⟨_, _, ⟨T939, L939, k939, n939⟩, -, X939, ⟨Lc939, hQ939, l939, y939, z939⟩, st939⟩ := X801.virtualBack hx (y := own_y_103) (z := own_y_103) hown (mvT hZ (own_w hw 28 rfl)) (mvT hZ (own_w hw 29 rfl)) (notFace_of_selects (args := #[]) (mvT hZ (own_w hw 31 rfl))) (mvT hZ (own_w hw 31 rfl)) (mvT hZ (own_w hw 30 rfl)) (by decide) (backOf (W := 0) (rmCnt122o l Z a0 hw [] ob mx p3 lk x0 x1 y0 y1 y0 T799.heap n0 z800 P799 hc807) hZ (own_w hw 32 rfl) (own_w hw 6 rfl) (by decide) (by decide)) q939a q939c (g := (mkF m 227 (own_LF q1 p2 p3 q4 p5 kn df ex lk m2 m3 nw mx ob e0 e1 (.val (.int (0 : Int32))) .unset) [(.int lk), (.int p3), (.long mx), (.ref ob)])) rfl (by rw [hml]; rfl) (Steps.refl _) (argsL := [(.long mx), (.int p3), (.int lk)]) (rest := []) (lenOf pd_105 rfl) rfl (by show 2 * 0 + _ ≤ _; exact Nat.le_of_eq rfl) (hb hby at_227) (fun _ _ => ⟨rfl, e801, (by decide : 5 + 0 ≤ _), (by decide : 22 + 0 ≤ _)⟩)
            dsimp only [Pt.U, Pt.locs, Pt.cells, Pt.slots] at X939 l939 y939 z939 st939 hQ939
            subst l939 y939 z939
            obtain ⟨rfl, Nq939, z939, P939⟩ := hQ939
            have N939 := Fr.app N801 Nq939
            have z940 : n0 ≤ T939.heap.size := Nat.le_trans z800 z939
            obtain ⟨cq941, kq941, q941a, q941b, q941c⟩ := isOf hZ rfl (own_pt_exa P939)
            obtain ⟨_, _, ⟨T941, L941, k941, n941⟩, -, X941, ⟨Lc941, hQ941, l941, y941, z941⟩, st941⟩ := X939.virtualBack hx (y := own_y_38) (z := own_y_38) hown (mvT hZ (own_w hw 19 rfl)) (mvT hZ (own_w hw 20 rfl)) (notFace_of_selects (args := #[]) (mvT hZ (own_w hw 22 rfl))) (mvT hZ (own_w hw 22 rfl)) (mvT hZ (own_w hw 21 rfl)) (by decide) (backOf (W := 0) (rmEmpF l Z a0 hw [] ob _ _ _ _ _ _ T939.heap n0 z940 P939 (by decide)) hZ (own_w hw 23 rfl) (own_w hw 6 rfl) (by decide) (by decide)) q941a q941c (g := (mkF m 232 (own_LF q1 p2 p3 q4 p5 kn df ex lk m2 m3 nw mx ob e0 e1 (.val (.int (0 : Int32))) .unset) [(.ref ob)])) rfl (by rw [hml]; rfl) (Steps.refl _) (argsL := []) (rest := []) (lenOf pd_48 rfl) rfl (by show 2 * 0 + _ ≤ _; exact Nat.le_of_eq rfl) (hb hby at_232) (fun _ _ => ⟨rfl, rfl, (by decide : 5 + 0 ≤ _), (by decide : 22 + 0 ≤ _)⟩)
            dsimp only [Pt.U, Pt.locs, Pt.cells, Pt.slots] at X941 l941 y941 z941 st941 hQ941
            subst l941 y941 z941
            obtain ⟨rfl, Nq941, e941⟩ := hQ941
            have N941 := Fr.app N939 Nq941
            have pre942 : ∀ t, Steps p.tables e below (T941.setTop (mkF m 237 (own_LF q1 p2 p3 q4 p5 kn df ex lk m2 m3 nw mx ob e0 e1 (.val (.int (0 : Int32))) (.val (.int (0 : Int32)))) [])) t → Steps p.tables e below (T0.setTop (mkF m 196 (own_LF q1 p2 p3 q4 p5 kn df ex lk m2 m3 nw mx ob e0 e1 .unset .unset) [])) t := fun t kt => pre806 t (by
              show Steps p.tables e below (T801.setTop (mkF m 227 (own_LF q1 p2 p3 q4 p5 kn df ex lk m2 m3 nw mx ob e0 e1 (.val (.int (0 : Int32))) .unset) [(.int lk), (.int p3), (.long mx), (.ref ob)])) _
              refine st939.trans ?_
              refine XS.aload X939.here hx rfl (hb hby at_230) rfl rfl ?_
              refine st941.trans ?_
              refine XS.istore X941.here hx rfl (hb hby at_235) rfl (l' := (own_LF q1 p2 p3 q4 p5 kn df ex lk m2 m3 nw mx ob e0 e1 (.val (.int (0 : Int32))) (.val (.int (0 : Int32))))) rfl ?_
              exact kt)
            have hq : ¬ (nw < q4) := by rw [hnw]; exact hc574
            rw [show (if df = (0 : Int32) then (0 : Int32) else (if nw < q4 then (1 : Int32) else (0 : Int32))) = (0 : Int32) from (if_neg hc354).trans (if_neg hq)]
            rw [show (if ex = (0 : Int32) then (0 : Int32) else (0 : Int32)) = (0 : Int32) from if_neg hc803]
            exact ⟨T941, _, own_more X941 (by decide) (by decide), N941, pre942⟩
    case neg =>
      obtain ⟨cq950, kq950, q950a, q950b, q950c⟩ := isOf hZ rfl (own_pt_exa P0)
      obtain ⟨_, _, ⟨T950, L950, k950, n950⟩, -, X950, ⟨Lc950, hQ950, l950, y950, z950⟩, st950⟩ := X0.virtualBack hx (y := own_y_113) (z := own_y_113) hown (mvT hZ (own_w hw 63 rfl)) (mvT hZ (own_w hw 64 rfl)) (notFace_of_selects (args := #[]) (mvT hZ (own_w hw 66 rfl))) (mvT hZ (own_w hw 66 rfl)) (mvT hZ (own_w hw 65 rfl)) (by decide) (backOf (W := 0) (rmFgt022_0 l Z a0 hw [] ob q4 x0 x1 y0 y1 b T0.heap n0 Z0 P0 hc573) hZ (own_w hw 67 rfl) (own_w hw 6 rfl) (by decide) (by decide)) q950a q950c (g := (mkF m 205 (own_LF q1 p2 p3 q4 p5 kn df ex lk m2 m3 nw mx ob e0 e1 .unset .unset) [(.long q4), (.ref ob)])) rfl (by rw [hml]; rfl) (Steps.refl _) (argsL := [(.long q4)]) (rest := []) (lenOf pd_115 rfl) rfl (by show 2 * 0 + _ ≤ _; exact Nat.le_of_eq rfl) (hb hby at_205) (fun _ _ => ⟨rfl, rfl, (by decide : 5 + 0 ≤ _), (by decide : 22 + 0 ≤ _)⟩)
      dsimp only [Pt.U, Pt.locs, Pt.cells, Pt.slots] at X950 l950 y950 z950 st950 hQ950
      subst l950 y950 z950
      obtain ⟨rfl, Nq950, z950, P950⟩ := hQ950
      have N950 := Fr.app N0 Nq950
      have z951 : n0 ≤ T950.heap.size := Nat.le_trans Z0 z950
      obtain ⟨cq952, kq952, q952a, q952b, q952c⟩ := isOf hZ rfl (own_pt_exa P950)
      obtain ⟨_, _, ⟨T952, L952, k952, n952⟩, -, X952, ⟨Lc952, hQ952, l952, y952, z952⟩, st952⟩ := X950.virtualBack hx (y := own_y_38) (z := own_y_38) hown (mvT hZ (own_w hw 19 rfl)) (mvT hZ (own_w hw 20 rfl)) (notFace_of_selects (args := #[]) (mvT hZ (own_w hw 22 rfl))) (mvT hZ (own_w hw 22 rfl)) (mvT hZ (own_w hw 21 rfl)) (by decide) (backOf (W := 0) (rmEmpF l Z a0 hw [] ob _ _ _ _ _ _ T950.heap n0 z951 P950 (by decide)) hZ (own_w hw 23 rfl) (own_w hw 6 rfl) (by decide) (by decide)) q952a q952c (g := (mkF m 210 (own_LF q1 p2 p3 q4 p5 kn df ex lk m2 m3 nw mx ob e0 e1 .unset .unset) [(.ref ob)])) rfl (by rw [hml]; rfl) (Steps.refl _) (argsL := []) (rest := []) (lenOf pd_48 rfl) rfl (by show 2 * 0 + _ ≤ _; exact Nat.le_of_eq rfl) (hb hby at_210) (fun _ _ => ⟨rfl, rfl, (by decide : 5 + 0 ≤ _), (by decide : 22 + 0 ≤ _)⟩)
      dsimp only [Pt.U, Pt.locs, Pt.cells, Pt.slots] at X952 l952 y952 z952 st952 hQ952
      subst l952 y952 z952
      obtain ⟨rfl, Nq952, e952⟩ := hQ952
      have N952 := Fr.app N950 Nq952
      have pre953 : ∀ t, Steps p.tables e below (T952.setTop (mkF m 217 (own_LF q1 p2 p3 q4 p5 kn df ex lk m2 m3 nw mx ob e0 e1 (.val (.int (0 : Int32))) .unset) [(.int ex)])) t → Steps p.tables e below (T0.setTop (mkF m 196 (own_LF q1 p2 p3 q4 p5 kn df ex lk m2 m3 nw mx ob e0 e1 .unset .unset) [])) t := fun t kt => pre572 t (by
        show Steps p.tables e below (T0.setTop (mkF m 205 (own_LF q1 p2 p3 q4 p5 kn df ex lk m2 m3 nw mx ob e0 e1 .unset .unset) [(.long q4), (.ref ob)])) _
        refine st950.trans ?_
        refine XS.aload X950.here hx rfl (hb hby at_208) rfl rfl ?_
        refine st952.trans ?_
        refine XS.istore X952.here hx rfl (hb hby at_213) rfl (l' := (own_LF q1 p2 p3 q4 p5 kn df ex lk m2 m3 nw mx ob e0 e1 (.val (.int (0 : Int32))) .unset)) rfl ?_
        refine XS.iload X952.here hx rfl (hb hby at_215) rfl ?_
        exact kt)
      by_cases hc954 : ex = (0 : Int32)
      case pos =>
        obtain ⟨cq955, kq955, q955a, q955b, q955c⟩ := isOf hZ e952 (own_pt_exa P950)
        obtain ⟨_, _, ⟨T955, L955, k955, n955⟩, -, X955, ⟨Lc955, hQ955, l955, y955, z955⟩, st955⟩ := X952.virtualBack hx (y := own_y_38) (z := own_y_38) hown (mvT hZ (own_w hw 19 rfl)) (mvT hZ (own_w hw 20 rfl)) (notFace_of_selects (args := #[]) (mvT hZ (own_w hw 22 rfl))) (mvT hZ (own_w hw 22 rfl)) (mvT hZ (own_w hw 21 rfl)) (by decide) (backOf (W := 0) (rmEmpF l Z a0 hw [] ob _ _ _ _ _ _ T950.heap n0 z951 P950 (by decide)) hZ (own_w hw 23 rfl) (own_w hw 6 rfl) (by decide) (by decide)) q955a q955c (g := (mkF m 232 (own_LF q1 p2 p3 q4 p5 kn df ex lk m2 m3 nw mx ob e0 e1 (.val (.int (0 : Int32))) .unset) [(.ref ob)])) rfl (by rw [hml]; rfl) (Steps.refl _) (argsL := []) (rest := []) (lenOf pd_48 rfl) rfl (by show 2 * 0 + _ ≤ _; exact Nat.le_of_eq rfl) (hb hby at_232) (fun _ _ => ⟨rfl, e952, (by decide : 5 + 0 ≤ _), (by decide : 22 + 0 ≤ _)⟩)
        dsimp only [Pt.U, Pt.locs, Pt.cells, Pt.slots] at X955 l955 y955 z955 st955 hQ955
        subst l955 y955 z955
        obtain ⟨rfl, Nq955, e955⟩ := hQ955
        have N955 := Fr.app N952 Nq955
        have pre956 : ∀ t, Steps p.tables e below (T955.setTop (mkF m 237 (own_LF q1 p2 p3 q4 p5 kn df ex lk m2 m3 nw mx ob e0 e1 (.val (.int (0 : Int32))) (.val (.int (0 : Int32)))) [])) t → Steps p.tables e below (T0.setTop (mkF m 196 (own_LF q1 p2 p3 q4 p5 kn df ex lk m2 m3 nw mx ob e0 e1 .unset .unset) [])) t := fun t kt => pre953 t (by
          show Steps p.tables e below (T952.setTop (mkF m 217 (own_LF q1 p2 p3 q4 p5 kn df ex lk m2 m3 nw mx ob e0 e1 (.val (.int (0 : Int32))) .unset) [(.int ex)])) _
          refine XS.ifYes X952.here hx rfl (pc0 := 217) (pc' := 230) rfl (hb hby at_217) rfl ((if0 _ _).trans (teq hc954).1) (by decide) (by decide) ?_
          refine XS.aload X952.here hx rfl (hb hby at_230) rfl rfl ?_
          refine st955.trans ?_
          refine XS.istore X955.here hx rfl (hb hby at_235) rfl (l' := (own_LF q1 p2 p3 q4 p5 kn df ex lk m2 m3 nw mx ob e0 e1 (.val (.int (0 : Int32))) (.val (.int (0 : Int32))))) rfl ?_
          exact kt)
        have lt957 : ¬ (x1 < q4) := by
          rw [Int64.lt_iff_toInt_lt] at hs0 hc573 ⊢
          omega
        have hq : ¬ (nw < q4) := by rw [hnw]; exact lt957
        rw [show (if df = (0 : Int32) then (0 : Int32) else (if nw < q4 then (1 : Int32) else (0 : Int32))) = (0 : Int32) from (if_neg hc354).trans (if_neg hq)]
        rw [show (if ex = (0 : Int32) then (0 : Int32) else (0 : Int32)) = (0 : Int32) from if_pos hc954]
        exact ⟨T955, _, own_more X955 (by decide) (by decide), N955, pre956⟩
      case neg =>
        have pre958 : ∀ t, Steps p.tables e below (T952.setTop (mkF m 227 (own_LF q1 p2 p3 q4 p5 kn df ex lk m2 m3 nw mx ob e0 e1 (.val (.int (0 : Int32))) .unset) [(.int lk), (.int p3), (.long mx), (.ref ob)])) t → Steps p.tables e below (T0.setTop (mkF m 196 (own_LF q1 p2 p3 q4 p5 kn df ex lk m2 m3 nw mx ob e0 e1 .unset .unset) [])) t := fun t kt => pre953 t (by
          show Steps p.tables e below (T952.setTop (mkF m 217 (own_LF q1 p2 p3 q4 p5 kn df ex lk m2 m3 nw mx ob e0 e1 (.val (.int (0 : Int32))) .unset) [(.int ex)])) _
          refine XS.ifNo X952.here hx rfl (hb hby at_217) rfl ((if0 _ _).trans (feq hc954).1) ?_
          refine XS.aload X952.here hx rfl (hb hby at_220) rfl rfl ?_
          refine XS.lload X952.here hx rfl (hb hby at_222) rfl ?_
          refine XS.iloadN X952.here hx rfl (hb hby at_224) rfl ?_
          refine XS.iload X952.here hx rfl (hb hby at_225) rfl ?_
          exact kt)
        by_cases hc959 : x1 < mx
        case pos =>
          obtain ⟨cq960, kq960, q960a, q960b, q960c⟩ := isOf hZ e952 (own_pt_exa P950)
          obtain ⟨_, _, ⟨T960, L960, k960, n960⟩, -, X960, ⟨Lc960, hQ960, l960, y960, z960⟩, st960⟩ := X952.virtualBack hx (y := own_y_103) (z := own_y_103) hown (mvT hZ (own_w hw 28 rfl)) (mvT hZ (own_w hw 29 rfl)) (notFace_of_selects (args := #[]) (mvT hZ (own_w hw 31 rfl))) (mvT hZ (own_w hw 31 rfl)) (mvT hZ (own_w hw 30 rfl)) (by decide) (backOf (W := 0) (rmCnt022a l Z a0 hw [] ob mx p3 lk x0 x1 y0 y1 b T950.heap n0 z951 P950 hc959) hZ (own_w hw 32 rfl) (own_w hw 6 rfl) (by decide) (by decide)) q960a q960c (g := (mkF m 227 (own_LF q1 p2 p3 q4 p5 kn df ex lk m2 m3 nw mx ob e0 e1 (.val (.int (0 : Int32))) .unset) [(.int lk), (.int p3), (.long mx), (.ref ob)])) rfl (by rw [hml]; rfl) (Steps.refl _) (argsL := [(.long mx), (.int p3), (.int lk)]) (rest := []) (lenOf pd_105 rfl) rfl (by show 2 * 0 + _ ≤ _; exact Nat.le_of_eq rfl) (hb hby at_227) (fun _ _ => ⟨rfl, e952, (by decide : 5 + 2 ≤ _), (by decide : 22 + 8 ≤ _)⟩)
          dsimp only [Pt.U, Pt.locs, Pt.cells, Pt.slots] at X960 l960 y960 z960 st960 hQ960
          subst l960 y960 z960
          obtain ⟨rfl, Nq960, z960, P960⟩ := hQ960
          have N960 := Fr.app N952 Nq960
          have z961 : n0 ≤ T960.heap.size := Nat.le_trans z951 z960
          obtain ⟨cq962, kq962, q962a, q962b, q962c⟩ := isOf hZ rfl (own_pt_exa P960)
          obtain ⟨_, _, ⟨T962, L962, k962, n962⟩, -, X962, ⟨Lc962, hQ962, l962, y962, z962⟩, st962⟩ := X960.virtualBack hx (y := own_y_38) (z := own_y_38) hown (mvT hZ (own_w hw 19 rfl)) (mvT hZ (own_w hw 20 rfl)) (notFace_of_selects (args := #[]) (mvT hZ (own_w hw 22 rfl))) (mvT hZ (own_w hw 22 rfl)) (mvT hZ (own_w hw 21 rfl)) (by decide) (backOf (W := 0) (rmEmpF l Z a0 hw [] ob _ _ _ _ _ _ T960.heap n0 z961 P960 (by decide)) hZ (own_w hw 23 rfl) (own_w hw 6 rfl) (by decide) (by decide)) q962a q962c (g := (mkF m 232 (own_LF q1 p2 p3 q4 p5 kn df ex lk m2 m3 nw mx ob e0 e1 (.val (.int (0 : Int32))) .unset) [(.ref ob)])) rfl (by rw [hml]; rfl) (Steps.refl _) (argsL := []) (rest := []) (lenOf pd_48 rfl) rfl (by show 2 * 0 + _ ≤ _; exact Nat.le_of_eq rfl) (hb hby at_232) (fun _ _ => ⟨rfl, rfl, (by decide : 7 + 0 ≤ _), (by decide : 30 + 0 ≤ _)⟩)
          dsimp only [Pt.U, Pt.locs, Pt.cells, Pt.slots] at X962 l962 y962 z962 st962 hQ962
          subst l962 y962 z962
          obtain ⟨rfl, Nq962, e962⟩ := hQ962
          have N962 := Fr.app N960 Nq962
          have pre963 : ∀ t, Steps p.tables e below (T962.setTop (mkF m 237 (own_LF q1 p2 p3 q4 p5 kn df ex lk m2 m3 nw mx ob e0 e1 (.val (.int (0 : Int32))) (.val (.int (0 : Int32)))) [])) t → Steps p.tables e below (T0.setTop (mkF m 196 (own_LF q1 p2 p3 q4 p5 kn df ex lk m2 m3 nw mx ob e0 e1 .unset .unset) [])) t := fun t kt => pre958 t (by
            show Steps p.tables e below (T952.setTop (mkF m 227 (own_LF q1 p2 p3 q4 p5 kn df ex lk m2 m3 nw mx ob e0 e1 (.val (.int (0 : Int32))) .unset) [(.int lk), (.int p3), (.long mx), (.ref ob)])) _
            refine st960.trans ?_
            refine XS.aload X960.here hx rfl (hb hby at_230) rfl rfl ?_
            refine st962.trans ?_
            refine XS.istore X962.here hx rfl (hb hby at_235) rfl (l' := (own_LF q1 p2 p3 q4 p5 kn df ex lk m2 m3 nw mx ob e0 e1 (.val (.int (0 : Int32))) (.val (.int (0 : Int32))))) rfl ?_
            exact kt)
          have lt964 : ¬ (x1 < q4) := by
            rw [Int64.lt_iff_toInt_lt] at hs0 hc573 hc959 ⊢
            omega
          have hq : ¬ (nw < q4) := by rw [hnw]; exact lt964
          rw [show (if df = (0 : Int32) then (0 : Int32) else (if nw < q4 then (1 : Int32) else (0 : Int32))) = (0 : Int32) from (if_neg hc354).trans (if_neg hq)]
          rw [show (if ex = (0 : Int32) then (0 : Int32) else (0 : Int32)) = (0 : Int32) from if_neg hc954]
          exact ⟨T962, _, own_more X962 (by decide) (by decide), N962, pre963⟩
        case neg =>
          obtain ⟨cq965, kq965, q965a, q965b, q965c⟩ := isOf hZ e952 (own_pt_exa P950)
          obtain ⟨_, _, ⟨T965, L965, k965, n965⟩, -, X965, ⟨Lc965, hQ965, l965, y965, z965⟩, st965⟩ := X952.virtualBack hx (y := own_y_103) (z := own_y_103) hown (mvT hZ (own_w hw 28 rfl)) (mvT hZ (own_w hw 29 rfl)) (notFace_of_selects (args := #[]) (mvT hZ (own_w hw 31 rfl))) (mvT hZ (own_w hw 31 rfl)) (mvT hZ (own_w hw 30 rfl)) (by decide) (backOf (W := 0) (rmCnt022o l Z a0 hw [] ob mx p3 lk x0 x1 y0 y1 b T950.heap n0 z951 P950 hc959) hZ (own_w hw 32 rfl) (own_w hw 6 rfl) (by decide) (by decide)) q965a q965c (g := (mkF m 227 (own_LF q1 p2 p3 q4 p5 kn df ex lk m2 m3 nw mx ob e0 e1 (.val (.int (0 : Int32))) .unset) [(.int lk), (.int p3), (.long mx), (.ref ob)])) rfl (by rw [hml]; rfl) (Steps.refl _) (argsL := [(.long mx), (.int p3), (.int lk)]) (rest := []) (lenOf pd_105 rfl) rfl (by show 2 * 0 + _ ≤ _; exact Nat.le_of_eq rfl) (hb hby at_227) (fun _ _ => ⟨rfl, e952, (by decide : 5 + 0 ≤ _), (by decide : 22 + 0 ≤ _)⟩)
          dsimp only [Pt.U, Pt.locs, Pt.cells, Pt.slots] at X965 l965 y965 z965 st965 hQ965
          subst l965 y965 z965
          obtain ⟨rfl, Nq965, z965, P965⟩ := hQ965
          have N965 := Fr.app N952 Nq965
          have z966 : n0 ≤ T965.heap.size := Nat.le_trans z951 z965
          obtain ⟨cq967, kq967, q967a, q967b, q967c⟩ := isOf hZ rfl (own_pt_exa P965)
          obtain ⟨_, _, ⟨T967, L967, k967, n967⟩, -, X967, ⟨Lc967, hQ967, l967, y967, z967⟩, st967⟩ := X965.virtualBack hx (y := own_y_38) (z := own_y_38) hown (mvT hZ (own_w hw 19 rfl)) (mvT hZ (own_w hw 20 rfl)) (notFace_of_selects (args := #[]) (mvT hZ (own_w hw 22 rfl))) (mvT hZ (own_w hw 22 rfl)) (mvT hZ (own_w hw 21 rfl)) (by decide) (backOf (W := 0) (rmEmpF l Z a0 hw [] ob _ _ _ _ _ _ T965.heap n0 z966 P965 (by decide)) hZ (own_w hw 23 rfl) (own_w hw 6 rfl) (by decide) (by decide)) q967a q967c (g := (mkF m 232 (own_LF q1 p2 p3 q4 p5 kn df ex lk m2 m3 nw mx ob e0 e1 (.val (.int (0 : Int32))) .unset) [(.ref ob)])) rfl (by rw [hml]; rfl) (Steps.refl _) (argsL := []) (rest := []) (lenOf pd_48 rfl) rfl (by show 2 * 0 + _ ≤ _; exact Nat.le_of_eq rfl) (hb hby at_232) (fun _ _ => ⟨rfl, rfl, (by decide : 5 + 0 ≤ _), (by decide : 22 + 0 ≤ _)⟩)
          dsimp only [Pt.U, Pt.locs, Pt.cells, Pt.slots] at X967 l967 y967 z967 st967 hQ967
          subst l967 y967 z967
          obtain ⟨rfl, Nq967, e967⟩ := hQ967
          have N967 := Fr.app N965 Nq967
          have pre968 : ∀ t, Steps p.tables e below (T967.setTop (mkF m 237 (own_LF q1 p2 p3 q4 p5 kn df ex lk m2 m3 nw mx ob e0 e1 (.val (.int (0 : Int32))) (.val (.int (0 : Int32)))) [])) t → Steps p.tables e below (T0.setTop (mkF m 196 (own_LF q1 p2 p3 q4 p5 kn df ex lk m2 m3 nw mx ob e0 e1 .unset .unset) [])) t := fun t kt => pre958 t (by
            show Steps p.tables e below (T952.setTop (mkF m 227 (own_LF q1 p2 p3 q4 p5 kn df ex lk m2 m3 nw mx ob e0 e1 (.val (.int (0 : Int32))) .unset) [(.int lk), (.int p3), (.long mx), (.ref ob)])) _
            refine st965.trans ?_
            refine XS.aload X965.here hx rfl (hb hby at_230) rfl rfl ?_
            refine st967.trans ?_
            refine XS.istore X967.here hx rfl (hb hby at_235) rfl (l' := (own_LF q1 p2 p3 q4 p5 kn df ex lk m2 m3 nw mx ob e0 e1 (.val (.int (0 : Int32))) (.val (.int (0 : Int32))))) rfl ?_
            exact kt)
          have lt969 : ¬ (x1 < q4) := by
            rw [Int64.lt_iff_toInt_lt] at hs0 hc573 hc959 ⊢
            omega
          have hq : ¬ (nw < q4) := by rw [hnw]; exact lt969
          rw [show (if df = (0 : Int32) then (0 : Int32) else (if nw < q4 then (1 : Int32) else (0 : Int32))) = (0 : Int32) from (if_neg hc354).trans (if_neg hq)]
          rw [show (if ex = (0 : Int32) then (0 : Int32) else (0 : Int32)) = (0 : Int32) from if_neg hc954]
          exact ⟨T967, _, own_more X967 (by decide) (by decide), N967, pre968⟩
def QCnt034a (Z : State) (a1 : Addr) (q2 : Int64) (p4 p5 : Int32) (x0 : Int64) (x1 : Int64) (x2 : Int64) (x3 : Int64) (y0 : Int32) (y1 : Int32) (y2 : Int32) (y3 : Int32) (b : Int32) (h0 : Heap) (n0 : Nat) (v : Option Value) (h : Heap) (L : List Loc) : Prop := v = none ∧ Fr n0 L ∧ h0.size ≤ h.size ∧ PT Z h n0 a1 (0 : Int32) (4 : Int32) (4 : Int32) [(.long x0), (.long x1), (.long x2), (.long q2)] [(.int y0), (.int y1), (.int y2), (.int p4)] b
set_option maxRecDepth 65536 in
set_option maxHeartbeats 40000000 in
theorem rmCnt034a (l : Launch) (Z : State) (a0 : Array Value) (hw : ∀ d ∈ tables_1, d.before a0 Z = true) (ws : List Jvm.Cond) (a1 : Addr) (q2 : Int64) (p4 p5 : Int32) (x0 : Int64) (x1 : Int64) (x2 : Int64) (x3 : Int64) (y0 : Int32) (y1 : Int32) (y2 : Int32) (y3 : Int32) (b : Int32) (h0 : Heap) (n0 : Nat) (Z0 : n0 ≤ h0.size) (P0 : PT Z h0 n0 a1 (0 : Int32) (3 : Int32) (4 : Int32) [(.long x0), (.long x1), (.long x2), (.long x3)] [(.int y0), (.int y1), (.int y2), (.int y3)] b) (c0 : x2 < q2) :
    MetFree l own_y_103 (head1 (Jvm.Cond.code own_y_103 prog_25_method_2_code 5 none :: ws) ({ frames := 0, cells := 0, slots := 0, locals := 0 } : Room)) (fun a U => a = #[(.ref a1), (.long q2), (.int p4), (.int p5)] ∧ Z.Warmed39 U.vm ∧ U.heap = h0) (fun _ _ _ _ _ => True) (fun _ U o U' => ∃ v L, o = .returned v ∧ QCnt034a Z a1 q2 p4 p5 x0 x1 x2 x3 y0 y1 y2 y3 b h0 n0 v U'.heap L ∧ FrameEnd U o U' L ({ frames := 0, cells := 0, slots := 0, locals := 0 } : Room).cells ({ frames := 0, cells := 0, slots := 0, locals := 0 } : Room).slots) := by
  refine MetFree.of_bodySF (plainFor_of_name pn_2) hisR ?_
  intro p e s m args below meth c s₁ Bd hml0 hP hK
  obtain ⟨rfl, hZ, hh⟩ := hP
  have hx := Bd.exec
  have hby := Bd.bytes
  have hml : c.maxLocals = 5 := hml0
  have hown : s.vm.findClass "com/example/viral_counter/viralcounter/PostTrend" = some m.cls := findClass_of_methodNamed Bd.named
  have hnm := (name_of_methodNamed Bd.named Bd.method).1
  have X0 : Stand p l e ({ frames := 0, cells := 0, slots := 0, locals := 0 } : Room) s m #[(.ref a1), (.long q2), (.int p4), (.int p5)] below meth c s₁ [] 0 0 := Stand.of_body Bd
  have e0 : s₁.heap = h0 := by rw [← hh, Bd.state]; rfl
  have N0 := Fr.nil n0
  have pre0 : ∀ t, Steps p.tables e below (s₁.setTop (mkF m 0 #[.val (.ref a1), .val (.long q2), .second, .val (.int p4), .val (.int p5)] [])) t → Steps p.tables e below (s₁.setTop (entryFrame m #[(.ref a1), (.long q2), (.int p4), (.int p5)] 5)) t := fun t k => castTop (ef_104 m a1 q2 p4 p5) k
  obtain ⟨am979, ac979, km979, kc979, E979, Fm979, Fc979, Ff979, Fe979, Fb979, Vm979, Vc979, Ga979, Gm979, Gc979, n1979, n2979, n3979⟩ := id P0
  have hz0 : h0.size ≤ h0.size := Nat.le_refl _
  obtain ⟨T980, X980, e980, st980⟩ := getF X0 hx hZ hown (host := "") (Or.inl (own_w hw 24 rfl)) Via.refl e0 Ff979 (g := (mkF m 1 #[.val (.ref a1), .val (.long q2), .second, .val (.int p4), .val (.int p5)] [(.ref a1)])) rfl rfl (hb hby d5_1)
  obtain ⟨T981, X981, e981, st981⟩ := getF X980 hx hZ hown (host := "") (Or.inl (own_w hw 26 rfl)) Via.refl e980 Fe979 (g := (mkF m 5 #[.val (.ref a1), .val (.long q2), .second, .val (.int p4), .val (.int p5)] [(.ref a1), (.int (0 : Int32))])) rfl rfl (hb hby d5_5)
  obtain ⟨T982, X982, e982, st982⟩ := getF X981 hx hZ hown (host := "") (Or.inl (own_w hw 24 rfl)) Via.refl e981 Ff979 (g := (mkF m 30 #[.val (.ref a1), .val (.long q2), .second, .val (.int p4), .val (.int p5)] [(.ref a1)])) rfl rfl (hb hby d5_30)
  obtain ⟨T983, X983, e983, st983⟩ := getF X982 hx hZ hown (host := "") (Or.inl (own_w hw 26 rfl)) Via.refl e982 Fe979 (g := (mkF m 34 #[.val (.ref a1), .val (.long q2), .second, .val (.int p4), .val (.int p5)] [(.ref a1), (.int (0 : Int32))])) rfl rfl (hb hby d5_34)
  obtain ⟨T984, X984, e984, st984⟩ := getF X983 hx hZ hown (host := "") (Or.inl (own_w hw 14 rfl)) Via.refl e983 Fm979 (g := (mkF m 42 #[.val (.ref a1), .val (.long q2), .second, .val (.int p4), .val (.int p5)] [(.ref a1), (.long q2)])) rfl rfl (hb hby d5_42)
  obtain ⟨T985, X985, e985, st985⟩ := getF X984 hx hZ hown (host := "") (Or.inl (own_w hw 26 rfl)) Via.refl e984 Fe979 (g := (mkF m 46 #[.val (.ref a1), .val (.long q2), .second, .val (.int p4), .val (.int p5)] [(.ref a1), (.ref am979), (.long q2)])) rfl rfl (hb hby d5_46)
  obtain ⟨cl986, A986, q986, S986, M986, H986, J986⟩ := id Vm979
  have hin986 : ¬ ((2 : Int32) < 0 ∨ cl986.slots.size ≤ ((2 : Int32)).toNatClampNeg) := inb_of S986 ⟨by decide, by decide⟩
  have hat986 : cl986.slots[((2 : Int32)).toNatClampNeg]? = some (.long x2) := H986.at hin986 rfl
  obtain ⟨T987, X987, e987, st987⟩ := getF X985 hx hZ hown (host := "") (Or.inl (own_w hw 26 rfl)) Via.refl e985 Fe979 (g := (mkF m 72 #[.val (.ref a1), .val (.long q2), .second, .val (.int p4), .val (.int p5)] [(.ref a1)])) rfl rfl (hb hby d5_72)
  obtain ⟨T988, X988, e988, st988⟩ := getF X987 hx hZ hown (host := "") (Or.inl (own_w hw 14 rfl)) Via.refl e987 Fm979 (g := (mkF m 76 #[.val (.ref a1), .val (.long q2), .second, .val (.int p4), .val (.int p5)] [(.ref a1), (.int (3 : Int32))])) rfl rfl (hb hby d5_76)
  obtain ⟨cl989, A989, q989, S989, M989, H989, J989⟩ := id Vm979
  obtain ⟨T990, X990, e990, st990⟩ := getF X988 hx hZ hown (host := "") (Or.inl (own_w hw 14 rfl)) Via.refl e988 Fm979 (g := (mkF m 88 #[.val (.ref a1), .val (.long q2), .second, .val (.int p4), .val (.int p5)] [(.ref a1)])) rfl rfl (hb hby d5_88)
  obtain ⟨T991, X991, e991, st991⟩ := getF X990 hx hZ hown (host := "") (Or.inl (own_w hw 26 rfl)) Via.refl e990 Fe979 (g := (mkF m 92 #[.val (.ref a1), .val (.long q2), .second, .val (.int p4), .val (.int p5)] [(.ref a1), (.ref am979)])) rfl rfl (hb hby d5_92)
  obtain ⟨cl992, Ar992, q992, S992, M992, H992, J992⟩ := id Vm979
  have hin992 : ¬ ((3 : Int32) < 0 ∨ cl992.slots.size ≤ ((3 : Int32)).toNatClampNeg) := inb_of S992 ⟨by decide, by decide⟩
  obtain ⟨T993, h993, X993, e993, W993, st993⟩ := stJ X991 hx hZ e991 Ar992 (j := (3 : Int32)) hin992 (g := (mkF m 96 #[.val (.ref a1), .val (.long q2), .second, .val (.int p4), .val (.int p5)] [(.long q2), (.int (3 : Int32)), (.ref am979)])) rfl rfl (hb hby d5_96)
  have V993 : Arv Z h993 am979 km979 .long (4 : Int32) [(.long x0), (.long x1), (.long x2), (.long q2)] (.long (0 : Int64)) := Arv.set Ar992 q992 S992 M992 H992 J992 rfl W993 3 rfl (Nat.le_of_ble_eq_true rfl)
  have N993 := Fr.snoc X993 N0 Gm979
  have z994 : n0 ≤ h993.size := Nat.le_trans Z0 (Keep.of_wr W993).1
  have c995 := E979.wr W993
  have c996 := Fm979.other W993 (Or.inl n1979)
  have c997 := Fc979.other W993 (Or.inl n1979)
  have c998 := Ff979.other W993 (Or.inl n1979)
  have c999 := Fe979.other W993 (Or.inl n1979)
  have c1000 := Fb979.other W993 (Or.inl n1979)
  have c1002 := Vc979.other W993 (Ne.symm n3979)
  obtain ⟨T1003, X1003, e1003, st1003⟩ := getF X993 hx hZ hown (host := "") (Or.inl (own_w hw 17 rfl)) Via.refl e993 c997 (g := (mkF m 98 #[.val (.ref a1), .val (.long q2), .second, .val (.int p4), .val (.int p5)] [(.ref a1)])) rfl rfl (hb hby d5_98)
  obtain ⟨T1004, X1004, e1004, st1004⟩ := getF X1003 hx hZ hown (host := "") (Or.inl (own_w hw 26 rfl)) Via.refl e1003 c999 (g := (mkF m 102 #[.val (.ref a1), .val (.long q2), .second, .val (.int p4), .val (.int p5)] [(.ref a1), (.ref ac979)])) rfl rfl (hb hby d5_102)
  obtain ⟨cl1005, Ar1005, q1005, S1005, M1005, H1005, J1005⟩ := id c1002
  have hin1005 : ¬ ((3 : Int32) < 0 ∨ cl1005.slots.size ≤ ((3 : Int32)).toNatClampNeg) := inb_of S1005 ⟨by decide, by decide⟩
  obtain ⟨T1006, h1006, X1006, e1006, W1006, st1006⟩ := stI X1004 hx hZ e1004 Ar1005 (j := (3 : Int32)) hin1005 (g := (mkF m 106 #[.val (.ref a1), .val (.long q2), .second, .val (.int p4), .val (.int p5)] [(.int p4), (.int (3 : Int32)), (.ref ac979)])) rfl rfl (hb hby d5_106)
  have V1006 : Arv Z h1006 ac979 kc979 .int (4 : Int32) [(.int y0), (.int y1), (.int y2), (.int p4)] (.int (0 : Int32)) := Arv.set Ar1005 q1005 S1005 M1005 H1005 J1005 rfl W1006 3 rfl (Nat.le_of_ble_eq_true rfl)
  have N1006 := Fr.snoc X1006 N993 Gc979
  have z1007 : n0 ≤ h1006.size := Nat.le_trans z994 (Keep.of_wr W1006).1
  have c1008 := c995.wr W1006
  have c1009 := c996.other W1006 (Or.inl n2979)
  have c1010 := c997.other W1006 (Or.inl n2979)
  have c1011 := c998.other W1006 (Or.inl n2979)
  have c1012 := c999.other W1006 (Or.inl n2979)
  have c1013 := c1000.other W1006 (Or.inl n2979)
  have c1015 := V993.other W1006 n3979
  obtain ⟨T1016, X1016, e1016, st1016⟩ := getF X1006 hx hZ hown (host := "") (Or.inl (own_w hw 26 rfl)) Via.refl e1006 c1012 (g := (mkF m 109 #[.val (.ref a1), .val (.long q2), .second, .val (.int p4), .val (.int p5)] [(.ref a1), (.ref a1)])) rfl rfl (hb hby d5_109)
  obtain ⟨T1017, h1017, X1017, e1017, W1017, st1017⟩ := putF X1016 hx hZ hown (host := "") (Or.inl (own_w hw 26 rfl)) Via.refl e1016 c1012 c1008 (Or.inl (own_w hw 27 rfl)) (own_w hw 5 rfl) (ty := .int) (by decide) rfl rfl (g := (mkF m 114 #[.val (.ref a1), .val (.long q2), .second, .val (.int p4), .val (.int p5)] [(.int (4 : Int32)), (.ref a1)])) rfl rfl (hb hby d5_114)
  have Fw1017 := c1012.same W1017
  have N1017 := Fr.snoc X1017 N1006 Ga979
  have z1018 : n0 ≤ h1017.size := Nat.le_trans z1007 (Keep.of_wr W1017).1
  have c1019 := c1008.wr W1017
  have c1020 := c1009.other W1017 (Or.inr (own_sn_98 hw))
  have c1021 := c1010.other W1017 (Or.inr (own_sn_99 hw))
  have c1022 := c1011.other W1017 (Or.inr (own_sn_100 hw))
  have c1024 := c1013.other W1017 (Or.inr (own_sn_101 hw))
  have c1025 := c1015.other W1017 (Ne.symm n1979)
  have c1026 := V1006.other W1017 (Ne.symm n2979)
  have pre1027 : ∀ t, Steps p.tables e below (T1017.setTop (mkF m 117 #[.val (.ref a1), .val (.long q2), .second, .val (.int p4), .val (.int p5)] [])) t → Steps p.tables e below (s₁.setTop (entryFrame m #[(.ref a1), (.long q2), (.int p4), (.int p5)] 5)) t := fun t kt => pre0 t (by
    show Steps p.tables e below (s₁.setTop (mkF m 0 #[.val (.ref a1), .val (.long q2), .second, .val (.int p4), .val (.int p5)] [])) _
    refine XS.aloadN X0.here hx rfl (hb hby d5_0) rfl rfl ?_
    refine st980 _ ?_
    refine XS.aloadN X980.here hx rfl (hb hby d5_4) rfl rfl ?_
    refine st981 _ ?_
    refine XS.icmpYes X981.here hx rfl (pc0 := 8) (pc' := 29) rfl (hb hby d5_8) rfl (feq (by decide : ¬ ((0 : Int32) = (3 : Int32)))).2 (by decide) (by decide) ?_
    refine XS.aloadN X981.here hx rfl (hb hby d5_29) rfl rfl ?_
    refine st982 _ ?_
    refine XS.aloadN X982.here hx rfl (hb hby d5_33) rfl rfl ?_
    refine st983 _ ?_
    refine XS.icmpNo X983.here hx rfl (hb hby d5_37) rfl (tlt (by decide : (0 : Int32) < (3 : Int32))).2.1 ?_
    refine XS.lloadN X983.here hx rfl (hb hby d5_40) rfl ?_
    refine XS.aloadN X983.here hx rfl (hb hby d5_41) rfl rfl ?_
    show Steps p.tables e below (T983.setTop (mkF m 42 #[.val (.ref a1), .val (.long q2), .second, .val (.int p4), .val (.int p5)] [(.ref a1), (.long q2)])) _
    refine st984 _ ?_
    refine XS.aloadN X984.here hx rfl (hb hby d5_45) rfl rfl ?_
    refine st985 _ ?_
    refine XS.iconst X985.here hx rfl (hb hby d5_49) ?_
    refine XS.isub X985.here hx rfl (hb hby d5_50) rfl ?_
    refine X985.laload hx (j := (2 : Int32)) (v := (.long x2)) (by rw [e985]; exact A986.1) (State.isArrayOf_alike hZ.alike A986.2.1) A986.2.2 hin986 hat986 (g := (mkF m 51 #[.val (.ref a1), .val (.long q2), .second, .val (.int p4), .val (.int p5)] [(.int (2 : Int32)), (.ref am979), (.long q2)])) rfl rfl (hb hby d5_51) _ ?_
    refine XS.lcmp X985.here hx rfl (hb hby d5_52) rfl ?_
    refine XS.ifYes X985.here hx rfl (pc0 := 53) (pc' := 71) rfl (hb hby d5_53) rfl ((if0 _ _).trans (tlt ((lw_gt _ _).mpr c0)).2.2.1) (by decide) (by decide) ?_
    refine XS.aloadN X985.here hx rfl (hb hby d5_71) rfl rfl ?_
    refine st987 _ ?_
    refine XS.aloadN X987.here hx rfl (hb hby d5_75) rfl rfl ?_
    refine st988 _ ?_
    show Steps p.tables e below (T988.setTop (mkF m 79 #[.val (.ref a1), .val (.long q2), .second, .val (.int p4), .val (.int p5)] [(.ref am979), (.int (3 : Int32))])) _
    refine X988.arraylength hx (by rw [e988]; exact A989.1) (State.isArrayOf_alike hZ.alike A989.2.1) (g := (mkF m 79 #[.val (.ref a1), .val (.long q2), .second, .val (.int p4), .val (.int p5)] [(.ref am979), (.int (3 : Int32))])) rfl rfl (hb hby d5_79) _ ?_
    rw [len_of S989 M989]
    refine XS.icmpYes X988.here hx rfl (pc0 := 80) (pc' := 87) rfl (hb hby d5_80) rfl (feq (by decide : ¬ ((3 : Int32) = (4 : Int32)))).2 (by decide) (by decide) ?_
    refine XS.aloadN X988.here hx rfl (hb hby d5_87) rfl rfl ?_
    refine st990 _ ?_
    refine XS.aloadN X990.here hx rfl (hb hby d5_91) rfl rfl ?_
    refine st991 _ ?_
    refine XS.lloadN X991.here hx rfl (hb hby d5_95) rfl ?_
    refine st993 _ ?_
    refine XS.aloadN X993.here hx rfl (hb hby d5_97) rfl rfl ?_
    refine st1003 _ ?_
    refine XS.aloadN X1003.here hx rfl (hb hby d5_101) rfl rfl ?_
    refine st1004 _ ?_
    show Steps p.tables e below (T1004.setTop (mkF m 105 #[.val (.ref a1), .val (.long q2), .second, .val (.int p4), .val (.int p5)] [(.int (3 : Int32)), (.ref ac979)])) _
    refine XS.iloadN X1004.here hx rfl (hb hby d5_105) rfl ?_
    refine st1006 _ ?_
    refine XS.aloadN X1006.here hx rfl (hb hby d5_107) rfl rfl ?_
    refine XS.dup X1006.here hx rfl (hb hby d5_108) rfl rfl ?_
    refine st1016 _ ?_
    refine XS.iconst X1016.here hx rfl (hb hby d5_112) ?_
    refine XS.iadd X1016.here hx rfl (hb hby d5_113) rfl ?_
    refine st1017 _ ?_
    exact kt)
  have hz : h0.size ≤ h1017.size := Nat.le_trans (Nat.le_trans (Nat.le_trans (Nat.le_refl _) (Keep.of_wr W993).1) (Keep.of_wr W1006).1) (Keep.of_wr W1017).1
  have hQ : QCnt034a Z a1 q2 p4 p5 x0 x1 x2 x3 y0 y1 y2 y3 b h0 n0 none h1017 _ := ⟨rfl, N1017, hz, ⟨am979, ac979, km979, kc979, c1019, c1020, c1021, c1022, Fw1017, c1024, c1025, c1026, Ga979, Gm979, Gc979, n1979, n2979, n3979⟩⟩
  exact own_retV X1017 hx Bd.notSynchronized Bd.returns (hb hby d5_117) pre1027 (show QCnt034a Z a1 q2 p4 p5 x0 x1 x2 x3 y0 y1 y2 y3 b h0 n0 _ _ _ from (by rw [e1017]; exact hQ)) (by decide) (by decide)
def QCnt034o (Z : State) (a1 : Addr) (q2 : Int64) (p4 p5 : Int32) (x0 : Int64) (x1 : Int64) (x2 : Int64) (x3 : Int64) (y0 : Int32) (y1 : Int32) (y2 : Int32) (y3 : Int32) (b : Int32) (h0 : Heap) (n0 : Nat) (v : Option Value) (h : Heap) (L : List Loc) : Prop := v = none ∧ Fr n0 L ∧ h0.size ≤ h.size ∧ PT Z h n0 a1 (0 : Int32) (3 : Int32) (4 : Int32) [(.long x0), (.long x1), (.long x2), (.long x3)] [(.int y0), (.int y1), (.int p4), (.int y3)] b
set_option maxRecDepth 65536 in
set_option maxHeartbeats 40000000 in
theorem rmCnt034o (l : Launch) (Z : State) (a0 : Array Value) (hw : ∀ d ∈ tables_1, d.before a0 Z = true) (ws : List Jvm.Cond) (a1 : Addr) (q2 : Int64) (p4 p5 : Int32) (x0 : Int64) (x1 : Int64) (x2 : Int64) (x3 : Int64) (y0 : Int32) (y1 : Int32) (y2 : Int32) (y3 : Int32) (b : Int32) (h0 : Heap) (n0 : Nat) (Z0 : n0 ≤ h0.size) (P0 : PT Z h0 n0 a1 (0 : Int32) (3 : Int32) (4 : Int32) [(.long x0), (.long x1), (.long x2), (.long x3)] [(.int y0), (.int y1), (.int y2), (.int y3)] b) (c0 : ¬ (x2 < q2)) :
    MetFree l own_y_103 (head1 (Jvm.Cond.code own_y_103 prog_25_method_2_code 5 none :: ws) ({ frames := 0, cells := 0, slots := 0, locals := 0 } : Room)) (fun a U => a = #[(.ref a1), (.long q2), (.int p4), (.int p5)] ∧ Z.Warmed39 U.vm ∧ U.heap = h0) (fun _ _ _ _ _ => True) (fun _ U o U' => ∃ v L, o = .returned v ∧ QCnt034o Z a1 q2 p4 p5 x0 x1 x2 x3 y0 y1 y2 y3 b h0 n0 v U'.heap L ∧ FrameEnd U o U' L ({ frames := 0, cells := 0, slots := 0, locals := 0 } : Room).cells ({ frames := 0, cells := 0, slots := 0, locals := 0 } : Room).slots) := by
  refine MetFree.of_bodySF (plainFor_of_name pn_2) hisR ?_
  intro p e s m args below meth c s₁ Bd hml0 hP hK
  obtain ⟨rfl, hZ, hh⟩ := hP
  have hx := Bd.exec
  have hby := Bd.bytes
  have hml : c.maxLocals = 5 := hml0
  have hown : s.vm.findClass "com/example/viral_counter/viralcounter/PostTrend" = some m.cls := findClass_of_methodNamed Bd.named
  have hnm := (name_of_methodNamed Bd.named Bd.method).1
  have X0 : Stand p l e ({ frames := 0, cells := 0, slots := 0, locals := 0 } : Room) s m #[(.ref a1), (.long q2), (.int p4), (.int p5)] below meth c s₁ [] 0 0 := Stand.of_body Bd
  have e0 : s₁.heap = h0 := by rw [← hh, Bd.state]; rfl
  have N0 := Fr.nil n0
  have pre0 : ∀ t, Steps p.tables e below (s₁.setTop (mkF m 0 #[.val (.ref a1), .val (.long q2), .second, .val (.int p4), .val (.int p5)] [])) t → Steps p.tables e below (s₁.setTop (entryFrame m #[(.ref a1), (.long q2), (.int p4), (.int p5)] 5)) t := fun t k => castTop (ef_104 m a1 q2 p4 p5) k
  obtain ⟨am1032, ac1032, km1032, kc1032, E1032, Fm1032, Fc1032, Ff1032, Fe1032, Fb1032, Vm1032, Vc1032, Ga1032, Gm1032, Gc1032, n11032, n21032, n31032⟩ := id P0
  have hz0 : h0.size ≤ h0.size := Nat.le_refl _
  obtain ⟨T1033, X1033, e1033, st1033⟩ := getF X0 hx hZ hown (host := "") (Or.inl (own_w hw 24 rfl)) Via.refl e0 Ff1032 (g := (mkF m 1 #[.val (.ref a1), .val (.long q2), .second, .val (.int p4), .val (.int p5)] [(.ref a1)])) rfl rfl (hb hby d5_1)
  obtain ⟨T1034, X1034, e1034, st1034⟩ := getF X1033 hx hZ hown (host := "") (Or.inl (own_w hw 26 rfl)) Via.refl e1033 Fe1032 (g := (mkF m 5 #[.val (.ref a1), .val (.long q2), .second, .val (.int p4), .val (.int p5)] [(.ref a1), (.int (0 : Int32))])) rfl rfl (hb hby d5_5)
  obtain ⟨T1035, X1035, e1035, st1035⟩ := getF X1034 hx hZ hown (host := "") (Or.inl (own_w hw 24 rfl)) Via.refl e1034 Ff1032 (g := (mkF m 30 #[.val (.ref a1), .val (.long q2), .second, .val (.int p4), .val (.int p5)] [(.ref a1)])) rfl rfl (hb hby d5_30)
  obtain ⟨T1036, X1036, e1036, st1036⟩ := getF X1035 hx hZ hown (host := "") (Or.inl (own_w hw 26 rfl)) Via.refl e1035 Fe1032 (g := (mkF m 34 #[.val (.ref a1), .val (.long q2), .second, .val (.int p4), .val (.int p5)] [(.ref a1), (.int (0 : Int32))])) rfl rfl (hb hby d5_34)
  obtain ⟨T1037, X1037, e1037, st1037⟩ := getF X1036 hx hZ hown (host := "") (Or.inl (own_w hw 14 rfl)) Via.refl e1036 Fm1032 (g := (mkF m 42 #[.val (.ref a1), .val (.long q2), .second, .val (.int p4), .val (.int p5)] [(.ref a1), (.long q2)])) rfl rfl (hb hby d5_42)
  obtain ⟨T1038, X1038, e1038, st1038⟩ := getF X1037 hx hZ hown (host := "") (Or.inl (own_w hw 26 rfl)) Via.refl e1037 Fe1032 (g := (mkF m 46 #[.val (.ref a1), .val (.long q2), .second, .val (.int p4), .val (.int p5)] [(.ref a1), (.ref am1032), (.long q2)])) rfl rfl (hb hby d5_46)
  obtain ⟨cl1039, A1039, q1039, S1039, M1039, H1039, J1039⟩ := id Vm1032
  have hin1039 : ¬ ((2 : Int32) < 0 ∨ cl1039.slots.size ≤ ((2 : Int32)).toNatClampNeg) := inb_of S1039 ⟨by decide, by decide⟩
  have hat1039 : cl1039.slots[((2 : Int32)).toNatClampNeg]? = some (.long x2) := H1039.at hin1039 rfl
  obtain ⟨T1040, X1040, e1040, st1040⟩ := getF X1038 hx hZ hown (host := "") (Or.inl (own_w hw 17 rfl)) Via.refl e1038 Fc1032 (g := (mkF m 57 #[.val (.ref a1), .val (.long q2), .second, .val (.int p4), .val (.int p5)] [(.ref a1)])) rfl rfl (hb hby d5_57)
  obtain ⟨T1041, X1041, e1041, st1041⟩ := getF X1040 hx hZ hown (host := "") (Or.inl (own_w hw 26 rfl)) Via.refl e1040 Fe1032 (g := (mkF m 61 #[.val (.ref a1), .val (.long q2), .second, .val (.int p4), .val (.int p5)] [(.ref a1), (.ref ac1032)])) rfl rfl (hb hby d5_61)
  obtain ⟨cl1042, Ar1042, q1042, S1042, M1042, H1042, J1042⟩ := id Vc1032
  have hin1042 : ¬ ((2 : Int32) < 0 ∨ cl1042.slots.size ≤ ((2 : Int32)).toNatClampNeg) := inb_of S1042 ⟨by decide, by decide⟩
  obtain ⟨T1043, h1043, X1043, e1043, W1043, st1043⟩ := stI X1041 hx hZ e1041 Ar1042 (j := (2 : Int32)) hin1042 (g := (mkF m 67 #[.val (.ref a1), .val (.long q2), .second, .val (.int p4), .val (.int p5)] [(.int p4), (.int (2 : Int32)), (.ref ac1032)])) rfl rfl (hb hby d5_67)
  have V1043 : Arv Z h1043 ac1032 kc1032 .int (4 : Int32) [(.int y0), (.int y1), (.int p4), (.int y3)] (.int (0 : Int32)) := Arv.set Ar1042 q1042 S1042 M1042 H1042 J1042 rfl W1043 2 rfl (Nat.le_of_ble_eq_true rfl)
  have N1043 := Fr.snoc X1043 N0 Gc1032
  have z1044 : n0 ≤ h1043.size := Nat.le_trans Z0 (Keep.of_wr W1043).1
  have c1045 := E1032.wr W1043
  have c1046 := Fm1032.other W1043 (Or.inl n21032)
  have c1047 := Fc1032.other W1043 (Or.inl n21032)
  have c1048 := Ff1032.other W1043 (Or.inl n21032)
  have c1049 := Fe1032.other W1043 (Or.inl n21032)
  have c1050 := Fb1032.other W1043 (Or.inl n21032)
  have c1051 := Vm1032.other W1043 n31032
  have pre1053 : ∀ t, Steps p.tables e below (T1043.setTop (mkF m 117 #[.val (.ref a1), .val (.long q2), .second, .val (.int p4), .val (.int p5)] [])) t → Steps p.tables e below (s₁.setTop (entryFrame m #[(.ref a1), (.long q2), (.int p4), (.int p5)] 5)) t := fun t kt => pre0 t (by
    show Steps p.tables e below (s₁.setTop (mkF m 0 #[.val (.ref a1), .val (.long q2), .second, .val (.int p4), .val (.int p5)] [])) _
    refine XS.aloadN X0.here hx rfl (hb hby d5_0) rfl rfl ?_
    refine st1033 _ ?_
    refine XS.aloadN X1033.here hx rfl (hb hby d5_4) rfl rfl ?_
    refine st1034 _ ?_
    refine XS.icmpYes X1034.here hx rfl (pc0 := 8) (pc' := 29) rfl (hb hby d5_8) rfl (feq (by decide : ¬ ((0 : Int32) = (3 : Int32)))).2 (by decide) (by decide) ?_
    refine XS.aloadN X1034.here hx rfl (hb hby d5_29) rfl rfl ?_
    refine st1035 _ ?_
    refine XS.aloadN X1035.here hx rfl (hb hby d5_33) rfl rfl ?_
    refine st1036 _ ?_
    refine XS.icmpNo X1036.here hx rfl (hb hby d5_37) rfl (tlt (by decide : (0 : Int32) < (3 : Int32))).2.1 ?_
    refine XS.lloadN X1036.here hx rfl (hb hby d5_40) rfl ?_
    refine XS.aloadN X1036.here hx rfl (hb hby d5_41) rfl rfl ?_
    show Steps p.tables e below (T1036.setTop (mkF m 42 #[.val (.ref a1), .val (.long q2), .second, .val (.int p4), .val (.int p5)] [(.ref a1), (.long q2)])) _
    refine st1037 _ ?_
    refine XS.aloadN X1037.here hx rfl (hb hby d5_45) rfl rfl ?_
    refine st1038 _ ?_
    refine XS.iconst X1038.here hx rfl (hb hby d5_49) ?_
    refine XS.isub X1038.here hx rfl (hb hby d5_50) rfl ?_
    refine X1038.laload hx (j := (2 : Int32)) (v := (.long x2)) (by rw [e1038]; exact A1039.1) (State.isArrayOf_alike hZ.alike A1039.2.1) A1039.2.2 hin1039 hat1039 (g := (mkF m 51 #[.val (.ref a1), .val (.long q2), .second, .val (.int p4), .val (.int p5)] [(.int (2 : Int32)), (.ref am1032), (.long q2)])) rfl rfl (hb hby d5_51) _ ?_
    refine XS.lcmp X1038.here hx rfl (hb hby d5_52) rfl ?_
    refine XS.ifNo X1038.here hx rfl (hb hby d5_53) rfl ((if0 _ _).trans (flt (fun q => c0 ((lw_gt _ _).mp q))).2.2.1) ?_
    refine XS.aloadN X1038.here hx rfl (hb hby d5_56) rfl rfl ?_
    refine st1040 _ ?_
    refine XS.aloadN X1040.here hx rfl (hb hby d5_60) rfl rfl ?_
    refine st1041 _ ?_
    show Steps p.tables e below (T1041.setTop (mkF m 64 #[.val (.ref a1), .val (.long q2), .second, .val (.int p4), .val (.int p5)] [(.int (3 : Int32)), (.ref ac1032)])) _
    refine XS.iconst X1041.here hx rfl (hb hby d5_64) ?_
    refine XS.isub X1041.here hx rfl (hb hby d5_65) rfl ?_
    refine XS.iloadN X1041.here hx rfl (hb hby d5_66) rfl ?_
    refine st1043 _ ?_
    refine XS.goto X1043.here hx rfl (pc0 := 68) (pc' := 117) rfl (hb hby d5_68) (by decide) (by decide) ?_
    exact kt)
  have hz : h0.size ≤ h1043.size := Nat.le_trans (Nat.le_refl _) (Keep.of_wr W1043).1
  have hQ : QCnt034o Z a1 q2 p4 p5 x0 x1 x2 x3 y0 y1 y2 y3 b h0 n0 none h1043 _ := ⟨rfl, N1043, hz, ⟨am1032, ac1032, km1032, kc1032, c1045, c1046, c1047, c1048, c1049, c1050, c1051, V1043, Ga1032, Gm1032, Gc1032, n11032, n21032, n31032⟩⟩
  exact own_retV X1043 hx Bd.notSynchronized Bd.returns (hb hby d5_117) pre1053 (show QCnt034o Z a1 q2 p4 p5 x0 x1 x2 x3 y0 y1 y2 y3 b h0 n0 _ _ _ from (by rw [e1043]; exact hQ)) (by decide) (by decide)
def QFgt034_3 (Z : State) (a1 : Addr) (q2 : Int64) (x0 : Int64) (x1 : Int64) (x2 : Int64) (x3 : Int64) (y0 : Int32) (y1 : Int32) (y2 : Int32) (y3 : Int32) (b : Int32) (h0 : Heap) (n0 : Nat) (v : Option Value) (h : Heap) (L : List Loc) : Prop := v = none ∧ Fr n0 L ∧ h0.size ≤ h.size ∧ PT Z h n0 a1 (3 : Int32) (3 : Int32) (4 : Int32) [(.long x0), (.long x1), (.long x2), (.long x3)] [(.int y0), (.int y1), (.int y2), (.int y3)] y2
set_option maxRecDepth 65536 in
set_option maxHeartbeats 40000000 in
theorem rmFgt034_3 (l : Launch) (Z : State) (a0 : Array Value) (hw : ∀ d ∈ tables_1, d.before a0 Z = true) (ws : List Jvm.Cond) (a1 : Addr) (q2 : Int64) (x0 : Int64) (x1 : Int64) (x2 : Int64) (x3 : Int64) (y0 : Int32) (y1 : Int32) (y2 : Int32) (y3 : Int32) (b : Int32) (h0 : Heap) (n0 : Nat) (Z0 : n0 ≤ h0.size) (P0 : PT Z h0 n0 a1 (0 : Int32) (3 : Int32) (4 : Int32) [(.long x0), (.long x1), (.long x2), (.long x3)] [(.int y0), (.int y1), (.int y2), (.int y3)] b) (c0 : x0 < q2) (c1 : x1 < q2) (c2 : x2 < q2) :
    MetFree l own_y_113 (head1 (Jvm.Cond.code own_y_113 prog_25_method_4_code 3 none :: ws) ({ frames := 0, cells := 0, slots := 0, locals := 0 } : Room)) (fun a U => a = #[(.ref a1), (.long q2)] ∧ Z.Warmed39 U.vm ∧ U.heap = h0) (fun _ _ _ _ _ => True) (fun _ U o U' => ∃ v L, o = .returned v ∧ QFgt034_3 Z a1 q2 x0 x1 x2 x3 y0 y1 y2 y3 b h0 n0 v U'.heap L ∧ FrameEnd U o U' L ({ frames := 0, cells := 0, slots := 0, locals := 0 } : Room).cells ({ frames := 0, cells := 0, slots := 0, locals := 0 } : Room).slots) := by
  refine MetFree.of_bodySF (plainFor_of_name pn_2) hisR ?_
  intro p e s m args below meth c s₁ Bd hml0 hP hK
  obtain ⟨rfl, hZ, hh⟩ := hP
  have hx := Bd.exec
  have hby := Bd.bytes
  have hml : c.maxLocals = 3 := hml0
  have hown : s.vm.findClass "com/example/viral_counter/viralcounter/PostTrend" = some m.cls := findClass_of_methodNamed Bd.named
  have hnm := (name_of_methodNamed Bd.named Bd.method).1
  have X0 : Stand p l e ({ frames := 0, cells := 0, slots := 0, locals := 0 } : Room) s m #[(.ref a1), (.long q2)] below meth c s₁ [] 0 0 := Stand.of_body Bd
  have e0 : s₁.heap = h0 := by rw [← hh, Bd.state]; rfl
  have N0 := Fr.nil n0
  have pre0 : ∀ t, Steps p.tables e below (s₁.setTop (mkF m 0 #[.val (.ref a1), .val (.long q2), .second] [])) t → Steps p.tables e below (s₁.setTop (entryFrame m #[(.ref a1), (.long q2)] 3)) t := fun t k => castTop (ef_114 m a1 q2) k
  obtain ⟨am1062, ac1062, km1062, kc1062, E1062, Fm1062, Fc1062, Ff1062, Fe1062, Fb1062, Vm1062, Vc1062, Ga1062, Gm1062, Gc1062, n11062, n21062, n31062⟩ := id P0
  have hz0 : h0.size ≤ h0.size := Nat.le_refl _
  obtain ⟨T1063, X1063, e1063, st1063⟩ := getF X0 hx hZ hown (host := "") (Or.inl (own_w hw 24 rfl)) Via.refl e0 Ff1062 (g := (mkF m 1 #[.val (.ref a1), .val (.long q2), .second] [(.ref a1)])) rfl rfl (hb hby d13_1)
  obtain ⟨T1064, X1064, e1064, st1064⟩ := getF X1063 hx hZ hown (host := "") (Or.inl (own_w hw 26 rfl)) Via.refl e1063 Fe1062 (g := (mkF m 5 #[.val (.ref a1), .val (.long q2), .second] [(.ref a1), (.int (0 : Int32))])) rfl rfl (hb hby d13_5)
  obtain ⟨T1065, X1065, e1065, st1065⟩ := getF X1064 hx hZ hown (host := "") (Or.inl (own_w hw 14 rfl)) Via.refl e1064 Fm1062 (g := (mkF m 12 #[.val (.ref a1), .val (.long q2), .second] [(.ref a1)])) rfl rfl (hb hby d13_12)
  obtain ⟨T1066, X1066, e1066, st1066⟩ := getF X1065 hx hZ hown (host := "") (Or.inl (own_w hw 24 rfl)) Via.refl e1065 Ff1062 (g := (mkF m 16 #[.val (.ref a1), .val (.long q2), .second] [(.ref a1), (.ref am1062)])) rfl rfl (hb hby d13_16)
  obtain ⟨cl1067, A1067, q1067, S1067, M1067, H1067, J1067⟩ := id Vm1062
  have hin1067 : ¬ ((0 : Int32) < 0 ∨ cl1067.slots.size ≤ ((0 : Int32)).toNatClampNeg) := inb_of S1067 ⟨by decide, by decide⟩
  have hat1067 : cl1067.slots[((0 : Int32)).toNatClampNeg]? = some (.long x0) := H1067.at hin1067 rfl
  obtain ⟨T1068, X1068, e1068, st1068⟩ := getF X1066 hx hZ hown (host := "") (Or.inl (own_w hw 17 rfl)) Via.refl e1066 Fc1062 (g := (mkF m 27 #[.val (.ref a1), .val (.long q2), .second] [(.ref a1), (.ref a1)])) rfl rfl (hb hby d13_27)
  obtain ⟨T1069, X1069, e1069, st1069⟩ := getF X1068 hx hZ hown (host := "") (Or.inl (own_w hw 24 rfl)) Via.refl e1068 Ff1062 (g := (mkF m 31 #[.val (.ref a1), .val (.long q2), .second] [(.ref a1), (.ref ac1062), (.ref a1)])) rfl rfl (hb hby d13_31)
  obtain ⟨cl1070, A1070, q1070, S1070, M1070, H1070, J1070⟩ := id Vc1062
  have hin1070 : ¬ ((0 : Int32) < 0 ∨ cl1070.slots.size ≤ ((0 : Int32)).toNatClampNeg) := inb_of S1070 ⟨by decide, by decide⟩
  have hat1070 : cl1070.slots[((0 : Int32)).toNatClampNeg]? = some (.int y0) := H1070.at hin1070 rfl
  obtain ⟨T1071, h1071, X1071, e1071, W1071, st1071⟩ := putF X1069 hx hZ hown (host := "") (Or.inl (own_w hw 33 rfl)) Via.refl e1069 Fb1062 E1062 (Or.inl (own_w hw 34 rfl)) (own_w hw 5 rfl) (ty := .int) (by decide) rfl rfl (g := (mkF m 35 #[.val (.ref a1), .val (.long q2), .second] [(.int y0), (.ref a1)])) rfl rfl (hb hby d13_35)
  have Fw1071 := Fb1062.same W1071
  have N1071 := Fr.snoc X1071 N0 Ga1062
  have z1072 : n0 ≤ h1071.size := Nat.le_trans Z0 (Keep.of_wr W1071).1
  have c1073 := E1062.wr W1071
  have c1074 := Fm1062.other W1071 (Or.inr (own_sn_65 hw))
  have c1075 := Fc1062.other W1071 (Or.inr (own_sn_66 hw))
  have c1076 := Ff1062.other W1071 (Or.inr (own_sn_67 hw))
  have c1077 := Fe1062.other W1071 (Or.inr (own_sn_68 hw))
  have c1079 := Vm1062.other W1071 (Ne.symm n11062)
  have c1080 := Vc1062.other W1071 (Ne.symm n21062)
  obtain ⟨T1081, X1081, e1081, st1081⟩ := getF X1071 hx hZ hown (host := "") (Or.inl (own_w hw 24 rfl)) Via.refl e1071 c1076 (g := (mkF m 40 #[.val (.ref a1), .val (.long q2), .second] [(.ref a1), (.ref a1)])) rfl rfl (hb hby d13_40)
  obtain ⟨T1082, h1082, X1082, e1082, W1082, st1082⟩ := putF X1081 hx hZ hown (host := "") (Or.inl (own_w hw 24 rfl)) Via.refl e1081 c1076 c1073 (Or.inl (own_w hw 25 rfl)) (own_w hw 5 rfl) (ty := .int) (by decide) rfl rfl (g := (mkF m 45 #[.val (.ref a1), .val (.long q2), .second] [(.int (1 : Int32)), (.ref a1)])) rfl rfl (hb hby d13_45)
  have Fw1082 := c1076.same W1082
  have N1082 := Fr.snoc X1082 N1071 Ga1062
  have z1083 : n0 ≤ h1082.size := Nat.le_trans z1072 (Keep.of_wr W1082).1
  have c1084 := c1073.wr W1082
  have c1085 := c1074.other W1082 (Or.inr (own_sn_156 hw))
  have c1086 := c1075.other W1082 (Or.inr (own_sn_157 hw))
  have c1088 := c1077.other W1082 (Or.inr (own_sn_158 hw))
  have c1089 := c1079.other W1082 (Ne.symm n11062)
  have c1090 := c1080.other W1082 (Ne.symm n21062)
  have c1091 := Fw1071.other W1082 (Or.inr (own_sn_159 hw))
  obtain ⟨T1092, X1092, e1092, st1092⟩ := getF X1082 hx hZ hown (host := "") (Or.inl (own_w hw 24 rfl)) Via.refl e1082 Fw1082 (g := (mkF m 1 #[.val (.ref a1), .val (.long q2), .second] [(.ref a1)])) rfl rfl (hb hby d13_1)
  obtain ⟨T1093, X1093, e1093, st1093⟩ := getF X1092 hx hZ hown (host := "") (Or.inl (own_w hw 26 rfl)) Via.refl e1092 c1088 (g := (mkF m 5 #[.val (.ref a1), .val (.long q2), .second] [(.ref a1), (.int (1 : Int32))])) rfl rfl (hb hby d13_5)
  obtain ⟨T1094, X1094, e1094, st1094⟩ := getF X1093 hx hZ hown (host := "") (Or.inl (own_w hw 14 rfl)) Via.refl e1093 c1085 (g := (mkF m 12 #[.val (.ref a1), .val (.long q2), .second] [(.ref a1)])) rfl rfl (hb hby d13_12)
  obtain ⟨T1095, X1095, e1095, st1095⟩ := getF X1094 hx hZ hown (host := "") (Or.inl (own_w hw 24 rfl)) Via.refl e1094 Fw1082 (g := (mkF m 16 #[.val (.ref a1), .val (.long q2), .second] [(.ref a1), (.ref am1062)])) rfl rfl (hb hby d13_16)
  obtain ⟨cl1096, A1096, q1096, S1096, M1096, H1096, J1096⟩ := id c1089
  have hin1096 : ¬ ((1 : Int32) < 0 ∨ cl1096.slots.size ≤ ((1 : Int32)).toNatClampNeg) := inb_of S1096 ⟨by decide, by decide⟩
  have hat1096 : cl1096.slots[((1 : Int32)).toNatClampNeg]? = some (.long x1) := H1096.at hin1096 rfl
  obtain ⟨T1097, X1097, e1097, st1097⟩ := getF X1095 hx hZ hown (host := "") (Or.inl (own_w hw 17 rfl)) Via.refl e1095 c1086 (g := (mkF m 27 #[.val (.ref a1), .val (.long q2), .second] [(.ref a1), (.ref a1)])) rfl rfl (hb hby d13_27)
  obtain ⟨T1098, X1098, e1098, st1098⟩ := getF X1097 hx hZ hown (host := "") (Or.inl (own_w hw 24 rfl)) Via.refl e1097 Fw1082 (g := (mkF m 31 #[.val (.ref a1), .val (.long q2), .second] [(.ref a1), (.ref ac1062), (.ref a1)])) rfl rfl (hb hby d13_31)
  obtain ⟨cl1099, A1099, q1099, S1099, M1099, H1099, J1099⟩ := id c1090
  have hin1099 : ¬ ((1 : Int32) < 0 ∨ cl1099.slots.size ≤ ((1 : Int32)).toNatClampNeg) := inb_of S1099 ⟨by decide, by decide⟩
  have hat1099 : cl1099.slots[((1 : Int32)).toNatClampNeg]? = some (.int y1) := H1099.at hin1099 rfl
  obtain ⟨T1100, h1100, X1100, e1100, W1100, st1100⟩ := putF X1098 hx hZ hown (host := "") (Or.inl (own_w hw 33 rfl)) Via.refl e1098 c1091 c1084 (Or.inl (own_w hw 34 rfl)) (own_w hw 5 rfl) (ty := .int) (by decide) rfl rfl (g := (mkF m 35 #[.val (.ref a1), .val (.long q2), .second] [(.int y1), (.ref a1)])) rfl rfl (hb hby d13_35)
  have Fw1100 := c1091.same W1100
  have N1100 := Fr.snoc X1100 N1082 Ga1062
  have z1101 : n0 ≤ h1100.size := Nat.le_trans z1083 (Keep.of_wr W1100).1
  have c1102 := c1084.wr W1100
  have c1103 := c1085.other W1100 (Or.inr (own_sn_65 hw))
  have c1104 := c1086.other W1100 (Or.inr (own_sn_66 hw))
  have c1105 := c1088.other W1100 (Or.inr (own_sn_68 hw))
  have c1106 := c1089.other W1100 (Ne.symm n11062)
  have c1107 := c1090.other W1100 (Ne.symm n21062)
  have c1109 := Fw1082.other W1100 (Or.inr (own_sn_67 hw))
  obtain ⟨T1110, X1110, e1110, st1110⟩ := getF X1100 hx hZ hown (host := "") (Or.inl (own_w hw 24 rfl)) Via.refl e1100 c1109 (g := (mkF m 40 #[.val (.ref a1), .val (.long q2), .second] [(.ref a1), (.ref a1)])) rfl rfl (hb hby d13_40)
  obtain ⟨T1111, h1111, X1111, e1111, W1111, st1111⟩ := putF X1110 hx hZ hown (host := "") (Or.inl (own_w hw 24 rfl)) Via.refl e1110 c1109 c1102 (Or.inl (own_w hw 25 rfl)) (own_w hw 5 rfl) (ty := .int) (by decide) rfl rfl (g := (mkF m 45 #[.val (.ref a1), .val (.long q2), .second] [(.int (2 : Int32)), (.ref a1)])) rfl rfl (hb hby d13_45)
  have Fw1111 := c1109.same W1111
  have N1111 := Fr.snoc X1111 N1100 Ga1062
  have z1112 : n0 ≤ h1111.size := Nat.le_trans z1101 (Keep.of_wr W1111).1
  have c1113 := c1102.wr W1111
  have c1114 := c1103.other W1111 (Or.inr (own_sn_156 hw))
  have c1115 := c1104.other W1111 (Or.inr (own_sn_157 hw))
  have c1116 := c1105.other W1111 (Or.inr (own_sn_158 hw))
  have c1117 := c1106.other W1111 (Ne.symm n11062)
  have c1118 := c1107.other W1111 (Ne.symm n21062)
  have c1120 := Fw1100.other W1111 (Or.inr (own_sn_159 hw))
  obtain ⟨T1121, X1121, e1121, st1121⟩ := getF X1111 hx hZ hown (host := "") (Or.inl (own_w hw 24 rfl)) Via.refl e1111 Fw1111 (g := (mkF m 1 #[.val (.ref a1), .val (.long q2), .second] [(.ref a1)])) rfl rfl (hb hby d13_1)
  obtain ⟨T1122, X1122, e1122, st1122⟩ := getF X1121 hx hZ hown (host := "") (Or.inl (own_w hw 26 rfl)) Via.refl e1121 c1116 (g := (mkF m 5 #[.val (.ref a1), .val (.long q2), .second] [(.ref a1), (.int (2 : Int32))])) rfl rfl (hb hby d13_5)
  obtain ⟨T1123, X1123, e1123, st1123⟩ := getF X1122 hx hZ hown (host := "") (Or.inl (own_w hw 14 rfl)) Via.refl e1122 c1114 (g := (mkF m 12 #[.val (.ref a1), .val (.long q2), .second] [(.ref a1)])) rfl rfl (hb hby d13_12)
  obtain ⟨T1124, X1124, e1124, st1124⟩ := getF X1123 hx hZ hown (host := "") (Or.inl (own_w hw 24 rfl)) Via.refl e1123 Fw1111 (g := (mkF m 16 #[.val (.ref a1), .val (.long q2), .second] [(.ref a1), (.ref am1062)])) rfl rfl (hb hby d13_16)
  obtain ⟨cl1125, A1125, q1125, S1125, M1125, H1125, J1125⟩ := id c1117
  have hin1125 : ¬ ((2 : Int32) < 0 ∨ cl1125.slots.size ≤ ((2 : Int32)).toNatClampNeg) := inb_of S1125 ⟨by decide, by decide⟩
  have hat1125 : cl1125.slots[((2 : Int32)).toNatClampNeg]? = some (.long x2) := H1125.at hin1125 rfl
  obtain ⟨T1126, X1126, e1126, st1126⟩ := getF X1124 hx hZ hown (host := "") (Or.inl (own_w hw 17 rfl)) Via.refl e1124 c1115 (g := (mkF m 27 #[.val (.ref a1), .val (.long q2), .second] [(.ref a1), (.ref a1)])) rfl rfl (hb hby d13_27)
  obtain ⟨T1127, X1127, e1127, st1127⟩ := getF X1126 hx hZ hown (host := "") (Or.inl (own_w hw 24 rfl)) Via.refl e1126 Fw1111 (g := (mkF m 31 #[.val (.ref a1), .val (.long q2), .second] [(.ref a1), (.ref ac1062), (.ref a1)])) rfl rfl (hb hby d13_31)
  obtain ⟨cl1128, A1128, q1128, S1128, M1128, H1128, J1128⟩ := id c1118
  have hin1128 : ¬ ((2 : Int32) < 0 ∨ cl1128.slots.size ≤ ((2 : Int32)).toNatClampNeg) := inb_of S1128 ⟨by decide, by decide⟩
  have hat1128 : cl1128.slots[((2 : Int32)).toNatClampNeg]? = some (.int y2) := H1128.at hin1128 rfl
  obtain ⟨T1129, h1129, X1129, e1129, W1129, st1129⟩ := putF X1127 hx hZ hown (host := "") (Or.inl (own_w hw 33 rfl)) Via.refl e1127 c1120 c1113 (Or.inl (own_w hw 34 rfl)) (own_w hw 5 rfl) (ty := .int) (by decide) rfl rfl (g := (mkF m 35 #[.val (.ref a1), .val (.long q2), .second] [(.int y2), (.ref a1)])) rfl rfl (hb hby d13_35)
  have Fw1129 := c1120.same W1129
  have N1129 := Fr.snoc X1129 N1111 Ga1062
  have z1130 : n0 ≤ h1129.size := Nat.le_trans z1112 (Keep.of_wr W1129).1
  have c1131 := c1113.wr W1129
  have c1132 := c1114.other W1129 (Or.inr (own_sn_65 hw))
  have c1133 := c1115.other W1129 (Or.inr (own_sn_66 hw))
  have c1134 := c1116.other W1129 (Or.inr (own_sn_68 hw))
  have c1135 := c1117.other W1129 (Ne.symm n11062)
  have c1136 := c1118.other W1129 (Ne.symm n21062)
  have c1138 := Fw1111.other W1129 (Or.inr (own_sn_67 hw))
  obtain ⟨T1139, X1139, e1139, st1139⟩ := getF X1129 hx hZ hown (host := "") (Or.inl (own_w hw 24 rfl)) Via.refl e1129 c1138 (g := (mkF m 40 #[.val (.ref a1), .val (.long q2), .second] [(.ref a1), (.ref a1)])) rfl rfl (hb hby d13_40)
  obtain ⟨T1140, h1140, X1140, e1140, W1140, st1140⟩ := putF X1139 hx hZ hown (host := "") (Or.inl (own_w hw 24 rfl)) Via.refl e1139 c1138 c1131 (Or.inl (own_w hw 25 rfl)) (own_w hw 5 rfl) (ty := .int) (by decide) rfl rfl (g := (mkF m 45 #[.val (.ref a1), .val (.long q2), .second] [(.int (3 : Int32)), (.ref a1)])) rfl rfl (hb hby d13_45)
  have Fw1140 := c1138.same W1140
  have N1140 := Fr.snoc X1140 N1129 Ga1062
  have z1141 : n0 ≤ h1140.size := Nat.le_trans z1130 (Keep.of_wr W1140).1
  have c1142 := c1131.wr W1140
  have c1143 := c1132.other W1140 (Or.inr (own_sn_156 hw))
  have c1144 := c1133.other W1140 (Or.inr (own_sn_157 hw))
  have c1145 := c1134.other W1140 (Or.inr (own_sn_158 hw))
  have c1146 := c1135.other W1140 (Ne.symm n11062)
  have c1147 := c1136.other W1140 (Ne.symm n21062)
  have c1149 := Fw1129.other W1140 (Or.inr (own_sn_159 hw))
  obtain ⟨T1150, X1150, e1150, st1150⟩ := getF X1140 hx hZ hown (host := "") (Or.inl (own_w hw 24 rfl)) Via.refl e1140 Fw1140 (g := (mkF m 1 #[.val (.ref a1), .val (.long q2), .second] [(.ref a1)])) rfl rfl (hb hby d13_1)
  obtain ⟨T1151, X1151, e1151, st1151⟩ := getF X1150 hx hZ hown (host := "") (Or.inl (own_w hw 26 rfl)) Via.refl e1150 c1145 (g := (mkF m 5 #[.val (.ref a1), .val (.long q2), .second] [(.ref a1), (.int (3 : Int32))])) rfl rfl (hb hby d13_5)
  have pre1152 : ∀ t, Steps p.tables e below (T1151.setTop (mkF m 51 #[.val (.ref a1), .val (.long q2), .second] [])) t → Steps p.tables e below (s₁.setTop (entryFrame m #[(.ref a1), (.long q2)] 3)) t := fun t kt => pre0 t (by
    show Steps p.tables e below (s₁.setTop (mkF m 0 #[.val (.ref a1), .val (.long q2), .second] [])) _
    refine XS.aloadN X0.here hx rfl (hb hby d13_0) rfl rfl ?_
    refine st1063 _ ?_
    refine XS.aloadN X1063.here hx rfl (hb hby d13_4) rfl rfl ?_
    refine st1064 _ ?_
    refine XS.icmpNo X1064.here hx rfl (hb hby d13_8) rfl (tlt (by decide : (0 : Int32) < (3 : Int32))).2.1 ?_
    refine XS.aloadN X1064.here hx rfl (hb hby d13_11) rfl rfl ?_
    refine st1065 _ ?_
    refine XS.aloadN X1065.here hx rfl (hb hby d13_15) rfl rfl ?_
    refine st1066 _ ?_
    refine X1066.laload hx (j := (0 : Int32)) (v := (.long x0)) (by rw [e1066]; exact A1067.1) (State.isArrayOf_alike hZ.alike A1067.2.1) A1067.2.2 hin1067 hat1067 (g := (mkF m 19 #[.val (.ref a1), .val (.long q2), .second] [(.int (0 : Int32)), (.ref am1062)])) rfl rfl (hb hby d13_19) _ ?_
    refine XS.lloadN X1066.here hx rfl (hb hby d13_20) rfl ?_
    refine XS.lcmp X1066.here hx rfl (hb hby d13_21) rfl ?_
    show Steps p.tables e below (T1066.setTop (mkF m 22 #[.val (.ref a1), .val (.long q2), .second] [(.int (lcmpW x0 q2))])) _
    refine XS.ifNo X1066.here hx rfl (hb hby d13_22) rfl ((if0 _ _).trans (tlt ((lw_lt _ _).mpr c0)).2.1) ?_
    refine XS.aloadN X1066.here hx rfl (hb hby d13_25) rfl rfl ?_
    refine XS.aloadN X1066.here hx rfl (hb hby d13_26) rfl rfl ?_
    refine st1068 _ ?_
    refine XS.aloadN X1068.here hx rfl (hb hby d13_30) rfl rfl ?_
    refine st1069 _ ?_
    refine X1069.iaload hx (j := (0 : Int32)) (v := (.int y0)) (by rw [e1069]; exact A1070.1) (State.isArrayOf_alike hZ.alike A1070.2.1) A1070.2.2 hin1070 hat1070 (g := (mkF m 34 #[.val (.ref a1), .val (.long q2), .second] [(.int (0 : Int32)), (.ref ac1062), (.ref a1)])) rfl rfl (hb hby d13_34) _ ?_
    refine st1071 _ ?_
    refine XS.aloadN X1071.here hx rfl (hb hby d13_38) rfl rfl ?_
    refine XS.dup X1071.here hx rfl (hb hby d13_39) rfl rfl ?_
    refine st1081 _ ?_
    refine XS.iconst X1081.here hx rfl (hb hby d13_43) ?_
    show Steps p.tables e below (T1081.setTop (mkF m 44 #[.val (.ref a1), .val (.long q2), .second] [(.int (1 : Int32)), (.int (0 : Int32)), (.ref a1)])) _
    refine XS.iadd X1081.here hx rfl (hb hby d13_44) rfl ?_
    refine st1082 _ ?_
    refine XS.goto X1082.here hx rfl (pc0 := 48) (pc' := 0) rfl (hb hby d13_48) (by decide) (by decide) ?_
    refine XS.aloadN X1082.here hx rfl (hb hby d13_0) rfl rfl ?_
    refine st1092 _ ?_
    refine XS.aloadN X1092.here hx rfl (hb hby d13_4) rfl rfl ?_
    refine st1093 _ ?_
    refine XS.icmpNo X1093.here hx rfl (hb hby d13_8) rfl (tlt (by decide : (1 : Int32) < (3 : Int32))).2.1 ?_
    refine XS.aloadN X1093.here hx rfl (hb hby d13_11) rfl rfl ?_
    refine st1094 _ ?_
    refine XS.aloadN X1094.here hx rfl (hb hby d13_15) rfl rfl ?_
    refine st1095 _ ?_
    show Steps p.tables e below (T1095.setTop (mkF m 19 #[.val (.ref a1), .val (.long q2), .second] [(.int (1 : Int32)), (.ref am1062)])) _
    refine X1095.laload hx (j := (1 : Int32)) (v := (.long x1)) (by rw [e1095]; exact A1096.1) (State.isArrayOf_alike hZ.alike A1096.2.1) A1096.2.2 hin1096 hat1096 (g := (mkF m 19 #[.val (.ref a1), .val (.long q2), .second] [(.int (1 : Int32)), (.ref am1062)])) rfl rfl (hb hby d13_19) _ ?_
    refine XS.lloadN X1095.here hx rfl (hb hby d13_20) rfl ?_
    refine XS.lcmp X1095.here hx rfl (hb hby d13_21) rfl ?_
    refine XS.ifNo X1095.here hx rfl (hb hby d13_22) rfl ((if0 _ _).trans (tlt ((lw_lt _ _).mpr c1)).2.1) ?_
    refine XS.aloadN X1095.here hx rfl (hb hby d13_25) rfl rfl ?_
    refine XS.aloadN X1095.here hx rfl (hb hby d13_26) rfl rfl ?_
    refine st1097 _ ?_
    refine XS.aloadN X1097.here hx rfl (hb hby d13_30) rfl rfl ?_
    refine st1098 _ ?_
    refine X1098.iaload hx (j := (1 : Int32)) (v := (.int y1)) (by rw [e1098]; exact A1099.1) (State.isArrayOf_alike hZ.alike A1099.2.1) A1099.2.2 hin1099 hat1099 (g := (mkF m 34 #[.val (.ref a1), .val (.long q2), .second] [(.int (1 : Int32)), (.ref ac1062), (.ref a1)])) rfl rfl (hb hby d13_34) _ ?_
    refine st1100 _ ?_
    refine XS.aloadN X1100.here hx rfl (hb hby d13_38) rfl rfl ?_
    show Steps p.tables e below (T1100.setTop (mkF m 39 #[.val (.ref a1), .val (.long q2), .second] [(.ref a1)])) _
    refine XS.dup X1100.here hx rfl (hb hby d13_39) rfl rfl ?_
    refine st1110 _ ?_
    refine XS.iconst X1110.here hx rfl (hb hby d13_43) ?_
    refine XS.iadd X1110.here hx rfl (hb hby d13_44) rfl ?_
    refine st1111 _ ?_
    refine XS.goto X1111.here hx rfl (pc0 := 48) (pc' := 0) rfl (hb hby d13_48) (by decide) (by decide) ?_
    refine XS.aloadN X1111.here hx rfl (hb hby d13_0) rfl rfl ?_
    refine st1121 _ ?_
    refine XS.aloadN X1121.here hx rfl (hb hby d13_4) rfl rfl ?_
    refine st1122 _ ?_
    refine XS.icmpNo X1122.here hx rfl (hb hby d13_8) rfl (tlt (by decide : (2 : Int32) < (3 : Int32))).2.1 ?_
    refine XS.aloadN X1122.here hx rfl (hb hby d13_11) rfl rfl ?_
    show Steps p.tables e below (T1122.setTop (mkF m 12 #[.val (.ref a1), .val (.long q2), .second] [(.ref a1)])) _
    refine st1123 _ ?_
    refine XS.aloadN X1123.here hx rfl (hb hby d13_15) rfl rfl ?_
    refine st1124 _ ?_
    refine X1124.laload hx (j := (2 : Int32)) (v := (.long x2)) (by rw [e1124]; exact A1125.1) (State.isArrayOf_alike hZ.alike A1125.2.1) A1125.2.2 hin1125 hat1125 (g := (mkF m 19 #[.val (.ref a1), .val (.long q2), .second] [(.int (2 : Int32)), (.ref am1062)])) rfl rfl (hb hby d13_19) _ ?_
    refine XS.lloadN X1124.here hx rfl (hb hby d13_20) rfl ?_
    refine XS.lcmp X1124.here hx rfl (hb hby d13_21) rfl ?_
    refine XS.ifNo X1124.here hx rfl (hb hby d13_22) rfl ((if0 _ _).trans (tlt ((lw_lt _ _).mpr c2)).2.1) ?_
    refine XS.aloadN X1124.here hx rfl (hb hby d13_25) rfl rfl ?_
    refine XS.aloadN X1124.here hx rfl (hb hby d13_26) rfl rfl ?_
    refine st1126 _ ?_
    refine XS.aloadN X1126.here hx rfl (hb hby d13_30) rfl rfl ?_
    refine st1127 _ ?_
    show Steps p.tables e below (T1127.setTop (mkF m 34 #[.val (.ref a1), .val (.long q2), .second] [(.int (2 : Int32)), (.ref ac1062), (.ref a1)])) _
    refine X1127.iaload hx (j := (2 : Int32)) (v := (.int y2)) (by rw [e1127]; exact A1128.1) (State.isArrayOf_alike hZ.alike A1128.2.1) A1128.2.2 hin1128 hat1128 (g := (mkF m 34 #[.val (.ref a1), .val (.long q2), .second] [(.int (2 : Int32)), (.ref ac1062), (.ref a1)])) rfl rfl (hb hby d13_34) _ ?_
    refine st1129 _ ?_
    refine XS.aloadN X1129.here hx rfl (hb hby d13_38) rfl rfl ?_
    refine XS.dup X1129.here hx rfl (hb hby d13_39) rfl rfl ?_
    refine st1139 _ ?_
    refine XS.iconst X1139.here hx rfl (hb hby d13_43) ?_
    refine XS.iadd X1139.here hx rfl (hb hby d13_44) rfl ?_
    refine st1140 _ ?_
    refine XS.goto X1140.here hx rfl (pc0 := 48) (pc' := 0) rfl (hb hby d13_48) (by decide) (by decide) ?_
    refine XS.aloadN X1140.here hx rfl (hb hby d13_0) rfl rfl ?_
    refine st1150 _ ?_
    refine XS.aloadN X1150.here hx rfl (hb hby d13_4) rfl rfl ?_
    show Steps p.tables e below (T1150.setTop (mkF m 5 #[.val (.ref a1), .val (.long q2), .second] [(.ref a1), (.int (3 : Int32))])) _
    refine st1151 _ ?_
    refine XS.icmpYes X1151.here hx rfl (pc0 := 8) (pc' := 51) rfl (hb hby d13_8) rfl (flt (by decide : ¬ ((3 : Int32) < (3 : Int32)))).2.1 (by decide) (by decide) ?_
    exact kt)
  have hz : h0.size ≤ h1140.size := Nat.le_trans (Nat.le_trans (Nat.le_trans (Nat.le_trans (Nat.le_trans (Nat.le_trans (Nat.le_refl _) (Keep.of_wr W1071).1) (Keep.of_wr W1082).1) (Keep.of_wr W1100).1) (Keep.of_wr W1111).1) (Keep.of_wr W1129).1) (Keep.of_wr W1140).1
  have hQ : QFgt034_3 Z a1 q2 x0 x1 x2 x3 y0 y1 y2 y3 b h0 n0 none h1140 _ := ⟨rfl, N1140, hz, ⟨am1062, ac1062, km1062, kc1062, c1142, c1143, c1144, Fw1140, c1145, c1149, c1146, c1147, Ga1062, Gm1062, Gc1062, n11062, n21062, n31062⟩⟩
  exact own_retV X1151 hx Bd.notSynchronized Bd.returns (hb hby d13_51) pre1152 (show QFgt034_3 Z a1 q2 x0 x1 x2 x3 y0 y1 y2 y3 b h0 n0 _ _ _ from (by rw [e1151]; exact hQ)) (by decide) (by decide)
def QCnt334a (Z : State) (a1 : Addr) (q2 : Int64) (p4 p5 : Int32) (x0 : Int64) (x1 : Int64) (x2 : Int64) (x3 : Int64) (y0 : Int32) (y1 : Int32) (y2 : Int32) (y3 : Int32) (b : Int32) (h0 : Heap) (n0 : Nat) (v : Option Value) (h : Heap) (L : List Loc) : Prop := v = none ∧ Fr n0 L ∧ h0.size ≤ h.size ∧ PT Z h n0 a1 (3 : Int32) (4 : Int32) (4 : Int32) [(.long x0), (.long x1), (.long x2), (.long q2)] [(.int y0), (.int y1), (.int y2), (.int p4)] (if p5 = (0 : Int32) then (p4 + (1 : Int32)) else (p4 - (1 : Int32)))
set_option maxRecDepth 65536 in
set_option maxHeartbeats 40000000 in
theorem rmCnt334a (l : Launch) (Z : State) (a0 : Array Value) (hw : ∀ d ∈ tables_1, d.before a0 Z = true) (ws : List Jvm.Cond) (a1 : Addr) (q2 : Int64) (p4 p5 : Int32) (x0 : Int64) (x1 : Int64) (x2 : Int64) (x3 : Int64) (y0 : Int32) (y1 : Int32) (y2 : Int32) (y3 : Int32) (b : Int32) (h0 : Heap) (n0 : Nat) (Z0 : n0 ≤ h0.size) (P0 : PT Z h0 n0 a1 (3 : Int32) (3 : Int32) (4 : Int32) [(.long x0), (.long x1), (.long x2), (.long x3)] [(.int y0), (.int y1), (.int y2), (.int y3)] b) :
    MetFree l own_y_103 (head1 (Jvm.Cond.code own_y_103 prog_25_method_2_code 5 none :: ws) ({ frames := 0, cells := 0, slots := 0, locals := 0 } : Room)) (fun a U => a = #[(.ref a1), (.long q2), (.int p4), (.int p5)] ∧ Z.Warmed39 U.vm ∧ U.heap = h0) (fun _ _ _ _ _ => True) (fun _ U o U' => ∃ v L, o = .returned v ∧ QCnt334a Z a1 q2 p4 p5 x0 x1 x2 x3 y0 y1 y2 y3 b h0 n0  v U'.heap L ∧ FrameEnd U o U' L ({ frames := 0, cells := 0, slots := 0, locals := 0 } : Room).cells ({ frames := 0, cells := 0, slots := 0, locals := 0 } : Room).slots) := by
  refine MetFree.of_bodySF (plainFor_of_name pn_2) hisR ?_
  intro p e s m args below meth c s₁ Bd hml0 hP hK
  obtain ⟨rfl, hZ, hh⟩ := hP
  have hx := Bd.exec
  have hby := Bd.bytes
  have hml : c.maxLocals = 5 := hml0
  have hown : s.vm.findClass "com/example/viral_counter/viralcounter/PostTrend" = some m.cls := findClass_of_methodNamed Bd.named
  have hnm := (name_of_methodNamed Bd.named Bd.method).1
  have X0 : Stand p l e ({ frames := 0, cells := 0, slots := 0, locals := 0 } : Room) s m #[(.ref a1), (.long q2), (.int p4), (.int p5)] below meth c s₁ [] 0 0 := Stand.of_body Bd
  have e0 : s₁.heap = h0 := by rw [← hh, Bd.state]; rfl
  have N0 := Fr.nil n0
  have pre0 : ∀ t, Steps p.tables e below (s₁.setTop (mkF m 0 #[.val (.ref a1), .val (.long q2), .second, .val (.int p4), .val (.int p5)] [])) t → Steps p.tables e below (s₁.setTop (entryFrame m #[(.ref a1), (.long q2), (.int p4), (.int p5)] 5)) t := fun t k => castTop (ef_104 m a1 q2 p4 p5) k
  obtain ⟨am1160, ac1160, km1160, kc1160, E1160, Fm1160, Fc1160, Ff1160, Fe1160, Fb1160, Vm1160, Vc1160, Ga1160, Gm1160, Gc1160, n11160, n21160, n31160⟩ := id P0
  obtain ⟨T1161, X1161, e1161, st1161⟩ := getF X0 hx hZ hown (host := "") (Or.inl (own_w hw 24 rfl)) Via.refl e0 Ff1160 (g := (mkF m 1 #[.val (.ref a1), .val (.long q2), .second, .val (.int p4), .val (.int p5)] [(.ref a1)])) rfl rfl (hb hby d5_1)
  obtain ⟨T1162, X1162, e1162, st1162⟩ := getF X1161 hx hZ hown (host := "") (Or.inl (own_w hw 26 rfl)) Via.refl e1161 Fe1160 (g := (mkF m 5 #[.val (.ref a1), .val (.long q2), .second, .val (.int p4), .val (.int p5)] [(.ref a1), (.int (3 : Int32))])) rfl rfl (hb hby d5_5)
  have pre1163 : ∀ t, Steps p.tables e below (T1162.setTop (mkF m 14 #[.val (.ref a1), .val (.long q2), .second, .val (.int p4), .val (.int p5)] [(.int p5), (.ref a1)])) t → Steps p.tables e below (s₁.setTop (entryFrame m #[(.ref a1), (.long q2), (.int p4), (.int p5)] 5)) t := fun t kt => pre0 t (by
    show Steps p.tables e below (s₁.setTop (mkF m 0 #[.val (.ref a1), .val (.long q2), .second, .val (.int p4), .val (.int p5)] [])) _
    refine XS.aloadN X0.here hx rfl (hb hby d5_0) rfl rfl ?_
    refine st1161 _ ?_
    refine XS.aloadN X1161.here hx rfl (hb hby d5_4) rfl rfl ?_
    refine st1162 _ ?_
    refine XS.icmpNo X1162.here hx rfl (hb hby d5_8) rfl (teq (by decide : (3 : Int32) = (3 : Int32))).2 ?_
    refine XS.aloadN X1162.here hx rfl (hb hby d5_11) rfl rfl ?_
    refine XS.iload X1162.here hx rfl (hb hby d5_12) rfl ?_
    exact kt)
  obtain ⟨bb, hbb⟩ : ∃ z : Int32, z = (if p5 = (0 : Int32) then (p4 + (1 : Int32)) else (p4 - (1 : Int32))) := ⟨_, rfl⟩
  have pre1165 : ∀ t, Steps p.tables e below (T1162.setTop (mkF m 26 #[.val (.ref a1), .val (.long q2), .second, .val (.int p4), .val (.int p5)] [(.int bb), (.ref a1)])) t → Steps p.tables e below (s₁.setTop (entryFrame m #[(.ref a1), (.long q2), (.int p4), (.int p5)] 5)) t := fun t kt => pre1163 t (by
    by_cases hc1164 : p5 = (0 : Int32)
    case pos =>
      show Steps p.tables e below (T1162.setTop (mkF m 14 #[.val (.ref a1), .val (.long q2), .second, .val (.int p4), .val (.int p5)] [(.int p5), (.ref a1)])) _
      refine XS.ifYes X1162.here hx rfl (pc0 := 14) (pc' := 23) rfl (hb hby d5_14) rfl ((if0 _ _).trans (teq hc1164).1) (by decide) (by decide) ?_
      refine XS.iloadN X1162.here hx rfl (hb hby d5_23) rfl ?_
      refine XS.iconst X1162.here hx rfl (hb hby d5_24) ?_
      refine XS.iadd X1162.here hx rfl (hb hby d5_25) rfl ?_
      rw [show bb = (p4 + (1 : Int32)) from (hbb.trans (if_pos hc1164))] at kt
      exact kt
    case neg =>
      show Steps p.tables e below (T1162.setTop (mkF m 14 #[.val (.ref a1), .val (.long q2), .second, .val (.int p4), .val (.int p5)] [(.int p5), (.ref a1)])) _
      refine XS.ifNo X1162.here hx rfl (hb hby d5_14) rfl ((if0 _ _).trans (feq hc1164).1) ?_
      refine XS.iloadN X1162.here hx rfl (hb hby d5_17) rfl ?_
      refine XS.iconst X1162.here hx rfl (hb hby d5_18) ?_
      refine XS.isub X1162.here hx rfl (hb hby d5_19) rfl ?_
      refine XS.goto X1162.here hx rfl (pc0 := 20) (pc' := 26) rfl (hb hby d5_20) (by decide) (by decide) ?_
      rw [show bb = (p4 - (1 : Int32)) from (hbb.trans (if_neg hc1164))] at kt
      exact kt)
  obtain ⟨T1166, h1166, X1166, e1166, W1166, st1166⟩ := putF X1162 hx hZ hown (host := "") (Or.inl (own_w hw 33 rfl)) Via.refl e1162 Fb1160 E1160 (Or.inl (own_w hw 34 rfl)) (own_w hw 5 rfl) (ty := .int) (by decide) rfl rfl (g := (mkF m 26 #[.val (.ref a1), .val (.long q2), .second, .val (.int p4), .val (.int p5)] [(.int bb), (.ref a1)])) rfl rfl (hb hby d5_26)
  have Fw1166 := Fb1160.same W1166
  have N1166 := Fr.snoc X1166 N0 Ga1160
  have z1167 : n0 ≤ h1166.size := Nat.le_trans Z0 (Keep.of_wr W1166).1
  have c1168 := E1160.wr W1166
  have c1169 := Fm1160.other W1166 (Or.inr (own_sn_65 hw))
  have c1170 := Fc1160.other W1166 (Or.inr (own_sn_66 hw))
  have c1171 := Ff1160.other W1166 (Or.inr (own_sn_67 hw))
  have c1172 := Fe1160.other W1166 (Or.inr (own_sn_68 hw))
  have c1174 := Vm1160.other W1166 (Ne.symm n11160)
  have c1175 := Vc1160.other W1166 (Ne.symm n21160)
  obtain ⟨T1176, X1176, e1176, st1176⟩ := getF X1166 hx hZ hown (host := "") (Or.inl (own_w hw 24 rfl)) Via.refl e1166 c1171 (g := (mkF m 30 #[.val (.ref a1), .val (.long q2), .second, .val (.int p4), .val (.int p5)] [(.ref a1)])) rfl rfl (hb hby d5_30)
  obtain ⟨T1177, X1177, e1177, st1177⟩ := getF X1176 hx hZ hown (host := "") (Or.inl (own_w hw 26 rfl)) Via.refl e1176 c1172 (g := (mkF m 34 #[.val (.ref a1), .val (.long q2), .second, .val (.int p4), .val (.int p5)] [(.ref a1), (.int (3 : Int32))])) rfl rfl (hb hby d5_34)
  obtain ⟨T1178, X1178, e1178, st1178⟩ := getF X1177 hx hZ hown (host := "") (Or.inl (own_w hw 26 rfl)) Via.refl e1177 c1172 (g := (mkF m 72 #[.val (.ref a1), .val (.long q2), .second, .val (.int p4), .val (.int p5)] [(.ref a1)])) rfl rfl (hb hby d5_72)
  obtain ⟨T1179, X1179, e1179, st1179⟩ := getF X1178 hx hZ hown (host := "") (Or.inl (own_w hw 14 rfl)) Via.refl e1178 c1169 (g := (mkF m 76 #[.val (.ref a1), .val (.long q2), .second, .val (.int p4), .val (.int p5)] [(.ref a1), (.int (3 : Int32))])) rfl rfl (hb hby d5_76)
  obtain ⟨cl1180, A1180, q1180, S1180, M1180, H1180, J1180⟩ := id c1174
  obtain ⟨T1181, X1181, e1181, st1181⟩ := getF X1179 hx hZ hown (host := "") (Or.inl (own_w hw 14 rfl)) Via.refl e1179 c1169 (g := (mkF m 88 #[.val (.ref a1), .val (.long q2), .second, .val (.int p4), .val (.int p5)] [(.ref a1)])) rfl rfl (hb hby d5_88)
  obtain ⟨T1182, X1182, e1182, st1182⟩ := getF X1181 hx hZ hown (host := "") (Or.inl (own_w hw 26 rfl)) Via.refl e1181 c1172 (g := (mkF m 92 #[.val (.ref a1), .val (.long q2), .second, .val (.int p4), .val (.int p5)] [(.ref a1), (.ref am1160)])) rfl rfl (hb hby d5_92)
  obtain ⟨cl1183, Ar1183, q1183, S1183, M1183, H1183, J1183⟩ := id c1174
  have hin1183 : ¬ ((3 : Int32) < 0 ∨ cl1183.slots.size ≤ ((3 : Int32)).toNatClampNeg) := inb_of S1183 ⟨by decide, by decide⟩
  obtain ⟨T1184, h1184, X1184, e1184, W1184, st1184⟩ := stJ X1182 hx hZ e1182 Ar1183 (j := (3 : Int32)) hin1183 (g := (mkF m 96 #[.val (.ref a1), .val (.long q2), .second, .val (.int p4), .val (.int p5)] [(.long q2), (.int (3 : Int32)), (.ref am1160)])) rfl rfl (hb hby d5_96)
  have V1184 : Arv Z h1184 am1160 km1160 .long (4 : Int32) [(.long x0), (.long x1), (.long x2), (.long q2)] (.long (0 : Int64)) := Arv.set Ar1183 q1183 S1183 M1183 H1183 J1183 rfl W1184 3 rfl (Nat.le_of_ble_eq_true rfl)
  have N1184 := Fr.snoc X1184 N1166 Gm1160
  have z1185 : n0 ≤ h1184.size := Nat.le_trans z1167 (Keep.of_wr W1184).1
  have c1186 := c1168.wr W1184
  have c1187 := c1169.other W1184 (Or.inl n11160)
  have c1188 := c1170.other W1184 (Or.inl n11160)
  have c1189 := c1171.other W1184 (Or.inl n11160)
  have c1190 := c1172.other W1184 (Or.inl n11160)
  have c1192 := c1175.other W1184 (Ne.symm n31160)
  have c1193 := Fw1166.other W1184 (Or.inl n11160)
  obtain ⟨T1194, X1194, e1194, st1194⟩ := getF X1184 hx hZ hown (host := "") (Or.inl (own_w hw 17 rfl)) Via.refl e1184 c1188 (g := (mkF m 98 #[.val (.ref a1), .val (.long q2), .second, .val (.int p4), .val (.int p5)] [(.ref a1)])) rfl rfl (hb hby d5_98)
  obtain ⟨T1195, X1195, e1195, st1195⟩ := getF X1194 hx hZ hown (host := "") (Or.inl (own_w hw 26 rfl)) Via.refl e1194 c1190 (g := (mkF m 102 #[.val (.ref a1), .val (.long q2), .second, .val (.int p4), .val (.int p5)] [(.ref a1), (.ref ac1160)])) rfl rfl (hb hby d5_102)
  obtain ⟨cl1196, Ar1196, q1196, S1196, M1196, H1196, J1196⟩ := id c1192
  have hin1196 : ¬ ((3 : Int32) < 0 ∨ cl1196.slots.size ≤ ((3 : Int32)).toNatClampNeg) := inb_of S1196 ⟨by decide, by decide⟩
  obtain ⟨T1197, h1197, X1197, e1197, W1197, st1197⟩ := stI X1195 hx hZ e1195 Ar1196 (j := (3 : Int32)) hin1196 (g := (mkF m 106 #[.val (.ref a1), .val (.long q2), .second, .val (.int p4), .val (.int p5)] [(.int p4), (.int (3 : Int32)), (.ref ac1160)])) rfl rfl (hb hby d5_106)
  have V1197 : Arv Z h1197 ac1160 kc1160 .int (4 : Int32) [(.int y0), (.int y1), (.int y2), (.int p4)] (.int (0 : Int32)) := Arv.set Ar1196 q1196 S1196 M1196 H1196 J1196 rfl W1197 3 rfl (Nat.le_of_ble_eq_true rfl)
  have N1197 := Fr.snoc X1197 N1184 Gc1160
  have z1198 : n0 ≤ h1197.size := Nat.le_trans z1185 (Keep.of_wr W1197).1
  have c1199 := c1186.wr W1197
  have c1200 := c1187.other W1197 (Or.inl n21160)
  have c1201 := c1188.other W1197 (Or.inl n21160)
  have c1202 := c1189.other W1197 (Or.inl n21160)
  have c1203 := c1190.other W1197 (Or.inl n21160)
  have c1205 := c1193.other W1197 (Or.inl n21160)
  have c1206 := V1184.other W1197 n31160
  obtain ⟨T1207, X1207, e1207, st1207⟩ := getF X1197 hx hZ hown (host := "") (Or.inl (own_w hw 26 rfl)) Via.refl e1197 c1203 (g := (mkF m 109 #[.val (.ref a1), .val (.long q2), .second, .val (.int p4), .val (.int p5)] [(.ref a1), (.ref a1)])) rfl rfl (hb hby d5_109)
  obtain ⟨T1208, h1208, X1208, e1208, W1208, st1208⟩ := putF X1207 hx hZ hown (host := "") (Or.inl (own_w hw 26 rfl)) Via.refl e1207 c1203 c1199 (Or.inl (own_w hw 27 rfl)) (own_w hw 5 rfl) (ty := .int) (by decide) rfl rfl (g := (mkF m 114 #[.val (.ref a1), .val (.long q2), .second, .val (.int p4), .val (.int p5)] [(.int (4 : Int32)), (.ref a1)])) rfl rfl (hb hby d5_114)
  have Fw1208 := c1203.same W1208
  have N1208 := Fr.snoc X1208 N1197 Ga1160
  have z1209 : n0 ≤ h1208.size := Nat.le_trans z1198 (Keep.of_wr W1208).1
  have c1210 := c1199.wr W1208
  have c1211 := c1200.other W1208 (Or.inr (own_sn_98 hw))
  have c1212 := c1201.other W1208 (Or.inr (own_sn_99 hw))
  have c1213 := c1202.other W1208 (Or.inr (own_sn_100 hw))
  have c1215 := c1205.other W1208 (Or.inr (own_sn_101 hw))
  have c1216 := c1206.other W1208 (Ne.symm n11160)
  have c1217 := V1197.other W1208 (Ne.symm n21160)
  have pre1218 : ∀ t, Steps p.tables e below (T1208.setTop (mkF m 117 #[.val (.ref a1), .val (.long q2), .second, .val (.int p4), .val (.int p5)] [])) t → Steps p.tables e below (s₁.setTop (entryFrame m #[(.ref a1), (.long q2), (.int p4), (.int p5)] 5)) t := fun t kt => pre1165 t (by
    show Steps p.tables e below (T1162.setTop (mkF m 26 #[.val (.ref a1), .val (.long q2), .second, .val (.int p4), .val (.int p5)] [(.int bb), (.ref a1)])) _
    refine st1166 _ ?_
    refine XS.aloadN X1166.here hx rfl (hb hby d5_29) rfl rfl ?_
    refine st1176 _ ?_
    refine XS.aloadN X1176.here hx rfl (hb hby d5_33) rfl rfl ?_
    refine st1177 _ ?_
    refine XS.icmpYes X1177.here hx rfl (pc0 := 37) (pc' := 71) rfl (hb hby d5_37) rfl (flt (by decide : ¬ ((3 : Int32) < (3 : Int32)))).2.1 (by decide) (by decide) ?_
    refine XS.aloadN X1177.here hx rfl (hb hby d5_71) rfl rfl ?_
    refine st1178 _ ?_
    refine XS.aloadN X1178.here hx rfl (hb hby d5_75) rfl rfl ?_
    refine st1179 _ ?_
    refine X1179.arraylength hx (by rw [e1179]; exact A1180.1) (State.isArrayOf_alike hZ.alike A1180.2.1) (g := (mkF m 79 #[.val (.ref a1), .val (.long q2), .second, .val (.int p4), .val (.int p5)] [(.ref am1160), (.int (3 : Int32))])) rfl rfl (hb hby d5_79) _ ?_
    rw [len_of S1180 M1180]
    refine XS.icmpYes X1179.here hx rfl (pc0 := 80) (pc' := 87) rfl (hb hby d5_80) rfl (feq (by decide : ¬ ((3 : Int32) = (4 : Int32)))).2 (by decide) (by decide) ?_
    show Steps p.tables e below (T1179.setTop (mkF m 87 #[.val (.ref a1), .val (.long q2), .second, .val (.int p4), .val (.int p5)] [])) _
    refine XS.aloadN X1179.here hx rfl (hb hby d5_87) rfl rfl ?_
    refine st1181 _ ?_
    refine XS.aloadN X1181.here hx rfl (hb hby d5_91) rfl rfl ?_
    refine st1182 _ ?_
    refine XS.lloadN X1182.here hx rfl (hb hby d5_95) rfl ?_
    refine st1184 _ ?_
    refine XS.aloadN X1184.here hx rfl (hb hby d5_97) rfl rfl ?_
    refine st1194 _ ?_
    refine XS.aloadN X1194.here hx rfl (hb hby d5_101) rfl rfl ?_
    refine st1195 _ ?_
    refine XS.iloadN X1195.here hx rfl (hb hby d5_105) rfl ?_
    refine st1197 _ ?_
    show Steps p.tables e below (T1197.setTop (mkF m 107 #[.val (.ref a1), .val (.long q2), .second, .val (.int p4), .val (.int p5)] [])) _
    refine XS.aloadN X1197.here hx rfl (hb hby d5_107) rfl rfl ?_
    refine XS.dup X1197.here hx rfl (hb hby d5_108) rfl rfl ?_
    refine st1207 _ ?_
    refine XS.iconst X1207.here hx rfl (hb hby d5_112) ?_
    refine XS.iadd X1207.here hx rfl (hb hby d5_113) rfl ?_
    refine st1208 _ ?_
    exact kt)
  have hz : h0.size ≤ h1208.size := Nat.le_trans (Nat.le_trans (Nat.le_trans (Nat.le_trans (Nat.le_refl _) (Keep.of_wr W1166).1) (Keep.of_wr W1184).1) (Keep.of_wr W1197).1) (Keep.of_wr W1208).1
  have hP : PT Z h1208 n0 a1 (3 : Int32) (4 : Int32) (4 : Int32) [(.long x0), (.long x1), (.long x2), (.long q2)] [(.int y0), (.int y1), (.int y2), (.int p4)] bb := ⟨am1160, ac1160, km1160, kc1160, c1210, c1211, c1212, c1213, Fw1208, c1215, c1216, c1217, Ga1160, Gm1160, Gc1160, n11160, n21160, n31160⟩
  rw [hbb] at hP
  have hQ : QCnt334a Z a1 q2 p4 p5 x0 x1 x2 x3 y0 y1 y2 y3 b h0 n0 none h1208 _ := ⟨rfl, N1208, hz, hP⟩
  exact own_retV X1208 hx Bd.notSynchronized Bd.returns (hb hby d5_117) pre1218 (show QCnt334a Z a1 q2 p4 p5 x0 x1 x2 x3 y0 y1 y2 y3 b h0 n0 _ _ _ from (by rw [e1208]; exact hQ)) (by decide) (by decide)
def QFgt034_2 (Z : State) (a1 : Addr) (q2 : Int64) (x0 : Int64) (x1 : Int64) (x2 : Int64) (x3 : Int64) (y0 : Int32) (y1 : Int32) (y2 : Int32) (y3 : Int32) (b : Int32) (h0 : Heap) (n0 : Nat) (v : Option Value) (h : Heap) (L : List Loc) : Prop := v = none ∧ Fr n0 L ∧ h0.size ≤ h.size ∧ PT Z h n0 a1 (2 : Int32) (3 : Int32) (4 : Int32) [(.long x0), (.long x1), (.long x2), (.long x3)] [(.int y0), (.int y1), (.int y2), (.int y3)] y1
set_option maxRecDepth 65536 in
set_option maxHeartbeats 40000000 in
theorem rmFgt034_2 (l : Launch) (Z : State) (a0 : Array Value) (hw : ∀ d ∈ tables_1, d.before a0 Z = true) (ws : List Jvm.Cond) (a1 : Addr) (q2 : Int64) (x0 : Int64) (x1 : Int64) (x2 : Int64) (x3 : Int64) (y0 : Int32) (y1 : Int32) (y2 : Int32) (y3 : Int32) (b : Int32) (h0 : Heap) (n0 : Nat) (Z0 : n0 ≤ h0.size) (P0 : PT Z h0 n0 a1 (0 : Int32) (3 : Int32) (4 : Int32) [(.long x0), (.long x1), (.long x2), (.long x3)] [(.int y0), (.int y1), (.int y2), (.int y3)] b) (c0 : x0 < q2) (c1 : x1 < q2) (c2 : ¬ (x2 < q2)) :
    MetFree l own_y_113 (head1 (Jvm.Cond.code own_y_113 prog_25_method_4_code 3 none :: ws) ({ frames := 0, cells := 0, slots := 0, locals := 0 } : Room)) (fun a U => a = #[(.ref a1), (.long q2)] ∧ Z.Warmed39 U.vm ∧ U.heap = h0) (fun _ _ _ _ _ => True) (fun _ U o U' => ∃ v L, o = .returned v ∧ QFgt034_2 Z a1 q2 x0 x1 x2 x3 y0 y1 y2 y3 b h0 n0 v U'.heap L ∧ FrameEnd U o U' L ({ frames := 0, cells := 0, slots := 0, locals := 0 } : Room).cells ({ frames := 0, cells := 0, slots := 0, locals := 0 } : Room).slots) := by
  refine MetFree.of_bodySF (plainFor_of_name pn_2) hisR ?_
  intro p e s m args below meth c s₁ Bd hml0 hP hK
  obtain ⟨rfl, hZ, hh⟩ := hP
  have hx := Bd.exec
  have hby := Bd.bytes
  have hml : c.maxLocals = 3 := hml0
  have hown : s.vm.findClass "com/example/viral_counter/viralcounter/PostTrend" = some m.cls := findClass_of_methodNamed Bd.named
  have hnm := (name_of_methodNamed Bd.named Bd.method).1
  have X0 : Stand p l e ({ frames := 0, cells := 0, slots := 0, locals := 0 } : Room) s m #[(.ref a1), (.long q2)] below meth c s₁ [] 0 0 := Stand.of_body Bd
  have e0 : s₁.heap = h0 := by rw [← hh, Bd.state]; rfl
  have N0 := Fr.nil n0
  have pre0 : ∀ t, Steps p.tables e below (s₁.setTop (mkF m 0 #[.val (.ref a1), .val (.long q2), .second] [])) t → Steps p.tables e below (s₁.setTop (entryFrame m #[(.ref a1), (.long q2)] 3)) t := fun t k => castTop (ef_114 m a1 q2) k
  obtain ⟨am1223, ac1223, km1223, kc1223, E1223, Fm1223, Fc1223, Ff1223, Fe1223, Fb1223, Vm1223, Vc1223, Ga1223, Gm1223, Gc1223, n11223, n21223, n31223⟩ := id P0
  have hz0 : h0.size ≤ h0.size := Nat.le_refl _
  obtain ⟨T1224, X1224, e1224, st1224⟩ := getF X0 hx hZ hown (host := "") (Or.inl (own_w hw 24 rfl)) Via.refl e0 Ff1223 (g := (mkF m 1 #[.val (.ref a1), .val (.long q2), .second] [(.ref a1)])) rfl rfl (hb hby d13_1)
  obtain ⟨T1225, X1225, e1225, st1225⟩ := getF X1224 hx hZ hown (host := "") (Or.inl (own_w hw 26 rfl)) Via.refl e1224 Fe1223 (g := (mkF m 5 #[.val (.ref a1), .val (.long q2), .second] [(.ref a1), (.int (0 : Int32))])) rfl rfl (hb hby d13_5)
  obtain ⟨T1226, X1226, e1226, st1226⟩ := getF X1225 hx hZ hown (host := "") (Or.inl (own_w hw 14 rfl)) Via.refl e1225 Fm1223 (g := (mkF m 12 #[.val (.ref a1), .val (.long q2), .second] [(.ref a1)])) rfl rfl (hb hby d13_12)
  obtain ⟨T1227, X1227, e1227, st1227⟩ := getF X1226 hx hZ hown (host := "") (Or.inl (own_w hw 24 rfl)) Via.refl e1226 Ff1223 (g := (mkF m 16 #[.val (.ref a1), .val (.long q2), .second] [(.ref a1), (.ref am1223)])) rfl rfl (hb hby d13_16)
  obtain ⟨cl1228, A1228, q1228, S1228, M1228, H1228, J1228⟩ := id Vm1223
  have hin1228 : ¬ ((0 : Int32) < 0 ∨ cl1228.slots.size ≤ ((0 : Int32)).toNatClampNeg) := inb_of S1228 ⟨by decide, by decide⟩
  have hat1228 : cl1228.slots[((0 : Int32)).toNatClampNeg]? = some (.long x0) := H1228.at hin1228 rfl
  obtain ⟨T1229, X1229, e1229, st1229⟩ := getF X1227 hx hZ hown (host := "") (Or.inl (own_w hw 17 rfl)) Via.refl e1227 Fc1223 (g := (mkF m 27 #[.val (.ref a1), .val (.long q2), .second] [(.ref a1), (.ref a1)])) rfl rfl (hb hby d13_27)
  obtain ⟨T1230, X1230, e1230, st1230⟩ := getF X1229 hx hZ hown (host := "") (Or.inl (own_w hw 24 rfl)) Via.refl e1229 Ff1223 (g := (mkF m 31 #[.val (.ref a1), .val (.long q2), .second] [(.ref a1), (.ref ac1223), (.ref a1)])) rfl rfl (hb hby d13_31)
  obtain ⟨cl1231, A1231, q1231, S1231, M1231, H1231, J1231⟩ := id Vc1223
  have hin1231 : ¬ ((0 : Int32) < 0 ∨ cl1231.slots.size ≤ ((0 : Int32)).toNatClampNeg) := inb_of S1231 ⟨by decide, by decide⟩
  have hat1231 : cl1231.slots[((0 : Int32)).toNatClampNeg]? = some (.int y0) := H1231.at hin1231 rfl
  obtain ⟨T1232, h1232, X1232, e1232, W1232, st1232⟩ := putF X1230 hx hZ hown (host := "") (Or.inl (own_w hw 33 rfl)) Via.refl e1230 Fb1223 E1223 (Or.inl (own_w hw 34 rfl)) (own_w hw 5 rfl) (ty := .int) (by decide) rfl rfl (g := (mkF m 35 #[.val (.ref a1), .val (.long q2), .second] [(.int y0), (.ref a1)])) rfl rfl (hb hby d13_35)
  have Fw1232 := Fb1223.same W1232
  have N1232 := Fr.snoc X1232 N0 Ga1223
  have z1233 : n0 ≤ h1232.size := Nat.le_trans Z0 (Keep.of_wr W1232).1
  have c1234 := E1223.wr W1232
  have c1235 := Fm1223.other W1232 (Or.inr (own_sn_65 hw))
  have c1236 := Fc1223.other W1232 (Or.inr (own_sn_66 hw))
  have c1237 := Ff1223.other W1232 (Or.inr (own_sn_67 hw))
  have c1238 := Fe1223.other W1232 (Or.inr (own_sn_68 hw))
  have c1240 := Vm1223.other W1232 (Ne.symm n11223)
  have c1241 := Vc1223.other W1232 (Ne.symm n21223)
  obtain ⟨T1242, X1242, e1242, st1242⟩ := getF X1232 hx hZ hown (host := "") (Or.inl (own_w hw 24 rfl)) Via.refl e1232 c1237 (g := (mkF m 40 #[.val (.ref a1), .val (.long q2), .second] [(.ref a1), (.ref a1)])) rfl rfl (hb hby d13_40)
  obtain ⟨T1243, h1243, X1243, e1243, W1243, st1243⟩ := putF X1242 hx hZ hown (host := "") (Or.inl (own_w hw 24 rfl)) Via.refl e1242 c1237 c1234 (Or.inl (own_w hw 25 rfl)) (own_w hw 5 rfl) (ty := .int) (by decide) rfl rfl (g := (mkF m 45 #[.val (.ref a1), .val (.long q2), .second] [(.int (1 : Int32)), (.ref a1)])) rfl rfl (hb hby d13_45)
  have Fw1243 := c1237.same W1243
  have N1243 := Fr.snoc X1243 N1232 Ga1223
  have z1244 : n0 ≤ h1243.size := Nat.le_trans z1233 (Keep.of_wr W1243).1
  have c1245 := c1234.wr W1243
  have c1246 := c1235.other W1243 (Or.inr (own_sn_156 hw))
  have c1247 := c1236.other W1243 (Or.inr (own_sn_157 hw))
  have c1249 := c1238.other W1243 (Or.inr (own_sn_158 hw))
  have c1250 := c1240.other W1243 (Ne.symm n11223)
  have c1251 := c1241.other W1243 (Ne.symm n21223)
  have c1252 := Fw1232.other W1243 (Or.inr (own_sn_159 hw))
  obtain ⟨T1253, X1253, e1253, st1253⟩ := getF X1243 hx hZ hown (host := "") (Or.inl (own_w hw 24 rfl)) Via.refl e1243 Fw1243 (g := (mkF m 1 #[.val (.ref a1), .val (.long q2), .second] [(.ref a1)])) rfl rfl (hb hby d13_1)
  obtain ⟨T1254, X1254, e1254, st1254⟩ := getF X1253 hx hZ hown (host := "") (Or.inl (own_w hw 26 rfl)) Via.refl e1253 c1249 (g := (mkF m 5 #[.val (.ref a1), .val (.long q2), .second] [(.ref a1), (.int (1 : Int32))])) rfl rfl (hb hby d13_5)
  obtain ⟨T1255, X1255, e1255, st1255⟩ := getF X1254 hx hZ hown (host := "") (Or.inl (own_w hw 14 rfl)) Via.refl e1254 c1246 (g := (mkF m 12 #[.val (.ref a1), .val (.long q2), .second] [(.ref a1)])) rfl rfl (hb hby d13_12)
  obtain ⟨T1256, X1256, e1256, st1256⟩ := getF X1255 hx hZ hown (host := "") (Or.inl (own_w hw 24 rfl)) Via.refl e1255 Fw1243 (g := (mkF m 16 #[.val (.ref a1), .val (.long q2), .second] [(.ref a1), (.ref am1223)])) rfl rfl (hb hby d13_16)
  obtain ⟨cl1257, A1257, q1257, S1257, M1257, H1257, J1257⟩ := id c1250
  have hin1257 : ¬ ((1 : Int32) < 0 ∨ cl1257.slots.size ≤ ((1 : Int32)).toNatClampNeg) := inb_of S1257 ⟨by decide, by decide⟩
  have hat1257 : cl1257.slots[((1 : Int32)).toNatClampNeg]? = some (.long x1) := H1257.at hin1257 rfl
  obtain ⟨T1258, X1258, e1258, st1258⟩ := getF X1256 hx hZ hown (host := "") (Or.inl (own_w hw 17 rfl)) Via.refl e1256 c1247 (g := (mkF m 27 #[.val (.ref a1), .val (.long q2), .second] [(.ref a1), (.ref a1)])) rfl rfl (hb hby d13_27)
  obtain ⟨T1259, X1259, e1259, st1259⟩ := getF X1258 hx hZ hown (host := "") (Or.inl (own_w hw 24 rfl)) Via.refl e1258 Fw1243 (g := (mkF m 31 #[.val (.ref a1), .val (.long q2), .second] [(.ref a1), (.ref ac1223), (.ref a1)])) rfl rfl (hb hby d13_31)
  obtain ⟨cl1260, A1260, q1260, S1260, M1260, H1260, J1260⟩ := id c1251
  have hin1260 : ¬ ((1 : Int32) < 0 ∨ cl1260.slots.size ≤ ((1 : Int32)).toNatClampNeg) := inb_of S1260 ⟨by decide, by decide⟩
  have hat1260 : cl1260.slots[((1 : Int32)).toNatClampNeg]? = some (.int y1) := H1260.at hin1260 rfl
  obtain ⟨T1261, h1261, X1261, e1261, W1261, st1261⟩ := putF X1259 hx hZ hown (host := "") (Or.inl (own_w hw 33 rfl)) Via.refl e1259 c1252 c1245 (Or.inl (own_w hw 34 rfl)) (own_w hw 5 rfl) (ty := .int) (by decide) rfl rfl (g := (mkF m 35 #[.val (.ref a1), .val (.long q2), .second] [(.int y1), (.ref a1)])) rfl rfl (hb hby d13_35)
  have Fw1261 := c1252.same W1261
  have N1261 := Fr.snoc X1261 N1243 Ga1223
  have z1262 : n0 ≤ h1261.size := Nat.le_trans z1244 (Keep.of_wr W1261).1
  have c1263 := c1245.wr W1261
  have c1264 := c1246.other W1261 (Or.inr (own_sn_65 hw))
  have c1265 := c1247.other W1261 (Or.inr (own_sn_66 hw))
  have c1266 := c1249.other W1261 (Or.inr (own_sn_68 hw))
  have c1267 := c1250.other W1261 (Ne.symm n11223)
  have c1268 := c1251.other W1261 (Ne.symm n21223)
  have c1270 := Fw1243.other W1261 (Or.inr (own_sn_67 hw))
  obtain ⟨T1271, X1271, e1271, st1271⟩ := getF X1261 hx hZ hown (host := "") (Or.inl (own_w hw 24 rfl)) Via.refl e1261 c1270 (g := (mkF m 40 #[.val (.ref a1), .val (.long q2), .second] [(.ref a1), (.ref a1)])) rfl rfl (hb hby d13_40)
  obtain ⟨T1272, h1272, X1272, e1272, W1272, st1272⟩ := putF X1271 hx hZ hown (host := "") (Or.inl (own_w hw 24 rfl)) Via.refl e1271 c1270 c1263 (Or.inl (own_w hw 25 rfl)) (own_w hw 5 rfl) (ty := .int) (by decide) rfl rfl (g := (mkF m 45 #[.val (.ref a1), .val (.long q2), .second] [(.int (2 : Int32)), (.ref a1)])) rfl rfl (hb hby d13_45)
  have Fw1272 := c1270.same W1272
  have N1272 := Fr.snoc X1272 N1261 Ga1223
  have z1273 : n0 ≤ h1272.size := Nat.le_trans z1262 (Keep.of_wr W1272).1
  have c1274 := c1263.wr W1272
  have c1275 := c1264.other W1272 (Or.inr (own_sn_156 hw))
  have c1276 := c1265.other W1272 (Or.inr (own_sn_157 hw))
  have c1277 := c1266.other W1272 (Or.inr (own_sn_158 hw))
  have c1278 := c1267.other W1272 (Ne.symm n11223)
  have c1279 := c1268.other W1272 (Ne.symm n21223)
  have c1281 := Fw1261.other W1272 (Or.inr (own_sn_159 hw))
  obtain ⟨T1282, X1282, e1282, st1282⟩ := getF X1272 hx hZ hown (host := "") (Or.inl (own_w hw 24 rfl)) Via.refl e1272 Fw1272 (g := (mkF m 1 #[.val (.ref a1), .val (.long q2), .second] [(.ref a1)])) rfl rfl (hb hby d13_1)
  obtain ⟨T1283, X1283, e1283, st1283⟩ := getF X1282 hx hZ hown (host := "") (Or.inl (own_w hw 26 rfl)) Via.refl e1282 c1277 (g := (mkF m 5 #[.val (.ref a1), .val (.long q2), .second] [(.ref a1), (.int (2 : Int32))])) rfl rfl (hb hby d13_5)
  obtain ⟨T1284, X1284, e1284, st1284⟩ := getF X1283 hx hZ hown (host := "") (Or.inl (own_w hw 14 rfl)) Via.refl e1283 c1275 (g := (mkF m 12 #[.val (.ref a1), .val (.long q2), .second] [(.ref a1)])) rfl rfl (hb hby d13_12)
  obtain ⟨T1285, X1285, e1285, st1285⟩ := getF X1284 hx hZ hown (host := "") (Or.inl (own_w hw 24 rfl)) Via.refl e1284 Fw1272 (g := (mkF m 16 #[.val (.ref a1), .val (.long q2), .second] [(.ref a1), (.ref am1223)])) rfl rfl (hb hby d13_16)
  obtain ⟨cl1286, A1286, q1286, S1286, M1286, H1286, J1286⟩ := id c1278
  have hin1286 : ¬ ((2 : Int32) < 0 ∨ cl1286.slots.size ≤ ((2 : Int32)).toNatClampNeg) := inb_of S1286 ⟨by decide, by decide⟩
  have hat1286 : cl1286.slots[((2 : Int32)).toNatClampNeg]? = some (.long x2) := H1286.at hin1286 rfl
  have pre1287 : ∀ t, Steps p.tables e below (T1285.setTop (mkF m 51 #[.val (.ref a1), .val (.long q2), .second] [])) t → Steps p.tables e below (s₁.setTop (entryFrame m #[(.ref a1), (.long q2)] 3)) t := fun t kt => pre0 t (by
    show Steps p.tables e below (s₁.setTop (mkF m 0 #[.val (.ref a1), .val (.long q2), .second] [])) _
    refine XS.aloadN X0.here hx rfl (hb hby d13_0) rfl rfl ?_
    refine st1224 _ ?_
    refine XS.aloadN X1224.here hx rfl (hb hby d13_4) rfl rfl ?_
    refine st1225 _ ?_
    refine XS.icmpNo X1225.here hx rfl (hb hby d13_8) rfl (tlt (by decide : (0 : Int32) < (3 : Int32))).2.1 ?_
    refine XS.aloadN X1225.here hx rfl (hb hby d13_11) rfl rfl ?_
    refine st1226 _ ?_
    refine XS.aloadN X1226.here hx rfl (hb hby d13_15) rfl rfl ?_
    refine st1227 _ ?_
    refine X1227.laload hx (j := (0 : Int32)) (v := (.long x0)) (by rw [e1227]; exact A1228.1) (State.isArrayOf_alike hZ.alike A1228.2.1) A1228.2.2 hin1228 hat1228 (g := (mkF m 19 #[.val (.ref a1), .val (.long q2), .second] [(.int (0 : Int32)), (.ref am1223)])) rfl rfl (hb hby d13_19) _ ?_
    refine XS.lloadN X1227.here hx rfl (hb hby d13_20) rfl ?_
    refine XS.lcmp X1227.here hx rfl (hb hby d13_21) rfl ?_
    show Steps p.tables e below (T1227.setTop (mkF m 22 #[.val (.ref a1), .val (.long q2), .second] [(.int (lcmpW x0 q2))])) _
    refine XS.ifNo X1227.here hx rfl (hb hby d13_22) rfl ((if0 _ _).trans (tlt ((lw_lt _ _).mpr c0)).2.1) ?_
    refine XS.aloadN X1227.here hx rfl (hb hby d13_25) rfl rfl ?_
    refine XS.aloadN X1227.here hx rfl (hb hby d13_26) rfl rfl ?_
    refine st1229 _ ?_
    refine XS.aloadN X1229.here hx rfl (hb hby d13_30) rfl rfl ?_
    refine st1230 _ ?_
    refine X1230.iaload hx (j := (0 : Int32)) (v := (.int y0)) (by rw [e1230]; exact A1231.1) (State.isArrayOf_alike hZ.alike A1231.2.1) A1231.2.2 hin1231 hat1231 (g := (mkF m 34 #[.val (.ref a1), .val (.long q2), .second] [(.int (0 : Int32)), (.ref ac1223), (.ref a1)])) rfl rfl (hb hby d13_34) _ ?_
    refine st1232 _ ?_
    refine XS.aloadN X1232.here hx rfl (hb hby d13_38) rfl rfl ?_
    refine XS.dup X1232.here hx rfl (hb hby d13_39) rfl rfl ?_
    refine st1242 _ ?_
    refine XS.iconst X1242.here hx rfl (hb hby d13_43) ?_
    show Steps p.tables e below (T1242.setTop (mkF m 44 #[.val (.ref a1), .val (.long q2), .second] [(.int (1 : Int32)), (.int (0 : Int32)), (.ref a1)])) _
    refine XS.iadd X1242.here hx rfl (hb hby d13_44) rfl ?_
    refine st1243 _ ?_
    refine XS.goto X1243.here hx rfl (pc0 := 48) (pc' := 0) rfl (hb hby d13_48) (by decide) (by decide) ?_
    refine XS.aloadN X1243.here hx rfl (hb hby d13_0) rfl rfl ?_
    refine st1253 _ ?_
    refine XS.aloadN X1253.here hx rfl (hb hby d13_4) rfl rfl ?_
    refine st1254 _ ?_
    refine XS.icmpNo X1254.here hx rfl (hb hby d13_8) rfl (tlt (by decide : (1 : Int32) < (3 : Int32))).2.1 ?_
    refine XS.aloadN X1254.here hx rfl (hb hby d13_11) rfl rfl ?_
    refine st1255 _ ?_
    refine XS.aloadN X1255.here hx rfl (hb hby d13_15) rfl rfl ?_
    refine st1256 _ ?_
    show Steps p.tables e below (T1256.setTop (mkF m 19 #[.val (.ref a1), .val (.long q2), .second] [(.int (1 : Int32)), (.ref am1223)])) _
    refine X1256.laload hx (j := (1 : Int32)) (v := (.long x1)) (by rw [e1256]; exact A1257.1) (State.isArrayOf_alike hZ.alike A1257.2.1) A1257.2.2 hin1257 hat1257 (g := (mkF m 19 #[.val (.ref a1), .val (.long q2), .second] [(.int (1 : Int32)), (.ref am1223)])) rfl rfl (hb hby d13_19) _ ?_
    refine XS.lloadN X1256.here hx rfl (hb hby d13_20) rfl ?_
    refine XS.lcmp X1256.here hx rfl (hb hby d13_21) rfl ?_
    refine XS.ifNo X1256.here hx rfl (hb hby d13_22) rfl ((if0 _ _).trans (tlt ((lw_lt _ _).mpr c1)).2.1) ?_
    refine XS.aloadN X1256.here hx rfl (hb hby d13_25) rfl rfl ?_
    refine XS.aloadN X1256.here hx rfl (hb hby d13_26) rfl rfl ?_
    refine st1258 _ ?_
    refine XS.aloadN X1258.here hx rfl (hb hby d13_30) rfl rfl ?_
    refine st1259 _ ?_
    refine X1259.iaload hx (j := (1 : Int32)) (v := (.int y1)) (by rw [e1259]; exact A1260.1) (State.isArrayOf_alike hZ.alike A1260.2.1) A1260.2.2 hin1260 hat1260 (g := (mkF m 34 #[.val (.ref a1), .val (.long q2), .second] [(.int (1 : Int32)), (.ref ac1223), (.ref a1)])) rfl rfl (hb hby d13_34) _ ?_
    refine st1261 _ ?_
    refine XS.aloadN X1261.here hx rfl (hb hby d13_38) rfl rfl ?_
    show Steps p.tables e below (T1261.setTop (mkF m 39 #[.val (.ref a1), .val (.long q2), .second] [(.ref a1)])) _
    refine XS.dup X1261.here hx rfl (hb hby d13_39) rfl rfl ?_
    refine st1271 _ ?_
    refine XS.iconst X1271.here hx rfl (hb hby d13_43) ?_
    refine XS.iadd X1271.here hx rfl (hb hby d13_44) rfl ?_
    refine st1272 _ ?_
    refine XS.goto X1272.here hx rfl (pc0 := 48) (pc' := 0) rfl (hb hby d13_48) (by decide) (by decide) ?_
    refine XS.aloadN X1272.here hx rfl (hb hby d13_0) rfl rfl ?_
    refine st1282 _ ?_
    refine XS.aloadN X1282.here hx rfl (hb hby d13_4) rfl rfl ?_
    refine st1283 _ ?_
    refine XS.icmpNo X1283.here hx rfl (hb hby d13_8) rfl (tlt (by decide : (2 : Int32) < (3 : Int32))).2.1 ?_
    refine XS.aloadN X1283.here hx rfl (hb hby d13_11) rfl rfl ?_
    show Steps p.tables e below (T1283.setTop (mkF m 12 #[.val (.ref a1), .val (.long q2), .second] [(.ref a1)])) _
    refine st1284 _ ?_
    refine XS.aloadN X1284.here hx rfl (hb hby d13_15) rfl rfl ?_
    refine st1285 _ ?_
    refine X1285.laload hx (j := (2 : Int32)) (v := (.long x2)) (by rw [e1285]; exact A1286.1) (State.isArrayOf_alike hZ.alike A1286.2.1) A1286.2.2 hin1286 hat1286 (g := (mkF m 19 #[.val (.ref a1), .val (.long q2), .second] [(.int (2 : Int32)), (.ref am1223)])) rfl rfl (hb hby d13_19) _ ?_
    refine XS.lloadN X1285.here hx rfl (hb hby d13_20) rfl ?_
    refine XS.lcmp X1285.here hx rfl (hb hby d13_21) rfl ?_
    refine XS.ifYes X1285.here hx rfl (pc0 := 22) (pc' := 51) rfl (hb hby d13_22) rfl ((if0 _ _).trans (flt (fun q => c2 ((lw_lt _ _).mp q))).2.1) (by decide) (by decide) ?_
    exact kt)
  have hz : h0.size ≤ h1272.size := Nat.le_trans (Nat.le_trans (Nat.le_trans (Nat.le_trans (Nat.le_refl _) (Keep.of_wr W1232).1) (Keep.of_wr W1243).1) (Keep.of_wr W1261).1) (Keep.of_wr W1272).1
  have hQ : QFgt034_2 Z a1 q2 x0 x1 x2 x3 y0 y1 y2 y3 b h0 n0 none h1272 _ := ⟨rfl, N1272, hz, ⟨am1223, ac1223, km1223, kc1223, c1274, c1275, c1276, Fw1272, c1277, c1281, c1278, c1279, Ga1223, Gm1223, Gc1223, n11223, n21223, n31223⟩⟩
  exact own_retV X1285 hx Bd.notSynchronized Bd.returns (hb hby d13_51) pre1287 (show QFgt034_2 Z a1 q2 x0 x1 x2 x3 y0 y1 y2 y3 b h0 n0 _ _ _ from (by rw [e1285]; exact hQ)) (by decide) (by decide)
def QCnt234a (Z : State) (a1 : Addr) (q2 : Int64) (p4 p5 : Int32) (x0 : Int64) (x1 : Int64) (x2 : Int64) (x3 : Int64) (y0 : Int32) (y1 : Int32) (y2 : Int32) (y3 : Int32) (b : Int32) (h0 : Heap) (n0 : Nat) (v : Option Value) (h : Heap) (L : List Loc) : Prop := v = none ∧ Fr n0 L ∧ h0.size ≤ h.size ∧ PT Z h n0 a1 (2 : Int32) (4 : Int32) (4 : Int32) [(.long x0), (.long x1), (.long x2), (.long q2)] [(.int y0), (.int y1), (.int y2), (.int p4)] b
set_option maxRecDepth 65536 in
set_option maxHeartbeats 40000000 in
theorem rmCnt234a (l : Launch) (Z : State) (a0 : Array Value) (hw : ∀ d ∈ tables_1, d.before a0 Z = true) (ws : List Jvm.Cond) (a1 : Addr) (q2 : Int64) (p4 p5 : Int32) (x0 : Int64) (x1 : Int64) (x2 : Int64) (x3 : Int64) (y0 : Int32) (y1 : Int32) (y2 : Int32) (y3 : Int32) (b : Int32) (h0 : Heap) (n0 : Nat) (Z0 : n0 ≤ h0.size) (P0 : PT Z h0 n0 a1 (2 : Int32) (3 : Int32) (4 : Int32) [(.long x0), (.long x1), (.long x2), (.long x3)] [(.int y0), (.int y1), (.int y2), (.int y3)] b) (c0 : x2 < q2) :
    MetFree l own_y_103 (head1 (Jvm.Cond.code own_y_103 prog_25_method_2_code 5 none :: ws) ({ frames := 0, cells := 0, slots := 0, locals := 0 } : Room)) (fun a U => a = #[(.ref a1), (.long q2), (.int p4), (.int p5)] ∧ Z.Warmed39 U.vm ∧ U.heap = h0) (fun _ _ _ _ _ => True) (fun _ U o U' => ∃ v L, o = .returned v ∧ QCnt234a Z a1 q2 p4 p5 x0 x1 x2 x3 y0 y1 y2 y3 b h0 n0 v U'.heap L ∧ FrameEnd U o U' L ({ frames := 0, cells := 0, slots := 0, locals := 0 } : Room).cells ({ frames := 0, cells := 0, slots := 0, locals := 0 } : Room).slots) := by
  refine MetFree.of_bodySF (plainFor_of_name pn_2) hisR ?_
  intro p e s m args below meth c s₁ Bd hml0 hP hK
  obtain ⟨rfl, hZ, hh⟩ := hP
  have hx := Bd.exec
  have hby := Bd.bytes
  have hml : c.maxLocals = 5 := hml0
  have hown : s.vm.findClass "com/example/viral_counter/viralcounter/PostTrend" = some m.cls := findClass_of_methodNamed Bd.named
  have hnm := (name_of_methodNamed Bd.named Bd.method).1
  have X0 : Stand p l e ({ frames := 0, cells := 0, slots := 0, locals := 0 } : Room) s m #[(.ref a1), (.long q2), (.int p4), (.int p5)] below meth c s₁ [] 0 0 := Stand.of_body Bd
  have e0 : s₁.heap = h0 := by rw [← hh, Bd.state]; rfl
  have N0 := Fr.nil n0
  have pre0 : ∀ t, Steps p.tables e below (s₁.setTop (mkF m 0 #[.val (.ref a1), .val (.long q2), .second, .val (.int p4), .val (.int p5)] [])) t → Steps p.tables e below (s₁.setTop (entryFrame m #[(.ref a1), (.long q2), (.int p4), (.int p5)] 5)) t := fun t k => castTop (ef_104 m a1 q2 p4 p5) k
  obtain ⟨am1297, ac1297, km1297, kc1297, E1297, Fm1297, Fc1297, Ff1297, Fe1297, Fb1297, Vm1297, Vc1297, Ga1297, Gm1297, Gc1297, n11297, n21297, n31297⟩ := id P0
  have hz0 : h0.size ≤ h0.size := Nat.le_refl _
  obtain ⟨T1298, X1298, e1298, st1298⟩ := getF X0 hx hZ hown (host := "") (Or.inl (own_w hw 24 rfl)) Via.refl e0 Ff1297 (g := (mkF m 1 #[.val (.ref a1), .val (.long q2), .second, .val (.int p4), .val (.int p5)] [(.ref a1)])) rfl rfl (hb hby d5_1)
  obtain ⟨T1299, X1299, e1299, st1299⟩ := getF X1298 hx hZ hown (host := "") (Or.inl (own_w hw 26 rfl)) Via.refl e1298 Fe1297 (g := (mkF m 5 #[.val (.ref a1), .val (.long q2), .second, .val (.int p4), .val (.int p5)] [(.ref a1), (.int (2 : Int32))])) rfl rfl (hb hby d5_5)
  obtain ⟨T1300, X1300, e1300, st1300⟩ := getF X1299 hx hZ hown (host := "") (Or.inl (own_w hw 24 rfl)) Via.refl e1299 Ff1297 (g := (mkF m 30 #[.val (.ref a1), .val (.long q2), .second, .val (.int p4), .val (.int p5)] [(.ref a1)])) rfl rfl (hb hby d5_30)
  obtain ⟨T1301, X1301, e1301, st1301⟩ := getF X1300 hx hZ hown (host := "") (Or.inl (own_w hw 26 rfl)) Via.refl e1300 Fe1297 (g := (mkF m 34 #[.val (.ref a1), .val (.long q2), .second, .val (.int p4), .val (.int p5)] [(.ref a1), (.int (2 : Int32))])) rfl rfl (hb hby d5_34)
  obtain ⟨T1302, X1302, e1302, st1302⟩ := getF X1301 hx hZ hown (host := "") (Or.inl (own_w hw 14 rfl)) Via.refl e1301 Fm1297 (g := (mkF m 42 #[.val (.ref a1), .val (.long q2), .second, .val (.int p4), .val (.int p5)] [(.ref a1), (.long q2)])) rfl rfl (hb hby d5_42)
  obtain ⟨T1303, X1303, e1303, st1303⟩ := getF X1302 hx hZ hown (host := "") (Or.inl (own_w hw 26 rfl)) Via.refl e1302 Fe1297 (g := (mkF m 46 #[.val (.ref a1), .val (.long q2), .second, .val (.int p4), .val (.int p5)] [(.ref a1), (.ref am1297), (.long q2)])) rfl rfl (hb hby d5_46)
  obtain ⟨cl1304, A1304, q1304, S1304, M1304, H1304, J1304⟩ := id Vm1297
  have hin1304 : ¬ ((2 : Int32) < 0 ∨ cl1304.slots.size ≤ ((2 : Int32)).toNatClampNeg) := inb_of S1304 ⟨by decide, by decide⟩
  have hat1304 : cl1304.slots[((2 : Int32)).toNatClampNeg]? = some (.long x2) := H1304.at hin1304 rfl
  obtain ⟨T1305, X1305, e1305, st1305⟩ := getF X1303 hx hZ hown (host := "") (Or.inl (own_w hw 26 rfl)) Via.refl e1303 Fe1297 (g := (mkF m 72 #[.val (.ref a1), .val (.long q2), .second, .val (.int p4), .val (.int p5)] [(.ref a1)])) rfl rfl (hb hby d5_72)
  obtain ⟨T1306, X1306, e1306, st1306⟩ := getF X1305 hx hZ hown (host := "") (Or.inl (own_w hw 14 rfl)) Via.refl e1305 Fm1297 (g := (mkF m 76 #[.val (.ref a1), .val (.long q2), .second, .val (.int p4), .val (.int p5)] [(.ref a1), (.int (3 : Int32))])) rfl rfl (hb hby d5_76)
  obtain ⟨cl1307, A1307, q1307, S1307, M1307, H1307, J1307⟩ := id Vm1297
  obtain ⟨T1308, X1308, e1308, st1308⟩ := getF X1306 hx hZ hown (host := "") (Or.inl (own_w hw 14 rfl)) Via.refl e1306 Fm1297 (g := (mkF m 88 #[.val (.ref a1), .val (.long q2), .second, .val (.int p4), .val (.int p5)] [(.ref a1)])) rfl rfl (hb hby d5_88)
  obtain ⟨T1309, X1309, e1309, st1309⟩ := getF X1308 hx hZ hown (host := "") (Or.inl (own_w hw 26 rfl)) Via.refl e1308 Fe1297 (g := (mkF m 92 #[.val (.ref a1), .val (.long q2), .second, .val (.int p4), .val (.int p5)] [(.ref a1), (.ref am1297)])) rfl rfl (hb hby d5_92)
  obtain ⟨cl1310, Ar1310, q1310, S1310, M1310, H1310, J1310⟩ := id Vm1297
  have hin1310 : ¬ ((3 : Int32) < 0 ∨ cl1310.slots.size ≤ ((3 : Int32)).toNatClampNeg) := inb_of S1310 ⟨by decide, by decide⟩
  obtain ⟨T1311, h1311, X1311, e1311, W1311, st1311⟩ := stJ X1309 hx hZ e1309 Ar1310 (j := (3 : Int32)) hin1310 (g := (mkF m 96 #[.val (.ref a1), .val (.long q2), .second, .val (.int p4), .val (.int p5)] [(.long q2), (.int (3 : Int32)), (.ref am1297)])) rfl rfl (hb hby d5_96)
  have V1311 : Arv Z h1311 am1297 km1297 .long (4 : Int32) [(.long x0), (.long x1), (.long x2), (.long q2)] (.long (0 : Int64)) := Arv.set Ar1310 q1310 S1310 M1310 H1310 J1310 rfl W1311 3 rfl (Nat.le_of_ble_eq_true rfl)
  have N1311 := Fr.snoc X1311 N0 Gm1297
  have z1312 : n0 ≤ h1311.size := Nat.le_trans Z0 (Keep.of_wr W1311).1
  have c1313 := E1297.wr W1311
  have c1314 := Fm1297.other W1311 (Or.inl n11297)
  have c1315 := Fc1297.other W1311 (Or.inl n11297)
  have c1316 := Ff1297.other W1311 (Or.inl n11297)
  have c1317 := Fe1297.other W1311 (Or.inl n11297)
  have c1318 := Fb1297.other W1311 (Or.inl n11297)
  have c1320 := Vc1297.other W1311 (Ne.symm n31297)
  obtain ⟨T1321, X1321, e1321, st1321⟩ := getF X1311 hx hZ hown (host := "") (Or.inl (own_w hw 17 rfl)) Via.refl e1311 c1315 (g := (mkF m 98 #[.val (.ref a1), .val (.long q2), .second, .val (.int p4), .val (.int p5)] [(.ref a1)])) rfl rfl (hb hby d5_98)
  obtain ⟨T1322, X1322, e1322, st1322⟩ := getF X1321 hx hZ hown (host := "") (Or.inl (own_w hw 26 rfl)) Via.refl e1321 c1317 (g := (mkF m 102 #[.val (.ref a1), .val (.long q2), .second, .val (.int p4), .val (.int p5)] [(.ref a1), (.ref ac1297)])) rfl rfl (hb hby d5_102)
  obtain ⟨cl1323, Ar1323, q1323, S1323, M1323, H1323, J1323⟩ := id c1320
  have hin1323 : ¬ ((3 : Int32) < 0 ∨ cl1323.slots.size ≤ ((3 : Int32)).toNatClampNeg) := inb_of S1323 ⟨by decide, by decide⟩
  obtain ⟨T1324, h1324, X1324, e1324, W1324, st1324⟩ := stI X1322 hx hZ e1322 Ar1323 (j := (3 : Int32)) hin1323 (g := (mkF m 106 #[.val (.ref a1), .val (.long q2), .second, .val (.int p4), .val (.int p5)] [(.int p4), (.int (3 : Int32)), (.ref ac1297)])) rfl rfl (hb hby d5_106)
  have V1324 : Arv Z h1324 ac1297 kc1297 .int (4 : Int32) [(.int y0), (.int y1), (.int y2), (.int p4)] (.int (0 : Int32)) := Arv.set Ar1323 q1323 S1323 M1323 H1323 J1323 rfl W1324 3 rfl (Nat.le_of_ble_eq_true rfl)
  have N1324 := Fr.snoc X1324 N1311 Gc1297
  have z1325 : n0 ≤ h1324.size := Nat.le_trans z1312 (Keep.of_wr W1324).1
  have c1326 := c1313.wr W1324
  have c1327 := c1314.other W1324 (Or.inl n21297)
  have c1328 := c1315.other W1324 (Or.inl n21297)
  have c1329 := c1316.other W1324 (Or.inl n21297)
  have c1330 := c1317.other W1324 (Or.inl n21297)
  have c1331 := c1318.other W1324 (Or.inl n21297)
  have c1333 := V1311.other W1324 n31297
  obtain ⟨T1334, X1334, e1334, st1334⟩ := getF X1324 hx hZ hown (host := "") (Or.inl (own_w hw 26 rfl)) Via.refl e1324 c1330 (g := (mkF m 109 #[.val (.ref a1), .val (.long q2), .second, .val (.int p4), .val (.int p5)] [(.ref a1), (.ref a1)])) rfl rfl (hb hby d5_109)
  obtain ⟨T1335, h1335, X1335, e1335, W1335, st1335⟩ := putF X1334 hx hZ hown (host := "") (Or.inl (own_w hw 26 rfl)) Via.refl e1334 c1330 c1326 (Or.inl (own_w hw 27 rfl)) (own_w hw 5 rfl) (ty := .int) (by decide) rfl rfl (g := (mkF m 114 #[.val (.ref a1), .val (.long q2), .second, .val (.int p4), .val (.int p5)] [(.int (4 : Int32)), (.ref a1)])) rfl rfl (hb hby d5_114)
  have Fw1335 := c1330.same W1335
  have N1335 := Fr.snoc X1335 N1324 Ga1297
  have z1336 : n0 ≤ h1335.size := Nat.le_trans z1325 (Keep.of_wr W1335).1
  have c1337 := c1326.wr W1335
  have c1338 := c1327.other W1335 (Or.inr (own_sn_98 hw))
  have c1339 := c1328.other W1335 (Or.inr (own_sn_99 hw))
  have c1340 := c1329.other W1335 (Or.inr (own_sn_100 hw))
  have c1342 := c1331.other W1335 (Or.inr (own_sn_101 hw))
  have c1343 := c1333.other W1335 (Ne.symm n11297)
  have c1344 := V1324.other W1335 (Ne.symm n21297)
  have pre1345 : ∀ t, Steps p.tables e below (T1335.setTop (mkF m 117 #[.val (.ref a1), .val (.long q2), .second, .val (.int p4), .val (.int p5)] [])) t → Steps p.tables e below (s₁.setTop (entryFrame m #[(.ref a1), (.long q2), (.int p4), (.int p5)] 5)) t := fun t kt => pre0 t (by
    show Steps p.tables e below (s₁.setTop (mkF m 0 #[.val (.ref a1), .val (.long q2), .second, .val (.int p4), .val (.int p5)] [])) _
    refine XS.aloadN X0.here hx rfl (hb hby d5_0) rfl rfl ?_
    refine st1298 _ ?_
    refine XS.aloadN X1298.here hx rfl (hb hby d5_4) rfl rfl ?_
    refine st1299 _ ?_
    refine XS.icmpYes X1299.here hx rfl (pc0 := 8) (pc' := 29) rfl (hb hby d5_8) rfl (feq (by decide : ¬ ((2 : Int32) = (3 : Int32)))).2 (by decide) (by decide) ?_
    refine XS.aloadN X1299.here hx rfl (hb hby d5_29) rfl rfl ?_
    refine st1300 _ ?_
    refine XS.aloadN X1300.here hx rfl (hb hby d5_33) rfl rfl ?_
    refine st1301 _ ?_
    refine XS.icmpNo X1301.here hx rfl (hb hby d5_37) rfl (tlt (by decide : (2 : Int32) < (3 : Int32))).2.1 ?_
    refine XS.lloadN X1301.here hx rfl (hb hby d5_40) rfl ?_
    refine XS.aloadN X1301.here hx rfl (hb hby d5_41) rfl rfl ?_
    show Steps p.tables e below (T1301.setTop (mkF m 42 #[.val (.ref a1), .val (.long q2), .second, .val (.int p4), .val (.int p5)] [(.ref a1), (.long q2)])) _
    refine st1302 _ ?_
    refine XS.aloadN X1302.here hx rfl (hb hby d5_45) rfl rfl ?_
    refine st1303 _ ?_
    refine XS.iconst X1303.here hx rfl (hb hby d5_49) ?_
    refine XS.isub X1303.here hx rfl (hb hby d5_50) rfl ?_
    refine X1303.laload hx (j := (2 : Int32)) (v := (.long x2)) (by rw [e1303]; exact A1304.1) (State.isArrayOf_alike hZ.alike A1304.2.1) A1304.2.2 hin1304 hat1304 (g := (mkF m 51 #[.val (.ref a1), .val (.long q2), .second, .val (.int p4), .val (.int p5)] [(.int (2 : Int32)), (.ref am1297), (.long q2)])) rfl rfl (hb hby d5_51) _ ?_
    refine XS.lcmp X1303.here hx rfl (hb hby d5_52) rfl ?_
    refine XS.ifYes X1303.here hx rfl (pc0 := 53) (pc' := 71) rfl (hb hby d5_53) rfl ((if0 _ _).trans (tlt ((lw_gt _ _).mpr c0)).2.2.1) (by decide) (by decide) ?_
    refine XS.aloadN X1303.here hx rfl (hb hby d5_71) rfl rfl ?_
    refine st1305 _ ?_
    refine XS.aloadN X1305.here hx rfl (hb hby d5_75) rfl rfl ?_
    refine st1306 _ ?_
    show Steps p.tables e below (T1306.setTop (mkF m 79 #[.val (.ref a1), .val (.long q2), .second, .val (.int p4), .val (.int p5)] [(.ref am1297), (.int (3 : Int32))])) _
    refine X1306.arraylength hx (by rw [e1306]; exact A1307.1) (State.isArrayOf_alike hZ.alike A1307.2.1) (g := (mkF m 79 #[.val (.ref a1), .val (.long q2), .second, .val (.int p4), .val (.int p5)] [(.ref am1297), (.int (3 : Int32))])) rfl rfl (hb hby d5_79) _ ?_
    rw [len_of S1307 M1307]
    refine XS.icmpYes X1306.here hx rfl (pc0 := 80) (pc' := 87) rfl (hb hby d5_80) rfl (feq (by decide : ¬ ((3 : Int32) = (4 : Int32)))).2 (by decide) (by decide) ?_
    refine XS.aloadN X1306.here hx rfl (hb hby d5_87) rfl rfl ?_
    refine st1308 _ ?_
    refine XS.aloadN X1308.here hx rfl (hb hby d5_91) rfl rfl ?_
    refine st1309 _ ?_
    refine XS.lloadN X1309.here hx rfl (hb hby d5_95) rfl ?_
    refine st1311 _ ?_
    refine XS.aloadN X1311.here hx rfl (hb hby d5_97) rfl rfl ?_
    refine st1321 _ ?_
    refine XS.aloadN X1321.here hx rfl (hb hby d5_101) rfl rfl ?_
    refine st1322 _ ?_
    show Steps p.tables e below (T1322.setTop (mkF m 105 #[.val (.ref a1), .val (.long q2), .second, .val (.int p4), .val (.int p5)] [(.int (3 : Int32)), (.ref ac1297)])) _
    refine XS.iloadN X1322.here hx rfl (hb hby d5_105) rfl ?_
    refine st1324 _ ?_
    refine XS.aloadN X1324.here hx rfl (hb hby d5_107) rfl rfl ?_
    refine XS.dup X1324.here hx rfl (hb hby d5_108) rfl rfl ?_
    refine st1334 _ ?_
    refine XS.iconst X1334.here hx rfl (hb hby d5_112) ?_
    refine XS.iadd X1334.here hx rfl (hb hby d5_113) rfl ?_
    refine st1335 _ ?_
    exact kt)
  have hz : h0.size ≤ h1335.size := Nat.le_trans (Nat.le_trans (Nat.le_trans (Nat.le_refl _) (Keep.of_wr W1311).1) (Keep.of_wr W1324).1) (Keep.of_wr W1335).1
  have hQ : QCnt234a Z a1 q2 p4 p5 x0 x1 x2 x3 y0 y1 y2 y3 b h0 n0 none h1335 _ := ⟨rfl, N1335, hz, ⟨am1297, ac1297, km1297, kc1297, c1337, c1338, c1339, c1340, Fw1335, c1342, c1343, c1344, Ga1297, Gm1297, Gc1297, n11297, n21297, n31297⟩⟩
  exact own_retV X1335 hx Bd.notSynchronized Bd.returns (hb hby d5_117) pre1345 (show QCnt234a Z a1 q2 p4 p5 x0 x1 x2 x3 y0 y1 y2 y3 b h0 n0 _ _ _ from (by rw [e1335]; exact hQ)) (by decide) (by decide)
def QCnt234o (Z : State) (a1 : Addr) (q2 : Int64) (p4 p5 : Int32) (x0 : Int64) (x1 : Int64) (x2 : Int64) (x3 : Int64) (y0 : Int32) (y1 : Int32) (y2 : Int32) (y3 : Int32) (b : Int32) (h0 : Heap) (n0 : Nat) (v : Option Value) (h : Heap) (L : List Loc) : Prop := v = none ∧ Fr n0 L ∧ h0.size ≤ h.size ∧ PT Z h n0 a1 (2 : Int32) (3 : Int32) (4 : Int32) [(.long x0), (.long x1), (.long x2), (.long x3)] [(.int y0), (.int y1), (.int p4), (.int y3)] b
set_option maxRecDepth 65536 in
set_option maxHeartbeats 40000000 in
theorem rmCnt234o (l : Launch) (Z : State) (a0 : Array Value) (hw : ∀ d ∈ tables_1, d.before a0 Z = true) (ws : List Jvm.Cond) (a1 : Addr) (q2 : Int64) (p4 p5 : Int32) (x0 : Int64) (x1 : Int64) (x2 : Int64) (x3 : Int64) (y0 : Int32) (y1 : Int32) (y2 : Int32) (y3 : Int32) (b : Int32) (h0 : Heap) (n0 : Nat) (Z0 : n0 ≤ h0.size) (P0 : PT Z h0 n0 a1 (2 : Int32) (3 : Int32) (4 : Int32) [(.long x0), (.long x1), (.long x2), (.long x3)] [(.int y0), (.int y1), (.int y2), (.int y3)] b) (c0 : ¬ (x2 < q2)) :
    MetFree l own_y_103 (head1 (Jvm.Cond.code own_y_103 prog_25_method_2_code 5 none :: ws) ({ frames := 0, cells := 0, slots := 0, locals := 0 } : Room)) (fun a U => a = #[(.ref a1), (.long q2), (.int p4), (.int p5)] ∧ Z.Warmed39 U.vm ∧ U.heap = h0) (fun _ _ _ _ _ => True) (fun _ U o U' => ∃ v L, o = .returned v ∧ QCnt234o Z a1 q2 p4 p5 x0 x1 x2 x3 y0 y1 y2 y3 b h0 n0 v U'.heap L ∧ FrameEnd U o U' L ({ frames := 0, cells := 0, slots := 0, locals := 0 } : Room).cells ({ frames := 0, cells := 0, slots := 0, locals := 0 } : Room).slots) := by
  refine MetFree.of_bodySF (plainFor_of_name pn_2) hisR ?_
  intro p e s m args below meth c s₁ Bd hml0 hP hK
  obtain ⟨rfl, hZ, hh⟩ := hP
  have hx := Bd.exec
  have hby := Bd.bytes
  have hml : c.maxLocals = 5 := hml0
  have hown : s.vm.findClass "com/example/viral_counter/viralcounter/PostTrend" = some m.cls := findClass_of_methodNamed Bd.named
  have hnm := (name_of_methodNamed Bd.named Bd.method).1
  have X0 : Stand p l e ({ frames := 0, cells := 0, slots := 0, locals := 0 } : Room) s m #[(.ref a1), (.long q2), (.int p4), (.int p5)] below meth c s₁ [] 0 0 := Stand.of_body Bd
  have e0 : s₁.heap = h0 := by rw [← hh, Bd.state]; rfl
  have N0 := Fr.nil n0
  have pre0 : ∀ t, Steps p.tables e below (s₁.setTop (mkF m 0 #[.val (.ref a1), .val (.long q2), .second, .val (.int p4), .val (.int p5)] [])) t → Steps p.tables e below (s₁.setTop (entryFrame m #[(.ref a1), (.long q2), (.int p4), (.int p5)] 5)) t := fun t k => castTop (ef_104 m a1 q2 p4 p5) k
  obtain ⟨am1350, ac1350, km1350, kc1350, E1350, Fm1350, Fc1350, Ff1350, Fe1350, Fb1350, Vm1350, Vc1350, Ga1350, Gm1350, Gc1350, n11350, n21350, n31350⟩ := id P0
  have hz0 : h0.size ≤ h0.size := Nat.le_refl _
  obtain ⟨T1351, X1351, e1351, st1351⟩ := getF X0 hx hZ hown (host := "") (Or.inl (own_w hw 24 rfl)) Via.refl e0 Ff1350 (g := (mkF m 1 #[.val (.ref a1), .val (.long q2), .second, .val (.int p4), .val (.int p5)] [(.ref a1)])) rfl rfl (hb hby d5_1)
  obtain ⟨T1352, X1352, e1352, st1352⟩ := getF X1351 hx hZ hown (host := "") (Or.inl (own_w hw 26 rfl)) Via.refl e1351 Fe1350 (g := (mkF m 5 #[.val (.ref a1), .val (.long q2), .second, .val (.int p4), .val (.int p5)] [(.ref a1), (.int (2 : Int32))])) rfl rfl (hb hby d5_5)
  obtain ⟨T1353, X1353, e1353, st1353⟩ := getF X1352 hx hZ hown (host := "") (Or.inl (own_w hw 24 rfl)) Via.refl e1352 Ff1350 (g := (mkF m 30 #[.val (.ref a1), .val (.long q2), .second, .val (.int p4), .val (.int p5)] [(.ref a1)])) rfl rfl (hb hby d5_30)
  obtain ⟨T1354, X1354, e1354, st1354⟩ := getF X1353 hx hZ hown (host := "") (Or.inl (own_w hw 26 rfl)) Via.refl e1353 Fe1350 (g := (mkF m 34 #[.val (.ref a1), .val (.long q2), .second, .val (.int p4), .val (.int p5)] [(.ref a1), (.int (2 : Int32))])) rfl rfl (hb hby d5_34)
  obtain ⟨T1355, X1355, e1355, st1355⟩ := getF X1354 hx hZ hown (host := "") (Or.inl (own_w hw 14 rfl)) Via.refl e1354 Fm1350 (g := (mkF m 42 #[.val (.ref a1), .val (.long q2), .second, .val (.int p4), .val (.int p5)] [(.ref a1), (.long q2)])) rfl rfl (hb hby d5_42)
  obtain ⟨T1356, X1356, e1356, st1356⟩ := getF X1355 hx hZ hown (host := "") (Or.inl (own_w hw 26 rfl)) Via.refl e1355 Fe1350 (g := (mkF m 46 #[.val (.ref a1), .val (.long q2), .second, .val (.int p4), .val (.int p5)] [(.ref a1), (.ref am1350), (.long q2)])) rfl rfl (hb hby d5_46)
  obtain ⟨cl1357, A1357, q1357, S1357, M1357, H1357, J1357⟩ := id Vm1350
  have hin1357 : ¬ ((2 : Int32) < 0 ∨ cl1357.slots.size ≤ ((2 : Int32)).toNatClampNeg) := inb_of S1357 ⟨by decide, by decide⟩
  have hat1357 : cl1357.slots[((2 : Int32)).toNatClampNeg]? = some (.long x2) := H1357.at hin1357 rfl
  obtain ⟨T1358, X1358, e1358, st1358⟩ := getF X1356 hx hZ hown (host := "") (Or.inl (own_w hw 17 rfl)) Via.refl e1356 Fc1350 (g := (mkF m 57 #[.val (.ref a1), .val (.long q2), .second, .val (.int p4), .val (.int p5)] [(.ref a1)])) rfl rfl (hb hby d5_57)
  obtain ⟨T1359, X1359, e1359, st1359⟩ := getF X1358 hx hZ hown (host := "") (Or.inl (own_w hw 26 rfl)) Via.refl e1358 Fe1350 (g := (mkF m 61 #[.val (.ref a1), .val (.long q2), .second, .val (.int p4), .val (.int p5)] [(.ref a1), (.ref ac1350)])) rfl rfl (hb hby d5_61)
  obtain ⟨cl1360, Ar1360, q1360, S1360, M1360, H1360, J1360⟩ := id Vc1350
  have hin1360 : ¬ ((2 : Int32) < 0 ∨ cl1360.slots.size ≤ ((2 : Int32)).toNatClampNeg) := inb_of S1360 ⟨by decide, by decide⟩
  obtain ⟨T1361, h1361, X1361, e1361, W1361, st1361⟩ := stI X1359 hx hZ e1359 Ar1360 (j := (2 : Int32)) hin1360 (g := (mkF m 67 #[.val (.ref a1), .val (.long q2), .second, .val (.int p4), .val (.int p5)] [(.int p4), (.int (2 : Int32)), (.ref ac1350)])) rfl rfl (hb hby d5_67)
  have V1361 : Arv Z h1361 ac1350 kc1350 .int (4 : Int32) [(.int y0), (.int y1), (.int p4), (.int y3)] (.int (0 : Int32)) := Arv.set Ar1360 q1360 S1360 M1360 H1360 J1360 rfl W1361 2 rfl (Nat.le_of_ble_eq_true rfl)
  have N1361 := Fr.snoc X1361 N0 Gc1350
  have z1362 : n0 ≤ h1361.size := Nat.le_trans Z0 (Keep.of_wr W1361).1
  have c1363 := E1350.wr W1361
  have c1364 := Fm1350.other W1361 (Or.inl n21350)
  have c1365 := Fc1350.other W1361 (Or.inl n21350)
  have c1366 := Ff1350.other W1361 (Or.inl n21350)
  have c1367 := Fe1350.other W1361 (Or.inl n21350)
  have c1368 := Fb1350.other W1361 (Or.inl n21350)
  have c1369 := Vm1350.other W1361 n31350
  have pre1371 : ∀ t, Steps p.tables e below (T1361.setTop (mkF m 117 #[.val (.ref a1), .val (.long q2), .second, .val (.int p4), .val (.int p5)] [])) t → Steps p.tables e below (s₁.setTop (entryFrame m #[(.ref a1), (.long q2), (.int p4), (.int p5)] 5)) t := fun t kt => pre0 t (by
    show Steps p.tables e below (s₁.setTop (mkF m 0 #[.val (.ref a1), .val (.long q2), .second, .val (.int p4), .val (.int p5)] [])) _
    refine XS.aloadN X0.here hx rfl (hb hby d5_0) rfl rfl ?_
    refine st1351 _ ?_
    refine XS.aloadN X1351.here hx rfl (hb hby d5_4) rfl rfl ?_
    refine st1352 _ ?_
    refine XS.icmpYes X1352.here hx rfl (pc0 := 8) (pc' := 29) rfl (hb hby d5_8) rfl (feq (by decide : ¬ ((2 : Int32) = (3 : Int32)))).2 (by decide) (by decide) ?_
    refine XS.aloadN X1352.here hx rfl (hb hby d5_29) rfl rfl ?_
    refine st1353 _ ?_
    refine XS.aloadN X1353.here hx rfl (hb hby d5_33) rfl rfl ?_
    refine st1354 _ ?_
    refine XS.icmpNo X1354.here hx rfl (hb hby d5_37) rfl (tlt (by decide : (2 : Int32) < (3 : Int32))).2.1 ?_
    refine XS.lloadN X1354.here hx rfl (hb hby d5_40) rfl ?_
    refine XS.aloadN X1354.here hx rfl (hb hby d5_41) rfl rfl ?_
    show Steps p.tables e below (T1354.setTop (mkF m 42 #[.val (.ref a1), .val (.long q2), .second, .val (.int p4), .val (.int p5)] [(.ref a1), (.long q2)])) _
    refine st1355 _ ?_
    refine XS.aloadN X1355.here hx rfl (hb hby d5_45) rfl rfl ?_
    refine st1356 _ ?_
    refine XS.iconst X1356.here hx rfl (hb hby d5_49) ?_
    refine XS.isub X1356.here hx rfl (hb hby d5_50) rfl ?_
    refine X1356.laload hx (j := (2 : Int32)) (v := (.long x2)) (by rw [e1356]; exact A1357.1) (State.isArrayOf_alike hZ.alike A1357.2.1) A1357.2.2 hin1357 hat1357 (g := (mkF m 51 #[.val (.ref a1), .val (.long q2), .second, .val (.int p4), .val (.int p5)] [(.int (2 : Int32)), (.ref am1350), (.long q2)])) rfl rfl (hb hby d5_51) _ ?_
    refine XS.lcmp X1356.here hx rfl (hb hby d5_52) rfl ?_
    refine XS.ifNo X1356.here hx rfl (hb hby d5_53) rfl ((if0 _ _).trans (flt (fun q => c0 ((lw_gt _ _).mp q))).2.2.1) ?_
    refine XS.aloadN X1356.here hx rfl (hb hby d5_56) rfl rfl ?_
    refine st1358 _ ?_
    refine XS.aloadN X1358.here hx rfl (hb hby d5_60) rfl rfl ?_
    refine st1359 _ ?_
    show Steps p.tables e below (T1359.setTop (mkF m 64 #[.val (.ref a1), .val (.long q2), .second, .val (.int p4), .val (.int p5)] [(.int (3 : Int32)), (.ref ac1350)])) _
    refine XS.iconst X1359.here hx rfl (hb hby d5_64) ?_
    refine XS.isub X1359.here hx rfl (hb hby d5_65) rfl ?_
    refine XS.iloadN X1359.here hx rfl (hb hby d5_66) rfl ?_
    refine st1361 _ ?_
    refine XS.goto X1361.here hx rfl (pc0 := 68) (pc' := 117) rfl (hb hby d5_68) (by decide) (by decide) ?_
    exact kt)
  have hz : h0.size ≤ h1361.size := Nat.le_trans (Nat.le_refl _) (Keep.of_wr W1361).1
  have hQ : QCnt234o Z a1 q2 p4 p5 x0 x1 x2 x3 y0 y1 y2 y3 b h0 n0 none h1361 _ := ⟨rfl, N1361, hz, ⟨am1350, ac1350, km1350, kc1350, c1363, c1364, c1365, c1366, c1367, c1368, c1369, V1361, Ga1350, Gm1350, Gc1350, n11350, n21350, n31350⟩⟩
  exact own_retV X1361 hx Bd.notSynchronized Bd.returns (hb hby d5_117) pre1371 (show QCnt234o Z a1 q2 p4 p5 x0 x1 x2 x3 y0 y1 y2 y3 b h0 n0 _ _ _ from (by rw [e1361]; exact hQ)) (by decide) (by decide)
def QFgt034_1 (Z : State) (a1 : Addr) (q2 : Int64) (x0 : Int64) (x1 : Int64) (x2 : Int64) (x3 : Int64) (y0 : Int32) (y1 : Int32) (y2 : Int32) (y3 : Int32) (b : Int32) (h0 : Heap) (n0 : Nat) (v : Option Value) (h : Heap) (L : List Loc) : Prop := v = none ∧ Fr n0 L ∧ h0.size ≤ h.size ∧ PT Z h n0 a1 (1 : Int32) (3 : Int32) (4 : Int32) [(.long x0), (.long x1), (.long x2), (.long x3)] [(.int y0), (.int y1), (.int y2), (.int y3)] y0
set_option maxRecDepth 65536 in
set_option maxHeartbeats 40000000 in
theorem rmFgt034_1 (l : Launch) (Z : State) (a0 : Array Value) (hw : ∀ d ∈ tables_1, d.before a0 Z = true) (ws : List Jvm.Cond) (a1 : Addr) (q2 : Int64) (x0 : Int64) (x1 : Int64) (x2 : Int64) (x3 : Int64) (y0 : Int32) (y1 : Int32) (y2 : Int32) (y3 : Int32) (b : Int32) (h0 : Heap) (n0 : Nat) (Z0 : n0 ≤ h0.size) (P0 : PT Z h0 n0 a1 (0 : Int32) (3 : Int32) (4 : Int32) [(.long x0), (.long x1), (.long x2), (.long x3)] [(.int y0), (.int y1), (.int y2), (.int y3)] b) (c0 : x0 < q2) (c1 : ¬ (x1 < q2)) :
    MetFree l own_y_113 (head1 (Jvm.Cond.code own_y_113 prog_25_method_4_code 3 none :: ws) ({ frames := 0, cells := 0, slots := 0, locals := 0 } : Room)) (fun a U => a = #[(.ref a1), (.long q2)] ∧ Z.Warmed39 U.vm ∧ U.heap = h0) (fun _ _ _ _ _ => True) (fun _ U o U' => ∃ v L, o = .returned v ∧ QFgt034_1 Z a1 q2 x0 x1 x2 x3 y0 y1 y2 y3 b h0 n0 v U'.heap L ∧ FrameEnd U o U' L ({ frames := 0, cells := 0, slots := 0, locals := 0 } : Room).cells ({ frames := 0, cells := 0, slots := 0, locals := 0 } : Room).slots) := by
  refine MetFree.of_bodySF (plainFor_of_name pn_2) hisR ?_
  intro p e s m args below meth c s₁ Bd hml0 hP hK
  obtain ⟨rfl, hZ, hh⟩ := hP
  have hx := Bd.exec
  have hby := Bd.bytes
  have hml : c.maxLocals = 3 := hml0
  have hown : s.vm.findClass "com/example/viral_counter/viralcounter/PostTrend" = some m.cls := findClass_of_methodNamed Bd.named
  have hnm := (name_of_methodNamed Bd.named Bd.method).1
  have X0 : Stand p l e ({ frames := 0, cells := 0, slots := 0, locals := 0 } : Room) s m #[(.ref a1), (.long q2)] below meth c s₁ [] 0 0 := Stand.of_body Bd
  have e0 : s₁.heap = h0 := by rw [← hh, Bd.state]; rfl
  have N0 := Fr.nil n0
  have pre0 : ∀ t, Steps p.tables e below (s₁.setTop (mkF m 0 #[.val (.ref a1), .val (.long q2), .second] [])) t → Steps p.tables e below (s₁.setTop (entryFrame m #[(.ref a1), (.long q2)] 3)) t := fun t k => castTop (ef_114 m a1 q2) k
  obtain ⟨am1376, ac1376, km1376, kc1376, E1376, Fm1376, Fc1376, Ff1376, Fe1376, Fb1376, Vm1376, Vc1376, Ga1376, Gm1376, Gc1376, n11376, n21376, n31376⟩ := id P0
  have hz0 : h0.size ≤ h0.size := Nat.le_refl _
  obtain ⟨T1377, X1377, e1377, st1377⟩ := getF X0 hx hZ hown (host := "") (Or.inl (own_w hw 24 rfl)) Via.refl e0 Ff1376 (g := (mkF m 1 #[.val (.ref a1), .val (.long q2), .second] [(.ref a1)])) rfl rfl (hb hby d13_1)
  obtain ⟨T1378, X1378, e1378, st1378⟩ := getF X1377 hx hZ hown (host := "") (Or.inl (own_w hw 26 rfl)) Via.refl e1377 Fe1376 (g := (mkF m 5 #[.val (.ref a1), .val (.long q2), .second] [(.ref a1), (.int (0 : Int32))])) rfl rfl (hb hby d13_5)
  obtain ⟨T1379, X1379, e1379, st1379⟩ := getF X1378 hx hZ hown (host := "") (Or.inl (own_w hw 14 rfl)) Via.refl e1378 Fm1376 (g := (mkF m 12 #[.val (.ref a1), .val (.long q2), .second] [(.ref a1)])) rfl rfl (hb hby d13_12)
  obtain ⟨T1380, X1380, e1380, st1380⟩ := getF X1379 hx hZ hown (host := "") (Or.inl (own_w hw 24 rfl)) Via.refl e1379 Ff1376 (g := (mkF m 16 #[.val (.ref a1), .val (.long q2), .second] [(.ref a1), (.ref am1376)])) rfl rfl (hb hby d13_16)
  obtain ⟨cl1381, A1381, q1381, S1381, M1381, H1381, J1381⟩ := id Vm1376
  have hin1381 : ¬ ((0 : Int32) < 0 ∨ cl1381.slots.size ≤ ((0 : Int32)).toNatClampNeg) := inb_of S1381 ⟨by decide, by decide⟩
  have hat1381 : cl1381.slots[((0 : Int32)).toNatClampNeg]? = some (.long x0) := H1381.at hin1381 rfl
  obtain ⟨T1382, X1382, e1382, st1382⟩ := getF X1380 hx hZ hown (host := "") (Or.inl (own_w hw 17 rfl)) Via.refl e1380 Fc1376 (g := (mkF m 27 #[.val (.ref a1), .val (.long q2), .second] [(.ref a1), (.ref a1)])) rfl rfl (hb hby d13_27)
  obtain ⟨T1383, X1383, e1383, st1383⟩ := getF X1382 hx hZ hown (host := "") (Or.inl (own_w hw 24 rfl)) Via.refl e1382 Ff1376 (g := (mkF m 31 #[.val (.ref a1), .val (.long q2), .second] [(.ref a1), (.ref ac1376), (.ref a1)])) rfl rfl (hb hby d13_31)
  obtain ⟨cl1384, A1384, q1384, S1384, M1384, H1384, J1384⟩ := id Vc1376
  have hin1384 : ¬ ((0 : Int32) < 0 ∨ cl1384.slots.size ≤ ((0 : Int32)).toNatClampNeg) := inb_of S1384 ⟨by decide, by decide⟩
  have hat1384 : cl1384.slots[((0 : Int32)).toNatClampNeg]? = some (.int y0) := H1384.at hin1384 rfl
  obtain ⟨T1385, h1385, X1385, e1385, W1385, st1385⟩ := putF X1383 hx hZ hown (host := "") (Or.inl (own_w hw 33 rfl)) Via.refl e1383 Fb1376 E1376 (Or.inl (own_w hw 34 rfl)) (own_w hw 5 rfl) (ty := .int) (by decide) rfl rfl (g := (mkF m 35 #[.val (.ref a1), .val (.long q2), .second] [(.int y0), (.ref a1)])) rfl rfl (hb hby d13_35)
  have Fw1385 := Fb1376.same W1385
  have N1385 := Fr.snoc X1385 N0 Ga1376
  have z1386 : n0 ≤ h1385.size := Nat.le_trans Z0 (Keep.of_wr W1385).1
  have c1387 := E1376.wr W1385
  have c1388 := Fm1376.other W1385 (Or.inr (own_sn_65 hw))
  have c1389 := Fc1376.other W1385 (Or.inr (own_sn_66 hw))
  have c1390 := Ff1376.other W1385 (Or.inr (own_sn_67 hw))
  have c1391 := Fe1376.other W1385 (Or.inr (own_sn_68 hw))
  have c1393 := Vm1376.other W1385 (Ne.symm n11376)
  have c1394 := Vc1376.other W1385 (Ne.symm n21376)
  obtain ⟨T1395, X1395, e1395, st1395⟩ := getF X1385 hx hZ hown (host := "") (Or.inl (own_w hw 24 rfl)) Via.refl e1385 c1390 (g := (mkF m 40 #[.val (.ref a1), .val (.long q2), .second] [(.ref a1), (.ref a1)])) rfl rfl (hb hby d13_40)
  obtain ⟨T1396, h1396, X1396, e1396, W1396, st1396⟩ := putF X1395 hx hZ hown (host := "") (Or.inl (own_w hw 24 rfl)) Via.refl e1395 c1390 c1387 (Or.inl (own_w hw 25 rfl)) (own_w hw 5 rfl) (ty := .int) (by decide) rfl rfl (g := (mkF m 45 #[.val (.ref a1), .val (.long q2), .second] [(.int (1 : Int32)), (.ref a1)])) rfl rfl (hb hby d13_45)
  have Fw1396 := c1390.same W1396
  have N1396 := Fr.snoc X1396 N1385 Ga1376
  have z1397 : n0 ≤ h1396.size := Nat.le_trans z1386 (Keep.of_wr W1396).1
  have c1398 := c1387.wr W1396
  have c1399 := c1388.other W1396 (Or.inr (own_sn_156 hw))
  have c1400 := c1389.other W1396 (Or.inr (own_sn_157 hw))
  have c1402 := c1391.other W1396 (Or.inr (own_sn_158 hw))
  have c1403 := c1393.other W1396 (Ne.symm n11376)
  have c1404 := c1394.other W1396 (Ne.symm n21376)
  have c1405 := Fw1385.other W1396 (Or.inr (own_sn_159 hw))
  obtain ⟨T1406, X1406, e1406, st1406⟩ := getF X1396 hx hZ hown (host := "") (Or.inl (own_w hw 24 rfl)) Via.refl e1396 Fw1396 (g := (mkF m 1 #[.val (.ref a1), .val (.long q2), .second] [(.ref a1)])) rfl rfl (hb hby d13_1)
  obtain ⟨T1407, X1407, e1407, st1407⟩ := getF X1406 hx hZ hown (host := "") (Or.inl (own_w hw 26 rfl)) Via.refl e1406 c1402 (g := (mkF m 5 #[.val (.ref a1), .val (.long q2), .second] [(.ref a1), (.int (1 : Int32))])) rfl rfl (hb hby d13_5)
  obtain ⟨T1408, X1408, e1408, st1408⟩ := getF X1407 hx hZ hown (host := "") (Or.inl (own_w hw 14 rfl)) Via.refl e1407 c1399 (g := (mkF m 12 #[.val (.ref a1), .val (.long q2), .second] [(.ref a1)])) rfl rfl (hb hby d13_12)
  obtain ⟨T1409, X1409, e1409, st1409⟩ := getF X1408 hx hZ hown (host := "") (Or.inl (own_w hw 24 rfl)) Via.refl e1408 Fw1396 (g := (mkF m 16 #[.val (.ref a1), .val (.long q2), .second] [(.ref a1), (.ref am1376)])) rfl rfl (hb hby d13_16)
  obtain ⟨cl1410, A1410, q1410, S1410, M1410, H1410, J1410⟩ := id c1403
  have hin1410 : ¬ ((1 : Int32) < 0 ∨ cl1410.slots.size ≤ ((1 : Int32)).toNatClampNeg) := inb_of S1410 ⟨by decide, by decide⟩
  have hat1410 : cl1410.slots[((1 : Int32)).toNatClampNeg]? = some (.long x1) := H1410.at hin1410 rfl
  have pre1411 : ∀ t, Steps p.tables e below (T1409.setTop (mkF m 51 #[.val (.ref a1), .val (.long q2), .second] [])) t → Steps p.tables e below (s₁.setTop (entryFrame m #[(.ref a1), (.long q2)] 3)) t := fun t kt => pre0 t (by
    show Steps p.tables e below (s₁.setTop (mkF m 0 #[.val (.ref a1), .val (.long q2), .second] [])) _
    refine XS.aloadN X0.here hx rfl (hb hby d13_0) rfl rfl ?_
    refine st1377 _ ?_
    refine XS.aloadN X1377.here hx rfl (hb hby d13_4) rfl rfl ?_
    refine st1378 _ ?_
    refine XS.icmpNo X1378.here hx rfl (hb hby d13_8) rfl (tlt (by decide : (0 : Int32) < (3 : Int32))).2.1 ?_
    refine XS.aloadN X1378.here hx rfl (hb hby d13_11) rfl rfl ?_
    refine st1379 _ ?_
    refine XS.aloadN X1379.here hx rfl (hb hby d13_15) rfl rfl ?_
    refine st1380 _ ?_
    refine X1380.laload hx (j := (0 : Int32)) (v := (.long x0)) (by rw [e1380]; exact A1381.1) (State.isArrayOf_alike hZ.alike A1381.2.1) A1381.2.2 hin1381 hat1381 (g := (mkF m 19 #[.val (.ref a1), .val (.long q2), .second] [(.int (0 : Int32)), (.ref am1376)])) rfl rfl (hb hby d13_19) _ ?_
    refine XS.lloadN X1380.here hx rfl (hb hby d13_20) rfl ?_
    refine XS.lcmp X1380.here hx rfl (hb hby d13_21) rfl ?_
    show Steps p.tables e below (T1380.setTop (mkF m 22 #[.val (.ref a1), .val (.long q2), .second] [(.int (lcmpW x0 q2))])) _
    refine XS.ifNo X1380.here hx rfl (hb hby d13_22) rfl ((if0 _ _).trans (tlt ((lw_lt _ _).mpr c0)).2.1) ?_
    refine XS.aloadN X1380.here hx rfl (hb hby d13_25) rfl rfl ?_
    refine XS.aloadN X1380.here hx rfl (hb hby d13_26) rfl rfl ?_
    refine st1382 _ ?_
    refine XS.aloadN X1382.here hx rfl (hb hby d13_30) rfl rfl ?_
    refine st1383 _ ?_
    refine X1383.iaload hx (j := (0 : Int32)) (v := (.int y0)) (by rw [e1383]; exact A1384.1) (State.isArrayOf_alike hZ.alike A1384.2.1) A1384.2.2 hin1384 hat1384 (g := (mkF m 34 #[.val (.ref a1), .val (.long q2), .second] [(.int (0 : Int32)), (.ref ac1376), (.ref a1)])) rfl rfl (hb hby d13_34) _ ?_
    refine st1385 _ ?_
    refine XS.aloadN X1385.here hx rfl (hb hby d13_38) rfl rfl ?_
    refine XS.dup X1385.here hx rfl (hb hby d13_39) rfl rfl ?_
    refine st1395 _ ?_
    refine XS.iconst X1395.here hx rfl (hb hby d13_43) ?_
    show Steps p.tables e below (T1395.setTop (mkF m 44 #[.val (.ref a1), .val (.long q2), .second] [(.int (1 : Int32)), (.int (0 : Int32)), (.ref a1)])) _
    refine XS.iadd X1395.here hx rfl (hb hby d13_44) rfl ?_
    refine st1396 _ ?_
    refine XS.goto X1396.here hx rfl (pc0 := 48) (pc' := 0) rfl (hb hby d13_48) (by decide) (by decide) ?_
    refine XS.aloadN X1396.here hx rfl (hb hby d13_0) rfl rfl ?_
    refine st1406 _ ?_
    refine XS.aloadN X1406.here hx rfl (hb hby d13_4) rfl rfl ?_
    refine st1407 _ ?_
    refine XS.icmpNo X1407.here hx rfl (hb hby d13_8) rfl (tlt (by decide : (1 : Int32) < (3 : Int32))).2.1 ?_
    refine XS.aloadN X1407.here hx rfl (hb hby d13_11) rfl rfl ?_
    refine st1408 _ ?_
    refine XS.aloadN X1408.here hx rfl (hb hby d13_15) rfl rfl ?_
    refine st1409 _ ?_
    show Steps p.tables e below (T1409.setTop (mkF m 19 #[.val (.ref a1), .val (.long q2), .second] [(.int (1 : Int32)), (.ref am1376)])) _
    refine X1409.laload hx (j := (1 : Int32)) (v := (.long x1)) (by rw [e1409]; exact A1410.1) (State.isArrayOf_alike hZ.alike A1410.2.1) A1410.2.2 hin1410 hat1410 (g := (mkF m 19 #[.val (.ref a1), .val (.long q2), .second] [(.int (1 : Int32)), (.ref am1376)])) rfl rfl (hb hby d13_19) _ ?_
    refine XS.lloadN X1409.here hx rfl (hb hby d13_20) rfl ?_
    refine XS.lcmp X1409.here hx rfl (hb hby d13_21) rfl ?_
    refine XS.ifYes X1409.here hx rfl (pc0 := 22) (pc' := 51) rfl (hb hby d13_22) rfl ((if0 _ _).trans (flt (fun q => c1 ((lw_lt _ _).mp q))).2.1) (by decide) (by decide) ?_
    exact kt)
  have hz : h0.size ≤ h1396.size := Nat.le_trans (Nat.le_trans (Nat.le_refl _) (Keep.of_wr W1385).1) (Keep.of_wr W1396).1
  have hQ : QFgt034_1 Z a1 q2 x0 x1 x2 x3 y0 y1 y2 y3 b h0 n0 none h1396 _ := ⟨rfl, N1396, hz, ⟨am1376, ac1376, km1376, kc1376, c1398, c1399, c1400, Fw1396, c1402, c1405, c1403, c1404, Ga1376, Gm1376, Gc1376, n11376, n21376, n31376⟩⟩
  exact own_retV X1409 hx Bd.notSynchronized Bd.returns (hb hby d13_51) pre1411 (show QFgt034_1 Z a1 q2 x0 x1 x2 x3 y0 y1 y2 y3 b h0 n0 _ _ _ from (by rw [e1409]; exact hQ)) (by decide) (by decide)
def QCnt134a (Z : State) (a1 : Addr) (q2 : Int64) (p4 p5 : Int32) (x0 : Int64) (x1 : Int64) (x2 : Int64) (x3 : Int64) (y0 : Int32) (y1 : Int32) (y2 : Int32) (y3 : Int32) (b : Int32) (h0 : Heap) (n0 : Nat) (v : Option Value) (h : Heap) (L : List Loc) : Prop := v = none ∧ Fr n0 L ∧ h0.size ≤ h.size ∧ PT Z h n0 a1 (1 : Int32) (4 : Int32) (4 : Int32) [(.long x0), (.long x1), (.long x2), (.long q2)] [(.int y0), (.int y1), (.int y2), (.int p4)] b
set_option maxRecDepth 65536 in
set_option maxHeartbeats 40000000 in
theorem rmCnt134a (l : Launch) (Z : State) (a0 : Array Value) (hw : ∀ d ∈ tables_1, d.before a0 Z = true) (ws : List Jvm.Cond) (a1 : Addr) (q2 : Int64) (p4 p5 : Int32) (x0 : Int64) (x1 : Int64) (x2 : Int64) (x3 : Int64) (y0 : Int32) (y1 : Int32) (y2 : Int32) (y3 : Int32) (b : Int32) (h0 : Heap) (n0 : Nat) (Z0 : n0 ≤ h0.size) (P0 : PT Z h0 n0 a1 (1 : Int32) (3 : Int32) (4 : Int32) [(.long x0), (.long x1), (.long x2), (.long x3)] [(.int y0), (.int y1), (.int y2), (.int y3)] b) (c0 : x2 < q2) :
    MetFree l own_y_103 (head1 (Jvm.Cond.code own_y_103 prog_25_method_2_code 5 none :: ws) ({ frames := 0, cells := 0, slots := 0, locals := 0 } : Room)) (fun a U => a = #[(.ref a1), (.long q2), (.int p4), (.int p5)] ∧ Z.Warmed39 U.vm ∧ U.heap = h0) (fun _ _ _ _ _ => True) (fun _ U o U' => ∃ v L, o = .returned v ∧ QCnt134a Z a1 q2 p4 p5 x0 x1 x2 x3 y0 y1 y2 y3 b h0 n0 v U'.heap L ∧ FrameEnd U o U' L ({ frames := 0, cells := 0, slots := 0, locals := 0 } : Room).cells ({ frames := 0, cells := 0, slots := 0, locals := 0 } : Room).slots) := by
  refine MetFree.of_bodySF (plainFor_of_name pn_2) hisR ?_
  intro p e s m args below meth c s₁ Bd hml0 hP hK
  obtain ⟨rfl, hZ, hh⟩ := hP
  have hx := Bd.exec
  have hby := Bd.bytes
  have hml : c.maxLocals = 5 := hml0
  have hown : s.vm.findClass "com/example/viral_counter/viralcounter/PostTrend" = some m.cls := findClass_of_methodNamed Bd.named
  have hnm := (name_of_methodNamed Bd.named Bd.method).1
  have X0 : Stand p l e ({ frames := 0, cells := 0, slots := 0, locals := 0 } : Room) s m #[(.ref a1), (.long q2), (.int p4), (.int p5)] below meth c s₁ [] 0 0 := Stand.of_body Bd
  have e0 : s₁.heap = h0 := by rw [← hh, Bd.state]; rfl
  have N0 := Fr.nil n0
  have pre0 : ∀ t, Steps p.tables e below (s₁.setTop (mkF m 0 #[.val (.ref a1), .val (.long q2), .second, .val (.int p4), .val (.int p5)] [])) t → Steps p.tables e below (s₁.setTop (entryFrame m #[(.ref a1), (.long q2), (.int p4), (.int p5)] 5)) t := fun t k => castTop (ef_104 m a1 q2 p4 p5) k
  obtain ⟨am1422, ac1422, km1422, kc1422, E1422, Fm1422, Fc1422, Ff1422, Fe1422, Fb1422, Vm1422, Vc1422, Ga1422, Gm1422, Gc1422, n11422, n21422, n31422⟩ := id P0
  have hz0 : h0.size ≤ h0.size := Nat.le_refl _
  obtain ⟨T1423, X1423, e1423, st1423⟩ := getF X0 hx hZ hown (host := "") (Or.inl (own_w hw 24 rfl)) Via.refl e0 Ff1422 (g := (mkF m 1 #[.val (.ref a1), .val (.long q2), .second, .val (.int p4), .val (.int p5)] [(.ref a1)])) rfl rfl (hb hby d5_1)
  obtain ⟨T1424, X1424, e1424, st1424⟩ := getF X1423 hx hZ hown (host := "") (Or.inl (own_w hw 26 rfl)) Via.refl e1423 Fe1422 (g := (mkF m 5 #[.val (.ref a1), .val (.long q2), .second, .val (.int p4), .val (.int p5)] [(.ref a1), (.int (1 : Int32))])) rfl rfl (hb hby d5_5)
  obtain ⟨T1425, X1425, e1425, st1425⟩ := getF X1424 hx hZ hown (host := "") (Or.inl (own_w hw 24 rfl)) Via.refl e1424 Ff1422 (g := (mkF m 30 #[.val (.ref a1), .val (.long q2), .second, .val (.int p4), .val (.int p5)] [(.ref a1)])) rfl rfl (hb hby d5_30)
  obtain ⟨T1426, X1426, e1426, st1426⟩ := getF X1425 hx hZ hown (host := "") (Or.inl (own_w hw 26 rfl)) Via.refl e1425 Fe1422 (g := (mkF m 34 #[.val (.ref a1), .val (.long q2), .second, .val (.int p4), .val (.int p5)] [(.ref a1), (.int (1 : Int32))])) rfl rfl (hb hby d5_34)
  obtain ⟨T1427, X1427, e1427, st1427⟩ := getF X1426 hx hZ hown (host := "") (Or.inl (own_w hw 14 rfl)) Via.refl e1426 Fm1422 (g := (mkF m 42 #[.val (.ref a1), .val (.long q2), .second, .val (.int p4), .val (.int p5)] [(.ref a1), (.long q2)])) rfl rfl (hb hby d5_42)
  obtain ⟨T1428, X1428, e1428, st1428⟩ := getF X1427 hx hZ hown (host := "") (Or.inl (own_w hw 26 rfl)) Via.refl e1427 Fe1422 (g := (mkF m 46 #[.val (.ref a1), .val (.long q2), .second, .val (.int p4), .val (.int p5)] [(.ref a1), (.ref am1422), (.long q2)])) rfl rfl (hb hby d5_46)
  obtain ⟨cl1429, A1429, q1429, S1429, M1429, H1429, J1429⟩ := id Vm1422
  have hin1429 : ¬ ((2 : Int32) < 0 ∨ cl1429.slots.size ≤ ((2 : Int32)).toNatClampNeg) := inb_of S1429 ⟨by decide, by decide⟩
  have hat1429 : cl1429.slots[((2 : Int32)).toNatClampNeg]? = some (.long x2) := H1429.at hin1429 rfl
  obtain ⟨T1430, X1430, e1430, st1430⟩ := getF X1428 hx hZ hown (host := "") (Or.inl (own_w hw 26 rfl)) Via.refl e1428 Fe1422 (g := (mkF m 72 #[.val (.ref a1), .val (.long q2), .second, .val (.int p4), .val (.int p5)] [(.ref a1)])) rfl rfl (hb hby d5_72)
  obtain ⟨T1431, X1431, e1431, st1431⟩ := getF X1430 hx hZ hown (host := "") (Or.inl (own_w hw 14 rfl)) Via.refl e1430 Fm1422 (g := (mkF m 76 #[.val (.ref a1), .val (.long q2), .second, .val (.int p4), .val (.int p5)] [(.ref a1), (.int (3 : Int32))])) rfl rfl (hb hby d5_76)
  obtain ⟨cl1432, A1432, q1432, S1432, M1432, H1432, J1432⟩ := id Vm1422
  obtain ⟨T1433, X1433, e1433, st1433⟩ := getF X1431 hx hZ hown (host := "") (Or.inl (own_w hw 14 rfl)) Via.refl e1431 Fm1422 (g := (mkF m 88 #[.val (.ref a1), .val (.long q2), .second, .val (.int p4), .val (.int p5)] [(.ref a1)])) rfl rfl (hb hby d5_88)
  obtain ⟨T1434, X1434, e1434, st1434⟩ := getF X1433 hx hZ hown (host := "") (Or.inl (own_w hw 26 rfl)) Via.refl e1433 Fe1422 (g := (mkF m 92 #[.val (.ref a1), .val (.long q2), .second, .val (.int p4), .val (.int p5)] [(.ref a1), (.ref am1422)])) rfl rfl (hb hby d5_92)
  obtain ⟨cl1435, Ar1435, q1435, S1435, M1435, H1435, J1435⟩ := id Vm1422
  have hin1435 : ¬ ((3 : Int32) < 0 ∨ cl1435.slots.size ≤ ((3 : Int32)).toNatClampNeg) := inb_of S1435 ⟨by decide, by decide⟩
  obtain ⟨T1436, h1436, X1436, e1436, W1436, st1436⟩ := stJ X1434 hx hZ e1434 Ar1435 (j := (3 : Int32)) hin1435 (g := (mkF m 96 #[.val (.ref a1), .val (.long q2), .second, .val (.int p4), .val (.int p5)] [(.long q2), (.int (3 : Int32)), (.ref am1422)])) rfl rfl (hb hby d5_96)
  have V1436 : Arv Z h1436 am1422 km1422 .long (4 : Int32) [(.long x0), (.long x1), (.long x2), (.long q2)] (.long (0 : Int64)) := Arv.set Ar1435 q1435 S1435 M1435 H1435 J1435 rfl W1436 3 rfl (Nat.le_of_ble_eq_true rfl)
  have N1436 := Fr.snoc X1436 N0 Gm1422
  have z1437 : n0 ≤ h1436.size := Nat.le_trans Z0 (Keep.of_wr W1436).1
  have c1438 := E1422.wr W1436
  have c1439 := Fm1422.other W1436 (Or.inl n11422)
  have c1440 := Fc1422.other W1436 (Or.inl n11422)
  have c1441 := Ff1422.other W1436 (Or.inl n11422)
  have c1442 := Fe1422.other W1436 (Or.inl n11422)
  have c1443 := Fb1422.other W1436 (Or.inl n11422)
  have c1445 := Vc1422.other W1436 (Ne.symm n31422)
  obtain ⟨T1446, X1446, e1446, st1446⟩ := getF X1436 hx hZ hown (host := "") (Or.inl (own_w hw 17 rfl)) Via.refl e1436 c1440 (g := (mkF m 98 #[.val (.ref a1), .val (.long q2), .second, .val (.int p4), .val (.int p5)] [(.ref a1)])) rfl rfl (hb hby d5_98)
  obtain ⟨T1447, X1447, e1447, st1447⟩ := getF X1446 hx hZ hown (host := "") (Or.inl (own_w hw 26 rfl)) Via.refl e1446 c1442 (g := (mkF m 102 #[.val (.ref a1), .val (.long q2), .second, .val (.int p4), .val (.int p5)] [(.ref a1), (.ref ac1422)])) rfl rfl (hb hby d5_102)
  obtain ⟨cl1448, Ar1448, q1448, S1448, M1448, H1448, J1448⟩ := id c1445
  have hin1448 : ¬ ((3 : Int32) < 0 ∨ cl1448.slots.size ≤ ((3 : Int32)).toNatClampNeg) := inb_of S1448 ⟨by decide, by decide⟩
  obtain ⟨T1449, h1449, X1449, e1449, W1449, st1449⟩ := stI X1447 hx hZ e1447 Ar1448 (j := (3 : Int32)) hin1448 (g := (mkF m 106 #[.val (.ref a1), .val (.long q2), .second, .val (.int p4), .val (.int p5)] [(.int p4), (.int (3 : Int32)), (.ref ac1422)])) rfl rfl (hb hby d5_106)
  have V1449 : Arv Z h1449 ac1422 kc1422 .int (4 : Int32) [(.int y0), (.int y1), (.int y2), (.int p4)] (.int (0 : Int32)) := Arv.set Ar1448 q1448 S1448 M1448 H1448 J1448 rfl W1449 3 rfl (Nat.le_of_ble_eq_true rfl)
  have N1449 := Fr.snoc X1449 N1436 Gc1422
  have z1450 : n0 ≤ h1449.size := Nat.le_trans z1437 (Keep.of_wr W1449).1
  have c1451 := c1438.wr W1449
  have c1452 := c1439.other W1449 (Or.inl n21422)
  have c1453 := c1440.other W1449 (Or.inl n21422)
  have c1454 := c1441.other W1449 (Or.inl n21422)
  have c1455 := c1442.other W1449 (Or.inl n21422)
  have c1456 := c1443.other W1449 (Or.inl n21422)
  have c1458 := V1436.other W1449 n31422
  obtain ⟨T1459, X1459, e1459, st1459⟩ := getF X1449 hx hZ hown (host := "") (Or.inl (own_w hw 26 rfl)) Via.refl e1449 c1455 (g := (mkF m 109 #[.val (.ref a1), .val (.long q2), .second, .val (.int p4), .val (.int p5)] [(.ref a1), (.ref a1)])) rfl rfl (hb hby d5_109)
  obtain ⟨T1460, h1460, X1460, e1460, W1460, st1460⟩ := putF X1459 hx hZ hown (host := "") (Or.inl (own_w hw 26 rfl)) Via.refl e1459 c1455 c1451 (Or.inl (own_w hw 27 rfl)) (own_w hw 5 rfl) (ty := .int) (by decide) rfl rfl (g := (mkF m 114 #[.val (.ref a1), .val (.long q2), .second, .val (.int p4), .val (.int p5)] [(.int (4 : Int32)), (.ref a1)])) rfl rfl (hb hby d5_114)
  have Fw1460 := c1455.same W1460
  have N1460 := Fr.snoc X1460 N1449 Ga1422
  have z1461 : n0 ≤ h1460.size := Nat.le_trans z1450 (Keep.of_wr W1460).1
  have c1462 := c1451.wr W1460
  have c1463 := c1452.other W1460 (Or.inr (own_sn_98 hw))
  have c1464 := c1453.other W1460 (Or.inr (own_sn_99 hw))
  have c1465 := c1454.other W1460 (Or.inr (own_sn_100 hw))
  have c1467 := c1456.other W1460 (Or.inr (own_sn_101 hw))
  have c1468 := c1458.other W1460 (Ne.symm n11422)
  have c1469 := V1449.other W1460 (Ne.symm n21422)
  have pre1470 : ∀ t, Steps p.tables e below (T1460.setTop (mkF m 117 #[.val (.ref a1), .val (.long q2), .second, .val (.int p4), .val (.int p5)] [])) t → Steps p.tables e below (s₁.setTop (entryFrame m #[(.ref a1), (.long q2), (.int p4), (.int p5)] 5)) t := fun t kt => pre0 t (by
    show Steps p.tables e below (s₁.setTop (mkF m 0 #[.val (.ref a1), .val (.long q2), .second, .val (.int p4), .val (.int p5)] [])) _
    refine XS.aloadN X0.here hx rfl (hb hby d5_0) rfl rfl ?_
    refine st1423 _ ?_
    refine XS.aloadN X1423.here hx rfl (hb hby d5_4) rfl rfl ?_
    refine st1424 _ ?_
    refine XS.icmpYes X1424.here hx rfl (pc0 := 8) (pc' := 29) rfl (hb hby d5_8) rfl (feq (by decide : ¬ ((1 : Int32) = (3 : Int32)))).2 (by decide) (by decide) ?_
    refine XS.aloadN X1424.here hx rfl (hb hby d5_29) rfl rfl ?_
    refine st1425 _ ?_
    refine XS.aloadN X1425.here hx rfl (hb hby d5_33) rfl rfl ?_
    refine st1426 _ ?_
    refine XS.icmpNo X1426.here hx rfl (hb hby d5_37) rfl (tlt (by decide : (1 : Int32) < (3 : Int32))).2.1 ?_
    refine XS.lloadN X1426.here hx rfl (hb hby d5_40) rfl ?_
    refine XS.aloadN X1426.here hx rfl (hb hby d5_41) rfl rfl ?_
    show Steps p.tables e below (T1426.setTop (mkF m 42 #[.val (.ref a1), .val (.long q2), .second, .val (.int p4), .val (.int p5)] [(.ref a1), (.long q2)])) _
    refine st1427 _ ?_
    refine XS.aloadN X1427.here hx rfl (hb hby d5_45) rfl rfl ?_
    refine st1428 _ ?_
    refine XS.iconst X1428.here hx rfl (hb hby d5_49) ?_
    refine XS.isub X1428.here hx rfl (hb hby d5_50) rfl ?_
    refine X1428.laload hx (j := (2 : Int32)) (v := (.long x2)) (by rw [e1428]; exact A1429.1) (State.isArrayOf_alike hZ.alike A1429.2.1) A1429.2.2 hin1429 hat1429 (g := (mkF m 51 #[.val (.ref a1), .val (.long q2), .second, .val (.int p4), .val (.int p5)] [(.int (2 : Int32)), (.ref am1422), (.long q2)])) rfl rfl (hb hby d5_51) _ ?_
    refine XS.lcmp X1428.here hx rfl (hb hby d5_52) rfl ?_
    refine XS.ifYes X1428.here hx rfl (pc0 := 53) (pc' := 71) rfl (hb hby d5_53) rfl ((if0 _ _).trans (tlt ((lw_gt _ _).mpr c0)).2.2.1) (by decide) (by decide) ?_
    refine XS.aloadN X1428.here hx rfl (hb hby d5_71) rfl rfl ?_
    refine st1430 _ ?_
    refine XS.aloadN X1430.here hx rfl (hb hby d5_75) rfl rfl ?_
    refine st1431 _ ?_
    show Steps p.tables e below (T1431.setTop (mkF m 79 #[.val (.ref a1), .val (.long q2), .second, .val (.int p4), .val (.int p5)] [(.ref am1422), (.int (3 : Int32))])) _
    refine X1431.arraylength hx (by rw [e1431]; exact A1432.1) (State.isArrayOf_alike hZ.alike A1432.2.1) (g := (mkF m 79 #[.val (.ref a1), .val (.long q2), .second, .val (.int p4), .val (.int p5)] [(.ref am1422), (.int (3 : Int32))])) rfl rfl (hb hby d5_79) _ ?_
    rw [len_of S1432 M1432]
    refine XS.icmpYes X1431.here hx rfl (pc0 := 80) (pc' := 87) rfl (hb hby d5_80) rfl (feq (by decide : ¬ ((3 : Int32) = (4 : Int32)))).2 (by decide) (by decide) ?_
    refine XS.aloadN X1431.here hx rfl (hb hby d5_87) rfl rfl ?_
    refine st1433 _ ?_
    refine XS.aloadN X1433.here hx rfl (hb hby d5_91) rfl rfl ?_
    refine st1434 _ ?_
    refine XS.lloadN X1434.here hx rfl (hb hby d5_95) rfl ?_
    refine st1436 _ ?_
    refine XS.aloadN X1436.here hx rfl (hb hby d5_97) rfl rfl ?_
    refine st1446 _ ?_
    refine XS.aloadN X1446.here hx rfl (hb hby d5_101) rfl rfl ?_
    refine st1447 _ ?_
    show Steps p.tables e below (T1447.setTop (mkF m 105 #[.val (.ref a1), .val (.long q2), .second, .val (.int p4), .val (.int p5)] [(.int (3 : Int32)), (.ref ac1422)])) _
    refine XS.iloadN X1447.here hx rfl (hb hby d5_105) rfl ?_
    refine st1449 _ ?_
    refine XS.aloadN X1449.here hx rfl (hb hby d5_107) rfl rfl ?_
    refine XS.dup X1449.here hx rfl (hb hby d5_108) rfl rfl ?_
    refine st1459 _ ?_
    refine XS.iconst X1459.here hx rfl (hb hby d5_112) ?_
    refine XS.iadd X1459.here hx rfl (hb hby d5_113) rfl ?_
    refine st1460 _ ?_
    exact kt)
  have hz : h0.size ≤ h1460.size := Nat.le_trans (Nat.le_trans (Nat.le_trans (Nat.le_refl _) (Keep.of_wr W1436).1) (Keep.of_wr W1449).1) (Keep.of_wr W1460).1
  have hQ : QCnt134a Z a1 q2 p4 p5 x0 x1 x2 x3 y0 y1 y2 y3 b h0 n0 none h1460 _ := ⟨rfl, N1460, hz, ⟨am1422, ac1422, km1422, kc1422, c1462, c1463, c1464, c1465, Fw1460, c1467, c1468, c1469, Ga1422, Gm1422, Gc1422, n11422, n21422, n31422⟩⟩
  exact own_retV X1460 hx Bd.notSynchronized Bd.returns (hb hby d5_117) pre1470 (show QCnt134a Z a1 q2 p4 p5 x0 x1 x2 x3 y0 y1 y2 y3 b h0 n0 _ _ _ from (by rw [e1460]; exact hQ)) (by decide) (by decide)
def QCnt134o (Z : State) (a1 : Addr) (q2 : Int64) (p4 p5 : Int32) (x0 : Int64) (x1 : Int64) (x2 : Int64) (x3 : Int64) (y0 : Int32) (y1 : Int32) (y2 : Int32) (y3 : Int32) (b : Int32) (h0 : Heap) (n0 : Nat) (v : Option Value) (h : Heap) (L : List Loc) : Prop := v = none ∧ Fr n0 L ∧ h0.size ≤ h.size ∧ PT Z h n0 a1 (1 : Int32) (3 : Int32) (4 : Int32) [(.long x0), (.long x1), (.long x2), (.long x3)] [(.int y0), (.int y1), (.int p4), (.int y3)] b
set_option maxRecDepth 65536 in
set_option maxHeartbeats 40000000 in
theorem rmCnt134o (l : Launch) (Z : State) (a0 : Array Value) (hw : ∀ d ∈ tables_1, d.before a0 Z = true) (ws : List Jvm.Cond) (a1 : Addr) (q2 : Int64) (p4 p5 : Int32) (x0 : Int64) (x1 : Int64) (x2 : Int64) (x3 : Int64) (y0 : Int32) (y1 : Int32) (y2 : Int32) (y3 : Int32) (b : Int32) (h0 : Heap) (n0 : Nat) (Z0 : n0 ≤ h0.size) (P0 : PT Z h0 n0 a1 (1 : Int32) (3 : Int32) (4 : Int32) [(.long x0), (.long x1), (.long x2), (.long x3)] [(.int y0), (.int y1), (.int y2), (.int y3)] b) (c0 : ¬ (x2 < q2)) :
    MetFree l own_y_103 (head1 (Jvm.Cond.code own_y_103 prog_25_method_2_code 5 none :: ws) ({ frames := 0, cells := 0, slots := 0, locals := 0 } : Room)) (fun a U => a = #[(.ref a1), (.long q2), (.int p4), (.int p5)] ∧ Z.Warmed39 U.vm ∧ U.heap = h0) (fun _ _ _ _ _ => True) (fun _ U o U' => ∃ v L, o = .returned v ∧ QCnt134o Z a1 q2 p4 p5 x0 x1 x2 x3 y0 y1 y2 y3 b h0 n0 v U'.heap L ∧ FrameEnd U o U' L ({ frames := 0, cells := 0, slots := 0, locals := 0 } : Room).cells ({ frames := 0, cells := 0, slots := 0, locals := 0 } : Room).slots) := by
  refine MetFree.of_bodySF (plainFor_of_name pn_2) hisR ?_
  intro p e s m args below meth c s₁ Bd hml0 hP hK
  obtain ⟨rfl, hZ, hh⟩ := hP
  have hx := Bd.exec
  have hby := Bd.bytes
  have hml : c.maxLocals = 5 := hml0
  have hown : s.vm.findClass "com/example/viral_counter/viralcounter/PostTrend" = some m.cls := findClass_of_methodNamed Bd.named
  have hnm := (name_of_methodNamed Bd.named Bd.method).1
  have X0 : Stand p l e ({ frames := 0, cells := 0, slots := 0, locals := 0 } : Room) s m #[(.ref a1), (.long q2), (.int p4), (.int p5)] below meth c s₁ [] 0 0 := Stand.of_body Bd
  have e0 : s₁.heap = h0 := by rw [← hh, Bd.state]; rfl
  have N0 := Fr.nil n0
  have pre0 : ∀ t, Steps p.tables e below (s₁.setTop (mkF m 0 #[.val (.ref a1), .val (.long q2), .second, .val (.int p4), .val (.int p5)] [])) t → Steps p.tables e below (s₁.setTop (entryFrame m #[(.ref a1), (.long q2), (.int p4), (.int p5)] 5)) t := fun t k => castTop (ef_104 m a1 q2 p4 p5) k
  obtain ⟨am1476, ac1476, km1476, kc1476, E1476, Fm1476, Fc1476, Ff1476, Fe1476, Fb1476, Vm1476, Vc1476, Ga1476, Gm1476, Gc1476, n11476, n21476, n31476⟩ := id P0
  have hz0 : h0.size ≤ h0.size := Nat.le_refl _
  obtain ⟨T1477, X1477, e1477, st1477⟩ := getF X0 hx hZ hown (host := "") (Or.inl (own_w hw 24 rfl)) Via.refl e0 Ff1476 (g := (mkF m 1 #[.val (.ref a1), .val (.long q2), .second, .val (.int p4), .val (.int p5)] [(.ref a1)])) rfl rfl (hb hby d5_1)
  obtain ⟨T1478, X1478, e1478, st1478⟩ := getF X1477 hx hZ hown (host := "") (Or.inl (own_w hw 26 rfl)) Via.refl e1477 Fe1476 (g := (mkF m 5 #[.val (.ref a1), .val (.long q2), .second, .val (.int p4), .val (.int p5)] [(.ref a1), (.int (1 : Int32))])) rfl rfl (hb hby d5_5)
  obtain ⟨T1479, X1479, e1479, st1479⟩ := getF X1478 hx hZ hown (host := "") (Or.inl (own_w hw 24 rfl)) Via.refl e1478 Ff1476 (g := (mkF m 30 #[.val (.ref a1), .val (.long q2), .second, .val (.int p4), .val (.int p5)] [(.ref a1)])) rfl rfl (hb hby d5_30)
  obtain ⟨T1480, X1480, e1480, st1480⟩ := getF X1479 hx hZ hown (host := "") (Or.inl (own_w hw 26 rfl)) Via.refl e1479 Fe1476 (g := (mkF m 34 #[.val (.ref a1), .val (.long q2), .second, .val (.int p4), .val (.int p5)] [(.ref a1), (.int (1 : Int32))])) rfl rfl (hb hby d5_34)
  obtain ⟨T1481, X1481, e1481, st1481⟩ := getF X1480 hx hZ hown (host := "") (Or.inl (own_w hw 14 rfl)) Via.refl e1480 Fm1476 (g := (mkF m 42 #[.val (.ref a1), .val (.long q2), .second, .val (.int p4), .val (.int p5)] [(.ref a1), (.long q2)])) rfl rfl (hb hby d5_42)
  obtain ⟨T1482, X1482, e1482, st1482⟩ := getF X1481 hx hZ hown (host := "") (Or.inl (own_w hw 26 rfl)) Via.refl e1481 Fe1476 (g := (mkF m 46 #[.val (.ref a1), .val (.long q2), .second, .val (.int p4), .val (.int p5)] [(.ref a1), (.ref am1476), (.long q2)])) rfl rfl (hb hby d5_46)
  obtain ⟨cl1483, A1483, q1483, S1483, M1483, H1483, J1483⟩ := id Vm1476
  have hin1483 : ¬ ((2 : Int32) < 0 ∨ cl1483.slots.size ≤ ((2 : Int32)).toNatClampNeg) := inb_of S1483 ⟨by decide, by decide⟩
  have hat1483 : cl1483.slots[((2 : Int32)).toNatClampNeg]? = some (.long x2) := H1483.at hin1483 rfl
  obtain ⟨T1484, X1484, e1484, st1484⟩ := getF X1482 hx hZ hown (host := "") (Or.inl (own_w hw 17 rfl)) Via.refl e1482 Fc1476 (g := (mkF m 57 #[.val (.ref a1), .val (.long q2), .second, .val (.int p4), .val (.int p5)] [(.ref a1)])) rfl rfl (hb hby d5_57)
  obtain ⟨T1485, X1485, e1485, st1485⟩ := getF X1484 hx hZ hown (host := "") (Or.inl (own_w hw 26 rfl)) Via.refl e1484 Fe1476 (g := (mkF m 61 #[.val (.ref a1), .val (.long q2), .second, .val (.int p4), .val (.int p5)] [(.ref a1), (.ref ac1476)])) rfl rfl (hb hby d5_61)
  obtain ⟨cl1486, Ar1486, q1486, S1486, M1486, H1486, J1486⟩ := id Vc1476
  have hin1486 : ¬ ((2 : Int32) < 0 ∨ cl1486.slots.size ≤ ((2 : Int32)).toNatClampNeg) := inb_of S1486 ⟨by decide, by decide⟩
  obtain ⟨T1487, h1487, X1487, e1487, W1487, st1487⟩ := stI X1485 hx hZ e1485 Ar1486 (j := (2 : Int32)) hin1486 (g := (mkF m 67 #[.val (.ref a1), .val (.long q2), .second, .val (.int p4), .val (.int p5)] [(.int p4), (.int (2 : Int32)), (.ref ac1476)])) rfl rfl (hb hby d5_67)
  have V1487 : Arv Z h1487 ac1476 kc1476 .int (4 : Int32) [(.int y0), (.int y1), (.int p4), (.int y3)] (.int (0 : Int32)) := Arv.set Ar1486 q1486 S1486 M1486 H1486 J1486 rfl W1487 2 rfl (Nat.le_of_ble_eq_true rfl)
  have N1487 := Fr.snoc X1487 N0 Gc1476
  have z1488 : n0 ≤ h1487.size := Nat.le_trans Z0 (Keep.of_wr W1487).1
  have c1489 := E1476.wr W1487
  have c1490 := Fm1476.other W1487 (Or.inl n21476)
  have c1491 := Fc1476.other W1487 (Or.inl n21476)
  have c1492 := Ff1476.other W1487 (Or.inl n21476)
  have c1493 := Fe1476.other W1487 (Or.inl n21476)
  have c1494 := Fb1476.other W1487 (Or.inl n21476)
  have c1495 := Vm1476.other W1487 n31476
  have pre1497 : ∀ t, Steps p.tables e below (T1487.setTop (mkF m 117 #[.val (.ref a1), .val (.long q2), .second, .val (.int p4), .val (.int p5)] [])) t → Steps p.tables e below (s₁.setTop (entryFrame m #[(.ref a1), (.long q2), (.int p4), (.int p5)] 5)) t := fun t kt => pre0 t (by
    show Steps p.tables e below (s₁.setTop (mkF m 0 #[.val (.ref a1), .val (.long q2), .second, .val (.int p4), .val (.int p5)] [])) _
    refine XS.aloadN X0.here hx rfl (hb hby d5_0) rfl rfl ?_
    refine st1477 _ ?_
    refine XS.aloadN X1477.here hx rfl (hb hby d5_4) rfl rfl ?_
    refine st1478 _ ?_
    refine XS.icmpYes X1478.here hx rfl (pc0 := 8) (pc' := 29) rfl (hb hby d5_8) rfl (feq (by decide : ¬ ((1 : Int32) = (3 : Int32)))).2 (by decide) (by decide) ?_
    refine XS.aloadN X1478.here hx rfl (hb hby d5_29) rfl rfl ?_
    refine st1479 _ ?_
    refine XS.aloadN X1479.here hx rfl (hb hby d5_33) rfl rfl ?_
    refine st1480 _ ?_
    refine XS.icmpNo X1480.here hx rfl (hb hby d5_37) rfl (tlt (by decide : (1 : Int32) < (3 : Int32))).2.1 ?_
    refine XS.lloadN X1480.here hx rfl (hb hby d5_40) rfl ?_
    refine XS.aloadN X1480.here hx rfl (hb hby d5_41) rfl rfl ?_
    show Steps p.tables e below (T1480.setTop (mkF m 42 #[.val (.ref a1), .val (.long q2), .second, .val (.int p4), .val (.int p5)] [(.ref a1), (.long q2)])) _
    refine st1481 _ ?_
    refine XS.aloadN X1481.here hx rfl (hb hby d5_45) rfl rfl ?_
    refine st1482 _ ?_
    refine XS.iconst X1482.here hx rfl (hb hby d5_49) ?_
    refine XS.isub X1482.here hx rfl (hb hby d5_50) rfl ?_
    refine X1482.laload hx (j := (2 : Int32)) (v := (.long x2)) (by rw [e1482]; exact A1483.1) (State.isArrayOf_alike hZ.alike A1483.2.1) A1483.2.2 hin1483 hat1483 (g := (mkF m 51 #[.val (.ref a1), .val (.long q2), .second, .val (.int p4), .val (.int p5)] [(.int (2 : Int32)), (.ref am1476), (.long q2)])) rfl rfl (hb hby d5_51) _ ?_
    refine XS.lcmp X1482.here hx rfl (hb hby d5_52) rfl ?_
    refine XS.ifNo X1482.here hx rfl (hb hby d5_53) rfl ((if0 _ _).trans (flt (fun q => c0 ((lw_gt _ _).mp q))).2.2.1) ?_
    refine XS.aloadN X1482.here hx rfl (hb hby d5_56) rfl rfl ?_
    refine st1484 _ ?_
    refine XS.aloadN X1484.here hx rfl (hb hby d5_60) rfl rfl ?_
    refine st1485 _ ?_
    show Steps p.tables e below (T1485.setTop (mkF m 64 #[.val (.ref a1), .val (.long q2), .second, .val (.int p4), .val (.int p5)] [(.int (3 : Int32)), (.ref ac1476)])) _
    refine XS.iconst X1485.here hx rfl (hb hby d5_64) ?_
    refine XS.isub X1485.here hx rfl (hb hby d5_65) rfl ?_
    refine XS.iloadN X1485.here hx rfl (hb hby d5_66) rfl ?_
    refine st1487 _ ?_
    refine XS.goto X1487.here hx rfl (pc0 := 68) (pc' := 117) rfl (hb hby d5_68) (by decide) (by decide) ?_
    exact kt)
  have hz : h0.size ≤ h1487.size := Nat.le_trans (Nat.le_refl _) (Keep.of_wr W1487).1
  have hQ : QCnt134o Z a1 q2 p4 p5 x0 x1 x2 x3 y0 y1 y2 y3 b h0 n0 none h1487 _ := ⟨rfl, N1487, hz, ⟨am1476, ac1476, km1476, kc1476, c1489, c1490, c1491, c1492, c1493, c1494, c1495, V1487, Ga1476, Gm1476, Gc1476, n11476, n21476, n31476⟩⟩
  exact own_retV X1487 hx Bd.notSynchronized Bd.returns (hb hby d5_117) pre1497 (show QCnt134o Z a1 q2 p4 p5 x0 x1 x2 x3 y0 y1 y2 y3 b h0 n0 _ _ _ from (by rw [e1487]; exact hQ)) (by decide) (by decide)
def QFgt034_0 (Z : State) (a1 : Addr) (q2 : Int64) (x0 : Int64) (x1 : Int64) (x2 : Int64) (x3 : Int64) (y0 : Int32) (y1 : Int32) (y2 : Int32) (y3 : Int32) (b : Int32) (h0 : Heap) (n0 : Nat) (v : Option Value) (h : Heap) (L : List Loc) : Prop := v = none ∧ Fr n0 L ∧ h0.size ≤ h.size ∧ PT Z h n0 a1 (0 : Int32) (3 : Int32) (4 : Int32) [(.long x0), (.long x1), (.long x2), (.long x3)] [(.int y0), (.int y1), (.int y2), (.int y3)] b
set_option maxRecDepth 65536 in
set_option maxHeartbeats 40000000 in
theorem rmFgt034_0 (l : Launch) (Z : State) (a0 : Array Value) (hw : ∀ d ∈ tables_1, d.before a0 Z = true) (ws : List Jvm.Cond) (a1 : Addr) (q2 : Int64) (x0 : Int64) (x1 : Int64) (x2 : Int64) (x3 : Int64) (y0 : Int32) (y1 : Int32) (y2 : Int32) (y3 : Int32) (b : Int32) (h0 : Heap) (n0 : Nat) (Z0 : n0 ≤ h0.size) (P0 : PT Z h0 n0 a1 (0 : Int32) (3 : Int32) (4 : Int32) [(.long x0), (.long x1), (.long x2), (.long x3)] [(.int y0), (.int y1), (.int y2), (.int y3)] b) (c0 : ¬ (x0 < q2)) :
    MetFree l own_y_113 (head1 (Jvm.Cond.code own_y_113 prog_25_method_4_code 3 none :: ws) ({ frames := 0, cells := 0, slots := 0, locals := 0 } : Room)) (fun a U => a = #[(.ref a1), (.long q2)] ∧ Z.Warmed39 U.vm ∧ U.heap = h0) (fun _ _ _ _ _ => True) (fun _ U o U' => ∃ v L, o = .returned v ∧ QFgt034_0 Z a1 q2 x0 x1 x2 x3 y0 y1 y2 y3 b h0 n0 v U'.heap L ∧ FrameEnd U o U' L ({ frames := 0, cells := 0, slots := 0, locals := 0 } : Room).cells ({ frames := 0, cells := 0, slots := 0, locals := 0 } : Room).slots) := by
  refine MetFree.of_bodySF (plainFor_of_name pn_2) hisR ?_
  intro p e s m args below meth c s₁ Bd hml0 hP hK
  obtain ⟨rfl, hZ, hh⟩ := hP
  have hx := Bd.exec
  have hby := Bd.bytes
  have hml : c.maxLocals = 3 := hml0
  have hown : s.vm.findClass "com/example/viral_counter/viralcounter/PostTrend" = some m.cls := findClass_of_methodNamed Bd.named
  have hnm := (name_of_methodNamed Bd.named Bd.method).1
  have X0 : Stand p l e ({ frames := 0, cells := 0, slots := 0, locals := 0 } : Room) s m #[(.ref a1), (.long q2)] below meth c s₁ [] 0 0 := Stand.of_body Bd
  have e0 : s₁.heap = h0 := by rw [← hh, Bd.state]; rfl
  have N0 := Fr.nil n0
  have pre0 : ∀ t, Steps p.tables e below (s₁.setTop (mkF m 0 #[.val (.ref a1), .val (.long q2), .second] [])) t → Steps p.tables e below (s₁.setTop (entryFrame m #[(.ref a1), (.long q2)] 3)) t := fun t k => castTop (ef_114 m a1 q2) k
  obtain ⟨am1503, ac1503, km1503, kc1503, E1503, Fm1503, Fc1503, Ff1503, Fe1503, Fb1503, Vm1503, Vc1503, Ga1503, Gm1503, Gc1503, n11503, n21503, n31503⟩ := id P0
  have hz0 : h0.size ≤ h0.size := Nat.le_refl _
  obtain ⟨T1504, X1504, e1504, st1504⟩ := getF X0 hx hZ hown (host := "") (Or.inl (own_w hw 24 rfl)) Via.refl e0 Ff1503 (g := (mkF m 1 #[.val (.ref a1), .val (.long q2), .second] [(.ref a1)])) rfl rfl (hb hby d13_1)
  obtain ⟨T1505, X1505, e1505, st1505⟩ := getF X1504 hx hZ hown (host := "") (Or.inl (own_w hw 26 rfl)) Via.refl e1504 Fe1503 (g := (mkF m 5 #[.val (.ref a1), .val (.long q2), .second] [(.ref a1), (.int (0 : Int32))])) rfl rfl (hb hby d13_5)
  obtain ⟨T1506, X1506, e1506, st1506⟩ := getF X1505 hx hZ hown (host := "") (Or.inl (own_w hw 14 rfl)) Via.refl e1505 Fm1503 (g := (mkF m 12 #[.val (.ref a1), .val (.long q2), .second] [(.ref a1)])) rfl rfl (hb hby d13_12)
  obtain ⟨T1507, X1507, e1507, st1507⟩ := getF X1506 hx hZ hown (host := "") (Or.inl (own_w hw 24 rfl)) Via.refl e1506 Ff1503 (g := (mkF m 16 #[.val (.ref a1), .val (.long q2), .second] [(.ref a1), (.ref am1503)])) rfl rfl (hb hby d13_16)
  obtain ⟨cl1508, A1508, q1508, S1508, M1508, H1508, J1508⟩ := id Vm1503
  have hin1508 : ¬ ((0 : Int32) < 0 ∨ cl1508.slots.size ≤ ((0 : Int32)).toNatClampNeg) := inb_of S1508 ⟨by decide, by decide⟩
  have hat1508 : cl1508.slots[((0 : Int32)).toNatClampNeg]? = some (.long x0) := H1508.at hin1508 rfl
  have pre1509 : ∀ t, Steps p.tables e below (T1507.setTop (mkF m 51 #[.val (.ref a1), .val (.long q2), .second] [])) t → Steps p.tables e below (s₁.setTop (entryFrame m #[(.ref a1), (.long q2)] 3)) t := fun t kt => pre0 t (by
    show Steps p.tables e below (s₁.setTop (mkF m 0 #[.val (.ref a1), .val (.long q2), .second] [])) _
    refine XS.aloadN X0.here hx rfl (hb hby d13_0) rfl rfl ?_
    refine st1504 _ ?_
    refine XS.aloadN X1504.here hx rfl (hb hby d13_4) rfl rfl ?_
    refine st1505 _ ?_
    refine XS.icmpNo X1505.here hx rfl (hb hby d13_8) rfl (tlt (by decide : (0 : Int32) < (3 : Int32))).2.1 ?_
    refine XS.aloadN X1505.here hx rfl (hb hby d13_11) rfl rfl ?_
    refine st1506 _ ?_
    refine XS.aloadN X1506.here hx rfl (hb hby d13_15) rfl rfl ?_
    refine st1507 _ ?_
    refine X1507.laload hx (j := (0 : Int32)) (v := (.long x0)) (by rw [e1507]; exact A1508.1) (State.isArrayOf_alike hZ.alike A1508.2.1) A1508.2.2 hin1508 hat1508 (g := (mkF m 19 #[.val (.ref a1), .val (.long q2), .second] [(.int (0 : Int32)), (.ref am1503)])) rfl rfl (hb hby d13_19) _ ?_
    refine XS.lloadN X1507.here hx rfl (hb hby d13_20) rfl ?_
    refine XS.lcmp X1507.here hx rfl (hb hby d13_21) rfl ?_
    show Steps p.tables e below (T1507.setTop (mkF m 22 #[.val (.ref a1), .val (.long q2), .second] [(.int (lcmpW x0 q2))])) _
    refine XS.ifYes X1507.here hx rfl (pc0 := 22) (pc' := 51) rfl (hb hby d13_22) rfl ((if0 _ _).trans (flt (fun q => c0 ((lw_lt _ _).mp q))).2.1) (by decide) (by decide) ?_
    exact kt)
  have hz : h0.size ≤ h0.size := Nat.le_refl _
  have hQ : QFgt034_0 Z a1 q2 x0 x1 x2 x3 y0 y1 y2 y3 b h0 n0 none h0 _ := ⟨rfl, N0, hz, ⟨am1503, ac1503, km1503, kc1503, E1503, Fm1503, Fc1503, Ff1503, Fe1503, Fb1503, Vm1503, Vc1503, Ga1503, Gm1503, Gc1503, n11503, n21503, n31503⟩⟩
  exact own_retV X1507 hx Bd.notSynchronized Bd.returns (hb hby d13_51) pre1509 (show QFgt034_0 Z a1 q2 x0 x1 x2 x3 y0 y1 y2 y3 b h0 n0 _ _ _ from (by rw [e1507]; exact hQ)) (by decide) (by decide)
set_option maxRecDepth 65536 in
set_option maxHeartbeats 40000000 in
theorem sg034 {p : Program} {l : Launch} {e : Env} {s : State} {m : MethodId} {below : List Frame} {meth : Method} {c : Code} {T0 : State} {locs : List Loc} {Z : State} {a0 : Array Value} {n0 : Nat} (q1 : Int64) (p2 : Int32) (p3 : Int32) (q4 : Int64) (p5 : Int32) (kn : Int32) (df : Int32) (ex : Int32) (lk : Int32) (m2 : Int64) (m3 : Int64) (nw : Int64) (mx : Int64) (ob : Addr) (e0 : Int32) (e1 : Int32) (x0 : Int64) (x1 : Int64) (x2 : Int64) (x3 : Int64) (y0 : Int32) (y1 : Int32) (y2 : Int32) (y3 : Int32) (b : Int32) (X0 : Stand p l e room_1 s m #[(.long q1), (.int p2), (.int p3), (.long q4), (.int p5)] below meth c T0 locs 5 22) (hx : p.tables.exec = Jvm.exec) (hZ : Z.Warmed39 s.vm) (hw : ∀ d ∈ tables_1, d.before a0 Z = true) (hby : c.code = code) (hml : c.maxLocals = 29) (hown : s.vm.findClass "com/example/viral_counter/viralcounter/PostTrendIsEmptyPinLaw" = some m.cls) (N0 : Fr n0 locs) (Z0 : n0 ≤ T0.heap.size) (P0 : PT Z T0.heap n0 ob (0 : Int32) (3 : Int32) (4 : Int32) [(.long x0), (.long x1), (.long x2), (.long x3)] [(.int y0), (.int y1), (.int y2), (.int y3)] b) (hnw : nw = x2) (hs0 : x0 < x1) (hs1 : x1 < x2) :
    ∃ (T' : State) (locs' : List Loc), Stand p l e room_1 s m #[(.long q1), (.int p2), (.int p3), (.long q4), (.int p5)] below meth c T' locs' 7 30 ∧ Fr n0 locs' ∧ ∀ t, Steps p.tables e below (T'.setTop (mkF m 237 (own_LF q1 p2 p3 q4 p5 kn df ex lk m2 m3 nw mx ob e0 e1 (.val (.int (if df = (0 : Int32) then (0 : Int32) else (if nw < q4 then (1 : Int32) else (0 : Int32))))) (.val (.int (if ex = (0 : Int32) then (if df = (0 : Int32) then (0 : Int32) else (if nw < q4 then (1 : Int32) else (0 : Int32))) else (0 : Int32))))) [])) t → Steps p.tables e below (T0.setTop (mkF m 196 (own_LF q1 p2 p3 q4 p5 kn df ex lk m2 m3 nw mx ob e0 e1 .unset .unset) [])) t := by
  have pre0 : ∀ t, Steps p.tables e below (T0.setTop (mkF m 196 (own_LF q1 p2 p3 q4 p5 kn df ex lk m2 m3 nw mx ob e0 e1 .unset .unset) [])) t → Steps p.tables e below (T0.setTop (mkF m 196 (own_LF q1 p2 p3 q4 p5 kn df ex lk m2 m3 nw mx ob e0 e1 .unset .unset) [])) t := fun _ q => q
  have pre970 : ∀ t, Steps p.tables e below (T0.setTop (mkF m 198 (own_LF q1 p2 p3 q4 p5 kn df ex lk m2 m3 nw mx ob e0 e1 .unset .unset) [(.int df)])) t → Steps p.tables e below (T0.setTop (mkF m 196 (own_LF q1 p2 p3 q4 p5 kn df ex lk m2 m3 nw mx ob e0 e1 .unset .unset) [])) t := fun t kt => pre0 t (by
    show Steps p.tables e below (T0.setTop (mkF m 196 (own_LF q1 p2 p3 q4 p5 kn df ex lk m2 m3 nw mx ob e0 e1 .unset .unset) [])) _
    refine XS.iload X0.here hx rfl (hb hby at_196) rfl ?_
    exact kt)
  by_cases hc971 : df = (0 : Int32)
  case pos =>
    obtain ⟨cq972, kq972, q972a, q972b, q972c⟩ := isOf hZ rfl (own_pt_exa P0)
    obtain ⟨_, _, ⟨T972, L972, k972, n972⟩, -, X972, ⟨Lc972, hQ972, l972, y972, z972⟩, st972⟩ := X0.virtualBack hx (y := own_y_38) (z := own_y_38) hown (mvT hZ (own_w hw 19 rfl)) (mvT hZ (own_w hw 20 rfl)) (notFace_of_selects (args := #[]) (mvT hZ (own_w hw 22 rfl))) (mvT hZ (own_w hw 22 rfl)) (mvT hZ (own_w hw 21 rfl)) (by decide) (backOf (W := 0) (rmEmpF l Z a0 hw [] ob _ _ _ _ _ _ T0.heap n0 Z0 P0 (by decide)) hZ (own_w hw 23 rfl) (own_w hw 6 rfl) (by decide) (by decide)) q972a q972c (g := (mkF m 210 (own_LF q1 p2 p3 q4 p5 kn df ex lk m2 m3 nw mx ob e0 e1 .unset .unset) [(.ref ob)])) rfl (by rw [hml]; rfl) (Steps.refl _) (argsL := []) (rest := []) (lenOf pd_48 rfl) rfl (by show 2 * 0 + _ ≤ _; exact Nat.le_of_eq rfl) (hb hby at_210) (fun _ _ => ⟨rfl, rfl, (by decide : 5 + 0 ≤ _), (by decide : 22 + 0 ≤ _)⟩)
    dsimp only [Pt.U, Pt.locs, Pt.cells, Pt.slots] at X972 l972 y972 z972 st972 hQ972
    subst l972 y972 z972
    obtain ⟨rfl, Nq972, e972⟩ := hQ972
    have N972 := Fr.app N0 Nq972
    have pre973 : ∀ t, Steps p.tables e below (T972.setTop (mkF m 217 (own_LF q1 p2 p3 q4 p5 kn df ex lk m2 m3 nw mx ob e0 e1 (.val (.int (0 : Int32))) .unset) [(.int ex)])) t → Steps p.tables e below (T0.setTop (mkF m 196 (own_LF q1 p2 p3 q4 p5 kn df ex lk m2 m3 nw mx ob e0 e1 .unset .unset) [])) t := fun t kt => pre970 t (by
      show Steps p.tables e below (T0.setTop (mkF m 198 (own_LF q1 p2 p3 q4 p5 kn df ex lk m2 m3 nw mx ob e0 e1 .unset .unset) [(.int df)])) _
      refine XS.ifYes X0.here hx rfl (pc0 := 198) (pc' := 208) rfl (hb hby at_198) rfl ((if0 _ _).trans (teq hc971).1) (by decide) (by decide) ?_
      refine XS.aload X0.here hx rfl (hb hby at_208) rfl rfl ?_
      refine st972.trans ?_
      refine XS.istore X972.here hx rfl (hb hby at_213) rfl (l' := (own_LF q1 p2 p3 q4 p5 kn df ex lk m2 m3 nw mx ob e0 e1 (.val (.int (0 : Int32))) .unset)) rfl ?_
      refine XS.iload X972.here hx rfl (hb hby at_215) rfl ?_
      exact kt)
    by_cases hc974 : ex = (0 : Int32)
    case pos =>
      obtain ⟨cq975, kq975, q975a, q975b, q975c⟩ := isOf hZ e972 (own_pt_exa P0)
      obtain ⟨_, _, ⟨T975, L975, k975, n975⟩, -, X975, ⟨Lc975, hQ975, l975, y975, z975⟩, st975⟩ := X972.virtualBack hx (y := own_y_38) (z := own_y_38) hown (mvT hZ (own_w hw 19 rfl)) (mvT hZ (own_w hw 20 rfl)) (notFace_of_selects (args := #[]) (mvT hZ (own_w hw 22 rfl))) (mvT hZ (own_w hw 22 rfl)) (mvT hZ (own_w hw 21 rfl)) (by decide) (backOf (W := 0) (rmEmpF l Z a0 hw [] ob _ _ _ _ _ _ T0.heap n0 Z0 P0 (by decide)) hZ (own_w hw 23 rfl) (own_w hw 6 rfl) (by decide) (by decide)) q975a q975c (g := (mkF m 232 (own_LF q1 p2 p3 q4 p5 kn df ex lk m2 m3 nw mx ob e0 e1 (.val (.int (0 : Int32))) .unset) [(.ref ob)])) rfl (by rw [hml]; rfl) (Steps.refl _) (argsL := []) (rest := []) (lenOf pd_48 rfl) rfl (by show 2 * 0 + _ ≤ _; exact Nat.le_of_eq rfl) (hb hby at_232) (fun _ _ => ⟨rfl, e972, (by decide : 5 + 0 ≤ _), (by decide : 22 + 0 ≤ _)⟩)
      dsimp only [Pt.U, Pt.locs, Pt.cells, Pt.slots] at X975 l975 y975 z975 st975 hQ975
      subst l975 y975 z975
      obtain ⟨rfl, Nq975, e975⟩ := hQ975
      have N975 := Fr.app N972 Nq975
      have pre976 : ∀ t, Steps p.tables e below (T975.setTop (mkF m 237 (own_LF q1 p2 p3 q4 p5 kn df ex lk m2 m3 nw mx ob e0 e1 (.val (.int (0 : Int32))) (.val (.int (0 : Int32)))) [])) t → Steps p.tables e below (T0.setTop (mkF m 196 (own_LF q1 p2 p3 q4 p5 kn df ex lk m2 m3 nw mx ob e0 e1 .unset .unset) [])) t := fun t kt => pre973 t (by
        show Steps p.tables e below (T972.setTop (mkF m 217 (own_LF q1 p2 p3 q4 p5 kn df ex lk m2 m3 nw mx ob e0 e1 (.val (.int (0 : Int32))) .unset) [(.int ex)])) _
        refine XS.ifYes X972.here hx rfl (pc0 := 217) (pc' := 230) rfl (hb hby at_217) rfl ((if0 _ _).trans (teq hc974).1) (by decide) (by decide) ?_
        refine XS.aload X972.here hx rfl (hb hby at_230) rfl rfl ?_
        refine st975.trans ?_
        refine XS.istore X975.here hx rfl (hb hby at_235) rfl (l' := (own_LF q1 p2 p3 q4 p5 kn df ex lk m2 m3 nw mx ob e0 e1 (.val (.int (0 : Int32))) (.val (.int (0 : Int32))))) rfl ?_
        exact kt)
      rw [show (if df = (0 : Int32) then (0 : Int32) else (if nw < q4 then (1 : Int32) else (0 : Int32))) = (0 : Int32) from if_pos hc971]
      rw [show (if ex = (0 : Int32) then (0 : Int32) else (0 : Int32)) = (0 : Int32) from if_pos hc974]
      exact ⟨T975, _, own_more X975 (by decide) (by decide), N975, pre976⟩
    case neg =>
      have pre977 : ∀ t, Steps p.tables e below (T972.setTop (mkF m 227 (own_LF q1 p2 p3 q4 p5 kn df ex lk m2 m3 nw mx ob e0 e1 (.val (.int (0 : Int32))) .unset) [(.int lk), (.int p3), (.long mx), (.ref ob)])) t → Steps p.tables e below (T0.setTop (mkF m 196 (own_LF q1 p2 p3 q4 p5 kn df ex lk m2 m3 nw mx ob e0 e1 .unset .unset) [])) t := fun t kt => pre973 t (by
        show Steps p.tables e below (T972.setTop (mkF m 217 (own_LF q1 p2 p3 q4 p5 kn df ex lk m2 m3 nw mx ob e0 e1 (.val (.int (0 : Int32))) .unset) [(.int ex)])) _
        refine XS.ifNo X972.here hx rfl (hb hby at_217) rfl ((if0 _ _).trans (feq hc974).1) ?_
        refine XS.aload X972.here hx rfl (hb hby at_220) rfl rfl ?_
        refine XS.lload X972.here hx rfl (hb hby at_222) rfl ?_
        refine XS.iloadN X972.here hx rfl (hb hby at_224) rfl ?_
        refine XS.iload X972.here hx rfl (hb hby at_225) rfl ?_
        exact kt)
      by_cases hc978 : x2 < mx
      case pos =>
        obtain ⟨cq1028, kq1028, q1028a, q1028b, q1028c⟩ := isOf hZ e972 (own_pt_exa P0)
        obtain ⟨_, _, ⟨T1028, L1028, k1028, n1028⟩, -, X1028, ⟨Lc1028, hQ1028, l1028, y1028, z1028⟩, st1028⟩ := X972.virtualBack hx (y := own_y_103) (z := own_y_103) hown (mvT hZ (own_w hw 28 rfl)) (mvT hZ (own_w hw 29 rfl)) (notFace_of_selects (args := #[]) (mvT hZ (own_w hw 31 rfl))) (mvT hZ (own_w hw 31 rfl)) (mvT hZ (own_w hw 30 rfl)) (by decide) (backOf (W := 0) (rmCnt034a l Z a0 hw [] ob mx p3 lk x0 x1 x2 x3 y0 y1 y2 y3 b T0.heap n0 Z0 P0 hc978) hZ (own_w hw 32 rfl) (own_w hw 6 rfl) (by decide) (by decide)) q1028a q1028c (g := (mkF m 227 (own_LF q1 p2 p3 q4 p5 kn df ex lk m2 m3 nw mx ob e0 e1 (.val (.int (0 : Int32))) .unset) [(.int lk), (.int p3), (.long mx), (.ref ob)])) rfl (by rw [hml]; rfl) (Steps.refl _) (argsL := [(.long mx), (.int p3), (.int lk)]) (rest := []) (lenOf pd_105 rfl) rfl (by show 2 * 0 + _ ≤ _; exact Nat.le_of_eq rfl) (hb hby at_227) (fun _ _ => ⟨rfl, e972, (by decide : 5 + 0 ≤ _), (by decide : 22 + 0 ≤ _)⟩)
        dsimp only [Pt.U, Pt.locs, Pt.cells, Pt.slots] at X1028 l1028 y1028 z1028 st1028 hQ1028
        subst l1028 y1028 z1028
        obtain ⟨rfl, Nq1028, z1028, P1028⟩ := hQ1028
        have N1028 := Fr.app N972 Nq1028
        have z1029 : n0 ≤ T1028.heap.size := Nat.le_trans Z0 z1028
        obtain ⟨cq1030, kq1030, q1030a, q1030b, q1030c⟩ := isOf hZ rfl (own_pt_exa P1028)
        obtain ⟨_, _, ⟨T1030, L1030, k1030, n1030⟩, -, X1030, ⟨Lc1030, hQ1030, l1030, y1030, z1030⟩, st1030⟩ := X1028.virtualBack hx (y := own_y_38) (z := own_y_38) hown (mvT hZ (own_w hw 19 rfl)) (mvT hZ (own_w hw 20 rfl)) (notFace_of_selects (args := #[]) (mvT hZ (own_w hw 22 rfl))) (mvT hZ (own_w hw 22 rfl)) (mvT hZ (own_w hw 21 rfl)) (by decide) (backOf (W := 0) (rmEmpF l Z a0 hw [] ob _ _ _ _ _ _ T1028.heap n0 z1029 P1028 (by decide)) hZ (own_w hw 23 rfl) (own_w hw 6 rfl) (by decide) (by decide)) q1030a q1030c (g := (mkF m 232 (own_LF q1 p2 p3 q4 p5 kn df ex lk m2 m3 nw mx ob e0 e1 (.val (.int (0 : Int32))) .unset) [(.ref ob)])) rfl (by rw [hml]; rfl) (Steps.refl _) (argsL := []) (rest := []) (lenOf pd_48 rfl) rfl (by show 2 * 0 + _ ≤ _; exact Nat.le_of_eq rfl) (hb hby at_232) (fun _ _ => ⟨rfl, rfl, (by decide : 5 + 0 ≤ _), (by decide : 22 + 0 ≤ _)⟩)
        dsimp only [Pt.U, Pt.locs, Pt.cells, Pt.slots] at X1030 l1030 y1030 z1030 st1030 hQ1030
        subst l1030 y1030 z1030
        obtain ⟨rfl, Nq1030, e1030⟩ := hQ1030
        have N1030 := Fr.app N1028 Nq1030
        have pre1031 : ∀ t, Steps p.tables e below (T1030.setTop (mkF m 237 (own_LF q1 p2 p3 q4 p5 kn df ex lk m2 m3 nw mx ob e0 e1 (.val (.int (0 : Int32))) (.val (.int (0 : Int32)))) [])) t → Steps p.tables e below (T0.setTop (mkF m 196 (own_LF q1 p2 p3 q4 p5 kn df ex lk m2 m3 nw mx ob e0 e1 .unset .unset) [])) t := fun t kt => pre977 t (by
          show Steps p.tables e below (T972.setTop (mkF m 227 (own_LF q1 p2 p3 q4 p5 kn df ex lk m2 m3 nw mx ob e0 e1 (.val (.int (0 : Int32))) .unset) [(.int lk), (.int p3), (.long mx), (.ref ob)])) _
          refine st1028.trans ?_
          refine XS.aload X1028.here hx rfl (hb hby at_230) rfl rfl ?_
          refine st1030.trans ?_
          refine XS.istore X1030.here hx rfl (hb hby at_235) rfl (l' := (own_LF q1 p2 p3 q4 p5 kn df ex lk m2 m3 nw mx ob e0 e1 (.val (.int (0 : Int32))) (.val (.int (0 : Int32))))) rfl ?_
          exact kt)
        rw [show (if df = (0 : Int32) then (0 : Int32) else (if nw < q4 then (1 : Int32) else (0 : Int32))) = (0 : Int32) from if_pos hc971]
        rw [show (if ex = (0 : Int32) then (0 : Int32) else (0 : Int32)) = (0 : Int32) from if_neg hc974]
        exact ⟨T1030, _, own_more X1030 (by decide) (by decide), N1030, pre1031⟩
      case neg =>
        obtain ⟨cq1054, kq1054, q1054a, q1054b, q1054c⟩ := isOf hZ e972 (own_pt_exa P0)
        obtain ⟨_, _, ⟨T1054, L1054, k1054, n1054⟩, -, X1054, ⟨Lc1054, hQ1054, l1054, y1054, z1054⟩, st1054⟩ := X972.virtualBack hx (y := own_y_103) (z := own_y_103) hown (mvT hZ (own_w hw 28 rfl)) (mvT hZ (own_w hw 29 rfl)) (notFace_of_selects (args := #[]) (mvT hZ (own_w hw 31 rfl))) (mvT hZ (own_w hw 31 rfl)) (mvT hZ (own_w hw 30 rfl)) (by decide) (backOf (W := 0) (rmCnt034o l Z a0 hw [] ob mx p3 lk x0 x1 x2 x3 y0 y1 y2 y3 b T0.heap n0 Z0 P0 hc978) hZ (own_w hw 32 rfl) (own_w hw 6 rfl) (by decide) (by decide)) q1054a q1054c (g := (mkF m 227 (own_LF q1 p2 p3 q4 p5 kn df ex lk m2 m3 nw mx ob e0 e1 (.val (.int (0 : Int32))) .unset) [(.int lk), (.int p3), (.long mx), (.ref ob)])) rfl (by rw [hml]; rfl) (Steps.refl _) (argsL := [(.long mx), (.int p3), (.int lk)]) (rest := []) (lenOf pd_105 rfl) rfl (by show 2 * 0 + _ ≤ _; exact Nat.le_of_eq rfl) (hb hby at_227) (fun _ _ => ⟨rfl, e972, (by decide : 5 + 0 ≤ _), (by decide : 22 + 0 ≤ _)⟩)
        dsimp only [Pt.U, Pt.locs, Pt.cells, Pt.slots] at X1054 l1054 y1054 z1054 st1054 hQ1054
        subst l1054 y1054 z1054
        obtain ⟨rfl, Nq1054, z1054, P1054⟩ := hQ1054
        have N1054 := Fr.app N972 Nq1054
        have z1055 : n0 ≤ T1054.heap.size := Nat.le_trans Z0 z1054
        obtain ⟨cq1056, kq1056, q1056a, q1056b, q1056c⟩ := isOf hZ rfl (own_pt_exa P1054)
        obtain ⟨_, _, ⟨T1056, L1056, k1056, n1056⟩, -, X1056, ⟨Lc1056, hQ1056, l1056, y1056, z1056⟩, st1056⟩ := X1054.virtualBack hx (y := own_y_38) (z := own_y_38) hown (mvT hZ (own_w hw 19 rfl)) (mvT hZ (own_w hw 20 rfl)) (notFace_of_selects (args := #[]) (mvT hZ (own_w hw 22 rfl))) (mvT hZ (own_w hw 22 rfl)) (mvT hZ (own_w hw 21 rfl)) (by decide) (backOf (W := 0) (rmEmpF l Z a0 hw [] ob _ _ _ _ _ _ T1054.heap n0 z1055 P1054 (by decide)) hZ (own_w hw 23 rfl) (own_w hw 6 rfl) (by decide) (by decide)) q1056a q1056c (g := (mkF m 232 (own_LF q1 p2 p3 q4 p5 kn df ex lk m2 m3 nw mx ob e0 e1 (.val (.int (0 : Int32))) .unset) [(.ref ob)])) rfl (by rw [hml]; rfl) (Steps.refl _) (argsL := []) (rest := []) (lenOf pd_48 rfl) rfl (by show 2 * 0 + _ ≤ _; exact Nat.le_of_eq rfl) (hb hby at_232) (fun _ _ => ⟨rfl, rfl, (by decide : 5 + 0 ≤ _), (by decide : 22 + 0 ≤ _)⟩)
        dsimp only [Pt.U, Pt.locs, Pt.cells, Pt.slots] at X1056 l1056 y1056 z1056 st1056 hQ1056
        subst l1056 y1056 z1056
        obtain ⟨rfl, Nq1056, e1056⟩ := hQ1056
        have N1056 := Fr.app N1054 Nq1056
        have pre1057 : ∀ t, Steps p.tables e below (T1056.setTop (mkF m 237 (own_LF q1 p2 p3 q4 p5 kn df ex lk m2 m3 nw mx ob e0 e1 (.val (.int (0 : Int32))) (.val (.int (0 : Int32)))) [])) t → Steps p.tables e below (T0.setTop (mkF m 196 (own_LF q1 p2 p3 q4 p5 kn df ex lk m2 m3 nw mx ob e0 e1 .unset .unset) [])) t := fun t kt => pre977 t (by
          show Steps p.tables e below (T972.setTop (mkF m 227 (own_LF q1 p2 p3 q4 p5 kn df ex lk m2 m3 nw mx ob e0 e1 (.val (.int (0 : Int32))) .unset) [(.int lk), (.int p3), (.long mx), (.ref ob)])) _
          refine st1054.trans ?_
          refine XS.aload X1054.here hx rfl (hb hby at_230) rfl rfl ?_
          refine st1056.trans ?_
          refine XS.istore X1056.here hx rfl (hb hby at_235) rfl (l' := (own_LF q1 p2 p3 q4 p5 kn df ex lk m2 m3 nw mx ob e0 e1 (.val (.int (0 : Int32))) (.val (.int (0 : Int32))))) rfl ?_
          exact kt)
        rw [show (if df = (0 : Int32) then (0 : Int32) else (if nw < q4 then (1 : Int32) else (0 : Int32))) = (0 : Int32) from if_pos hc971]
        rw [show (if ex = (0 : Int32) then (0 : Int32) else (0 : Int32)) = (0 : Int32) from if_neg hc974]
        exact ⟨T1056, _, own_more X1056 (by decide) (by decide), N1056, pre1057⟩
  case neg =>
    have pre1058 : ∀ t, Steps p.tables e below (T0.setTop (mkF m 205 (own_LF q1 p2 p3 q4 p5 kn df ex lk m2 m3 nw mx ob e0 e1 .unset .unset) [(.long q4), (.ref ob)])) t → Steps p.tables e below (T0.setTop (mkF m 196 (own_LF q1 p2 p3 q4 p5 kn df ex lk m2 m3 nw mx ob e0 e1 .unset .unset) [])) t := fun t kt => pre970 t (by
      show Steps p.tables e below (T0.setTop (mkF m 198 (own_LF q1 p2 p3 q4 p5 kn df ex lk m2 m3 nw mx ob e0 e1 .unset .unset) [(.int df)])) _
      refine XS.ifNo X0.here hx rfl (hb hby at_198) rfl ((if0 _ _).trans (feq hc971).1) ?_
      refine XS.aload X0.here hx rfl (hb hby at_201) rfl rfl ?_
      refine XS.lload X0.here hx rfl (hb hby at_203) rfl ?_
      exact kt)
    by_cases hc1059 : x0 < q4
    case pos =>
      by_cases hc1060 : x1 < q4
      case pos =>
        by_cases hc1061 : x2 < q4
        case pos =>
          obtain ⟨cq1153, kq1153, q1153a, q1153b, q1153c⟩ := isOf hZ rfl (own_pt_exa P0)
          obtain ⟨_, _, ⟨T1153, L1153, k1153, n1153⟩, -, X1153, ⟨Lc1153, hQ1153, l1153, y1153, z1153⟩, st1153⟩ := X0.virtualBack hx (y := own_y_113) (z := own_y_113) hown (mvT hZ (own_w hw 63 rfl)) (mvT hZ (own_w hw 64 rfl)) (notFace_of_selects (args := #[]) (mvT hZ (own_w hw 66 rfl))) (mvT hZ (own_w hw 66 rfl)) (mvT hZ (own_w hw 65 rfl)) (by decide) (backOf (W := 0) (rmFgt034_3 l Z a0 hw [] ob q4 x0 x1 x2 x3 y0 y1 y2 y3 b T0.heap n0 Z0 P0 hc1059 hc1060 hc1061) hZ (own_w hw 67 rfl) (own_w hw 6 rfl) (by decide) (by decide)) q1153a q1153c (g := (mkF m 205 (own_LF q1 p2 p3 q4 p5 kn df ex lk m2 m3 nw mx ob e0 e1 .unset .unset) [(.long q4), (.ref ob)])) rfl (by rw [hml]; rfl) (Steps.refl _) (argsL := [(.long q4)]) (rest := []) (lenOf pd_115 rfl) rfl (by show 2 * 0 + _ ≤ _; exact Nat.le_of_eq rfl) (hb hby at_205) (fun _ _ => ⟨rfl, rfl, (by decide : 5 + 0 ≤ _), (by decide : 22 + 0 ≤ _)⟩)
          dsimp only [Pt.U, Pt.locs, Pt.cells, Pt.slots] at X1153 l1153 y1153 z1153 st1153 hQ1153
          subst l1153 y1153 z1153
          obtain ⟨rfl, Nq1153, z1153, P1153⟩ := hQ1153
          have N1153 := Fr.app N0 Nq1153
          have z1154 : n0 ≤ T1153.heap.size := Nat.le_trans Z0 z1153
          obtain ⟨cq1155, kq1155, q1155a, q1155b, q1155c⟩ := isOf hZ rfl (own_pt_exa P1153)
          obtain ⟨_, _, ⟨T1155, L1155, k1155, n1155⟩, -, X1155, ⟨Lc1155, hQ1155, l1155, y1155, z1155⟩, st1155⟩ := X1153.virtualBack hx (y := own_y_38) (z := own_y_38) hown (mvT hZ (own_w hw 19 rfl)) (mvT hZ (own_w hw 20 rfl)) (notFace_of_selects (args := #[]) (mvT hZ (own_w hw 22 rfl))) (mvT hZ (own_w hw 22 rfl)) (mvT hZ (own_w hw 21 rfl)) (by decide) (backOf (W := 0) (rmEmpT l Z a0 hw [] ob _ _ _ _ _ _ T1153.heap n0 z1154 P1153 (by decide)) hZ (own_w hw 23 rfl) (own_w hw 6 rfl) (by decide) (by decide)) q1155a q1155c (g := (mkF m 210 (own_LF q1 p2 p3 q4 p5 kn df ex lk m2 m3 nw mx ob e0 e1 .unset .unset) [(.ref ob)])) rfl (by rw [hml]; rfl) (Steps.refl _) (argsL := []) (rest := []) (lenOf pd_48 rfl) rfl (by show 2 * 0 + _ ≤ _; exact Nat.le_of_eq rfl) (hb hby at_210) (fun _ _ => ⟨rfl, rfl, (by decide : 5 + 0 ≤ _), (by decide : 22 + 0 ≤ _)⟩)
          dsimp only [Pt.U, Pt.locs, Pt.cells, Pt.slots] at X1155 l1155 y1155 z1155 st1155 hQ1155
          subst l1155 y1155 z1155
          obtain ⟨rfl, Nq1155, e1155⟩ := hQ1155
          have N1155 := Fr.app N1153 Nq1155
          have pre1156 : ∀ t, Steps p.tables e below (T1155.setTop (mkF m 217 (own_LF q1 p2 p3 q4 p5 kn df ex lk m2 m3 nw mx ob e0 e1 (.val (.int (1 : Int32))) .unset) [(.int ex)])) t → Steps p.tables e below (T0.setTop (mkF m 196 (own_LF q1 p2 p3 q4 p5 kn df ex lk m2 m3 nw mx ob e0 e1 .unset .unset) [])) t := fun t kt => pre1058 t (by
            show Steps p.tables e below (T0.setTop (mkF m 205 (own_LF q1 p2 p3 q4 p5 kn df ex lk m2 m3 nw mx ob e0 e1 .unset .unset) [(.long q4), (.ref ob)])) _
            refine st1153.trans ?_
            refine XS.aload X1153.here hx rfl (hb hby at_208) rfl rfl ?_
            refine st1155.trans ?_
            refine XS.istore X1155.here hx rfl (hb hby at_213) rfl (l' := (own_LF q1 p2 p3 q4 p5 kn df ex lk m2 m3 nw mx ob e0 e1 (.val (.int (1 : Int32))) .unset)) rfl ?_
            refine XS.iload X1155.here hx rfl (hb hby at_215) rfl ?_
            exact kt)
          by_cases hc1157 : ex = (0 : Int32)
          case pos =>
            obtain ⟨cq1158, kq1158, q1158a, q1158b, q1158c⟩ := isOf hZ e1155 (own_pt_exa P1153)
            obtain ⟨_, _, ⟨T1158, L1158, k1158, n1158⟩, -, X1158, ⟨Lc1158, hQ1158, l1158, y1158, z1158⟩, st1158⟩ := X1155.virtualBack hx (y := own_y_38) (z := own_y_38) hown (mvT hZ (own_w hw 19 rfl)) (mvT hZ (own_w hw 20 rfl)) (notFace_of_selects (args := #[]) (mvT hZ (own_w hw 22 rfl))) (mvT hZ (own_w hw 22 rfl)) (mvT hZ (own_w hw 21 rfl)) (by decide) (backOf (W := 0) (rmEmpT l Z a0 hw [] ob _ _ _ _ _ _ T1153.heap n0 z1154 P1153 (by decide)) hZ (own_w hw 23 rfl) (own_w hw 6 rfl) (by decide) (by decide)) q1158a q1158c (g := (mkF m 232 (own_LF q1 p2 p3 q4 p5 kn df ex lk m2 m3 nw mx ob e0 e1 (.val (.int (1 : Int32))) .unset) [(.ref ob)])) rfl (by rw [hml]; rfl) (Steps.refl _) (argsL := []) (rest := []) (lenOf pd_48 rfl) rfl (by show 2 * 0 + _ ≤ _; exact Nat.le_of_eq rfl) (hb hby at_232) (fun _ _ => ⟨rfl, e1155, (by decide : 5 + 0 ≤ _), (by decide : 22 + 0 ≤ _)⟩)
            dsimp only [Pt.U, Pt.locs, Pt.cells, Pt.slots] at X1158 l1158 y1158 z1158 st1158 hQ1158
            subst l1158 y1158 z1158
            obtain ⟨rfl, Nq1158, e1158⟩ := hQ1158
            have N1158 := Fr.app N1155 Nq1158
            have pre1159 : ∀ t, Steps p.tables e below (T1158.setTop (mkF m 237 (own_LF q1 p2 p3 q4 p5 kn df ex lk m2 m3 nw mx ob e0 e1 (.val (.int (1 : Int32))) (.val (.int (1 : Int32)))) [])) t → Steps p.tables e below (T0.setTop (mkF m 196 (own_LF q1 p2 p3 q4 p5 kn df ex lk m2 m3 nw mx ob e0 e1 .unset .unset) [])) t := fun t kt => pre1156 t (by
              show Steps p.tables e below (T1155.setTop (mkF m 217 (own_LF q1 p2 p3 q4 p5 kn df ex lk m2 m3 nw mx ob e0 e1 (.val (.int (1 : Int32))) .unset) [(.int ex)])) _
              refine XS.ifYes X1155.here hx rfl (pc0 := 217) (pc' := 230) rfl (hb hby at_217) rfl ((if0 _ _).trans (teq hc1157).1) (by decide) (by decide) ?_
              refine XS.aload X1155.here hx rfl (hb hby at_230) rfl rfl ?_
              refine st1158.trans ?_
              refine XS.istore X1158.here hx rfl (hb hby at_235) rfl (l' := (own_LF q1 p2 p3 q4 p5 kn df ex lk m2 m3 nw mx ob e0 e1 (.val (.int (1 : Int32))) (.val (.int (1 : Int32))))) rfl ?_
              exact kt)
            have hq : nw < q4 := by rw [hnw]; exact hc1061
            rw [show (if df = (0 : Int32) then (0 : Int32) else (if nw < q4 then (1 : Int32) else (0 : Int32))) = (1 : Int32) from (if_neg hc971).trans (if_pos hq)]
            rw [show (if ex = (0 : Int32) then (1 : Int32) else (0 : Int32)) = (1 : Int32) from if_pos hc1157]
            exact ⟨T1158, _, own_more X1158 (by decide) (by decide), N1158, pre1159⟩
          case neg =>
            obtain ⟨cq1219, kq1219, q1219a, q1219b, q1219c⟩ := isOf hZ e1155 (own_pt_exa P1153)
            obtain ⟨_, _, ⟨T1219, L1219, k1219, n1219⟩, -, X1219, ⟨Lc1219, hQ1219, l1219, y1219, z1219⟩, st1219⟩ := X1155.virtualBack hx (y := own_y_103) (z := own_y_103) hown (mvT hZ (own_w hw 28 rfl)) (mvT hZ (own_w hw 29 rfl)) (notFace_of_selects (args := #[]) (mvT hZ (own_w hw 31 rfl))) (mvT hZ (own_w hw 31 rfl)) (mvT hZ (own_w hw 30 rfl)) (by decide) (backOf (W := 0) (rmCnt334a l Z a0 hw [] ob mx p3 lk x0 x1 x2 x3 y0 y1 y2 y3 y2 T1153.heap n0 z1154 P1153) hZ (own_w hw 32 rfl) (own_w hw 6 rfl) (by decide) (by decide)) q1219a q1219c (g := (mkF m 227 (own_LF q1 p2 p3 q4 p5 kn df ex lk m2 m3 nw mx ob e0 e1 (.val (.int (1 : Int32))) .unset) [(.int lk), (.int p3), (.long mx), (.ref ob)])) rfl (by rw [hml]; rfl) (Steps.refl _) (argsL := [(.long mx), (.int p3), (.int lk)]) (rest := []) (lenOf pd_105 rfl) rfl (by show 2 * 0 + _ ≤ _; exact Nat.le_of_eq rfl) (hb hby at_227) (fun _ _ => ⟨rfl, e1155, (by decide : 5 + 0 ≤ _), (by decide : 22 + 0 ≤ _)⟩)
            dsimp only [Pt.U, Pt.locs, Pt.cells, Pt.slots] at X1219 l1219 y1219 z1219 st1219 hQ1219
            subst l1219 y1219 z1219
            obtain ⟨rfl, Nq1219, z1219, P1219⟩ := hQ1219
            have N1219 := Fr.app N1155 Nq1219
            have z1220 : n0 ≤ T1219.heap.size := Nat.le_trans z1154 z1219
            obtain ⟨cq1221, kq1221, q1221a, q1221b, q1221c⟩ := isOf hZ rfl (own_pt_exa P1219)
            obtain ⟨_, _, ⟨T1221, L1221, k1221, n1221⟩, -, X1221, ⟨Lc1221, hQ1221, l1221, y1221, z1221⟩, st1221⟩ := X1219.virtualBack hx (y := own_y_38) (z := own_y_38) hown (mvT hZ (own_w hw 19 rfl)) (mvT hZ (own_w hw 20 rfl)) (notFace_of_selects (args := #[]) (mvT hZ (own_w hw 22 rfl))) (mvT hZ (own_w hw 22 rfl)) (mvT hZ (own_w hw 21 rfl)) (by decide) (backOf (W := 0) (rmEmpF l Z a0 hw [] ob _ _ _ _ _ _ T1219.heap n0 z1220 P1219 (by decide)) hZ (own_w hw 23 rfl) (own_w hw 6 rfl) (by decide) (by decide)) q1221a q1221c (g := (mkF m 232 (own_LF q1 p2 p3 q4 p5 kn df ex lk m2 m3 nw mx ob e0 e1 (.val (.int (1 : Int32))) .unset) [(.ref ob)])) rfl (by rw [hml]; rfl) (Steps.refl _) (argsL := []) (rest := []) (lenOf pd_48 rfl) rfl (by show 2 * 0 + _ ≤ _; exact Nat.le_of_eq rfl) (hb hby at_232) (fun _ _ => ⟨rfl, rfl, (by decide : 5 + 0 ≤ _), (by decide : 22 + 0 ≤ _)⟩)
            dsimp only [Pt.U, Pt.locs, Pt.cells, Pt.slots] at X1221 l1221 y1221 z1221 st1221 hQ1221
            subst l1221 y1221 z1221
            obtain ⟨rfl, Nq1221, e1221⟩ := hQ1221
            have N1221 := Fr.app N1219 Nq1221
            have pre1222 : ∀ t, Steps p.tables e below (T1221.setTop (mkF m 237 (own_LF q1 p2 p3 q4 p5 kn df ex lk m2 m3 nw mx ob e0 e1 (.val (.int (1 : Int32))) (.val (.int (0 : Int32)))) [])) t → Steps p.tables e below (T0.setTop (mkF m 196 (own_LF q1 p2 p3 q4 p5 kn df ex lk m2 m3 nw mx ob e0 e1 .unset .unset) [])) t := fun t kt => pre1156 t (by
              show Steps p.tables e below (T1155.setTop (mkF m 217 (own_LF q1 p2 p3 q4 p5 kn df ex lk m2 m3 nw mx ob e0 e1 (.val (.int (1 : Int32))) .unset) [(.int ex)])) _
              refine XS.ifNo X1155.here hx rfl (hb hby at_217) rfl ((if0 _ _).trans (feq hc1157).1) ?_
              refine XS.aload X1155.here hx rfl (hb hby at_220) rfl rfl ?_
              refine XS.lload X1155.here hx rfl (hb hby at_222) rfl ?_
              refine XS.iloadN X1155.here hx rfl (hb hby at_224) rfl ?_
              refine XS.iload X1155.here hx rfl (hb hby at_225) rfl ?_
              refine st1219.trans ?_
              refine XS.aload X1219.here hx rfl (hb hby at_230) rfl rfl ?_
              refine st1221.trans ?_
              refine XS.istore X1221.here hx rfl (hb hby at_235) rfl (l' := (own_LF q1 p2 p3 q4 p5 kn df ex lk m2 m3 nw mx ob e0 e1 (.val (.int (1 : Int32))) (.val (.int (0 : Int32))))) rfl ?_
              exact kt)
            have hq : nw < q4 := by rw [hnw]; exact hc1061
            rw [show (if df = (0 : Int32) then (0 : Int32) else (if nw < q4 then (1 : Int32) else (0 : Int32))) = (1 : Int32) from (if_neg hc971).trans (if_pos hq)]
            rw [show (if ex = (0 : Int32) then (1 : Int32) else (0 : Int32)) = (0 : Int32) from if_neg hc1157]
            exact ⟨T1221, _, own_more X1221 (by decide) (by decide), N1221, pre1222⟩
        case neg =>
          obtain ⟨cq1288, kq1288, q1288a, q1288b, q1288c⟩ := isOf hZ rfl (own_pt_exa P0)
          obtain ⟨_, _, ⟨T1288, L1288, k1288, n1288⟩, -, X1288, ⟨Lc1288, hQ1288, l1288, y1288, z1288⟩, st1288⟩ := X0.virtualBack hx (y := own_y_113) (z := own_y_113) hown (mvT hZ (own_w hw 63 rfl)) (mvT hZ (own_w hw 64 rfl)) (notFace_of_selects (args := #[]) (mvT hZ (own_w hw 66 rfl))) (mvT hZ (own_w hw 66 rfl)) (mvT hZ (own_w hw 65 rfl)) (by decide) (backOf (W := 0) (rmFgt034_2 l Z a0 hw [] ob q4 x0 x1 x2 x3 y0 y1 y2 y3 b T0.heap n0 Z0 P0 hc1059 hc1060 hc1061) hZ (own_w hw 67 rfl) (own_w hw 6 rfl) (by decide) (by decide)) q1288a q1288c (g := (mkF m 205 (own_LF q1 p2 p3 q4 p5 kn df ex lk m2 m3 nw mx ob e0 e1 .unset .unset) [(.long q4), (.ref ob)])) rfl (by rw [hml]; rfl) (Steps.refl _) (argsL := [(.long q4)]) (rest := []) (lenOf pd_115 rfl) rfl (by show 2 * 0 + _ ≤ _; exact Nat.le_of_eq rfl) (hb hby at_205) (fun _ _ => ⟨rfl, rfl, (by decide : 5 + 0 ≤ _), (by decide : 22 + 0 ≤ _)⟩)
          dsimp only [Pt.U, Pt.locs, Pt.cells, Pt.slots] at X1288 l1288 y1288 z1288 st1288 hQ1288
          subst l1288 y1288 z1288
          obtain ⟨rfl, Nq1288, z1288, P1288⟩ := hQ1288
          have N1288 := Fr.app N0 Nq1288
          have z1289 : n0 ≤ T1288.heap.size := Nat.le_trans Z0 z1288
          obtain ⟨cq1290, kq1290, q1290a, q1290b, q1290c⟩ := isOf hZ rfl (own_pt_exa P1288)
          obtain ⟨_, _, ⟨T1290, L1290, k1290, n1290⟩, -, X1290, ⟨Lc1290, hQ1290, l1290, y1290, z1290⟩, st1290⟩ := X1288.virtualBack hx (y := own_y_38) (z := own_y_38) hown (mvT hZ (own_w hw 19 rfl)) (mvT hZ (own_w hw 20 rfl)) (notFace_of_selects (args := #[]) (mvT hZ (own_w hw 22 rfl))) (mvT hZ (own_w hw 22 rfl)) (mvT hZ (own_w hw 21 rfl)) (by decide) (backOf (W := 0) (rmEmpF l Z a0 hw [] ob _ _ _ _ _ _ T1288.heap n0 z1289 P1288 (by decide)) hZ (own_w hw 23 rfl) (own_w hw 6 rfl) (by decide) (by decide)) q1290a q1290c (g := (mkF m 210 (own_LF q1 p2 p3 q4 p5 kn df ex lk m2 m3 nw mx ob e0 e1 .unset .unset) [(.ref ob)])) rfl (by rw [hml]; rfl) (Steps.refl _) (argsL := []) (rest := []) (lenOf pd_48 rfl) rfl (by show 2 * 0 + _ ≤ _; exact Nat.le_of_eq rfl) (hb hby at_210) (fun _ _ => ⟨rfl, rfl, (by decide : 5 + 0 ≤ _), (by decide : 22 + 0 ≤ _)⟩)
          dsimp only [Pt.U, Pt.locs, Pt.cells, Pt.slots] at X1290 l1290 y1290 z1290 st1290 hQ1290
          subst l1290 y1290 z1290
          obtain ⟨rfl, Nq1290, e1290⟩ := hQ1290
          have N1290 := Fr.app N1288 Nq1290
          have pre1291 : ∀ t, Steps p.tables e below (T1290.setTop (mkF m 217 (own_LF q1 p2 p3 q4 p5 kn df ex lk m2 m3 nw mx ob e0 e1 (.val (.int (0 : Int32))) .unset) [(.int ex)])) t → Steps p.tables e below (T0.setTop (mkF m 196 (own_LF q1 p2 p3 q4 p5 kn df ex lk m2 m3 nw mx ob e0 e1 .unset .unset) [])) t := fun t kt => pre1058 t (by
            show Steps p.tables e below (T0.setTop (mkF m 205 (own_LF q1 p2 p3 q4 p5 kn df ex lk m2 m3 nw mx ob e0 e1 .unset .unset) [(.long q4), (.ref ob)])) _
            refine st1288.trans ?_
            refine XS.aload X1288.here hx rfl (hb hby at_208) rfl rfl ?_
            refine st1290.trans ?_
            refine XS.istore X1290.here hx rfl (hb hby at_213) rfl (l' := (own_LF q1 p2 p3 q4 p5 kn df ex lk m2 m3 nw mx ob e0 e1 (.val (.int (0 : Int32))) .unset)) rfl ?_
            refine XS.iload X1290.here hx rfl (hb hby at_215) rfl ?_
            exact kt)
          by_cases hc1292 : ex = (0 : Int32)
          case pos =>
            obtain ⟨cq1293, kq1293, q1293a, q1293b, q1293c⟩ := isOf hZ e1290 (own_pt_exa P1288)
            obtain ⟨_, _, ⟨T1293, L1293, k1293, n1293⟩, -, X1293, ⟨Lc1293, hQ1293, l1293, y1293, z1293⟩, st1293⟩ := X1290.virtualBack hx (y := own_y_38) (z := own_y_38) hown (mvT hZ (own_w hw 19 rfl)) (mvT hZ (own_w hw 20 rfl)) (notFace_of_selects (args := #[]) (mvT hZ (own_w hw 22 rfl))) (mvT hZ (own_w hw 22 rfl)) (mvT hZ (own_w hw 21 rfl)) (by decide) (backOf (W := 0) (rmEmpF l Z a0 hw [] ob _ _ _ _ _ _ T1288.heap n0 z1289 P1288 (by decide)) hZ (own_w hw 23 rfl) (own_w hw 6 rfl) (by decide) (by decide)) q1293a q1293c (g := (mkF m 232 (own_LF q1 p2 p3 q4 p5 kn df ex lk m2 m3 nw mx ob e0 e1 (.val (.int (0 : Int32))) .unset) [(.ref ob)])) rfl (by rw [hml]; rfl) (Steps.refl _) (argsL := []) (rest := []) (lenOf pd_48 rfl) rfl (by show 2 * 0 + _ ≤ _; exact Nat.le_of_eq rfl) (hb hby at_232) (fun _ _ => ⟨rfl, e1290, (by decide : 5 + 0 ≤ _), (by decide : 22 + 0 ≤ _)⟩)
            dsimp only [Pt.U, Pt.locs, Pt.cells, Pt.slots] at X1293 l1293 y1293 z1293 st1293 hQ1293
            subst l1293 y1293 z1293
            obtain ⟨rfl, Nq1293, e1293⟩ := hQ1293
            have N1293 := Fr.app N1290 Nq1293
            have pre1294 : ∀ t, Steps p.tables e below (T1293.setTop (mkF m 237 (own_LF q1 p2 p3 q4 p5 kn df ex lk m2 m3 nw mx ob e0 e1 (.val (.int (0 : Int32))) (.val (.int (0 : Int32)))) [])) t → Steps p.tables e below (T0.setTop (mkF m 196 (own_LF q1 p2 p3 q4 p5 kn df ex lk m2 m3 nw mx ob e0 e1 .unset .unset) [])) t := fun t kt => pre1291 t (by
              show Steps p.tables e below (T1290.setTop (mkF m 217 (own_LF q1 p2 p3 q4 p5 kn df ex lk m2 m3 nw mx ob e0 e1 (.val (.int (0 : Int32))) .unset) [(.int ex)])) _
              refine XS.ifYes X1290.here hx rfl (pc0 := 217) (pc' := 230) rfl (hb hby at_217) rfl ((if0 _ _).trans (teq hc1292).1) (by decide) (by decide) ?_
              refine XS.aload X1290.here hx rfl (hb hby at_230) rfl rfl ?_
              refine st1293.trans ?_
              refine XS.istore X1293.here hx rfl (hb hby at_235) rfl (l' := (own_LF q1 p2 p3 q4 p5 kn df ex lk m2 m3 nw mx ob e0 e1 (.val (.int (0 : Int32))) (.val (.int (0 : Int32))))) rfl ?_
              exact kt)
            have hq : ¬ (nw < q4) := by rw [hnw]; exact hc1061
            rw [show (if df = (0 : Int32) then (0 : Int32) else (if nw < q4 then (1 : Int32) else (0 : Int32))) = (0 : Int32) from (if_neg hc971).trans (if_neg hq)]
            rw [show (if ex = (0 : Int32) then (0 : Int32) else (0 : Int32)) = (0 : Int32) from if_pos hc1292]
            exact ⟨T1293, _, own_more X1293 (by decide) (by decide), N1293, pre1294⟩
          case neg =>
            have pre1295 : ∀ t, Steps p.tables e below (T1290.setTop (mkF m 227 (own_LF q1 p2 p3 q4 p5 kn df ex lk m2 m3 nw mx ob e0 e1 (.val (.int (0 : Int32))) .unset) [(.int lk), (.int p3), (.long mx), (.ref ob)])) t → Steps p.tables e below (T0.setTop (mkF m 196 (own_LF q1 p2 p3 q4 p5 kn df ex lk m2 m3 nw mx ob e0 e1 .unset .unset) [])) t := fun t kt => pre1291 t (by
              show Steps p.tables e below (T1290.setTop (mkF m 217 (own_LF q1 p2 p3 q4 p5 kn df ex lk m2 m3 nw mx ob e0 e1 (.val (.int (0 : Int32))) .unset) [(.int ex)])) _
              refine XS.ifNo X1290.here hx rfl (hb hby at_217) rfl ((if0 _ _).trans (feq hc1292).1) ?_
              refine XS.aload X1290.here hx rfl (hb hby at_220) rfl rfl ?_
              refine XS.lload X1290.here hx rfl (hb hby at_222) rfl ?_
              refine XS.iloadN X1290.here hx rfl (hb hby at_224) rfl ?_
              refine XS.iload X1290.here hx rfl (hb hby at_225) rfl ?_
              exact kt)
            by_cases hc1296 : x2 < mx
            case pos =>
              obtain ⟨cq1346, kq1346, q1346a, q1346b, q1346c⟩ := isOf hZ e1290 (own_pt_exa P1288)
              obtain ⟨_, _, ⟨T1346, L1346, k1346, n1346⟩, -, X1346, ⟨Lc1346, hQ1346, l1346, y1346, z1346⟩, st1346⟩ := X1290.virtualBack hx (y := own_y_103) (z := own_y_103) hown (mvT hZ (own_w hw 28 rfl)) (mvT hZ (own_w hw 29 rfl)) (notFace_of_selects (args := #[]) (mvT hZ (own_w hw 31 rfl))) (mvT hZ (own_w hw 31 rfl)) (mvT hZ (own_w hw 30 rfl)) (by decide) (backOf (W := 0) (rmCnt234a l Z a0 hw [] ob mx p3 lk x0 x1 x2 x3 y0 y1 y2 y3 y1 T1288.heap n0 z1289 P1288 hc1296) hZ (own_w hw 32 rfl) (own_w hw 6 rfl) (by decide) (by decide)) q1346a q1346c (g := (mkF m 227 (own_LF q1 p2 p3 q4 p5 kn df ex lk m2 m3 nw mx ob e0 e1 (.val (.int (0 : Int32))) .unset) [(.int lk), (.int p3), (.long mx), (.ref ob)])) rfl (by rw [hml]; rfl) (Steps.refl _) (argsL := [(.long mx), (.int p3), (.int lk)]) (rest := []) (lenOf pd_105 rfl) rfl (by show 2 * 0 + _ ≤ _; exact Nat.le_of_eq rfl) (hb hby at_227) (fun _ _ => ⟨rfl, e1290, (by decide : 5 + 0 ≤ _), (by decide : 22 + 0 ≤ _)⟩)
              dsimp only [Pt.U, Pt.locs, Pt.cells, Pt.slots] at X1346 l1346 y1346 z1346 st1346 hQ1346
              subst l1346 y1346 z1346
              obtain ⟨rfl, Nq1346, z1346, P1346⟩ := hQ1346
              have N1346 := Fr.app N1290 Nq1346
              have z1347 : n0 ≤ T1346.heap.size := Nat.le_trans z1289 z1346
              obtain ⟨cq1348, kq1348, q1348a, q1348b, q1348c⟩ := isOf hZ rfl (own_pt_exa P1346)
              obtain ⟨_, _, ⟨T1348, L1348, k1348, n1348⟩, -, X1348, ⟨Lc1348, hQ1348, l1348, y1348, z1348⟩, st1348⟩ := X1346.virtualBack hx (y := own_y_38) (z := own_y_38) hown (mvT hZ (own_w hw 19 rfl)) (mvT hZ (own_w hw 20 rfl)) (notFace_of_selects (args := #[]) (mvT hZ (own_w hw 22 rfl))) (mvT hZ (own_w hw 22 rfl)) (mvT hZ (own_w hw 21 rfl)) (by decide) (backOf (W := 0) (rmEmpF l Z a0 hw [] ob _ _ _ _ _ _ T1346.heap n0 z1347 P1346 (by decide)) hZ (own_w hw 23 rfl) (own_w hw 6 rfl) (by decide) (by decide)) q1348a q1348c (g := (mkF m 232 (own_LF q1 p2 p3 q4 p5 kn df ex lk m2 m3 nw mx ob e0 e1 (.val (.int (0 : Int32))) .unset) [(.ref ob)])) rfl (by rw [hml]; rfl) (Steps.refl _) (argsL := []) (rest := []) (lenOf pd_48 rfl) rfl (by show 2 * 0 + _ ≤ _; exact Nat.le_of_eq rfl) (hb hby at_232) (fun _ _ => ⟨rfl, rfl, (by decide : 5 + 0 ≤ _), (by decide : 22 + 0 ≤ _)⟩)
              dsimp only [Pt.U, Pt.locs, Pt.cells, Pt.slots] at X1348 l1348 y1348 z1348 st1348 hQ1348
              subst l1348 y1348 z1348
              obtain ⟨rfl, Nq1348, e1348⟩ := hQ1348
              have N1348 := Fr.app N1346 Nq1348
              have pre1349 : ∀ t, Steps p.tables e below (T1348.setTop (mkF m 237 (own_LF q1 p2 p3 q4 p5 kn df ex lk m2 m3 nw mx ob e0 e1 (.val (.int (0 : Int32))) (.val (.int (0 : Int32)))) [])) t → Steps p.tables e below (T0.setTop (mkF m 196 (own_LF q1 p2 p3 q4 p5 kn df ex lk m2 m3 nw mx ob e0 e1 .unset .unset) [])) t := fun t kt => pre1295 t (by
                show Steps p.tables e below (T1290.setTop (mkF m 227 (own_LF q1 p2 p3 q4 p5 kn df ex lk m2 m3 nw mx ob e0 e1 (.val (.int (0 : Int32))) .unset) [(.int lk), (.int p3), (.long mx), (.ref ob)])) _
                refine st1346.trans ?_
                refine XS.aload X1346.here hx rfl (hb hby at_230) rfl rfl ?_
                refine st1348.trans ?_
                refine XS.istore X1348.here hx rfl (hb hby at_235) rfl (l' := (own_LF q1 p2 p3 q4 p5 kn df ex lk m2 m3 nw mx ob e0 e1 (.val (.int (0 : Int32))) (.val (.int (0 : Int32))))) rfl ?_
                exact kt)
              have hq : ¬ (nw < q4) := by rw [hnw]; exact hc1061
              rw [show (if df = (0 : Int32) then (0 : Int32) else (if nw < q4 then (1 : Int32) else (0 : Int32))) = (0 : Int32) from (if_neg hc971).trans (if_neg hq)]
              rw [show (if ex = (0 : Int32) then (0 : Int32) else (0 : Int32)) = (0 : Int32) from if_neg hc1292]
              exact ⟨T1348, _, own_more X1348 (by decide) (by decide), N1348, pre1349⟩
            case neg =>
              obtain ⟨cq1372, kq1372, q1372a, q1372b, q1372c⟩ := isOf hZ e1290 (own_pt_exa P1288)
              obtain ⟨_, _, ⟨T1372, L1372, k1372, n1372⟩, -, X1372, ⟨Lc1372, hQ1372, l1372, y1372, z1372⟩, st1372⟩ := X1290.virtualBack hx (y := own_y_103) (z := own_y_103) hown (mvT hZ (own_w hw 28 rfl)) (mvT hZ (own_w hw 29 rfl)) (notFace_of_selects (args := #[]) (mvT hZ (own_w hw 31 rfl))) (mvT hZ (own_w hw 31 rfl)) (mvT hZ (own_w hw 30 rfl)) (by decide) (backOf (W := 0) (rmCnt234o l Z a0 hw [] ob mx p3 lk x0 x1 x2 x3 y0 y1 y2 y3 y1 T1288.heap n0 z1289 P1288 hc1296) hZ (own_w hw 32 rfl) (own_w hw 6 rfl) (by decide) (by decide)) q1372a q1372c (g := (mkF m 227 (own_LF q1 p2 p3 q4 p5 kn df ex lk m2 m3 nw mx ob e0 e1 (.val (.int (0 : Int32))) .unset) [(.int lk), (.int p3), (.long mx), (.ref ob)])) rfl (by rw [hml]; rfl) (Steps.refl _) (argsL := [(.long mx), (.int p3), (.int lk)]) (rest := []) (lenOf pd_105 rfl) rfl (by show 2 * 0 + _ ≤ _; exact Nat.le_of_eq rfl) (hb hby at_227) (fun _ _ => ⟨rfl, e1290, (by decide : 5 + 0 ≤ _), (by decide : 22 + 0 ≤ _)⟩)
              dsimp only [Pt.U, Pt.locs, Pt.cells, Pt.slots] at X1372 l1372 y1372 z1372 st1372 hQ1372
              subst l1372 y1372 z1372
              obtain ⟨rfl, Nq1372, z1372, P1372⟩ := hQ1372
              have N1372 := Fr.app N1290 Nq1372
              have z1373 : n0 ≤ T1372.heap.size := Nat.le_trans z1289 z1372
              obtain ⟨cq1374, kq1374, q1374a, q1374b, q1374c⟩ := isOf hZ rfl (own_pt_exa P1372)
              obtain ⟨_, _, ⟨T1374, L1374, k1374, n1374⟩, -, X1374, ⟨Lc1374, hQ1374, l1374, y1374, z1374⟩, st1374⟩ := X1372.virtualBack hx (y := own_y_38) (z := own_y_38) hown (mvT hZ (own_w hw 19 rfl)) (mvT hZ (own_w hw 20 rfl)) (notFace_of_selects (args := #[]) (mvT hZ (own_w hw 22 rfl))) (mvT hZ (own_w hw 22 rfl)) (mvT hZ (own_w hw 21 rfl)) (by decide) (backOf (W := 0) (rmEmpF l Z a0 hw [] ob _ _ _ _ _ _ T1372.heap n0 z1373 P1372 (by decide)) hZ (own_w hw 23 rfl) (own_w hw 6 rfl) (by decide) (by decide)) q1374a q1374c (g := (mkF m 232 (own_LF q1 p2 p3 q4 p5 kn df ex lk m2 m3 nw mx ob e0 e1 (.val (.int (0 : Int32))) .unset) [(.ref ob)])) rfl (by rw [hml]; rfl) (Steps.refl _) (argsL := []) (rest := []) (lenOf pd_48 rfl) rfl (by show 2 * 0 + _ ≤ _; exact Nat.le_of_eq rfl) (hb hby at_232) (fun _ _ => ⟨rfl, rfl, (by decide : 5 + 0 ≤ _), (by decide : 22 + 0 ≤ _)⟩)
              dsimp only [Pt.U, Pt.locs, Pt.cells, Pt.slots] at X1374 l1374 y1374 z1374 st1374 hQ1374
              subst l1374 y1374 z1374
              obtain ⟨rfl, Nq1374, e1374⟩ := hQ1374
              have N1374 := Fr.app N1372 Nq1374
              have pre1375 : ∀ t, Steps p.tables e below (T1374.setTop (mkF m 237 (own_LF q1 p2 p3 q4 p5 kn df ex lk m2 m3 nw mx ob e0 e1 (.val (.int (0 : Int32))) (.val (.int (0 : Int32)))) [])) t → Steps p.tables e below (T0.setTop (mkF m 196 (own_LF q1 p2 p3 q4 p5 kn df ex lk m2 m3 nw mx ob e0 e1 .unset .unset) [])) t := fun t kt => pre1295 t (by
                show Steps p.tables e below (T1290.setTop (mkF m 227 (own_LF q1 p2 p3 q4 p5 kn df ex lk m2 m3 nw mx ob e0 e1 (.val (.int (0 : Int32))) .unset) [(.int lk), (.int p3), (.long mx), (.ref ob)])) _
                refine st1372.trans ?_
                refine XS.aload X1372.here hx rfl (hb hby at_230) rfl rfl ?_
                refine st1374.trans ?_
                refine XS.istore X1374.here hx rfl (hb hby at_235) rfl (l' := (own_LF q1 p2 p3 q4 p5 kn df ex lk m2 m3 nw mx ob e0 e1 (.val (.int (0 : Int32))) (.val (.int (0 : Int32))))) rfl ?_
                exact kt)
              have hq : ¬ (nw < q4) := by rw [hnw]; exact hc1061
              rw [show (if df = (0 : Int32) then (0 : Int32) else (if nw < q4 then (1 : Int32) else (0 : Int32))) = (0 : Int32) from (if_neg hc971).trans (if_neg hq)]
              rw [show (if ex = (0 : Int32) then (0 : Int32) else (0 : Int32)) = (0 : Int32) from if_neg hc1292]
              exact ⟨T1374, _, own_more X1374 (by decide) (by decide), N1374, pre1375⟩
      case neg =>
        obtain ⟨cq1412, kq1412, q1412a, q1412b, q1412c⟩ := isOf hZ rfl (own_pt_exa P0)
        obtain ⟨_, _, ⟨T1412, L1412, k1412, n1412⟩, -, X1412, ⟨Lc1412, hQ1412, l1412, y1412, z1412⟩, st1412⟩ := X0.virtualBack hx (y := own_y_113) (z := own_y_113) hown (mvT hZ (own_w hw 63 rfl)) (mvT hZ (own_w hw 64 rfl)) (notFace_of_selects (args := #[]) (mvT hZ (own_w hw 66 rfl))) (mvT hZ (own_w hw 66 rfl)) (mvT hZ (own_w hw 65 rfl)) (by decide) (backOf (W := 0) (rmFgt034_1 l Z a0 hw [] ob q4 x0 x1 x2 x3 y0 y1 y2 y3 b T0.heap n0 Z0 P0 hc1059 hc1060) hZ (own_w hw 67 rfl) (own_w hw 6 rfl) (by decide) (by decide)) q1412a q1412c (g := (mkF m 205 (own_LF q1 p2 p3 q4 p5 kn df ex lk m2 m3 nw mx ob e0 e1 .unset .unset) [(.long q4), (.ref ob)])) rfl (by rw [hml]; rfl) (Steps.refl _) (argsL := [(.long q4)]) (rest := []) (lenOf pd_115 rfl) rfl (by show 2 * 0 + _ ≤ _; exact Nat.le_of_eq rfl) (hb hby at_205) (fun _ _ => ⟨rfl, rfl, (by decide : 5 + 0 ≤ _), (by decide : 22 + 0 ≤ _)⟩)
        dsimp only [Pt.U, Pt.locs, Pt.cells, Pt.slots] at X1412 l1412 y1412 z1412 st1412 hQ1412
        subst l1412 y1412 z1412
        obtain ⟨rfl, Nq1412, z1412, P1412⟩ := hQ1412
        have N1412 := Fr.app N0 Nq1412
        have z1413 : n0 ≤ T1412.heap.size := Nat.le_trans Z0 z1412
        obtain ⟨cq1414, kq1414, q1414a, q1414b, q1414c⟩ := isOf hZ rfl (own_pt_exa P1412)
        obtain ⟨_, _, ⟨T1414, L1414, k1414, n1414⟩, -, X1414, ⟨Lc1414, hQ1414, l1414, y1414, z1414⟩, st1414⟩ := X1412.virtualBack hx (y := own_y_38) (z := own_y_38) hown (mvT hZ (own_w hw 19 rfl)) (mvT hZ (own_w hw 20 rfl)) (notFace_of_selects (args := #[]) (mvT hZ (own_w hw 22 rfl))) (mvT hZ (own_w hw 22 rfl)) (mvT hZ (own_w hw 21 rfl)) (by decide) (backOf (W := 0) (rmEmpF l Z a0 hw [] ob _ _ _ _ _ _ T1412.heap n0 z1413 P1412 (by decide)) hZ (own_w hw 23 rfl) (own_w hw 6 rfl) (by decide) (by decide)) q1414a q1414c (g := (mkF m 210 (own_LF q1 p2 p3 q4 p5 kn df ex lk m2 m3 nw mx ob e0 e1 .unset .unset) [(.ref ob)])) rfl (by rw [hml]; rfl) (Steps.refl _) (argsL := []) (rest := []) (lenOf pd_48 rfl) rfl (by show 2 * 0 + _ ≤ _; exact Nat.le_of_eq rfl) (hb hby at_210) (fun _ _ => ⟨rfl, rfl, (by decide : 5 + 0 ≤ _), (by decide : 22 + 0 ≤ _)⟩)
        dsimp only [Pt.U, Pt.locs, Pt.cells, Pt.slots] at X1414 l1414 y1414 z1414 st1414 hQ1414
        subst l1414 y1414 z1414
        obtain ⟨rfl, Nq1414, e1414⟩ := hQ1414
        have N1414 := Fr.app N1412 Nq1414
        have pre1415 : ∀ t, Steps p.tables e below (T1414.setTop (mkF m 217 (own_LF q1 p2 p3 q4 p5 kn df ex lk m2 m3 nw mx ob e0 e1 (.val (.int (0 : Int32))) .unset) [(.int ex)])) t → Steps p.tables e below (T0.setTop (mkF m 196 (own_LF q1 p2 p3 q4 p5 kn df ex lk m2 m3 nw mx ob e0 e1 .unset .unset) [])) t := fun t kt => pre1058 t (by
          show Steps p.tables e below (T0.setTop (mkF m 205 (own_LF q1 p2 p3 q4 p5 kn df ex lk m2 m3 nw mx ob e0 e1 .unset .unset) [(.long q4), (.ref ob)])) _
          refine st1412.trans ?_
          refine XS.aload X1412.here hx rfl (hb hby at_208) rfl rfl ?_
          refine st1414.trans ?_
          refine XS.istore X1414.here hx rfl (hb hby at_213) rfl (l' := (own_LF q1 p2 p3 q4 p5 kn df ex lk m2 m3 nw mx ob e0 e1 (.val (.int (0 : Int32))) .unset)) rfl ?_
          refine XS.iload X1414.here hx rfl (hb hby at_215) rfl ?_
          exact kt)
        by_cases hc1416 : ex = (0 : Int32)
        case pos =>
          obtain ⟨cq1417, kq1417, q1417a, q1417b, q1417c⟩ := isOf hZ e1414 (own_pt_exa P1412)
          obtain ⟨_, _, ⟨T1417, L1417, k1417, n1417⟩, -, X1417, ⟨Lc1417, hQ1417, l1417, y1417, z1417⟩, st1417⟩ := X1414.virtualBack hx (y := own_y_38) (z := own_y_38) hown (mvT hZ (own_w hw 19 rfl)) (mvT hZ (own_w hw 20 rfl)) (notFace_of_selects (args := #[]) (mvT hZ (own_w hw 22 rfl))) (mvT hZ (own_w hw 22 rfl)) (mvT hZ (own_w hw 21 rfl)) (by decide) (backOf (W := 0) (rmEmpF l Z a0 hw [] ob _ _ _ _ _ _ T1412.heap n0 z1413 P1412 (by decide)) hZ (own_w hw 23 rfl) (own_w hw 6 rfl) (by decide) (by decide)) q1417a q1417c (g := (mkF m 232 (own_LF q1 p2 p3 q4 p5 kn df ex lk m2 m3 nw mx ob e0 e1 (.val (.int (0 : Int32))) .unset) [(.ref ob)])) rfl (by rw [hml]; rfl) (Steps.refl _) (argsL := []) (rest := []) (lenOf pd_48 rfl) rfl (by show 2 * 0 + _ ≤ _; exact Nat.le_of_eq rfl) (hb hby at_232) (fun _ _ => ⟨rfl, e1414, (by decide : 5 + 0 ≤ _), (by decide : 22 + 0 ≤ _)⟩)
          dsimp only [Pt.U, Pt.locs, Pt.cells, Pt.slots] at X1417 l1417 y1417 z1417 st1417 hQ1417
          subst l1417 y1417 z1417
          obtain ⟨rfl, Nq1417, e1417⟩ := hQ1417
          have N1417 := Fr.app N1414 Nq1417
          have pre1418 : ∀ t, Steps p.tables e below (T1417.setTop (mkF m 237 (own_LF q1 p2 p3 q4 p5 kn df ex lk m2 m3 nw mx ob e0 e1 (.val (.int (0 : Int32))) (.val (.int (0 : Int32)))) [])) t → Steps p.tables e below (T0.setTop (mkF m 196 (own_LF q1 p2 p3 q4 p5 kn df ex lk m2 m3 nw mx ob e0 e1 .unset .unset) [])) t := fun t kt => pre1415 t (by
            show Steps p.tables e below (T1414.setTop (mkF m 217 (own_LF q1 p2 p3 q4 p5 kn df ex lk m2 m3 nw mx ob e0 e1 (.val (.int (0 : Int32))) .unset) [(.int ex)])) _
            refine XS.ifYes X1414.here hx rfl (pc0 := 217) (pc' := 230) rfl (hb hby at_217) rfl ((if0 _ _).trans (teq hc1416).1) (by decide) (by decide) ?_
            refine XS.aload X1414.here hx rfl (hb hby at_230) rfl rfl ?_
            refine st1417.trans ?_
            refine XS.istore X1417.here hx rfl (hb hby at_235) rfl (l' := (own_LF q1 p2 p3 q4 p5 kn df ex lk m2 m3 nw mx ob e0 e1 (.val (.int (0 : Int32))) (.val (.int (0 : Int32))))) rfl ?_
            exact kt)
          have lt1419 : ¬ (x2 < q4) := by
            rw [Int64.lt_iff_toInt_lt] at hs0 hs1 hc1059 hc1060 ⊢
            omega
          have hq : ¬ (nw < q4) := by rw [hnw]; exact lt1419
          rw [show (if df = (0 : Int32) then (0 : Int32) else (if nw < q4 then (1 : Int32) else (0 : Int32))) = (0 : Int32) from (if_neg hc971).trans (if_neg hq)]
          rw [show (if ex = (0 : Int32) then (0 : Int32) else (0 : Int32)) = (0 : Int32) from if_pos hc1416]
          exact ⟨T1417, _, own_more X1417 (by decide) (by decide), N1417, pre1418⟩
        case neg =>
          have pre1420 : ∀ t, Steps p.tables e below (T1414.setTop (mkF m 227 (own_LF q1 p2 p3 q4 p5 kn df ex lk m2 m3 nw mx ob e0 e1 (.val (.int (0 : Int32))) .unset) [(.int lk), (.int p3), (.long mx), (.ref ob)])) t → Steps p.tables e below (T0.setTop (mkF m 196 (own_LF q1 p2 p3 q4 p5 kn df ex lk m2 m3 nw mx ob e0 e1 .unset .unset) [])) t := fun t kt => pre1415 t (by
            show Steps p.tables e below (T1414.setTop (mkF m 217 (own_LF q1 p2 p3 q4 p5 kn df ex lk m2 m3 nw mx ob e0 e1 (.val (.int (0 : Int32))) .unset) [(.int ex)])) _
            refine XS.ifNo X1414.here hx rfl (hb hby at_217) rfl ((if0 _ _).trans (feq hc1416).1) ?_
            refine XS.aload X1414.here hx rfl (hb hby at_220) rfl rfl ?_
            refine XS.lload X1414.here hx rfl (hb hby at_222) rfl ?_
            refine XS.iloadN X1414.here hx rfl (hb hby at_224) rfl ?_
            refine XS.iload X1414.here hx rfl (hb hby at_225) rfl ?_
            exact kt)
          by_cases hc1421 : x2 < mx
          case pos =>
            obtain ⟨cq1471, kq1471, q1471a, q1471b, q1471c⟩ := isOf hZ e1414 (own_pt_exa P1412)
            obtain ⟨_, _, ⟨T1471, L1471, k1471, n1471⟩, -, X1471, ⟨Lc1471, hQ1471, l1471, y1471, z1471⟩, st1471⟩ := X1414.virtualBack hx (y := own_y_103) (z := own_y_103) hown (mvT hZ (own_w hw 28 rfl)) (mvT hZ (own_w hw 29 rfl)) (notFace_of_selects (args := #[]) (mvT hZ (own_w hw 31 rfl))) (mvT hZ (own_w hw 31 rfl)) (mvT hZ (own_w hw 30 rfl)) (by decide) (backOf (W := 0) (rmCnt134a l Z a0 hw [] ob mx p3 lk x0 x1 x2 x3 y0 y1 y2 y3 y0 T1412.heap n0 z1413 P1412 hc1421) hZ (own_w hw 32 rfl) (own_w hw 6 rfl) (by decide) (by decide)) q1471a q1471c (g := (mkF m 227 (own_LF q1 p2 p3 q4 p5 kn df ex lk m2 m3 nw mx ob e0 e1 (.val (.int (0 : Int32))) .unset) [(.int lk), (.int p3), (.long mx), (.ref ob)])) rfl (by rw [hml]; rfl) (Steps.refl _) (argsL := [(.long mx), (.int p3), (.int lk)]) (rest := []) (lenOf pd_105 rfl) rfl (by show 2 * 0 + _ ≤ _; exact Nat.le_of_eq rfl) (hb hby at_227) (fun _ _ => ⟨rfl, e1414, (by decide : 5 + 0 ≤ _), (by decide : 22 + 0 ≤ _)⟩)
            dsimp only [Pt.U, Pt.locs, Pt.cells, Pt.slots] at X1471 l1471 y1471 z1471 st1471 hQ1471
            subst l1471 y1471 z1471
            obtain ⟨rfl, Nq1471, z1471, P1471⟩ := hQ1471
            have N1471 := Fr.app N1414 Nq1471
            have z1472 : n0 ≤ T1471.heap.size := Nat.le_trans z1413 z1471
            obtain ⟨cq1473, kq1473, q1473a, q1473b, q1473c⟩ := isOf hZ rfl (own_pt_exa P1471)
            obtain ⟨_, _, ⟨T1473, L1473, k1473, n1473⟩, -, X1473, ⟨Lc1473, hQ1473, l1473, y1473, z1473⟩, st1473⟩ := X1471.virtualBack hx (y := own_y_38) (z := own_y_38) hown (mvT hZ (own_w hw 19 rfl)) (mvT hZ (own_w hw 20 rfl)) (notFace_of_selects (args := #[]) (mvT hZ (own_w hw 22 rfl))) (mvT hZ (own_w hw 22 rfl)) (mvT hZ (own_w hw 21 rfl)) (by decide) (backOf (W := 0) (rmEmpF l Z a0 hw [] ob _ _ _ _ _ _ T1471.heap n0 z1472 P1471 (by decide)) hZ (own_w hw 23 rfl) (own_w hw 6 rfl) (by decide) (by decide)) q1473a q1473c (g := (mkF m 232 (own_LF q1 p2 p3 q4 p5 kn df ex lk m2 m3 nw mx ob e0 e1 (.val (.int (0 : Int32))) .unset) [(.ref ob)])) rfl (by rw [hml]; rfl) (Steps.refl _) (argsL := []) (rest := []) (lenOf pd_48 rfl) rfl (by show 2 * 0 + _ ≤ _; exact Nat.le_of_eq rfl) (hb hby at_232) (fun _ _ => ⟨rfl, rfl, (by decide : 5 + 0 ≤ _), (by decide : 22 + 0 ≤ _)⟩)
            dsimp only [Pt.U, Pt.locs, Pt.cells, Pt.slots] at X1473 l1473 y1473 z1473 st1473 hQ1473
            subst l1473 y1473 z1473
            obtain ⟨rfl, Nq1473, e1473⟩ := hQ1473
            have N1473 := Fr.app N1471 Nq1473
            have pre1474 : ∀ t, Steps p.tables e below (T1473.setTop (mkF m 237 (own_LF q1 p2 p3 q4 p5 kn df ex lk m2 m3 nw mx ob e0 e1 (.val (.int (0 : Int32))) (.val (.int (0 : Int32)))) [])) t → Steps p.tables e below (T0.setTop (mkF m 196 (own_LF q1 p2 p3 q4 p5 kn df ex lk m2 m3 nw mx ob e0 e1 .unset .unset) [])) t := fun t kt => pre1420 t (by
              show Steps p.tables e below (T1414.setTop (mkF m 227 (own_LF q1 p2 p3 q4 p5 kn df ex lk m2 m3 nw mx ob e0 e1 (.val (.int (0 : Int32))) .unset) [(.int lk), (.int p3), (.long mx), (.ref ob)])) _
              refine st1471.trans ?_
              refine XS.aload X1471.here hx rfl (hb hby at_230) rfl rfl ?_
              refine st1473.trans ?_
              refine XS.istore X1473.here hx rfl (hb hby at_235) rfl (l' := (own_LF q1 p2 p3 q4 p5 kn df ex lk m2 m3 nw mx ob e0 e1 (.val (.int (0 : Int32))) (.val (.int (0 : Int32))))) rfl ?_
              exact kt)
            have lt1475 : ¬ (x2 < q4) := by
              rw [Int64.lt_iff_toInt_lt] at hs0 hs1 hc1059 hc1060 hc1421 ⊢
              omega
            have hq : ¬ (nw < q4) := by rw [hnw]; exact lt1475
            rw [show (if df = (0 : Int32) then (0 : Int32) else (if nw < q4 then (1 : Int32) else (0 : Int32))) = (0 : Int32) from (if_neg hc971).trans (if_neg hq)]
            rw [show (if ex = (0 : Int32) then (0 : Int32) else (0 : Int32)) = (0 : Int32) from if_neg hc1416]
            exact ⟨T1473, _, own_more X1473 (by decide) (by decide), N1473, pre1474⟩
          case neg =>
            obtain ⟨cq1498, kq1498, q1498a, q1498b, q1498c⟩ := isOf hZ e1414 (own_pt_exa P1412)
            obtain ⟨_, _, ⟨T1498, L1498, k1498, n1498⟩, -, X1498, ⟨Lc1498, hQ1498, l1498, y1498, z1498⟩, st1498⟩ := X1414.virtualBack hx (y := own_y_103) (z := own_y_103) hown (mvT hZ (own_w hw 28 rfl)) (mvT hZ (own_w hw 29 rfl)) (notFace_of_selects (args := #[]) (mvT hZ (own_w hw 31 rfl))) (mvT hZ (own_w hw 31 rfl)) (mvT hZ (own_w hw 30 rfl)) (by decide) (backOf (W := 0) (rmCnt134o l Z a0 hw [] ob mx p3 lk x0 x1 x2 x3 y0 y1 y2 y3 y0 T1412.heap n0 z1413 P1412 hc1421) hZ (own_w hw 32 rfl) (own_w hw 6 rfl) (by decide) (by decide)) q1498a q1498c (g := (mkF m 227 (own_LF q1 p2 p3 q4 p5 kn df ex lk m2 m3 nw mx ob e0 e1 (.val (.int (0 : Int32))) .unset) [(.int lk), (.int p3), (.long mx), (.ref ob)])) rfl (by rw [hml]; rfl) (Steps.refl _) (argsL := [(.long mx), (.int p3), (.int lk)]) (rest := []) (lenOf pd_105 rfl) rfl (by show 2 * 0 + _ ≤ _; exact Nat.le_of_eq rfl) (hb hby at_227) (fun _ _ => ⟨rfl, e1414, (by decide : 5 + 0 ≤ _), (by decide : 22 + 0 ≤ _)⟩)
            dsimp only [Pt.U, Pt.locs, Pt.cells, Pt.slots] at X1498 l1498 y1498 z1498 st1498 hQ1498
            subst l1498 y1498 z1498
            obtain ⟨rfl, Nq1498, z1498, P1498⟩ := hQ1498
            have N1498 := Fr.app N1414 Nq1498
            have z1499 : n0 ≤ T1498.heap.size := Nat.le_trans z1413 z1498
            obtain ⟨cq1500, kq1500, q1500a, q1500b, q1500c⟩ := isOf hZ rfl (own_pt_exa P1498)
            obtain ⟨_, _, ⟨T1500, L1500, k1500, n1500⟩, -, X1500, ⟨Lc1500, hQ1500, l1500, y1500, z1500⟩, st1500⟩ := X1498.virtualBack hx (y := own_y_38) (z := own_y_38) hown (mvT hZ (own_w hw 19 rfl)) (mvT hZ (own_w hw 20 rfl)) (notFace_of_selects (args := #[]) (mvT hZ (own_w hw 22 rfl))) (mvT hZ (own_w hw 22 rfl)) (mvT hZ (own_w hw 21 rfl)) (by decide) (backOf (W := 0) (rmEmpF l Z a0 hw [] ob _ _ _ _ _ _ T1498.heap n0 z1499 P1498 (by decide)) hZ (own_w hw 23 rfl) (own_w hw 6 rfl) (by decide) (by decide)) q1500a q1500c (g := (mkF m 232 (own_LF q1 p2 p3 q4 p5 kn df ex lk m2 m3 nw mx ob e0 e1 (.val (.int (0 : Int32))) .unset) [(.ref ob)])) rfl (by rw [hml]; rfl) (Steps.refl _) (argsL := []) (rest := []) (lenOf pd_48 rfl) rfl (by show 2 * 0 + _ ≤ _; exact Nat.le_of_eq rfl) (hb hby at_232) (fun _ _ => ⟨rfl, rfl, (by decide : 5 + 0 ≤ _), (by decide : 22 + 0 ≤ _)⟩)
            dsimp only [Pt.U, Pt.locs, Pt.cells, Pt.slots] at X1500 l1500 y1500 z1500 st1500 hQ1500
            subst l1500 y1500 z1500
            obtain ⟨rfl, Nq1500, e1500⟩ := hQ1500
            have N1500 := Fr.app N1498 Nq1500
            have pre1501 : ∀ t, Steps p.tables e below (T1500.setTop (mkF m 237 (own_LF q1 p2 p3 q4 p5 kn df ex lk m2 m3 nw mx ob e0 e1 (.val (.int (0 : Int32))) (.val (.int (0 : Int32)))) [])) t → Steps p.tables e below (T0.setTop (mkF m 196 (own_LF q1 p2 p3 q4 p5 kn df ex lk m2 m3 nw mx ob e0 e1 .unset .unset) [])) t := fun t kt => pre1420 t (by
              show Steps p.tables e below (T1414.setTop (mkF m 227 (own_LF q1 p2 p3 q4 p5 kn df ex lk m2 m3 nw mx ob e0 e1 (.val (.int (0 : Int32))) .unset) [(.int lk), (.int p3), (.long mx), (.ref ob)])) _
              refine st1498.trans ?_
              refine XS.aload X1498.here hx rfl (hb hby at_230) rfl rfl ?_
              refine st1500.trans ?_
              refine XS.istore X1500.here hx rfl (hb hby at_235) rfl (l' := (own_LF q1 p2 p3 q4 p5 kn df ex lk m2 m3 nw mx ob e0 e1 (.val (.int (0 : Int32))) (.val (.int (0 : Int32))))) rfl ?_
              exact kt)
            have lt1502 : ¬ (x2 < q4) := by
              rw [Int64.lt_iff_toInt_lt] at hs0 hs1 hc1059 hc1060 hc1421 ⊢
              omega
            have hq : ¬ (nw < q4) := by rw [hnw]; exact lt1502
            rw [show (if df = (0 : Int32) then (0 : Int32) else (if nw < q4 then (1 : Int32) else (0 : Int32))) = (0 : Int32) from (if_neg hc971).trans (if_neg hq)]
            rw [show (if ex = (0 : Int32) then (0 : Int32) else (0 : Int32)) = (0 : Int32) from if_neg hc1416]
            exact ⟨T1500, _, own_more X1500 (by decide) (by decide), N1500, pre1501⟩
    case neg =>
      obtain ⟨cq1510, kq1510, q1510a, q1510b, q1510c⟩ := isOf hZ rfl (own_pt_exa P0)
      obtain ⟨_, _, ⟨T1510, L1510, k1510, n1510⟩, -, X1510, ⟨Lc1510, hQ1510, l1510, y1510, z1510⟩, st1510⟩ := X0.virtualBack hx (y := own_y_113) (z := own_y_113) hown (mvT hZ (own_w hw 63 rfl)) (mvT hZ (own_w hw 64 rfl)) (notFace_of_selects (args := #[]) (mvT hZ (own_w hw 66 rfl))) (mvT hZ (own_w hw 66 rfl)) (mvT hZ (own_w hw 65 rfl)) (by decide) (backOf (W := 0) (rmFgt034_0 l Z a0 hw [] ob q4 x0 x1 x2 x3 y0 y1 y2 y3 b T0.heap n0 Z0 P0 hc1059) hZ (own_w hw 67 rfl) (own_w hw 6 rfl) (by decide) (by decide)) q1510a q1510c (g := (mkF m 205 (own_LF q1 p2 p3 q4 p5 kn df ex lk m2 m3 nw mx ob e0 e1 .unset .unset) [(.long q4), (.ref ob)])) rfl (by rw [hml]; rfl) (Steps.refl _) (argsL := [(.long q4)]) (rest := []) (lenOf pd_115 rfl) rfl (by show 2 * 0 + _ ≤ _; exact Nat.le_of_eq rfl) (hb hby at_205) (fun _ _ => ⟨rfl, rfl, (by decide : 5 + 0 ≤ _), (by decide : 22 + 0 ≤ _)⟩)
      dsimp only [Pt.U, Pt.locs, Pt.cells, Pt.slots] at X1510 l1510 y1510 z1510 st1510 hQ1510
      subst l1510 y1510 z1510
      obtain ⟨rfl, Nq1510, z1510, P1510⟩ := hQ1510
      have N1510 := Fr.app N0 Nq1510
      have z1511 : n0 ≤ T1510.heap.size := Nat.le_trans Z0 z1510
      obtain ⟨cq1512, kq1512, q1512a, q1512b, q1512c⟩ := isOf hZ rfl (own_pt_exa P1510)
      obtain ⟨_, _, ⟨T1512, L1512, k1512, n1512⟩, -, X1512, ⟨Lc1512, hQ1512, l1512, y1512, z1512⟩, st1512⟩ := X1510.virtualBack hx (y := own_y_38) (z := own_y_38) hown (mvT hZ (own_w hw 19 rfl)) (mvT hZ (own_w hw 20 rfl)) (notFace_of_selects (args := #[]) (mvT hZ (own_w hw 22 rfl))) (mvT hZ (own_w hw 22 rfl)) (mvT hZ (own_w hw 21 rfl)) (by decide) (backOf (W := 0) (rmEmpF l Z a0 hw [] ob _ _ _ _ _ _ T1510.heap n0 z1511 P1510 (by decide)) hZ (own_w hw 23 rfl) (own_w hw 6 rfl) (by decide) (by decide)) q1512a q1512c (g := (mkF m 210 (own_LF q1 p2 p3 q4 p5 kn df ex lk m2 m3 nw mx ob e0 e1 .unset .unset) [(.ref ob)])) rfl (by rw [hml]; rfl) (Steps.refl _) (argsL := []) (rest := []) (lenOf pd_48 rfl) rfl (by show 2 * 0 + _ ≤ _; exact Nat.le_of_eq rfl) (hb hby at_210) (fun _ _ => ⟨rfl, rfl, (by decide : 5 + 0 ≤ _), (by decide : 22 + 0 ≤ _)⟩)
      dsimp only [Pt.U, Pt.locs, Pt.cells, Pt.slots] at X1512 l1512 y1512 z1512 st1512 hQ1512
      subst l1512 y1512 z1512
      obtain ⟨rfl, Nq1512, e1512⟩ := hQ1512
      have N1512 := Fr.app N1510 Nq1512
      have pre1513 : ∀ t, Steps p.tables e below (T1512.setTop (mkF m 217 (own_LF q1 p2 p3 q4 p5 kn df ex lk m2 m3 nw mx ob e0 e1 (.val (.int (0 : Int32))) .unset) [(.int ex)])) t → Steps p.tables e below (T0.setTop (mkF m 196 (own_LF q1 p2 p3 q4 p5 kn df ex lk m2 m3 nw mx ob e0 e1 .unset .unset) [])) t := fun t kt => pre1058 t (by
        show Steps p.tables e below (T0.setTop (mkF m 205 (own_LF q1 p2 p3 q4 p5 kn df ex lk m2 m3 nw mx ob e0 e1 .unset .unset) [(.long q4), (.ref ob)])) _
        refine st1510.trans ?_
        refine XS.aload X1510.here hx rfl (hb hby at_208) rfl rfl ?_
        refine st1512.trans ?_
        refine XS.istore X1512.here hx rfl (hb hby at_213) rfl (l' := (own_LF q1 p2 p3 q4 p5 kn df ex lk m2 m3 nw mx ob e0 e1 (.val (.int (0 : Int32))) .unset)) rfl ?_
        refine XS.iload X1512.here hx rfl (hb hby at_215) rfl ?_
        exact kt)
      by_cases hc1514 : ex = (0 : Int32)
      case pos =>
        obtain ⟨cq1515, kq1515, q1515a, q1515b, q1515c⟩ := isOf hZ e1512 (own_pt_exa P1510)
        obtain ⟨_, _, ⟨T1515, L1515, k1515, n1515⟩, -, X1515, ⟨Lc1515, hQ1515, l1515, y1515, z1515⟩, st1515⟩ := X1512.virtualBack hx (y := own_y_38) (z := own_y_38) hown (mvT hZ (own_w hw 19 rfl)) (mvT hZ (own_w hw 20 rfl)) (notFace_of_selects (args := #[]) (mvT hZ (own_w hw 22 rfl))) (mvT hZ (own_w hw 22 rfl)) (mvT hZ (own_w hw 21 rfl)) (by decide) (backOf (W := 0) (rmEmpF l Z a0 hw [] ob _ _ _ _ _ _ T1510.heap n0 z1511 P1510 (by decide)) hZ (own_w hw 23 rfl) (own_w hw 6 rfl) (by decide) (by decide)) q1515a q1515c (g := (mkF m 232 (own_LF q1 p2 p3 q4 p5 kn df ex lk m2 m3 nw mx ob e0 e1 (.val (.int (0 : Int32))) .unset) [(.ref ob)])) rfl (by rw [hml]; rfl) (Steps.refl _) (argsL := []) (rest := []) (lenOf pd_48 rfl) rfl (by show 2 * 0 + _ ≤ _; exact Nat.le_of_eq rfl) (hb hby at_232) (fun _ _ => ⟨rfl, e1512, (by decide : 5 + 0 ≤ _), (by decide : 22 + 0 ≤ _)⟩)
        dsimp only [Pt.U, Pt.locs, Pt.cells, Pt.slots] at X1515 l1515 y1515 z1515 st1515 hQ1515
        subst l1515 y1515 z1515
        obtain ⟨rfl, Nq1515, e1515⟩ := hQ1515
        have N1515 := Fr.app N1512 Nq1515
        have pre1516 : ∀ t, Steps p.tables e below (T1515.setTop (mkF m 237 (own_LF q1 p2 p3 q4 p5 kn df ex lk m2 m3 nw mx ob e0 e1 (.val (.int (0 : Int32))) (.val (.int (0 : Int32)))) [])) t → Steps p.tables e below (T0.setTop (mkF m 196 (own_LF q1 p2 p3 q4 p5 kn df ex lk m2 m3 nw mx ob e0 e1 .unset .unset) [])) t := fun t kt => pre1513 t (by
          show Steps p.tables e below (T1512.setTop (mkF m 217 (own_LF q1 p2 p3 q4 p5 kn df ex lk m2 m3 nw mx ob e0 e1 (.val (.int (0 : Int32))) .unset) [(.int ex)])) _
          refine XS.ifYes X1512.here hx rfl (pc0 := 217) (pc' := 230) rfl (hb hby at_217) rfl ((if0 _ _).trans (teq hc1514).1) (by decide) (by decide) ?_
          refine XS.aload X1512.here hx rfl (hb hby at_230) rfl rfl ?_
          refine st1515.trans ?_
          refine XS.istore X1515.here hx rfl (hb hby at_235) rfl (l' := (own_LF q1 p2 p3 q4 p5 kn df ex lk m2 m3 nw mx ob e0 e1 (.val (.int (0 : Int32))) (.val (.int (0 : Int32))))) rfl ?_
          exact kt)
        have lt1517 : ¬ (x2 < q4) := by
          rw [Int64.lt_iff_toInt_lt] at hs0 hs1 hc1059 ⊢
          omega
        have hq : ¬ (nw < q4) := by rw [hnw]; exact lt1517
        rw [show (if df = (0 : Int32) then (0 : Int32) else (if nw < q4 then (1 : Int32) else (0 : Int32))) = (0 : Int32) from (if_neg hc971).trans (if_neg hq)]
        rw [show (if ex = (0 : Int32) then (0 : Int32) else (0 : Int32)) = (0 : Int32) from if_pos hc1514]
        exact ⟨T1515, _, own_more X1515 (by decide) (by decide), N1515, pre1516⟩
      case neg =>
        have pre1518 : ∀ t, Steps p.tables e below (T1512.setTop (mkF m 227 (own_LF q1 p2 p3 q4 p5 kn df ex lk m2 m3 nw mx ob e0 e1 (.val (.int (0 : Int32))) .unset) [(.int lk), (.int p3), (.long mx), (.ref ob)])) t → Steps p.tables e below (T0.setTop (mkF m 196 (own_LF q1 p2 p3 q4 p5 kn df ex lk m2 m3 nw mx ob e0 e1 .unset .unset) [])) t := fun t kt => pre1513 t (by
          show Steps p.tables e below (T1512.setTop (mkF m 217 (own_LF q1 p2 p3 q4 p5 kn df ex lk m2 m3 nw mx ob e0 e1 (.val (.int (0 : Int32))) .unset) [(.int ex)])) _
          refine XS.ifNo X1512.here hx rfl (hb hby at_217) rfl ((if0 _ _).trans (feq hc1514).1) ?_
          refine XS.aload X1512.here hx rfl (hb hby at_220) rfl rfl ?_
          refine XS.lload X1512.here hx rfl (hb hby at_222) rfl ?_
          refine XS.iloadN X1512.here hx rfl (hb hby at_224) rfl ?_
          refine XS.iload X1512.here hx rfl (hb hby at_225) rfl ?_
          exact kt)
        by_cases hc1519 : x2 < mx
        case pos =>
          obtain ⟨cq1520, kq1520, q1520a, q1520b, q1520c⟩ := isOf hZ e1512 (own_pt_exa P1510)
          obtain ⟨_, _, ⟨T1520, L1520, k1520, n1520⟩, -, X1520, ⟨Lc1520, hQ1520, l1520, y1520, z1520⟩, st1520⟩ := X1512.virtualBack hx (y := own_y_103) (z := own_y_103) hown (mvT hZ (own_w hw 28 rfl)) (mvT hZ (own_w hw 29 rfl)) (notFace_of_selects (args := #[]) (mvT hZ (own_w hw 31 rfl))) (mvT hZ (own_w hw 31 rfl)) (mvT hZ (own_w hw 30 rfl)) (by decide) (backOf (W := 0) (rmCnt034a l Z a0 hw [] ob mx p3 lk x0 x1 x2 x3 y0 y1 y2 y3 b T1510.heap n0 z1511 P1510 hc1519) hZ (own_w hw 32 rfl) (own_w hw 6 rfl) (by decide) (by decide)) q1520a q1520c (g := (mkF m 227 (own_LF q1 p2 p3 q4 p5 kn df ex lk m2 m3 nw mx ob e0 e1 (.val (.int (0 : Int32))) .unset) [(.int lk), (.int p3), (.long mx), (.ref ob)])) rfl (by rw [hml]; rfl) (Steps.refl _) (argsL := [(.long mx), (.int p3), (.int lk)]) (rest := []) (lenOf pd_105 rfl) rfl (by show 2 * 0 + _ ≤ _; exact Nat.le_of_eq rfl) (hb hby at_227) (fun _ _ => ⟨rfl, e1512, (by decide : 5 + 0 ≤ _), (by decide : 22 + 0 ≤ _)⟩)
          dsimp only [Pt.U, Pt.locs, Pt.cells, Pt.slots] at X1520 l1520 y1520 z1520 st1520 hQ1520
          subst l1520 y1520 z1520
          obtain ⟨rfl, Nq1520, z1520, P1520⟩ := hQ1520
          have N1520 := Fr.app N1512 Nq1520
          have z1521 : n0 ≤ T1520.heap.size := Nat.le_trans z1511 z1520
          obtain ⟨cq1522, kq1522, q1522a, q1522b, q1522c⟩ := isOf hZ rfl (own_pt_exa P1520)
          obtain ⟨_, _, ⟨T1522, L1522, k1522, n1522⟩, -, X1522, ⟨Lc1522, hQ1522, l1522, y1522, z1522⟩, st1522⟩ := X1520.virtualBack hx (y := own_y_38) (z := own_y_38) hown (mvT hZ (own_w hw 19 rfl)) (mvT hZ (own_w hw 20 rfl)) (notFace_of_selects (args := #[]) (mvT hZ (own_w hw 22 rfl))) (mvT hZ (own_w hw 22 rfl)) (mvT hZ (own_w hw 21 rfl)) (by decide) (backOf (W := 0) (rmEmpF l Z a0 hw [] ob _ _ _ _ _ _ T1520.heap n0 z1521 P1520 (by decide)) hZ (own_w hw 23 rfl) (own_w hw 6 rfl) (by decide) (by decide)) q1522a q1522c (g := (mkF m 232 (own_LF q1 p2 p3 q4 p5 kn df ex lk m2 m3 nw mx ob e0 e1 (.val (.int (0 : Int32))) .unset) [(.ref ob)])) rfl (by rw [hml]; rfl) (Steps.refl _) (argsL := []) (rest := []) (lenOf pd_48 rfl) rfl (by show 2 * 0 + _ ≤ _; exact Nat.le_of_eq rfl) (hb hby at_232) (fun _ _ => ⟨rfl, rfl, (by decide : 5 + 0 ≤ _), (by decide : 22 + 0 ≤ _)⟩)
          dsimp only [Pt.U, Pt.locs, Pt.cells, Pt.slots] at X1522 l1522 y1522 z1522 st1522 hQ1522
          subst l1522 y1522 z1522
          obtain ⟨rfl, Nq1522, e1522⟩ := hQ1522
          have N1522 := Fr.app N1520 Nq1522
          have pre1523 : ∀ t, Steps p.tables e below (T1522.setTop (mkF m 237 (own_LF q1 p2 p3 q4 p5 kn df ex lk m2 m3 nw mx ob e0 e1 (.val (.int (0 : Int32))) (.val (.int (0 : Int32)))) [])) t → Steps p.tables e below (T0.setTop (mkF m 196 (own_LF q1 p2 p3 q4 p5 kn df ex lk m2 m3 nw mx ob e0 e1 .unset .unset) [])) t := fun t kt => pre1518 t (by
            show Steps p.tables e below (T1512.setTop (mkF m 227 (own_LF q1 p2 p3 q4 p5 kn df ex lk m2 m3 nw mx ob e0 e1 (.val (.int (0 : Int32))) .unset) [(.int lk), (.int p3), (.long mx), (.ref ob)])) _
            refine st1520.trans ?_
            refine XS.aload X1520.here hx rfl (hb hby at_230) rfl rfl ?_
            refine st1522.trans ?_
            refine XS.istore X1522.here hx rfl (hb hby at_235) rfl (l' := (own_LF q1 p2 p3 q4 p5 kn df ex lk m2 m3 nw mx ob e0 e1 (.val (.int (0 : Int32))) (.val (.int (0 : Int32))))) rfl ?_
            exact kt)
          have lt1524 : ¬ (x2 < q4) := by
            rw [Int64.lt_iff_toInt_lt] at hs0 hs1 hc1059 hc1519 ⊢
            omega
          have hq : ¬ (nw < q4) := by rw [hnw]; exact lt1524
          rw [show (if df = (0 : Int32) then (0 : Int32) else (if nw < q4 then (1 : Int32) else (0 : Int32))) = (0 : Int32) from (if_neg hc971).trans (if_neg hq)]
          rw [show (if ex = (0 : Int32) then (0 : Int32) else (0 : Int32)) = (0 : Int32) from if_neg hc1514]
          exact ⟨T1522, _, own_more X1522 (by decide) (by decide), N1522, pre1523⟩
        case neg =>
          obtain ⟨cq1525, kq1525, q1525a, q1525b, q1525c⟩ := isOf hZ e1512 (own_pt_exa P1510)
          obtain ⟨_, _, ⟨T1525, L1525, k1525, n1525⟩, -, X1525, ⟨Lc1525, hQ1525, l1525, y1525, z1525⟩, st1525⟩ := X1512.virtualBack hx (y := own_y_103) (z := own_y_103) hown (mvT hZ (own_w hw 28 rfl)) (mvT hZ (own_w hw 29 rfl)) (notFace_of_selects (args := #[]) (mvT hZ (own_w hw 31 rfl))) (mvT hZ (own_w hw 31 rfl)) (mvT hZ (own_w hw 30 rfl)) (by decide) (backOf (W := 0) (rmCnt034o l Z a0 hw [] ob mx p3 lk x0 x1 x2 x3 y0 y1 y2 y3 b T1510.heap n0 z1511 P1510 hc1519) hZ (own_w hw 32 rfl) (own_w hw 6 rfl) (by decide) (by decide)) q1525a q1525c (g := (mkF m 227 (own_LF q1 p2 p3 q4 p5 kn df ex lk m2 m3 nw mx ob e0 e1 (.val (.int (0 : Int32))) .unset) [(.int lk), (.int p3), (.long mx), (.ref ob)])) rfl (by rw [hml]; rfl) (Steps.refl _) (argsL := [(.long mx), (.int p3), (.int lk)]) (rest := []) (lenOf pd_105 rfl) rfl (by show 2 * 0 + _ ≤ _; exact Nat.le_of_eq rfl) (hb hby at_227) (fun _ _ => ⟨rfl, e1512, (by decide : 5 + 0 ≤ _), (by decide : 22 + 0 ≤ _)⟩)
          dsimp only [Pt.U, Pt.locs, Pt.cells, Pt.slots] at X1525 l1525 y1525 z1525 st1525 hQ1525
          subst l1525 y1525 z1525
          obtain ⟨rfl, Nq1525, z1525, P1525⟩ := hQ1525
          have N1525 := Fr.app N1512 Nq1525
          have z1526 : n0 ≤ T1525.heap.size := Nat.le_trans z1511 z1525
          obtain ⟨cq1527, kq1527, q1527a, q1527b, q1527c⟩ := isOf hZ rfl (own_pt_exa P1525)
          obtain ⟨_, _, ⟨T1527, L1527, k1527, n1527⟩, -, X1527, ⟨Lc1527, hQ1527, l1527, y1527, z1527⟩, st1527⟩ := X1525.virtualBack hx (y := own_y_38) (z := own_y_38) hown (mvT hZ (own_w hw 19 rfl)) (mvT hZ (own_w hw 20 rfl)) (notFace_of_selects (args := #[]) (mvT hZ (own_w hw 22 rfl))) (mvT hZ (own_w hw 22 rfl)) (mvT hZ (own_w hw 21 rfl)) (by decide) (backOf (W := 0) (rmEmpF l Z a0 hw [] ob _ _ _ _ _ _ T1525.heap n0 z1526 P1525 (by decide)) hZ (own_w hw 23 rfl) (own_w hw 6 rfl) (by decide) (by decide)) q1527a q1527c (g := (mkF m 232 (own_LF q1 p2 p3 q4 p5 kn df ex lk m2 m3 nw mx ob e0 e1 (.val (.int (0 : Int32))) .unset) [(.ref ob)])) rfl (by rw [hml]; rfl) (Steps.refl _) (argsL := []) (rest := []) (lenOf pd_48 rfl) rfl (by show 2 * 0 + _ ≤ _; exact Nat.le_of_eq rfl) (hb hby at_232) (fun _ _ => ⟨rfl, rfl, (by decide : 5 + 0 ≤ _), (by decide : 22 + 0 ≤ _)⟩)
          dsimp only [Pt.U, Pt.locs, Pt.cells, Pt.slots] at X1527 l1527 y1527 z1527 st1527 hQ1527
          subst l1527 y1527 z1527
          obtain ⟨rfl, Nq1527, e1527⟩ := hQ1527
          have N1527 := Fr.app N1525 Nq1527
          have pre1528 : ∀ t, Steps p.tables e below (T1527.setTop (mkF m 237 (own_LF q1 p2 p3 q4 p5 kn df ex lk m2 m3 nw mx ob e0 e1 (.val (.int (0 : Int32))) (.val (.int (0 : Int32)))) [])) t → Steps p.tables e below (T0.setTop (mkF m 196 (own_LF q1 p2 p3 q4 p5 kn df ex lk m2 m3 nw mx ob e0 e1 .unset .unset) [])) t := fun t kt => pre1518 t (by
            show Steps p.tables e below (T1512.setTop (mkF m 227 (own_LF q1 p2 p3 q4 p5 kn df ex lk m2 m3 nw mx ob e0 e1 (.val (.int (0 : Int32))) .unset) [(.int lk), (.int p3), (.long mx), (.ref ob)])) _
            refine st1525.trans ?_
            refine XS.aload X1525.here hx rfl (hb hby at_230) rfl rfl ?_
            refine st1527.trans ?_
            refine XS.istore X1527.here hx rfl (hb hby at_235) rfl (l' := (own_LF q1 p2 p3 q4 p5 kn df ex lk m2 m3 nw mx ob e0 e1 (.val (.int (0 : Int32))) (.val (.int (0 : Int32))))) rfl ?_
            exact kt)
          have lt1529 : ¬ (x2 < q4) := by
            rw [Int64.lt_iff_toInt_lt] at hs0 hs1 hc1059 hc1519 ⊢
            omega
          have hq : ¬ (nw < q4) := by rw [hnw]; exact lt1529
          rw [show (if df = (0 : Int32) then (0 : Int32) else (if nw < q4 then (1 : Int32) else (0 : Int32))) = (0 : Int32) from (if_neg hc971).trans (if_neg hq)]
          rw [show (if ex = (0 : Int32) then (0 : Int32) else (0 : Int32)) = (0 : Int32) from if_neg hc1514]
          exact ⟨T1527, _, own_more X1527 (by decide) (by decide), N1527, pre1528⟩
theorem ef_332 (m : MethodId) (x0 : Int64) (x1 : Int32) (x2 : Int32) (x3 : Int64) (x4 : Int32) : entryFrame m #[(.long x0), (.int x1), (.int x2), (.long x3), (.int x4)] maxLocals = mkF m 0 #[.val (.long x0), .second, .val (.int x1), .val (.int x2), .val (.long x3), .second, .val (.int x4), .unset, .unset, .unset, .unset, .unset, .unset, .unset, .unset, .unset, .unset, .unset, .unset, .unset, .unset, .unset, .unset, .unset, .unset, .unset, .unset, .unset, .unset] [] := by first | (simp [entryFrame, mkF, argsToLocals, Value.category, maxLocals]; done) | rfl
theorem pd_333 : parseMethodDescriptor "(JI)J" = some ⟨[.long, .int], some .long⟩ := by decide +kernel
abbrev own_L_334 (q1 : Int64) (p2 : Int32) (p3 : Int32) (q4 : Int64) (p5 : Int32) (df : Int32) (ex : Int32) (lk : Int32) (m2 : Int64) (m3 : Int64) (z7 z17 z18 z19 z20 z21 z22 z23 z24 z25 z26 z27 z28 : Slot) : Array Slot := #[.val (.long q1), .second, .val (.int p2), .val (.int p3), .val (.long q4), .second, .val (.int p5), z7, .val (.int df), .val (.int ex), .val (.int lk), .val (.long q1), .second, .val (.long m2), .second, .val (.long m3), .second, z17, z18, z19, z20, z21, z22, z23, z24, z25, z26, z27, z28]
abbrev own_L_335 (q1 : Int64) (p2 : Int32) (p3 : Int32) (q4 : Int64) (p5 : Int32) (df : Int32) (ex : Int32) (lk : Int32) (m2 : Int64) (m3 : Int64) (mx : Int64) (b1558 : Addr) (z23 : Slot) : Array Slot := #[.val (.long q1), .second, .val (.int p2), .val (.int p3), .val (.long q4), .second, .val (.int p5), .val (.int (0 : Int32)), .val (.int df), .val (.int ex), .val (.int lk), .val (.long q1), .second, .val (.long m2), .second, .val (.long m3), .second, .val (.long m3), .second, .val (.long mx), .second, .val (.ref b1558), .val (.int (1 : Int32)), z23, .unset, .unset, .unset, .unset, .unset]
abbrev own_L_336 (q1 : Int64) (p2 : Int32) (p3 : Int32) (q4 : Int64) (p5 : Int32) (df : Int32) (ex : Int32) (lk : Int32) (m2 : Int64) (m3 : Int64) (mx : Int64) (b1558 : Addr) (e3v : Int32) (z26 z27 z28 : Slot) : Array Slot := #[.val (.long q1), .second, .val (.int p2), .val (.int p3), .val (.long q4), .second, .val (.int p5), .val (.int (0 : Int32)), .val (.int df), .val (.int ex), .val (.int lk), .val (.long q1), .second, .val (.long m2), .second, .val (.long m3), .second, .val (.long m3), .second, .val (.long mx), .second, .val (.ref b1558), .val (.int (1 : Int32)), .val (.int (1 : Int32)), .val (.int (1 : Int32)), .val (.int e3v), z26, z27, z28]
abbrev own_L_337 (q1 : Int64) (p2 : Int32) (p3 : Int32) (q4 : Int64) (p5 : Int32) (df : Int32) (ex : Int32) (lk : Int32) (m2 : Int64) (m3 : Int64) (mx : Int64) (b1584 : Addr) (z23 : Slot) : Array Slot := #[.val (.long q1), .second, .val (.int p2), .val (.int p3), .val (.long q4), .second, .val (.int p5), .val (.int (1 : Int32)), .val (.int df), .val (.int ex), .val (.int lk), .val (.long q1), .second, .val (.long m2), .second, .val (.long m3), .second, .val (.long q1), .second, .val (.long mx), .second, .val (.ref b1584), .val (.int (1 : Int32)), z23, .unset, .unset, .unset, .unset, .unset]
abbrev own_L_338 (q1 : Int64) (p2 : Int32) (p3 : Int32) (q4 : Int64) (p5 : Int32) (df : Int32) (ex : Int32) (lk : Int32) (m2 : Int64) (m3 : Int64) (mx : Int64) (b1584 : Addr) (e2v : Int32) (e3v : Int32) (z26 z27 z28 : Slot) : Array Slot := #[.val (.long q1), .second, .val (.int p2), .val (.int p3), .val (.long q4), .second, .val (.int p5), .val (.int (1 : Int32)), .val (.int df), .val (.int ex), .val (.int lk), .val (.long q1), .second, .val (.long m2), .second, .val (.long m3), .second, .val (.long q1), .second, .val (.long mx), .second, .val (.ref b1584), .val (.int (1 : Int32)), .val (.int (0 : Int32)), .val (.int e2v), .val (.int e3v), z26, z27, z28]
abbrev own_L_339 (q1 : Int64) (p2 : Int32) (p3 : Int32) (q4 : Int64) (p5 : Int32) (df : Int32) (ex : Int32) (lk : Int32) (m2 : Int64) (m3 : Int64) (mx : Int64) (b1617 : Addr) (z23 : Slot) : Array Slot := #[.val (.long q1), .second, .val (.int p2), .val (.int p3), .val (.long q4), .second, .val (.int p5), .val (.int (2 : Int32)), .val (.int df), .val (.int ex), .val (.int lk), .val (.long q1), .second, .val (.long m2), .second, .val (.long m3), .second, .val (.long m2), .second, .val (.long mx), .second, .val (.ref b1617), .val (.int (1 : Int32)), z23, .unset, .unset, .unset, .unset, .unset]
abbrev own_L_340 (q1 : Int64) (p2 : Int32) (p3 : Int32) (q4 : Int64) (p5 : Int32) (df : Int32) (ex : Int32) (lk : Int32) (m2 : Int64) (m3 : Int64) (mx : Int64) (b1617 : Addr) (e2v : Int32) (e3v : Int32) (z26 z27 z28 : Slot) : Array Slot := #[.val (.long q1), .second, .val (.int p2), .val (.int p3), .val (.long q4), .second, .val (.int p5), .val (.int (2 : Int32)), .val (.int df), .val (.int ex), .val (.int lk), .val (.long q1), .second, .val (.long m2), .second, .val (.long m3), .second, .val (.long m2), .second, .val (.long mx), .second, .val (.ref b1617), .val (.int (1 : Int32)), .val (.int (0 : Int32)), .val (.int e2v), .val (.int e3v), z26, z27, z28]
abbrev own_L_341 (q1 : Int64) (p2 : Int32) (p3 : Int32) (q4 : Int64) (p5 : Int32) (df : Int32) (ex : Int32) (lk : Int32) (m2 : Int64) (m3 : Int64) (mx : Int64) (b1674 : Addr) (z23 : Slot) : Array Slot := #[.val (.long q1), .second, .val (.int p2), .val (.int p3), .val (.long q4), .second, .val (.int p5), .val (.int (3 : Int32)), .val (.int df), .val (.int ex), .val (.int lk), .val (.long q1), .second, .val (.long m2), .second, .val (.long m3), .second, .val (.long m3), .second, .val (.long mx), .second, .val (.ref b1674), .val (.int (1 : Int32)), z23, .unset, .unset, .unset, .unset, .unset]
abbrev own_L_342 (q1 : Int64) (p2 : Int32) (p3 : Int32) (q4 : Int64) (p5 : Int32) (df : Int32) (ex : Int32) (lk : Int32) (m2 : Int64) (m3 : Int64) (mx : Int64) (b1674 : Addr) (e2v : Int32) (e3v : Int32) (z26 z27 z28 : Slot) : Array Slot := #[.val (.long q1), .second, .val (.int p2), .val (.int p3), .val (.long q4), .second, .val (.int p5), .val (.int (3 : Int32)), .val (.int df), .val (.int ex), .val (.int lk), .val (.long q1), .second, .val (.long m2), .second, .val (.long m3), .second, .val (.long m3), .second, .val (.long mx), .second, .val (.ref b1674), .val (.int (1 : Int32)), .val (.int (0 : Int32)), .val (.int e2v), .val (.int e3v), z26, z27, z28]
def Q0 (h0 : Heap) (n0 : Nat) (v : Option Value) (h : Heap) (L : List Loc) : Prop := v = some (.int (1 : Int32)) ∧ Fr n0 L
set_option maxRecDepth 65536 in
set_option maxHeartbeats 40000000 in
theorem rm0 (l : Launch) (Z : State) (a0 : Array Value) (hw : ∀ d ∈ tables_1, d.before a0 Z = true) (ws : List Jvm.Cond) (q1 : Int64) (p2 p3 : Int32) (q4 : Int64) (p5 : Int32) (h0 : Heap) (n0 : Nat) (Z0 : n0 ≤ h0.size) :
    MetFree l x (head1 (Jvm.Cond.code x code maxLocals ret :: ws) room_1) (fun a U => a = #[(.long q1), (.int p2), (.int p3), (.long q4), (.int p5)] ∧ Z.Warmed39 U.vm ∧ U.heap = h0) (fun _ _ _ _ _ => True) (fun _ U o U' => ∃ v L, o = .returned v ∧ Q0 h0 n0 v U'.heap L ∧ FrameEnd U o U' L room_1.cells room_1.slots) := by
  refine MetFree.of_bodySF (plainFor_of_name pn_24) hisR ?_
  intro p e s m args below meth c s₁ Bd hml0 hP hK
  obtain ⟨rfl, hZ, hh⟩ := hP
  have hx := Bd.exec
  have hby := Bd.bytes
  have hml : c.maxLocals = 29 := hml0
  have hown : s.vm.findClass "com/example/viral_counter/viralcounter/PostTrendIsEmptyPinLaw" = some m.cls := findClass_of_methodNamed Bd.named
  have hnm := (name_of_methodNamed Bd.named Bd.method).1
  have X0 : Stand p l e room_1 s m #[(.long q1), (.int p2), (.int p3), (.long q4), (.int p5)] below meth c s₁ [] 0 0 := Stand.of_body Bd
  have e0 : s₁.heap = h0 := by rw [← hh, Bd.state]; rfl
  have N0 := Fr.nil n0
  have pre0 : ∀ t, Steps p.tables e below (s₁.setTop (mkF m 0 #[.val (.long q1), .second, .val (.int p2), .val (.int p3), .val (.long q4), .second, .val (.int p5), .unset, .unset, .unset, .unset, .unset, .unset, .unset, .unset, .unset, .unset, .unset, .unset, .unset, .unset, .unset, .unset, .unset, .unset, .unset, .unset, .unset, .unset] [])) t → Steps p.tables e below (s₁.setTop (entryFrame m #[(.long q1), (.int p2), (.int p3), (.long q4), (.int p5)] maxLocals)) t := fun t k => castTop (ef_332 m q1 p2 p3 q4 p5) k
  have pre1530 : ∀ t, Steps p.tables e below (s₁.setTop (mkF m 4 #[.val (.long q1), .second, .val (.int p2), .val (.int p3), .val (.long q4), .second, .val (.int p5), .unset, .unset, .unset, .unset, .unset, .unset, .unset, .unset, .unset, .unset, .unset, .unset, .unset, .unset, .unset, .unset, .unset, .unset, .unset, .unset, .unset, .unset] [(.int (p5 &&& (3 : Int32)))])) t → Steps p.tables e below (s₁.setTop (entryFrame m #[(.long q1), (.int p2), (.int p3), (.long q4), (.int p5)] maxLocals)) t := fun t kt => pre0 t (by
    show Steps p.tables e below (s₁.setTop (mkF m 0 #[.val (.long q1), .second, .val (.int p2), .val (.int p3), .val (.long q4), .second, .val (.int p5), .unset, .unset, .unset, .unset, .unset, .unset, .unset, .unset, .unset, .unset, .unset, .unset, .unset, .unset, .unset, .unset, .unset, .unset, .unset, .unset, .unset, .unset] [])) _
    refine XS.iload X0.here hx rfl (hb hby at_0) rfl ?_
    refine XS.iconst X0.here hx rfl (hb hby at_2) ?_
    refine XS.iand X0.here hx rfl (hb hby at_3) rfl ?_
    exact kt)
  obtain ⟨kk, hkk⟩ : ∃ z : Int32, z = (p5 &&& (3 : Int32)) := ⟨_, rfl⟩
  have pre1531 : ∀ t, Steps p.tables e below (s₁.setTop (mkF m 4 #[.val (.long q1), .second, .val (.int p2), .val (.int p3), .val (.long q4), .second, .val (.int p5), .unset, .unset, .unset, .unset, .unset, .unset, .unset, .unset, .unset, .unset, .unset, .unset, .unset, .unset, .unset, .unset, .unset, .unset, .unset, .unset, .unset, .unset] [(.int kk)])) t → Steps p.tables e below (s₁.setTop (entryFrame m #[(.long q1), (.int p2), (.int p3), (.long q4), (.int p5)] maxLocals)) t := by rw [hkk]; exact pre1530
  have pre1532 : ∀ t, Steps p.tables e below (s₁.setTop (mkF m 10 #[.val (.long q1), .second, .val (.int p2), .val (.int p3), .val (.long q4), .second, .val (.int p5), .val (.int kk), .unset, .unset, .unset, .unset, .unset, .unset, .unset, .unset, .unset, .unset, .unset, .unset, .unset, .unset, .unset, .unset, .unset, .unset, .unset, .unset, .unset] [(.int (p5 &&& (4 : Int32)))])) t → Steps p.tables e below (s₁.setTop (entryFrame m #[(.long q1), (.int p2), (.int p3), (.long q4), (.int p5)] maxLocals)) t := fun t kt => pre1531 t (by
    show Steps p.tables e below (s₁.setTop (mkF m 4 #[.val (.long q1), .second, .val (.int p2), .val (.int p3), .val (.long q4), .second, .val (.int p5), .unset, .unset, .unset, .unset, .unset, .unset, .unset, .unset, .unset, .unset, .unset, .unset, .unset, .unset, .unset, .unset, .unset, .unset, .unset, .unset, .unset, .unset] [(.int kk)])) _
    refine XS.istore X0.here hx rfl (hb hby at_4) rfl (l' := #[.val (.long q1), .second, .val (.int p2), .val (.int p3), .val (.long q4), .second, .val (.int p5), .val (.int kk), .unset, .unset, .unset, .unset, .unset, .unset, .unset, .unset, .unset, .unset, .unset, .unset, .unset, .unset, .unset, .unset, .unset, .unset, .unset, .unset, .unset]) rfl ?_
    refine XS.iload X0.here hx rfl (hb hby at_6) rfl ?_
    refine XS.iconst X0.here hx rfl (hb hby at_8) ?_
    refine XS.iand X0.here hx rfl (hb hby at_9) rfl ?_
    exact kt)
  obtain ⟨df, hdf⟩ : ∃ z : Int32, z = (if (p5 &&& (4 : Int32)) = (0 : Int32) then (0 : Int32) else (1 : Int32)) := ⟨_, rfl⟩
  have pre1534 : ∀ t, Steps p.tables e below (s₁.setTop (mkF m 18 #[.val (.long q1), .second, .val (.int p2), .val (.int p3), .val (.long q4), .second, .val (.int p5), .val (.int kk), .unset, .unset, .unset, .unset, .unset, .unset, .unset, .unset, .unset, .unset, .unset, .unset, .unset, .unset, .unset, .unset, .unset, .unset, .unset, .unset, .unset] [(.int df)])) t → Steps p.tables e below (s₁.setTop (entryFrame m #[(.long q1), (.int p2), (.int p3), (.long q4), (.int p5)] maxLocals)) t := fun t kt => pre1532 t (by
    by_cases hc1533 : (p5 &&& (4 : Int32)) = (0 : Int32)
    case pos =>
      show Steps p.tables e below (s₁.setTop (mkF m 10 #[.val (.long q1), .second, .val (.int p2), .val (.int p3), .val (.long q4), .second, .val (.int p5), .val (.int kk), .unset, .unset, .unset, .unset, .unset, .unset, .unset, .unset, .unset, .unset, .unset, .unset, .unset, .unset, .unset, .unset, .unset, .unset, .unset, .unset, .unset] [(.int (p5 &&& (4 : Int32)))])) _
      refine XS.ifYes X0.here hx rfl (pc0 := 10) (pc' := 17) rfl (hb hby at_10) rfl ((if0 _ _).trans (teq hc1533).1) (by decide) (by decide) ?_
      refine XS.iconst X0.here hx rfl (hb hby at_17) ?_
      rw [show df = (0 : Int32) from (hdf.trans (if_pos hc1533))] at kt
      exact kt
    case neg =>
      show Steps p.tables e below (s₁.setTop (mkF m 10 #[.val (.long q1), .second, .val (.int p2), .val (.int p3), .val (.long q4), .second, .val (.int p5), .val (.int kk), .unset, .unset, .unset, .unset, .unset, .unset, .unset, .unset, .unset, .unset, .unset, .unset, .unset, .unset, .unset, .unset, .unset, .unset, .unset, .unset, .unset] [(.int (p5 &&& (4 : Int32)))])) _
      refine XS.ifNo X0.here hx rfl (hb hby at_10) rfl ((if0 _ _).trans (feq hc1533).1) ?_
      refine XS.iconst X0.here hx rfl (hb hby at_13) ?_
      refine XS.goto X0.here hx rfl (pc0 := 14) (pc' := 18) rfl (hb hby at_14) (by decide) (by decide) ?_
      rw [show df = (1 : Int32) from (hdf.trans (if_neg hc1533))] at kt
      exact kt)
  have pre1535 : ∀ t, Steps p.tables e below (s₁.setTop (mkF m 25 #[.val (.long q1), .second, .val (.int p2), .val (.int p3), .val (.long q4), .second, .val (.int p5), .val (.int kk), .val (.int df), .unset, .unset, .unset, .unset, .unset, .unset, .unset, .unset, .unset, .unset, .unset, .unset, .unset, .unset, .unset, .unset, .unset, .unset, .unset, .unset] [(.int (p5 &&& (8 : Int32)))])) t → Steps p.tables e below (s₁.setTop (entryFrame m #[(.long q1), (.int p2), (.int p3), (.long q4), (.int p5)] maxLocals)) t := fun t kt => pre1534 t (by
    show Steps p.tables e below (s₁.setTop (mkF m 18 #[.val (.long q1), .second, .val (.int p2), .val (.int p3), .val (.long q4), .second, .val (.int p5), .val (.int kk), .unset, .unset, .unset, .unset, .unset, .unset, .unset, .unset, .unset, .unset, .unset, .unset, .unset, .unset, .unset, .unset, .unset, .unset, .unset, .unset, .unset] [(.int df)])) _
    refine XS.istore X0.here hx rfl (hb hby at_18) rfl (l' := #[.val (.long q1), .second, .val (.int p2), .val (.int p3), .val (.long q4), .second, .val (.int p5), .val (.int kk), .val (.int df), .unset, .unset, .unset, .unset, .unset, .unset, .unset, .unset, .unset, .unset, .unset, .unset, .unset, .unset, .unset, .unset, .unset, .unset, .unset, .unset]) rfl ?_
    refine XS.iload X0.here hx rfl (hb hby at_20) rfl ?_
    refine XS.bipush X0.here hx rfl (hb hby at_22) ?_
    refine XS.iand X0.here hx rfl (hb hby at_24) rfl ?_
    exact kt)
  obtain ⟨ex, hex⟩ : ∃ z : Int32, z = (if (p5 &&& (8 : Int32)) = (0 : Int32) then (0 : Int32) else (1 : Int32)) := ⟨_, rfl⟩
  have pre1537 : ∀ t, Steps p.tables e below (s₁.setTop (mkF m 33 #[.val (.long q1), .second, .val (.int p2), .val (.int p3), .val (.long q4), .second, .val (.int p5), .val (.int kk), .val (.int df), .unset, .unset, .unset, .unset, .unset, .unset, .unset, .unset, .unset, .unset, .unset, .unset, .unset, .unset, .unset, .unset, .unset, .unset, .unset, .unset] [(.int ex)])) t → Steps p.tables e below (s₁.setTop (entryFrame m #[(.long q1), (.int p2), (.int p3), (.long q4), (.int p5)] maxLocals)) t := fun t kt => pre1535 t (by
    by_cases hc1536 : (p5 &&& (8 : Int32)) = (0 : Int32)
    case pos =>
      show Steps p.tables e below (s₁.setTop (mkF m 25 #[.val (.long q1), .second, .val (.int p2), .val (.int p3), .val (.long q4), .second, .val (.int p5), .val (.int kk), .val (.int df), .unset, .unset, .unset, .unset, .unset, .unset, .unset, .unset, .unset, .unset, .unset, .unset, .unset, .unset, .unset, .unset, .unset, .unset, .unset, .unset] [(.int (p5 &&& (8 : Int32)))])) _
      refine XS.ifYes X0.here hx rfl (pc0 := 25) (pc' := 32) rfl (hb hby at_25) rfl ((if0 _ _).trans (teq hc1536).1) (by decide) (by decide) ?_
      refine XS.iconst X0.here hx rfl (hb hby at_32) ?_
      rw [show ex = (0 : Int32) from (hex.trans (if_pos hc1536))] at kt
      exact kt
    case neg =>
      show Steps p.tables e below (s₁.setTop (mkF m 25 #[.val (.long q1), .second, .val (.int p2), .val (.int p3), .val (.long q4), .second, .val (.int p5), .val (.int kk), .val (.int df), .unset, .unset, .unset, .unset, .unset, .unset, .unset, .unset, .unset, .unset, .unset, .unset, .unset, .unset, .unset, .unset, .unset, .unset, .unset, .unset] [(.int (p5 &&& (8 : Int32)))])) _
      refine XS.ifNo X0.here hx rfl (hb hby at_25) rfl ((if0 _ _).trans (feq hc1536).1) ?_
      refine XS.iconst X0.here hx rfl (hb hby at_28) ?_
      refine XS.goto X0.here hx rfl (pc0 := 29) (pc' := 33) rfl (hb hby at_29) (by decide) (by decide) ?_
      rw [show ex = (1 : Int32) from (hex.trans (if_neg hc1536))] at kt
      exact kt)
  have pre1538 : ∀ t, Steps p.tables e below (s₁.setTop (mkF m 40 #[.val (.long q1), .second, .val (.int p2), .val (.int p3), .val (.long q4), .second, .val (.int p5), .val (.int kk), .val (.int df), .val (.int ex), .unset, .unset, .unset, .unset, .unset, .unset, .unset, .unset, .unset, .unset, .unset, .unset, .unset, .unset, .unset, .unset, .unset, .unset, .unset] [(.int (p5 &&& (16 : Int32)))])) t → Steps p.tables e below (s₁.setTop (entryFrame m #[(.long q1), (.int p2), (.int p3), (.long q4), (.int p5)] maxLocals)) t := fun t kt => pre1537 t (by
    show Steps p.tables e below (s₁.setTop (mkF m 33 #[.val (.long q1), .second, .val (.int p2), .val (.int p3), .val (.long q4), .second, .val (.int p5), .val (.int kk), .val (.int df), .unset, .unset, .unset, .unset, .unset, .unset, .unset, .unset, .unset, .unset, .unset, .unset, .unset, .unset, .unset, .unset, .unset, .unset, .unset, .unset] [(.int ex)])) _
    refine XS.istore X0.here hx rfl (hb hby at_33) rfl (l' := #[.val (.long q1), .second, .val (.int p2), .val (.int p3), .val (.long q4), .second, .val (.int p5), .val (.int kk), .val (.int df), .val (.int ex), .unset, .unset, .unset, .unset, .unset, .unset, .unset, .unset, .unset, .unset, .unset, .unset, .unset, .unset, .unset, .unset, .unset, .unset, .unset]) rfl ?_
    refine XS.iload X0.here hx rfl (hb hby at_35) rfl ?_
    refine XS.bipush X0.here hx rfl (hb hby at_37) ?_
    refine XS.iand X0.here hx rfl (hb hby at_39) rfl ?_
    exact kt)
  obtain ⟨lk, hlk⟩ : ∃ z : Int32, z = (if (p5 &&& (16 : Int32)) = (0 : Int32) then (0 : Int32) else (1 : Int32)) := ⟨_, rfl⟩
  have pre1540 : ∀ t, Steps p.tables e below (s₁.setTop (mkF m 48 #[.val (.long q1), .second, .val (.int p2), .val (.int p3), .val (.long q4), .second, .val (.int p5), .val (.int kk), .val (.int df), .val (.int ex), .unset, .unset, .unset, .unset, .unset, .unset, .unset, .unset, .unset, .unset, .unset, .unset, .unset, .unset, .unset, .unset, .unset, .unset, .unset] [(.int lk)])) t → Steps p.tables e below (s₁.setTop (entryFrame m #[(.long q1), (.int p2), (.int p3), (.long q4), (.int p5)] maxLocals)) t := fun t kt => pre1538 t (by
    by_cases hc1539 : (p5 &&& (16 : Int32)) = (0 : Int32)
    case pos =>
      show Steps p.tables e below (s₁.setTop (mkF m 40 #[.val (.long q1), .second, .val (.int p2), .val (.int p3), .val (.long q4), .second, .val (.int p5), .val (.int kk), .val (.int df), .val (.int ex), .unset, .unset, .unset, .unset, .unset, .unset, .unset, .unset, .unset, .unset, .unset, .unset, .unset, .unset, .unset, .unset, .unset, .unset, .unset] [(.int (p5 &&& (16 : Int32)))])) _
      refine XS.ifYes X0.here hx rfl (pc0 := 40) (pc' := 47) rfl (hb hby at_40) rfl ((if0 _ _).trans (teq hc1539).1) (by decide) (by decide) ?_
      refine XS.iconst X0.here hx rfl (hb hby at_47) ?_
      rw [show lk = (0 : Int32) from (hlk.trans (if_pos hc1539))] at kt
      exact kt
    case neg =>
      show Steps p.tables e below (s₁.setTop (mkF m 40 #[.val (.long q1), .second, .val (.int p2), .val (.int p3), .val (.long q4), .second, .val (.int p5), .val (.int kk), .val (.int df), .val (.int ex), .unset, .unset, .unset, .unset, .unset, .unset, .unset, .unset, .unset, .unset, .unset, .unset, .unset, .unset, .unset, .unset, .unset, .unset, .unset] [(.int (p5 &&& (16 : Int32)))])) _
      refine XS.ifNo X0.here hx rfl (hb hby at_40) rfl ((if0 _ _).trans (feq hc1539).1) ?_
      refine XS.iconst X0.here hx rfl (hb hby at_43) ?_
      refine XS.goto X0.here hx rfl (pc0 := 44) (pc' := 48) rfl (hb hby at_44) (by decide) (by decide) ?_
      rw [show lk = (1 : Int32) from (hlk.trans (if_neg hc1539))] at kt
      exact kt)
  have pre1541 : ∀ t, Steps p.tables e below (s₁.setTop (mkF m 58 #[.val (.long q1), .second, .val (.int p2), .val (.int p3), .val (.long q4), .second, .val (.int p5), .val (.int kk), .val (.int df), .val (.int ex), .val (.int lk), .val (.long q1), .second, .unset, .unset, .unset, .unset, .unset, .unset, .unset, .unset, .unset, .unset, .unset, .unset, .unset, .unset, .unset, .unset] [(.int (p2 &&& (3 : Int32))), (.long q1)])) t → Steps p.tables e below (s₁.setTop (entryFrame m #[(.long q1), (.int p2), (.int p3), (.long q4), (.int p5)] maxLocals)) t := fun t kt => pre1540 t (by
    show Steps p.tables e below (s₁.setTop (mkF m 48 #[.val (.long q1), .second, .val (.int p2), .val (.int p3), .val (.long q4), .second, .val (.int p5), .val (.int kk), .val (.int df), .val (.int ex), .unset, .unset, .unset, .unset, .unset, .unset, .unset, .unset, .unset, .unset, .unset, .unset, .unset, .unset, .unset, .unset, .unset, .unset, .unset] [(.int lk)])) _
    refine XS.istore X0.here hx rfl (hb hby at_48) rfl (l' := #[.val (.long q1), .second, .val (.int p2), .val (.int p3), .val (.long q4), .second, .val (.int p5), .val (.int kk), .val (.int df), .val (.int ex), .val (.int lk), .unset, .unset, .unset, .unset, .unset, .unset, .unset, .unset, .unset, .unset, .unset, .unset, .unset, .unset, .unset, .unset, .unset, .unset]) rfl ?_
    refine XS.lloadN X0.here hx rfl (hb hby at_50) rfl ?_
    refine XS.lstore X0.here hx rfl (hb hby at_51) rfl (l' := #[.val (.long q1), .second, .val (.int p2), .val (.int p3), .val (.long q4), .second, .val (.int p5), .val (.int kk), .val (.int df), .val (.int ex), .val (.int lk), .val (.long q1), .second, .unset, .unset, .unset, .unset, .unset, .unset, .unset, .unset, .unset, .unset, .unset, .unset, .unset, .unset, .unset, .unset]) rfl ?_
    refine XS.lload X0.here hx rfl (hb hby at_53) rfl ?_
    refine XS.iloadN X0.here hx rfl (hb hby at_55) rfl ?_
    refine XS.iconst X0.here hx rfl (hb hby at_56) ?_
    refine XS.iand X0.here hx rfl (hb hby at_57) rfl ?_
    exact kt)
  obtain ⟨s1, hs1⟩ : ∃ z : Int32, z = (p2 &&& (3 : Int32)) := ⟨_, rfl⟩
  have pre1542 : ∀ t, Steps p.tables e below (s₁.setTop (mkF m 58 #[.val (.long q1), .second, .val (.int p2), .val (.int p3), .val (.long q4), .second, .val (.int p5), .val (.int kk), .val (.int df), .val (.int ex), .val (.int lk), .val (.long q1), .second, .unset, .unset, .unset, .unset, .unset, .unset, .unset, .unset, .unset, .unset, .unset, .unset, .unset, .unset, .unset, .unset] [(.int s1), (.long q1)])) t → Steps p.tables e below (s₁.setTop (entryFrame m #[(.long q1), (.int p2), (.int p3), (.long q4), (.int p5)] maxLocals)) t := by rw [hs1]; exact pre1541
  obtain ⟨_, _, ⟨T1543, L1543, k1543, n1543⟩, -, X1543, ⟨Lc1543, hQ1543, l1543, y1543, z1543⟩, st1543⟩ := Jvm.LawKit.callS X0 hx (y := own_y_22) hown (mvT hZ (own_w hw 0 rfl)) (mvT hZ (own_w hw 1 rfl)) (mvT hZ (own_w hw 2 rfl)) (mvT hZ (own_w hw 3 rfl)) (by decide) (backOf (W := 0) (rmAft l Z a0 hw [] q1 s1 h0 n0 Z0) hZ (own_w hw 3 rfl) (own_w hw 2 rfl) (by decide) (by decide)) (g := (mkF m 58 #[.val (.long q1), .second, .val (.int p2), .val (.int p3), .val (.long q4), .second, .val (.int p5), .val (.int kk), .val (.int df), .val (.int ex), .val (.int lk), .val (.long q1), .second, .unset, .unset, .unset, .unset, .unset, .unset, .unset, .unset, .unset, .unset, .unset, .unset, .unset, .unset, .unset, .unset] [(.int s1), (.long q1)])) rfl (by rw [hml]; rfl) (argsL := [(.long q1), (.int s1)]) (rest := []) (lenOf pd_333 rfl) rfl (by show 2 * 0 + _ ≤ _; exact Nat.le_of_eq rfl) (hb hby at_58) (fun _ _ => ⟨rfl, e0, (by decide : 0 + 0 ≤ _), (by decide : 0 + 0 ≤ _)⟩)
  dsimp only [Pt.U, Pt.locs, Pt.cells, Pt.slots] at X1543 l1543 y1543 z1543 st1543 hQ1543
  subst l1543 y1543 z1543
  obtain ⟨rfl, Nq1543, e1543⟩ := hQ1543
  have N1543 := Fr.app N0 Nq1543
  have pre1544 : ∀ t, Steps p.tables e below (T1543.setTop (mkF m 61 #[.val (.long q1), .second, .val (.int p2), .val (.int p3), .val (.long q4), .second, .val (.int p5), .val (.int kk), .val (.int df), .val (.int ex), .val (.int lk), .val (.long q1), .second, .unset, .unset, .unset, .unset, .unset, .unset, .unset, .unset, .unset, .unset, .unset, .unset, .unset, .unset, .unset, .unset] [(.long (if (q1 + (s1.toInt64)) < q1 then q1 else (q1 + (s1.toInt64))))])) t → Steps p.tables e below (s₁.setTop (entryFrame m #[(.long q1), (.int p2), (.int p3), (.long q4), (.int p5)] maxLocals)) t := fun t kt => pre1542 t (by
    show Steps p.tables e below (s₁.setTop (mkF m 58 #[.val (.long q1), .second, .val (.int p2), .val (.int p3), .val (.long q4), .second, .val (.int p5), .val (.int kk), .val (.int df), .val (.int ex), .val (.int lk), .val (.long q1), .second, .unset, .unset, .unset, .unset, .unset, .unset, .unset, .unset, .unset, .unset, .unset, .unset, .unset, .unset, .unset, .unset] [(.int s1), (.long q1)])) _
    refine st1543 _ ?_
    exact kt)
  obtain ⟨m2, hm2⟩ : ∃ z : Int64, z = (if (q1 + (s1.toInt64)) < q1 then q1 else (q1 + (s1.toInt64))) := ⟨_, rfl⟩
  have pre1545 : ∀ t, Steps p.tables e below (T1543.setTop (mkF m 61 #[.val (.long q1), .second, .val (.int p2), .val (.int p3), .val (.long q4), .second, .val (.int p5), .val (.int kk), .val (.int df), .val (.int ex), .val (.int lk), .val (.long q1), .second, .unset, .unset, .unset, .unset, .unset, .unset, .unset, .unset, .unset, .unset, .unset, .unset, .unset, .unset, .unset, .unset] [(.long m2)])) t → Steps p.tables e below (s₁.setTop (entryFrame m #[(.long q1), (.int p2), (.int p3), (.long q4), (.int p5)] maxLocals)) t := by rw [hm2]; exact pre1544
  have ha2 : ¬ m2 < q1 := own_aft q1 m2 s1 hm2
  have pre1546 : ∀ t, Steps p.tables e below (T1543.setTop (mkF m 70 #[.val (.long q1), .second, .val (.int p2), .val (.int p3), .val (.long q4), .second, .val (.int p5), .val (.int kk), .val (.int df), .val (.int ex), .val (.int lk), .val (.long q1), .second, .val (.long m2), .second, .unset, .unset, .unset, .unset, .unset, .unset, .unset, .unset, .unset, .unset, .unset, .unset, .unset, .unset] [(.int ((p2 >>> ((2 : Int32) &&& 31)) &&& (3 : Int32))), (.long m2)])) t → Steps p.tables e below (s₁.setTop (entryFrame m #[(.long q1), (.int p2), (.int p3), (.long q4), (.int p5)] maxLocals)) t := fun t kt => pre1545 t (by
    show Steps p.tables e below (T1543.setTop (mkF m 61 #[.val (.long q1), .second, .val (.int p2), .val (.int p3), .val (.long q4), .second, .val (.int p5), .val (.int kk), .val (.int df), .val (.int ex), .val (.int lk), .val (.long q1), .second, .unset, .unset, .unset, .unset, .unset, .unset, .unset, .unset, .unset, .unset, .unset, .unset, .unset, .unset, .unset, .unset] [(.long m2)])) _
    refine XS.lstore X1543.here hx rfl (hb hby at_61) rfl (l' := #[.val (.long q1), .second, .val (.int p2), .val (.int p3), .val (.long q4), .second, .val (.int p5), .val (.int kk), .val (.int df), .val (.int ex), .val (.int lk), .val (.long q1), .second, .val (.long m2), .second, .unset, .unset, .unset, .unset, .unset, .unset, .unset, .unset, .unset, .unset, .unset, .unset, .unset, .unset]) rfl ?_
    refine XS.lload X1543.here hx rfl (hb hby at_63) rfl ?_
    refine XS.iloadN X1543.here hx rfl (hb hby at_65) rfl ?_
    refine XS.iconst X1543.here hx rfl (hb hby at_66) ?_
    refine XS.ishr X1543.here hx rfl (hb hby at_67) rfl ?_
    refine XS.iconst X1543.here hx rfl (hb hby at_68) ?_
    refine XS.iand X1543.here hx rfl (hb hby at_69) rfl ?_
    exact kt)
  obtain ⟨s2, hs2⟩ : ∃ z : Int32, z = ((p2 >>> ((2 : Int32) &&& 31)) &&& (3 : Int32)) := ⟨_, rfl⟩
  have pre1547 : ∀ t, Steps p.tables e below (T1543.setTop (mkF m 70 #[.val (.long q1), .second, .val (.int p2), .val (.int p3), .val (.long q4), .second, .val (.int p5), .val (.int kk), .val (.int df), .val (.int ex), .val (.int lk), .val (.long q1), .second, .val (.long m2), .second, .unset, .unset, .unset, .unset, .unset, .unset, .unset, .unset, .unset, .unset, .unset, .unset, .unset, .unset] [(.int s2), (.long m2)])) t → Steps p.tables e below (s₁.setTop (entryFrame m #[(.long q1), (.int p2), (.int p3), (.long q4), (.int p5)] maxLocals)) t := by rw [hs2]; exact pre1546
  obtain ⟨_, _, ⟨T1548, L1548, k1548, n1548⟩, -, X1548, ⟨Lc1548, hQ1548, l1548, y1548, z1548⟩, st1548⟩ := Jvm.LawKit.callS X1543 hx (y := own_y_22) hown (mvT hZ (own_w hw 0 rfl)) (mvT hZ (own_w hw 1 rfl)) (mvT hZ (own_w hw 2 rfl)) (mvT hZ (own_w hw 3 rfl)) (by decide) (backOf (W := 0) (rmAft l Z a0 hw [] m2 s2 h0 n0 Z0) hZ (own_w hw 3 rfl) (own_w hw 2 rfl) (by decide) (by decide)) (g := (mkF m 70 #[.val (.long q1), .second, .val (.int p2), .val (.int p3), .val (.long q4), .second, .val (.int p5), .val (.int kk), .val (.int df), .val (.int ex), .val (.int lk), .val (.long q1), .second, .val (.long m2), .second, .unset, .unset, .unset, .unset, .unset, .unset, .unset, .unset, .unset, .unset, .unset, .unset, .unset, .unset] [(.int s2), (.long m2)])) rfl (by rw [hml]; rfl) (argsL := [(.long m2), (.int s2)]) (rest := []) (lenOf pd_333 rfl) rfl (by show 2 * 0 + _ ≤ _; exact Nat.le_of_eq rfl) (hb hby at_70) (fun _ _ => ⟨rfl, e1543, (by decide : 0 + 0 ≤ _), (by decide : 0 + 0 ≤ _)⟩)
  dsimp only [Pt.U, Pt.locs, Pt.cells, Pt.slots] at X1548 l1548 y1548 z1548 st1548 hQ1548
  subst l1548 y1548 z1548
  obtain ⟨rfl, Nq1548, e1548⟩ := hQ1548
  have N1548 := Fr.app N1543 Nq1548
  have pre1549 : ∀ t, Steps p.tables e below (T1548.setTop (mkF m 73 #[.val (.long q1), .second, .val (.int p2), .val (.int p3), .val (.long q4), .second, .val (.int p5), .val (.int kk), .val (.int df), .val (.int ex), .val (.int lk), .val (.long q1), .second, .val (.long m2), .second, .unset, .unset, .unset, .unset, .unset, .unset, .unset, .unset, .unset, .unset, .unset, .unset, .unset, .unset] [(.long (if (m2 + (s2.toInt64)) < m2 then m2 else (m2 + (s2.toInt64))))])) t → Steps p.tables e below (s₁.setTop (entryFrame m #[(.long q1), (.int p2), (.int p3), (.long q4), (.int p5)] maxLocals)) t := fun t kt => pre1547 t (by
    show Steps p.tables e below (T1543.setTop (mkF m 70 #[.val (.long q1), .second, .val (.int p2), .val (.int p3), .val (.long q4), .second, .val (.int p5), .val (.int kk), .val (.int df), .val (.int ex), .val (.int lk), .val (.long q1), .second, .val (.long m2), .second, .unset, .unset, .unset, .unset, .unset, .unset, .unset, .unset, .unset, .unset, .unset, .unset, .unset, .unset] [(.int s2), (.long m2)])) _
    refine st1548 _ ?_
    exact kt)
  obtain ⟨m3, hm3⟩ : ∃ z : Int64, z = (if (m2 + (s2.toInt64)) < m2 then m2 else (m2 + (s2.toInt64))) := ⟨_, rfl⟩
  have pre1550 : ∀ t, Steps p.tables e below (T1548.setTop (mkF m 73 #[.val (.long q1), .second, .val (.int p2), .val (.int p3), .val (.long q4), .second, .val (.int p5), .val (.int kk), .val (.int df), .val (.int ex), .val (.int lk), .val (.long q1), .second, .val (.long m2), .second, .unset, .unset, .unset, .unset, .unset, .unset, .unset, .unset, .unset, .unset, .unset, .unset, .unset, .unset] [(.long m3)])) t → Steps p.tables e below (s₁.setTop (entryFrame m #[(.long q1), (.int p2), (.int p3), (.long q4), (.int p5)] maxLocals)) t := by rw [hm3]; exact pre1549
  have ha3 : ¬ m3 < m2 := own_aft m2 m3 s2 hm3
  have pre1551 : ∀ t, Steps p.tables e below (T1548.setTop (mkF m 75 #[.val (.long q1), .second, .val (.int p2), .val (.int p3), .val (.long q4), .second, .val (.int p5), .val (.int kk), .val (.int df), .val (.int ex), .val (.int lk), .val (.long q1), .second, .val (.long m2), .second, .val (.long m3), .second, .unset, .unset, .unset, .unset, .unset, .unset, .unset, .unset, .unset, .unset, .unset, .unset] [])) t → Steps p.tables e below (s₁.setTop (entryFrame m #[(.long q1), (.int p2), (.int p3), (.long q4), (.int p5)] maxLocals)) t := fun t kt => pre1550 t (by
    show Steps p.tables e below (T1548.setTop (mkF m 73 #[.val (.long q1), .second, .val (.int p2), .val (.int p3), .val (.long q4), .second, .val (.int p5), .val (.int kk), .val (.int df), .val (.int ex), .val (.int lk), .val (.long q1), .second, .val (.long m2), .second, .unset, .unset, .unset, .unset, .unset, .unset, .unset, .unset, .unset, .unset, .unset, .unset, .unset, .unset] [(.long m3)])) _
    refine XS.lstore X1548.here hx rfl (hb hby at_73) rfl (l' := #[.val (.long q1), .second, .val (.int p2), .val (.int p3), .val (.long q4), .second, .val (.int p5), .val (.int kk), .val (.int df), .val (.int ex), .val (.int lk), .val (.long q1), .second, .val (.long m2), .second, .val (.long m3), .second, .unset, .unset, .unset, .unset, .unset, .unset, .unset, .unset, .unset, .unset, .unset, .unset]) rfl ?_
    exact kt)
  have hkk4 := own_and3 p5
  rw [← hkk] at hkk4
  rcases hkk4 with hk | hk | hk | hk
  · have pre1552 : ∀ t, Steps p.tables e below (T1548.setTop (mkF m 75 (own_L_334 q1 p2 p3 q4 p5 df ex lk m2 m3 (.val (.int (0 : Int32))) .unset .unset .unset .unset .unset .unset .unset .unset .unset .unset .unset .unset) [])) t → Steps p.tables e below (s₁.setTop (entryFrame m #[(.long q1), (.int p2), (.int p3), (.long q4), (.int p5)] maxLocals)) t := by have q := pre1551; rw [hk] at q; exact q
    have pre1553 : ∀ t, Steps p.tables e below (T1548.setTop (mkF m 108 (own_L_334 q1 p2 p3 q4 p5 df ex lk m2 m3 (.val (.int (0 : Int32))) (.val (.long m3)) .second .unset .unset .unset .unset .unset .unset .unset .unset .unset .unset) [(.int ((p2 >>> ((4 : Int32) &&& 31)) &&& (3 : Int32))), (.long m3)])) t → Steps p.tables e below (s₁.setTop (entryFrame m #[(.long q1), (.int p2), (.int p3), (.long q4), (.int p5)] maxLocals)) t := fun t kt => pre1552 t (by
      show Steps p.tables e below (T1548.setTop (mkF m 75 (own_L_334 q1 p2 p3 q4 p5 df ex lk m2 m3 (.val (.int (0 : Int32))) .unset .unset .unset .unset .unset .unset .unset .unset .unset .unset .unset .unset) [])) _
      refine XS.iload X1548.here hx rfl (hb hby at_75) rfl ?_
      refine XS.iconst X1548.here hx rfl (hb hby at_77) ?_
      refine XS.icmpYes X1548.here hx rfl (pc0 := 78) (pc' := 86) rfl (hb hby at_78) rfl (feq (by decide : ¬ ((0 : Int32) = (1 : Int32)))).2 (by decide) (by decide) ?_
      refine XS.iload X1548.here hx rfl (hb hby at_86) rfl ?_
      refine XS.iconst X1548.here hx rfl (hb hby at_88) ?_
      refine XS.icmpYes X1548.here hx rfl (pc0 := 89) (pc' := 97) rfl (hb hby at_89) rfl (feq (by decide : ¬ ((0 : Int32) = (2 : Int32)))).2 (by decide) (by decide) ?_
      refine XS.lload X1548.here hx rfl (hb hby at_97) rfl ?_
      refine XS.lstore X1548.here hx rfl (hb hby at_99) rfl (l' := (own_L_334 q1 p2 p3 q4 p5 df ex lk m2 m3 (.val (.int (0 : Int32))) (.val (.long m3)) .second .unset .unset .unset .unset .unset .unset .unset .unset .unset .unset)) rfl ?_
      refine XS.lload X1548.here hx rfl (hb hby at_101) rfl ?_
      refine XS.iloadN X1548.here hx rfl (hb hby at_103) rfl ?_
      refine XS.iconst X1548.here hx rfl (hb hby at_104) ?_
      refine XS.ishr X1548.here hx rfl (hb hby at_105) rfl ?_
      show Steps p.tables e below (T1548.setTop (mkF m 106 (own_L_334 q1 p2 p3 q4 p5 df ex lk m2 m3 (.val (.int (0 : Int32))) (.val (.long m3)) .second .unset .unset .unset .unset .unset .unset .unset .unset .unset .unset) [(.int (p2 >>> ((4 : Int32) &&& 31))), (.long m3)])) _
      refine XS.iconst X1548.here hx rfl (hb hby at_106) ?_
      refine XS.iand X1548.here hx rfl (hb hby at_107) rfl ?_
      exact kt)
    obtain ⟨s3, hs3⟩ : ∃ z : Int32, z = ((p2 >>> ((4 : Int32) &&& 31)) &&& (3 : Int32)) := ⟨_, rfl⟩
    have pre1554 : ∀ t, Steps p.tables e below (T1548.setTop (mkF m 108 (own_L_334 q1 p2 p3 q4 p5 df ex lk m2 m3 (.val (.int (0 : Int32))) (.val (.long m3)) .second .unset .unset .unset .unset .unset .unset .unset .unset .unset .unset) [(.int s3), (.long m3)])) t → Steps p.tables e below (s₁.setTop (entryFrame m #[(.long q1), (.int p2), (.int p3), (.long q4), (.int p5)] maxLocals)) t := by rw [hs3]; exact pre1553
    obtain ⟨_, _, ⟨T1555, L1555, k1555, n1555⟩, -, X1555, ⟨Lc1555, hQ1555, l1555, y1555, z1555⟩, st1555⟩ := Jvm.LawKit.callS X1548 hx (y := own_y_22) hown (mvT hZ (own_w hw 0 rfl)) (mvT hZ (own_w hw 1 rfl)) (mvT hZ (own_w hw 2 rfl)) (mvT hZ (own_w hw 3 rfl)) (by decide) (backOf (W := 0) (rmAft l Z a0 hw [] m3 s3 h0 n0 Z0) hZ (own_w hw 3 rfl) (own_w hw 2 rfl) (by decide) (by decide)) (g := (mkF m 108 (own_L_334 q1 p2 p3 q4 p5 df ex lk m2 m3 (.val (.int (0 : Int32))) (.val (.long m3)) .second .unset .unset .unset .unset .unset .unset .unset .unset .unset .unset) [(.int s3), (.long m3)])) rfl (by rw [hml]; rfl) (argsL := [(.long m3), (.int s3)]) (rest := []) (lenOf pd_333 rfl) rfl (by show 2 * 0 + _ ≤ _; exact Nat.le_of_eq rfl) (hb hby at_108) (fun _ _ => ⟨rfl, e1548, (by decide : 0 + 0 ≤ _), (by decide : 0 + 0 ≤ _)⟩)
    dsimp only [Pt.U, Pt.locs, Pt.cells, Pt.slots] at X1555 l1555 y1555 z1555 st1555 hQ1555
    subst l1555 y1555 z1555
    obtain ⟨rfl, Nq1555, e1555⟩ := hQ1555
    have N1555 := Fr.app N1548 Nq1555
    have pre1556 : ∀ t, Steps p.tables e below (T1555.setTop (mkF m 111 (own_L_334 q1 p2 p3 q4 p5 df ex lk m2 m3 (.val (.int (0 : Int32))) (.val (.long m3)) .second .unset .unset .unset .unset .unset .unset .unset .unset .unset .unset) [(.long (if (m3 + (s3.toInt64)) < m3 then m3 else (m3 + (s3.toInt64))))])) t → Steps p.tables e below (s₁.setTop (entryFrame m #[(.long q1), (.int p2), (.int p3), (.long q4), (.int p5)] maxLocals)) t := fun t kt => pre1554 t (by
      show Steps p.tables e below (T1548.setTop (mkF m 108 (own_L_334 q1 p2 p3 q4 p5 df ex lk m2 m3 (.val (.int (0 : Int32))) (.val (.long m3)) .second .unset .unset .unset .unset .unset .unset .unset .unset .unset .unset) [(.int s3), (.long m3)])) _
      refine st1555 _ ?_
      exact kt)
    obtain ⟨mx, hmx⟩ : ∃ z : Int64, z = (if (m3 + (s3.toInt64)) < m3 then m3 else (m3 + (s3.toInt64))) := ⟨_, rfl⟩
    have pre1557 : ∀ t, Steps p.tables e below (T1555.setTop (mkF m 111 (own_L_334 q1 p2 p3 q4 p5 df ex lk m2 m3 (.val (.int (0 : Int32))) (.val (.long m3)) .second .unset .unset .unset .unset .unset .unset .unset .unset .unset .unset) [(.long mx)])) t → Steps p.tables e below (s₁.setTop (entryFrame m #[(.long q1), (.int p2), (.int p3), (.long q4), (.int p5)] maxLocals)) t := by rw [hmx]; exact pre1556
    have hax : ¬ mx < m3 := own_aft m3 mx s3 hmx
    obtain ⟨T1558, h1558, X1558, e1558, E1558, A1558, D1558, -, st1558⟩ := newO X1555 hx hZ hown (own_w hw 4 rfl) (own_w hw 5 rfl) (own_w hw 6 rfl) e1555 (g := (mkF m 113 (own_L_334 q1 p2 p3 q4 p5 df ex lk m2 m3 (.val (.int (0 : Int32))) (.val (.long m3)) .second (.val (.long mx)) .second .unset .unset .unset .unset .unset .unset .unset .unset) [])) rfl (hb hby at_113) (by decide) (by decide)
    obtain ⟨b1558, g1558⟩ : ∃ z, z = h0.size := ⟨_, rfl⟩
    rw [← g1558] at A1558 D1558 st1558
    have G1558 : n0 ≤ b1558 := Nat.le_trans Z0 (Nat.le_of_eq g1558.symm)
    have F1559 : Fld Z h1558 b1558 "com/example/viral_counter/viralcounter/PostTrend" "minutes" "[J" .null := D1558 (Or.inl (own_w hw 15 rfl)) (ty := (.array .long)) (by decide)
    have F1560 : Fld Z h1558 b1558 "com/example/viral_counter/viralcounter/PostTrend" "counts" "[I" .null := D1558 (Or.inl (own_w hw 18 rfl)) (ty := (.array .int)) (by decide)
    have F1561 : Fld Z h1558 b1558 "com/example/viral_counter/viralcounter/PostTrend" "first" "I" (.int (0 : Int32)) := D1558 (Or.inl (own_w hw 25 rfl)) (ty := .int) (by decide)
    have F1562 : Fld Z h1558 b1558 "com/example/viral_counter/viralcounter/PostTrend" "end" "I" (.int (0 : Int32)) := D1558 (Or.inl (own_w hw 27 rfl)) (ty := .int) (by decide)
    have F1563 : Fld Z h1558 b1558 "com/example/viral_counter/viralcounter/PostTrend" "before" "I" (.int (0 : Int32)) := D1558 (Or.inl (own_w hw 34 rfl)) (ty := .int) (by decide)
    have z1564 : n0 ≤ h1558.size := Nat.le_trans Z0 E1558.1
    obtain ⟨_, _, ⟨T1565, L1565, k1565, n1565⟩, -, X1565, ⟨Lc1565, hQ1565, l1565, y1565, z1565⟩, st1565⟩ := X1558.specialBack hx (y := own_y_0) rfl hown (mvT hZ (own_w hw 7 rfl)) (mvT hZ (own_w hw 8 rfl)) (mvT hZ (own_w hw 9 rfl)) (by decide) (backOf (W := 1) (rmNew l Z a0 hw [] b1558 h1558 n0 z1564 A1558 F1559 F1560 F1561 F1562 F1563 G1558) hZ (own_w hw 9 rfl) (own_w hw 6 rfl) (by decide) (by decide)) (g := (mkF m 117 (own_L_334 q1 p2 p3 q4 p5 df ex lk m2 m3 (.val (.int (0 : Int32))) (.val (.long m3)) .second (.val (.long mx)) .second .unset .unset .unset .unset .unset .unset .unset .unset) [(.ref b1558), (.ref b1558)])) rfl (by rw [hml]; rfl) (Steps.refl _) (a := b1558) (argsL := []) (rest := [(.ref b1558)]) (lenOf pd_313 rfl) rfl (by show 2 * 0 + _ ≤ _; exact Nat.le_of_eq rfl) (hb hby at_117) (fun _ _ => ⟨rfl, e1558, (by decide : 1 + 2 ≤ _), (by decide : 6 + 4 ≤ _)⟩)
    dsimp only [Pt.U, Pt.locs, Pt.cells, Pt.slots] at X1565 l1565 y1565 z1565 st1565 hQ1565
    subst l1565 y1565 z1565
    obtain ⟨rfl, Nq1565, z1565, P1565⟩ := hQ1565
    have N1565 := Fr.app N1555 Nq1565
    have z1566 : n0 ≤ T1565.heap.size := Nat.le_trans z1564 z1565
    obtain ⟨cq1567, kq1567, q1567a, q1567b, q1567c⟩ := isOf hZ rfl (own_pt_exa P1565)
    obtain ⟨_, _, ⟨T1567, L1567, k1567, n1567⟩, -, X1567, ⟨Lc1567, hQ1567, l1567, y1567, z1567⟩, st1567⟩ := X1565.virtualBack hx (y := own_y_38) (z := own_y_38) hown (mvT hZ (own_w hw 19 rfl)) (mvT hZ (own_w hw 20 rfl)) (notFace_of_selects (args := #[]) (mvT hZ (own_w hw 22 rfl))) (mvT hZ (own_w hw 22 rfl)) (mvT hZ (own_w hw 21 rfl)) (by decide) (backOf (W := 0) (rmEmpT l Z a0 hw [] b1558 _ _ _ _ _ _ T1565.heap n0 z1566 P1565 (by decide)) hZ (own_w hw 23 rfl) (own_w hw 6 rfl) (by decide) (by decide)) q1567a q1567c (g := (mkF m 124 (own_L_334 q1 p2 p3 q4 p5 df ex lk m2 m3 (.val (.int (0 : Int32))) (.val (.long m3)) .second (.val (.long mx)) .second (.val (.ref b1558)) .unset .unset .unset .unset .unset .unset .unset) [(.ref b1558)])) rfl (by rw [hml]; rfl) (Steps.refl _) (argsL := []) (rest := []) (lenOf pd_48 rfl) rfl (by show 2 * 0 + _ ≤ _; exact Nat.le_of_eq rfl) (hb hby at_124) (fun _ _ => ⟨rfl, rfl, (by decide : 3 + 0 ≤ _), (by decide : 10 + 0 ≤ _)⟩)
    dsimp only [Pt.U, Pt.locs, Pt.cells, Pt.slots] at X1567 l1567 y1567 z1567 st1567 hQ1567
    subst l1567 y1567 z1567
    obtain ⟨rfl, Nq1567, e1567⟩ := hQ1567
    have N1567 := Fr.app N1565 Nq1567
    have pre1568 : ∀ t, Steps p.tables e below (T1567.setTop (mkF m 129 (own_L_334 q1 p2 p3 q4 p5 df ex lk m2 m3 (.val (.int (0 : Int32))) (.val (.long m3)) .second (.val (.long mx)) .second (.val (.ref b1558)) (.val (.int (1 : Int32))) .unset .unset .unset .unset .unset .unset) [])) t → Steps p.tables e below (s₁.setTop (entryFrame m #[(.long q1), (.int p2), (.int p3), (.long q4), (.int p5)] maxLocals)) t := fun t kt => pre1557 t (by
      show Steps p.tables e below (T1555.setTop (mkF m 111 (own_L_334 q1 p2 p3 q4 p5 df ex lk m2 m3 (.val (.int (0 : Int32))) (.val (.long m3)) .second .unset .unset .unset .unset .unset .unset .unset .unset .unset .unset) [(.long mx)])) _
      refine XS.lstore X1555.here hx rfl (hb hby at_111) rfl (l' := (own_L_334 q1 p2 p3 q4 p5 df ex lk m2 m3 (.val (.int (0 : Int32))) (.val (.long m3)) .second (.val (.long mx)) .second .unset .unset .unset .unset .unset .unset .unset .unset)) rfl ?_
      refine st1558 _ ?_
      refine XS.dup X1558.here hx rfl (hb hby at_116) rfl rfl ?_
      refine st1565.trans ?_
      refine XS.astore X1565.here hx rfl (hb hby at_120) rfl rfl (l' := (own_L_334 q1 p2 p3 q4 p5 df ex lk m2 m3 (.val (.int (0 : Int32))) (.val (.long m3)) .second (.val (.long mx)) .second (.val (.ref b1558)) .unset .unset .unset .unset .unset .unset .unset)) rfl ?_
      refine XS.aload X1565.here hx rfl (hb hby at_122) rfl rfl ?_
      refine st1567.trans ?_
      refine XS.istore X1567.here hx rfl (hb hby at_127) rfl (l' := (own_L_334 q1 p2 p3 q4 p5 df ex lk m2 m3 (.val (.int (0 : Int32))) (.val (.long m3)) .second (.val (.long mx)) .second (.val (.ref b1558)) (.val (.int (1 : Int32))) .unset .unset .unset .unset .unset .unset)) rfl ?_
      exact kt)
    obtain ⟨cq1569, kq1569, q1569a, q1569b, q1569c⟩ := isOf hZ e1567 (own_pt_exa P1565)
    obtain ⟨_, _, ⟨T1569, L1569, k1569, n1569⟩, -, X1569, ⟨Lc1569, hQ1569, l1569, y1569, z1569⟩, st1569⟩ := X1567.virtualBack hx (y := own_y_38) (z := own_y_38) hown (mvT hZ (own_w hw 19 rfl)) (mvT hZ (own_w hw 20 rfl)) (notFace_of_selects (args := #[]) (mvT hZ (own_w hw 22 rfl))) (mvT hZ (own_w hw 22 rfl)) (mvT hZ (own_w hw 21 rfl)) (by decide) (backOf (W := 0) (rmEmpT l Z a0 hw [] b1558 _ _ _ _ _ _ T1565.heap n0 z1566 P1565 (by decide)) hZ (own_w hw 23 rfl) (own_w hw 6 rfl) (by decide) (by decide)) q1569a q1569c (g := (mkF m 191 (own_L_335 q1 p2 p3 q4 p5 df ex lk m2 m3 mx b1558 .unset) [(.ref b1558)])) rfl (by rw [hml]; rfl) (Steps.refl _) (argsL := []) (rest := []) (lenOf pd_48 rfl) rfl (by show 2 * 0 + _ ≤ _; exact Nat.le_of_eq rfl) (hb hby at_191) (fun _ _ => ⟨rfl, e1567, (by decide : 3 + 0 ≤ _), (by decide : 10 + 0 ≤ _)⟩)
    dsimp only [Pt.U, Pt.locs, Pt.cells, Pt.slots] at X1569 l1569 y1569 z1569 st1569 hQ1569
    subst l1569 y1569 z1569
    obtain ⟨rfl, Nq1569, e1569⟩ := hQ1569
    have N1569 := Fr.app N1567 Nq1569
    have pre1570 : ∀ t, Steps p.tables e below (T1569.setTop (mkF m 196 #[.val (.long q1), .second, .val (.int p2), .val (.int p3), .val (.long q4), .second, .val (.int p5), .val (.int (0 : Int32)), .val (.int df), .val (.int ex), .val (.int lk), .val (.long q1), .second, .val (.long m2), .second, .val (.long m3), .second, .val (.long m3), .second, .val (.long mx), .second, .val (.ref b1558), .val (.int (1 : Int32)), .val (.int (1 : Int32)), .unset, .unset, .unset, .unset, .unset] [])) t → Steps p.tables e below (s₁.setTop (entryFrame m #[(.long q1), (.int p2), (.int p3), (.long q4), (.int p5)] maxLocals)) t := fun t kt => pre1568 t (by
      show Steps p.tables e below (T1567.setTop (mkF m 129 (own_L_335 q1 p2 p3 q4 p5 df ex lk m2 m3 mx b1558 .unset) [])) _
      refine XS.iload X1567.here hx rfl (hb hby at_129) rfl ?_
      refine XS.iconst X1567.here hx rfl (hb hby at_131) ?_
      refine XS.icmpYes X1567.here hx rfl (pc0 := 132) (pc' := 145) rfl (hb hby at_132) rfl (tlt (by decide : (0 : Int32) < (1 : Int32))).1 (by decide) (by decide) ?_
      refine XS.iload X1567.here hx rfl (hb hby at_145) rfl ?_
      refine XS.iconst X1567.here hx rfl (hb hby at_147) ?_
      refine XS.icmpYes X1567.here hx rfl (pc0 := 148) (pc' := 171) rfl (hb hby at_148) rfl (tlt (by decide : (0 : Int32) < (2 : Int32))).1 (by decide) (by decide) ?_
      refine XS.iload X1567.here hx rfl (hb hby at_171) rfl ?_
      refine XS.iconst X1567.here hx rfl (hb hby at_173) ?_
      refine XS.icmpYes X1567.here hx rfl (pc0 := 174) (pc' := 189) rfl (hb hby at_174) rfl (tlt (by decide : (0 : Int32) < (3 : Int32))).1 (by decide) (by decide) ?_
      refine XS.aload X1567.here hx rfl (hb hby at_189) rfl rfl ?_
      refine st1569.trans ?_
      refine XS.istore X1569.here hx rfl (hb hby at_194) rfl (l' := (own_L_335 q1 p2 p3 q4 p5 df ex lk m2 m3 mx b1558 (.val (.int (1 : Int32))))) rfl ?_
      exact kt)
    obtain ⟨T1571, L1571, X1571, N1571, st1571⟩ := sg002 q1 p2 p3 q4 p5 (0 : Int32) df ex lk m2 m3 m3 mx b1558 (1 : Int32) (1 : Int32) (0 : Int64) (0 : Int64) (0 : Int32) (0 : Int32) (0 : Int32) (own_more X1569 (by decide) (by decide)) hx hZ hw hby hml hown N1569 (by rw [e1569]; exact z1566) (by rw [e1569]; exact P1565)
    have pre1572 : ∀ t, Steps p.tables e below (T1571.setTop (mkF m 237 #[.val (.long q1), .second, .val (.int p2), .val (.int p3), .val (.long q4), .second, .val (.int p5), .val (.int (0 : Int32)), .val (.int df), .val (.int ex), .val (.int lk), .val (.long q1), .second, .val (.long m2), .second, .val (.long m3), .second, .val (.long m3), .second, .val (.long mx), .second, .val (.ref b1558), .val (.int (1 : Int32)), .val (.int (1 : Int32)), .val (.int (1 : Int32)), .val (.int (if ex = (0 : Int32) then (1 : Int32) else (0 : Int32))), .unset, .unset, .unset] [])) t → Steps p.tables e below (s₁.setTop (entryFrame m #[(.long q1), (.int p2), (.int p3), (.long q4), (.int p5)] maxLocals)) t := fun t kt => pre1570 t (st1571 t kt)
    obtain ⟨e3v, he3v⟩ : ∃ z : Int32, z = (if ex = (0 : Int32) then (1 : Int32) else (0 : Int32)) := ⟨_, rfl⟩
    have pre1573 : ∀ t, Steps p.tables e below (T1571.setTop (mkF m 237 #[.val (.long q1), .second, .val (.int p2), .val (.int p3), .val (.long q4), .second, .val (.int p5), .val (.int (0 : Int32)), .val (.int df), .val (.int ex), .val (.int lk), .val (.long q1), .second, .val (.long m2), .second, .val (.long m3), .second, .val (.long m3), .second, .val (.long mx), .second, .val (.ref b1558), .val (.int (1 : Int32)), .val (.int (1 : Int32)), .val (.int (1 : Int32)), .val (.int e3v), .unset, .unset, .unset] [])) t → Steps p.tables e below (s₁.setTop (entryFrame m #[(.long q1), (.int p2), (.int p3), (.long q4), (.int p5)] maxLocals)) t := by rw [he3v]; exact pre1572
    have pre1574 : ∀ t, Steps p.tables e below (T1571.setTop (mkF m 276 (own_L_336 q1 p2 p3 q4 p5 df ex lk m2 m3 mx b1558 e3v (.val (.int (1 : Int32))) (.val (.int (1 : Int32))) .unset) [(.int ex)])) t → Steps p.tables e below (s₁.setTop (entryFrame m #[(.long q1), (.int p2), (.int p3), (.long q4), (.int p5)] maxLocals)) t := fun t kt => pre1573 t (by
      show Steps p.tables e below (T1571.setTop (mkF m 237 (own_L_336 q1 p2 p3 q4 p5 df ex lk m2 m3 mx b1558 e3v .unset .unset .unset) [])) _
      refine XS.iload X1571.here hx rfl (hb hby at_237) rfl ?_
      refine XS.ifNo X1571.here hx rfl (hb hby at_239) rfl ((if0 _ _).trans (teq (by decide : (0 : Int32) = (0 : Int32))).2) ?_
      refine XS.iconst X1571.here hx rfl (hb hby at_242) ?_
      refine XS.goto X1571.here hx rfl (pc0 := 243) (pc' := 247) rfl (hb hby at_243) (by decide) (by decide) ?_
      refine XS.istore X1571.here hx rfl (hb hby at_247) rfl (l' := (own_L_336 q1 p2 p3 q4 p5 df ex lk m2 m3 mx b1558 e3v (.val (.int (1 : Int32))) .unset .unset)) rfl ?_
      refine XS.iload X1571.here hx rfl (hb hby at_249) rfl ?_
      refine XS.ifYes X1571.here hx rfl (pc0 := 251) (pc' := 267) rfl (hb hby at_251) rfl ((if0 _ _).trans (teq (by decide : (0 : Int32) = (0 : Int32))).1) (by decide) (by decide) ?_
      refine XS.iconst X1571.here hx rfl (hb hby at_267) ?_
      refine XS.goto X1571.here hx rfl (pc0 := 268) (pc' := 272) rfl (hb hby at_268) (by decide) (by decide) ?_
      refine XS.istore X1571.here hx rfl (hb hby at_272) rfl (l' := (own_L_336 q1 p2 p3 q4 p5 df ex lk m2 m3 mx b1558 e3v (.val (.int (1 : Int32))) (.val (.int (1 : Int32))) .unset)) rfl ?_
      refine XS.iload X1571.here hx rfl (hb hby at_274) rfl ?_
      exact kt)
    obtain ⟨w3, hw3⟩ : ∃ z : Int32, z = (if ex = (0 : Int32) then (1 : Int32) else (0 : Int32)) := ⟨_, rfl⟩
    have pre1576 : ∀ t, Steps p.tables e below (T1571.setTop (mkF m 285 (own_L_336 q1 p2 p3 q4 p5 df ex lk m2 m3 mx b1558 e3v (.val (.int (1 : Int32))) (.val (.int (1 : Int32))) .unset) [(.int w3)])) t → Steps p.tables e below (s₁.setTop (entryFrame m #[(.long q1), (.int p2), (.int p3), (.long q4), (.int p5)] maxLocals)) t := fun t kt => pre1574 t (by
      by_cases hc1575 : ex = (0 : Int32)
      case pos =>
        show Steps p.tables e below (T1571.setTop (mkF m 276 (own_L_336 q1 p2 p3 q4 p5 df ex lk m2 m3 mx b1558 e3v (.val (.int (1 : Int32))) (.val (.int (1 : Int32))) .unset) [(.int ex)])) _
        refine XS.ifYes X1571.here hx rfl (pc0 := 276) (pc' := 283) rfl (hb hby at_276) rfl ((if0 _ _).trans (teq hc1575).1) (by decide) (by decide) ?_
        refine XS.iload X1571.here hx rfl (hb hby at_283) rfl ?_
        rw [show w3 = (1 : Int32) from (hw3.trans (if_pos hc1575))] at kt
        exact kt
      case neg =>
        show Steps p.tables e below (T1571.setTop (mkF m 276 (own_L_336 q1 p2 p3 q4 p5 df ex lk m2 m3 mx b1558 e3v (.val (.int (1 : Int32))) (.val (.int (1 : Int32))) .unset) [(.int ex)])) _
        refine XS.ifNo X1571.here hx rfl (hb hby at_276) rfl ((if0 _ _).trans (feq hc1575).1) ?_
        refine XS.iconst X1571.here hx rfl (hb hby at_279) ?_
        refine XS.goto X1571.here hx rfl (pc0 := 280) (pc' := 285) rfl (hb hby at_280) (by decide) (by decide) ?_
        rw [show w3 = (0 : Int32) from (hw3.trans (if_neg hc1575))] at kt
        exact kt)
    have k3 : e3v = w3 := by rw [he3v, hw3]
    have pre1577 : ∀ t, Steps p.tables e below (T1571.setTop (mkF m 318 (own_L_336 q1 p2 p3 q4 p5 df ex lk m2 m3 mx b1558 e3v (.val (.int (1 : Int32))) (.val (.int (1 : Int32))) (.val (.int w3))) [(.int (1 : Int32))])) t → Steps p.tables e below (s₁.setTop (entryFrame m #[(.long q1), (.int p2), (.int p3), (.long q4), (.int p5)] maxLocals)) t := fun t kt => pre1576 t (by
      show Steps p.tables e below (T1571.setTop (mkF m 285 (own_L_336 q1 p2 p3 q4 p5 df ex lk m2 m3 mx b1558 e3v (.val (.int (1 : Int32))) (.val (.int (1 : Int32))) .unset) [(.int w3)])) _
      refine XS.istore X1571.here hx rfl (hb hby at_285) rfl (l' := (own_L_336 q1 p2 p3 q4 p5 df ex lk m2 m3 mx b1558 e3v (.val (.int (1 : Int32))) (.val (.int (1 : Int32))) (.val (.int w3)))) rfl ?_
      refine XS.iload X1571.here hx rfl (hb hby at_287) rfl ?_
      refine XS.ifNo X1571.here hx rfl (hb hby at_289) rfl ((if0 _ _).trans (feq (by decide : ¬ ((1 : Int32) = (0 : Int32)))).1) ?_
      refine XS.iload X1571.here hx rfl (hb hby at_292) rfl ?_
      refine XS.iload X1571.here hx rfl (hb hby at_294) rfl ?_
      refine XS.icmpNo X1571.here hx rfl (hb hby at_296) rfl (teq (by decide : (1 : Int32) = (1 : Int32))).2 ?_
      refine XS.iload X1571.here hx rfl (hb hby at_299) rfl ?_
      refine XS.iload X1571.here hx rfl (hb hby at_301) rfl ?_
      refine XS.icmpNo X1571.here hx rfl (hb hby at_303) rfl (teq (by decide : (1 : Int32) = (1 : Int32))).2 ?_
      refine XS.iload X1571.here hx rfl (hb hby at_306) rfl ?_
      refine XS.iload X1571.here hx rfl (hb hby at_308) rfl ?_
      refine XS.icmpNo X1571.here hx rfl (hb hby at_310) rfl (teq k3).2 ?_
      show Steps p.tables e below (T1571.setTop (mkF m 313 (own_L_336 q1 p2 p3 q4 p5 df ex lk m2 m3 mx b1558 e3v (.val (.int (1 : Int32))) (.val (.int (1 : Int32))) (.val (.int w3))) [])) _
      refine XS.iconst X1571.here hx rfl (hb hby at_313) ?_
      refine XS.goto X1571.here hx rfl (pc0 := 314) (pc' := 318) rfl (hb hby at_314) (by decide) (by decide) ?_
      exact kt)
    exact own_retN X1571 hx Bd.notSynchronized (t := .boolean) Bd.returns (by simp) (hb hby at_318) pre1577 (show Q0 h0 n0 _ _ _ from ⟨rfl, N1571⟩) (by decide) (by decide)
  · have pre1578 : ∀ t, Steps p.tables e below (T1548.setTop (mkF m 75 (own_L_334 q1 p2 p3 q4 p5 df ex lk m2 m3 (.val (.int (1 : Int32))) .unset .unset .unset .unset .unset .unset .unset .unset .unset .unset .unset .unset) [])) t → Steps p.tables e below (s₁.setTop (entryFrame m #[(.long q1), (.int p2), (.int p3), (.long q4), (.int p5)] maxLocals)) t := by have q := pre1551; rw [hk] at q; exact q
    have pre1579 : ∀ t, Steps p.tables e below (T1548.setTop (mkF m 108 (own_L_334 q1 p2 p3 q4 p5 df ex lk m2 m3 (.val (.int (1 : Int32))) (.val (.long q1)) .second .unset .unset .unset .unset .unset .unset .unset .unset .unset .unset) [(.int ((p2 >>> ((4 : Int32) &&& 31)) &&& (3 : Int32))), (.long q1)])) t → Steps p.tables e below (s₁.setTop (entryFrame m #[(.long q1), (.int p2), (.int p3), (.long q4), (.int p5)] maxLocals)) t := fun t kt => pre1578 t (by
      show Steps p.tables e below (T1548.setTop (mkF m 75 (own_L_334 q1 p2 p3 q4 p5 df ex lk m2 m3 (.val (.int (1 : Int32))) .unset .unset .unset .unset .unset .unset .unset .unset .unset .unset .unset .unset) [])) _
      refine XS.iload X1548.here hx rfl (hb hby at_75) rfl ?_
      refine XS.iconst X1548.here hx rfl (hb hby at_77) ?_
      refine XS.icmpNo X1548.here hx rfl (hb hby at_78) rfl (teq (by decide : (1 : Int32) = (1 : Int32))).2 ?_
      refine XS.lload X1548.here hx rfl (hb hby at_81) rfl ?_
      refine XS.goto X1548.here hx rfl (pc0 := 83) (pc' := 99) rfl (hb hby at_83) (by decide) (by decide) ?_
      refine XS.lstore X1548.here hx rfl (hb hby at_99) rfl (l' := (own_L_334 q1 p2 p3 q4 p5 df ex lk m2 m3 (.val (.int (1 : Int32))) (.val (.long q1)) .second .unset .unset .unset .unset .unset .unset .unset .unset .unset .unset)) rfl ?_
      refine XS.lload X1548.here hx rfl (hb hby at_101) rfl ?_
      refine XS.iloadN X1548.here hx rfl (hb hby at_103) rfl ?_
      refine XS.iconst X1548.here hx rfl (hb hby at_104) ?_
      refine XS.ishr X1548.here hx rfl (hb hby at_105) rfl ?_
      refine XS.iconst X1548.here hx rfl (hb hby at_106) ?_
      refine XS.iand X1548.here hx rfl (hb hby at_107) rfl ?_
      exact kt)
    obtain ⟨s3, hs3⟩ : ∃ z : Int32, z = ((p2 >>> ((4 : Int32) &&& 31)) &&& (3 : Int32)) := ⟨_, rfl⟩
    have pre1580 : ∀ t, Steps p.tables e below (T1548.setTop (mkF m 108 (own_L_334 q1 p2 p3 q4 p5 df ex lk m2 m3 (.val (.int (1 : Int32))) (.val (.long q1)) .second .unset .unset .unset .unset .unset .unset .unset .unset .unset .unset) [(.int s3), (.long q1)])) t → Steps p.tables e below (s₁.setTop (entryFrame m #[(.long q1), (.int p2), (.int p3), (.long q4), (.int p5)] maxLocals)) t := by rw [hs3]; exact pre1579
    obtain ⟨_, _, ⟨T1581, L1581, k1581, n1581⟩, -, X1581, ⟨Lc1581, hQ1581, l1581, y1581, z1581⟩, st1581⟩ := Jvm.LawKit.callS X1548 hx (y := own_y_22) hown (mvT hZ (own_w hw 0 rfl)) (mvT hZ (own_w hw 1 rfl)) (mvT hZ (own_w hw 2 rfl)) (mvT hZ (own_w hw 3 rfl)) (by decide) (backOf (W := 0) (rmAft l Z a0 hw [] q1 s3 h0 n0 Z0) hZ (own_w hw 3 rfl) (own_w hw 2 rfl) (by decide) (by decide)) (g := (mkF m 108 (own_L_334 q1 p2 p3 q4 p5 df ex lk m2 m3 (.val (.int (1 : Int32))) (.val (.long q1)) .second .unset .unset .unset .unset .unset .unset .unset .unset .unset .unset) [(.int s3), (.long q1)])) rfl (by rw [hml]; rfl) (argsL := [(.long q1), (.int s3)]) (rest := []) (lenOf pd_333 rfl) rfl (by show 2 * 0 + _ ≤ _; exact Nat.le_of_eq rfl) (hb hby at_108) (fun _ _ => ⟨rfl, e1548, (by decide : 0 + 0 ≤ _), (by decide : 0 + 0 ≤ _)⟩)
    dsimp only [Pt.U, Pt.locs, Pt.cells, Pt.slots] at X1581 l1581 y1581 z1581 st1581 hQ1581
    subst l1581 y1581 z1581
    obtain ⟨rfl, Nq1581, e1581⟩ := hQ1581
    have N1581 := Fr.app N1548 Nq1581
    have pre1582 : ∀ t, Steps p.tables e below (T1581.setTop (mkF m 111 (own_L_334 q1 p2 p3 q4 p5 df ex lk m2 m3 (.val (.int (1 : Int32))) (.val (.long q1)) .second .unset .unset .unset .unset .unset .unset .unset .unset .unset .unset) [(.long (if (q1 + (s3.toInt64)) < q1 then q1 else (q1 + (s3.toInt64))))])) t → Steps p.tables e below (s₁.setTop (entryFrame m #[(.long q1), (.int p2), (.int p3), (.long q4), (.int p5)] maxLocals)) t := fun t kt => pre1580 t (by
      show Steps p.tables e below (T1548.setTop (mkF m 108 (own_L_334 q1 p2 p3 q4 p5 df ex lk m2 m3 (.val (.int (1 : Int32))) (.val (.long q1)) .second .unset .unset .unset .unset .unset .unset .unset .unset .unset .unset) [(.int s3), (.long q1)])) _
      refine st1581 _ ?_
      exact kt)
    obtain ⟨mx, hmx⟩ : ∃ z : Int64, z = (if (q1 + (s3.toInt64)) < q1 then q1 else (q1 + (s3.toInt64))) := ⟨_, rfl⟩
    have pre1583 : ∀ t, Steps p.tables e below (T1581.setTop (mkF m 111 (own_L_334 q1 p2 p3 q4 p5 df ex lk m2 m3 (.val (.int (1 : Int32))) (.val (.long q1)) .second .unset .unset .unset .unset .unset .unset .unset .unset .unset .unset) [(.long mx)])) t → Steps p.tables e below (s₁.setTop (entryFrame m #[(.long q1), (.int p2), (.int p3), (.long q4), (.int p5)] maxLocals)) t := by rw [hmx]; exact pre1582
    have hax : ¬ mx < q1 := own_aft q1 mx s3 hmx
    obtain ⟨T1584, h1584, X1584, e1584, E1584, A1584, D1584, -, st1584⟩ := newO X1581 hx hZ hown (own_w hw 4 rfl) (own_w hw 5 rfl) (own_w hw 6 rfl) e1581 (g := (mkF m 113 (own_L_334 q1 p2 p3 q4 p5 df ex lk m2 m3 (.val (.int (1 : Int32))) (.val (.long q1)) .second (.val (.long mx)) .second .unset .unset .unset .unset .unset .unset .unset .unset) [])) rfl (hb hby at_113) (by decide) (by decide)
    obtain ⟨b1584, g1584⟩ : ∃ z, z = h0.size := ⟨_, rfl⟩
    rw [← g1584] at A1584 D1584 st1584
    have G1584 : n0 ≤ b1584 := Nat.le_trans Z0 (Nat.le_of_eq g1584.symm)
    have F1585 : Fld Z h1584 b1584 "com/example/viral_counter/viralcounter/PostTrend" "minutes" "[J" .null := D1584 (Or.inl (own_w hw 15 rfl)) (ty := (.array .long)) (by decide)
    have F1586 : Fld Z h1584 b1584 "com/example/viral_counter/viralcounter/PostTrend" "counts" "[I" .null := D1584 (Or.inl (own_w hw 18 rfl)) (ty := (.array .int)) (by decide)
    have F1587 : Fld Z h1584 b1584 "com/example/viral_counter/viralcounter/PostTrend" "first" "I" (.int (0 : Int32)) := D1584 (Or.inl (own_w hw 25 rfl)) (ty := .int) (by decide)
    have F1588 : Fld Z h1584 b1584 "com/example/viral_counter/viralcounter/PostTrend" "end" "I" (.int (0 : Int32)) := D1584 (Or.inl (own_w hw 27 rfl)) (ty := .int) (by decide)
    have F1589 : Fld Z h1584 b1584 "com/example/viral_counter/viralcounter/PostTrend" "before" "I" (.int (0 : Int32)) := D1584 (Or.inl (own_w hw 34 rfl)) (ty := .int) (by decide)
    have z1590 : n0 ≤ h1584.size := Nat.le_trans Z0 E1584.1
    obtain ⟨_, _, ⟨T1591, L1591, k1591, n1591⟩, -, X1591, ⟨Lc1591, hQ1591, l1591, y1591, z1591⟩, st1591⟩ := X1584.specialBack hx (y := own_y_0) rfl hown (mvT hZ (own_w hw 7 rfl)) (mvT hZ (own_w hw 8 rfl)) (mvT hZ (own_w hw 9 rfl)) (by decide) (backOf (W := 1) (rmNew l Z a0 hw [] b1584 h1584 n0 z1590 A1584 F1585 F1586 F1587 F1588 F1589 G1584) hZ (own_w hw 9 rfl) (own_w hw 6 rfl) (by decide) (by decide)) (g := (mkF m 117 (own_L_334 q1 p2 p3 q4 p5 df ex lk m2 m3 (.val (.int (1 : Int32))) (.val (.long q1)) .second (.val (.long mx)) .second .unset .unset .unset .unset .unset .unset .unset .unset) [(.ref b1584), (.ref b1584)])) rfl (by rw [hml]; rfl) (Steps.refl _) (a := b1584) (argsL := []) (rest := [(.ref b1584)]) (lenOf pd_313 rfl) rfl (by show 2 * 0 + _ ≤ _; exact Nat.le_of_eq rfl) (hb hby at_117) (fun _ _ => ⟨rfl, e1584, (by decide : 1 + 2 ≤ _), (by decide : 6 + 4 ≤ _)⟩)
    dsimp only [Pt.U, Pt.locs, Pt.cells, Pt.slots] at X1591 l1591 y1591 z1591 st1591 hQ1591
    subst l1591 y1591 z1591
    obtain ⟨rfl, Nq1591, z1591, P1591⟩ := hQ1591
    have N1591 := Fr.app N1581 Nq1591
    have z1592 : n0 ≤ T1591.heap.size := Nat.le_trans z1590 z1591
    obtain ⟨cq1593, kq1593, q1593a, q1593b, q1593c⟩ := isOf hZ rfl (own_pt_exa P1591)
    obtain ⟨_, _, ⟨T1593, L1593, k1593, n1593⟩, -, X1593, ⟨Lc1593, hQ1593, l1593, y1593, z1593⟩, st1593⟩ := X1591.virtualBack hx (y := own_y_38) (z := own_y_38) hown (mvT hZ (own_w hw 19 rfl)) (mvT hZ (own_w hw 20 rfl)) (notFace_of_selects (args := #[]) (mvT hZ (own_w hw 22 rfl))) (mvT hZ (own_w hw 22 rfl)) (mvT hZ (own_w hw 21 rfl)) (by decide) (backOf (W := 0) (rmEmpT l Z a0 hw [] b1584 _ _ _ _ _ _ T1591.heap n0 z1592 P1591 (by decide)) hZ (own_w hw 23 rfl) (own_w hw 6 rfl) (by decide) (by decide)) q1593a q1593c (g := (mkF m 124 (own_L_334 q1 p2 p3 q4 p5 df ex lk m2 m3 (.val (.int (1 : Int32))) (.val (.long q1)) .second (.val (.long mx)) .second (.val (.ref b1584)) .unset .unset .unset .unset .unset .unset .unset) [(.ref b1584)])) rfl (by rw [hml]; rfl) (Steps.refl _) (argsL := []) (rest := []) (lenOf pd_48 rfl) rfl (by show 2 * 0 + _ ≤ _; exact Nat.le_of_eq rfl) (hb hby at_124) (fun _ _ => ⟨rfl, rfl, (by decide : 3 + 0 ≤ _), (by decide : 10 + 0 ≤ _)⟩)
    dsimp only [Pt.U, Pt.locs, Pt.cells, Pt.slots] at X1593 l1593 y1593 z1593 st1593 hQ1593
    subst l1593 y1593 z1593
    obtain ⟨rfl, Nq1593, e1593⟩ := hQ1593
    have N1593 := Fr.app N1591 Nq1593
    have pre1594 : ∀ t, Steps p.tables e below (T1593.setTop (mkF m 129 (own_L_334 q1 p2 p3 q4 p5 df ex lk m2 m3 (.val (.int (1 : Int32))) (.val (.long q1)) .second (.val (.long mx)) .second (.val (.ref b1584)) (.val (.int (1 : Int32))) .unset .unset .unset .unset .unset .unset) [])) t → Steps p.tables e below (s₁.setTop (entryFrame m #[(.long q1), (.int p2), (.int p3), (.long q4), (.int p5)] maxLocals)) t := fun t kt => pre1583 t (by
      show Steps p.tables e below (T1581.setTop (mkF m 111 (own_L_334 q1 p2 p3 q4 p5 df ex lk m2 m3 (.val (.int (1 : Int32))) (.val (.long q1)) .second .unset .unset .unset .unset .unset .unset .unset .unset .unset .unset) [(.long mx)])) _
      refine XS.lstore X1581.here hx rfl (hb hby at_111) rfl (l' := (own_L_334 q1 p2 p3 q4 p5 df ex lk m2 m3 (.val (.int (1 : Int32))) (.val (.long q1)) .second (.val (.long mx)) .second .unset .unset .unset .unset .unset .unset .unset .unset)) rfl ?_
      refine st1584 _ ?_
      refine XS.dup X1584.here hx rfl (hb hby at_116) rfl rfl ?_
      refine st1591.trans ?_
      refine XS.astore X1591.here hx rfl (hb hby at_120) rfl rfl (l' := (own_L_334 q1 p2 p3 q4 p5 df ex lk m2 m3 (.val (.int (1 : Int32))) (.val (.long q1)) .second (.val (.long mx)) .second (.val (.ref b1584)) .unset .unset .unset .unset .unset .unset .unset)) rfl ?_
      refine XS.aload X1591.here hx rfl (hb hby at_122) rfl rfl ?_
      refine st1593.trans ?_
      refine XS.istore X1593.here hx rfl (hb hby at_127) rfl (l' := (own_L_334 q1 p2 p3 q4 p5 df ex lk m2 m3 (.val (.int (1 : Int32))) (.val (.long q1)) .second (.val (.long mx)) .second (.val (.ref b1584)) (.val (.int (1 : Int32))) .unset .unset .unset .unset .unset .unset)) rfl ?_
      exact kt)
    obtain ⟨cq1595, kq1595, q1595a, q1595b, q1595c⟩ := isOf hZ e1593 (own_pt_exa P1591)
    obtain ⟨_, _, ⟨T1595, L1595, k1595, n1595⟩, -, X1595, ⟨Lc1595, hQ1595, l1595, y1595, z1595⟩, st1595⟩ := X1593.virtualBack hx (y := own_y_103) (z := own_y_103) hown (mvT hZ (own_w hw 28 rfl)) (mvT hZ (own_w hw 29 rfl)) (notFace_of_selects (args := #[]) (mvT hZ (own_w hw 31 rfl))) (mvT hZ (own_w hw 31 rfl)) (mvT hZ (own_w hw 30 rfl)) (by decide) (backOf (W := 0) (rmCnt002a l Z a0 hw [] b1584 q1 p3 lk (0 : Int64) (0 : Int64) (0 : Int32) (0 : Int32) (0 : Int32) T1591.heap n0 z1592 P1591) hZ (own_w hw 32 rfl) (own_w hw 6 rfl) (by decide) (by decide)) q1595a q1595c (g := (mkF m 142 (own_L_337 q1 p2 p3 q4 p5 df ex lk m2 m3 mx b1584 .unset) [(.int lk), (.int p3), (.long q1), (.ref b1584)])) rfl (by rw [hml]; rfl) (Steps.refl _) (argsL := [(.long q1), (.int p3), (.int lk)]) (rest := []) (lenOf pd_105 rfl) rfl (by show 2 * 0 + _ ≤ _; exact Nat.le_of_eq rfl) (hb hby at_142) (fun _ _ => ⟨rfl, e1593, (by decide : 3 + 0 ≤ _), (by decide : 10 + 0 ≤ _)⟩)
    dsimp only [Pt.U, Pt.locs, Pt.cells, Pt.slots] at X1595 l1595 y1595 z1595 st1595 hQ1595
    subst l1595 y1595 z1595
    obtain ⟨rfl, Nq1595, z1595, P1595⟩ := hQ1595
    have N1595 := Fr.app N1593 Nq1595
    have z1596 : n0 ≤ T1595.heap.size := Nat.le_trans z1592 z1595
    obtain ⟨cq1597, kq1597, q1597a, q1597b, q1597c⟩ := isOf hZ rfl (own_pt_exa P1595)
    obtain ⟨_, _, ⟨T1597, L1597, k1597, n1597⟩, -, X1597, ⟨Lc1597, hQ1597, l1597, y1597, z1597⟩, st1597⟩ := X1595.virtualBack hx (y := own_y_38) (z := own_y_38) hown (mvT hZ (own_w hw 19 rfl)) (mvT hZ (own_w hw 20 rfl)) (notFace_of_selects (args := #[]) (mvT hZ (own_w hw 22 rfl))) (mvT hZ (own_w hw 22 rfl)) (mvT hZ (own_w hw 21 rfl)) (by decide) (backOf (W := 0) (rmEmpF l Z a0 hw [] b1584 _ _ _ _ _ _ T1595.heap n0 z1596 P1595 (by decide)) hZ (own_w hw 23 rfl) (own_w hw 6 rfl) (by decide) (by decide)) q1597a q1597c (g := (mkF m 191 (own_L_337 q1 p2 p3 q4 p5 df ex lk m2 m3 mx b1584 .unset) [(.ref b1584)])) rfl (by rw [hml]; rfl) (Steps.refl _) (argsL := []) (rest := []) (lenOf pd_48 rfl) rfl (by show 2 * 0 + _ ≤ _; exact Nat.le_of_eq rfl) (hb hby at_191) (fun _ _ => ⟨rfl, rfl, (by decide : 3 + 0 ≤ _), (by decide : 10 + 0 ≤ _)⟩)
    dsimp only [Pt.U, Pt.locs, Pt.cells, Pt.slots] at X1597 l1597 y1597 z1597 st1597 hQ1597
    subst l1597 y1597 z1597
    obtain ⟨rfl, Nq1597, e1597⟩ := hQ1597
    have N1597 := Fr.app N1595 Nq1597
    have pre1598 : ∀ t, Steps p.tables e below (T1597.setTop (mkF m 196 #[.val (.long q1), .second, .val (.int p2), .val (.int p3), .val (.long q4), .second, .val (.int p5), .val (.int (1 : Int32)), .val (.int df), .val (.int ex), .val (.int lk), .val (.long q1), .second, .val (.long m2), .second, .val (.long m3), .second, .val (.long q1), .second, .val (.long mx), .second, .val (.ref b1584), .val (.int (1 : Int32)), .val (.int (0 : Int32)), .unset, .unset, .unset, .unset, .unset] [])) t → Steps p.tables e below (s₁.setTop (entryFrame m #[(.long q1), (.int p2), (.int p3), (.long q4), (.int p5)] maxLocals)) t := fun t kt => pre1594 t (by
      show Steps p.tables e below (T1593.setTop (mkF m 129 (own_L_337 q1 p2 p3 q4 p5 df ex lk m2 m3 mx b1584 .unset) [])) _
      refine XS.iload X1593.here hx rfl (hb hby at_129) rfl ?_
      refine XS.iconst X1593.here hx rfl (hb hby at_131) ?_
      refine XS.icmpNo X1593.here hx rfl (hb hby at_132) rfl (flt (by decide : ¬ ((1 : Int32) < (1 : Int32)))).1 ?_
      refine XS.aload X1593.here hx rfl (hb hby at_135) rfl rfl ?_
      refine XS.lload X1593.here hx rfl (hb hby at_137) rfl ?_
      refine XS.iloadN X1593.here hx rfl (hb hby at_139) rfl ?_
      refine XS.iload X1593.here hx rfl (hb hby at_140) rfl ?_
      refine st1595.trans ?_
      refine XS.iload X1595.here hx rfl (hb hby at_145) rfl ?_
      refine XS.iconst X1595.here hx rfl (hb hby at_147) ?_
      refine XS.icmpYes X1595.here hx rfl (pc0 := 148) (pc' := 171) rfl (hb hby at_148) rfl (tlt (by decide : (1 : Int32) < (2 : Int32))).1 (by decide) (by decide) ?_
      refine XS.iload X1595.here hx rfl (hb hby at_171) rfl ?_
      show Steps p.tables e below (T1595.setTop (mkF m 173 (own_L_337 q1 p2 p3 q4 p5 df ex lk m2 m3 mx b1584 .unset) [(.int (1 : Int32))])) _
      refine XS.iconst X1595.here hx rfl (hb hby at_173) ?_
      refine XS.icmpYes X1595.here hx rfl (pc0 := 174) (pc' := 189) rfl (hb hby at_174) rfl (tlt (by decide : (1 : Int32) < (3 : Int32))).1 (by decide) (by decide) ?_
      refine XS.aload X1595.here hx rfl (hb hby at_189) rfl rfl ?_
      refine st1597.trans ?_
      refine XS.istore X1597.here hx rfl (hb hby at_194) rfl (l' := (own_L_337 q1 p2 p3 q4 p5 df ex lk m2 m3 mx b1584 (.val (.int (0 : Int32))))) rfl ?_
      exact kt)
    obtain ⟨T1599, L1599, X1599, N1599, st1599⟩ := sg012 q1 p2 p3 q4 p5 (1 : Int32) df ex lk m2 m3 q1 mx b1584 (1 : Int32) (0 : Int32) q1 (0 : Int64) p3 (0 : Int32) (if lk = (0 : Int32) then (p3 + (1 : Int32)) else (p3 - (1 : Int32))) (own_more X1597 (by decide) (by decide)) hx hZ hw hby hml hown N1597 (by rw [e1597]; exact z1596) (by rw [e1597]; exact P1595) rfl
    have pre1600 : ∀ t, Steps p.tables e below (T1599.setTop (mkF m 237 #[.val (.long q1), .second, .val (.int p2), .val (.int p3), .val (.long q4), .second, .val (.int p5), .val (.int (1 : Int32)), .val (.int df), .val (.int ex), .val (.int lk), .val (.long q1), .second, .val (.long m2), .second, .val (.long m3), .second, .val (.long q1), .second, .val (.long mx), .second, .val (.ref b1584), .val (.int (1 : Int32)), .val (.int (0 : Int32)), .val (.int (if df = (0 : Int32) then (0 : Int32) else (if q1 < q4 then (1 : Int32) else (0 : Int32)))), .val (.int (if ex = (0 : Int32) then (if df = (0 : Int32) then (0 : Int32) else (if q1 < q4 then (1 : Int32) else (0 : Int32))) else (0 : Int32))), .unset, .unset, .unset] [])) t → Steps p.tables e below (s₁.setTop (entryFrame m #[(.long q1), (.int p2), (.int p3), (.long q4), (.int p5)] maxLocals)) t := fun t kt => pre1598 t (st1599 t kt)
    obtain ⟨e3v, he3v⟩ : ∃ z : Int32, z = (if ex = (0 : Int32) then (if df = (0 : Int32) then (0 : Int32) else (if q1 < q4 then (1 : Int32) else (0 : Int32))) else (0 : Int32)) := ⟨_, rfl⟩
    have pre1601 : ∀ t, Steps p.tables e below (T1599.setTop (mkF m 237 #[.val (.long q1), .second, .val (.int p2), .val (.int p3), .val (.long q4), .second, .val (.int p5), .val (.int (1 : Int32)), .val (.int df), .val (.int ex), .val (.int lk), .val (.long q1), .second, .val (.long m2), .second, .val (.long m3), .second, .val (.long q1), .second, .val (.long mx), .second, .val (.ref b1584), .val (.int (1 : Int32)), .val (.int (0 : Int32)), .val (.int (if df = (0 : Int32) then (0 : Int32) else (if q1 < q4 then (1 : Int32) else (0 : Int32)))), .val (.int e3v), .unset, .unset, .unset] [])) t → Steps p.tables e below (s₁.setTop (entryFrame m #[(.long q1), (.int p2), (.int p3), (.long q4), (.int p5)] maxLocals)) t := by rw [he3v]; exact pre1600
    obtain ⟨e2v, he2v⟩ : ∃ z : Int32, z = (if df = (0 : Int32) then (0 : Int32) else (if q1 < q4 then (1 : Int32) else (0 : Int32))) := ⟨_, rfl⟩
    have pre1602 : ∀ t, Steps p.tables e below (T1599.setTop (mkF m 237 #[.val (.long q1), .second, .val (.int p2), .val (.int p3), .val (.long q4), .second, .val (.int p5), .val (.int (1 : Int32)), .val (.int df), .val (.int ex), .val (.int lk), .val (.long q1), .second, .val (.long m2), .second, .val (.long m3), .second, .val (.long q1), .second, .val (.long mx), .second, .val (.ref b1584), .val (.int (1 : Int32)), .val (.int (0 : Int32)), .val (.int e2v), .val (.int e3v), .unset, .unset, .unset] [])) t → Steps p.tables e below (s₁.setTop (entryFrame m #[(.long q1), (.int p2), (.int p3), (.long q4), (.int p5)] maxLocals)) t := by rw [he2v]; exact pre1601
    have pre1603 : ∀ t, Steps p.tables e below (T1599.setTop (mkF m 256 (own_L_338 q1 p2 p3 q4 p5 df ex lk m2 m3 mx b1584 e2v e3v (.val (.int (0 : Int32))) .unset .unset) [(.int df)])) t → Steps p.tables e below (s₁.setTop (entryFrame m #[(.long q1), (.int p2), (.int p3), (.long q4), (.int p5)] maxLocals)) t := fun t kt => pre1602 t (by
      show Steps p.tables e below (T1599.setTop (mkF m 237 (own_L_338 q1 p2 p3 q4 p5 df ex lk m2 m3 mx b1584 e2v e3v .unset .unset .unset) [])) _
      refine XS.iload X1599.here hx rfl (hb hby at_237) rfl ?_
      refine XS.ifYes X1599.here hx rfl (pc0 := 239) (pc' := 246) rfl (hb hby at_239) rfl ((if0 _ _).trans (feq (by decide : ¬ ((1 : Int32) = (0 : Int32)))).2) (by decide) (by decide) ?_
      refine XS.iconst X1599.here hx rfl (hb hby at_246) ?_
      refine XS.istore X1599.here hx rfl (hb hby at_247) rfl (l' := (own_L_338 q1 p2 p3 q4 p5 df ex lk m2 m3 mx b1584 e2v e3v (.val (.int (0 : Int32))) .unset .unset)) rfl ?_
      refine XS.iload X1599.here hx rfl (hb hby at_249) rfl ?_
      refine XS.ifNo X1599.here hx rfl (hb hby at_251) rfl ((if0 _ _).trans (feq (by decide : ¬ ((1 : Int32) = (0 : Int32)))).1) ?_
      refine XS.iload X1599.here hx rfl (hb hby at_254) rfl ?_
      exact kt)
    obtain ⟨w2, hw2⟩ : ∃ z : Int32, z = (if df = (0 : Int32) then (0 : Int32) else (if q1 < q4 then (1 : Int32) else (0 : Int32))) := ⟨_, rfl⟩
    have pre1606 : ∀ t, Steps p.tables e below (T1599.setTop (mkF m 272 (own_L_338 q1 p2 p3 q4 p5 df ex lk m2 m3 mx b1584 e2v e3v (.val (.int (0 : Int32))) .unset .unset) [(.int w2)])) t → Steps p.tables e below (s₁.setTop (entryFrame m #[(.long q1), (.int p2), (.int p3), (.long q4), (.int p5)] maxLocals)) t := fun t kt => pre1603 t (by
      by_cases hc1604 : df = (0 : Int32)
      case pos =>
        show Steps p.tables e below (T1599.setTop (mkF m 256 (own_L_338 q1 p2 p3 q4 p5 df ex lk m2 m3 mx b1584 e2v e3v (.val (.int (0 : Int32))) .unset .unset) [(.int df)])) _
        refine XS.ifYes X1599.here hx rfl (pc0 := 256) (pc' := 271) rfl (hb hby at_256) rfl ((if0 _ _).trans (teq hc1604).1) (by decide) (by decide) ?_
        refine XS.iconst X1599.here hx rfl (hb hby at_271) ?_
        rw [show w2 = (0 : Int32) from (hw2.trans (if_pos hc1604))] at kt
        exact kt
      case neg =>
        show Steps p.tables e below (T1599.setTop (mkF m 256 (own_L_338 q1 p2 p3 q4 p5 df ex lk m2 m3 mx b1584 e2v e3v (.val (.int (0 : Int32))) .unset .unset) [(.int df)])) _
        refine XS.ifNo X1599.here hx rfl (hb hby at_256) rfl ((if0 _ _).trans (feq hc1604).1) ?_
        refine XS.lload X1599.here hx rfl (hb hby at_259) rfl ?_
        refine XS.lload X1599.here hx rfl (hb hby at_261) rfl ?_
        refine XS.lcmp X1599.here hx rfl (hb hby at_263) rfl ?_
        by_cases hc1605 : q1 < q4
        case pos =>
          show Steps p.tables e below (T1599.setTop (mkF m 264 (own_L_338 q1 p2 p3 q4 p5 df ex lk m2 m3 mx b1584 e2v e3v (.val (.int (0 : Int32))) .unset .unset) [(.int (lcmpW q1 q4))])) _
          refine XS.ifNo X1599.here hx rfl (hb hby at_264) rfl ((if0 _ _).trans (tlt ((lw_lt _ _).mpr hc1605)).2.1) ?_
          refine XS.iconst X1599.here hx rfl (hb hby at_267) ?_
          refine XS.goto X1599.here hx rfl (pc0 := 268) (pc' := 272) rfl (hb hby at_268) (by decide) (by decide) ?_
          rw [show w2 = (1 : Int32) from ((hw2.trans (if_neg hc1604)).trans (if_pos hc1605))] at kt
          exact kt
        case neg =>
          show Steps p.tables e below (T1599.setTop (mkF m 264 (own_L_338 q1 p2 p3 q4 p5 df ex lk m2 m3 mx b1584 e2v e3v (.val (.int (0 : Int32))) .unset .unset) [(.int (lcmpW q1 q4))])) _
          refine XS.ifYes X1599.here hx rfl (pc0 := 264) (pc' := 271) rfl (hb hby at_264) rfl ((if0 _ _).trans (flt (fun q => hc1605 ((lw_lt _ _).mp q))).2.1) (by decide) (by decide) ?_
          refine XS.iconst X1599.here hx rfl (hb hby at_271) ?_
          rw [show w2 = (0 : Int32) from ((hw2.trans (if_neg hc1604)).trans (if_neg hc1605))] at kt
          exact kt)
    have k2 : e2v = w2 := he2v.trans hw2.symm
    have pre1607 : ∀ t, Steps p.tables e below (T1599.setTop (mkF m 276 (own_L_338 q1 p2 p3 q4 p5 df ex lk m2 m3 mx b1584 e2v e3v (.val (.int (0 : Int32))) (.val (.int w2)) .unset) [(.int ex)])) t → Steps p.tables e below (s₁.setTop (entryFrame m #[(.long q1), (.int p2), (.int p3), (.long q4), (.int p5)] maxLocals)) t := fun t kt => pre1606 t (by
      show Steps p.tables e below (T1599.setTop (mkF m 272 (own_L_338 q1 p2 p3 q4 p5 df ex lk m2 m3 mx b1584 e2v e3v (.val (.int (0 : Int32))) .unset .unset) [(.int w2)])) _
      refine XS.istore X1599.here hx rfl (hb hby at_272) rfl (l' := (own_L_338 q1 p2 p3 q4 p5 df ex lk m2 m3 mx b1584 e2v e3v (.val (.int (0 : Int32))) (.val (.int w2)) .unset)) rfl ?_
      refine XS.iload X1599.here hx rfl (hb hby at_274) rfl ?_
      exact kt)
    obtain ⟨w3, hw3⟩ : ∃ z : Int32, z = (if ex = (0 : Int32) then w2 else (0 : Int32)) := ⟨_, rfl⟩
    have pre1609 : ∀ t, Steps p.tables e below (T1599.setTop (mkF m 285 (own_L_338 q1 p2 p3 q4 p5 df ex lk m2 m3 mx b1584 e2v e3v (.val (.int (0 : Int32))) (.val (.int w2)) .unset) [(.int w3)])) t → Steps p.tables e below (s₁.setTop (entryFrame m #[(.long q1), (.int p2), (.int p3), (.long q4), (.int p5)] maxLocals)) t := fun t kt => pre1607 t (by
      by_cases hc1608 : ex = (0 : Int32)
      case pos =>
        show Steps p.tables e below (T1599.setTop (mkF m 276 (own_L_338 q1 p2 p3 q4 p5 df ex lk m2 m3 mx b1584 e2v e3v (.val (.int (0 : Int32))) (.val (.int w2)) .unset) [(.int ex)])) _
        refine XS.ifYes X1599.here hx rfl (pc0 := 276) (pc' := 283) rfl (hb hby at_276) rfl ((if0 _ _).trans (teq hc1608).1) (by decide) (by decide) ?_
        refine XS.iload X1599.here hx rfl (hb hby at_283) rfl ?_
        rw [show w3 = w2 from (hw3.trans (if_pos hc1608))] at kt
        exact kt
      case neg =>
        show Steps p.tables e below (T1599.setTop (mkF m 276 (own_L_338 q1 p2 p3 q4 p5 df ex lk m2 m3 mx b1584 e2v e3v (.val (.int (0 : Int32))) (.val (.int w2)) .unset) [(.int ex)])) _
        refine XS.ifNo X1599.here hx rfl (hb hby at_276) rfl ((if0 _ _).trans (feq hc1608).1) ?_
        refine XS.iconst X1599.here hx rfl (hb hby at_279) ?_
        refine XS.goto X1599.here hx rfl (pc0 := 280) (pc' := 285) rfl (hb hby at_280) (by decide) (by decide) ?_
        rw [show w3 = (0 : Int32) from (hw3.trans (if_neg hc1608))] at kt
        exact kt)
    have k3 : e3v = w3 := by rw [he3v, hw3, hw2]
    have pre1610 : ∀ t, Steps p.tables e below (T1599.setTop (mkF m 318 (own_L_338 q1 p2 p3 q4 p5 df ex lk m2 m3 mx b1584 e2v e3v (.val (.int (0 : Int32))) (.val (.int w2)) (.val (.int w3))) [(.int (1 : Int32))])) t → Steps p.tables e below (s₁.setTop (entryFrame m #[(.long q1), (.int p2), (.int p3), (.long q4), (.int p5)] maxLocals)) t := fun t kt => pre1609 t (by
      show Steps p.tables e below (T1599.setTop (mkF m 285 (own_L_338 q1 p2 p3 q4 p5 df ex lk m2 m3 mx b1584 e2v e3v (.val (.int (0 : Int32))) (.val (.int w2)) .unset) [(.int w3)])) _
      refine XS.istore X1599.here hx rfl (hb hby at_285) rfl (l' := (own_L_338 q1 p2 p3 q4 p5 df ex lk m2 m3 mx b1584 e2v e3v (.val (.int (0 : Int32))) (.val (.int w2)) (.val (.int w3)))) rfl ?_
      refine XS.iload X1599.here hx rfl (hb hby at_287) rfl ?_
      refine XS.ifNo X1599.here hx rfl (hb hby at_289) rfl ((if0 _ _).trans (feq (by decide : ¬ ((1 : Int32) = (0 : Int32)))).1) ?_
      refine XS.iload X1599.here hx rfl (hb hby at_292) rfl ?_
      refine XS.iload X1599.here hx rfl (hb hby at_294) rfl ?_
      refine XS.icmpNo X1599.here hx rfl (hb hby at_296) rfl (teq (by decide : (0 : Int32) = (0 : Int32))).2 ?_
      refine XS.iload X1599.here hx rfl (hb hby at_299) rfl ?_
      refine XS.iload X1599.here hx rfl (hb hby at_301) rfl ?_
      refine XS.icmpNo X1599.here hx rfl (hb hby at_303) rfl (teq k2).2 ?_
      refine XS.iload X1599.here hx rfl (hb hby at_306) rfl ?_
      refine XS.iload X1599.here hx rfl (hb hby at_308) rfl ?_
      refine XS.icmpNo X1599.here hx rfl (hb hby at_310) rfl (teq k3).2 ?_
      show Steps p.tables e below (T1599.setTop (mkF m 313 (own_L_338 q1 p2 p3 q4 p5 df ex lk m2 m3 mx b1584 e2v e3v (.val (.int (0 : Int32))) (.val (.int w2)) (.val (.int w3))) [])) _
      refine XS.iconst X1599.here hx rfl (hb hby at_313) ?_
      refine XS.goto X1599.here hx rfl (pc0 := 314) (pc' := 318) rfl (hb hby at_314) (by decide) (by decide) ?_
      exact kt)
    exact own_retN X1599 hx Bd.notSynchronized (t := .boolean) Bd.returns (by simp) (hb hby at_318) pre1610 (show Q0 h0 n0 _ _ _ from ⟨rfl, N1599⟩) (by decide) (by decide)
  · have pre1611 : ∀ t, Steps p.tables e below (T1548.setTop (mkF m 75 (own_L_334 q1 p2 p3 q4 p5 df ex lk m2 m3 (.val (.int (2 : Int32))) .unset .unset .unset .unset .unset .unset .unset .unset .unset .unset .unset .unset) [])) t → Steps p.tables e below (s₁.setTop (entryFrame m #[(.long q1), (.int p2), (.int p3), (.long q4), (.int p5)] maxLocals)) t := by have q := pre1551; rw [hk] at q; exact q
    have pre1612 : ∀ t, Steps p.tables e below (T1548.setTop (mkF m 108 (own_L_334 q1 p2 p3 q4 p5 df ex lk m2 m3 (.val (.int (2 : Int32))) (.val (.long m2)) .second .unset .unset .unset .unset .unset .unset .unset .unset .unset .unset) [(.int ((p2 >>> ((4 : Int32) &&& 31)) &&& (3 : Int32))), (.long m2)])) t → Steps p.tables e below (s₁.setTop (entryFrame m #[(.long q1), (.int p2), (.int p3), (.long q4), (.int p5)] maxLocals)) t := fun t kt => pre1611 t (by
      show Steps p.tables e below (T1548.setTop (mkF m 75 (own_L_334 q1 p2 p3 q4 p5 df ex lk m2 m3 (.val (.int (2 : Int32))) .unset .unset .unset .unset .unset .unset .unset .unset .unset .unset .unset .unset) [])) _
      refine XS.iload X1548.here hx rfl (hb hby at_75) rfl ?_
      refine XS.iconst X1548.here hx rfl (hb hby at_77) ?_
      refine XS.icmpYes X1548.here hx rfl (pc0 := 78) (pc' := 86) rfl (hb hby at_78) rfl (feq (by decide : ¬ ((2 : Int32) = (1 : Int32)))).2 (by decide) (by decide) ?_
      refine XS.iload X1548.here hx rfl (hb hby at_86) rfl ?_
      refine XS.iconst X1548.here hx rfl (hb hby at_88) ?_
      refine XS.icmpNo X1548.here hx rfl (hb hby at_89) rfl (teq (by decide : (2 : Int32) = (2 : Int32))).2 ?_
      refine XS.lload X1548.here hx rfl (hb hby at_92) rfl ?_
      refine XS.goto X1548.here hx rfl (pc0 := 94) (pc' := 99) rfl (hb hby at_94) (by decide) (by decide) ?_
      refine XS.lstore X1548.here hx rfl (hb hby at_99) rfl (l' := (own_L_334 q1 p2 p3 q4 p5 df ex lk m2 m3 (.val (.int (2 : Int32))) (.val (.long m2)) .second .unset .unset .unset .unset .unset .unset .unset .unset .unset .unset)) rfl ?_
      refine XS.lload X1548.here hx rfl (hb hby at_101) rfl ?_
      refine XS.iloadN X1548.here hx rfl (hb hby at_103) rfl ?_
      refine XS.iconst X1548.here hx rfl (hb hby at_104) ?_
      show Steps p.tables e below (T1548.setTop (mkF m 105 (own_L_334 q1 p2 p3 q4 p5 df ex lk m2 m3 (.val (.int (2 : Int32))) (.val (.long m2)) .second .unset .unset .unset .unset .unset .unset .unset .unset .unset .unset) [(.int (4 : Int32)), (.int p2), (.long m2)])) _
      refine XS.ishr X1548.here hx rfl (hb hby at_105) rfl ?_
      refine XS.iconst X1548.here hx rfl (hb hby at_106) ?_
      refine XS.iand X1548.here hx rfl (hb hby at_107) rfl ?_
      exact kt)
    obtain ⟨s3, hs3⟩ : ∃ z : Int32, z = ((p2 >>> ((4 : Int32) &&& 31)) &&& (3 : Int32)) := ⟨_, rfl⟩
    have pre1613 : ∀ t, Steps p.tables e below (T1548.setTop (mkF m 108 (own_L_334 q1 p2 p3 q4 p5 df ex lk m2 m3 (.val (.int (2 : Int32))) (.val (.long m2)) .second .unset .unset .unset .unset .unset .unset .unset .unset .unset .unset) [(.int s3), (.long m2)])) t → Steps p.tables e below (s₁.setTop (entryFrame m #[(.long q1), (.int p2), (.int p3), (.long q4), (.int p5)] maxLocals)) t := by rw [hs3]; exact pre1612
    obtain ⟨_, _, ⟨T1614, L1614, k1614, n1614⟩, -, X1614, ⟨Lc1614, hQ1614, l1614, y1614, z1614⟩, st1614⟩ := Jvm.LawKit.callS X1548 hx (y := own_y_22) hown (mvT hZ (own_w hw 0 rfl)) (mvT hZ (own_w hw 1 rfl)) (mvT hZ (own_w hw 2 rfl)) (mvT hZ (own_w hw 3 rfl)) (by decide) (backOf (W := 0) (rmAft l Z a0 hw [] m2 s3 h0 n0 Z0) hZ (own_w hw 3 rfl) (own_w hw 2 rfl) (by decide) (by decide)) (g := (mkF m 108 (own_L_334 q1 p2 p3 q4 p5 df ex lk m2 m3 (.val (.int (2 : Int32))) (.val (.long m2)) .second .unset .unset .unset .unset .unset .unset .unset .unset .unset .unset) [(.int s3), (.long m2)])) rfl (by rw [hml]; rfl) (argsL := [(.long m2), (.int s3)]) (rest := []) (lenOf pd_333 rfl) rfl (by show 2 * 0 + _ ≤ _; exact Nat.le_of_eq rfl) (hb hby at_108) (fun _ _ => ⟨rfl, e1548, (by decide : 0 + 0 ≤ _), (by decide : 0 + 0 ≤ _)⟩)
    dsimp only [Pt.U, Pt.locs, Pt.cells, Pt.slots] at X1614 l1614 y1614 z1614 st1614 hQ1614
    subst l1614 y1614 z1614
    obtain ⟨rfl, Nq1614, e1614⟩ := hQ1614
    have N1614 := Fr.app N1548 Nq1614
    have pre1615 : ∀ t, Steps p.tables e below (T1614.setTop (mkF m 111 (own_L_334 q1 p2 p3 q4 p5 df ex lk m2 m3 (.val (.int (2 : Int32))) (.val (.long m2)) .second .unset .unset .unset .unset .unset .unset .unset .unset .unset .unset) [(.long (if (m2 + (s3.toInt64)) < m2 then m2 else (m2 + (s3.toInt64))))])) t → Steps p.tables e below (s₁.setTop (entryFrame m #[(.long q1), (.int p2), (.int p3), (.long q4), (.int p5)] maxLocals)) t := fun t kt => pre1613 t (by
      show Steps p.tables e below (T1548.setTop (mkF m 108 (own_L_334 q1 p2 p3 q4 p5 df ex lk m2 m3 (.val (.int (2 : Int32))) (.val (.long m2)) .second .unset .unset .unset .unset .unset .unset .unset .unset .unset .unset) [(.int s3), (.long m2)])) _
      refine st1614 _ ?_
      exact kt)
    obtain ⟨mx, hmx⟩ : ∃ z : Int64, z = (if (m2 + (s3.toInt64)) < m2 then m2 else (m2 + (s3.toInt64))) := ⟨_, rfl⟩
    have pre1616 : ∀ t, Steps p.tables e below (T1614.setTop (mkF m 111 (own_L_334 q1 p2 p3 q4 p5 df ex lk m2 m3 (.val (.int (2 : Int32))) (.val (.long m2)) .second .unset .unset .unset .unset .unset .unset .unset .unset .unset .unset) [(.long mx)])) t → Steps p.tables e below (s₁.setTop (entryFrame m #[(.long q1), (.int p2), (.int p3), (.long q4), (.int p5)] maxLocals)) t := by rw [hmx]; exact pre1615
    have hax : ¬ mx < m2 := own_aft m2 mx s3 hmx
    obtain ⟨T1617, h1617, X1617, e1617, E1617, A1617, D1617, -, st1617⟩ := newO X1614 hx hZ hown (own_w hw 4 rfl) (own_w hw 5 rfl) (own_w hw 6 rfl) e1614 (g := (mkF m 113 (own_L_334 q1 p2 p3 q4 p5 df ex lk m2 m3 (.val (.int (2 : Int32))) (.val (.long m2)) .second (.val (.long mx)) .second .unset .unset .unset .unset .unset .unset .unset .unset) [])) rfl (hb hby at_113) (by decide) (by decide)
    obtain ⟨b1617, g1617⟩ : ∃ z, z = h0.size := ⟨_, rfl⟩
    rw [← g1617] at A1617 D1617 st1617
    have G1617 : n0 ≤ b1617 := Nat.le_trans Z0 (Nat.le_of_eq g1617.symm)
    have F1618 : Fld Z h1617 b1617 "com/example/viral_counter/viralcounter/PostTrend" "minutes" "[J" .null := D1617 (Or.inl (own_w hw 15 rfl)) (ty := (.array .long)) (by decide)
    have F1619 : Fld Z h1617 b1617 "com/example/viral_counter/viralcounter/PostTrend" "counts" "[I" .null := D1617 (Or.inl (own_w hw 18 rfl)) (ty := (.array .int)) (by decide)
    have F1620 : Fld Z h1617 b1617 "com/example/viral_counter/viralcounter/PostTrend" "first" "I" (.int (0 : Int32)) := D1617 (Or.inl (own_w hw 25 rfl)) (ty := .int) (by decide)
    have F1621 : Fld Z h1617 b1617 "com/example/viral_counter/viralcounter/PostTrend" "end" "I" (.int (0 : Int32)) := D1617 (Or.inl (own_w hw 27 rfl)) (ty := .int) (by decide)
    have F1622 : Fld Z h1617 b1617 "com/example/viral_counter/viralcounter/PostTrend" "before" "I" (.int (0 : Int32)) := D1617 (Or.inl (own_w hw 34 rfl)) (ty := .int) (by decide)
    have z1623 : n0 ≤ h1617.size := Nat.le_trans Z0 E1617.1
    obtain ⟨_, _, ⟨T1624, L1624, k1624, n1624⟩, -, X1624, ⟨Lc1624, hQ1624, l1624, y1624, z1624⟩, st1624⟩ := X1617.specialBack hx (y := own_y_0) rfl hown (mvT hZ (own_w hw 7 rfl)) (mvT hZ (own_w hw 8 rfl)) (mvT hZ (own_w hw 9 rfl)) (by decide) (backOf (W := 1) (rmNew l Z a0 hw [] b1617 h1617 n0 z1623 A1617 F1618 F1619 F1620 F1621 F1622 G1617) hZ (own_w hw 9 rfl) (own_w hw 6 rfl) (by decide) (by decide)) (g := (mkF m 117 (own_L_334 q1 p2 p3 q4 p5 df ex lk m2 m3 (.val (.int (2 : Int32))) (.val (.long m2)) .second (.val (.long mx)) .second .unset .unset .unset .unset .unset .unset .unset .unset) [(.ref b1617), (.ref b1617)])) rfl (by rw [hml]; rfl) (Steps.refl _) (a := b1617) (argsL := []) (rest := [(.ref b1617)]) (lenOf pd_313 rfl) rfl (by show 2 * 0 + _ ≤ _; exact Nat.le_of_eq rfl) (hb hby at_117) (fun _ _ => ⟨rfl, e1617, (by decide : 1 + 2 ≤ _), (by decide : 6 + 4 ≤ _)⟩)
    dsimp only [Pt.U, Pt.locs, Pt.cells, Pt.slots] at X1624 l1624 y1624 z1624 st1624 hQ1624
    subst l1624 y1624 z1624
    obtain ⟨rfl, Nq1624, z1624, P1624⟩ := hQ1624
    have N1624 := Fr.app N1614 Nq1624
    have z1625 : n0 ≤ T1624.heap.size := Nat.le_trans z1623 z1624
    obtain ⟨cq1626, kq1626, q1626a, q1626b, q1626c⟩ := isOf hZ rfl (own_pt_exa P1624)
    obtain ⟨_, _, ⟨T1626, L1626, k1626, n1626⟩, -, X1626, ⟨Lc1626, hQ1626, l1626, y1626, z1626⟩, st1626⟩ := X1624.virtualBack hx (y := own_y_38) (z := own_y_38) hown (mvT hZ (own_w hw 19 rfl)) (mvT hZ (own_w hw 20 rfl)) (notFace_of_selects (args := #[]) (mvT hZ (own_w hw 22 rfl))) (mvT hZ (own_w hw 22 rfl)) (mvT hZ (own_w hw 21 rfl)) (by decide) (backOf (W := 0) (rmEmpT l Z a0 hw [] b1617 _ _ _ _ _ _ T1624.heap n0 z1625 P1624 (by decide)) hZ (own_w hw 23 rfl) (own_w hw 6 rfl) (by decide) (by decide)) q1626a q1626c (g := (mkF m 124 (own_L_334 q1 p2 p3 q4 p5 df ex lk m2 m3 (.val (.int (2 : Int32))) (.val (.long m2)) .second (.val (.long mx)) .second (.val (.ref b1617)) .unset .unset .unset .unset .unset .unset .unset) [(.ref b1617)])) rfl (by rw [hml]; rfl) (Steps.refl _) (argsL := []) (rest := []) (lenOf pd_48 rfl) rfl (by show 2 * 0 + _ ≤ _; exact Nat.le_of_eq rfl) (hb hby at_124) (fun _ _ => ⟨rfl, rfl, (by decide : 3 + 0 ≤ _), (by decide : 10 + 0 ≤ _)⟩)
    dsimp only [Pt.U, Pt.locs, Pt.cells, Pt.slots] at X1626 l1626 y1626 z1626 st1626 hQ1626
    subst l1626 y1626 z1626
    obtain ⟨rfl, Nq1626, e1626⟩ := hQ1626
    have N1626 := Fr.app N1624 Nq1626
    have pre1627 : ∀ t, Steps p.tables e below (T1626.setTop (mkF m 129 (own_L_334 q1 p2 p3 q4 p5 df ex lk m2 m3 (.val (.int (2 : Int32))) (.val (.long m2)) .second (.val (.long mx)) .second (.val (.ref b1617)) (.val (.int (1 : Int32))) .unset .unset .unset .unset .unset .unset) [])) t → Steps p.tables e below (s₁.setTop (entryFrame m #[(.long q1), (.int p2), (.int p3), (.long q4), (.int p5)] maxLocals)) t := fun t kt => pre1616 t (by
      show Steps p.tables e below (T1614.setTop (mkF m 111 (own_L_334 q1 p2 p3 q4 p5 df ex lk m2 m3 (.val (.int (2 : Int32))) (.val (.long m2)) .second .unset .unset .unset .unset .unset .unset .unset .unset .unset .unset) [(.long mx)])) _
      refine XS.lstore X1614.here hx rfl (hb hby at_111) rfl (l' := (own_L_334 q1 p2 p3 q4 p5 df ex lk m2 m3 (.val (.int (2 : Int32))) (.val (.long m2)) .second (.val (.long mx)) .second .unset .unset .unset .unset .unset .unset .unset .unset)) rfl ?_
      refine st1617 _ ?_
      refine XS.dup X1617.here hx rfl (hb hby at_116) rfl rfl ?_
      refine st1624.trans ?_
      refine XS.astore X1624.here hx rfl (hb hby at_120) rfl rfl (l' := (own_L_334 q1 p2 p3 q4 p5 df ex lk m2 m3 (.val (.int (2 : Int32))) (.val (.long m2)) .second (.val (.long mx)) .second (.val (.ref b1617)) .unset .unset .unset .unset .unset .unset .unset)) rfl ?_
      refine XS.aload X1624.here hx rfl (hb hby at_122) rfl rfl ?_
      refine st1626.trans ?_
      refine XS.istore X1626.here hx rfl (hb hby at_127) rfl (l' := (own_L_334 q1 p2 p3 q4 p5 df ex lk m2 m3 (.val (.int (2 : Int32))) (.val (.long m2)) .second (.val (.long mx)) .second (.val (.ref b1617)) (.val (.int (1 : Int32))) .unset .unset .unset .unset .unset .unset)) rfl ?_
      exact kt)
    obtain ⟨cq1628, kq1628, q1628a, q1628b, q1628c⟩ := isOf hZ e1626 (own_pt_exa P1624)
    obtain ⟨_, _, ⟨T1628, L1628, k1628, n1628⟩, -, X1628, ⟨Lc1628, hQ1628, l1628, y1628, z1628⟩, st1628⟩ := X1626.virtualBack hx (y := own_y_103) (z := own_y_103) hown (mvT hZ (own_w hw 28 rfl)) (mvT hZ (own_w hw 29 rfl)) (notFace_of_selects (args := #[]) (mvT hZ (own_w hw 31 rfl))) (mvT hZ (own_w hw 31 rfl)) (mvT hZ (own_w hw 30 rfl)) (by decide) (backOf (W := 0) (rmCnt002a l Z a0 hw [] b1617 q1 p3 lk (0 : Int64) (0 : Int64) (0 : Int32) (0 : Int32) (0 : Int32) T1624.heap n0 z1625 P1624) hZ (own_w hw 32 rfl) (own_w hw 6 rfl) (by decide) (by decide)) q1628a q1628c (g := (mkF m 142 (own_L_339 q1 p2 p3 q4 p5 df ex lk m2 m3 mx b1617 .unset) [(.int lk), (.int p3), (.long q1), (.ref b1617)])) rfl (by rw [hml]; rfl) (Steps.refl _) (argsL := [(.long q1), (.int p3), (.int lk)]) (rest := []) (lenOf pd_105 rfl) rfl (by show 2 * 0 + _ ≤ _; exact Nat.le_of_eq rfl) (hb hby at_142) (fun _ _ => ⟨rfl, e1626, (by decide : 3 + 0 ≤ _), (by decide : 10 + 0 ≤ _)⟩)
    dsimp only [Pt.U, Pt.locs, Pt.cells, Pt.slots] at X1628 l1628 y1628 z1628 st1628 hQ1628
    subst l1628 y1628 z1628
    obtain ⟨rfl, Nq1628, z1628, P1628⟩ := hQ1628
    have N1628 := Fr.app N1626 Nq1628
    have z1629 : n0 ≤ T1628.heap.size := Nat.le_trans z1625 z1628
    have pre1631 : ∀ t, Steps p.tables e below (T1628.setTop (mkF m 160 (own_L_339 q1 p2 p3 q4 p5 df ex lk m2 m3 mx b1617 .unset) [(.int lk), (.int (p3 + (1 : Int32))), (.long m2), (.ref b1617)])) t → Steps p.tables e below (s₁.setTop (entryFrame m #[(.long q1), (.int p2), (.int p3), (.long q4), (.int p5)] maxLocals)) t := fun t kt => pre1627 t (by
      show Steps p.tables e below (T1626.setTop (mkF m 129 (own_L_339 q1 p2 p3 q4 p5 df ex lk m2 m3 mx b1617 .unset) [])) _
      refine XS.iload X1626.here hx rfl (hb hby at_129) rfl ?_
      refine XS.iconst X1626.here hx rfl (hb hby at_131) ?_
      refine XS.icmpNo X1626.here hx rfl (hb hby at_132) rfl (flt (by decide : ¬ ((2 : Int32) < (1 : Int32)))).1 ?_
      refine XS.aload X1626.here hx rfl (hb hby at_135) rfl rfl ?_
      refine XS.lload X1626.here hx rfl (hb hby at_137) rfl ?_
      refine XS.iloadN X1626.here hx rfl (hb hby at_139) rfl ?_
      refine XS.iload X1626.here hx rfl (hb hby at_140) rfl ?_
      refine st1628.trans ?_
      refine XS.iload X1628.here hx rfl (hb hby at_145) rfl ?_
      refine XS.iconst X1628.here hx rfl (hb hby at_147) ?_
      refine XS.icmpNo X1628.here hx rfl (hb hby at_148) rfl (flt (by decide : ¬ ((2 : Int32) < (2 : Int32)))).1 ?_
      refine XS.aload X1628.here hx rfl (hb hby at_151) rfl rfl ?_
      show Steps p.tables e below (T1628.setTop (mkF m 153 (own_L_339 q1 p2 p3 q4 p5 df ex lk m2 m3 mx b1617 .unset) [(.ref b1617)])) _
      refine XS.lload X1628.here hx rfl (hb hby at_153) rfl ?_
      refine XS.iloadN X1628.here hx rfl (hb hby at_155) rfl ?_
      refine XS.iconst X1628.here hx rfl (hb hby at_156) ?_
      refine XS.iadd X1628.here hx rfl (hb hby at_157) rfl ?_
      refine XS.iload X1628.here hx rfl (hb hby at_158) rfl ?_
      exact kt)
    obtain ⟨lk1630, hlk1630⟩ : ∃ z : Int32, z = (if lk = (0 : Int32) then (1 : Int32) else (0 : Int32)) := ⟨_, rfl⟩
    have pre1633 : ∀ t, Steps p.tables e below (T1628.setTop (mkF m 168 (own_L_339 q1 p2 p3 q4 p5 df ex lk m2 m3 mx b1617 .unset) [(.int lk1630), (.int (p3 + (1 : Int32))), (.long m2), (.ref b1617)])) t → Steps p.tables e below (s₁.setTop (entryFrame m #[(.long q1), (.int p2), (.int p3), (.long q4), (.int p5)] maxLocals)) t := fun t kt => pre1631 t (by
      by_cases hc1632 : lk = (0 : Int32)
      case pos =>
        show Steps p.tables e below (T1628.setTop (mkF m 160 (own_L_339 q1 p2 p3 q4 p5 df ex lk m2 m3 mx b1617 .unset) [(.int lk), (.int (p3 + (1 : Int32))), (.long m2), (.ref b1617)])) _
        refine XS.ifNo X1628.here hx rfl (hb hby at_160) rfl ((if0 _ _).trans (teq hc1632).2) ?_
        refine XS.iconst X1628.here hx rfl (hb hby at_163) ?_
        refine XS.goto X1628.here hx rfl (pc0 := 164) (pc' := 168) rfl (hb hby at_164) (by decide) (by decide) ?_
        rw [show lk1630 = (1 : Int32) from (hlk1630.trans (if_pos hc1632))] at kt
        exact kt
      case neg =>
        show Steps p.tables e below (T1628.setTop (mkF m 160 (own_L_339 q1 p2 p3 q4 p5 df ex lk m2 m3 mx b1617 .unset) [(.int lk), (.int (p3 + (1 : Int32))), (.long m2), (.ref b1617)])) _
        refine XS.ifYes X1628.here hx rfl (pc0 := 160) (pc' := 167) rfl (hb hby at_160) rfl ((if0 _ _).trans (feq hc1632).2) (by decide) (by decide) ?_
        refine XS.iconst X1628.here hx rfl (hb hby at_167) ?_
        rw [show lk1630 = (0 : Int32) from (hlk1630.trans (if_neg hc1632))] at kt
        exact kt)
    by_cases hc1634 : q1 < m2
    case pos =>
      obtain ⟨cq1635, kq1635, q1635a, q1635b, q1635c⟩ := isOf hZ rfl (own_pt_exa P1628)
      obtain ⟨_, _, ⟨T1635, L1635, k1635, n1635⟩, -, X1635, ⟨Lc1635, hQ1635, l1635, y1635, z1635⟩, st1635⟩ := X1628.virtualBack hx (y := own_y_103) (z := own_y_103) hown (mvT hZ (own_w hw 28 rfl)) (mvT hZ (own_w hw 29 rfl)) (notFace_of_selects (args := #[]) (mvT hZ (own_w hw 31 rfl))) (mvT hZ (own_w hw 31 rfl)) (mvT hZ (own_w hw 30 rfl)) (by decide) (backOf (W := 0) (rmCnt012a l Z a0 hw [] b1617 m2 (p3 + (1 : Int32)) lk1630 q1 (0 : Int64) p3 (0 : Int32) (if lk = (0 : Int32) then (p3 + (1 : Int32)) else (p3 - (1 : Int32))) T1628.heap n0 z1629 P1628 hc1634) hZ (own_w hw 32 rfl) (own_w hw 6 rfl) (by decide) (by decide)) q1635a q1635c (g := (mkF m 168 (own_L_339 q1 p2 p3 q4 p5 df ex lk m2 m3 mx b1617 .unset) [(.int lk1630), (.int (p3 + (1 : Int32))), (.long m2), (.ref b1617)])) rfl (by rw [hml]; rfl) (Steps.refl _) (argsL := [(.long m2), (.int (p3 + (1 : Int32))), (.int lk1630)]) (rest := []) (lenOf pd_105 rfl) rfl (by show 2 * 0 + _ ≤ _; exact Nat.le_of_eq rfl) (hb hby at_168) (fun _ _ => ⟨rfl, rfl, (by decide : 3 + 0 ≤ _), (by decide : 10 + 0 ≤ _)⟩)
      dsimp only [Pt.U, Pt.locs, Pt.cells, Pt.slots] at X1635 l1635 y1635 z1635 st1635 hQ1635
      subst l1635 y1635 z1635
      obtain ⟨rfl, Nq1635, z1635, P1635⟩ := hQ1635
      have N1635 := Fr.app N1628 Nq1635
      have z1636 : n0 ≤ T1635.heap.size := Nat.le_trans z1629 z1635
      obtain ⟨cq1637, kq1637, q1637a, q1637b, q1637c⟩ := isOf hZ rfl (own_pt_exa P1635)
      obtain ⟨_, _, ⟨T1637, L1637, k1637, n1637⟩, -, X1637, ⟨Lc1637, hQ1637, l1637, y1637, z1637⟩, st1637⟩ := X1635.virtualBack hx (y := own_y_38) (z := own_y_38) hown (mvT hZ (own_w hw 19 rfl)) (mvT hZ (own_w hw 20 rfl)) (notFace_of_selects (args := #[]) (mvT hZ (own_w hw 22 rfl))) (mvT hZ (own_w hw 22 rfl)) (mvT hZ (own_w hw 21 rfl)) (by decide) (backOf (W := 0) (rmEmpF l Z a0 hw [] b1617 _ _ _ _ _ _ T1635.heap n0 z1636 P1635 (by decide)) hZ (own_w hw 23 rfl) (own_w hw 6 rfl) (by decide) (by decide)) q1637a q1637c (g := (mkF m 191 (own_L_339 q1 p2 p3 q4 p5 df ex lk m2 m3 mx b1617 .unset) [(.ref b1617)])) rfl (by rw [hml]; rfl) (Steps.refl _) (argsL := []) (rest := []) (lenOf pd_48 rfl) rfl (by show 2 * 0 + _ ≤ _; exact Nat.le_of_eq rfl) (hb hby at_191) (fun _ _ => ⟨rfl, rfl, (by decide : 3 + 0 ≤ _), (by decide : 10 + 0 ≤ _)⟩)
      dsimp only [Pt.U, Pt.locs, Pt.cells, Pt.slots] at X1637 l1637 y1637 z1637 st1637 hQ1637
      subst l1637 y1637 z1637
      obtain ⟨rfl, Nq1637, e1637⟩ := hQ1637
      have N1637 := Fr.app N1635 Nq1637
      have pre1638 : ∀ t, Steps p.tables e below (T1637.setTop (mkF m 196 #[.val (.long q1), .second, .val (.int p2), .val (.int p3), .val (.long q4), .second, .val (.int p5), .val (.int (2 : Int32)), .val (.int df), .val (.int ex), .val (.int lk), .val (.long q1), .second, .val (.long m2), .second, .val (.long m3), .second, .val (.long m2), .second, .val (.long mx), .second, .val (.ref b1617), .val (.int (1 : Int32)), .val (.int (0 : Int32)), .unset, .unset, .unset, .unset, .unset] [])) t → Steps p.tables e below (s₁.setTop (entryFrame m #[(.long q1), (.int p2), (.int p3), (.long q4), (.int p5)] maxLocals)) t := fun t kt => pre1633 t (by
        show Steps p.tables e below (T1628.setTop (mkF m 168 (own_L_339 q1 p2 p3 q4 p5 df ex lk m2 m3 mx b1617 .unset) [(.int lk1630), (.int (p3 + (1 : Int32))), (.long m2), (.ref b1617)])) _
        refine st1635.trans ?_
        refine XS.iload X1635.here hx rfl (hb hby at_171) rfl ?_
        refine XS.iconst X1635.here hx rfl (hb hby at_173) ?_
        refine XS.icmpYes X1635.here hx rfl (pc0 := 174) (pc' := 189) rfl (hb hby at_174) rfl (tlt (by decide : (2 : Int32) < (3 : Int32))).1 (by decide) (by decide) ?_
        refine XS.aload X1635.here hx rfl (hb hby at_189) rfl rfl ?_
        refine st1637.trans ?_
        refine XS.istore X1637.here hx rfl (hb hby at_194) rfl (l' := (own_L_339 q1 p2 p3 q4 p5 df ex lk m2 m3 mx b1617 (.val (.int (0 : Int32))))) rfl ?_
        exact kt)
      obtain ⟨T1639, L1639, X1639, N1639, st1639⟩ := sg022 q1 p2 p3 q4 p5 (2 : Int32) df ex lk m2 m3 m2 mx b1617 (1 : Int32) (0 : Int32) q1 m2 p3 (p3 + (1 : Int32)) (if lk = (0 : Int32) then (p3 + (1 : Int32)) else (p3 - (1 : Int32))) (own_more X1637 (by decide) (by decide)) hx hZ hw hby hml hown N1637 (by rw [e1637]; exact z1636) (by rw [e1637]; exact P1635) rfl hc1634
      have pre1640 : ∀ t, Steps p.tables e below (T1639.setTop (mkF m 237 #[.val (.long q1), .second, .val (.int p2), .val (.int p3), .val (.long q4), .second, .val (.int p5), .val (.int (2 : Int32)), .val (.int df), .val (.int ex), .val (.int lk), .val (.long q1), .second, .val (.long m2), .second, .val (.long m3), .second, .val (.long m2), .second, .val (.long mx), .second, .val (.ref b1617), .val (.int (1 : Int32)), .val (.int (0 : Int32)), .val (.int (if df = (0 : Int32) then (0 : Int32) else (if m2 < q4 then (1 : Int32) else (0 : Int32)))), .val (.int (if ex = (0 : Int32) then (if df = (0 : Int32) then (0 : Int32) else (if m2 < q4 then (1 : Int32) else (0 : Int32))) else (0 : Int32))), .unset, .unset, .unset] [])) t → Steps p.tables e below (s₁.setTop (entryFrame m #[(.long q1), (.int p2), (.int p3), (.long q4), (.int p5)] maxLocals)) t := fun t kt => pre1638 t (st1639 t kt)
      obtain ⟨e3v, he3v⟩ : ∃ z : Int32, z = (if ex = (0 : Int32) then (if df = (0 : Int32) then (0 : Int32) else (if m2 < q4 then (1 : Int32) else (0 : Int32))) else (0 : Int32)) := ⟨_, rfl⟩
      have pre1641 : ∀ t, Steps p.tables e below (T1639.setTop (mkF m 237 #[.val (.long q1), .second, .val (.int p2), .val (.int p3), .val (.long q4), .second, .val (.int p5), .val (.int (2 : Int32)), .val (.int df), .val (.int ex), .val (.int lk), .val (.long q1), .second, .val (.long m2), .second, .val (.long m3), .second, .val (.long m2), .second, .val (.long mx), .second, .val (.ref b1617), .val (.int (1 : Int32)), .val (.int (0 : Int32)), .val (.int (if df = (0 : Int32) then (0 : Int32) else (if m2 < q4 then (1 : Int32) else (0 : Int32)))), .val (.int e3v), .unset, .unset, .unset] [])) t → Steps p.tables e below (s₁.setTop (entryFrame m #[(.long q1), (.int p2), (.int p3), (.long q4), (.int p5)] maxLocals)) t := by rw [he3v]; exact pre1640
      obtain ⟨e2v, he2v⟩ : ∃ z : Int32, z = (if df = (0 : Int32) then (0 : Int32) else (if m2 < q4 then (1 : Int32) else (0 : Int32))) := ⟨_, rfl⟩
      have pre1642 : ∀ t, Steps p.tables e below (T1639.setTop (mkF m 237 #[.val (.long q1), .second, .val (.int p2), .val (.int p3), .val (.long q4), .second, .val (.int p5), .val (.int (2 : Int32)), .val (.int df), .val (.int ex), .val (.int lk), .val (.long q1), .second, .val (.long m2), .second, .val (.long m3), .second, .val (.long m2), .second, .val (.long mx), .second, .val (.ref b1617), .val (.int (1 : Int32)), .val (.int (0 : Int32)), .val (.int e2v), .val (.int e3v), .unset, .unset, .unset] [])) t → Steps p.tables e below (s₁.setTop (entryFrame m #[(.long q1), (.int p2), (.int p3), (.long q4), (.int p5)] maxLocals)) t := by rw [he2v]; exact pre1641
      have pre1643 : ∀ t, Steps p.tables e below (T1639.setTop (mkF m 256 (own_L_340 q1 p2 p3 q4 p5 df ex lk m2 m3 mx b1617 e2v e3v (.val (.int (0 : Int32))) .unset .unset) [(.int df)])) t → Steps p.tables e below (s₁.setTop (entryFrame m #[(.long q1), (.int p2), (.int p3), (.long q4), (.int p5)] maxLocals)) t := fun t kt => pre1642 t (by
        show Steps p.tables e below (T1639.setTop (mkF m 237 (own_L_340 q1 p2 p3 q4 p5 df ex lk m2 m3 mx b1617 e2v e3v .unset .unset .unset) [])) _
        refine XS.iload X1639.here hx rfl (hb hby at_237) rfl ?_
        refine XS.ifYes X1639.here hx rfl (pc0 := 239) (pc' := 246) rfl (hb hby at_239) rfl ((if0 _ _).trans (feq (by decide : ¬ ((2 : Int32) = (0 : Int32)))).2) (by decide) (by decide) ?_
        refine XS.iconst X1639.here hx rfl (hb hby at_246) ?_
        refine XS.istore X1639.here hx rfl (hb hby at_247) rfl (l' := (own_L_340 q1 p2 p3 q4 p5 df ex lk m2 m3 mx b1617 e2v e3v (.val (.int (0 : Int32))) .unset .unset)) rfl ?_
        refine XS.iload X1639.here hx rfl (hb hby at_249) rfl ?_
        refine XS.ifNo X1639.here hx rfl (hb hby at_251) rfl ((if0 _ _).trans (feq (by decide : ¬ ((2 : Int32) = (0 : Int32)))).1) ?_
        refine XS.iload X1639.here hx rfl (hb hby at_254) rfl ?_
        exact kt)
      obtain ⟨w2, hw2⟩ : ∃ z : Int32, z = (if df = (0 : Int32) then (0 : Int32) else (if m2 < q4 then (1 : Int32) else (0 : Int32))) := ⟨_, rfl⟩
      have pre1646 : ∀ t, Steps p.tables e below (T1639.setTop (mkF m 272 (own_L_340 q1 p2 p3 q4 p5 df ex lk m2 m3 mx b1617 e2v e3v (.val (.int (0 : Int32))) .unset .unset) [(.int w2)])) t → Steps p.tables e below (s₁.setTop (entryFrame m #[(.long q1), (.int p2), (.int p3), (.long q4), (.int p5)] maxLocals)) t := fun t kt => pre1643 t (by
        by_cases hc1644 : df = (0 : Int32)
        case pos =>
          show Steps p.tables e below (T1639.setTop (mkF m 256 (own_L_340 q1 p2 p3 q4 p5 df ex lk m2 m3 mx b1617 e2v e3v (.val (.int (0 : Int32))) .unset .unset) [(.int df)])) _
          refine XS.ifYes X1639.here hx rfl (pc0 := 256) (pc' := 271) rfl (hb hby at_256) rfl ((if0 _ _).trans (teq hc1644).1) (by decide) (by decide) ?_
          refine XS.iconst X1639.here hx rfl (hb hby at_271) ?_
          rw [show w2 = (0 : Int32) from (hw2.trans (if_pos hc1644))] at kt
          exact kt
        case neg =>
          show Steps p.tables e below (T1639.setTop (mkF m 256 (own_L_340 q1 p2 p3 q4 p5 df ex lk m2 m3 mx b1617 e2v e3v (.val (.int (0 : Int32))) .unset .unset) [(.int df)])) _
          refine XS.ifNo X1639.here hx rfl (hb hby at_256) rfl ((if0 _ _).trans (feq hc1644).1) ?_
          refine XS.lload X1639.here hx rfl (hb hby at_259) rfl ?_
          refine XS.lload X1639.here hx rfl (hb hby at_261) rfl ?_
          refine XS.lcmp X1639.here hx rfl (hb hby at_263) rfl ?_
          by_cases hc1645 : m2 < q4
          case pos =>
            show Steps p.tables e below (T1639.setTop (mkF m 264 (own_L_340 q1 p2 p3 q4 p5 df ex lk m2 m3 mx b1617 e2v e3v (.val (.int (0 : Int32))) .unset .unset) [(.int (lcmpW m2 q4))])) _
            refine XS.ifNo X1639.here hx rfl (hb hby at_264) rfl ((if0 _ _).trans (tlt ((lw_lt _ _).mpr hc1645)).2.1) ?_
            refine XS.iconst X1639.here hx rfl (hb hby at_267) ?_
            refine XS.goto X1639.here hx rfl (pc0 := 268) (pc' := 272) rfl (hb hby at_268) (by decide) (by decide) ?_
            rw [show w2 = (1 : Int32) from ((hw2.trans (if_neg hc1644)).trans (if_pos hc1645))] at kt
            exact kt
          case neg =>
            show Steps p.tables e below (T1639.setTop (mkF m 264 (own_L_340 q1 p2 p3 q4 p5 df ex lk m2 m3 mx b1617 e2v e3v (.val (.int (0 : Int32))) .unset .unset) [(.int (lcmpW m2 q4))])) _
            refine XS.ifYes X1639.here hx rfl (pc0 := 264) (pc' := 271) rfl (hb hby at_264) rfl ((if0 _ _).trans (flt (fun q => hc1645 ((lw_lt _ _).mp q))).2.1) (by decide) (by decide) ?_
            refine XS.iconst X1639.here hx rfl (hb hby at_271) ?_
            rw [show w2 = (0 : Int32) from ((hw2.trans (if_neg hc1644)).trans (if_neg hc1645))] at kt
            exact kt)
      have k2 : e2v = w2 := he2v.trans hw2.symm
      have pre1647 : ∀ t, Steps p.tables e below (T1639.setTop (mkF m 276 (own_L_340 q1 p2 p3 q4 p5 df ex lk m2 m3 mx b1617 e2v e3v (.val (.int (0 : Int32))) (.val (.int w2)) .unset) [(.int ex)])) t → Steps p.tables e below (s₁.setTop (entryFrame m #[(.long q1), (.int p2), (.int p3), (.long q4), (.int p5)] maxLocals)) t := fun t kt => pre1646 t (by
        show Steps p.tables e below (T1639.setTop (mkF m 272 (own_L_340 q1 p2 p3 q4 p5 df ex lk m2 m3 mx b1617 e2v e3v (.val (.int (0 : Int32))) .unset .unset) [(.int w2)])) _
        refine XS.istore X1639.here hx rfl (hb hby at_272) rfl (l' := (own_L_340 q1 p2 p3 q4 p5 df ex lk m2 m3 mx b1617 e2v e3v (.val (.int (0 : Int32))) (.val (.int w2)) .unset)) rfl ?_
        refine XS.iload X1639.here hx rfl (hb hby at_274) rfl ?_
        exact kt)
      obtain ⟨w3, hw3⟩ : ∃ z : Int32, z = (if ex = (0 : Int32) then w2 else (0 : Int32)) := ⟨_, rfl⟩
      have pre1649 : ∀ t, Steps p.tables e below (T1639.setTop (mkF m 285 (own_L_340 q1 p2 p3 q4 p5 df ex lk m2 m3 mx b1617 e2v e3v (.val (.int (0 : Int32))) (.val (.int w2)) .unset) [(.int w3)])) t → Steps p.tables e below (s₁.setTop (entryFrame m #[(.long q1), (.int p2), (.int p3), (.long q4), (.int p5)] maxLocals)) t := fun t kt => pre1647 t (by
        by_cases hc1648 : ex = (0 : Int32)
        case pos =>
          show Steps p.tables e below (T1639.setTop (mkF m 276 (own_L_340 q1 p2 p3 q4 p5 df ex lk m2 m3 mx b1617 e2v e3v (.val (.int (0 : Int32))) (.val (.int w2)) .unset) [(.int ex)])) _
          refine XS.ifYes X1639.here hx rfl (pc0 := 276) (pc' := 283) rfl (hb hby at_276) rfl ((if0 _ _).trans (teq hc1648).1) (by decide) (by decide) ?_
          refine XS.iload X1639.here hx rfl (hb hby at_283) rfl ?_
          rw [show w3 = w2 from (hw3.trans (if_pos hc1648))] at kt
          exact kt
        case neg =>
          show Steps p.tables e below (T1639.setTop (mkF m 276 (own_L_340 q1 p2 p3 q4 p5 df ex lk m2 m3 mx b1617 e2v e3v (.val (.int (0 : Int32))) (.val (.int w2)) .unset) [(.int ex)])) _
          refine XS.ifNo X1639.here hx rfl (hb hby at_276) rfl ((if0 _ _).trans (feq hc1648).1) ?_
          refine XS.iconst X1639.here hx rfl (hb hby at_279) ?_
          refine XS.goto X1639.here hx rfl (pc0 := 280) (pc' := 285) rfl (hb hby at_280) (by decide) (by decide) ?_
          rw [show w3 = (0 : Int32) from (hw3.trans (if_neg hc1648))] at kt
          exact kt)
      have k3 : e3v = w3 := by rw [he3v, hw3, hw2]
      have pre1650 : ∀ t, Steps p.tables e below (T1639.setTop (mkF m 318 (own_L_340 q1 p2 p3 q4 p5 df ex lk m2 m3 mx b1617 e2v e3v (.val (.int (0 : Int32))) (.val (.int w2)) (.val (.int w3))) [(.int (1 : Int32))])) t → Steps p.tables e below (s₁.setTop (entryFrame m #[(.long q1), (.int p2), (.int p3), (.long q4), (.int p5)] maxLocals)) t := fun t kt => pre1649 t (by
        show Steps p.tables e below (T1639.setTop (mkF m 285 (own_L_340 q1 p2 p3 q4 p5 df ex lk m2 m3 mx b1617 e2v e3v (.val (.int (0 : Int32))) (.val (.int w2)) .unset) [(.int w3)])) _
        refine XS.istore X1639.here hx rfl (hb hby at_285) rfl (l' := (own_L_340 q1 p2 p3 q4 p5 df ex lk m2 m3 mx b1617 e2v e3v (.val (.int (0 : Int32))) (.val (.int w2)) (.val (.int w3)))) rfl ?_
        refine XS.iload X1639.here hx rfl (hb hby at_287) rfl ?_
        refine XS.ifNo X1639.here hx rfl (hb hby at_289) rfl ((if0 _ _).trans (feq (by decide : ¬ ((1 : Int32) = (0 : Int32)))).1) ?_
        refine XS.iload X1639.here hx rfl (hb hby at_292) rfl ?_
        refine XS.iload X1639.here hx rfl (hb hby at_294) rfl ?_
        refine XS.icmpNo X1639.here hx rfl (hb hby at_296) rfl (teq (by decide : (0 : Int32) = (0 : Int32))).2 ?_
        refine XS.iload X1639.here hx rfl (hb hby at_299) rfl ?_
        refine XS.iload X1639.here hx rfl (hb hby at_301) rfl ?_
        refine XS.icmpNo X1639.here hx rfl (hb hby at_303) rfl (teq k2).2 ?_
        refine XS.iload X1639.here hx rfl (hb hby at_306) rfl ?_
        refine XS.iload X1639.here hx rfl (hb hby at_308) rfl ?_
        refine XS.icmpNo X1639.here hx rfl (hb hby at_310) rfl (teq k3).2 ?_
        show Steps p.tables e below (T1639.setTop (mkF m 313 (own_L_340 q1 p2 p3 q4 p5 df ex lk m2 m3 mx b1617 e2v e3v (.val (.int (0 : Int32))) (.val (.int w2)) (.val (.int w3))) [])) _
        refine XS.iconst X1639.here hx rfl (hb hby at_313) ?_
        refine XS.goto X1639.here hx rfl (pc0 := 314) (pc' := 318) rfl (hb hby at_314) (by decide) (by decide) ?_
        exact kt)
      exact own_retN X1639 hx Bd.notSynchronized (t := .boolean) Bd.returns (by simp) (hb hby at_318) pre1650 (show Q0 h0 n0 _ _ _ from ⟨rfl, N1639⟩) (by decide) (by decide)
    case neg =>
      obtain ⟨cq1651, kq1651, q1651a, q1651b, q1651c⟩ := isOf hZ rfl (own_pt_exa P1628)
      obtain ⟨_, _, ⟨T1651, L1651, k1651, n1651⟩, -, X1651, ⟨Lc1651, hQ1651, l1651, y1651, z1651⟩, st1651⟩ := X1628.virtualBack hx (y := own_y_103) (z := own_y_103) hown (mvT hZ (own_w hw 28 rfl)) (mvT hZ (own_w hw 29 rfl)) (notFace_of_selects (args := #[]) (mvT hZ (own_w hw 31 rfl))) (mvT hZ (own_w hw 31 rfl)) (mvT hZ (own_w hw 30 rfl)) (by decide) (backOf (W := 0) (rmCnt012o l Z a0 hw [] b1617 m2 (p3 + (1 : Int32)) lk1630 q1 (0 : Int64) p3 (0 : Int32) (if lk = (0 : Int32) then (p3 + (1 : Int32)) else (p3 - (1 : Int32))) T1628.heap n0 z1629 P1628 hc1634) hZ (own_w hw 32 rfl) (own_w hw 6 rfl) (by decide) (by decide)) q1651a q1651c (g := (mkF m 168 (own_L_339 q1 p2 p3 q4 p5 df ex lk m2 m3 mx b1617 .unset) [(.int lk1630), (.int (p3 + (1 : Int32))), (.long m2), (.ref b1617)])) rfl (by rw [hml]; rfl) (Steps.refl _) (argsL := [(.long m2), (.int (p3 + (1 : Int32))), (.int lk1630)]) (rest := []) (lenOf pd_105 rfl) rfl (by show 2 * 0 + _ ≤ _; exact Nat.le_of_eq rfl) (hb hby at_168) (fun _ _ => ⟨rfl, rfl, (by decide : 3 + 0 ≤ _), (by decide : 10 + 0 ≤ _)⟩)
      dsimp only [Pt.U, Pt.locs, Pt.cells, Pt.slots] at X1651 l1651 y1651 z1651 st1651 hQ1651
      subst l1651 y1651 z1651
      obtain ⟨rfl, Nq1651, z1651, P1651⟩ := hQ1651
      have N1651 := Fr.app N1628 Nq1651
      have z1652 : n0 ≤ T1651.heap.size := Nat.le_trans z1629 z1651
      obtain ⟨cq1653, kq1653, q1653a, q1653b, q1653c⟩ := isOf hZ rfl (own_pt_exa P1651)
      obtain ⟨_, _, ⟨T1653, L1653, k1653, n1653⟩, -, X1653, ⟨Lc1653, hQ1653, l1653, y1653, z1653⟩, st1653⟩ := X1651.virtualBack hx (y := own_y_38) (z := own_y_38) hown (mvT hZ (own_w hw 19 rfl)) (mvT hZ (own_w hw 20 rfl)) (notFace_of_selects (args := #[]) (mvT hZ (own_w hw 22 rfl))) (mvT hZ (own_w hw 22 rfl)) (mvT hZ (own_w hw 21 rfl)) (by decide) (backOf (W := 0) (rmEmpF l Z a0 hw [] b1617 _ _ _ _ _ _ T1651.heap n0 z1652 P1651 (by decide)) hZ (own_w hw 23 rfl) (own_w hw 6 rfl) (by decide) (by decide)) q1653a q1653c (g := (mkF m 191 (own_L_339 q1 p2 p3 q4 p5 df ex lk m2 m3 mx b1617 .unset) [(.ref b1617)])) rfl (by rw [hml]; rfl) (Steps.refl _) (argsL := []) (rest := []) (lenOf pd_48 rfl) rfl (by show 2 * 0 + _ ≤ _; exact Nat.le_of_eq rfl) (hb hby at_191) (fun _ _ => ⟨rfl, rfl, (by decide : 3 + 0 ≤ _), (by decide : 10 + 0 ≤ _)⟩)
      dsimp only [Pt.U, Pt.locs, Pt.cells, Pt.slots] at X1653 l1653 y1653 z1653 st1653 hQ1653
      subst l1653 y1653 z1653
      obtain ⟨rfl, Nq1653, e1653⟩ := hQ1653
      have N1653 := Fr.app N1651 Nq1653
      have pre1654 : ∀ t, Steps p.tables e below (T1653.setTop (mkF m 196 #[.val (.long q1), .second, .val (.int p2), .val (.int p3), .val (.long q4), .second, .val (.int p5), .val (.int (2 : Int32)), .val (.int df), .val (.int ex), .val (.int lk), .val (.long q1), .second, .val (.long m2), .second, .val (.long m3), .second, .val (.long m2), .second, .val (.long mx), .second, .val (.ref b1617), .val (.int (1 : Int32)), .val (.int (0 : Int32)), .unset, .unset, .unset, .unset, .unset] [])) t → Steps p.tables e below (s₁.setTop (entryFrame m #[(.long q1), (.int p2), (.int p3), (.long q4), (.int p5)] maxLocals)) t := fun t kt => pre1633 t (by
        show Steps p.tables e below (T1628.setTop (mkF m 168 (own_L_339 q1 p2 p3 q4 p5 df ex lk m2 m3 mx b1617 .unset) [(.int lk1630), (.int (p3 + (1 : Int32))), (.long m2), (.ref b1617)])) _
        refine st1651.trans ?_
        refine XS.iload X1651.here hx rfl (hb hby at_171) rfl ?_
        refine XS.iconst X1651.here hx rfl (hb hby at_173) ?_
        refine XS.icmpYes X1651.here hx rfl (pc0 := 174) (pc' := 189) rfl (hb hby at_174) rfl (tlt (by decide : (2 : Int32) < (3 : Int32))).1 (by decide) (by decide) ?_
        refine XS.aload X1651.here hx rfl (hb hby at_189) rfl rfl ?_
        refine st1653.trans ?_
        refine XS.istore X1653.here hx rfl (hb hby at_194) rfl (l' := (own_L_339 q1 p2 p3 q4 p5 df ex lk m2 m3 mx b1617 (.val (.int (0 : Int32))))) rfl ?_
        exact kt)
      have hn1655 : m2 = q1 := Int64.toInt_inj.mp (by rw [Int64.lt_iff_toInt_lt] at ha2 ha3 hc1634; omega)
      obtain ⟨T1656, L1656, X1656, N1656, st1656⟩ := sg012 q1 p2 p3 q4 p5 (2 : Int32) df ex lk m2 m3 m2 mx b1617 (1 : Int32) (0 : Int32) q1 (0 : Int64) (p3 + (1 : Int32)) (0 : Int32) (if lk = (0 : Int32) then (p3 + (1 : Int32)) else (p3 - (1 : Int32))) (own_more X1653 (by decide) (by decide)) hx hZ hw hby hml hown N1653 (by rw [e1653]; exact z1652) (by rw [e1653]; exact P1651) hn1655
      have pre1657 : ∀ t, Steps p.tables e below (T1656.setTop (mkF m 237 #[.val (.long q1), .second, .val (.int p2), .val (.int p3), .val (.long q4), .second, .val (.int p5), .val (.int (2 : Int32)), .val (.int df), .val (.int ex), .val (.int lk), .val (.long q1), .second, .val (.long m2), .second, .val (.long m3), .second, .val (.long m2), .second, .val (.long mx), .second, .val (.ref b1617), .val (.int (1 : Int32)), .val (.int (0 : Int32)), .val (.int (if df = (0 : Int32) then (0 : Int32) else (if m2 < q4 then (1 : Int32) else (0 : Int32)))), .val (.int (if ex = (0 : Int32) then (if df = (0 : Int32) then (0 : Int32) else (if m2 < q4 then (1 : Int32) else (0 : Int32))) else (0 : Int32))), .unset, .unset, .unset] [])) t → Steps p.tables e below (s₁.setTop (entryFrame m #[(.long q1), (.int p2), (.int p3), (.long q4), (.int p5)] maxLocals)) t := fun t kt => pre1654 t (st1656 t kt)
      obtain ⟨e3v, he3v⟩ : ∃ z : Int32, z = (if ex = (0 : Int32) then (if df = (0 : Int32) then (0 : Int32) else (if m2 < q4 then (1 : Int32) else (0 : Int32))) else (0 : Int32)) := ⟨_, rfl⟩
      have pre1658 : ∀ t, Steps p.tables e below (T1656.setTop (mkF m 237 #[.val (.long q1), .second, .val (.int p2), .val (.int p3), .val (.long q4), .second, .val (.int p5), .val (.int (2 : Int32)), .val (.int df), .val (.int ex), .val (.int lk), .val (.long q1), .second, .val (.long m2), .second, .val (.long m3), .second, .val (.long m2), .second, .val (.long mx), .second, .val (.ref b1617), .val (.int (1 : Int32)), .val (.int (0 : Int32)), .val (.int (if df = (0 : Int32) then (0 : Int32) else (if m2 < q4 then (1 : Int32) else (0 : Int32)))), .val (.int e3v), .unset, .unset, .unset] [])) t → Steps p.tables e below (s₁.setTop (entryFrame m #[(.long q1), (.int p2), (.int p3), (.long q4), (.int p5)] maxLocals)) t := by rw [he3v]; exact pre1657
      obtain ⟨e2v, he2v⟩ : ∃ z : Int32, z = (if df = (0 : Int32) then (0 : Int32) else (if m2 < q4 then (1 : Int32) else (0 : Int32))) := ⟨_, rfl⟩
      have pre1659 : ∀ t, Steps p.tables e below (T1656.setTop (mkF m 237 #[.val (.long q1), .second, .val (.int p2), .val (.int p3), .val (.long q4), .second, .val (.int p5), .val (.int (2 : Int32)), .val (.int df), .val (.int ex), .val (.int lk), .val (.long q1), .second, .val (.long m2), .second, .val (.long m3), .second, .val (.long m2), .second, .val (.long mx), .second, .val (.ref b1617), .val (.int (1 : Int32)), .val (.int (0 : Int32)), .val (.int e2v), .val (.int e3v), .unset, .unset, .unset] [])) t → Steps p.tables e below (s₁.setTop (entryFrame m #[(.long q1), (.int p2), (.int p3), (.long q4), (.int p5)] maxLocals)) t := by rw [he2v]; exact pre1658
      have pre1660 : ∀ t, Steps p.tables e below (T1656.setTop (mkF m 256 (own_L_340 q1 p2 p3 q4 p5 df ex lk m2 m3 mx b1617 e2v e3v (.val (.int (0 : Int32))) .unset .unset) [(.int df)])) t → Steps p.tables e below (s₁.setTop (entryFrame m #[(.long q1), (.int p2), (.int p3), (.long q4), (.int p5)] maxLocals)) t := fun t kt => pre1659 t (by
        show Steps p.tables e below (T1656.setTop (mkF m 237 (own_L_340 q1 p2 p3 q4 p5 df ex lk m2 m3 mx b1617 e2v e3v .unset .unset .unset) [])) _
        refine XS.iload X1656.here hx rfl (hb hby at_237) rfl ?_
        refine XS.ifYes X1656.here hx rfl (pc0 := 239) (pc' := 246) rfl (hb hby at_239) rfl ((if0 _ _).trans (feq (by decide : ¬ ((2 : Int32) = (0 : Int32)))).2) (by decide) (by decide) ?_
        refine XS.iconst X1656.here hx rfl (hb hby at_246) ?_
        refine XS.istore X1656.here hx rfl (hb hby at_247) rfl (l' := (own_L_340 q1 p2 p3 q4 p5 df ex lk m2 m3 mx b1617 e2v e3v (.val (.int (0 : Int32))) .unset .unset)) rfl ?_
        refine XS.iload X1656.here hx rfl (hb hby at_249) rfl ?_
        refine XS.ifNo X1656.here hx rfl (hb hby at_251) rfl ((if0 _ _).trans (feq (by decide : ¬ ((2 : Int32) = (0 : Int32)))).1) ?_
        refine XS.iload X1656.here hx rfl (hb hby at_254) rfl ?_
        exact kt)
      obtain ⟨w2, hw2⟩ : ∃ z : Int32, z = (if df = (0 : Int32) then (0 : Int32) else (if m2 < q4 then (1 : Int32) else (0 : Int32))) := ⟨_, rfl⟩
      have pre1663 : ∀ t, Steps p.tables e below (T1656.setTop (mkF m 272 (own_L_340 q1 p2 p3 q4 p5 df ex lk m2 m3 mx b1617 e2v e3v (.val (.int (0 : Int32))) .unset .unset) [(.int w2)])) t → Steps p.tables e below (s₁.setTop (entryFrame m #[(.long q1), (.int p2), (.int p3), (.long q4), (.int p5)] maxLocals)) t := fun t kt => pre1660 t (by
        by_cases hc1661 : df = (0 : Int32)
        case pos =>
          show Steps p.tables e below (T1656.setTop (mkF m 256 (own_L_340 q1 p2 p3 q4 p5 df ex lk m2 m3 mx b1617 e2v e3v (.val (.int (0 : Int32))) .unset .unset) [(.int df)])) _
          refine XS.ifYes X1656.here hx rfl (pc0 := 256) (pc' := 271) rfl (hb hby at_256) rfl ((if0 _ _).trans (teq hc1661).1) (by decide) (by decide) ?_
          refine XS.iconst X1656.here hx rfl (hb hby at_271) ?_
          rw [show w2 = (0 : Int32) from (hw2.trans (if_pos hc1661))] at kt
          exact kt
        case neg =>
          show Steps p.tables e below (T1656.setTop (mkF m 256 (own_L_340 q1 p2 p3 q4 p5 df ex lk m2 m3 mx b1617 e2v e3v (.val (.int (0 : Int32))) .unset .unset) [(.int df)])) _
          refine XS.ifNo X1656.here hx rfl (hb hby at_256) rfl ((if0 _ _).trans (feq hc1661).1) ?_
          refine XS.lload X1656.here hx rfl (hb hby at_259) rfl ?_
          refine XS.lload X1656.here hx rfl (hb hby at_261) rfl ?_
          refine XS.lcmp X1656.here hx rfl (hb hby at_263) rfl ?_
          by_cases hc1662 : m2 < q4
          case pos =>
            show Steps p.tables e below (T1656.setTop (mkF m 264 (own_L_340 q1 p2 p3 q4 p5 df ex lk m2 m3 mx b1617 e2v e3v (.val (.int (0 : Int32))) .unset .unset) [(.int (lcmpW m2 q4))])) _
            refine XS.ifNo X1656.here hx rfl (hb hby at_264) rfl ((if0 _ _).trans (tlt ((lw_lt _ _).mpr hc1662)).2.1) ?_
            refine XS.iconst X1656.here hx rfl (hb hby at_267) ?_
            refine XS.goto X1656.here hx rfl (pc0 := 268) (pc' := 272) rfl (hb hby at_268) (by decide) (by decide) ?_
            rw [show w2 = (1 : Int32) from ((hw2.trans (if_neg hc1661)).trans (if_pos hc1662))] at kt
            exact kt
          case neg =>
            show Steps p.tables e below (T1656.setTop (mkF m 264 (own_L_340 q1 p2 p3 q4 p5 df ex lk m2 m3 mx b1617 e2v e3v (.val (.int (0 : Int32))) .unset .unset) [(.int (lcmpW m2 q4))])) _
            refine XS.ifYes X1656.here hx rfl (pc0 := 264) (pc' := 271) rfl (hb hby at_264) rfl ((if0 _ _).trans (flt (fun q => hc1662 ((lw_lt _ _).mp q))).2.1) (by decide) (by decide) ?_
            refine XS.iconst X1656.here hx rfl (hb hby at_271) ?_
            rw [show w2 = (0 : Int32) from ((hw2.trans (if_neg hc1661)).trans (if_neg hc1662))] at kt
            exact kt)
      have k2 : e2v = w2 := he2v.trans hw2.symm
      have pre1664 : ∀ t, Steps p.tables e below (T1656.setTop (mkF m 276 (own_L_340 q1 p2 p3 q4 p5 df ex lk m2 m3 mx b1617 e2v e3v (.val (.int (0 : Int32))) (.val (.int w2)) .unset) [(.int ex)])) t → Steps p.tables e below (s₁.setTop (entryFrame m #[(.long q1), (.int p2), (.int p3), (.long q4), (.int p5)] maxLocals)) t := fun t kt => pre1663 t (by
        show Steps p.tables e below (T1656.setTop (mkF m 272 (own_L_340 q1 p2 p3 q4 p5 df ex lk m2 m3 mx b1617 e2v e3v (.val (.int (0 : Int32))) .unset .unset) [(.int w2)])) _
        refine XS.istore X1656.here hx rfl (hb hby at_272) rfl (l' := (own_L_340 q1 p2 p3 q4 p5 df ex lk m2 m3 mx b1617 e2v e3v (.val (.int (0 : Int32))) (.val (.int w2)) .unset)) rfl ?_
        refine XS.iload X1656.here hx rfl (hb hby at_274) rfl ?_
        exact kt)
      obtain ⟨w3, hw3⟩ : ∃ z : Int32, z = (if ex = (0 : Int32) then w2 else (0 : Int32)) := ⟨_, rfl⟩
      have pre1666 : ∀ t, Steps p.tables e below (T1656.setTop (mkF m 285 (own_L_340 q1 p2 p3 q4 p5 df ex lk m2 m3 mx b1617 e2v e3v (.val (.int (0 : Int32))) (.val (.int w2)) .unset) [(.int w3)])) t → Steps p.tables e below (s₁.setTop (entryFrame m #[(.long q1), (.int p2), (.int p3), (.long q4), (.int p5)] maxLocals)) t := fun t kt => pre1664 t (by
        by_cases hc1665 : ex = (0 : Int32)
        case pos =>
          show Steps p.tables e below (T1656.setTop (mkF m 276 (own_L_340 q1 p2 p3 q4 p5 df ex lk m2 m3 mx b1617 e2v e3v (.val (.int (0 : Int32))) (.val (.int w2)) .unset) [(.int ex)])) _
          refine XS.ifYes X1656.here hx rfl (pc0 := 276) (pc' := 283) rfl (hb hby at_276) rfl ((if0 _ _).trans (teq hc1665).1) (by decide) (by decide) ?_
          refine XS.iload X1656.here hx rfl (hb hby at_283) rfl ?_
          rw [show w3 = w2 from (hw3.trans (if_pos hc1665))] at kt
          exact kt
        case neg =>
          show Steps p.tables e below (T1656.setTop (mkF m 276 (own_L_340 q1 p2 p3 q4 p5 df ex lk m2 m3 mx b1617 e2v e3v (.val (.int (0 : Int32))) (.val (.int w2)) .unset) [(.int ex)])) _
          refine XS.ifNo X1656.here hx rfl (hb hby at_276) rfl ((if0 _ _).trans (feq hc1665).1) ?_
          refine XS.iconst X1656.here hx rfl (hb hby at_279) ?_
          refine XS.goto X1656.here hx rfl (pc0 := 280) (pc' := 285) rfl (hb hby at_280) (by decide) (by decide) ?_
          rw [show w3 = (0 : Int32) from (hw3.trans (if_neg hc1665))] at kt
          exact kt)
      have k3 : e3v = w3 := by rw [he3v, hw3, hw2]
      have pre1667 : ∀ t, Steps p.tables e below (T1656.setTop (mkF m 318 (own_L_340 q1 p2 p3 q4 p5 df ex lk m2 m3 mx b1617 e2v e3v (.val (.int (0 : Int32))) (.val (.int w2)) (.val (.int w3))) [(.int (1 : Int32))])) t → Steps p.tables e below (s₁.setTop (entryFrame m #[(.long q1), (.int p2), (.int p3), (.long q4), (.int p5)] maxLocals)) t := fun t kt => pre1666 t (by
        show Steps p.tables e below (T1656.setTop (mkF m 285 (own_L_340 q1 p2 p3 q4 p5 df ex lk m2 m3 mx b1617 e2v e3v (.val (.int (0 : Int32))) (.val (.int w2)) .unset) [(.int w3)])) _
        refine XS.istore X1656.here hx rfl (hb hby at_285) rfl (l' := (own_L_340 q1 p2 p3 q4 p5 df ex lk m2 m3 mx b1617 e2v e3v (.val (.int (0 : Int32))) (.val (.int w2)) (.val (.int w3)))) rfl ?_
        refine XS.iload X1656.here hx rfl (hb hby at_287) rfl ?_
        refine XS.ifNo X1656.here hx rfl (hb hby at_289) rfl ((if0 _ _).trans (feq (by decide : ¬ ((1 : Int32) = (0 : Int32)))).1) ?_
        refine XS.iload X1656.here hx rfl (hb hby at_292) rfl ?_
        refine XS.iload X1656.here hx rfl (hb hby at_294) rfl ?_
        refine XS.icmpNo X1656.here hx rfl (hb hby at_296) rfl (teq (by decide : (0 : Int32) = (0 : Int32))).2 ?_
        refine XS.iload X1656.here hx rfl (hb hby at_299) rfl ?_
        refine XS.iload X1656.here hx rfl (hb hby at_301) rfl ?_
        refine XS.icmpNo X1656.here hx rfl (hb hby at_303) rfl (teq k2).2 ?_
        refine XS.iload X1656.here hx rfl (hb hby at_306) rfl ?_
        refine XS.iload X1656.here hx rfl (hb hby at_308) rfl ?_
        refine XS.icmpNo X1656.here hx rfl (hb hby at_310) rfl (teq k3).2 ?_
        show Steps p.tables e below (T1656.setTop (mkF m 313 (own_L_340 q1 p2 p3 q4 p5 df ex lk m2 m3 mx b1617 e2v e3v (.val (.int (0 : Int32))) (.val (.int w2)) (.val (.int w3))) [])) _
        refine XS.iconst X1656.here hx rfl (hb hby at_313) ?_
        refine XS.goto X1656.here hx rfl (pc0 := 314) (pc' := 318) rfl (hb hby at_314) (by decide) (by decide) ?_
        exact kt)
      exact own_retN X1656 hx Bd.notSynchronized (t := .boolean) Bd.returns (by simp) (hb hby at_318) pre1667 (show Q0 h0 n0 _ _ _ from ⟨rfl, N1656⟩) (by decide) (by decide)
  · have pre1668 : ∀ t, Steps p.tables e below (T1548.setTop (mkF m 75 (own_L_334 q1 p2 p3 q4 p5 df ex lk m2 m3 (.val (.int (3 : Int32))) .unset .unset .unset .unset .unset .unset .unset .unset .unset .unset .unset .unset) [])) t → Steps p.tables e below (s₁.setTop (entryFrame m #[(.long q1), (.int p2), (.int p3), (.long q4), (.int p5)] maxLocals)) t := by have q := pre1551; rw [hk] at q; exact q
    have pre1669 : ∀ t, Steps p.tables e below (T1548.setTop (mkF m 108 (own_L_334 q1 p2 p3 q4 p5 df ex lk m2 m3 (.val (.int (3 : Int32))) (.val (.long m3)) .second .unset .unset .unset .unset .unset .unset .unset .unset .unset .unset) [(.int ((p2 >>> ((4 : Int32) &&& 31)) &&& (3 : Int32))), (.long m3)])) t → Steps p.tables e below (s₁.setTop (entryFrame m #[(.long q1), (.int p2), (.int p3), (.long q4), (.int p5)] maxLocals)) t := fun t kt => pre1668 t (by
      show Steps p.tables e below (T1548.setTop (mkF m 75 (own_L_334 q1 p2 p3 q4 p5 df ex lk m2 m3 (.val (.int (3 : Int32))) .unset .unset .unset .unset .unset .unset .unset .unset .unset .unset .unset .unset) [])) _
      refine XS.iload X1548.here hx rfl (hb hby at_75) rfl ?_
      refine XS.iconst X1548.here hx rfl (hb hby at_77) ?_
      refine XS.icmpYes X1548.here hx rfl (pc0 := 78) (pc' := 86) rfl (hb hby at_78) rfl (feq (by decide : ¬ ((3 : Int32) = (1 : Int32)))).2 (by decide) (by decide) ?_
      refine XS.iload X1548.here hx rfl (hb hby at_86) rfl ?_
      refine XS.iconst X1548.here hx rfl (hb hby at_88) ?_
      refine XS.icmpYes X1548.here hx rfl (pc0 := 89) (pc' := 97) rfl (hb hby at_89) rfl (feq (by decide : ¬ ((3 : Int32) = (2 : Int32)))).2 (by decide) (by decide) ?_
      refine XS.lload X1548.here hx rfl (hb hby at_97) rfl ?_
      refine XS.lstore X1548.here hx rfl (hb hby at_99) rfl (l' := (own_L_334 q1 p2 p3 q4 p5 df ex lk m2 m3 (.val (.int (3 : Int32))) (.val (.long m3)) .second .unset .unset .unset .unset .unset .unset .unset .unset .unset .unset)) rfl ?_
      refine XS.lload X1548.here hx rfl (hb hby at_101) rfl ?_
      refine XS.iloadN X1548.here hx rfl (hb hby at_103) rfl ?_
      refine XS.iconst X1548.here hx rfl (hb hby at_104) ?_
      refine XS.ishr X1548.here hx rfl (hb hby at_105) rfl ?_
      show Steps p.tables e below (T1548.setTop (mkF m 106 (own_L_334 q1 p2 p3 q4 p5 df ex lk m2 m3 (.val (.int (3 : Int32))) (.val (.long m3)) .second .unset .unset .unset .unset .unset .unset .unset .unset .unset .unset) [(.int (p2 >>> ((4 : Int32) &&& 31))), (.long m3)])) _
      refine XS.iconst X1548.here hx rfl (hb hby at_106) ?_
      refine XS.iand X1548.here hx rfl (hb hby at_107) rfl ?_
      exact kt)
    obtain ⟨s3, hs3⟩ : ∃ z : Int32, z = ((p2 >>> ((4 : Int32) &&& 31)) &&& (3 : Int32)) := ⟨_, rfl⟩
    have pre1670 : ∀ t, Steps p.tables e below (T1548.setTop (mkF m 108 (own_L_334 q1 p2 p3 q4 p5 df ex lk m2 m3 (.val (.int (3 : Int32))) (.val (.long m3)) .second .unset .unset .unset .unset .unset .unset .unset .unset .unset .unset) [(.int s3), (.long m3)])) t → Steps p.tables e below (s₁.setTop (entryFrame m #[(.long q1), (.int p2), (.int p3), (.long q4), (.int p5)] maxLocals)) t := by rw [hs3]; exact pre1669
    obtain ⟨_, _, ⟨T1671, L1671, k1671, n1671⟩, -, X1671, ⟨Lc1671, hQ1671, l1671, y1671, z1671⟩, st1671⟩ := Jvm.LawKit.callS X1548 hx (y := own_y_22) hown (mvT hZ (own_w hw 0 rfl)) (mvT hZ (own_w hw 1 rfl)) (mvT hZ (own_w hw 2 rfl)) (mvT hZ (own_w hw 3 rfl)) (by decide) (backOf (W := 0) (rmAft l Z a0 hw [] m3 s3 h0 n0 Z0) hZ (own_w hw 3 rfl) (own_w hw 2 rfl) (by decide) (by decide)) (g := (mkF m 108 (own_L_334 q1 p2 p3 q4 p5 df ex lk m2 m3 (.val (.int (3 : Int32))) (.val (.long m3)) .second .unset .unset .unset .unset .unset .unset .unset .unset .unset .unset) [(.int s3), (.long m3)])) rfl (by rw [hml]; rfl) (argsL := [(.long m3), (.int s3)]) (rest := []) (lenOf pd_333 rfl) rfl (by show 2 * 0 + _ ≤ _; exact Nat.le_of_eq rfl) (hb hby at_108) (fun _ _ => ⟨rfl, e1548, (by decide : 0 + 0 ≤ _), (by decide : 0 + 0 ≤ _)⟩)
    dsimp only [Pt.U, Pt.locs, Pt.cells, Pt.slots] at X1671 l1671 y1671 z1671 st1671 hQ1671
    subst l1671 y1671 z1671
    obtain ⟨rfl, Nq1671, e1671⟩ := hQ1671
    have N1671 := Fr.app N1548 Nq1671
    have pre1672 : ∀ t, Steps p.tables e below (T1671.setTop (mkF m 111 (own_L_334 q1 p2 p3 q4 p5 df ex lk m2 m3 (.val (.int (3 : Int32))) (.val (.long m3)) .second .unset .unset .unset .unset .unset .unset .unset .unset .unset .unset) [(.long (if (m3 + (s3.toInt64)) < m3 then m3 else (m3 + (s3.toInt64))))])) t → Steps p.tables e below (s₁.setTop (entryFrame m #[(.long q1), (.int p2), (.int p3), (.long q4), (.int p5)] maxLocals)) t := fun t kt => pre1670 t (by
      show Steps p.tables e below (T1548.setTop (mkF m 108 (own_L_334 q1 p2 p3 q4 p5 df ex lk m2 m3 (.val (.int (3 : Int32))) (.val (.long m3)) .second .unset .unset .unset .unset .unset .unset .unset .unset .unset .unset) [(.int s3), (.long m3)])) _
      refine st1671 _ ?_
      exact kt)
    obtain ⟨mx, hmx⟩ : ∃ z : Int64, z = (if (m3 + (s3.toInt64)) < m3 then m3 else (m3 + (s3.toInt64))) := ⟨_, rfl⟩
    have pre1673 : ∀ t, Steps p.tables e below (T1671.setTop (mkF m 111 (own_L_334 q1 p2 p3 q4 p5 df ex lk m2 m3 (.val (.int (3 : Int32))) (.val (.long m3)) .second .unset .unset .unset .unset .unset .unset .unset .unset .unset .unset) [(.long mx)])) t → Steps p.tables e below (s₁.setTop (entryFrame m #[(.long q1), (.int p2), (.int p3), (.long q4), (.int p5)] maxLocals)) t := by rw [hmx]; exact pre1672
    have hax : ¬ mx < m3 := own_aft m3 mx s3 hmx
    obtain ⟨T1674, h1674, X1674, e1674, E1674, A1674, D1674, -, st1674⟩ := newO X1671 hx hZ hown (own_w hw 4 rfl) (own_w hw 5 rfl) (own_w hw 6 rfl) e1671 (g := (mkF m 113 (own_L_334 q1 p2 p3 q4 p5 df ex lk m2 m3 (.val (.int (3 : Int32))) (.val (.long m3)) .second (.val (.long mx)) .second .unset .unset .unset .unset .unset .unset .unset .unset) [])) rfl (hb hby at_113) (by decide) (by decide)
    obtain ⟨b1674, g1674⟩ : ∃ z, z = h0.size := ⟨_, rfl⟩
    rw [← g1674] at A1674 D1674 st1674
    have G1674 : n0 ≤ b1674 := Nat.le_trans Z0 (Nat.le_of_eq g1674.symm)
    have F1675 : Fld Z h1674 b1674 "com/example/viral_counter/viralcounter/PostTrend" "minutes" "[J" .null := D1674 (Or.inl (own_w hw 15 rfl)) (ty := (.array .long)) (by decide)
    have F1676 : Fld Z h1674 b1674 "com/example/viral_counter/viralcounter/PostTrend" "counts" "[I" .null := D1674 (Or.inl (own_w hw 18 rfl)) (ty := (.array .int)) (by decide)
    have F1677 : Fld Z h1674 b1674 "com/example/viral_counter/viralcounter/PostTrend" "first" "I" (.int (0 : Int32)) := D1674 (Or.inl (own_w hw 25 rfl)) (ty := .int) (by decide)
    have F1678 : Fld Z h1674 b1674 "com/example/viral_counter/viralcounter/PostTrend" "end" "I" (.int (0 : Int32)) := D1674 (Or.inl (own_w hw 27 rfl)) (ty := .int) (by decide)
    have F1679 : Fld Z h1674 b1674 "com/example/viral_counter/viralcounter/PostTrend" "before" "I" (.int (0 : Int32)) := D1674 (Or.inl (own_w hw 34 rfl)) (ty := .int) (by decide)
    have z1680 : n0 ≤ h1674.size := Nat.le_trans Z0 E1674.1
    obtain ⟨_, _, ⟨T1681, L1681, k1681, n1681⟩, -, X1681, ⟨Lc1681, hQ1681, l1681, y1681, z1681⟩, st1681⟩ := X1674.specialBack hx (y := own_y_0) rfl hown (mvT hZ (own_w hw 7 rfl)) (mvT hZ (own_w hw 8 rfl)) (mvT hZ (own_w hw 9 rfl)) (by decide) (backOf (W := 1) (rmNew l Z a0 hw [] b1674 h1674 n0 z1680 A1674 F1675 F1676 F1677 F1678 F1679 G1674) hZ (own_w hw 9 rfl) (own_w hw 6 rfl) (by decide) (by decide)) (g := (mkF m 117 (own_L_334 q1 p2 p3 q4 p5 df ex lk m2 m3 (.val (.int (3 : Int32))) (.val (.long m3)) .second (.val (.long mx)) .second .unset .unset .unset .unset .unset .unset .unset .unset) [(.ref b1674), (.ref b1674)])) rfl (by rw [hml]; rfl) (Steps.refl _) (a := b1674) (argsL := []) (rest := [(.ref b1674)]) (lenOf pd_313 rfl) rfl (by show 2 * 0 + _ ≤ _; exact Nat.le_of_eq rfl) (hb hby at_117) (fun _ _ => ⟨rfl, e1674, (by decide : 1 + 2 ≤ _), (by decide : 6 + 4 ≤ _)⟩)
    dsimp only [Pt.U, Pt.locs, Pt.cells, Pt.slots] at X1681 l1681 y1681 z1681 st1681 hQ1681
    subst l1681 y1681 z1681
    obtain ⟨rfl, Nq1681, z1681, P1681⟩ := hQ1681
    have N1681 := Fr.app N1671 Nq1681
    have z1682 : n0 ≤ T1681.heap.size := Nat.le_trans z1680 z1681
    obtain ⟨cq1683, kq1683, q1683a, q1683b, q1683c⟩ := isOf hZ rfl (own_pt_exa P1681)
    obtain ⟨_, _, ⟨T1683, L1683, k1683, n1683⟩, -, X1683, ⟨Lc1683, hQ1683, l1683, y1683, z1683⟩, st1683⟩ := X1681.virtualBack hx (y := own_y_38) (z := own_y_38) hown (mvT hZ (own_w hw 19 rfl)) (mvT hZ (own_w hw 20 rfl)) (notFace_of_selects (args := #[]) (mvT hZ (own_w hw 22 rfl))) (mvT hZ (own_w hw 22 rfl)) (mvT hZ (own_w hw 21 rfl)) (by decide) (backOf (W := 0) (rmEmpT l Z a0 hw [] b1674 _ _ _ _ _ _ T1681.heap n0 z1682 P1681 (by decide)) hZ (own_w hw 23 rfl) (own_w hw 6 rfl) (by decide) (by decide)) q1683a q1683c (g := (mkF m 124 (own_L_334 q1 p2 p3 q4 p5 df ex lk m2 m3 (.val (.int (3 : Int32))) (.val (.long m3)) .second (.val (.long mx)) .second (.val (.ref b1674)) .unset .unset .unset .unset .unset .unset .unset) [(.ref b1674)])) rfl (by rw [hml]; rfl) (Steps.refl _) (argsL := []) (rest := []) (lenOf pd_48 rfl) rfl (by show 2 * 0 + _ ≤ _; exact Nat.le_of_eq rfl) (hb hby at_124) (fun _ _ => ⟨rfl, rfl, (by decide : 3 + 0 ≤ _), (by decide : 10 + 0 ≤ _)⟩)
    dsimp only [Pt.U, Pt.locs, Pt.cells, Pt.slots] at X1683 l1683 y1683 z1683 st1683 hQ1683
    subst l1683 y1683 z1683
    obtain ⟨rfl, Nq1683, e1683⟩ := hQ1683
    have N1683 := Fr.app N1681 Nq1683
    have pre1684 : ∀ t, Steps p.tables e below (T1683.setTop (mkF m 129 (own_L_334 q1 p2 p3 q4 p5 df ex lk m2 m3 (.val (.int (3 : Int32))) (.val (.long m3)) .second (.val (.long mx)) .second (.val (.ref b1674)) (.val (.int (1 : Int32))) .unset .unset .unset .unset .unset .unset) [])) t → Steps p.tables e below (s₁.setTop (entryFrame m #[(.long q1), (.int p2), (.int p3), (.long q4), (.int p5)] maxLocals)) t := fun t kt => pre1673 t (by
      show Steps p.tables e below (T1671.setTop (mkF m 111 (own_L_334 q1 p2 p3 q4 p5 df ex lk m2 m3 (.val (.int (3 : Int32))) (.val (.long m3)) .second .unset .unset .unset .unset .unset .unset .unset .unset .unset .unset) [(.long mx)])) _
      refine XS.lstore X1671.here hx rfl (hb hby at_111) rfl (l' := (own_L_334 q1 p2 p3 q4 p5 df ex lk m2 m3 (.val (.int (3 : Int32))) (.val (.long m3)) .second (.val (.long mx)) .second .unset .unset .unset .unset .unset .unset .unset .unset)) rfl ?_
      refine st1674 _ ?_
      refine XS.dup X1674.here hx rfl (hb hby at_116) rfl rfl ?_
      refine st1681.trans ?_
      refine XS.astore X1681.here hx rfl (hb hby at_120) rfl rfl (l' := (own_L_334 q1 p2 p3 q4 p5 df ex lk m2 m3 (.val (.int (3 : Int32))) (.val (.long m3)) .second (.val (.long mx)) .second (.val (.ref b1674)) .unset .unset .unset .unset .unset .unset .unset)) rfl ?_
      refine XS.aload X1681.here hx rfl (hb hby at_122) rfl rfl ?_
      refine st1683.trans ?_
      refine XS.istore X1683.here hx rfl (hb hby at_127) rfl (l' := (own_L_334 q1 p2 p3 q4 p5 df ex lk m2 m3 (.val (.int (3 : Int32))) (.val (.long m3)) .second (.val (.long mx)) .second (.val (.ref b1674)) (.val (.int (1 : Int32))) .unset .unset .unset .unset .unset .unset)) rfl ?_
      exact kt)
    obtain ⟨cq1685, kq1685, q1685a, q1685b, q1685c⟩ := isOf hZ e1683 (own_pt_exa P1681)
    obtain ⟨_, _, ⟨T1685, L1685, k1685, n1685⟩, -, X1685, ⟨Lc1685, hQ1685, l1685, y1685, z1685⟩, st1685⟩ := X1683.virtualBack hx (y := own_y_103) (z := own_y_103) hown (mvT hZ (own_w hw 28 rfl)) (mvT hZ (own_w hw 29 rfl)) (notFace_of_selects (args := #[]) (mvT hZ (own_w hw 31 rfl))) (mvT hZ (own_w hw 31 rfl)) (mvT hZ (own_w hw 30 rfl)) (by decide) (backOf (W := 0) (rmCnt002a l Z a0 hw [] b1674 q1 p3 lk (0 : Int64) (0 : Int64) (0 : Int32) (0 : Int32) (0 : Int32) T1681.heap n0 z1682 P1681) hZ (own_w hw 32 rfl) (own_w hw 6 rfl) (by decide) (by decide)) q1685a q1685c (g := (mkF m 142 (own_L_341 q1 p2 p3 q4 p5 df ex lk m2 m3 mx b1674 .unset) [(.int lk), (.int p3), (.long q1), (.ref b1674)])) rfl (by rw [hml]; rfl) (Steps.refl _) (argsL := [(.long q1), (.int p3), (.int lk)]) (rest := []) (lenOf pd_105 rfl) rfl (by show 2 * 0 + _ ≤ _; exact Nat.le_of_eq rfl) (hb hby at_142) (fun _ _ => ⟨rfl, e1683, (by decide : 3 + 0 ≤ _), (by decide : 10 + 0 ≤ _)⟩)
    dsimp only [Pt.U, Pt.locs, Pt.cells, Pt.slots] at X1685 l1685 y1685 z1685 st1685 hQ1685
    subst l1685 y1685 z1685
    obtain ⟨rfl, Nq1685, z1685, P1685⟩ := hQ1685
    have N1685 := Fr.app N1683 Nq1685
    have z1686 : n0 ≤ T1685.heap.size := Nat.le_trans z1682 z1685
    have pre1688 : ∀ t, Steps p.tables e below (T1685.setTop (mkF m 160 (own_L_341 q1 p2 p3 q4 p5 df ex lk m2 m3 mx b1674 .unset) [(.int lk), (.int (p3 + (1 : Int32))), (.long m2), (.ref b1674)])) t → Steps p.tables e below (s₁.setTop (entryFrame m #[(.long q1), (.int p2), (.int p3), (.long q4), (.int p5)] maxLocals)) t := fun t kt => pre1684 t (by
      show Steps p.tables e below (T1683.setTop (mkF m 129 (own_L_341 q1 p2 p3 q4 p5 df ex lk m2 m3 mx b1674 .unset) [])) _
      refine XS.iload X1683.here hx rfl (hb hby at_129) rfl ?_
      refine XS.iconst X1683.here hx rfl (hb hby at_131) ?_
      refine XS.icmpNo X1683.here hx rfl (hb hby at_132) rfl (flt (by decide : ¬ ((3 : Int32) < (1 : Int32)))).1 ?_
      refine XS.aload X1683.here hx rfl (hb hby at_135) rfl rfl ?_
      refine XS.lload X1683.here hx rfl (hb hby at_137) rfl ?_
      refine XS.iloadN X1683.here hx rfl (hb hby at_139) rfl ?_
      refine XS.iload X1683.here hx rfl (hb hby at_140) rfl ?_
      refine st1685.trans ?_
      refine XS.iload X1685.here hx rfl (hb hby at_145) rfl ?_
      refine XS.iconst X1685.here hx rfl (hb hby at_147) ?_
      refine XS.icmpNo X1685.here hx rfl (hb hby at_148) rfl (flt (by decide : ¬ ((3 : Int32) < (2 : Int32)))).1 ?_
      refine XS.aload X1685.here hx rfl (hb hby at_151) rfl rfl ?_
      show Steps p.tables e below (T1685.setTop (mkF m 153 (own_L_341 q1 p2 p3 q4 p5 df ex lk m2 m3 mx b1674 .unset) [(.ref b1674)])) _
      refine XS.lload X1685.here hx rfl (hb hby at_153) rfl ?_
      refine XS.iloadN X1685.here hx rfl (hb hby at_155) rfl ?_
      refine XS.iconst X1685.here hx rfl (hb hby at_156) ?_
      refine XS.iadd X1685.here hx rfl (hb hby at_157) rfl ?_
      refine XS.iload X1685.here hx rfl (hb hby at_158) rfl ?_
      exact kt)
    obtain ⟨lk1687, hlk1687⟩ : ∃ z : Int32, z = (if lk = (0 : Int32) then (1 : Int32) else (0 : Int32)) := ⟨_, rfl⟩
    have pre1690 : ∀ t, Steps p.tables e below (T1685.setTop (mkF m 168 (own_L_341 q1 p2 p3 q4 p5 df ex lk m2 m3 mx b1674 .unset) [(.int lk1687), (.int (p3 + (1 : Int32))), (.long m2), (.ref b1674)])) t → Steps p.tables e below (s₁.setTop (entryFrame m #[(.long q1), (.int p2), (.int p3), (.long q4), (.int p5)] maxLocals)) t := fun t kt => pre1688 t (by
      by_cases hc1689 : lk = (0 : Int32)
      case pos =>
        show Steps p.tables e below (T1685.setTop (mkF m 160 (own_L_341 q1 p2 p3 q4 p5 df ex lk m2 m3 mx b1674 .unset) [(.int lk), (.int (p3 + (1 : Int32))), (.long m2), (.ref b1674)])) _
        refine XS.ifNo X1685.here hx rfl (hb hby at_160) rfl ((if0 _ _).trans (teq hc1689).2) ?_
        refine XS.iconst X1685.here hx rfl (hb hby at_163) ?_
        refine XS.goto X1685.here hx rfl (pc0 := 164) (pc' := 168) rfl (hb hby at_164) (by decide) (by decide) ?_
        rw [show lk1687 = (1 : Int32) from (hlk1687.trans (if_pos hc1689))] at kt
        exact kt
      case neg =>
        show Steps p.tables e below (T1685.setTop (mkF m 160 (own_L_341 q1 p2 p3 q4 p5 df ex lk m2 m3 mx b1674 .unset) [(.int lk), (.int (p3 + (1 : Int32))), (.long m2), (.ref b1674)])) _
        refine XS.ifYes X1685.here hx rfl (pc0 := 160) (pc' := 167) rfl (hb hby at_160) rfl ((if0 _ _).trans (feq hc1689).2) (by decide) (by decide) ?_
        refine XS.iconst X1685.here hx rfl (hb hby at_167) ?_
        rw [show lk1687 = (0 : Int32) from (hlk1687.trans (if_neg hc1689))] at kt
        exact kt)
    by_cases hc1691 : q1 < m2
    case pos =>
      obtain ⟨cq1692, kq1692, q1692a, q1692b, q1692c⟩ := isOf hZ rfl (own_pt_exa P1685)
      obtain ⟨_, _, ⟨T1692, L1692, k1692, n1692⟩, -, X1692, ⟨Lc1692, hQ1692, l1692, y1692, z1692⟩, st1692⟩ := X1685.virtualBack hx (y := own_y_103) (z := own_y_103) hown (mvT hZ (own_w hw 28 rfl)) (mvT hZ (own_w hw 29 rfl)) (notFace_of_selects (args := #[]) (mvT hZ (own_w hw 31 rfl))) (mvT hZ (own_w hw 31 rfl)) (mvT hZ (own_w hw 30 rfl)) (by decide) (backOf (W := 0) (rmCnt012a l Z a0 hw [] b1674 m2 (p3 + (1 : Int32)) lk1687 q1 (0 : Int64) p3 (0 : Int32) (if lk = (0 : Int32) then (p3 + (1 : Int32)) else (p3 - (1 : Int32))) T1685.heap n0 z1686 P1685 hc1691) hZ (own_w hw 32 rfl) (own_w hw 6 rfl) (by decide) (by decide)) q1692a q1692c (g := (mkF m 168 (own_L_341 q1 p2 p3 q4 p5 df ex lk m2 m3 mx b1674 .unset) [(.int lk1687), (.int (p3 + (1 : Int32))), (.long m2), (.ref b1674)])) rfl (by rw [hml]; rfl) (Steps.refl _) (argsL := [(.long m2), (.int (p3 + (1 : Int32))), (.int lk1687)]) (rest := []) (lenOf pd_105 rfl) rfl (by show 2 * 0 + _ ≤ _; exact Nat.le_of_eq rfl) (hb hby at_168) (fun _ _ => ⟨rfl, rfl, (by decide : 3 + 0 ≤ _), (by decide : 10 + 0 ≤ _)⟩)
      dsimp only [Pt.U, Pt.locs, Pt.cells, Pt.slots] at X1692 l1692 y1692 z1692 st1692 hQ1692
      subst l1692 y1692 z1692
      obtain ⟨rfl, Nq1692, z1692, P1692⟩ := hQ1692
      have N1692 := Fr.app N1685 Nq1692
      have z1693 : n0 ≤ T1692.heap.size := Nat.le_trans z1686 z1692
      have pre1694 : ∀ t, Steps p.tables e below (T1692.setTop (mkF m 186 (own_L_341 q1 p2 p3 q4 p5 df ex lk m2 m3 mx b1674 .unset) [(.int lk), (.int (p3 - (1 : Int32))), (.long m3), (.ref b1674)])) t → Steps p.tables e below (s₁.setTop (entryFrame m #[(.long q1), (.int p2), (.int p3), (.long q4), (.int p5)] maxLocals)) t := fun t kt => pre1690 t (by
        show Steps p.tables e below (T1685.setTop (mkF m 168 (own_L_341 q1 p2 p3 q4 p5 df ex lk m2 m3 mx b1674 .unset) [(.int lk1687), (.int (p3 + (1 : Int32))), (.long m2), (.ref b1674)])) _
        refine st1692.trans ?_
        refine XS.iload X1692.here hx rfl (hb hby at_171) rfl ?_
        refine XS.iconst X1692.here hx rfl (hb hby at_173) ?_
        refine XS.icmpNo X1692.here hx rfl (hb hby at_174) rfl (flt (by decide : ¬ ((3 : Int32) < (3 : Int32)))).1 ?_
        refine XS.aload X1692.here hx rfl (hb hby at_177) rfl rfl ?_
        refine XS.lload X1692.here hx rfl (hb hby at_179) rfl ?_
        refine XS.iloadN X1692.here hx rfl (hb hby at_181) rfl ?_
        refine XS.iconst X1692.here hx rfl (hb hby at_182) ?_
        refine XS.isub X1692.here hx rfl (hb hby at_183) rfl ?_
        refine XS.iload X1692.here hx rfl (hb hby at_184) rfl ?_
        exact kt)
      by_cases hc1695 : m2 < m3
      case pos =>
        obtain ⟨cq1696, kq1696, q1696a, q1696b, q1696c⟩ := isOf hZ rfl (own_pt_exa P1692)
        obtain ⟨_, _, ⟨T1696, L1696, k1696, n1696⟩, -, X1696, ⟨Lc1696, hQ1696, l1696, y1696, z1696⟩, st1696⟩ := X1692.virtualBack hx (y := own_y_103) (z := own_y_103) hown (mvT hZ (own_w hw 28 rfl)) (mvT hZ (own_w hw 29 rfl)) (notFace_of_selects (args := #[]) (mvT hZ (own_w hw 31 rfl))) (mvT hZ (own_w hw 31 rfl)) (mvT hZ (own_w hw 30 rfl)) (by decide) (backOf (W := 0) (rmCnt022a l Z a0 hw [] b1674 m3 (p3 - (1 : Int32)) lk q1 m2 p3 (p3 + (1 : Int32)) (if lk = (0 : Int32) then (p3 + (1 : Int32)) else (p3 - (1 : Int32))) T1692.heap n0 z1693 P1692 hc1695) hZ (own_w hw 32 rfl) (own_w hw 6 rfl) (by decide) (by decide)) q1696a q1696c (g := (mkF m 186 (own_L_341 q1 p2 p3 q4 p5 df ex lk m2 m3 mx b1674 .unset) [(.int lk), (.int (p3 - (1 : Int32))), (.long m3), (.ref b1674)])) rfl (by rw [hml]; rfl) (Steps.refl _) (argsL := [(.long m3), (.int (p3 - (1 : Int32))), (.int lk)]) (rest := []) (lenOf pd_105 rfl) rfl (by show 2 * 0 + _ ≤ _; exact Nat.le_of_eq rfl) (hb hby at_186) (fun _ _ => ⟨rfl, rfl, (by decide : 3 + 2 ≤ _), (by decide : 10 + 8 ≤ _)⟩)
        dsimp only [Pt.U, Pt.locs, Pt.cells, Pt.slots] at X1696 l1696 y1696 z1696 st1696 hQ1696
        subst l1696 y1696 z1696
        obtain ⟨rfl, Nq1696, z1696, P1696⟩ := hQ1696
        have N1696 := Fr.app N1692 Nq1696
        have z1697 : n0 ≤ T1696.heap.size := Nat.le_trans z1693 z1696
        obtain ⟨cq1698, kq1698, q1698a, q1698b, q1698c⟩ := isOf hZ rfl (own_pt_exa P1696)
        obtain ⟨_, _, ⟨T1698, L1698, k1698, n1698⟩, -, X1698, ⟨Lc1698, hQ1698, l1698, y1698, z1698⟩, st1698⟩ := X1696.virtualBack hx (y := own_y_38) (z := own_y_38) hown (mvT hZ (own_w hw 19 rfl)) (mvT hZ (own_w hw 20 rfl)) (notFace_of_selects (args := #[]) (mvT hZ (own_w hw 22 rfl))) (mvT hZ (own_w hw 22 rfl)) (mvT hZ (own_w hw 21 rfl)) (by decide) (backOf (W := 0) (rmEmpF l Z a0 hw [] b1674 _ _ _ _ _ _ T1696.heap n0 z1697 P1696 (by decide)) hZ (own_w hw 23 rfl) (own_w hw 6 rfl) (by decide) (by decide)) q1698a q1698c (g := (mkF m 191 (own_L_341 q1 p2 p3 q4 p5 df ex lk m2 m3 mx b1674 .unset) [(.ref b1674)])) rfl (by rw [hml]; rfl) (Steps.refl _) (argsL := []) (rest := []) (lenOf pd_48 rfl) rfl (by show 2 * 0 + _ ≤ _; exact Nat.le_of_eq rfl) (hb hby at_191) (fun _ _ => ⟨rfl, rfl, (by decide : 5 + 0 ≤ _), (by decide : 18 + 0 ≤ _)⟩)
        dsimp only [Pt.U, Pt.locs, Pt.cells, Pt.slots] at X1698 l1698 y1698 z1698 st1698 hQ1698
        subst l1698 y1698 z1698
        obtain ⟨rfl, Nq1698, e1698⟩ := hQ1698
        have N1698 := Fr.app N1696 Nq1698
        have pre1699 : ∀ t, Steps p.tables e below (T1698.setTop (mkF m 196 #[.val (.long q1), .second, .val (.int p2), .val (.int p3), .val (.long q4), .second, .val (.int p5), .val (.int (3 : Int32)), .val (.int df), .val (.int ex), .val (.int lk), .val (.long q1), .second, .val (.long m2), .second, .val (.long m3), .second, .val (.long m3), .second, .val (.long mx), .second, .val (.ref b1674), .val (.int (1 : Int32)), .val (.int (0 : Int32)), .unset, .unset, .unset, .unset, .unset] [])) t → Steps p.tables e below (s₁.setTop (entryFrame m #[(.long q1), (.int p2), (.int p3), (.long q4), (.int p5)] maxLocals)) t := fun t kt => pre1694 t (by
          show Steps p.tables e below (T1692.setTop (mkF m 186 (own_L_341 q1 p2 p3 q4 p5 df ex lk m2 m3 mx b1674 .unset) [(.int lk), (.int (p3 - (1 : Int32))), (.long m3), (.ref b1674)])) _
          refine st1696.trans ?_
          refine XS.aload X1696.here hx rfl (hb hby at_189) rfl rfl ?_
          refine st1698.trans ?_
          refine XS.istore X1698.here hx rfl (hb hby at_194) rfl (l' := (own_L_341 q1 p2 p3 q4 p5 df ex lk m2 m3 mx b1674 (.val (.int (0 : Int32))))) rfl ?_
          exact kt)
        obtain ⟨T1700, L1700, X1700, N1700, st1700⟩ := sg034 q1 p2 p3 q4 p5 (3 : Int32) df ex lk m2 m3 m3 mx b1674 (1 : Int32) (0 : Int32) q1 m2 m3 (0 : Int64) p3 (p3 + (1 : Int32)) (p3 - (1 : Int32)) (0 : Int32) (if lk = (0 : Int32) then (p3 + (1 : Int32)) else (p3 - (1 : Int32))) (own_more X1698 (by decide) (by decide)) hx hZ hw hby hml hown N1698 (by rw [e1698]; exact z1697) (by rw [e1698]; exact P1696) rfl hc1691 hc1695
        have pre1701 : ∀ t, Steps p.tables e below (T1700.setTop (mkF m 237 #[.val (.long q1), .second, .val (.int p2), .val (.int p3), .val (.long q4), .second, .val (.int p5), .val (.int (3 : Int32)), .val (.int df), .val (.int ex), .val (.int lk), .val (.long q1), .second, .val (.long m2), .second, .val (.long m3), .second, .val (.long m3), .second, .val (.long mx), .second, .val (.ref b1674), .val (.int (1 : Int32)), .val (.int (0 : Int32)), .val (.int (if df = (0 : Int32) then (0 : Int32) else (if m3 < q4 then (1 : Int32) else (0 : Int32)))), .val (.int (if ex = (0 : Int32) then (if df = (0 : Int32) then (0 : Int32) else (if m3 < q4 then (1 : Int32) else (0 : Int32))) else (0 : Int32))), .unset, .unset, .unset] [])) t → Steps p.tables e below (s₁.setTop (entryFrame m #[(.long q1), (.int p2), (.int p3), (.long q4), (.int p5)] maxLocals)) t := fun t kt => pre1699 t (st1700 t kt)
        obtain ⟨e3v, he3v⟩ : ∃ z : Int32, z = (if ex = (0 : Int32) then (if df = (0 : Int32) then (0 : Int32) else (if m3 < q4 then (1 : Int32) else (0 : Int32))) else (0 : Int32)) := ⟨_, rfl⟩
        have pre1702 : ∀ t, Steps p.tables e below (T1700.setTop (mkF m 237 #[.val (.long q1), .second, .val (.int p2), .val (.int p3), .val (.long q4), .second, .val (.int p5), .val (.int (3 : Int32)), .val (.int df), .val (.int ex), .val (.int lk), .val (.long q1), .second, .val (.long m2), .second, .val (.long m3), .second, .val (.long m3), .second, .val (.long mx), .second, .val (.ref b1674), .val (.int (1 : Int32)), .val (.int (0 : Int32)), .val (.int (if df = (0 : Int32) then (0 : Int32) else (if m3 < q4 then (1 : Int32) else (0 : Int32)))), .val (.int e3v), .unset, .unset, .unset] [])) t → Steps p.tables e below (s₁.setTop (entryFrame m #[(.long q1), (.int p2), (.int p3), (.long q4), (.int p5)] maxLocals)) t := by rw [he3v]; exact pre1701
        obtain ⟨e2v, he2v⟩ : ∃ z : Int32, z = (if df = (0 : Int32) then (0 : Int32) else (if m3 < q4 then (1 : Int32) else (0 : Int32))) := ⟨_, rfl⟩
        have pre1703 : ∀ t, Steps p.tables e below (T1700.setTop (mkF m 237 #[.val (.long q1), .second, .val (.int p2), .val (.int p3), .val (.long q4), .second, .val (.int p5), .val (.int (3 : Int32)), .val (.int df), .val (.int ex), .val (.int lk), .val (.long q1), .second, .val (.long m2), .second, .val (.long m3), .second, .val (.long m3), .second, .val (.long mx), .second, .val (.ref b1674), .val (.int (1 : Int32)), .val (.int (0 : Int32)), .val (.int e2v), .val (.int e3v), .unset, .unset, .unset] [])) t → Steps p.tables e below (s₁.setTop (entryFrame m #[(.long q1), (.int p2), (.int p3), (.long q4), (.int p5)] maxLocals)) t := by rw [he2v]; exact pre1702
        have pre1704 : ∀ t, Steps p.tables e below (T1700.setTop (mkF m 256 (own_L_342 q1 p2 p3 q4 p5 df ex lk m2 m3 mx b1674 e2v e3v (.val (.int (0 : Int32))) .unset .unset) [(.int df)])) t → Steps p.tables e below (s₁.setTop (entryFrame m #[(.long q1), (.int p2), (.int p3), (.long q4), (.int p5)] maxLocals)) t := fun t kt => pre1703 t (by
          show Steps p.tables e below (T1700.setTop (mkF m 237 (own_L_342 q1 p2 p3 q4 p5 df ex lk m2 m3 mx b1674 e2v e3v .unset .unset .unset) [])) _
          refine XS.iload X1700.here hx rfl (hb hby at_237) rfl ?_
          refine XS.ifYes X1700.here hx rfl (pc0 := 239) (pc' := 246) rfl (hb hby at_239) rfl ((if0 _ _).trans (feq (by decide : ¬ ((3 : Int32) = (0 : Int32)))).2) (by decide) (by decide) ?_
          refine XS.iconst X1700.here hx rfl (hb hby at_246) ?_
          refine XS.istore X1700.here hx rfl (hb hby at_247) rfl (l' := (own_L_342 q1 p2 p3 q4 p5 df ex lk m2 m3 mx b1674 e2v e3v (.val (.int (0 : Int32))) .unset .unset)) rfl ?_
          refine XS.iload X1700.here hx rfl (hb hby at_249) rfl ?_
          refine XS.ifNo X1700.here hx rfl (hb hby at_251) rfl ((if0 _ _).trans (feq (by decide : ¬ ((3 : Int32) = (0 : Int32)))).1) ?_
          refine XS.iload X1700.here hx rfl (hb hby at_254) rfl ?_
          exact kt)
        obtain ⟨w2, hw2⟩ : ∃ z : Int32, z = (if df = (0 : Int32) then (0 : Int32) else (if m3 < q4 then (1 : Int32) else (0 : Int32))) := ⟨_, rfl⟩
        have pre1707 : ∀ t, Steps p.tables e below (T1700.setTop (mkF m 272 (own_L_342 q1 p2 p3 q4 p5 df ex lk m2 m3 mx b1674 e2v e3v (.val (.int (0 : Int32))) .unset .unset) [(.int w2)])) t → Steps p.tables e below (s₁.setTop (entryFrame m #[(.long q1), (.int p2), (.int p3), (.long q4), (.int p5)] maxLocals)) t := fun t kt => pre1704 t (by
          by_cases hc1705 : df = (0 : Int32)
          case pos =>
            show Steps p.tables e below (T1700.setTop (mkF m 256 (own_L_342 q1 p2 p3 q4 p5 df ex lk m2 m3 mx b1674 e2v e3v (.val (.int (0 : Int32))) .unset .unset) [(.int df)])) _
            refine XS.ifYes X1700.here hx rfl (pc0 := 256) (pc' := 271) rfl (hb hby at_256) rfl ((if0 _ _).trans (teq hc1705).1) (by decide) (by decide) ?_
            refine XS.iconst X1700.here hx rfl (hb hby at_271) ?_
            rw [show w2 = (0 : Int32) from (hw2.trans (if_pos hc1705))] at kt
            exact kt
          case neg =>
            show Steps p.tables e below (T1700.setTop (mkF m 256 (own_L_342 q1 p2 p3 q4 p5 df ex lk m2 m3 mx b1674 e2v e3v (.val (.int (0 : Int32))) .unset .unset) [(.int df)])) _
            refine XS.ifNo X1700.here hx rfl (hb hby at_256) rfl ((if0 _ _).trans (feq hc1705).1) ?_
            refine XS.lload X1700.here hx rfl (hb hby at_259) rfl ?_
            refine XS.lload X1700.here hx rfl (hb hby at_261) rfl ?_
            refine XS.lcmp X1700.here hx rfl (hb hby at_263) rfl ?_
            by_cases hc1706 : m3 < q4
            case pos =>
              show Steps p.tables e below (T1700.setTop (mkF m 264 (own_L_342 q1 p2 p3 q4 p5 df ex lk m2 m3 mx b1674 e2v e3v (.val (.int (0 : Int32))) .unset .unset) [(.int (lcmpW m3 q4))])) _
              refine XS.ifNo X1700.here hx rfl (hb hby at_264) rfl ((if0 _ _).trans (tlt ((lw_lt _ _).mpr hc1706)).2.1) ?_
              refine XS.iconst X1700.here hx rfl (hb hby at_267) ?_
              refine XS.goto X1700.here hx rfl (pc0 := 268) (pc' := 272) rfl (hb hby at_268) (by decide) (by decide) ?_
              rw [show w2 = (1 : Int32) from ((hw2.trans (if_neg hc1705)).trans (if_pos hc1706))] at kt
              exact kt
            case neg =>
              show Steps p.tables e below (T1700.setTop (mkF m 264 (own_L_342 q1 p2 p3 q4 p5 df ex lk m2 m3 mx b1674 e2v e3v (.val (.int (0 : Int32))) .unset .unset) [(.int (lcmpW m3 q4))])) _
              refine XS.ifYes X1700.here hx rfl (pc0 := 264) (pc' := 271) rfl (hb hby at_264) rfl ((if0 _ _).trans (flt (fun q => hc1706 ((lw_lt _ _).mp q))).2.1) (by decide) (by decide) ?_
              refine XS.iconst X1700.here hx rfl (hb hby at_271) ?_
              rw [show w2 = (0 : Int32) from ((hw2.trans (if_neg hc1705)).trans (if_neg hc1706))] at kt
              exact kt)
        have k2 : e2v = w2 := he2v.trans hw2.symm
        have pre1708 : ∀ t, Steps p.tables e below (T1700.setTop (mkF m 276 (own_L_342 q1 p2 p3 q4 p5 df ex lk m2 m3 mx b1674 e2v e3v (.val (.int (0 : Int32))) (.val (.int w2)) .unset) [(.int ex)])) t → Steps p.tables e below (s₁.setTop (entryFrame m #[(.long q1), (.int p2), (.int p3), (.long q4), (.int p5)] maxLocals)) t := fun t kt => pre1707 t (by
          show Steps p.tables e below (T1700.setTop (mkF m 272 (own_L_342 q1 p2 p3 q4 p5 df ex lk m2 m3 mx b1674 e2v e3v (.val (.int (0 : Int32))) .unset .unset) [(.int w2)])) _
          refine XS.istore X1700.here hx rfl (hb hby at_272) rfl (l' := (own_L_342 q1 p2 p3 q4 p5 df ex lk m2 m3 mx b1674 e2v e3v (.val (.int (0 : Int32))) (.val (.int w2)) .unset)) rfl ?_
          refine XS.iload X1700.here hx rfl (hb hby at_274) rfl ?_
          exact kt)
        obtain ⟨w3, hw3⟩ : ∃ z : Int32, z = (if ex = (0 : Int32) then w2 else (0 : Int32)) := ⟨_, rfl⟩
        have pre1710 : ∀ t, Steps p.tables e below (T1700.setTop (mkF m 285 (own_L_342 q1 p2 p3 q4 p5 df ex lk m2 m3 mx b1674 e2v e3v (.val (.int (0 : Int32))) (.val (.int w2)) .unset) [(.int w3)])) t → Steps p.tables e below (s₁.setTop (entryFrame m #[(.long q1), (.int p2), (.int p3), (.long q4), (.int p5)] maxLocals)) t := fun t kt => pre1708 t (by
          by_cases hc1709 : ex = (0 : Int32)
          case pos =>
            show Steps p.tables e below (T1700.setTop (mkF m 276 (own_L_342 q1 p2 p3 q4 p5 df ex lk m2 m3 mx b1674 e2v e3v (.val (.int (0 : Int32))) (.val (.int w2)) .unset) [(.int ex)])) _
            refine XS.ifYes X1700.here hx rfl (pc0 := 276) (pc' := 283) rfl (hb hby at_276) rfl ((if0 _ _).trans (teq hc1709).1) (by decide) (by decide) ?_
            refine XS.iload X1700.here hx rfl (hb hby at_283) rfl ?_
            rw [show w3 = w2 from (hw3.trans (if_pos hc1709))] at kt
            exact kt
          case neg =>
            show Steps p.tables e below (T1700.setTop (mkF m 276 (own_L_342 q1 p2 p3 q4 p5 df ex lk m2 m3 mx b1674 e2v e3v (.val (.int (0 : Int32))) (.val (.int w2)) .unset) [(.int ex)])) _
            refine XS.ifNo X1700.here hx rfl (hb hby at_276) rfl ((if0 _ _).trans (feq hc1709).1) ?_
            refine XS.iconst X1700.here hx rfl (hb hby at_279) ?_
            refine XS.goto X1700.here hx rfl (pc0 := 280) (pc' := 285) rfl (hb hby at_280) (by decide) (by decide) ?_
            rw [show w3 = (0 : Int32) from (hw3.trans (if_neg hc1709))] at kt
            exact kt)
        have k3 : e3v = w3 := by rw [he3v, hw3, hw2]
        have pre1711 : ∀ t, Steps p.tables e below (T1700.setTop (mkF m 318 (own_L_342 q1 p2 p3 q4 p5 df ex lk m2 m3 mx b1674 e2v e3v (.val (.int (0 : Int32))) (.val (.int w2)) (.val (.int w3))) [(.int (1 : Int32))])) t → Steps p.tables e below (s₁.setTop (entryFrame m #[(.long q1), (.int p2), (.int p3), (.long q4), (.int p5)] maxLocals)) t := fun t kt => pre1710 t (by
          show Steps p.tables e below (T1700.setTop (mkF m 285 (own_L_342 q1 p2 p3 q4 p5 df ex lk m2 m3 mx b1674 e2v e3v (.val (.int (0 : Int32))) (.val (.int w2)) .unset) [(.int w3)])) _
          refine XS.istore X1700.here hx rfl (hb hby at_285) rfl (l' := (own_L_342 q1 p2 p3 q4 p5 df ex lk m2 m3 mx b1674 e2v e3v (.val (.int (0 : Int32))) (.val (.int w2)) (.val (.int w3)))) rfl ?_
          refine XS.iload X1700.here hx rfl (hb hby at_287) rfl ?_
          refine XS.ifNo X1700.here hx rfl (hb hby at_289) rfl ((if0 _ _).trans (feq (by decide : ¬ ((1 : Int32) = (0 : Int32)))).1) ?_
          refine XS.iload X1700.here hx rfl (hb hby at_292) rfl ?_
          refine XS.iload X1700.here hx rfl (hb hby at_294) rfl ?_
          refine XS.icmpNo X1700.here hx rfl (hb hby at_296) rfl (teq (by decide : (0 : Int32) = (0 : Int32))).2 ?_
          refine XS.iload X1700.here hx rfl (hb hby at_299) rfl ?_
          refine XS.iload X1700.here hx rfl (hb hby at_301) rfl ?_
          refine XS.icmpNo X1700.here hx rfl (hb hby at_303) rfl (teq k2).2 ?_
          refine XS.iload X1700.here hx rfl (hb hby at_306) rfl ?_
          refine XS.iload X1700.here hx rfl (hb hby at_308) rfl ?_
          refine XS.icmpNo X1700.here hx rfl (hb hby at_310) rfl (teq k3).2 ?_
          show Steps p.tables e below (T1700.setTop (mkF m 313 (own_L_342 q1 p2 p3 q4 p5 df ex lk m2 m3 mx b1674 e2v e3v (.val (.int (0 : Int32))) (.val (.int w2)) (.val (.int w3))) [])) _
          refine XS.iconst X1700.here hx rfl (hb hby at_313) ?_
          refine XS.goto X1700.here hx rfl (pc0 := 314) (pc' := 318) rfl (hb hby at_314) (by decide) (by decide) ?_
          exact kt)
        exact own_retN X1700 hx Bd.notSynchronized (t := .boolean) Bd.returns (by simp) (hb hby at_318) pre1711 (show Q0 h0 n0 _ _ _ from ⟨rfl, N1700⟩) (by decide) (by decide)
      case neg =>
        obtain ⟨cq1712, kq1712, q1712a, q1712b, q1712c⟩ := isOf hZ rfl (own_pt_exa P1692)
        obtain ⟨_, _, ⟨T1712, L1712, k1712, n1712⟩, -, X1712, ⟨Lc1712, hQ1712, l1712, y1712, z1712⟩, st1712⟩ := X1692.virtualBack hx (y := own_y_103) (z := own_y_103) hown (mvT hZ (own_w hw 28 rfl)) (mvT hZ (own_w hw 29 rfl)) (notFace_of_selects (args := #[]) (mvT hZ (own_w hw 31 rfl))) (mvT hZ (own_w hw 31 rfl)) (mvT hZ (own_w hw 30 rfl)) (by decide) (backOf (W := 0) (rmCnt022o l Z a0 hw [] b1674 m3 (p3 - (1 : Int32)) lk q1 m2 p3 (p3 + (1 : Int32)) (if lk = (0 : Int32) then (p3 + (1 : Int32)) else (p3 - (1 : Int32))) T1692.heap n0 z1693 P1692 hc1695) hZ (own_w hw 32 rfl) (own_w hw 6 rfl) (by decide) (by decide)) q1712a q1712c (g := (mkF m 186 (own_L_341 q1 p2 p3 q4 p5 df ex lk m2 m3 mx b1674 .unset) [(.int lk), (.int (p3 - (1 : Int32))), (.long m3), (.ref b1674)])) rfl (by rw [hml]; rfl) (Steps.refl _) (argsL := [(.long m3), (.int (p3 - (1 : Int32))), (.int lk)]) (rest := []) (lenOf pd_105 rfl) rfl (by show 2 * 0 + _ ≤ _; exact Nat.le_of_eq rfl) (hb hby at_186) (fun _ _ => ⟨rfl, rfl, (by decide : 3 + 0 ≤ _), (by decide : 10 + 0 ≤ _)⟩)
        dsimp only [Pt.U, Pt.locs, Pt.cells, Pt.slots] at X1712 l1712 y1712 z1712 st1712 hQ1712
        subst l1712 y1712 z1712
        obtain ⟨rfl, Nq1712, z1712, P1712⟩ := hQ1712
        have N1712 := Fr.app N1692 Nq1712
        have z1713 : n0 ≤ T1712.heap.size := Nat.le_trans z1693 z1712
        obtain ⟨cq1714, kq1714, q1714a, q1714b, q1714c⟩ := isOf hZ rfl (own_pt_exa P1712)
        obtain ⟨_, _, ⟨T1714, L1714, k1714, n1714⟩, -, X1714, ⟨Lc1714, hQ1714, l1714, y1714, z1714⟩, st1714⟩ := X1712.virtualBack hx (y := own_y_38) (z := own_y_38) hown (mvT hZ (own_w hw 19 rfl)) (mvT hZ (own_w hw 20 rfl)) (notFace_of_selects (args := #[]) (mvT hZ (own_w hw 22 rfl))) (mvT hZ (own_w hw 22 rfl)) (mvT hZ (own_w hw 21 rfl)) (by decide) (backOf (W := 0) (rmEmpF l Z a0 hw [] b1674 _ _ _ _ _ _ T1712.heap n0 z1713 P1712 (by decide)) hZ (own_w hw 23 rfl) (own_w hw 6 rfl) (by decide) (by decide)) q1714a q1714c (g := (mkF m 191 (own_L_341 q1 p2 p3 q4 p5 df ex lk m2 m3 mx b1674 .unset) [(.ref b1674)])) rfl (by rw [hml]; rfl) (Steps.refl _) (argsL := []) (rest := []) (lenOf pd_48 rfl) rfl (by show 2 * 0 + _ ≤ _; exact Nat.le_of_eq rfl) (hb hby at_191) (fun _ _ => ⟨rfl, rfl, (by decide : 3 + 0 ≤ _), (by decide : 10 + 0 ≤ _)⟩)
        dsimp only [Pt.U, Pt.locs, Pt.cells, Pt.slots] at X1714 l1714 y1714 z1714 st1714 hQ1714
        subst l1714 y1714 z1714
        obtain ⟨rfl, Nq1714, e1714⟩ := hQ1714
        have N1714 := Fr.app N1712 Nq1714
        have pre1715 : ∀ t, Steps p.tables e below (T1714.setTop (mkF m 196 #[.val (.long q1), .second, .val (.int p2), .val (.int p3), .val (.long q4), .second, .val (.int p5), .val (.int (3 : Int32)), .val (.int df), .val (.int ex), .val (.int lk), .val (.long q1), .second, .val (.long m2), .second, .val (.long m3), .second, .val (.long m3), .second, .val (.long mx), .second, .val (.ref b1674), .val (.int (1 : Int32)), .val (.int (0 : Int32)), .unset, .unset, .unset, .unset, .unset] [])) t → Steps p.tables e below (s₁.setTop (entryFrame m #[(.long q1), (.int p2), (.int p3), (.long q4), (.int p5)] maxLocals)) t := fun t kt => pre1694 t (by
          show Steps p.tables e below (T1692.setTop (mkF m 186 (own_L_341 q1 p2 p3 q4 p5 df ex lk m2 m3 mx b1674 .unset) [(.int lk), (.int (p3 - (1 : Int32))), (.long m3), (.ref b1674)])) _
          refine st1712.trans ?_
          refine XS.aload X1712.here hx rfl (hb hby at_189) rfl rfl ?_
          refine st1714.trans ?_
          refine XS.istore X1714.here hx rfl (hb hby at_194) rfl (l' := (own_L_341 q1 p2 p3 q4 p5 df ex lk m2 m3 mx b1674 (.val (.int (0 : Int32))))) rfl ?_
          exact kt)
        have hn1716 : m3 = m2 := Int64.toInt_inj.mp (by rw [Int64.lt_iff_toInt_lt] at ha2 ha3 hc1691 hc1695; omega)
        obtain ⟨T1717, L1717, X1717, N1717, st1717⟩ := sg022 q1 p2 p3 q4 p5 (3 : Int32) df ex lk m2 m3 m3 mx b1674 (1 : Int32) (0 : Int32) q1 m2 p3 (p3 - (1 : Int32)) (if lk = (0 : Int32) then (p3 + (1 : Int32)) else (p3 - (1 : Int32))) (own_more X1714 (by decide) (by decide)) hx hZ hw hby hml hown N1714 (by rw [e1714]; exact z1713) (by rw [e1714]; exact P1712) hn1716 hc1691
        have pre1718 : ∀ t, Steps p.tables e below (T1717.setTop (mkF m 237 #[.val (.long q1), .second, .val (.int p2), .val (.int p3), .val (.long q4), .second, .val (.int p5), .val (.int (3 : Int32)), .val (.int df), .val (.int ex), .val (.int lk), .val (.long q1), .second, .val (.long m2), .second, .val (.long m3), .second, .val (.long m3), .second, .val (.long mx), .second, .val (.ref b1674), .val (.int (1 : Int32)), .val (.int (0 : Int32)), .val (.int (if df = (0 : Int32) then (0 : Int32) else (if m3 < q4 then (1 : Int32) else (0 : Int32)))), .val (.int (if ex = (0 : Int32) then (if df = (0 : Int32) then (0 : Int32) else (if m3 < q4 then (1 : Int32) else (0 : Int32))) else (0 : Int32))), .unset, .unset, .unset] [])) t → Steps p.tables e below (s₁.setTop (entryFrame m #[(.long q1), (.int p2), (.int p3), (.long q4), (.int p5)] maxLocals)) t := fun t kt => pre1715 t (st1717 t kt)
        obtain ⟨e3v, he3v⟩ : ∃ z : Int32, z = (if ex = (0 : Int32) then (if df = (0 : Int32) then (0 : Int32) else (if m3 < q4 then (1 : Int32) else (0 : Int32))) else (0 : Int32)) := ⟨_, rfl⟩
        have pre1719 : ∀ t, Steps p.tables e below (T1717.setTop (mkF m 237 #[.val (.long q1), .second, .val (.int p2), .val (.int p3), .val (.long q4), .second, .val (.int p5), .val (.int (3 : Int32)), .val (.int df), .val (.int ex), .val (.int lk), .val (.long q1), .second, .val (.long m2), .second, .val (.long m3), .second, .val (.long m3), .second, .val (.long mx), .second, .val (.ref b1674), .val (.int (1 : Int32)), .val (.int (0 : Int32)), .val (.int (if df = (0 : Int32) then (0 : Int32) else (if m3 < q4 then (1 : Int32) else (0 : Int32)))), .val (.int e3v), .unset, .unset, .unset] [])) t → Steps p.tables e below (s₁.setTop (entryFrame m #[(.long q1), (.int p2), (.int p3), (.long q4), (.int p5)] maxLocals)) t := by rw [he3v]; exact pre1718
        obtain ⟨e2v, he2v⟩ : ∃ z : Int32, z = (if df = (0 : Int32) then (0 : Int32) else (if m3 < q4 then (1 : Int32) else (0 : Int32))) := ⟨_, rfl⟩
        have pre1720 : ∀ t, Steps p.tables e below (T1717.setTop (mkF m 237 #[.val (.long q1), .second, .val (.int p2), .val (.int p3), .val (.long q4), .second, .val (.int p5), .val (.int (3 : Int32)), .val (.int df), .val (.int ex), .val (.int lk), .val (.long q1), .second, .val (.long m2), .second, .val (.long m3), .second, .val (.long m3), .second, .val (.long mx), .second, .val (.ref b1674), .val (.int (1 : Int32)), .val (.int (0 : Int32)), .val (.int e2v), .val (.int e3v), .unset, .unset, .unset] [])) t → Steps p.tables e below (s₁.setTop (entryFrame m #[(.long q1), (.int p2), (.int p3), (.long q4), (.int p5)] maxLocals)) t := by rw [he2v]; exact pre1719
        have pre1721 : ∀ t, Steps p.tables e below (T1717.setTop (mkF m 256 (own_L_342 q1 p2 p3 q4 p5 df ex lk m2 m3 mx b1674 e2v e3v (.val (.int (0 : Int32))) .unset .unset) [(.int df)])) t → Steps p.tables e below (s₁.setTop (entryFrame m #[(.long q1), (.int p2), (.int p3), (.long q4), (.int p5)] maxLocals)) t := fun t kt => pre1720 t (by
          show Steps p.tables e below (T1717.setTop (mkF m 237 (own_L_342 q1 p2 p3 q4 p5 df ex lk m2 m3 mx b1674 e2v e3v .unset .unset .unset) [])) _
          refine XS.iload X1717.here hx rfl (hb hby at_237) rfl ?_
          refine XS.ifYes X1717.here hx rfl (pc0 := 239) (pc' := 246) rfl (hb hby at_239) rfl ((if0 _ _).trans (feq (by decide : ¬ ((3 : Int32) = (0 : Int32)))).2) (by decide) (by decide) ?_
          refine XS.iconst X1717.here hx rfl (hb hby at_246) ?_
          refine XS.istore X1717.here hx rfl (hb hby at_247) rfl (l' := (own_L_342 q1 p2 p3 q4 p5 df ex lk m2 m3 mx b1674 e2v e3v (.val (.int (0 : Int32))) .unset .unset)) rfl ?_
          refine XS.iload X1717.here hx rfl (hb hby at_249) rfl ?_
          refine XS.ifNo X1717.here hx rfl (hb hby at_251) rfl ((if0 _ _).trans (feq (by decide : ¬ ((3 : Int32) = (0 : Int32)))).1) ?_
          refine XS.iload X1717.here hx rfl (hb hby at_254) rfl ?_
          exact kt)
        obtain ⟨w2, hw2⟩ : ∃ z : Int32, z = (if df = (0 : Int32) then (0 : Int32) else (if m3 < q4 then (1 : Int32) else (0 : Int32))) := ⟨_, rfl⟩
        have pre1724 : ∀ t, Steps p.tables e below (T1717.setTop (mkF m 272 (own_L_342 q1 p2 p3 q4 p5 df ex lk m2 m3 mx b1674 e2v e3v (.val (.int (0 : Int32))) .unset .unset) [(.int w2)])) t → Steps p.tables e below (s₁.setTop (entryFrame m #[(.long q1), (.int p2), (.int p3), (.long q4), (.int p5)] maxLocals)) t := fun t kt => pre1721 t (by
          by_cases hc1722 : df = (0 : Int32)
          case pos =>
            show Steps p.tables e below (T1717.setTop (mkF m 256 (own_L_342 q1 p2 p3 q4 p5 df ex lk m2 m3 mx b1674 e2v e3v (.val (.int (0 : Int32))) .unset .unset) [(.int df)])) _
            refine XS.ifYes X1717.here hx rfl (pc0 := 256) (pc' := 271) rfl (hb hby at_256) rfl ((if0 _ _).trans (teq hc1722).1) (by decide) (by decide) ?_
            refine XS.iconst X1717.here hx rfl (hb hby at_271) ?_
            rw [show w2 = (0 : Int32) from (hw2.trans (if_pos hc1722))] at kt
            exact kt
          case neg =>
            show Steps p.tables e below (T1717.setTop (mkF m 256 (own_L_342 q1 p2 p3 q4 p5 df ex lk m2 m3 mx b1674 e2v e3v (.val (.int (0 : Int32))) .unset .unset) [(.int df)])) _
            refine XS.ifNo X1717.here hx rfl (hb hby at_256) rfl ((if0 _ _).trans (feq hc1722).1) ?_
            refine XS.lload X1717.here hx rfl (hb hby at_259) rfl ?_
            refine XS.lload X1717.here hx rfl (hb hby at_261) rfl ?_
            refine XS.lcmp X1717.here hx rfl (hb hby at_263) rfl ?_
            by_cases hc1723 : m3 < q4
            case pos =>
              show Steps p.tables e below (T1717.setTop (mkF m 264 (own_L_342 q1 p2 p3 q4 p5 df ex lk m2 m3 mx b1674 e2v e3v (.val (.int (0 : Int32))) .unset .unset) [(.int (lcmpW m3 q4))])) _
              refine XS.ifNo X1717.here hx rfl (hb hby at_264) rfl ((if0 _ _).trans (tlt ((lw_lt _ _).mpr hc1723)).2.1) ?_
              refine XS.iconst X1717.here hx rfl (hb hby at_267) ?_
              refine XS.goto X1717.here hx rfl (pc0 := 268) (pc' := 272) rfl (hb hby at_268) (by decide) (by decide) ?_
              rw [show w2 = (1 : Int32) from ((hw2.trans (if_neg hc1722)).trans (if_pos hc1723))] at kt
              exact kt
            case neg =>
              show Steps p.tables e below (T1717.setTop (mkF m 264 (own_L_342 q1 p2 p3 q4 p5 df ex lk m2 m3 mx b1674 e2v e3v (.val (.int (0 : Int32))) .unset .unset) [(.int (lcmpW m3 q4))])) _
              refine XS.ifYes X1717.here hx rfl (pc0 := 264) (pc' := 271) rfl (hb hby at_264) rfl ((if0 _ _).trans (flt (fun q => hc1723 ((lw_lt _ _).mp q))).2.1) (by decide) (by decide) ?_
              refine XS.iconst X1717.here hx rfl (hb hby at_271) ?_
              rw [show w2 = (0 : Int32) from ((hw2.trans (if_neg hc1722)).trans (if_neg hc1723))] at kt
              exact kt)
        have k2 : e2v = w2 := he2v.trans hw2.symm
        have pre1725 : ∀ t, Steps p.tables e below (T1717.setTop (mkF m 276 (own_L_342 q1 p2 p3 q4 p5 df ex lk m2 m3 mx b1674 e2v e3v (.val (.int (0 : Int32))) (.val (.int w2)) .unset) [(.int ex)])) t → Steps p.tables e below (s₁.setTop (entryFrame m #[(.long q1), (.int p2), (.int p3), (.long q4), (.int p5)] maxLocals)) t := fun t kt => pre1724 t (by
          show Steps p.tables e below (T1717.setTop (mkF m 272 (own_L_342 q1 p2 p3 q4 p5 df ex lk m2 m3 mx b1674 e2v e3v (.val (.int (0 : Int32))) .unset .unset) [(.int w2)])) _
          refine XS.istore X1717.here hx rfl (hb hby at_272) rfl (l' := (own_L_342 q1 p2 p3 q4 p5 df ex lk m2 m3 mx b1674 e2v e3v (.val (.int (0 : Int32))) (.val (.int w2)) .unset)) rfl ?_
          refine XS.iload X1717.here hx rfl (hb hby at_274) rfl ?_
          exact kt)
        obtain ⟨w3, hw3⟩ : ∃ z : Int32, z = (if ex = (0 : Int32) then w2 else (0 : Int32)) := ⟨_, rfl⟩
        have pre1727 : ∀ t, Steps p.tables e below (T1717.setTop (mkF m 285 (own_L_342 q1 p2 p3 q4 p5 df ex lk m2 m3 mx b1674 e2v e3v (.val (.int (0 : Int32))) (.val (.int w2)) .unset) [(.int w3)])) t → Steps p.tables e below (s₁.setTop (entryFrame m #[(.long q1), (.int p2), (.int p3), (.long q4), (.int p5)] maxLocals)) t := fun t kt => pre1725 t (by
          by_cases hc1726 : ex = (0 : Int32)
          case pos =>
            show Steps p.tables e below (T1717.setTop (mkF m 276 (own_L_342 q1 p2 p3 q4 p5 df ex lk m2 m3 mx b1674 e2v e3v (.val (.int (0 : Int32))) (.val (.int w2)) .unset) [(.int ex)])) _
            refine XS.ifYes X1717.here hx rfl (pc0 := 276) (pc' := 283) rfl (hb hby at_276) rfl ((if0 _ _).trans (teq hc1726).1) (by decide) (by decide) ?_
            refine XS.iload X1717.here hx rfl (hb hby at_283) rfl ?_
            rw [show w3 = w2 from (hw3.trans (if_pos hc1726))] at kt
            exact kt
          case neg =>
            show Steps p.tables e below (T1717.setTop (mkF m 276 (own_L_342 q1 p2 p3 q4 p5 df ex lk m2 m3 mx b1674 e2v e3v (.val (.int (0 : Int32))) (.val (.int w2)) .unset) [(.int ex)])) _
            refine XS.ifNo X1717.here hx rfl (hb hby at_276) rfl ((if0 _ _).trans (feq hc1726).1) ?_
            refine XS.iconst X1717.here hx rfl (hb hby at_279) ?_
            refine XS.goto X1717.here hx rfl (pc0 := 280) (pc' := 285) rfl (hb hby at_280) (by decide) (by decide) ?_
            rw [show w3 = (0 : Int32) from (hw3.trans (if_neg hc1726))] at kt
            exact kt)
        have k3 : e3v = w3 := by rw [he3v, hw3, hw2]
        have pre1728 : ∀ t, Steps p.tables e below (T1717.setTop (mkF m 318 (own_L_342 q1 p2 p3 q4 p5 df ex lk m2 m3 mx b1674 e2v e3v (.val (.int (0 : Int32))) (.val (.int w2)) (.val (.int w3))) [(.int (1 : Int32))])) t → Steps p.tables e below (s₁.setTop (entryFrame m #[(.long q1), (.int p2), (.int p3), (.long q4), (.int p5)] maxLocals)) t := fun t kt => pre1727 t (by
          show Steps p.tables e below (T1717.setTop (mkF m 285 (own_L_342 q1 p2 p3 q4 p5 df ex lk m2 m3 mx b1674 e2v e3v (.val (.int (0 : Int32))) (.val (.int w2)) .unset) [(.int w3)])) _
          refine XS.istore X1717.here hx rfl (hb hby at_285) rfl (l' := (own_L_342 q1 p2 p3 q4 p5 df ex lk m2 m3 mx b1674 e2v e3v (.val (.int (0 : Int32))) (.val (.int w2)) (.val (.int w3)))) rfl ?_
          refine XS.iload X1717.here hx rfl (hb hby at_287) rfl ?_
          refine XS.ifNo X1717.here hx rfl (hb hby at_289) rfl ((if0 _ _).trans (feq (by decide : ¬ ((1 : Int32) = (0 : Int32)))).1) ?_
          refine XS.iload X1717.here hx rfl (hb hby at_292) rfl ?_
          refine XS.iload X1717.here hx rfl (hb hby at_294) rfl ?_
          refine XS.icmpNo X1717.here hx rfl (hb hby at_296) rfl (teq (by decide : (0 : Int32) = (0 : Int32))).2 ?_
          refine XS.iload X1717.here hx rfl (hb hby at_299) rfl ?_
          refine XS.iload X1717.here hx rfl (hb hby at_301) rfl ?_
          refine XS.icmpNo X1717.here hx rfl (hb hby at_303) rfl (teq k2).2 ?_
          refine XS.iload X1717.here hx rfl (hb hby at_306) rfl ?_
          refine XS.iload X1717.here hx rfl (hb hby at_308) rfl ?_
          refine XS.icmpNo X1717.here hx rfl (hb hby at_310) rfl (teq k3).2 ?_
          show Steps p.tables e below (T1717.setTop (mkF m 313 (own_L_342 q1 p2 p3 q4 p5 df ex lk m2 m3 mx b1674 e2v e3v (.val (.int (0 : Int32))) (.val (.int w2)) (.val (.int w3))) [])) _
          refine XS.iconst X1717.here hx rfl (hb hby at_313) ?_
          refine XS.goto X1717.here hx rfl (pc0 := 314) (pc' := 318) rfl (hb hby at_314) (by decide) (by decide) ?_
          exact kt)
        exact own_retN X1717 hx Bd.notSynchronized (t := .boolean) Bd.returns (by simp) (hb hby at_318) pre1728 (show Q0 h0 n0 _ _ _ from ⟨rfl, N1717⟩) (by decide) (by decide)
    case neg =>
      obtain ⟨cq1729, kq1729, q1729a, q1729b, q1729c⟩ := isOf hZ rfl (own_pt_exa P1685)
      obtain ⟨_, _, ⟨T1729, L1729, k1729, n1729⟩, -, X1729, ⟨Lc1729, hQ1729, l1729, y1729, z1729⟩, st1729⟩ := X1685.virtualBack hx (y := own_y_103) (z := own_y_103) hown (mvT hZ (own_w hw 28 rfl)) (mvT hZ (own_w hw 29 rfl)) (notFace_of_selects (args := #[]) (mvT hZ (own_w hw 31 rfl))) (mvT hZ (own_w hw 31 rfl)) (mvT hZ (own_w hw 30 rfl)) (by decide) (backOf (W := 0) (rmCnt012o l Z a0 hw [] b1674 m2 (p3 + (1 : Int32)) lk1687 q1 (0 : Int64) p3 (0 : Int32) (if lk = (0 : Int32) then (p3 + (1 : Int32)) else (p3 - (1 : Int32))) T1685.heap n0 z1686 P1685 hc1691) hZ (own_w hw 32 rfl) (own_w hw 6 rfl) (by decide) (by decide)) q1729a q1729c (g := (mkF m 168 (own_L_341 q1 p2 p3 q4 p5 df ex lk m2 m3 mx b1674 .unset) [(.int lk1687), (.int (p3 + (1 : Int32))), (.long m2), (.ref b1674)])) rfl (by rw [hml]; rfl) (Steps.refl _) (argsL := [(.long m2), (.int (p3 + (1 : Int32))), (.int lk1687)]) (rest := []) (lenOf pd_105 rfl) rfl (by show 2 * 0 + _ ≤ _; exact Nat.le_of_eq rfl) (hb hby at_168) (fun _ _ => ⟨rfl, rfl, (by decide : 3 + 0 ≤ _), (by decide : 10 + 0 ≤ _)⟩)
      dsimp only [Pt.U, Pt.locs, Pt.cells, Pt.slots] at X1729 l1729 y1729 z1729 st1729 hQ1729
      subst l1729 y1729 z1729
      obtain ⟨rfl, Nq1729, z1729, P1729⟩ := hQ1729
      have N1729 := Fr.app N1685 Nq1729
      have z1730 : n0 ≤ T1729.heap.size := Nat.le_trans z1686 z1729
      have pre1731 : ∀ t, Steps p.tables e below (T1729.setTop (mkF m 186 (own_L_341 q1 p2 p3 q4 p5 df ex lk m2 m3 mx b1674 .unset) [(.int lk), (.int (p3 - (1 : Int32))), (.long m3), (.ref b1674)])) t → Steps p.tables e below (s₁.setTop (entryFrame m #[(.long q1), (.int p2), (.int p3), (.long q4), (.int p5)] maxLocals)) t := fun t kt => pre1690 t (by
        show Steps p.tables e below (T1685.setTop (mkF m 168 (own_L_341 q1 p2 p3 q4 p5 df ex lk m2 m3 mx b1674 .unset) [(.int lk1687), (.int (p3 + (1 : Int32))), (.long m2), (.ref b1674)])) _
        refine st1729.trans ?_
        refine XS.iload X1729.here hx rfl (hb hby at_171) rfl ?_
        refine XS.iconst X1729.here hx rfl (hb hby at_173) ?_
        refine XS.icmpNo X1729.here hx rfl (hb hby at_174) rfl (flt (by decide : ¬ ((3 : Int32) < (3 : Int32)))).1 ?_
        refine XS.aload X1729.here hx rfl (hb hby at_177) rfl rfl ?_
        refine XS.lload X1729.here hx rfl (hb hby at_179) rfl ?_
        refine XS.iloadN X1729.here hx rfl (hb hby at_181) rfl ?_
        refine XS.iconst X1729.here hx rfl (hb hby at_182) ?_
        refine XS.isub X1729.here hx rfl (hb hby at_183) rfl ?_
        refine XS.iload X1729.here hx rfl (hb hby at_184) rfl ?_
        exact kt)
      by_cases hc1732 : q1 < m3
      case pos =>
        obtain ⟨cq1733, kq1733, q1733a, q1733b, q1733c⟩ := isOf hZ rfl (own_pt_exa P1729)
        obtain ⟨_, _, ⟨T1733, L1733, k1733, n1733⟩, -, X1733, ⟨Lc1733, hQ1733, l1733, y1733, z1733⟩, st1733⟩ := X1729.virtualBack hx (y := own_y_103) (z := own_y_103) hown (mvT hZ (own_w hw 28 rfl)) (mvT hZ (own_w hw 29 rfl)) (notFace_of_selects (args := #[]) (mvT hZ (own_w hw 31 rfl))) (mvT hZ (own_w hw 31 rfl)) (mvT hZ (own_w hw 30 rfl)) (by decide) (backOf (W := 0) (rmCnt012a l Z a0 hw [] b1674 m3 (p3 - (1 : Int32)) lk q1 (0 : Int64) (p3 + (1 : Int32)) (0 : Int32) (if lk = (0 : Int32) then (p3 + (1 : Int32)) else (p3 - (1 : Int32))) T1729.heap n0 z1730 P1729 hc1732) hZ (own_w hw 32 rfl) (own_w hw 6 rfl) (by decide) (by decide)) q1733a q1733c (g := (mkF m 186 (own_L_341 q1 p2 p3 q4 p5 df ex lk m2 m3 mx b1674 .unset) [(.int lk), (.int (p3 - (1 : Int32))), (.long m3), (.ref b1674)])) rfl (by rw [hml]; rfl) (Steps.refl _) (argsL := [(.long m3), (.int (p3 - (1 : Int32))), (.int lk)]) (rest := []) (lenOf pd_105 rfl) rfl (by show 2 * 0 + _ ≤ _; exact Nat.le_of_eq rfl) (hb hby at_186) (fun _ _ => ⟨rfl, rfl, (by decide : 3 + 0 ≤ _), (by decide : 10 + 0 ≤ _)⟩)
        dsimp only [Pt.U, Pt.locs, Pt.cells, Pt.slots] at X1733 l1733 y1733 z1733 st1733 hQ1733
        subst l1733 y1733 z1733
        obtain ⟨rfl, Nq1733, z1733, P1733⟩ := hQ1733
        have N1733 := Fr.app N1729 Nq1733
        have z1734 : n0 ≤ T1733.heap.size := Nat.le_trans z1730 z1733
        obtain ⟨cq1735, kq1735, q1735a, q1735b, q1735c⟩ := isOf hZ rfl (own_pt_exa P1733)
        obtain ⟨_, _, ⟨T1735, L1735, k1735, n1735⟩, -, X1735, ⟨Lc1735, hQ1735, l1735, y1735, z1735⟩, st1735⟩ := X1733.virtualBack hx (y := own_y_38) (z := own_y_38) hown (mvT hZ (own_w hw 19 rfl)) (mvT hZ (own_w hw 20 rfl)) (notFace_of_selects (args := #[]) (mvT hZ (own_w hw 22 rfl))) (mvT hZ (own_w hw 22 rfl)) (mvT hZ (own_w hw 21 rfl)) (by decide) (backOf (W := 0) (rmEmpF l Z a0 hw [] b1674 _ _ _ _ _ _ T1733.heap n0 z1734 P1733 (by decide)) hZ (own_w hw 23 rfl) (own_w hw 6 rfl) (by decide) (by decide)) q1735a q1735c (g := (mkF m 191 (own_L_341 q1 p2 p3 q4 p5 df ex lk m2 m3 mx b1674 .unset) [(.ref b1674)])) rfl (by rw [hml]; rfl) (Steps.refl _) (argsL := []) (rest := []) (lenOf pd_48 rfl) rfl (by show 2 * 0 + _ ≤ _; exact Nat.le_of_eq rfl) (hb hby at_191) (fun _ _ => ⟨rfl, rfl, (by decide : 3 + 0 ≤ _), (by decide : 10 + 0 ≤ _)⟩)
        dsimp only [Pt.U, Pt.locs, Pt.cells, Pt.slots] at X1735 l1735 y1735 z1735 st1735 hQ1735
        subst l1735 y1735 z1735
        obtain ⟨rfl, Nq1735, e1735⟩ := hQ1735
        have N1735 := Fr.app N1733 Nq1735
        have pre1736 : ∀ t, Steps p.tables e below (T1735.setTop (mkF m 196 #[.val (.long q1), .second, .val (.int p2), .val (.int p3), .val (.long q4), .second, .val (.int p5), .val (.int (3 : Int32)), .val (.int df), .val (.int ex), .val (.int lk), .val (.long q1), .second, .val (.long m2), .second, .val (.long m3), .second, .val (.long m3), .second, .val (.long mx), .second, .val (.ref b1674), .val (.int (1 : Int32)), .val (.int (0 : Int32)), .unset, .unset, .unset, .unset, .unset] [])) t → Steps p.tables e below (s₁.setTop (entryFrame m #[(.long q1), (.int p2), (.int p3), (.long q4), (.int p5)] maxLocals)) t := fun t kt => pre1731 t (by
          show Steps p.tables e below (T1729.setTop (mkF m 186 (own_L_341 q1 p2 p3 q4 p5 df ex lk m2 m3 mx b1674 .unset) [(.int lk), (.int (p3 - (1 : Int32))), (.long m3), (.ref b1674)])) _
          refine st1733.trans ?_
          refine XS.aload X1733.here hx rfl (hb hby at_189) rfl rfl ?_
          refine st1735.trans ?_
          refine XS.istore X1735.here hx rfl (hb hby at_194) rfl (l' := (own_L_341 q1 p2 p3 q4 p5 df ex lk m2 m3 mx b1674 (.val (.int (0 : Int32))))) rfl ?_
          exact kt)
        obtain ⟨T1737, L1737, X1737, N1737, st1737⟩ := sg022 q1 p2 p3 q4 p5 (3 : Int32) df ex lk m2 m3 m3 mx b1674 (1 : Int32) (0 : Int32) q1 m3 (p3 + (1 : Int32)) (p3 - (1 : Int32)) (if lk = (0 : Int32) then (p3 + (1 : Int32)) else (p3 - (1 : Int32))) (own_more X1735 (by decide) (by decide)) hx hZ hw hby hml hown N1735 (by rw [e1735]; exact z1734) (by rw [e1735]; exact P1733) rfl hc1732
        have pre1738 : ∀ t, Steps p.tables e below (T1737.setTop (mkF m 237 #[.val (.long q1), .second, .val (.int p2), .val (.int p3), .val (.long q4), .second, .val (.int p5), .val (.int (3 : Int32)), .val (.int df), .val (.int ex), .val (.int lk), .val (.long q1), .second, .val (.long m2), .second, .val (.long m3), .second, .val (.long m3), .second, .val (.long mx), .second, .val (.ref b1674), .val (.int (1 : Int32)), .val (.int (0 : Int32)), .val (.int (if df = (0 : Int32) then (0 : Int32) else (if m3 < q4 then (1 : Int32) else (0 : Int32)))), .val (.int (if ex = (0 : Int32) then (if df = (0 : Int32) then (0 : Int32) else (if m3 < q4 then (1 : Int32) else (0 : Int32))) else (0 : Int32))), .unset, .unset, .unset] [])) t → Steps p.tables e below (s₁.setTop (entryFrame m #[(.long q1), (.int p2), (.int p3), (.long q4), (.int p5)] maxLocals)) t := fun t kt => pre1736 t (st1737 t kt)
        obtain ⟨e3v, he3v⟩ : ∃ z : Int32, z = (if ex = (0 : Int32) then (if df = (0 : Int32) then (0 : Int32) else (if m3 < q4 then (1 : Int32) else (0 : Int32))) else (0 : Int32)) := ⟨_, rfl⟩
        have pre1739 : ∀ t, Steps p.tables e below (T1737.setTop (mkF m 237 #[.val (.long q1), .second, .val (.int p2), .val (.int p3), .val (.long q4), .second, .val (.int p5), .val (.int (3 : Int32)), .val (.int df), .val (.int ex), .val (.int lk), .val (.long q1), .second, .val (.long m2), .second, .val (.long m3), .second, .val (.long m3), .second, .val (.long mx), .second, .val (.ref b1674), .val (.int (1 : Int32)), .val (.int (0 : Int32)), .val (.int (if df = (0 : Int32) then (0 : Int32) else (if m3 < q4 then (1 : Int32) else (0 : Int32)))), .val (.int e3v), .unset, .unset, .unset] [])) t → Steps p.tables e below (s₁.setTop (entryFrame m #[(.long q1), (.int p2), (.int p3), (.long q4), (.int p5)] maxLocals)) t := by rw [he3v]; exact pre1738
        obtain ⟨e2v, he2v⟩ : ∃ z : Int32, z = (if df = (0 : Int32) then (0 : Int32) else (if m3 < q4 then (1 : Int32) else (0 : Int32))) := ⟨_, rfl⟩
        have pre1740 : ∀ t, Steps p.tables e below (T1737.setTop (mkF m 237 #[.val (.long q1), .second, .val (.int p2), .val (.int p3), .val (.long q4), .second, .val (.int p5), .val (.int (3 : Int32)), .val (.int df), .val (.int ex), .val (.int lk), .val (.long q1), .second, .val (.long m2), .second, .val (.long m3), .second, .val (.long m3), .second, .val (.long mx), .second, .val (.ref b1674), .val (.int (1 : Int32)), .val (.int (0 : Int32)), .val (.int e2v), .val (.int e3v), .unset, .unset, .unset] [])) t → Steps p.tables e below (s₁.setTop (entryFrame m #[(.long q1), (.int p2), (.int p3), (.long q4), (.int p5)] maxLocals)) t := by rw [he2v]; exact pre1739
        have pre1741 : ∀ t, Steps p.tables e below (T1737.setTop (mkF m 256 (own_L_342 q1 p2 p3 q4 p5 df ex lk m2 m3 mx b1674 e2v e3v (.val (.int (0 : Int32))) .unset .unset) [(.int df)])) t → Steps p.tables e below (s₁.setTop (entryFrame m #[(.long q1), (.int p2), (.int p3), (.long q4), (.int p5)] maxLocals)) t := fun t kt => pre1740 t (by
          show Steps p.tables e below (T1737.setTop (mkF m 237 (own_L_342 q1 p2 p3 q4 p5 df ex lk m2 m3 mx b1674 e2v e3v .unset .unset .unset) [])) _
          refine XS.iload X1737.here hx rfl (hb hby at_237) rfl ?_
          refine XS.ifYes X1737.here hx rfl (pc0 := 239) (pc' := 246) rfl (hb hby at_239) rfl ((if0 _ _).trans (feq (by decide : ¬ ((3 : Int32) = (0 : Int32)))).2) (by decide) (by decide) ?_
          refine XS.iconst X1737.here hx rfl (hb hby at_246) ?_
          refine XS.istore X1737.here hx rfl (hb hby at_247) rfl (l' := (own_L_342 q1 p2 p3 q4 p5 df ex lk m2 m3 mx b1674 e2v e3v (.val (.int (0 : Int32))) .unset .unset)) rfl ?_
          refine XS.iload X1737.here hx rfl (hb hby at_249) rfl ?_
          refine XS.ifNo X1737.here hx rfl (hb hby at_251) rfl ((if0 _ _).trans (feq (by decide : ¬ ((3 : Int32) = (0 : Int32)))).1) ?_
          refine XS.iload X1737.here hx rfl (hb hby at_254) rfl ?_
          exact kt)
        obtain ⟨w2, hw2⟩ : ∃ z : Int32, z = (if df = (0 : Int32) then (0 : Int32) else (if m3 < q4 then (1 : Int32) else (0 : Int32))) := ⟨_, rfl⟩
        have pre1744 : ∀ t, Steps p.tables e below (T1737.setTop (mkF m 272 (own_L_342 q1 p2 p3 q4 p5 df ex lk m2 m3 mx b1674 e2v e3v (.val (.int (0 : Int32))) .unset .unset) [(.int w2)])) t → Steps p.tables e below (s₁.setTop (entryFrame m #[(.long q1), (.int p2), (.int p3), (.long q4), (.int p5)] maxLocals)) t := fun t kt => pre1741 t (by
          by_cases hc1742 : df = (0 : Int32)
          case pos =>
            show Steps p.tables e below (T1737.setTop (mkF m 256 (own_L_342 q1 p2 p3 q4 p5 df ex lk m2 m3 mx b1674 e2v e3v (.val (.int (0 : Int32))) .unset .unset) [(.int df)])) _
            refine XS.ifYes X1737.here hx rfl (pc0 := 256) (pc' := 271) rfl (hb hby at_256) rfl ((if0 _ _).trans (teq hc1742).1) (by decide) (by decide) ?_
            refine XS.iconst X1737.here hx rfl (hb hby at_271) ?_
            rw [show w2 = (0 : Int32) from (hw2.trans (if_pos hc1742))] at kt
            exact kt
          case neg =>
            show Steps p.tables e below (T1737.setTop (mkF m 256 (own_L_342 q1 p2 p3 q4 p5 df ex lk m2 m3 mx b1674 e2v e3v (.val (.int (0 : Int32))) .unset .unset) [(.int df)])) _
            refine XS.ifNo X1737.here hx rfl (hb hby at_256) rfl ((if0 _ _).trans (feq hc1742).1) ?_
            refine XS.lload X1737.here hx rfl (hb hby at_259) rfl ?_
            refine XS.lload X1737.here hx rfl (hb hby at_261) rfl ?_
            refine XS.lcmp X1737.here hx rfl (hb hby at_263) rfl ?_
            by_cases hc1743 : m3 < q4
            case pos =>
              show Steps p.tables e below (T1737.setTop (mkF m 264 (own_L_342 q1 p2 p3 q4 p5 df ex lk m2 m3 mx b1674 e2v e3v (.val (.int (0 : Int32))) .unset .unset) [(.int (lcmpW m3 q4))])) _
              refine XS.ifNo X1737.here hx rfl (hb hby at_264) rfl ((if0 _ _).trans (tlt ((lw_lt _ _).mpr hc1743)).2.1) ?_
              refine XS.iconst X1737.here hx rfl (hb hby at_267) ?_
              refine XS.goto X1737.here hx rfl (pc0 := 268) (pc' := 272) rfl (hb hby at_268) (by decide) (by decide) ?_
              rw [show w2 = (1 : Int32) from ((hw2.trans (if_neg hc1742)).trans (if_pos hc1743))] at kt
              exact kt
            case neg =>
              show Steps p.tables e below (T1737.setTop (mkF m 264 (own_L_342 q1 p2 p3 q4 p5 df ex lk m2 m3 mx b1674 e2v e3v (.val (.int (0 : Int32))) .unset .unset) [(.int (lcmpW m3 q4))])) _
              refine XS.ifYes X1737.here hx rfl (pc0 := 264) (pc' := 271) rfl (hb hby at_264) rfl ((if0 _ _).trans (flt (fun q => hc1743 ((lw_lt _ _).mp q))).2.1) (by decide) (by decide) ?_
              refine XS.iconst X1737.here hx rfl (hb hby at_271) ?_
              rw [show w2 = (0 : Int32) from ((hw2.trans (if_neg hc1742)).trans (if_neg hc1743))] at kt
              exact kt)
        have k2 : e2v = w2 := he2v.trans hw2.symm
        have pre1745 : ∀ t, Steps p.tables e below (T1737.setTop (mkF m 276 (own_L_342 q1 p2 p3 q4 p5 df ex lk m2 m3 mx b1674 e2v e3v (.val (.int (0 : Int32))) (.val (.int w2)) .unset) [(.int ex)])) t → Steps p.tables e below (s₁.setTop (entryFrame m #[(.long q1), (.int p2), (.int p3), (.long q4), (.int p5)] maxLocals)) t := fun t kt => pre1744 t (by
          show Steps p.tables e below (T1737.setTop (mkF m 272 (own_L_342 q1 p2 p3 q4 p5 df ex lk m2 m3 mx b1674 e2v e3v (.val (.int (0 : Int32))) .unset .unset) [(.int w2)])) _
          refine XS.istore X1737.here hx rfl (hb hby at_272) rfl (l' := (own_L_342 q1 p2 p3 q4 p5 df ex lk m2 m3 mx b1674 e2v e3v (.val (.int (0 : Int32))) (.val (.int w2)) .unset)) rfl ?_
          refine XS.iload X1737.here hx rfl (hb hby at_274) rfl ?_
          exact kt)
        obtain ⟨w3, hw3⟩ : ∃ z : Int32, z = (if ex = (0 : Int32) then w2 else (0 : Int32)) := ⟨_, rfl⟩
        have pre1747 : ∀ t, Steps p.tables e below (T1737.setTop (mkF m 285 (own_L_342 q1 p2 p3 q4 p5 df ex lk m2 m3 mx b1674 e2v e3v (.val (.int (0 : Int32))) (.val (.int w2)) .unset) [(.int w3)])) t → Steps p.tables e below (s₁.setTop (entryFrame m #[(.long q1), (.int p2), (.int p3), (.long q4), (.int p5)] maxLocals)) t := fun t kt => pre1745 t (by
          by_cases hc1746 : ex = (0 : Int32)
          case pos =>
            show Steps p.tables e below (T1737.setTop (mkF m 276 (own_L_342 q1 p2 p3 q4 p5 df ex lk m2 m3 mx b1674 e2v e3v (.val (.int (0 : Int32))) (.val (.int w2)) .unset) [(.int ex)])) _
            refine XS.ifYes X1737.here hx rfl (pc0 := 276) (pc' := 283) rfl (hb hby at_276) rfl ((if0 _ _).trans (teq hc1746).1) (by decide) (by decide) ?_
            refine XS.iload X1737.here hx rfl (hb hby at_283) rfl ?_
            rw [show w3 = w2 from (hw3.trans (if_pos hc1746))] at kt
            exact kt
          case neg =>
            show Steps p.tables e below (T1737.setTop (mkF m 276 (own_L_342 q1 p2 p3 q4 p5 df ex lk m2 m3 mx b1674 e2v e3v (.val (.int (0 : Int32))) (.val (.int w2)) .unset) [(.int ex)])) _
            refine XS.ifNo X1737.here hx rfl (hb hby at_276) rfl ((if0 _ _).trans (feq hc1746).1) ?_
            refine XS.iconst X1737.here hx rfl (hb hby at_279) ?_
            refine XS.goto X1737.here hx rfl (pc0 := 280) (pc' := 285) rfl (hb hby at_280) (by decide) (by decide) ?_
            rw [show w3 = (0 : Int32) from (hw3.trans (if_neg hc1746))] at kt
            exact kt)
        have k3 : e3v = w3 := by rw [he3v, hw3, hw2]
        have pre1748 : ∀ t, Steps p.tables e below (T1737.setTop (mkF m 318 (own_L_342 q1 p2 p3 q4 p5 df ex lk m2 m3 mx b1674 e2v e3v (.val (.int (0 : Int32))) (.val (.int w2)) (.val (.int w3))) [(.int (1 : Int32))])) t → Steps p.tables e below (s₁.setTop (entryFrame m #[(.long q1), (.int p2), (.int p3), (.long q4), (.int p5)] maxLocals)) t := fun t kt => pre1747 t (by
          show Steps p.tables e below (T1737.setTop (mkF m 285 (own_L_342 q1 p2 p3 q4 p5 df ex lk m2 m3 mx b1674 e2v e3v (.val (.int (0 : Int32))) (.val (.int w2)) .unset) [(.int w3)])) _
          refine XS.istore X1737.here hx rfl (hb hby at_285) rfl (l' := (own_L_342 q1 p2 p3 q4 p5 df ex lk m2 m3 mx b1674 e2v e3v (.val (.int (0 : Int32))) (.val (.int w2)) (.val (.int w3)))) rfl ?_
          refine XS.iload X1737.here hx rfl (hb hby at_287) rfl ?_
          refine XS.ifNo X1737.here hx rfl (hb hby at_289) rfl ((if0 _ _).trans (feq (by decide : ¬ ((1 : Int32) = (0 : Int32)))).1) ?_
          refine XS.iload X1737.here hx rfl (hb hby at_292) rfl ?_
          refine XS.iload X1737.here hx rfl (hb hby at_294) rfl ?_
          refine XS.icmpNo X1737.here hx rfl (hb hby at_296) rfl (teq (by decide : (0 : Int32) = (0 : Int32))).2 ?_
          refine XS.iload X1737.here hx rfl (hb hby at_299) rfl ?_
          refine XS.iload X1737.here hx rfl (hb hby at_301) rfl ?_
          refine XS.icmpNo X1737.here hx rfl (hb hby at_303) rfl (teq k2).2 ?_
          refine XS.iload X1737.here hx rfl (hb hby at_306) rfl ?_
          refine XS.iload X1737.here hx rfl (hb hby at_308) rfl ?_
          refine XS.icmpNo X1737.here hx rfl (hb hby at_310) rfl (teq k3).2 ?_
          show Steps p.tables e below (T1737.setTop (mkF m 313 (own_L_342 q1 p2 p3 q4 p5 df ex lk m2 m3 mx b1674 e2v e3v (.val (.int (0 : Int32))) (.val (.int w2)) (.val (.int w3))) [])) _
          refine XS.iconst X1737.here hx rfl (hb hby at_313) ?_
          refine XS.goto X1737.here hx rfl (pc0 := 314) (pc' := 318) rfl (hb hby at_314) (by decide) (by decide) ?_
          exact kt)
        exact own_retN X1737 hx Bd.notSynchronized (t := .boolean) Bd.returns (by simp) (hb hby at_318) pre1748 (show Q0 h0 n0 _ _ _ from ⟨rfl, N1737⟩) (by decide) (by decide)
      case neg =>
        obtain ⟨cq1749, kq1749, q1749a, q1749b, q1749c⟩ := isOf hZ rfl (own_pt_exa P1729)
        obtain ⟨_, _, ⟨T1749, L1749, k1749, n1749⟩, -, X1749, ⟨Lc1749, hQ1749, l1749, y1749, z1749⟩, st1749⟩ := X1729.virtualBack hx (y := own_y_103) (z := own_y_103) hown (mvT hZ (own_w hw 28 rfl)) (mvT hZ (own_w hw 29 rfl)) (notFace_of_selects (args := #[]) (mvT hZ (own_w hw 31 rfl))) (mvT hZ (own_w hw 31 rfl)) (mvT hZ (own_w hw 30 rfl)) (by decide) (backOf (W := 0) (rmCnt012o l Z a0 hw [] b1674 m3 (p3 - (1 : Int32)) lk q1 (0 : Int64) (p3 + (1 : Int32)) (0 : Int32) (if lk = (0 : Int32) then (p3 + (1 : Int32)) else (p3 - (1 : Int32))) T1729.heap n0 z1730 P1729 hc1732) hZ (own_w hw 32 rfl) (own_w hw 6 rfl) (by decide) (by decide)) q1749a q1749c (g := (mkF m 186 (own_L_341 q1 p2 p3 q4 p5 df ex lk m2 m3 mx b1674 .unset) [(.int lk), (.int (p3 - (1 : Int32))), (.long m3), (.ref b1674)])) rfl (by rw [hml]; rfl) (Steps.refl _) (argsL := [(.long m3), (.int (p3 - (1 : Int32))), (.int lk)]) (rest := []) (lenOf pd_105 rfl) rfl (by show 2 * 0 + _ ≤ _; exact Nat.le_of_eq rfl) (hb hby at_186) (fun _ _ => ⟨rfl, rfl, (by decide : 3 + 0 ≤ _), (by decide : 10 + 0 ≤ _)⟩)
        dsimp only [Pt.U, Pt.locs, Pt.cells, Pt.slots] at X1749 l1749 y1749 z1749 st1749 hQ1749
        subst l1749 y1749 z1749
        obtain ⟨rfl, Nq1749, z1749, P1749⟩ := hQ1749
        have N1749 := Fr.app N1729 Nq1749
        have z1750 : n0 ≤ T1749.heap.size := Nat.le_trans z1730 z1749
        obtain ⟨cq1751, kq1751, q1751a, q1751b, q1751c⟩ := isOf hZ rfl (own_pt_exa P1749)
        obtain ⟨_, _, ⟨T1751, L1751, k1751, n1751⟩, -, X1751, ⟨Lc1751, hQ1751, l1751, y1751, z1751⟩, st1751⟩ := X1749.virtualBack hx (y := own_y_38) (z := own_y_38) hown (mvT hZ (own_w hw 19 rfl)) (mvT hZ (own_w hw 20 rfl)) (notFace_of_selects (args := #[]) (mvT hZ (own_w hw 22 rfl))) (mvT hZ (own_w hw 22 rfl)) (mvT hZ (own_w hw 21 rfl)) (by decide) (backOf (W := 0) (rmEmpF l Z a0 hw [] b1674 _ _ _ _ _ _ T1749.heap n0 z1750 P1749 (by decide)) hZ (own_w hw 23 rfl) (own_w hw 6 rfl) (by decide) (by decide)) q1751a q1751c (g := (mkF m 191 (own_L_341 q1 p2 p3 q4 p5 df ex lk m2 m3 mx b1674 .unset) [(.ref b1674)])) rfl (by rw [hml]; rfl) (Steps.refl _) (argsL := []) (rest := []) (lenOf pd_48 rfl) rfl (by show 2 * 0 + _ ≤ _; exact Nat.le_of_eq rfl) (hb hby at_191) (fun _ _ => ⟨rfl, rfl, (by decide : 3 + 0 ≤ _), (by decide : 10 + 0 ≤ _)⟩)
        dsimp only [Pt.U, Pt.locs, Pt.cells, Pt.slots] at X1751 l1751 y1751 z1751 st1751 hQ1751
        subst l1751 y1751 z1751
        obtain ⟨rfl, Nq1751, e1751⟩ := hQ1751
        have N1751 := Fr.app N1749 Nq1751
        have pre1752 : ∀ t, Steps p.tables e below (T1751.setTop (mkF m 196 #[.val (.long q1), .second, .val (.int p2), .val (.int p3), .val (.long q4), .second, .val (.int p5), .val (.int (3 : Int32)), .val (.int df), .val (.int ex), .val (.int lk), .val (.long q1), .second, .val (.long m2), .second, .val (.long m3), .second, .val (.long m3), .second, .val (.long mx), .second, .val (.ref b1674), .val (.int (1 : Int32)), .val (.int (0 : Int32)), .unset, .unset, .unset, .unset, .unset] [])) t → Steps p.tables e below (s₁.setTop (entryFrame m #[(.long q1), (.int p2), (.int p3), (.long q4), (.int p5)] maxLocals)) t := fun t kt => pre1731 t (by
          show Steps p.tables e below (T1729.setTop (mkF m 186 (own_L_341 q1 p2 p3 q4 p5 df ex lk m2 m3 mx b1674 .unset) [(.int lk), (.int (p3 - (1 : Int32))), (.long m3), (.ref b1674)])) _
          refine st1749.trans ?_
          refine XS.aload X1749.here hx rfl (hb hby at_189) rfl rfl ?_
          refine st1751.trans ?_
          refine XS.istore X1751.here hx rfl (hb hby at_194) rfl (l' := (own_L_341 q1 p2 p3 q4 p5 df ex lk m2 m3 mx b1674 (.val (.int (0 : Int32))))) rfl ?_
          exact kt)
        have hn1753 : m3 = q1 := Int64.toInt_inj.mp (by rw [Int64.lt_iff_toInt_lt] at ha2 ha3 hc1691 hc1732; omega)
        obtain ⟨T1754, L1754, X1754, N1754, st1754⟩ := sg012 q1 p2 p3 q4 p5 (3 : Int32) df ex lk m2 m3 m3 mx b1674 (1 : Int32) (0 : Int32) q1 (0 : Int64) (p3 - (1 : Int32)) (0 : Int32) (if lk = (0 : Int32) then (p3 + (1 : Int32)) else (p3 - (1 : Int32))) (own_more X1751 (by decide) (by decide)) hx hZ hw hby hml hown N1751 (by rw [e1751]; exact z1750) (by rw [e1751]; exact P1749) hn1753
        have pre1755 : ∀ t, Steps p.tables e below (T1754.setTop (mkF m 237 #[.val (.long q1), .second, .val (.int p2), .val (.int p3), .val (.long q4), .second, .val (.int p5), .val (.int (3 : Int32)), .val (.int df), .val (.int ex), .val (.int lk), .val (.long q1), .second, .val (.long m2), .second, .val (.long m3), .second, .val (.long m3), .second, .val (.long mx), .second, .val (.ref b1674), .val (.int (1 : Int32)), .val (.int (0 : Int32)), .val (.int (if df = (0 : Int32) then (0 : Int32) else (if m3 < q4 then (1 : Int32) else (0 : Int32)))), .val (.int (if ex = (0 : Int32) then (if df = (0 : Int32) then (0 : Int32) else (if m3 < q4 then (1 : Int32) else (0 : Int32))) else (0 : Int32))), .unset, .unset, .unset] [])) t → Steps p.tables e below (s₁.setTop (entryFrame m #[(.long q1), (.int p2), (.int p3), (.long q4), (.int p5)] maxLocals)) t := fun t kt => pre1752 t (st1754 t kt)
        obtain ⟨e3v, he3v⟩ : ∃ z : Int32, z = (if ex = (0 : Int32) then (if df = (0 : Int32) then (0 : Int32) else (if m3 < q4 then (1 : Int32) else (0 : Int32))) else (0 : Int32)) := ⟨_, rfl⟩
        have pre1756 : ∀ t, Steps p.tables e below (T1754.setTop (mkF m 237 #[.val (.long q1), .second, .val (.int p2), .val (.int p3), .val (.long q4), .second, .val (.int p5), .val (.int (3 : Int32)), .val (.int df), .val (.int ex), .val (.int lk), .val (.long q1), .second, .val (.long m2), .second, .val (.long m3), .second, .val (.long m3), .second, .val (.long mx), .second, .val (.ref b1674), .val (.int (1 : Int32)), .val (.int (0 : Int32)), .val (.int (if df = (0 : Int32) then (0 : Int32) else (if m3 < q4 then (1 : Int32) else (0 : Int32)))), .val (.int e3v), .unset, .unset, .unset] [])) t → Steps p.tables e below (s₁.setTop (entryFrame m #[(.long q1), (.int p2), (.int p3), (.long q4), (.int p5)] maxLocals)) t := by rw [he3v]; exact pre1755
        obtain ⟨e2v, he2v⟩ : ∃ z : Int32, z = (if df = (0 : Int32) then (0 : Int32) else (if m3 < q4 then (1 : Int32) else (0 : Int32))) := ⟨_, rfl⟩
        have pre1757 : ∀ t, Steps p.tables e below (T1754.setTop (mkF m 237 #[.val (.long q1), .second, .val (.int p2), .val (.int p3), .val (.long q4), .second, .val (.int p5), .val (.int (3 : Int32)), .val (.int df), .val (.int ex), .val (.int lk), .val (.long q1), .second, .val (.long m2), .second, .val (.long m3), .second, .val (.long m3), .second, .val (.long mx), .second, .val (.ref b1674), .val (.int (1 : Int32)), .val (.int (0 : Int32)), .val (.int e2v), .val (.int e3v), .unset, .unset, .unset] [])) t → Steps p.tables e below (s₁.setTop (entryFrame m #[(.long q1), (.int p2), (.int p3), (.long q4), (.int p5)] maxLocals)) t := by rw [he2v]; exact pre1756
        have pre1758 : ∀ t, Steps p.tables e below (T1754.setTop (mkF m 256 (own_L_342 q1 p2 p3 q4 p5 df ex lk m2 m3 mx b1674 e2v e3v (.val (.int (0 : Int32))) .unset .unset) [(.int df)])) t → Steps p.tables e below (s₁.setTop (entryFrame m #[(.long q1), (.int p2), (.int p3), (.long q4), (.int p5)] maxLocals)) t := fun t kt => pre1757 t (by
          show Steps p.tables e below (T1754.setTop (mkF m 237 (own_L_342 q1 p2 p3 q4 p5 df ex lk m2 m3 mx b1674 e2v e3v .unset .unset .unset) [])) _
          refine XS.iload X1754.here hx rfl (hb hby at_237) rfl ?_
          refine XS.ifYes X1754.here hx rfl (pc0 := 239) (pc' := 246) rfl (hb hby at_239) rfl ((if0 _ _).trans (feq (by decide : ¬ ((3 : Int32) = (0 : Int32)))).2) (by decide) (by decide) ?_
          refine XS.iconst X1754.here hx rfl (hb hby at_246) ?_
          refine XS.istore X1754.here hx rfl (hb hby at_247) rfl (l' := (own_L_342 q1 p2 p3 q4 p5 df ex lk m2 m3 mx b1674 e2v e3v (.val (.int (0 : Int32))) .unset .unset)) rfl ?_
          refine XS.iload X1754.here hx rfl (hb hby at_249) rfl ?_
          refine XS.ifNo X1754.here hx rfl (hb hby at_251) rfl ((if0 _ _).trans (feq (by decide : ¬ ((3 : Int32) = (0 : Int32)))).1) ?_
          refine XS.iload X1754.here hx rfl (hb hby at_254) rfl ?_
          exact kt)
        obtain ⟨w2, hw2⟩ : ∃ z : Int32, z = (if df = (0 : Int32) then (0 : Int32) else (if m3 < q4 then (1 : Int32) else (0 : Int32))) := ⟨_, rfl⟩
        have pre1761 : ∀ t, Steps p.tables e below (T1754.setTop (mkF m 272 (own_L_342 q1 p2 p3 q4 p5 df ex lk m2 m3 mx b1674 e2v e3v (.val (.int (0 : Int32))) .unset .unset) [(.int w2)])) t → Steps p.tables e below (s₁.setTop (entryFrame m #[(.long q1), (.int p2), (.int p3), (.long q4), (.int p5)] maxLocals)) t := fun t kt => pre1758 t (by
          by_cases hc1759 : df = (0 : Int32)
          case pos =>
            show Steps p.tables e below (T1754.setTop (mkF m 256 (own_L_342 q1 p2 p3 q4 p5 df ex lk m2 m3 mx b1674 e2v e3v (.val (.int (0 : Int32))) .unset .unset) [(.int df)])) _
            refine XS.ifYes X1754.here hx rfl (pc0 := 256) (pc' := 271) rfl (hb hby at_256) rfl ((if0 _ _).trans (teq hc1759).1) (by decide) (by decide) ?_
            refine XS.iconst X1754.here hx rfl (hb hby at_271) ?_
            rw [show w2 = (0 : Int32) from (hw2.trans (if_pos hc1759))] at kt
            exact kt
          case neg =>
            show Steps p.tables e below (T1754.setTop (mkF m 256 (own_L_342 q1 p2 p3 q4 p5 df ex lk m2 m3 mx b1674 e2v e3v (.val (.int (0 : Int32))) .unset .unset) [(.int df)])) _
            refine XS.ifNo X1754.here hx rfl (hb hby at_256) rfl ((if0 _ _).trans (feq hc1759).1) ?_
            refine XS.lload X1754.here hx rfl (hb hby at_259) rfl ?_
            refine XS.lload X1754.here hx rfl (hb hby at_261) rfl ?_
            refine XS.lcmp X1754.here hx rfl (hb hby at_263) rfl ?_
            by_cases hc1760 : m3 < q4
            case pos =>
              show Steps p.tables e below (T1754.setTop (mkF m 264 (own_L_342 q1 p2 p3 q4 p5 df ex lk m2 m3 mx b1674 e2v e3v (.val (.int (0 : Int32))) .unset .unset) [(.int (lcmpW m3 q4))])) _
              refine XS.ifNo X1754.here hx rfl (hb hby at_264) rfl ((if0 _ _).trans (tlt ((lw_lt _ _).mpr hc1760)).2.1) ?_
              refine XS.iconst X1754.here hx rfl (hb hby at_267) ?_
              refine XS.goto X1754.here hx rfl (pc0 := 268) (pc' := 272) rfl (hb hby at_268) (by decide) (by decide) ?_
              rw [show w2 = (1 : Int32) from ((hw2.trans (if_neg hc1759)).trans (if_pos hc1760))] at kt
              exact kt
            case neg =>
              show Steps p.tables e below (T1754.setTop (mkF m 264 (own_L_342 q1 p2 p3 q4 p5 df ex lk m2 m3 mx b1674 e2v e3v (.val (.int (0 : Int32))) .unset .unset) [(.int (lcmpW m3 q4))])) _
              refine XS.ifYes X1754.here hx rfl (pc0 := 264) (pc' := 271) rfl (hb hby at_264) rfl ((if0 _ _).trans (flt (fun q => hc1760 ((lw_lt _ _).mp q))).2.1) (by decide) (by decide) ?_
              refine XS.iconst X1754.here hx rfl (hb hby at_271) ?_
              rw [show w2 = (0 : Int32) from ((hw2.trans (if_neg hc1759)).trans (if_neg hc1760))] at kt
              exact kt)
        have k2 : e2v = w2 := he2v.trans hw2.symm
        have pre1762 : ∀ t, Steps p.tables e below (T1754.setTop (mkF m 276 (own_L_342 q1 p2 p3 q4 p5 df ex lk m2 m3 mx b1674 e2v e3v (.val (.int (0 : Int32))) (.val (.int w2)) .unset) [(.int ex)])) t → Steps p.tables e below (s₁.setTop (entryFrame m #[(.long q1), (.int p2), (.int p3), (.long q4), (.int p5)] maxLocals)) t := fun t kt => pre1761 t (by
          show Steps p.tables e below (T1754.setTop (mkF m 272 (own_L_342 q1 p2 p3 q4 p5 df ex lk m2 m3 mx b1674 e2v e3v (.val (.int (0 : Int32))) .unset .unset) [(.int w2)])) _
          refine XS.istore X1754.here hx rfl (hb hby at_272) rfl (l' := (own_L_342 q1 p2 p3 q4 p5 df ex lk m2 m3 mx b1674 e2v e3v (.val (.int (0 : Int32))) (.val (.int w2)) .unset)) rfl ?_
          refine XS.iload X1754.here hx rfl (hb hby at_274) rfl ?_
          exact kt)
        obtain ⟨w3, hw3⟩ : ∃ z : Int32, z = (if ex = (0 : Int32) then w2 else (0 : Int32)) := ⟨_, rfl⟩
        have pre1764 : ∀ t, Steps p.tables e below (T1754.setTop (mkF m 285 (own_L_342 q1 p2 p3 q4 p5 df ex lk m2 m3 mx b1674 e2v e3v (.val (.int (0 : Int32))) (.val (.int w2)) .unset) [(.int w3)])) t → Steps p.tables e below (s₁.setTop (entryFrame m #[(.long q1), (.int p2), (.int p3), (.long q4), (.int p5)] maxLocals)) t := fun t kt => pre1762 t (by
          by_cases hc1763 : ex = (0 : Int32)
          case pos =>
            show Steps p.tables e below (T1754.setTop (mkF m 276 (own_L_342 q1 p2 p3 q4 p5 df ex lk m2 m3 mx b1674 e2v e3v (.val (.int (0 : Int32))) (.val (.int w2)) .unset) [(.int ex)])) _
            refine XS.ifYes X1754.here hx rfl (pc0 := 276) (pc' := 283) rfl (hb hby at_276) rfl ((if0 _ _).trans (teq hc1763).1) (by decide) (by decide) ?_
            refine XS.iload X1754.here hx rfl (hb hby at_283) rfl ?_
            rw [show w3 = w2 from (hw3.trans (if_pos hc1763))] at kt
            exact kt
          case neg =>
            show Steps p.tables e below (T1754.setTop (mkF m 276 (own_L_342 q1 p2 p3 q4 p5 df ex lk m2 m3 mx b1674 e2v e3v (.val (.int (0 : Int32))) (.val (.int w2)) .unset) [(.int ex)])) _
            refine XS.ifNo X1754.here hx rfl (hb hby at_276) rfl ((if0 _ _).trans (feq hc1763).1) ?_
            refine XS.iconst X1754.here hx rfl (hb hby at_279) ?_
            refine XS.goto X1754.here hx rfl (pc0 := 280) (pc' := 285) rfl (hb hby at_280) (by decide) (by decide) ?_
            rw [show w3 = (0 : Int32) from (hw3.trans (if_neg hc1763))] at kt
            exact kt)
        have k3 : e3v = w3 := by rw [he3v, hw3, hw2]
        have pre1765 : ∀ t, Steps p.tables e below (T1754.setTop (mkF m 318 (own_L_342 q1 p2 p3 q4 p5 df ex lk m2 m3 mx b1674 e2v e3v (.val (.int (0 : Int32))) (.val (.int w2)) (.val (.int w3))) [(.int (1 : Int32))])) t → Steps p.tables e below (s₁.setTop (entryFrame m #[(.long q1), (.int p2), (.int p3), (.long q4), (.int p5)] maxLocals)) t := fun t kt => pre1764 t (by
          show Steps p.tables e below (T1754.setTop (mkF m 285 (own_L_342 q1 p2 p3 q4 p5 df ex lk m2 m3 mx b1674 e2v e3v (.val (.int (0 : Int32))) (.val (.int w2)) .unset) [(.int w3)])) _
          refine XS.istore X1754.here hx rfl (hb hby at_285) rfl (l' := (own_L_342 q1 p2 p3 q4 p5 df ex lk m2 m3 mx b1674 e2v e3v (.val (.int (0 : Int32))) (.val (.int w2)) (.val (.int w3)))) rfl ?_
          refine XS.iload X1754.here hx rfl (hb hby at_287) rfl ?_
          refine XS.ifNo X1754.here hx rfl (hb hby at_289) rfl ((if0 _ _).trans (feq (by decide : ¬ ((1 : Int32) = (0 : Int32)))).1) ?_
          refine XS.iload X1754.here hx rfl (hb hby at_292) rfl ?_
          refine XS.iload X1754.here hx rfl (hb hby at_294) rfl ?_
          refine XS.icmpNo X1754.here hx rfl (hb hby at_296) rfl (teq (by decide : (0 : Int32) = (0 : Int32))).2 ?_
          refine XS.iload X1754.here hx rfl (hb hby at_299) rfl ?_
          refine XS.iload X1754.here hx rfl (hb hby at_301) rfl ?_
          refine XS.icmpNo X1754.here hx rfl (hb hby at_303) rfl (teq k2).2 ?_
          refine XS.iload X1754.here hx rfl (hb hby at_306) rfl ?_
          refine XS.iload X1754.here hx rfl (hb hby at_308) rfl ?_
          refine XS.icmpNo X1754.here hx rfl (hb hby at_310) rfl (teq k3).2 ?_
          show Steps p.tables e below (T1754.setTop (mkF m 313 (own_L_342 q1 p2 p3 q4 p5 df ex lk m2 m3 mx b1674 e2v e3v (.val (.int (0 : Int32))) (.val (.int w2)) (.val (.int w3))) [])) _
          refine XS.iconst X1754.here hx rfl (hb hby at_313) ?_
          refine XS.goto X1754.here hx rfl (pc0 := 314) (pc' := 318) rfl (hb hby at_314) (by decide) (by decide) ?_
          exact kt)
        exact own_retN X1754 hx Bd.notSynchronized (t := .boolean) Bd.returns (by simp) (hb hby at_318) pre1765 (show Q0 h0 n0 _ _ _ from ⟨rfl, N1754⟩) (by decide) (by decide)
set_option maxRecDepth 65536 in
set_option maxHeartbeats 40000000 in
theorem comes_1 {Post : Tables → Env → Array Value → State → Outcome → State → Prop} (hpost : ∀ tb e args s v u, (limb_1_1.after args s (.returned v) u = true ∧ limb_1_2.after args s (.returned v) u = true ∧ True) → FrameEnd s (.returned v) u (Jvm.fieldLocs frame_1_writes args s ++ Jvm.arrayLocs frame_1_arrays args s ++ Jvm.staticLocs frame_1_statics s) 24 128 → Post tb e args s (.returned v) u) :
    ArmFor flags0 classFile x code maxLocals ret World_1 tables_1 room_1 Calls_1 rest_1 Pre_1 Post := by
  intro l hfl _ _ p e ha hc hk s m args below hf hA hF happ hP
  obtain ⟨hcalls, hrest, hpre⟩ := hP
  obtain ⟨-, -, -, hnamed, -, -, -, hat⟩ := (Spec.applies_iff hf).mp happ
  obtain ⟨hg, hn⟩ := and_e (Cond.before_iff.mp (show (Jvm.Cond.and given_1 narrow_1).before args s = true from hpre))
  obtain ⟨g1a, g1b⟩ := and_e hg
  obtain ⟨g2a, g2b⟩ := and_e g1b
  obtain ⟨g3a, g3b⟩ := and_e g2b
  obtain ⟨g4a, g4b⟩ := and_e g3b
  obtain ⟨g5a, g5b⟩ := and_e g4b
  obtain ⟨w0, w1, w2, w3, w4, rfl⟩ : ∃ w0 w1 w2 w3 w4 : Value, args = #[w0, w1, w2, w3, w4] := by
    have hs : args.size = 5 := by simpa [Cond.value, given_1] using g1a
    obtain ⟨L⟩ := args
    match L, hs with
    | [w0, w1, w2, w3, w4], _ => exact ⟨w0, w1, w2, w3, w4, rfl⟩
  have hw := fun d (hd : d ∈ tables_1) => atoms_spec (ws := Jvm.Cond.code x code maxLocals ret :: tables_1) hat d (List.mem_cons_of_mem _ hd)
  have hfit : Fit s := fun {y c} hc i hi => by
    obtain ⟨ha, rfl⟩ := Array.getElem?_eq_some_iff.mp hc
    have q := List.all_eq_true.mp ((Array.all_eq_true_iff_forall_mem.mp hF) _ (Array.getElem_mem ha)) i (List.mem_range.mpr hi)
    simpa [Array.getElem?_eq_getElem hi] using q
  obtain ⟨i0, ei0⟩ := isL_v g2a
  obtain rfl : w0 = (.long i0) := Option.some.inj ei0
  obtain ⟨i1, ei1⟩ := is_v g3a
  obtain rfl : w1 = (.int i1) := Option.some.inj ei1
  obtain ⟨i2, ei2⟩ := is_v g4a
  obtain rfl : w2 = (.int i2) := Option.some.inj ei2
  obtain ⟨i3, ei3⟩ := isL_v g5a
  obtain rfl : w3 = (.long i3) := Option.some.inj ei3
  obtain ⟨i4, ei4⟩ := is_v g5b
  obtain rfl : w4 = (.int i4) := Option.some.inj ei4
  obtain ⟨n, o, h1, h2, h3, _, L, rfl, ⟨rfl, N⟩, hq⟩ := rm0 l s _ hw tables_1 i0 i1 i2 i3 i4 s.heap s.heap.size (Nat.le_refl _) p e ha hc hk s m _ below hf ((Spec.applies_iff_loose hf).mp happ).1 ⟨rfl, State.Warmed39.refl s, rfl⟩ trivial
  refine ⟨n, _, h1, h2, h3, hpost _ _ _ _ _ _ ⟨Cond.after_iff.mpr rfl, Cond.after_iff.mpr (eq_i res_at (Term.int_eval (1)) rfl), trivial⟩ ⟨hq.1, hq.2.1, (hq.2.2.sift fun y hy => Or.inr (N y hy)).mono (by decide) (by decide)⟩⟩
theorem main_1_1 : Claimed_1_1 := comes_1 fun _ _ _ _ _ _ h hF => ⟨h.1, hF⟩
theorem main_1_2 : Claimed_1_2 := comes_1 fun _ _ _ _ _ _ h hF => ⟨h.2.1, hF⟩
end Jvm.Pilot.@@N@@
namespace Jvm.Pilot.@@N@@
open Jvm Jvm.ClassFile Sem Op Lib Jvm.Free Jvm.Stand Jvm.Pilot.@@N@@.Jvm.D
/-! MADE BY PROGRAM (witnessworld.py) out of the Statement's table words and the real class files: 14 classes; the members and pool entries that the words name. The judged class is class 1, her method 2. -/
namespace start1
open Jvm.ClassFile
def u (s : String) : CpInfo := .utf8 (stringToUtf16 s)
/-- a pool by its gaps: so many unusable entries, then the entry; so many at the end -/
def gap : Nat → List CpInfo → List CpInfo
  | 0, r => r
  | n + 1, r => .unusable :: gap n r
def poolList (es : List (Nat × CpInfo)) (last : Nat) : List CpInfo := es.foldr (fun e r => gap e.1 (e.2 :: r)) (gap last [])
def pool (es : List (Nat × CpInfo)) (last : Nat) : Array CpInfo := ⟨poolList es last⟩
def fileOf (pool : Array CpInfo) (this : Nat) (attrs : Array Attribute := #[]) (ms : Array MethodInfo := #[]) (fl : Nat := 33) (sup : Nat := 0) (ifs : Array Nat := #[]) (fds : Array FieldInfo := #[]) : ClassFile where
  minorVersion := 0
  majorVersion := 65
  constantPool := pool
  accessFlags := fl
  thisClass := this
  superClass := sup
  interfaces := ifs
  fields := fds
  methods := ms
  attributes := attrs
def plain (name : String) (sup : Option ClassId) : Class where
  name := name
  kind := .ordinary
  loader := none
  accessFlags := 33
  super := sup
  interfaces := #[]
  cf := none
  fields := #[]
  methods := #[]
  instanceTypes := #[]
  staticTypes := #[]
  resolved := #[]
  callSites := []
  init := .initialized
  statics := none
  mirror := none

def pool0 : Array CpInfo := pool [(5, u "<init>"), (0, u "()V"), (1, .class_ 10), (1, u "java/lang/Object")] 113

def k0c0 : Code := { maxStack := 0, maxLocals := 1, code := object_method_1_code, exceptionTable := #[], attributes := #[] }
def k0m0 : Method := { name := "<init>", desc := "()V", sig := { parameters := [], returnType := none }, accessFlags := 1, code := some k0c0 }
/-- java/lang/Object -/
def k0 : Class := { plain "java/lang/Object" none with
  accessFlags := 33
  interfaces := #[]
  cf := some (fileOf pool0 8 #[] #[{ accessFlags := 1, nameIndex := 5, descriptorIndex := 6, attributes := #[] }] 33 0 #[] #[])
  fields := #[]
  methods := #[k0m0]
  instanceTypes := #[]
  staticTypes := #[]
  resolved := Array.replicate 124 none
  statics := none }

def pool1 : Array CpInfo := pool [(2, .class_ 4), (0, .nameAndType 5 6), (0, u "java/lang/Object"), (0, u "<init>"), (0, u "()V"), (0, .methodref 8 9), (0, .class_ 10), (0, .nameAndType 11 12), (0, u "com/example/viral_counter/viralcounter/PostTrendIsEmptyPinLaw"), (0, u "after"), (0, u "(JI)J"), (0, .class_ 14), (0, u "com/example/viral_counter/viralcounter/PostTrend"), (0, .methodref 13 3), (0, .methodref 13 17), (0, .nameAndType 18 19), (0, u "isEmpty"), (0, u "()Z"), (0, .methodref 13 21), (0, .nameAndType 22 23), (0, u "counted"), (0, u "(JIZ)V"), (0, .methodref 13 25), (0, .nameAndType 26 27), (0, u "forgetBefore"), (0, u "(J)V"), (3, u "law"), (0, u "(JIIJI)Z")] 2

def k1m0 : Method := { name := "<init>", desc := "()V", sig := { parameters := [], returnType := none }, accessFlags := 1, code := none }
def k1c1 : Code := { maxStack := 4, maxLocals := 5, code := method_2_code, exceptionTable := #[], attributes := #[] }
def k1m1 : Method := { name := "after", desc := "(JI)J", sig := { parameters := [.long, .int], returnType := some .long }, accessFlags := 10, code := some k1c1 }
def k1c2 : Code := { maxStack := 5, maxLocals := 29, code := code, exceptionTable := #[], attributes := #[] }
def k1m2 : Method := { name := "law", desc := "(JIIJI)Z", sig := { parameters := [.long, .int, .int, .long, .int], returnType := some .boolean }, accessFlags := 9, code := some k1c2 }
/-- com/example/viral_counter/viralcounter/PostTrendIsEmptyPinLaw -/
def k1 : Class := { plain "com/example/viral_counter/viralcounter/PostTrendIsEmptyPinLaw" (some 0) with
  accessFlags := 49
  interfaces := #[]
  cf := some (fileOf pool1 8 #[] #[{ accessFlags := 1, nameIndex := 5, descriptorIndex := 6, attributes := #[] }, { accessFlags := 10, nameIndex := 11, descriptorIndex := 12, attributes := #[] }, { accessFlags := 9, nameIndex := 31, descriptorIndex := 32, attributes := #[] }] 49 2 #[] #[])
  fields := #[]
  methods := #[k1m0, k1m1, k1m2]
  instanceTypes := #[]
  staticTypes := #[]
  resolved := Array.replicate 35 none
  statics := none }

def pool2 : Array CpInfo := pool [(1, .methodref 2 3), (0, .class_ 4), (0, .nameAndType 5 6), (0, u "java/lang/Object"), (0, u "<init>"), (0, u "()V"), (0, .class_ 8), (0, u "com/example/viral_counter/viralcounter/PostTrend"), (0, .fieldref 7 10), (0, .nameAndType 11 12), (0, u "minutes"), (0, u "[J"), (0, .fieldref 7 14), (0, .nameAndType 15 16), (0, u "counts"), (0, u "[I"), (0, .fieldref 7 18), (0, .nameAndType 19 20), (0, u "first"), (0, u "I"), (0, .fieldref 7 22), (0, .nameAndType 23 20), (0, u "end"), (0, .fieldref 7 25), (0, .nameAndType 26 20), (0, u "before"), (0, .methodref 7 28), (0, .nameAndType 29 6), (0, u "makeRoom"), (1, .class_ 33), (1, u "java/util/Arrays"), (4, u "retired"), (0, u "Z"), (0, .methodref 31 41), (0, .nameAndType 42 43), (0, u "copyOfRange"), (0, u "([JII)[J"), (0, .methodref 31 45), (0, .nameAndType 42 46), (0, u "([III)[I"), (0, .methodref 48 49), (0, .class_ 50), (0, .nameAndType 51 52), (0, u "java/lang/System"), (0, u "arraycopy"), (0, u "(Ljava/lang/Object;ILjava/lang/Object;II)V"), (0, u "FIRST_ROOM"), (4, u "counted"), (0, u "(JIZ)V"), (3, u "forgetBefore"), (0, u "(J)V"), (0, u "isEmpty"), (0, u "()Z")] 4

def k2c0 : Code := { maxStack := 2, maxLocals := 1, code := prog_25_method_1_code, exceptionTable := #[], attributes := #[] }
def k2m0 : Method := { name := "<init>", desc := "()V", sig := { parameters := [], returnType := none }, accessFlags := 0, code := some k2c0 }
def k2c1 : Code := { maxStack := 5, maxLocals := 5, code := prog_25_method_2_code, exceptionTable := #[], attributes := #[] }
def k2m1 : Method := { name := "counted", desc := "(JIZ)V", sig := { parameters := [.long, .int, .boolean], returnType := none }, accessFlags := 0, code := some k2c1 }
def k2c2 : Code := { maxStack := 4, maxLocals := 3, code := prog_25_method_4_code, exceptionTable := #[], attributes := #[] }
def k2m2 : Method := { name := "forgetBefore", desc := "(J)V", sig := { parameters := [.long], returnType := none }, accessFlags := 0, code := some k2c2 }
def k2c3 : Code := { maxStack := 2, maxLocals := 1, code := prog_25_method_5_code, exceptionTable := #[], attributes := #[] }
def k2m3 : Method := { name := "isEmpty", desc := "()Z", sig := { parameters := [], returnType := some .boolean }, accessFlags := 0, code := some k2c3 }
def k2c4 : Code := { maxStack := 6, maxLocals := 2, code := prog_25_method_8_code, exceptionTable := #[], attributes := #[] }
def k2m4 : Method := { name := "makeRoom", desc := "()V", sig := { parameters := [], returnType := none }, accessFlags := 2, code := some k2c4 }
/-- com/example/viral_counter/viralcounter/PostTrend -/
def k2 : Class := { plain "com/example/viral_counter/viralcounter/PostTrend" (some 0) with
  accessFlags := 48
  interfaces := #[]
  cf := some (fileOf pool2 7 #[] #[{ accessFlags := 0, nameIndex := 5, descriptorIndex := 6, attributes := #[] }, { accessFlags := 0, nameIndex := 58, descriptorIndex := 59, attributes := #[] }, { accessFlags := 0, nameIndex := 63, descriptorIndex := 64, attributes := #[] }, { accessFlags := 0, nameIndex := 65, descriptorIndex := 66, attributes := #[] }, { accessFlags := 2, nameIndex := 29, descriptorIndex := 6, attributes := #[] }] 48 2 #[] #[{ accessFlags := 26, nameIndex := 53, descriptorIndex := 20, attributes := #[] }, { accessFlags := 2, nameIndex := 11, descriptorIndex := 12, attributes := #[] }, { accessFlags := 2, nameIndex := 15, descriptorIndex := 16, attributes := #[] }, { accessFlags := 2, nameIndex := 19, descriptorIndex := 20, attributes := #[] }, { accessFlags := 2, nameIndex := 23, descriptorIndex := 20, attributes := #[] }, { accessFlags := 2, nameIndex := 26, descriptorIndex := 20, attributes := #[] }, { accessFlags := 2, nameIndex := 38, descriptorIndex := 39, attributes := #[] }])
  fields := #[{ name := "FIRST_ROOM", type := .int, accessFlags := 26, slot := 0, constantValue := 0 }, { name := "minutes", type := (.array .long), accessFlags := 2, slot := 0, constantValue := 0 }, { name := "counts", type := (.array .int), accessFlags := 2, slot := 1, constantValue := 0 }, { name := "first", type := .int, accessFlags := 2, slot := 2, constantValue := 0 }, { name := "end", type := .int, accessFlags := 2, slot := 3, constantValue := 0 }, { name := "before", type := .int, accessFlags := 2, slot := 4, constantValue := 0 }, { name := "retired", type := .boolean, accessFlags := 2, slot := 5, constantValue := 0 }]
  methods := #[k2m0, k2m1, k2m2, k2m3, k2m4]
  instanceTypes := #[(.array .long), (.array .int), .int, .int, .int, .boolean]
  staticTypes := #[.int]
  resolved := Array.replicate 71 none
  statics := none }

def pool3 : Array CpInfo := pool [(2, .class_ 4), (1, u "java/lang/Object"), (0, u "<init>"), (0, u "()V"), (7, .class_ 16), (1, u "java/util/Arrays"), (57, .class_ 76), (1, u "java/util/Arrays$NaturalOrder"), (36, .class_ 115), (1, u "java/util/Arrays$LegacyMergeSort"), (1, u "Z"), (21, u "copyOfRange"), (10, .methodref 151 152), (0, .class_ 153), (0, .nameAndType 154 155), (0, u "java/lang/System"), (0, u "arraycopy"), (0, u "(Ljava/lang/Object;ILjava/lang/Object;II)V"), (148, .methodref 305 306), (0, .class_ 307), (0, .nameAndType 308 309), (0, u "java/lang/Math"), (0, u "min"), (0, u "(II)I"), (33, .methodref 14 344), (0, .nameAndType 345 346), (0, u "checkLength"), (0, u "(II)V"), (4, .methodref 14 352), (0, .nameAndType 353 354), (0, u "copyOfRangeInt"), (0, u "([III)[I"), (0, .methodref 14 356), (0, .nameAndType 357 358), (0, u "copyOfRangeLong"), (0, u "([JII)[J"), (16, .class_ 376), (0, u "java/util/Arrays$ArrayList"), (68, u "$assertionsDisabled"), (269, u "MIN_ARRAY_SORT_GRAN"), (0, u "I"), (2, u "INSERTIONSORT_THRESHOLD"), (255, .class_ 976), (0, u "java/util/Arrays$ArrayItr")] 52

def k3m0 : Method := { name := "<init>", desc := "()V", sig := { parameters := [], returnType := none }, accessFlags := 2, code := none }
def k3c1 : Code := { maxStack := 4, maxLocals := 2, code := jdk_65_method_131_code, exceptionTable := #[], attributes := #[] }
def k3m1 : Method := { name := "checkLength", desc := "(II)V", sig := { parameters := [.int, .int], returnType := none }, accessFlags := 10, code := some k3c1 }
def k3c2 : Code := { maxStack := 3, maxLocals := 3, code := jdk_65_method_136_code, exceptionTable := #[], attributes := #[] }
def k3m2 : Method := { name := "copyOfRange", desc := "([III)[I", sig := { parameters := [(.array .int), .int, .int], returnType := some (.array .int) }, accessFlags := 9, code := some k3c2 }
def k3c3 : Code := { maxStack := 6, maxLocals := 5, code := jdk_65_method_137_code, exceptionTable := #[], attributes := #[] }
def k3m3 : Method := { name := "copyOfRangeInt", desc := "([III)[I", sig := { parameters := [(.array .int), .int, .int], returnType := some (.array .int) }, accessFlags := 10, code := some k3c3 }
def k3c4 : Code := { maxStack := 3, maxLocals := 3, code := jdk_65_method_138_code, exceptionTable := #[], attributes := #[] }
def k3m4 : Method := { name := "copyOfRange", desc := "([JII)[J", sig := { parameters := [(.array .long), .int, .int], returnType := some (.array .long) }, accessFlags := 9, code := some k3c4 }
def k3c5 : Code := { maxStack := 6, maxLocals := 5, code := jdk_65_method_139_code, exceptionTable := #[], attributes := #[] }
def k3m5 : Method := { name := "copyOfRangeLong", desc := "([JII)[J", sig := { parameters := [(.array .long), .int, .int], returnType := some (.array .long) }, accessFlags := 10, code := some k3c5 }
/-- java/util/Arrays -/
def k3 : Class := { plain "java/util/Arrays" (some 0) with
  accessFlags := 49
  interfaces := #[]
  cf := some (fileOf pool3 14 #[.nestMembers #[975, 375, 113, 74]] #[{ accessFlags := 2, nameIndex := 5, descriptorIndex := 6, attributes := #[] }, { accessFlags := 10, nameIndex := 345, descriptorIndex := 346, attributes := #[] }, { accessFlags := 9, nameIndex := 139, descriptorIndex := 354, attributes := #[] }, { accessFlags := 10, nameIndex := 353, descriptorIndex := 354, attributes := #[] }, { accessFlags := 9, nameIndex := 139, descriptorIndex := 358, attributes := #[] }, { accessFlags := 10, nameIndex := 357, descriptorIndex := 358, attributes := #[] }] 49 2 #[] #[{ accessFlags := 26, nameIndex := 715, descriptorIndex := 716, attributes := #[] }, { accessFlags := 26, nameIndex := 719, descriptorIndex := 716, attributes := #[] }, { accessFlags := 4120, nameIndex := 445, descriptorIndex := 117, attributes := #[] }])
  fields := #[{ name := "MIN_ARRAY_SORT_GRAN", type := .int, accessFlags := 26, slot := 0, constantValue := 0 }, { name := "INSERTIONSORT_THRESHOLD", type := .int, accessFlags := 26, slot := 1, constantValue := 0 }, { name := "$assertionsDisabled", type := .boolean, accessFlags := 4120, slot := 2, constantValue := 0 }]
  methods := #[k3m0, k3m1, k3m2, k3m3, k3m4, k3m5]
  instanceTypes := #[]
  staticTypes := #[.int, .int, .boolean]
  resolved := Array.replicate 1029 none
  statics := none }

def pool4 : Array CpInfo := pool [(1, .class_ 2), (0, u "java/lang/Math"), (1, .class_ 6), (1, u "java/lang/Object"), (0, u "<init>"), (0, u "()V"), (89, .class_ 100), (1, u "java/lang/Math$RandomNumberGeneratorHolder"), (71, u "negativeZeroFloatBits"), (0, u "J"), (2, u "negativeZeroDoubleBits"), (24, u "min"), (43, u "$assertionsDisabled"), (0, u "Z"), (88, u "(II)I"), (2, u "twoToTheDoubleScaleDown"), (0, u "D"), (4, u "twoToTheDoubleScaleUp"), (9, u "E"), (3, u "PI"), (2, u "TAU"), (2, u "DEGREES_TO_RADIANS"), (0, u "RADIANS_TO_DEGREES")] 94

def k4m0 : Method := { name := "<init>", desc := "()V", sig := { parameters := [], returnType := none }, accessFlags := 2, code := none }
def k4c1 : Code := { maxStack := 2, maxLocals := 2, code := jdk_29_method_69_code, exceptionTable := #[], attributes := #[] }
def k4m1 : Method := { name := "min", desc := "(II)I", sig := { parameters := [.int, .int], returnType := some .int }, accessFlags := 9, code := some k4c1 }
/-- java/lang/Math -/
def k4 : Class := { plain "java/lang/Math" (some 0) with
  accessFlags := 49
  interfaces := #[]
  cf := some (fileOf pool4 1 #[.nestMembers #[98]] #[{ accessFlags := 2, nameIndex := 7, descriptorIndex := 8, attributes := #[] }, { accessFlags := 9, nameIndex := 201, descriptorIndex := 335, attributes := #[] }] 49 4 #[] #[{ accessFlags := 25, nameIndex := 354, descriptorIndex := 339, attributes := #[] }, { accessFlags := 25, nameIndex := 358, descriptorIndex := 339, attributes := #[] }, { accessFlags := 25, nameIndex := 361, descriptorIndex := 339, attributes := #[] }, { accessFlags := 26, nameIndex := 364, descriptorIndex := 339, attributes := #[] }, { accessFlags := 26, nameIndex := 365, descriptorIndex := 339, attributes := #[] }, { accessFlags := 26, nameIndex := 172, descriptorIndex := 173, attributes := #[] }, { accessFlags := 26, nameIndex := 176, descriptorIndex := 173, attributes := #[] }, { accessFlags := 8, nameIndex := 344, descriptorIndex := 339, attributes := #[] }, { accessFlags := 8, nameIndex := 338, descriptorIndex := 339, attributes := #[] }, { accessFlags := 4120, nameIndex := 245, descriptorIndex := 246, attributes := #[] }])
  fields := #[{ name := "E", type := .double, accessFlags := 25, slot := 0, constantValue := 0 }, { name := "PI", type := .double, accessFlags := 25, slot := 1, constantValue := 0 }, { name := "TAU", type := .double, accessFlags := 25, slot := 2, constantValue := 0 }, { name := "DEGREES_TO_RADIANS", type := .double, accessFlags := 26, slot := 3, constantValue := 0 }, { name := "RADIANS_TO_DEGREES", type := .double, accessFlags := 26, slot := 4, constantValue := 0 }, { name := "negativeZeroFloatBits", type := .long, accessFlags := 26, slot := 5, constantValue := 0 }, { name := "negativeZeroDoubleBits", type := .long, accessFlags := 26, slot := 6, constantValue := 0 }, { name := "twoToTheDoubleScaleUp", type := .double, accessFlags := 8, slot := 7, constantValue := 0 }, { name := "twoToTheDoubleScaleDown", type := .double, accessFlags := 8, slot := 8, constantValue := 0 }, { name := "$assertionsDisabled", type := .boolean, accessFlags := 4120, slot := 9, constantValue := 0 }]
  methods := #[k4m0, k4m1]
  instanceTypes := #[]
  staticTypes := #[.double, .double, .double, .double, .double, .long, .long, .double, .double, .boolean]
  resolved := Array.replicate 460 none
  statics := none }

def pool5 : Array CpInfo := pool [(2, .class_ 4), (1, u "java/lang/Object"), (0, u "<init>"), (0, u "()V"), (1, .class_ 10), (1, u "java/lang/System"), (0, u "allowSecurityManager"), (0, u "I"), (16, u "cons"), (0, u "Ljava/io/Console;"), (77, .class_ 110), (1, u "java/lang/System$CallersHolder"), (43, u "initialErrStream"), (0, u "Ljava/io/PrintStream;"), (19, u "security"), (0, u "Ljava/lang/SecurityManager;"), (31, .class_ 209), (0, u "java/lang/System$1"), (7, u "props"), (0, u "Ljava/util/Properties;"), (2, u "lineSeparator"), (0, u "Ljava/lang/String;"), (96, .class_ 321), (1, u "java/lang/System$LoggerFinder"), (5, .class_ 328), (0, u "java/lang/System$Logger"), (67, u "err"), (2, u "out"), (91, u "notSupportedJnuEncoding"), (15, u "in"), (17, u "initialIn"), (0, u "Ljava/io/InputStream;"), (35, u "bootLayer"), (0, u "Ljava/lang/ModuleLayer;"), (99, .class_ 664), (0, u "java/lang/System$2"), (9, u "NEVER"), (2, u "MAYBE"), (49, u "arraycopy"), (0, u "(Ljava/lang/Object;ILjava/lang/Object;II)V"), (72, .class_ 802), (0, u "java/lang/System$Logger$Level")] 31

def k5m0 : Method := { name := "<init>", desc := "()V", sig := { parameters := [], returnType := none }, accessFlags := 2, code := none }
def k5m1 : Method := { name := "arraycopy", desc := "(Ljava/lang/Object;ILjava/lang/Object;II)V", sig := { parameters := [(.object "java/lang/Object"), .int, (.object "java/lang/Object"), .int, .int], returnType := none }, accessFlags := 265, code := none }
/-- java/lang/System -/
def k5 : Class := { plain "java/lang/System" (some 0) with
  accessFlags := 49
  interfaces := #[]
  cf := some (fileOf pool5 8 #[.nestMembers #[319, 327, 801, 108, 663, 208]] #[{ accessFlags := 2, nameIndex := 5, descriptorIndex := 6, attributes := #[] }, { accessFlags := 265, nameIndex := 727, descriptorIndex := 728, attributes := #[] }] 49 2 #[] #[{ accessFlags := 25, nameIndex := 507, descriptorIndex := 526, attributes := #[] }, { accessFlags := 25, nameIndex := 399, descriptorIndex := 155, attributes := #[] }, { accessFlags := 25, nameIndex := 396, descriptorIndex := 155, attributes := #[] }, { accessFlags := 10, nameIndex := 525, descriptorIndex := 526, attributes := #[] }, { accessFlags := 26, nameIndex := 674, descriptorIndex := 12, attributes := #[] }, { accessFlags := 26, nameIndex := 677, descriptorIndex := 12, attributes := #[] }, { accessFlags := 10, nameIndex := 11, descriptorIndex := 12, attributes := #[] }, { accessFlags := 74, nameIndex := 175, descriptorIndex := 176, attributes := #[] }, { accessFlags := 10, nameIndex := 491, descriptorIndex := 222, attributes := #[] }, { accessFlags := 74, nameIndex := 29, descriptorIndex := 30, attributes := #[] }, { accessFlags := 74, nameIndex := 154, descriptorIndex := 155, attributes := #[] }, { accessFlags := 10, nameIndex := 217, descriptorIndex := 218, attributes := #[] }, { accessFlags := 10, nameIndex := 221, descriptorIndex := 222, attributes := #[] }, { accessFlags := 8, nameIndex := 562, descriptorIndex := 563, attributes := #[] }])
  fields := #[{ name := "in", type := (.object "java/io/InputStream"), accessFlags := 25, slot := 0, constantValue := 0 }, { name := "out", type := (.object "java/io/PrintStream"), accessFlags := 25, slot := 1, constantValue := 0 }, { name := "err", type := (.object "java/io/PrintStream"), accessFlags := 25, slot := 2, constantValue := 0 }, { name := "initialIn", type := (.object "java/io/InputStream"), accessFlags := 10, slot := 3, constantValue := 0 }, { name := "NEVER", type := .int, accessFlags := 26, slot := 4, constantValue := 0 }, { name := "MAYBE", type := .int, accessFlags := 26, slot := 5, constantValue := 0 }, { name := "allowSecurityManager", type := .int, accessFlags := 10, slot := 6, constantValue := 0 }, { name := "security", type := (.object "java/lang/SecurityManager"), accessFlags := 74, slot := 7, constantValue := 0 }, { name := "notSupportedJnuEncoding", type := (.object "java/lang/String"), accessFlags := 10, slot := 8, constantValue := 0 }, { name := "cons", type := (.object "java/io/Console"), accessFlags := 74, slot := 9, constantValue := 0 }, { name := "initialErrStream", type := (.object "java/io/PrintStream"), accessFlags := 74, slot := 10, constantValue := 0 }, { name := "props", type := (.object "java/util/Properties"), accessFlags := 10, slot := 11, constantValue := 0 }, { name := "lineSeparator", type := (.object "java/lang/String"), accessFlags := 10, slot := 12, constantValue := 0 }, { name := "bootLayer", type := (.object "java/lang/ModuleLayer"), accessFlags := 8, slot := 13, constantValue := 0 }]
  methods := #[k5m0, k5m1]
  instanceTypes := #[]
  staticTypes := #[(.object "java/io/InputStream"), (.object "java/io/PrintStream"), (.object "java/io/PrintStream"), (.object "java/io/InputStream"), .int, .int, .int, (.object "java/lang/SecurityManager"), (.object "java/lang/String"), (.object "java/io/Console"), (.object "java/io/PrintStream"), (.object "java/util/Properties"), (.object "java/lang/String"), (.object "java/lang/ModuleLayer")]
  resolved := Array.replicate 834 none
  statics := none }

def pool6 : Array CpInfo := pool [(1, u "java/lang/Cloneable"), (0, .class_ 1), (0, u "java/lang/Object"), (0, .class_ 3)] 3

/-- java/lang/Cloneable -/
def k6 : Class := { plain "java/lang/Cloneable" (some 0) with
  accessFlags := 1537
  interfaces := #[]
  cf := some (fileOf pool6 2 #[] #[] 1537 4 #[] #[])
  fields := #[]
  methods := #[]
  instanceTypes := #[]
  staticTypes := #[]
  resolved := Array.replicate 8 none
  statics := none }

def pool7 : Array CpInfo := pool [(1, u "java/io/Serializable"), (0, .class_ 1), (0, u "java/lang/Object"), (0, .class_ 3)] 3

/-- java/io/Serializable -/
def k7 : Class := { plain "java/io/Serializable" (some 0) with
  accessFlags := 1537
  interfaces := #[]
  cf := some (fileOf pool7 2 #[] #[] 1537 4 #[] #[])
  fields := #[]
  methods := #[]
  instanceTypes := #[]
  staticTypes := #[]
  resolved := Array.replicate 8 none
  statics := none }

/-- the primitive byte -/
def k8 : Class := { plain "byte" none with kind := .primitive 'B', accessFlags := 0x411 }
/-- [B -/
def k9 : Class := { plain "[B" (some 0) with kind := .array 8 .byte, interfaces := #[6, 7], accessFlags := 1041 }

/-- the primitive int -/
def k10 : Class := { plain "int" none with kind := .primitive 'I', accessFlags := 0x411 }
/-- [I -/
def k11 : Class := { plain "[I" (some 0) with kind := .array 10 .int, interfaces := #[6, 7], accessFlags := 1041 }

/-- the primitive long -/
def k12 : Class := { plain "long" none with kind := .primitive 'J', accessFlags := 0x411 }
/-- [J -/
def k13 : Class := { plain "[J" (some 0) with kind := .array 12 .long, interfaces := #[6, 7], accessFlags := 1041 }

def heap : Heap := #[]
def classes : Array Class := #[k0, k1, k2, k3, k4, k5, k6, k7, k8, k9, k10, k11, k12, k13]
def interned : List (Array UInt16 × Addr) := []
def slotsUsed : Nat := 0
def theMethod : MethodId := ⟨1, 2⟩
def args0 : Array Value := #[.long 5, .int 1, .int 2, .long 3, .int 7]
def aboutOver (below : List Frame) : State where
  vm := { classes := classes, interned := interned.toArray }
  heap := heap
  slotsUsed := slotsUsed
  threads := #[{ frames := .invoking theMethod args0 :: below }]
def below0 : List Frame := [.native { method := ⟨0, 0⟩, args := #[] }]
def about1 : State := aboutOver below0
def p0 : Program := .bare "" "" ""
def e0 : Env := launch0.env 0 0 0
theorem w_frames : about1.frames = Frame.invoking theMethod args0 :: below0 := rfl
set_option maxRecDepth 65536 in
theorem w_args : argsFit about1.vm theMethod args0 = true := by decide +kernel
set_option maxRecDepth 65536 in
theorem w_heap : heapFits about1 = true := by decide +kernel
set_option maxRecDepth 65536 in
theorem w_runnable : about1.curStatus? = some .runnable := by decide +kernel
set_option maxRecDepth 65536 in
theorem w_alone : about1.alone = true := by decide +kernel
set_option maxRecDepth 65536 in
theorem w_named : about1.methodNamed? x = some theMethod := by decide +kernel
set_option maxRecDepth 65536 in
theorem w_hears : about1.hears theMethod below0 = true := by decide +kernel
set_option maxRecDepth 65536 in
theorem w_ripe : about1.ripe theMethod args0 below0 = true := by decide +kernel
theorem w_running : about1.status = .running := rfl
set_option maxRecDepth 65536 in
theorem w_room : about1.hasRoom e0.platform room_1 = true :=
  launch0.hasRoom_least _ room_1 (by decide +kernel) (by decide +kernel) (by decide +kernel) (by decide +kernel) (by decide +kernel) (by decide +kernel)
theorem allAtoms_all (ts : List Jvm.Cond) (a : Array Jvm.Value) (st : Jvm.State) : (allAtoms ts).before a st = ts.all (fun c => c.before a st) := by
  induction ts with
  | nil => rfl
  | cons c t ih =>
    show (Jvm.Cond.and c (allAtoms t)).before a st = _
    rw [Jvm.Cond.before_and, ih, List.all_cons]
def words1 : List Jvm.Cond := Jvm.Cond.code x code maxLocals ret :: tables_1
/-- a 'code' word, met by the world's own term for the bytes: nothing is compared byte by byte -/
theorem code_word {y : MethodName} {bytes : ByteArray} {mx : Nat} {rt : Option FieldType} {a : Array Value} {s : State} {m : MethodId} {meth : Method} {c : Code} (h1 : s.methodNamed? y = some m) (h2 : s.vm.method? m = some meth) (h3 : meth.code = some c) (h4 : c.code = bytes)
    (h5 : (c.maxLocals == mx && c.exceptionTable.isEmpty && decide (c.maxStack ≤ mostOperands) && decide (meth.sig.returnType = rt) && !meth.locks && decide (parseMethodDescriptor y.desc = some meth.sig)) = true) : (Jvm.Cond.code y bytes mx rt).before a s = true := by
  simp only [Bool.and_eq_true, beq_iff_eq, Bool.not_eq_true', decide_eq_true_eq] at h5
  obtain ⟨⟨⟨⟨⟨g1, g2⟩, g3⟩, g4⟩, g5⟩, g6⟩ := h5
  simp [Cond.before, Cond.holds, Cond.value, h1, h2, h3, h4, g1, g2, g3, g4, g5, g6]
def isCode : Jvm.Cond → Bool
  | .code _ _ _ _ => true
  | _ => false
theorem all_split {L : List Jvm.Cond} {P : Jvm.Cond → Bool} (h1 : L.all (fun c => isCode c || P c) = true) (h2 : ∀ c ∈ L.filter isCode, P c = true) : L.all P = true := by
  refine List.all_eq_true.mpr fun c hc => ?_
  have h := List.all_eq_true.mp h1 c hc
  rcases Bool.eq_false_or_eq_true (isCode c) with hi | hi
  · exact h2 c (List.mem_filter.mpr ⟨hc, hi⟩)
  · simpa [hi] using h
set_option maxRecDepth 65536 in
theorem w_c0 : (Jvm.Cond.code x code maxLocals ret).before args0 about1 = true := code_word (m := ⟨1, 2⟩) (meth := k1m2) (c := k1c2) (by decide +kernel) rfl rfl rfl (by decide +kernel)
set_option maxRecDepth 65536 in
theorem w_c1 : (Jvm.Cond.code ({ cls := "com/example/viral_counter/viralcounter/PostTrendIsEmptyPinLaw", name := "after", desc := "(JI)J" } : Jvm.MethodName) method_2_code (5 : Nat) (Option.some Jvm.ClassFile.FieldType.long)).before args0 about1 = true := code_word (m := ⟨1, 1⟩) (meth := k1m1) (c := k1c1) (by decide +kernel) rfl rfl rfl (by decide +kernel)
set_option maxRecDepth 65536 in
theorem w_c2 : (Jvm.Cond.code ({ cls := "com/example/viral_counter/viralcounter/PostTrend", name := "<init>", desc := "()V" } : Jvm.MethodName) prog_25_method_1_code (1 : Nat) (Option.none : Option Jvm.ClassFile.FieldType)).before args0 about1 = true := code_word (m := ⟨2, 0⟩) (meth := k2m0) (c := k2c0) (by decide +kernel) rfl rfl rfl (by decide +kernel)
set_option maxRecDepth 65536 in
theorem w_c3 : (Jvm.Cond.code ({ cls := "java/lang/Object", name := "<init>", desc := "()V" } : Jvm.MethodName) object_method_1_code (1 : Nat) (Option.none : Option Jvm.ClassFile.FieldType)).before args0 about1 = true := code_word (m := ⟨0, 0⟩) (meth := k0m0) (c := k0c0) (by decide +kernel) rfl rfl rfl (by decide +kernel)
set_option maxRecDepth 65536 in
theorem w_c4 : (Jvm.Cond.code ({ cls := "com/example/viral_counter/viralcounter/PostTrend", name := "isEmpty", desc := "()Z" } : Jvm.MethodName) prog_25_method_5_code (1 : Nat) (Option.some Jvm.ClassFile.FieldType.boolean)).before args0 about1 = true := code_word (m := ⟨2, 3⟩) (meth := k2m3) (c := k2c3) (by decide +kernel) rfl rfl rfl (by decide +kernel)
set_option maxRecDepth 65536 in
theorem w_c5 : (Jvm.Cond.code ({ cls := "com/example/viral_counter/viralcounter/PostTrend", name := "counted", desc := "(JIZ)V" } : Jvm.MethodName) prog_25_method_2_code (5 : Nat) (Option.none : Option Jvm.ClassFile.FieldType)).before args0 about1 = true := code_word (m := ⟨2, 1⟩) (meth := k2m1) (c := k2c1) (by decide +kernel) rfl rfl rfl (by decide +kernel)
set_option maxRecDepth 65536 in
theorem w_c6 : (Jvm.Cond.code ({ cls := "com/example/viral_counter/viralcounter/PostTrend", name := "makeRoom", desc := "()V" } : Jvm.MethodName) prog_25_method_8_code (2 : Nat) (Option.none : Option Jvm.ClassFile.FieldType)).before args0 about1 = true := code_word (m := ⟨2, 4⟩) (meth := k2m4) (c := k2c4) (by decide +kernel) rfl rfl rfl (by decide +kernel)
set_option maxRecDepth 65536 in
theorem w_c7 : (Jvm.Cond.code ({ cls := "java/util/Arrays", name := "copyOfRange", desc := "([JII)[J" } : Jvm.MethodName) jdk_65_method_138_code (3 : Nat) (Option.some (Jvm.ClassFile.FieldType.array Jvm.ClassFile.FieldType.long))).before args0 about1 = true := code_word (m := ⟨3, 4⟩) (meth := k3m4) (c := k3c4) (by decide +kernel) rfl rfl rfl (by decide +kernel)
set_option maxRecDepth 65536 in
theorem w_c8 : (Jvm.Cond.code ({ cls := "java/util/Arrays", name := "copyOfRangeLong", desc := "([JII)[J" } : Jvm.MethodName) jdk_65_method_139_code (5 : Nat) (Option.some (Jvm.ClassFile.FieldType.array Jvm.ClassFile.FieldType.long))).before args0 about1 = true := code_word (m := ⟨3, 5⟩) (meth := k3m5) (c := k3c5) (by decide +kernel) rfl rfl rfl (by decide +kernel)
set_option maxRecDepth 65536 in
theorem w_c9 : (Jvm.Cond.code ({ cls := "java/util/Arrays", name := "checkLength", desc := "(II)V" } : Jvm.MethodName) jdk_65_method_131_code (2 : Nat) (Option.none : Option Jvm.ClassFile.FieldType)).before args0 about1 = true := code_word (m := ⟨3, 1⟩) (meth := k3m1) (c := k3c1) (by decide +kernel) rfl rfl rfl (by decide +kernel)
set_option maxRecDepth 65536 in
theorem w_c10 : (Jvm.Cond.code ({ cls := "java/lang/Math", name := "min", desc := "(II)I" } : Jvm.MethodName) jdk_29_method_69_code (2 : Nat) (Option.some Jvm.ClassFile.FieldType.int)).before args0 about1 = true := code_word (m := ⟨4, 1⟩) (meth := k4m1) (c := k4c1) (by decide +kernel) rfl rfl rfl (by decide +kernel)
set_option maxRecDepth 65536 in
theorem w_c11 : (Jvm.Cond.code ({ cls := "java/util/Arrays", name := "copyOfRange", desc := "([III)[I" } : Jvm.MethodName) jdk_65_method_136_code (3 : Nat) (Option.some (Jvm.ClassFile.FieldType.array Jvm.ClassFile.FieldType.int))).before args0 about1 = true := code_word (m := ⟨3, 2⟩) (meth := k3m2) (c := k3c2) (by decide +kernel) rfl rfl rfl (by decide +kernel)
set_option maxRecDepth 65536 in
theorem w_c12 : (Jvm.Cond.code ({ cls := "java/util/Arrays", name := "copyOfRangeInt", desc := "([III)[I" } : Jvm.MethodName) jdk_65_method_137_code (5 : Nat) (Option.some (Jvm.ClassFile.FieldType.array Jvm.ClassFile.FieldType.int))).before args0 about1 = true := code_word (m := ⟨3, 3⟩) (meth := k3m3) (c := k3c3) (by decide +kernel) rfl rfl rfl (by decide +kernel)
set_option maxRecDepth 65536 in
theorem w_c13 : (Jvm.Cond.code ({ cls := "com/example/viral_counter/viralcounter/PostTrend", name := "forgetBefore", desc := "(J)V" } : Jvm.MethodName) prog_25_method_4_code (3 : Nat) (Option.none : Option Jvm.ClassFile.FieldType)).before args0 about1 = true := code_word (m := ⟨2, 2⟩) (meth := k2m2) (c := k2c2) (by decide +kernel) rfl rfl rfl (by decide +kernel)
def codes1 : List Jvm.Cond := [Jvm.Cond.code x code maxLocals ret, Jvm.Cond.code ({ cls := "com/example/viral_counter/viralcounter/PostTrendIsEmptyPinLaw", name := "after", desc := "(JI)J" } : Jvm.MethodName) method_2_code (5 : Nat) (Option.some Jvm.ClassFile.FieldType.long), Jvm.Cond.code ({ cls := "com/example/viral_counter/viralcounter/PostTrend", name := "<init>", desc := "()V" } : Jvm.MethodName) prog_25_method_1_code (1 : Nat) (Option.none : Option Jvm.ClassFile.FieldType), Jvm.Cond.code ({ cls := "java/lang/Object", name := "<init>", desc := "()V" } : Jvm.MethodName) object_method_1_code (1 : Nat) (Option.none : Option Jvm.ClassFile.FieldType), Jvm.Cond.code ({ cls := "com/example/viral_counter/viralcounter/PostTrend", name := "isEmpty", desc := "()Z" } : Jvm.MethodName) prog_25_method_5_code (1 : Nat) (Option.some Jvm.ClassFile.FieldType.boolean), Jvm.Cond.code ({ cls := "com/example/viral_counter/viralcounter/PostTrend", name := "counted", desc := "(JIZ)V" } : Jvm.MethodName) prog_25_method_2_code (5 : Nat) (Option.none : Option Jvm.ClassFile.FieldType), Jvm.Cond.code ({ cls := "com/example/viral_counter/viralcounter/PostTrend", name := "makeRoom", desc := "()V" } : Jvm.MethodName) prog_25_method_8_code (2 : Nat) (Option.none : Option Jvm.ClassFile.FieldType), Jvm.Cond.code ({ cls := "java/util/Arrays", name := "copyOfRange", desc := "([JII)[J" } : Jvm.MethodName) jdk_65_method_138_code (3 : Nat) (Option.some (Jvm.ClassFile.FieldType.array Jvm.ClassFile.FieldType.long)), Jvm.Cond.code ({ cls := "java/util/Arrays", name := "copyOfRangeLong", desc := "([JII)[J" } : Jvm.MethodName) jdk_65_method_139_code (5 : Nat) (Option.some (Jvm.ClassFile.FieldType.array Jvm.ClassFile.FieldType.long)), Jvm.Cond.code ({ cls := "java/util/Arrays", name := "checkLength", desc := "(II)V" } : Jvm.MethodName) jdk_65_method_131_code (2 : Nat) (Option.none : Option Jvm.ClassFile.FieldType), Jvm.Cond.code ({ cls := "java/lang/Math", name := "min", desc := "(II)I" } : Jvm.MethodName) jdk_29_method_69_code (2 : Nat) (Option.some Jvm.ClassFile.FieldType.int), Jvm.Cond.code ({ cls := "java/util/Arrays", name := "copyOfRange", desc := "([III)[I" } : Jvm.MethodName) jdk_65_method_136_code (3 : Nat) (Option.some (Jvm.ClassFile.FieldType.array Jvm.ClassFile.FieldType.int)), Jvm.Cond.code ({ cls := "java/util/Arrays", name := "copyOfRangeInt", desc := "([III)[I" } : Jvm.MethodName) jdk_65_method_137_code (5 : Nat) (Option.some (Jvm.ClassFile.FieldType.array Jvm.ClassFile.FieldType.int)), Jvm.Cond.code ({ cls := "com/example/viral_counter/viralcounter/PostTrend", name := "forgetBefore", desc := "(J)V" } : Jvm.MethodName) prog_25_method_4_code (3 : Nat) (Option.none : Option Jvm.ClassFile.FieldType)]
set_option maxRecDepth 65536 in
theorem codes_eq : words1.filter isCode = codes1 := rfl
theorem w_codes : ∀ c ∈ words1.filter isCode, c.before args0 about1 = true := by
  rw [codes_eq]
  intro c hc
  simp only [codes1, List.mem_cons, List.not_mem_nil, or_false] at hc
  rcases hc with rfl | rfl | rfl | rfl | rfl | rfl | rfl | rfl | rfl | rfl | rfl | rfl | rfl | rfl
  · exact w_c0
  · exact w_c1
  · exact w_c2
  · exact w_c3
  · exact w_c4
  · exact w_c5
  · exact w_c6
  · exact w_c7
  · exact w_c8
  · exact w_c9
  · exact w_c10
  · exact w_c11
  · exact w_c12
  · exact w_c13
set_option maxRecDepth 65536 in
theorem w_t1 : (words1.take 24).all (fun c => isCode c || c.before args0 about1) = true := by decide +kernel
set_option maxRecDepth 65536 in
theorem w_t2 : ((words1.drop 24).take 24).all (fun c => isCode c || c.before args0 about1) = true := by decide +kernel
set_option maxRecDepth 65536 in
theorem w_t3 : ((words1.drop 24).drop 24).all (fun c => isCode c || c.before args0 about1) = true := by decide +kernel
theorem w_tables : (allAtoms (Jvm.Cond.code x code maxLocals ret :: tables_1)).before args0 about1 = true := by
  rw [allAtoms_all]
  show words1.all (fun c => c.before args0 about1) = true
  refine all_split ?_ w_codes
  rw [← List.take_append_drop 24 words1, List.all_append, w_t1, ← List.take_append_drop 24 (words1.drop 24), List.all_append, w_t2, w_t3]
  rfl
set_option maxRecDepth 65536 in
theorem w_case : (Jvm.Cond.and given_1 narrow_1).before args0 about1 = true := by decide +kernel
theorem w_applies : (headSpec (Jvm.Cond.code x code maxLocals ret :: tables_1) room_1).applies x e0.platform about1 = true :=
  (Spec.applies_iff w_frames).mpr ⟨w_running, w_runnable, w_alone, w_named, w_hears, w_ripe, w_room, w_tables⟩
theorem atStart : AtStart classFile x code maxLocals ret World_1 tables_1 room_1 Calls_1 rest_1 Pre_1 launch0 p0 e0 about1 theMethod args0 below0 :=
  ⟨lists_1, trivial, launch0.admits_env _ _ _, launch0.least_env, fairChoices_fair.cas, fairChoices_fair.clock, w_frames, w_args, w_heap, w_applies, trivial, trivial, w_case⟩
end start1
theorem witness_1 : WitnessClaimed_1 := ⟨start1.p0, start1.e0, start1.about1, start1.theMethod, start1.args0, start1.below0, start1.atStart⟩
end Jvm.Pilot.@@N@@
